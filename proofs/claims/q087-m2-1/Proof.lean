import JvmDerived
import JvmDerived.Pilot.@@N@@Statement
import JvmDerived.Pilot.@@N@@Code
set_option linter.unusedVariables false
set_option linter.unusedSimpArgs false
@@BLOCK:NumsL.lean.txt@@
namespace Jvm.RoadKit
open Sem ClassFile Op Lib Jvm.Stand Jvm.Free Jvm.LawKit
section New
variable {p : Program} {l : Launch} {e : Env} {R : Room} {s : State} {m : MethodId} {args : Array Value} {below : List Frame} {meth : Method} {c : Code} {T : State} {locs : List Loc} {cells slots : Nat}
theorem retI (X : Stand p l e R s m args below meth c T locs cells slots) (hx : p.tables.exec = Jvm.exec) {pc : Nat} {Ls : Array Slot} {z : Int32} {rest : List Value} (hret : meth.sig.returnType = some .int) (hd : decode c.code pc = .ok (.ireturn, 1)) {fs : List Frame}
    (hl : ∀ (f : JFrame) (acts : List Action), f.method = m → f.locked = none → f.entered = [] → (doReturn e (T.setTop f) acts (some (.int z))).1 = T.setFrames fs) : Steps p.tables e below (T.setTop (mkF m pc Ls (.int z :: rest))) (T.setFrames fs) := by
  have hm' : T.vm.method? m = some meth := X.method'
  have hn : narrow .int (.int z) = .int z := rfl
  show Steps p.tables e below (T.setTop { method := m, pc := pc, locals := Ls, stack := _ :: rest, locked := none }) _
  jvm_step X.here [X.here.top, hx, hd, hm', hret, hn]
  first | (intro acts; rw [hl _ acts rfl rfl rfl]) | rw [hl _ _ rfl rfl rfl]
  exact Steps.refl _
end New
end Jvm.RoadKit
namespace Jvm.Pilot.@@N@@
open Jvm Jvm.ClassFile Sem Op Lib Jvm.Free Jvm.Stand Jvm.LawKit Jvm.RoadKit Bundle Jvm.Pilot.@@N@@.Jvm.D
theorem Wd {Z : State} {a0 : Array Value} {d : Jvm.Cond} (hw : ∀ d ∈ tables_1, d.before a0 Z = true) (i : Nat) (h : tables_1[i]? = some d) : d.before a0 Z = true := hw _ (List.mem_of_getElem? h)
theorem own_sz {Z : State} {n0 : Nat} {h : Heap} (O : Old Z n0 h) : n0 ≤ h.size := O.1 ▸ O.2.1
theorem own_neArv {Z : State} {h : Heap} {a b : Addr} {k k' : ClassId} {ty ty' : FieldType} {z z' : Int32} {vs vs' : List Value} {d d' : Value} (F : Arv Z h a k ty z vs d) (G : Arv Z h b k' ty' z' vs' d') (hn : ty ≠ ty') : a ≠ b := fun q => by
  subst q
  obtain ⟨c1, ⟨e1, ⟨-, k1, hk1, cp1, hd1⟩, -⟩, -⟩ := F
  obtain ⟨c2, ⟨e2, ⟨-, k2, hk2, cp2, hd2⟩, -⟩, -⟩ := G
  cases e1.symm.trans e2
  cases hk1.symm.trans hk2
  rw [hd1] at hd2
  injection hd2 with _ h2
  exact hn h2
theorem own_fi {args : Array Value} {s : State} {t : Term} {a : Addr} {C n d : String} {k : Int32} (ht : t.eval args s none [] s = some (.ref a)) (h : (Jvm.Cond.eq (Jvm.Term.field t C n d) (Jvm.Term.int k)).value args s none s [] = some true) : s.fieldOf? a C n d = some (.int k) := by
  have e := fld_at (C := C) (n := n) (dd := d) ht
  obtain ⟨v, w, h1, h2, h3, h4⟩ := cmp_v (Or.inl h)
  cases (Term.int_eval k).symm.trans h2
  obtain ⟨z, rfl⟩ := h4
  rw [← e, h1]
  simp only [Cond.value, h1, Term.int_eval] at h
  simpa using h
theorem own_len {args : Array Value} {s : State} {t : Term} {a : Addr} {cl : Cell} {ty : FieldType} {z : Int32} (A : Arr s s.heap a cl ty) (ev : t.eval args s none [] s = some (.ref a)) (h : (Jvm.Cond.eq (Jvm.Term.length t) (Jvm.Term.int z)).value args s none s [] = some true) : cl.slots.size < 2 ^ 31 ∧ cl.slots.size.toInt32 = z := by
  have e := Cond.eq_int (beq_iff_eq.mpr h) (Term.int_eval z)
  have hA : s.arrayAt? a = some cl := IntBox.arrayAt_of A.1 A.2.1 A.2.2
  by_cases q : cl.slots.size < 2 ^ 31
  · refine ⟨q, ?_⟩
    have r := len_f ev hA q
    rw [r] at e
    injection e with e
    injection e
  · exfalso
    simp [Term.eval, ev, hA] at e
    omega
theorem own_eli {args : Array Value} {s : State} {t : Term} {a : Addr} {cl : Cell} {j k : Int32} (hc : s.heap[a]? = some cl) (ev : t.eval args s none [] s = some (.ref a)) (h : (Jvm.Cond.eq (Jvm.Term.elem t (Jvm.Term.int j)) (Jvm.Term.int k)).value args s none s [] = some true) : cl.slots[j.toNatClampNeg]? = some (.int k) :=
  (elem_in (Cond.eq_int (beq_iff_eq.mpr h) (Term.int_eval k)) ev (Term.int_eval j) hc).2
theorem own_elr {args : Array Value} {s : State} {t u : Term} {a b : Addr} {cl : Cell} {j : Int32} (hc : s.heap[a]? = some cl) (ev : t.eval args s none [] s = some (.ref a)) (eu : u.eval args s none [] s = some (.ref b)) (h : (Jvm.Cond.eq (Jvm.Term.elem t (Jvm.Term.int j)) u).value args s none s [] = some true) : cl.slots[j.toNatClampNeg]? = some (.ref b) := by
  obtain ⟨v, w, h1, h2, h3, h4⟩ := cmp_v (Or.inl h)
  cases eu.symm.trans h2
  have hv : v = .ref b := gotT (eq_R h1 h2 h4.2 rfl) h
  rw [hv] at h1
  exact (elem_in h1 ev (Term.int_eval j) hc).2
theorem own_b2 (x : Int32) : (x.toInt8.toInt32).toInt8.toInt32 = x.toInt8.toInt32 := by
  have h : x.toInt8.toInt32.toInt8 = x.toInt8 := by
    apply Int8.toInt_inj.mp
    rw [Int32.toInt_toInt8, Int8.toInt_toInt32]
    have h2 := x.toInt8.toInt_lt; have h3 := x.toInt8.le_toInt
    rw [Int.bmod_eq_of_le] <;> omega
  rw [h]
theorem own_nari2c (x : Int32) : nar .char (x.toUInt32.toUInt16.toUInt32.toInt32) = x.toUInt32.toUInt16.toUInt32.toInt32 := by
  show (x.toUInt32.toUInt16.toUInt32.toInt32).toUInt32.toUInt16.toUInt32.toInt32 = _
  rw [UInt32.toUInt32_toInt32, UInt16.toUInt16_toUInt32]
theorem own_nar255 (x : Int32) : nar .char (x &&& (255 : Int32)) = x &&& (255 : Int32) := i2c_mask x
theorem own_and255 (x : Int32) : ¬ ((255 : Int32) < x &&& (255 : Int32)) ∧ ¬ (x &&& (255 : Int32) < (0 : Int32)) := by
  have e := Jvm.Kit.i32_mask x 255 (k := 8) (by decide) (by decide)
  have h1 := Int.emod_nonneg x.toInt (show (2 : Int) ^ 8 ≠ 0 by decide)
  have h2 := Int.emod_lt_of_pos x.toInt (show (0 : Int) < 2 ^ 8 by decide)
  have e1 : (255 : Int32).toInt = 255 := rfl
  have e0 : (0 : Int32).toInt = 0 := rfl
  constructor <;> rw [Int32.lt_iff_toInt_lt] <;> omega
def EL1 : List (String × Nat) := [("java/lang/String", 7)]
theorem own_EW {Z : State} {a0 : Array Value} (hw : ∀ d ∈ tables_1, d.before a0 Z = true) : EW Z a0 EL1 := (EW.cons (Wd hw 14 rfl) (by decide) EW.nil)
theorem own_wS {Z : State} {a0 : Array Value} (hw : ∀ d ∈ tables_1, d.before a0 Z = true) : ∀ a ∈ Bundle.stringAtoms, a.before a0 Z = true := fun d hd => by
  simp only [Bundle.stringAtoms, List.mem_cons, List.not_mem_nil, or_false] at hd
  rcases hd with rfl | rfl | rfl | rfl | rfl | rfl | rfl
  · exact (Wd hw 3 rfl)
  · exact (Wd hw 2 rfl)
  · exact (Wd hw 15 rfl)
  · exact (Wd hw 16 rfl)
  · exact (Wd hw 17 rfl)
  · exact (Wd hw 18 rfl)
  · exact (Wd hw 19 rfl)
theorem own_safeS {Z : State} {EL : List (String × Nat)} {vm : Vm} {h : Heap} {a : Addr} (hal : Z.vm.Alike vm) (H : CHv Z EL vm h) (F : Fld Z h a "java/lang/String" "value" "[B" .null) (E : Exa Z h a "java/lang/String") : Safe Z EL vm h a := fun ⟨p, hp, u, a', hb, q, hq, S, hy⟩ => by
  obtain ⟨cS, ⟨⟨s1, s2, s3, ⟨cv, kv, iv, s4, s4'⟩, -, s6, -, s8, -, s10, s11, -⟩, hfS, hcS⟩, ⟨kS, k1, k2, k3⟩, -⟩ := S
  obtain ⟨cell, cf, k, i, f, f1, f2, f3, f4, f5, f6, f7⟩ := F
  rcases hy with rfl | rfl
  · cases s1.symm.trans f1
    obtain ⟨kv', z4⟩ := ff_back (U := Wst Z vm h) hal s4
    cases z4.symm.trans f2
    cases s8.symm.trans f7
  · obtain ⟨c2, k2', e1, e2, e3, e4, e5⟩ := E
    cases s10.symm.trans e1
    obtain ⟨hst, k9, hk9, comp, hkind9⟩ := s11
    obtain ⟨kz', hkz', ekz⟩ := hal.2.2 _ _ e3
    have h9 : k9 = kz' := Option.some.inj (hk9.symm.trans hkz')
    have hfS' : vm.findClass "java/lang/String" = some cS := hfS
    rw [hal.findClass] at hfS'
    have hc : q.SA.cls = cS := Option.some.inj (e2.symm.trans hfS')
    have h8 : kz' = kS := Option.some.inj (hkz'.symm.trans (hc ▸ k1))
    rw [h9, h8, k2] at hkind9
    cases hkind9
def GF (Z : State) (cS : Int32) (aRS : Addr) (aEM : Addr) (aUS : Addr) (aSS : Addr) : Prop := Sta Z Z.heap "java/lang/String" "COMPACT_STRINGS" "Z" (.int cS) ∧ ¬ (cS = (0 : Int32)) ∧ Sta Z Z.heap "com/example/metaloom/metaloom/store/Rejection$Reason" "CONFLICT" "Lcom/example/metaloom/metaloom/store/Rejection$Reason;" (.ref aRS) ∧ Sta Z Z.heap "java/util/OptionalInt" "EMPTY" "Ljava/util/OptionalInt;" (.ref aEM) ∧ Exa Z Z.heap aEM "java/util/OptionalInt" ∧ Fld Z Z.heap aEM "java/util/OptionalInt" "isPresent" "Z" (.int (0 : Int32)) ∧ Sta Z Z.heap "java/lang/Throwable" "UNASSIGNED_STACK" "[Ljava/lang/StackTraceElement;" (.ref aUS) ∧ Sta Z Z.heap "java/lang/Throwable" "SUPPRESSED_SENTINEL" "Ljava/util/List;" (.ref aSS)
theorem d17_0 : decode jdk_52_method_21_code 0 = .ok (.iconst 0, 1) := by decide +kernel
theorem d17_1 : decode jdk_52_method_21_code 1 = .ok (.istore 5, 2) := by decide +kernel
theorem d17_3 : decode jdk_52_method_21_code 3 = .ok (.iload 5, 2) := by decide +kernel
theorem d17_5 : decode jdk_52_method_21_code 5 = .ok (.iload 4, 2) := by decide +kernel
theorem d17_7 : decode jdk_52_method_21_code 7 = .ok (.if_icmp .ge 37, 3) := by decide +kernel
theorem d17_10 : decode jdk_52_method_21_code 10 = .ok (.aload_n 0, 1) := by decide +kernel
theorem d17_11 : decode jdk_52_method_21_code 11 = .ok (.iload_n 1, 1) := by decide +kernel
theorem d17_12 : decode jdk_52_method_21_code 12 = .ok (.caload, 1) := by decide +kernel
theorem d17_13 : decode jdk_52_method_21_code 13 = .ok (.istore 6, 2) := by decide +kernel
theorem d17_15 : decode jdk_52_method_21_code 15 = .ok (.iload 6, 2) := by decide +kernel
theorem d17_17 : decode jdk_52_method_21_code 17 = .ok (.sipush 255, 3) := by decide +kernel
theorem d17_20 : decode jdk_52_method_21_code 20 = .ok (.if_icmp .le 6, 3) := by decide +kernel
theorem d17_26 : decode jdk_52_method_21_code 26 = .ok (.aload_n 2, 1) := by decide +kernel
theorem d17_27 : decode jdk_52_method_21_code 27 = .ok (.iload_n 3, 1) := by decide +kernel
theorem d17_28 : decode jdk_52_method_21_code 28 = .ok (.iload 6, 2) := by decide +kernel
theorem d17_30 : decode jdk_52_method_21_code 30 = .ok (.i2b, 1) := by decide +kernel
theorem d17_31 : decode jdk_52_method_21_code 31 = .ok (.bastore, 1) := by decide +kernel
theorem d17_32 : decode jdk_52_method_21_code 32 = .ok (.iinc 1 1, 3) := by decide +kernel
theorem d17_35 : decode jdk_52_method_21_code 35 = .ok (.iinc 3 1, 3) := by decide +kernel
theorem d17_38 : decode jdk_52_method_21_code 38 = .ok (.iinc 5 1, 3) := by decide +kernel
theorem d17_41 : decode jdk_52_method_21_code 41 = .ok (.goto (-38), 3) := by decide +kernel
theorem d17_44 : decode jdk_52_method_21_code 44 = .ok (.iload 4, 2) := by decide +kernel
theorem d17_46 : decode jdk_52_method_21_code 46 = .ok (.ireturn, 1) := by decide +kernel
theorem pn : plainName "java/lang/StringUTF16" = true := by first | (simp [plainName, overriddenIn]; done) | decide +kernel
abbrev MN_0 : MethodName := ⟨"java/lang/StringUTF16", "compress", "([CI[BII)I"⟩
theorem ef_rmC2_1 (m : MethodId) (a0c : Addr) (a2b : Addr) : entryFrame m #[(.ref a0c), (.int (0 : Int32)), (.ref a2b), (.int (0 : Int32)), (.int (1 : Int32))] 7 = mkF m 0 #[.val (.ref a0c), .val (.int (0 : Int32)), .val (.ref a2b), .val (.int (0 : Int32)), .val (.int (1 : Int32)), .unset, .unset] [] := by first | (simp [entryFrame, mkF, argsToLocals, Value.category]; done) | rfl
def Q_rmC2_1 (n0 : Nat) (Z : State) (cS : Int32) (aRS : Addr) (aEM : Addr) (aUS : Addr) (aSS : Addr) (a0c : Addr) (a2b : Addr) (k0 : ClassId) (k2 : ClassId) (c0 : Int32) (h0 : Heap) (v : Option Value) (h : Heap) (L : List Loc) : Prop := v = some (.int (1 : Int32)) ∧ Fr n0 L ∧ Keep h0 h [a2b] ∧ (Arv Z h a2b k2 .byte (1 : Int32) [(.int (c0.toInt8.toInt32))] (.int (0 : Int32)))
set_option maxRecDepth 65536 in
set_option maxHeartbeats 40000000 in
theorem rmC2_1 (l : Launch) (Z : State) (a0 : Array Value) (hw : ∀ d ∈ tables_1, d.before a0 Z = true) (ws : List Jvm.Cond) (cS : Int32) (aRS : Addr) (aEM : Addr) (aUS : Addr) (aSS : Addr) (a0c : Addr) (a2b : Addr) (k0 : ClassId) (k2 : ClassId) (c0 : Int32) (h0 : Heap) (n0 : Nat) (O0 : Old Z n0 h0) (GL : GF Z cS aRS aEM aUS aSS) (V_a0c : Arv Z h0 a0c k0 .char (1 : Int32) [(.int c0)] (.int (0 : Int32))) (V_a2b : Arv Z h0 a2b k2 .byte (1 : Int32) [(.int (0 : Int32))] (.int (0 : Int32))) (g_a2b : n0 ≤ a2b) (hc0 : ¬ ((255 : Int32) < c0)) :
    MetFree l MN_0 (head1 (Jvm.Cond.code MN_0 jdk_52_method_21_code 7 (some .int) :: ws) ({ frames := 0, cells := 0, slots := 0, locals := 0 } : Room)) (fun a U => a = #[(.ref a0c), (.int (0 : Int32)), (.ref a2b), (.int (0 : Int32)), (.int (1 : Int32))] ∧ Z.Warmed39 U.vm ∧ U.heap = h0) (fun _ _ _ _ _ => True) (fun _ U o U' => ∃ v L, o = .returned v ∧ Q_rmC2_1 n0 Z cS aRS aEM aUS aSS a0c a2b k0 k2 c0 h0 v U'.heap L ∧ FrameEnd U o U' L ({ frames := 0, cells := 0, slots := 0, locals := 0 } : Room).cells ({ frames := 0, cells := 0, slots := 0, locals := 0 } : Room).slots) := by
  refine MetFree.of_bodySF (plainFor_of_name pn) hisR ?_
  intro p e s m args below meth c s₁ Bd hml0 hP hK
  obtain ⟨rfl, hZ, hh⟩ := hP
  have hx := Bd.exec
  have hby := Bd.bytes
  have hml : c.maxLocals = 7 := hml0
  have hown : s.vm.findClass "java/lang/StringUTF16" = some m.cls := findClass_of_methodNamed Bd.named
  have hnm := (name_of_methodNamed Bd.named Bd.method).1
  have X0 : Stand p l e ({ frames := 0, cells := 0, slots := 0, locals := 0 } : Room) s m #[(.ref a0c), (.int (0 : Int32)), (.ref a2b), (.int (0 : Int32)), (.int (1 : Int32))] below meth c s₁ [] 0 0 := Stand.of_body Bd
  have e0 : s₁.heap = h0 := by rw [← hh, Bd.state]; rfl
  have N0 := Fr.nil n0
  have pre0 : ∀ t, Steps p.tables e below (s₁.setTop (mkF m 0 #[.val (.ref a0c), .val (.int (0 : Int32)), .val (.ref a2b), .val (.int (0 : Int32)), .val (.int (1 : Int32)), .unset, .unset] [])) t → Steps p.tables e below (s₁.setTop (entryFrame m #[(.ref a0c), (.int (0 : Int32)), (.ref a2b), (.int (0 : Int32)), (.int (1 : Int32))] 7)) t := fun t k => castTop (ef_rmC2_1 m a0c a2b) k
  have GL' := GL
  obtain ⟨GCS, GCP, GSR, GSE, GEE, GFE, GSU, GSS⟩ := GL'
  obtain ⟨cl1, Ar1, -, S1, N1_, H1, G1⟩ := id (V_a0c)
  have hin1 : ¬ ((0 : Int32) < 0 ∨ cl1.slots.size ≤ ((0 : Int32)).toNatClampNeg) := inb_of S1 ⟨(by decide), (by decide)⟩
  have hat1 : cl1.slots[((0 : Int32)).toNatClampNeg]? = some (.int c0) := H1.at hin1 rfl
  obtain ⟨cl2, Ar2, q2, S2, N2_, H2, G2⟩ := id (V_a2b)
  have hin2 : ¬ ((0 : Int32) < 0 ∨ cl2.slots.size ≤ ((0 : Int32)).toNatClampNeg) := inb_of S2 ⟨(by decide), (by decide)⟩
  obtain ⟨T2, h2, X2, e2, W2, st2⟩ := stB X0 hx hZ e0 Ar2 (j := (0 : Int32)) hin2 (g := (mkF m 31 #[.val (.ref a0c), .val (.int (0 : Int32)), .val (.ref a2b), .val (.int (0 : Int32)), .val (.int (1 : Int32)), .val (.int (0 : Int32)), .val (.int c0)] [(.int (c0.toInt8.toInt32)), (.int (0 : Int32)), (.ref a2b)])) rfl rfl (hb hby d17_31)
  have K2 : Keep h0 h2 [a2b] := (Keep.refl h0 [a2b]).wr W2 (Or.inl (List.mem_of_getElem? (i := 0) rfl))
  have O2 := O0.wr W2 g_a2b
  have N2 := Fr.snoc X2 N0 g_a2b
  have V2' : Arv Z h2 a2b k2 .byte (1 : Int32) [(.int ((c0.toInt8.toInt32)).toInt8.toInt32)] (.int (0 : Int32)) := Arv.set Ar2 q2 S2 N2_ H2 G2 (fits_nar_byte _) W2 0 rfl (Nat.le_of_ble_eq_true rfl)
  have V2 : Arv Z h2 a2b k2 .byte (1 : Int32) [(.int (c0.toInt8.toInt32))] (.int (0 : Int32)) := by
    rw [own_b2 c0] at V2'
    exact V2'
  obtain ⟨fs, hr, hrun, hended, hW, hsame⟩ := X2.leave (v := some (.int (1 : Int32))) (fun h => by rw [Bd.returns] at h; cases h)
  refine ⟨_, _, pre0 _ ?_, hrun, hended, _, _, rfl, ?_, ⟨_, rfl⟩, hW, hsame.mono (by decide) (by decide)⟩
  · show Steps p.tables e below (s₁.setTop (mkF m 0 #[.val (.ref a0c), .val (.int (0 : Int32)), .val (.ref a2b), .val (.int (0 : Int32)), .val (.int (1 : Int32)), .unset, .unset] [])) _
    refine XS.iconst X0.here hx rfl (hb hby d17_0) ?_
    show Steps p.tables e below (s₁.setTop (mkF m 1 #[.val (.ref a0c), .val (.int (0 : Int32)), .val (.ref a2b), .val (.int (0 : Int32)), .val (.int (1 : Int32)), .unset, .unset] [(.int (0 : Int32))])) _
    refine XS.istore X0.here hx rfl (hb hby d17_1) rfl (l' := #[.val (.ref a0c), .val (.int (0 : Int32)), .val (.ref a2b), .val (.int (0 : Int32)), .val (.int (1 : Int32)), .val (.int (0 : Int32)), .unset]) rfl ?_
    show Steps p.tables e below (s₁.setTop (mkF m 3 #[.val (.ref a0c), .val (.int (0 : Int32)), .val (.ref a2b), .val (.int (0 : Int32)), .val (.int (1 : Int32)), .val (.int (0 : Int32)), .unset] [])) _
    refine XS.iload X0.here hx rfl (hb hby d17_3) rfl ?_
    show Steps p.tables e below (s₁.setTop (mkF m 5 #[.val (.ref a0c), .val (.int (0 : Int32)), .val (.ref a2b), .val (.int (0 : Int32)), .val (.int (1 : Int32)), .val (.int (0 : Int32)), .unset] [(.int (0 : Int32))])) _
    refine XS.iload X0.here hx rfl (hb hby d17_5) rfl ?_
    show Steps p.tables e below (s₁.setTop (mkF m 7 #[.val (.ref a0c), .val (.int (0 : Int32)), .val (.ref a2b), .val (.int (0 : Int32)), .val (.int (1 : Int32)), .val (.int (0 : Int32)), .unset] [(.int (1 : Int32)), (.int (0 : Int32))])) _
    refine XS.icmpNo X0.here hx rfl (hb hby d17_7) rfl (tlt (by decide : (0 : Int32) < (1 : Int32))).2.1 ?_
    show Steps p.tables e below (s₁.setTop (mkF m 10 #[.val (.ref a0c), .val (.int (0 : Int32)), .val (.ref a2b), .val (.int (0 : Int32)), .val (.int (1 : Int32)), .val (.int (0 : Int32)), .unset] [])) _
    refine XS.aloadN X0.here hx rfl (hb hby d17_10) rfl rfl ?_
    show Steps p.tables e below (s₁.setTop (mkF m 11 #[.val (.ref a0c), .val (.int (0 : Int32)), .val (.ref a2b), .val (.int (0 : Int32)), .val (.int (1 : Int32)), .val (.int (0 : Int32)), .unset] [(.ref a0c)])) _
    refine XS.iloadN X0.here hx rfl (hb hby d17_11) rfl ?_
    show Steps p.tables e below (s₁.setTop (mkF m 12 #[.val (.ref a0c), .val (.int (0 : Int32)), .val (.ref a2b), .val (.int (0 : Int32)), .val (.int (1 : Int32)), .val (.int (0 : Int32)), .unset] [(.int (0 : Int32)), (.ref a0c)])) _
    refine X0.caload hx (j := (0 : Int32)) (v := (.int c0)) (by rw [e0]; exact Ar1.1) (State.isArrayOf_alike hZ.alike Ar1.2.1) Ar1.2.2 hin1 hat1 (g := (mkF m 12 #[.val (.ref a0c), .val (.int (0 : Int32)), .val (.ref a2b), .val (.int (0 : Int32)), .val (.int (1 : Int32)), .val (.int (0 : Int32)), .unset] [(.int (0 : Int32)), (.ref a0c)])) rfl rfl (hb hby d17_12) _ ?_
    show Steps p.tables e below (s₁.setTop (mkF m 13 #[.val (.ref a0c), .val (.int (0 : Int32)), .val (.ref a2b), .val (.int (0 : Int32)), .val (.int (1 : Int32)), .val (.int (0 : Int32)), .unset] [(.int c0)])) _
    refine XS.istore X0.here hx rfl (hb hby d17_13) rfl (l' := #[.val (.ref a0c), .val (.int (0 : Int32)), .val (.ref a2b), .val (.int (0 : Int32)), .val (.int (1 : Int32)), .val (.int (0 : Int32)), .val (.int c0)]) rfl ?_
    show Steps p.tables e below (s₁.setTop (mkF m 15 #[.val (.ref a0c), .val (.int (0 : Int32)), .val (.ref a2b), .val (.int (0 : Int32)), .val (.int (1 : Int32)), .val (.int (0 : Int32)), .val (.int c0)] [])) _
    refine XS.iload X0.here hx rfl (hb hby d17_15) rfl ?_
    show Steps p.tables e below (s₁.setTop (mkF m 17 #[.val (.ref a0c), .val (.int (0 : Int32)), .val (.ref a2b), .val (.int (0 : Int32)), .val (.int (1 : Int32)), .val (.int (0 : Int32)), .val (.int c0)] [(.int c0)])) _
    refine XS.sipush X0.here hx rfl (hb hby d17_17) ?_
    show Steps p.tables e below (s₁.setTop (mkF m 20 #[.val (.ref a0c), .val (.int (0 : Int32)), .val (.ref a2b), .val (.int (0 : Int32)), .val (.int (1 : Int32)), .val (.int (0 : Int32)), .val (.int c0)] [(.int (255 : Int32)), (.int c0)])) _
    refine XS.icmpYes X0.here hx rfl (pc0 := 20) (pc' := 26) rfl (hb hby d17_20) rfl (flt hc0).2.2.2 (by decide) (by decide) ?_
    show Steps p.tables e below (s₁.setTop (mkF m 26 #[.val (.ref a0c), .val (.int (0 : Int32)), .val (.ref a2b), .val (.int (0 : Int32)), .val (.int (1 : Int32)), .val (.int (0 : Int32)), .val (.int c0)] [])) _
    refine XS.aloadN X0.here hx rfl (hb hby d17_26) rfl rfl ?_
    show Steps p.tables e below (s₁.setTop (mkF m 27 #[.val (.ref a0c), .val (.int (0 : Int32)), .val (.ref a2b), .val (.int (0 : Int32)), .val (.int (1 : Int32)), .val (.int (0 : Int32)), .val (.int c0)] [(.ref a2b)])) _
    refine XS.iloadN X0.here hx rfl (hb hby d17_27) rfl ?_
    show Steps p.tables e below (s₁.setTop (mkF m 28 #[.val (.ref a0c), .val (.int (0 : Int32)), .val (.ref a2b), .val (.int (0 : Int32)), .val (.int (1 : Int32)), .val (.int (0 : Int32)), .val (.int c0)] [(.int (0 : Int32)), (.ref a2b)])) _
    refine XS.iload X0.here hx rfl (hb hby d17_28) rfl ?_
    show Steps p.tables e below (s₁.setTop (mkF m 30 #[.val (.ref a0c), .val (.int (0 : Int32)), .val (.ref a2b), .val (.int (0 : Int32)), .val (.int (1 : Int32)), .val (.int (0 : Int32)), .val (.int c0)] [(.int c0), (.int (0 : Int32)), (.ref a2b)])) _
    refine XS.i2b X0.here hx rfl (hb hby d17_30) rfl ?_
    show Steps p.tables e below (s₁.setTop (mkF m 31 #[.val (.ref a0c), .val (.int (0 : Int32)), .val (.ref a2b), .val (.int (0 : Int32)), .val (.int (1 : Int32)), .val (.int (0 : Int32)), .val (.int c0)] [(.int (c0.toInt8.toInt32)), (.int (0 : Int32)), (.ref a2b)])) _
    refine st2 _ ?_
    show Steps p.tables e below (T2.setTop (mkF m 32 #[.val (.ref a0c), .val (.int (0 : Int32)), .val (.ref a2b), .val (.int (0 : Int32)), .val (.int (1 : Int32)), .val (.int (0 : Int32)), .val (.int c0)] [])) _
    refine XS.iinc X2.here hx rfl (hb hby d17_32) rfl (l' := #[.val (.ref a0c), .val (.int (1 : Int32)), .val (.ref a2b), .val (.int (0 : Int32)), .val (.int (1 : Int32)), .val (.int (0 : Int32)), .val (.int c0)]) rfl ?_
    show Steps p.tables e below (T2.setTop (mkF m 35 #[.val (.ref a0c), .val (.int (1 : Int32)), .val (.ref a2b), .val (.int (0 : Int32)), .val (.int (1 : Int32)), .val (.int (0 : Int32)), .val (.int c0)] [])) _
    refine XS.iinc X2.here hx rfl (hb hby d17_35) rfl (l' := #[.val (.ref a0c), .val (.int (1 : Int32)), .val (.ref a2b), .val (.int (1 : Int32)), .val (.int (1 : Int32)), .val (.int (0 : Int32)), .val (.int c0)]) rfl ?_
    show Steps p.tables e below (T2.setTop (mkF m 38 #[.val (.ref a0c), .val (.int (1 : Int32)), .val (.ref a2b), .val (.int (1 : Int32)), .val (.int (1 : Int32)), .val (.int (0 : Int32)), .val (.int c0)] [])) _
    refine XS.iinc X2.here hx rfl (hb hby d17_38) rfl (l' := #[.val (.ref a0c), .val (.int (1 : Int32)), .val (.ref a2b), .val (.int (1 : Int32)), .val (.int (1 : Int32)), .val (.int (1 : Int32)), .val (.int c0)]) rfl ?_
    show Steps p.tables e below (T2.setTop (mkF m 41 #[.val (.ref a0c), .val (.int (1 : Int32)), .val (.ref a2b), .val (.int (1 : Int32)), .val (.int (1 : Int32)), .val (.int (1 : Int32)), .val (.int c0)] [])) _
    refine XS.goto X2.here hx rfl (pc0 := 41) (pc' := 3) rfl (hb hby d17_41) (by decide) (by decide) ?_
    show Steps p.tables e below (T2.setTop (mkF m 3 #[.val (.ref a0c), .val (.int (1 : Int32)), .val (.ref a2b), .val (.int (1 : Int32)), .val (.int (1 : Int32)), .val (.int (1 : Int32)), .val (.int c0)] [])) _
    refine XS.iload X2.here hx rfl (hb hby d17_3) rfl ?_
    show Steps p.tables e below (T2.setTop (mkF m 5 #[.val (.ref a0c), .val (.int (1 : Int32)), .val (.ref a2b), .val (.int (1 : Int32)), .val (.int (1 : Int32)), .val (.int (1 : Int32)), .val (.int c0)] [(.int (1 : Int32))])) _
    refine XS.iload X2.here hx rfl (hb hby d17_5) rfl ?_
    show Steps p.tables e below (T2.setTop (mkF m 7 #[.val (.ref a0c), .val (.int (1 : Int32)), .val (.ref a2b), .val (.int (1 : Int32)), .val (.int (1 : Int32)), .val (.int (1 : Int32)), .val (.int c0)] [(.int (1 : Int32)), (.int (1 : Int32))])) _
    refine XS.icmpYes X2.here hx rfl (pc0 := 7) (pc' := 44) rfl (hb hby d17_7) rfl (flt (by decide : ¬ ((1 : Int32) < (1 : Int32)))).2.1 (by decide) (by decide) ?_
    show Steps p.tables e below (T2.setTop (mkF m 44 #[.val (.ref a0c), .val (.int (1 : Int32)), .val (.ref a2b), .val (.int (1 : Int32)), .val (.int (1 : Int32)), .val (.int (1 : Int32)), .val (.int c0)] [])) _
    refine XS.iload X2.here hx rfl (hb hby d17_44) rfl ?_
    show Steps p.tables e below (T2.setTop (mkF m 46 #[.val (.ref a0c), .val (.int (1 : Int32)), .val (.ref a2b), .val (.int (1 : Int32)), .val (.int (1 : Int32)), .val (.int (1 : Int32)), .val (.int c0)] [(.int (1 : Int32))])) _
    exact retI X2 hx Bd.returns (hb hby d17_46) hr
  · show Q_rmC2_1 n0 Z cS aRS aEM aUS aSS a0c a2b k0 k2 c0 h0 _ T2.heap _
    rw [e2]
    exact ⟨rfl, N2, K2, V2⟩
theorem d16_0 : decode jdk_52_method_16_code 0 = .ok (.iload_n 2, 1) := by decide +kernel
theorem d16_1 : decode jdk_52_method_16_code 1 = .ok (.newarray .byte, 2) := by decide +kernel
theorem d16_3 : decode jdk_52_method_16_code 3 = .ok (.astore_n 3, 1) := by decide +kernel
theorem d16_4 : decode jdk_52_method_16_code 4 = .ok (.aload_n 0, 1) := by decide +kernel
theorem d16_5 : decode jdk_52_method_16_code 5 = .ok (.iload_n 1, 1) := by decide +kernel
theorem d16_6 : decode jdk_52_method_16_code 6 = .ok (.aload_n 3, 1) := by decide +kernel
theorem d16_7 : decode jdk_52_method_16_code 7 = .ok (.iconst 0, 1) := by decide +kernel
theorem d16_8 : decode jdk_52_method_16_code 8 = .ok (.iload_n 2, 1) := by decide +kernel
theorem d16_9 : decode jdk_52_method_16_code 9 = .ok (.invokestatic 115, 3) := by decide +kernel
theorem pd : parseMethodDescriptor "([CI[BII)I" = some ⟨[(.array .char), .int, (.array .byte), .int, .int], some .int⟩ := by decide +kernel
theorem d16_12 : decode jdk_52_method_16_code 12 = .ok (.istore 4, 2) := by decide +kernel
theorem d16_14 : decode jdk_52_method_16_code 14 = .ok (.iload 4, 2) := by decide +kernel
theorem d16_16 : decode jdk_52_method_16_code 16 = .ok (.iload_n 2, 1) := by decide +kernel
theorem d16_17 : decode jdk_52_method_16_code 17 = .ok (.if_icmp .eq 40, 3) := by decide +kernel
theorem d16_57 : decode jdk_52_method_16_code 57 = .ok (.aload_n 3, 1) := by decide +kernel
theorem d16_58 : decode jdk_52_method_16_code 58 = .ok (.areturn, 1) := by decide +kernel
abbrev MN_1 : MethodName := ⟨"java/lang/StringUTF16", "compress", "([CII)[B"⟩
theorem ef_rmC1_1 (m : MethodId) (a0c : Addr) : entryFrame m #[(.ref a0c), (.int (0 : Int32)), (.int (1 : Int32))] 6 = mkF m 0 #[.val (.ref a0c), .val (.int (0 : Int32)), .val (.int (1 : Int32)), .unset, .unset, .unset] [] := by first | (simp [entryFrame, mkF, argsToLocals, Value.category]; done) | rfl
def Q_rmC1_1 (n0 : Nat) (Z : State) (cS : Int32) (aRS : Addr) (aEM : Addr) (aUS : Addr) (aSS : Addr) (a0c : Addr) (k0 : ClassId) (c0 : Int32) (h0 : Heap) (v : Option Value) (h : Heap) (L : List Loc) : Prop := ∃ b : Addr, ∃ kb : ClassId, v = some (.ref b) ∧ Fr n0 L ∧ Keep h0 h [] ∧ (h0.size ≤ b) ∧ (Exa Z h b "[B") ∧ (Arv Z h b kb .byte (1 : Int32) [(.int (c0.toInt8.toInt32))] (.int (0 : Int32)))
set_option maxRecDepth 65536 in
set_option maxHeartbeats 40000000 in
theorem rmC1_1 (l : Launch) (Z : State) (a0 : Array Value) (hw : ∀ d ∈ tables_1, d.before a0 Z = true) (ws : List Jvm.Cond) (cS : Int32) (aRS : Addr) (aEM : Addr) (aUS : Addr) (aSS : Addr) (a0c : Addr) (k0 : ClassId) (c0 : Int32) (h0 : Heap) (n0 : Nat) (O0 : Old Z n0 h0) (GL : GF Z cS aRS aEM aUS aSS) (V_a0c : Arv Z h0 a0c k0 .char (1 : Int32) [(.int c0)] (.int (0 : Int32))) (hc0 : ¬ ((255 : Int32) < c0)) :
    MetFree l MN_1 (head1 (Jvm.Cond.code MN_1 jdk_52_method_16_code 6 (some (.array .byte)) :: ws) ({ frames := 1, cells := 1, slots := 1, locals := 18 } : Room)) (fun a U => a = #[(.ref a0c), (.int (0 : Int32)), (.int (1 : Int32))] ∧ Z.Warmed39 U.vm ∧ U.heap = h0) (fun _ _ _ _ _ => True) (fun _ U o U' => ∃ v L, o = .returned v ∧ Q_rmC1_1 n0 Z cS aRS aEM aUS aSS a0c k0 c0 h0 v U'.heap L ∧ FrameEnd U o U' L ({ frames := 1, cells := 1, slots := 1, locals := 18 } : Room).cells ({ frames := 1, cells := 1, slots := 1, locals := 18 } : Room).slots) := by
  refine MetFree.of_bodySF (plainFor_of_name pn) hisR ?_
  intro p e s m args below meth c s₁ Bd hml0 hP hK
  obtain ⟨rfl, hZ, hh⟩ := hP
  have hx := Bd.exec
  have hby := Bd.bytes
  have hml : c.maxLocals = 6 := hml0
  have hown : s.vm.findClass "java/lang/StringUTF16" = some m.cls := findClass_of_methodNamed Bd.named
  have hnm := (name_of_methodNamed Bd.named Bd.method).1
  have X0 : Stand p l e ({ frames := 1, cells := 1, slots := 1, locals := 18 } : Room) s m #[(.ref a0c), (.int (0 : Int32)), (.int (1 : Int32))] below meth c s₁ [] 0 0 := Stand.of_body Bd
  have e0 : s₁.heap = h0 := by rw [← hh, Bd.state]; rfl
  have N0 := Fr.nil n0
  have pre0 : ∀ t, Steps p.tables e below (s₁.setTop (mkF m 0 #[.val (.ref a0c), .val (.int (0 : Int32)), .val (.int (1 : Int32)), .unset, .unset, .unset] [])) t → Steps p.tables e below (s₁.setTop (entryFrame m #[(.ref a0c), (.int (0 : Int32)), (.int (1 : Int32))] 6)) t := fun t k => castTop (ef_rmC1_1 m a0c) k
  have GL' := GL
  obtain ⟨GCS, GCP, GSR, GSE, GEE, GFE, GSU, GSS⟩ := GL'
  obtain ⟨T1, h1, k1, X1, e1, E1, A1, A1', st1⟩ := newPE X0 hx hZ (Wd hw 15 rfl) e0 (g := (mkF m 1 #[.val (.ref a0c), .val (.int (0 : Int32)), .val (.int (1 : Int32)), .unset, .unset, .unset] [(.int (1 : Int32))])) rfl (hb hby d16_1) rfl (by decide) (cap := 1) (by decide) (by decide) (by decide) (by decide) (ad := "[B") rfl
  obtain ⟨b1, g1⟩ : ∃ z, z = h0.size := ⟨_, rfl⟩
  rw [← g1] at A1 A1' st1
  have g_b1 : n0 ≤ b1 := Nat.le_trans (own_sz O0) (Nat.le_of_eq g1.symm)
  have sz_b1 : h0.size ≤ b1 := Nat.le_trans (Keep.refl h0 []).1 (Nat.le_of_eq g1.symm)
  have K1 : Keep h0 h1 [] := (Keep.refl h0 []).ext E1
  have O1 := O0.ext E1
  have V_b1 : Arv Z h1 b1 k1 .byte (1 : Int32) [(.int (0 : Int32))] (.int (0 : Int32)) := (Arv.new A1 (by decide)).pad (pad_rep [] (.int (0 : Int32)) 1)
  obtain ⟨_, _, ⟨T2, L2, k2, n2⟩, -, X2, ⟨Lc2, hQ2, l2, y2, z2⟩, st2⟩ := Jvm.LawKit.callS X1 hx (y := MN_0) hown (mvT hZ (Wd hw 108 rfl)) (mvT hZ (Wd hw 109 rfl)) (mvT hZ (Wd hw 106 rfl)) (mvT hZ (Wd hw 110 rfl)) (by decide) (backOf (W := 0) (rmC2_1 l Z a0 hw [] cS aRS aEM aUS aSS (a0c) (b1) (k0) (k1) (c0) (h1) n0 O1 GL (V_a0c.ext E1) V_b1 g_b1 hc0) hZ (Wd hw 110 rfl) (Wd hw 106 rfl) (by decide) (by decide)) (g := (mkF m 9 #[.val (.ref a0c), .val (.int (0 : Int32)), .val (.int (1 : Int32)), .val (.ref b1), .unset, .unset] [(.int (1 : Int32)), (.int (0 : Int32)), (.ref b1), (.int (0 : Int32)), (.ref a0c)])) rfl (by rw [hml]; rfl) (argsL := [(.ref a0c), (.int (0 : Int32)), (.ref b1), (.int (0 : Int32)), (.int (1 : Int32))]) (rest := []) (lenOf pd rfl) rfl (by show 2 * 0 + _ ≤ _; exact Nat.le_of_eq rfl) (hb hby d16_9) (fun _ _ => ⟨rfl, e1, (by decide : 1 + 0 ≤ _), (by decide : 1 + 0 ≤ _)⟩)
  dsimp only [Pt.U, Pt.locs, Pt.cells, Pt.slots] at X2 l2 y2 z2 st2 hQ2
  subst l2 y2 z2
  obtain ⟨rfl, N2q, Kc2, P2_0⟩ := hQ2
  have K2 : Keep h0 T2.heap [] := K1.trans Kc2 (allS (Or.inr sz_b1) all0)
  have O2 := O1.keep Kc2 (allS g_b1 all0)
  have N2 := Fr.app N0 N2q
  obtain ⟨fs, hr, hrun, hended, hW, hsame⟩ := X2.leave (v := some (.ref b1)) (fun h => by rw [Bd.returns] at h; cases h)
  refine ⟨_, _, pre0 _ ?_, hrun, hended, _, _, rfl, ?_, ⟨_, rfl⟩, hW, hsame.mono (by decide) (by decide)⟩
  · show Steps p.tables e below (s₁.setTop (mkF m 0 #[.val (.ref a0c), .val (.int (0 : Int32)), .val (.int (1 : Int32)), .unset, .unset, .unset] [])) _
    refine XS.iloadN X0.here hx rfl (hb hby d16_0) rfl ?_
    show Steps p.tables e below (s₁.setTop (mkF m 1 #[.val (.ref a0c), .val (.int (0 : Int32)), .val (.int (1 : Int32)), .unset, .unset, .unset] [(.int (1 : Int32))])) _
    refine st1 _ ?_
    show Steps p.tables e below (T1.setTop (mkF m 3 #[.val (.ref a0c), .val (.int (0 : Int32)), .val (.int (1 : Int32)), .unset, .unset, .unset] [(.ref b1)])) _
    refine XS.astoreN X1.here hx rfl (hb hby d16_3) rfl rfl (l' := #[.val (.ref a0c), .val (.int (0 : Int32)), .val (.int (1 : Int32)), .val (.ref b1), .unset, .unset]) rfl ?_
    show Steps p.tables e below (T1.setTop (mkF m 4 #[.val (.ref a0c), .val (.int (0 : Int32)), .val (.int (1 : Int32)), .val (.ref b1), .unset, .unset] [])) _
    refine XS.aloadN X1.here hx rfl (hb hby d16_4) rfl rfl ?_
    show Steps p.tables e below (T1.setTop (mkF m 5 #[.val (.ref a0c), .val (.int (0 : Int32)), .val (.int (1 : Int32)), .val (.ref b1), .unset, .unset] [(.ref a0c)])) _
    refine XS.iloadN X1.here hx rfl (hb hby d16_5) rfl ?_
    show Steps p.tables e below (T1.setTop (mkF m 6 #[.val (.ref a0c), .val (.int (0 : Int32)), .val (.int (1 : Int32)), .val (.ref b1), .unset, .unset] [(.int (0 : Int32)), (.ref a0c)])) _
    refine XS.aloadN X1.here hx rfl (hb hby d16_6) rfl rfl ?_
    show Steps p.tables e below (T1.setTop (mkF m 7 #[.val (.ref a0c), .val (.int (0 : Int32)), .val (.int (1 : Int32)), .val (.ref b1), .unset, .unset] [(.ref b1), (.int (0 : Int32)), (.ref a0c)])) _
    refine XS.iconst X1.here hx rfl (hb hby d16_7) ?_
    show Steps p.tables e below (T1.setTop (mkF m 8 #[.val (.ref a0c), .val (.int (0 : Int32)), .val (.int (1 : Int32)), .val (.ref b1), .unset, .unset] [(.int (0 : Int32)), (.ref b1), (.int (0 : Int32)), (.ref a0c)])) _
    refine XS.iloadN X1.here hx rfl (hb hby d16_8) rfl ?_
    show Steps p.tables e below (T1.setTop (mkF m 9 #[.val (.ref a0c), .val (.int (0 : Int32)), .val (.int (1 : Int32)), .val (.ref b1), .unset, .unset] [(.int (1 : Int32)), (.int (0 : Int32)), (.ref b1), (.int (0 : Int32)), (.ref a0c)])) _
    refine st2 _ ?_
    show Steps p.tables e below (T2.setTop (mkF m 12 #[.val (.ref a0c), .val (.int (0 : Int32)), .val (.int (1 : Int32)), .val (.ref b1), .unset, .unset] [(.int (1 : Int32))])) _
    refine XS.istore X2.here hx rfl (hb hby d16_12) rfl (l' := #[.val (.ref a0c), .val (.int (0 : Int32)), .val (.int (1 : Int32)), .val (.ref b1), .val (.int (1 : Int32)), .unset]) rfl ?_
    show Steps p.tables e below (T2.setTop (mkF m 14 #[.val (.ref a0c), .val (.int (0 : Int32)), .val (.int (1 : Int32)), .val (.ref b1), .val (.int (1 : Int32)), .unset] [])) _
    refine XS.iload X2.here hx rfl (hb hby d16_14) rfl ?_
    show Steps p.tables e below (T2.setTop (mkF m 16 #[.val (.ref a0c), .val (.int (0 : Int32)), .val (.int (1 : Int32)), .val (.ref b1), .val (.int (1 : Int32)), .unset] [(.int (1 : Int32))])) _
    refine XS.iloadN X2.here hx rfl (hb hby d16_16) rfl ?_
    show Steps p.tables e below (T2.setTop (mkF m 17 #[.val (.ref a0c), .val (.int (0 : Int32)), .val (.int (1 : Int32)), .val (.ref b1), .val (.int (1 : Int32)), .unset] [(.int (1 : Int32)), (.int (1 : Int32))])) _
    refine XS.icmpYes X2.here hx rfl (pc0 := 17) (pc' := 57) rfl (hb hby d16_17) rfl (teq (by decide : (1 : Int32) = (1 : Int32))).1 (by decide) (by decide) ?_
    show Steps p.tables e below (T2.setTop (mkF m 57 #[.val (.ref a0c), .val (.int (0 : Int32)), .val (.int (1 : Int32)), .val (.ref b1), .val (.int (1 : Int32)), .unset] [])) _
    refine XS.aloadN X2.here hx rfl (hb hby d16_57) rfl rfl ?_
    show Steps p.tables e below (T2.setTop (mkF m 58 #[.val (.ref a0c), .val (.int (0 : Int32)), .val (.int (1 : Int32)), .val (.ref b1), .val (.int (1 : Int32)), .unset] [(.ref b1)])) _
    jvm_step X2.here [X2.here.top, hx, (hb hby d16_58), X2.method', Bd.returns, Value.isRef, FieldType.isReference]
    first | (intro acts; rw [hr _ acts rfl rfl rfl]) | rw [hr _ _ rfl rfl rfl]
    exact Steps.refl _
  · show Q_rmC1_1 n0 Z cS aRS aEM aUS aSS a0c k0 c0 h0 _ T2.heap _
    exact ⟨b1, k1, rfl, N2, K2, sz_b1, (A1'.keep Kc2), P2_0⟩
theorem ef_rmC2_2 (m : MethodId) (a0c : Addr) (a2b : Addr) : entryFrame m #[(.ref a0c), (.int (0 : Int32)), (.ref a2b), (.int (0 : Int32)), (.int (2 : Int32))] 7 = mkF m 0 #[.val (.ref a0c), .val (.int (0 : Int32)), .val (.ref a2b), .val (.int (0 : Int32)), .val (.int (2 : Int32)), .unset, .unset] [] := by first | (simp [entryFrame, mkF, argsToLocals, Value.category]; done) | rfl
def Q_rmC2_2 (n0 : Nat) (Z : State) (cS : Int32) (aRS : Addr) (aEM : Addr) (aUS : Addr) (aSS : Addr) (a0c : Addr) (a2b : Addr) (k0 : ClassId) (k2 : ClassId) (c0 : Int32) (c1 : Int32) (h0 : Heap) (v : Option Value) (h : Heap) (L : List Loc) : Prop := v = some (.int (2 : Int32)) ∧ Fr n0 L ∧ Keep h0 h [a2b] ∧ (Arv Z h a2b k2 .byte (2 : Int32) [(.int (c0.toInt8.toInt32)), (.int (c1.toInt8.toInt32))] (.int (0 : Int32)))
set_option maxRecDepth 65536 in
set_option maxHeartbeats 40000000 in
theorem rmC2_2 (l : Launch) (Z : State) (a0 : Array Value) (hw : ∀ d ∈ tables_1, d.before a0 Z = true) (ws : List Jvm.Cond) (cS : Int32) (aRS : Addr) (aEM : Addr) (aUS : Addr) (aSS : Addr) (a0c : Addr) (a2b : Addr) (k0 : ClassId) (k2 : ClassId) (c0 : Int32) (c1 : Int32) (h0 : Heap) (n0 : Nat) (O0 : Old Z n0 h0) (GL : GF Z cS aRS aEM aUS aSS) (V_a0c : Arv Z h0 a0c k0 .char (2 : Int32) [(.int c0), (.int c1)] (.int (0 : Int32))) (V_a2b : Arv Z h0 a2b k2 .byte (2 : Int32) [(.int (0 : Int32)), (.int (0 : Int32))] (.int (0 : Int32))) (g_a2b : n0 ≤ a2b) (hc0 : ¬ ((255 : Int32) < c0)) (hc1 : ¬ ((255 : Int32) < c1)) :
    MetFree l MN_0 (head1 (Jvm.Cond.code MN_0 jdk_52_method_21_code 7 (some .int) :: ws) ({ frames := 0, cells := 0, slots := 0, locals := 0 } : Room)) (fun a U => a = #[(.ref a0c), (.int (0 : Int32)), (.ref a2b), (.int (0 : Int32)), (.int (2 : Int32))] ∧ Z.Warmed39 U.vm ∧ U.heap = h0) (fun _ _ _ _ _ => True) (fun _ U o U' => ∃ v L, o = .returned v ∧ Q_rmC2_2 n0 Z cS aRS aEM aUS aSS a0c a2b k0 k2 c0 c1 h0 v U'.heap L ∧ FrameEnd U o U' L ({ frames := 0, cells := 0, slots := 0, locals := 0 } : Room).cells ({ frames := 0, cells := 0, slots := 0, locals := 0 } : Room).slots) := by
  refine MetFree.of_bodySF (plainFor_of_name pn) hisR ?_
  intro p e s m args below meth c s₁ Bd hml0 hP hK
  obtain ⟨rfl, hZ, hh⟩ := hP
  have hx := Bd.exec
  have hby := Bd.bytes
  have hml : c.maxLocals = 7 := hml0
  have hown : s.vm.findClass "java/lang/StringUTF16" = some m.cls := findClass_of_methodNamed Bd.named
  have hnm := (name_of_methodNamed Bd.named Bd.method).1
  have X0 : Stand p l e ({ frames := 0, cells := 0, slots := 0, locals := 0 } : Room) s m #[(.ref a0c), (.int (0 : Int32)), (.ref a2b), (.int (0 : Int32)), (.int (2 : Int32))] below meth c s₁ [] 0 0 := Stand.of_body Bd
  have e0 : s₁.heap = h0 := by rw [← hh, Bd.state]; rfl
  have N0 := Fr.nil n0
  have pre0 : ∀ t, Steps p.tables e below (s₁.setTop (mkF m 0 #[.val (.ref a0c), .val (.int (0 : Int32)), .val (.ref a2b), .val (.int (0 : Int32)), .val (.int (2 : Int32)), .unset, .unset] [])) t → Steps p.tables e below (s₁.setTop (entryFrame m #[(.ref a0c), (.int (0 : Int32)), (.ref a2b), (.int (0 : Int32)), (.int (2 : Int32))] 7)) t := fun t k => castTop (ef_rmC2_2 m a0c a2b) k
  have GL' := GL
  obtain ⟨GCS, GCP, GSR, GSE, GEE, GFE, GSU, GSS⟩ := GL'
  obtain ⟨cl1, Ar1, -, S1, N1_, H1, G1⟩ := id (V_a0c)
  have hin1 : ¬ ((0 : Int32) < 0 ∨ cl1.slots.size ≤ ((0 : Int32)).toNatClampNeg) := inb_of S1 ⟨(by decide), (by decide)⟩
  have hat1 : cl1.slots[((0 : Int32)).toNatClampNeg]? = some (.int c0) := H1.at hin1 rfl
  obtain ⟨cl2, Ar2, q2, S2, N2_, H2, G2⟩ := id (V_a2b)
  have hin2 : ¬ ((0 : Int32) < 0 ∨ cl2.slots.size ≤ ((0 : Int32)).toNatClampNeg) := inb_of S2 ⟨(by decide), (by decide)⟩
  obtain ⟨T2, h2, X2, e2, W2, st2⟩ := stB X0 hx hZ e0 Ar2 (j := (0 : Int32)) hin2 (g := (mkF m 31 #[.val (.ref a0c), .val (.int (0 : Int32)), .val (.ref a2b), .val (.int (0 : Int32)), .val (.int (2 : Int32)), .val (.int (0 : Int32)), .val (.int c0)] [(.int (c0.toInt8.toInt32)), (.int (0 : Int32)), (.ref a2b)])) rfl rfl (hb hby d17_31)
  have K2 : Keep h0 h2 [a2b] := (Keep.refl h0 [a2b]).wr W2 (Or.inl (List.mem_of_getElem? (i := 0) rfl))
  have O2 := O0.wr W2 g_a2b
  have N2 := Fr.snoc X2 N0 g_a2b
  have V2' : Arv Z h2 a2b k2 .byte (2 : Int32) [(.int ((c0.toInt8.toInt32)).toInt8.toInt32), (.int (0 : Int32))] (.int (0 : Int32)) := Arv.set Ar2 q2 S2 N2_ H2 G2 (fits_nar_byte _) W2 0 rfl (Nat.le_of_ble_eq_true rfl)
  have V2 : Arv Z h2 a2b k2 .byte (2 : Int32) [(.int (c0.toInt8.toInt32)), (.int (0 : Int32))] (.int (0 : Int32)) := by
    rw [own_b2 c0] at V2'
    exact V2'
  obtain ⟨cl3, Ar3, -, S3, N3_, H3, G3⟩ := id ((V_a0c.other W2 (own_neArv V_a0c V_a2b (by decide))))
  have hin3 : ¬ ((1 : Int32) < 0 ∨ cl3.slots.size ≤ ((1 : Int32)).toNatClampNeg) := inb_of S3 ⟨(by decide), (by decide)⟩
  have hat3 : cl3.slots[((1 : Int32)).toNatClampNeg]? = some (.int c1) := H3.at hin3 rfl
  obtain ⟨cl4, Ar4, q4, S4, N4_, H4, G4⟩ := id (V2)
  have hin4 : ¬ ((1 : Int32) < 0 ∨ cl4.slots.size ≤ ((1 : Int32)).toNatClampNeg) := inb_of S4 ⟨(by decide), (by decide)⟩
  obtain ⟨T4, h4, X4, e4, W4, st4⟩ := stB X2 hx hZ e2 Ar4 (j := (1 : Int32)) hin4 (g := (mkF m 31 #[.val (.ref a0c), .val (.int (1 : Int32)), .val (.ref a2b), .val (.int (1 : Int32)), .val (.int (2 : Int32)), .val (.int (1 : Int32)), .val (.int c1)] [(.int (c1.toInt8.toInt32)), (.int (1 : Int32)), (.ref a2b)])) rfl rfl (hb hby d17_31)
  have K4 : Keep h0 h4 [a2b] := K2.wr W4 (Or.inl (List.mem_of_getElem? (i := 0) rfl))
  have O4 := O2.wr W4 g_a2b
  have N4 := Fr.snoc X4 N2 g_a2b
  have V4' : Arv Z h4 a2b k2 .byte (2 : Int32) [(.int (c0.toInt8.toInt32)), (.int ((c1.toInt8.toInt32)).toInt8.toInt32)] (.int (0 : Int32)) := Arv.set Ar4 q4 S4 N4_ H4 G4 (fits_nar_byte _) W4 1 rfl (Nat.le_of_ble_eq_true rfl)
  have V4 : Arv Z h4 a2b k2 .byte (2 : Int32) [(.int (c0.toInt8.toInt32)), (.int (c1.toInt8.toInt32))] (.int (0 : Int32)) := by
    rw [own_b2 c1] at V4'
    exact V4'
  obtain ⟨fs, hr, hrun, hended, hW, hsame⟩ := X4.leave (v := some (.int (2 : Int32))) (fun h => by rw [Bd.returns] at h; cases h)
  refine ⟨_, _, pre0 _ ?_, hrun, hended, _, _, rfl, ?_, ⟨_, rfl⟩, hW, hsame.mono (by decide) (by decide)⟩
  · show Steps p.tables e below (s₁.setTop (mkF m 0 #[.val (.ref a0c), .val (.int (0 : Int32)), .val (.ref a2b), .val (.int (0 : Int32)), .val (.int (2 : Int32)), .unset, .unset] [])) _
    refine XS.iconst X0.here hx rfl (hb hby d17_0) ?_
    show Steps p.tables e below (s₁.setTop (mkF m 1 #[.val (.ref a0c), .val (.int (0 : Int32)), .val (.ref a2b), .val (.int (0 : Int32)), .val (.int (2 : Int32)), .unset, .unset] [(.int (0 : Int32))])) _
    refine XS.istore X0.here hx rfl (hb hby d17_1) rfl (l' := #[.val (.ref a0c), .val (.int (0 : Int32)), .val (.ref a2b), .val (.int (0 : Int32)), .val (.int (2 : Int32)), .val (.int (0 : Int32)), .unset]) rfl ?_
    show Steps p.tables e below (s₁.setTop (mkF m 3 #[.val (.ref a0c), .val (.int (0 : Int32)), .val (.ref a2b), .val (.int (0 : Int32)), .val (.int (2 : Int32)), .val (.int (0 : Int32)), .unset] [])) _
    refine XS.iload X0.here hx rfl (hb hby d17_3) rfl ?_
    show Steps p.tables e below (s₁.setTop (mkF m 5 #[.val (.ref a0c), .val (.int (0 : Int32)), .val (.ref a2b), .val (.int (0 : Int32)), .val (.int (2 : Int32)), .val (.int (0 : Int32)), .unset] [(.int (0 : Int32))])) _
    refine XS.iload X0.here hx rfl (hb hby d17_5) rfl ?_
    show Steps p.tables e below (s₁.setTop (mkF m 7 #[.val (.ref a0c), .val (.int (0 : Int32)), .val (.ref a2b), .val (.int (0 : Int32)), .val (.int (2 : Int32)), .val (.int (0 : Int32)), .unset] [(.int (2 : Int32)), (.int (0 : Int32))])) _
    refine XS.icmpNo X0.here hx rfl (hb hby d17_7) rfl (tlt (by decide : (0 : Int32) < (2 : Int32))).2.1 ?_
    show Steps p.tables e below (s₁.setTop (mkF m 10 #[.val (.ref a0c), .val (.int (0 : Int32)), .val (.ref a2b), .val (.int (0 : Int32)), .val (.int (2 : Int32)), .val (.int (0 : Int32)), .unset] [])) _
    refine XS.aloadN X0.here hx rfl (hb hby d17_10) rfl rfl ?_
    show Steps p.tables e below (s₁.setTop (mkF m 11 #[.val (.ref a0c), .val (.int (0 : Int32)), .val (.ref a2b), .val (.int (0 : Int32)), .val (.int (2 : Int32)), .val (.int (0 : Int32)), .unset] [(.ref a0c)])) _
    refine XS.iloadN X0.here hx rfl (hb hby d17_11) rfl ?_
    show Steps p.tables e below (s₁.setTop (mkF m 12 #[.val (.ref a0c), .val (.int (0 : Int32)), .val (.ref a2b), .val (.int (0 : Int32)), .val (.int (2 : Int32)), .val (.int (0 : Int32)), .unset] [(.int (0 : Int32)), (.ref a0c)])) _
    refine X0.caload hx (j := (0 : Int32)) (v := (.int c0)) (by rw [e0]; exact Ar1.1) (State.isArrayOf_alike hZ.alike Ar1.2.1) Ar1.2.2 hin1 hat1 (g := (mkF m 12 #[.val (.ref a0c), .val (.int (0 : Int32)), .val (.ref a2b), .val (.int (0 : Int32)), .val (.int (2 : Int32)), .val (.int (0 : Int32)), .unset] [(.int (0 : Int32)), (.ref a0c)])) rfl rfl (hb hby d17_12) _ ?_
    show Steps p.tables e below (s₁.setTop (mkF m 13 #[.val (.ref a0c), .val (.int (0 : Int32)), .val (.ref a2b), .val (.int (0 : Int32)), .val (.int (2 : Int32)), .val (.int (0 : Int32)), .unset] [(.int c0)])) _
    refine XS.istore X0.here hx rfl (hb hby d17_13) rfl (l' := #[.val (.ref a0c), .val (.int (0 : Int32)), .val (.ref a2b), .val (.int (0 : Int32)), .val (.int (2 : Int32)), .val (.int (0 : Int32)), .val (.int c0)]) rfl ?_
    show Steps p.tables e below (s₁.setTop (mkF m 15 #[.val (.ref a0c), .val (.int (0 : Int32)), .val (.ref a2b), .val (.int (0 : Int32)), .val (.int (2 : Int32)), .val (.int (0 : Int32)), .val (.int c0)] [])) _
    refine XS.iload X0.here hx rfl (hb hby d17_15) rfl ?_
    show Steps p.tables e below (s₁.setTop (mkF m 17 #[.val (.ref a0c), .val (.int (0 : Int32)), .val (.ref a2b), .val (.int (0 : Int32)), .val (.int (2 : Int32)), .val (.int (0 : Int32)), .val (.int c0)] [(.int c0)])) _
    refine XS.sipush X0.here hx rfl (hb hby d17_17) ?_
    show Steps p.tables e below (s₁.setTop (mkF m 20 #[.val (.ref a0c), .val (.int (0 : Int32)), .val (.ref a2b), .val (.int (0 : Int32)), .val (.int (2 : Int32)), .val (.int (0 : Int32)), .val (.int c0)] [(.int (255 : Int32)), (.int c0)])) _
    refine XS.icmpYes X0.here hx rfl (pc0 := 20) (pc' := 26) rfl (hb hby d17_20) rfl (flt hc0).2.2.2 (by decide) (by decide) ?_
    show Steps p.tables e below (s₁.setTop (mkF m 26 #[.val (.ref a0c), .val (.int (0 : Int32)), .val (.ref a2b), .val (.int (0 : Int32)), .val (.int (2 : Int32)), .val (.int (0 : Int32)), .val (.int c0)] [])) _
    refine XS.aloadN X0.here hx rfl (hb hby d17_26) rfl rfl ?_
    show Steps p.tables e below (s₁.setTop (mkF m 27 #[.val (.ref a0c), .val (.int (0 : Int32)), .val (.ref a2b), .val (.int (0 : Int32)), .val (.int (2 : Int32)), .val (.int (0 : Int32)), .val (.int c0)] [(.ref a2b)])) _
    refine XS.iloadN X0.here hx rfl (hb hby d17_27) rfl ?_
    show Steps p.tables e below (s₁.setTop (mkF m 28 #[.val (.ref a0c), .val (.int (0 : Int32)), .val (.ref a2b), .val (.int (0 : Int32)), .val (.int (2 : Int32)), .val (.int (0 : Int32)), .val (.int c0)] [(.int (0 : Int32)), (.ref a2b)])) _
    refine XS.iload X0.here hx rfl (hb hby d17_28) rfl ?_
    show Steps p.tables e below (s₁.setTop (mkF m 30 #[.val (.ref a0c), .val (.int (0 : Int32)), .val (.ref a2b), .val (.int (0 : Int32)), .val (.int (2 : Int32)), .val (.int (0 : Int32)), .val (.int c0)] [(.int c0), (.int (0 : Int32)), (.ref a2b)])) _
    refine XS.i2b X0.here hx rfl (hb hby d17_30) rfl ?_
    show Steps p.tables e below (s₁.setTop (mkF m 31 #[.val (.ref a0c), .val (.int (0 : Int32)), .val (.ref a2b), .val (.int (0 : Int32)), .val (.int (2 : Int32)), .val (.int (0 : Int32)), .val (.int c0)] [(.int (c0.toInt8.toInt32)), (.int (0 : Int32)), (.ref a2b)])) _
    refine st2 _ ?_
    show Steps p.tables e below (T2.setTop (mkF m 32 #[.val (.ref a0c), .val (.int (0 : Int32)), .val (.ref a2b), .val (.int (0 : Int32)), .val (.int (2 : Int32)), .val (.int (0 : Int32)), .val (.int c0)] [])) _
    refine XS.iinc X2.here hx rfl (hb hby d17_32) rfl (l' := #[.val (.ref a0c), .val (.int (1 : Int32)), .val (.ref a2b), .val (.int (0 : Int32)), .val (.int (2 : Int32)), .val (.int (0 : Int32)), .val (.int c0)]) rfl ?_
    show Steps p.tables e below (T2.setTop (mkF m 35 #[.val (.ref a0c), .val (.int (1 : Int32)), .val (.ref a2b), .val (.int (0 : Int32)), .val (.int (2 : Int32)), .val (.int (0 : Int32)), .val (.int c0)] [])) _
    refine XS.iinc X2.here hx rfl (hb hby d17_35) rfl (l' := #[.val (.ref a0c), .val (.int (1 : Int32)), .val (.ref a2b), .val (.int (1 : Int32)), .val (.int (2 : Int32)), .val (.int (0 : Int32)), .val (.int c0)]) rfl ?_
    show Steps p.tables e below (T2.setTop (mkF m 38 #[.val (.ref a0c), .val (.int (1 : Int32)), .val (.ref a2b), .val (.int (1 : Int32)), .val (.int (2 : Int32)), .val (.int (0 : Int32)), .val (.int c0)] [])) _
    refine XS.iinc X2.here hx rfl (hb hby d17_38) rfl (l' := #[.val (.ref a0c), .val (.int (1 : Int32)), .val (.ref a2b), .val (.int (1 : Int32)), .val (.int (2 : Int32)), .val (.int (1 : Int32)), .val (.int c0)]) rfl ?_
    show Steps p.tables e below (T2.setTop (mkF m 41 #[.val (.ref a0c), .val (.int (1 : Int32)), .val (.ref a2b), .val (.int (1 : Int32)), .val (.int (2 : Int32)), .val (.int (1 : Int32)), .val (.int c0)] [])) _
    refine XS.goto X2.here hx rfl (pc0 := 41) (pc' := 3) rfl (hb hby d17_41) (by decide) (by decide) ?_
    show Steps p.tables e below (T2.setTop (mkF m 3 #[.val (.ref a0c), .val (.int (1 : Int32)), .val (.ref a2b), .val (.int (1 : Int32)), .val (.int (2 : Int32)), .val (.int (1 : Int32)), .val (.int c0)] [])) _
    refine XS.iload X2.here hx rfl (hb hby d17_3) rfl ?_
    show Steps p.tables e below (T2.setTop (mkF m 5 #[.val (.ref a0c), .val (.int (1 : Int32)), .val (.ref a2b), .val (.int (1 : Int32)), .val (.int (2 : Int32)), .val (.int (1 : Int32)), .val (.int c0)] [(.int (1 : Int32))])) _
    refine XS.iload X2.here hx rfl (hb hby d17_5) rfl ?_
    show Steps p.tables e below (T2.setTop (mkF m 7 #[.val (.ref a0c), .val (.int (1 : Int32)), .val (.ref a2b), .val (.int (1 : Int32)), .val (.int (2 : Int32)), .val (.int (1 : Int32)), .val (.int c0)] [(.int (2 : Int32)), (.int (1 : Int32))])) _
    refine XS.icmpNo X2.here hx rfl (hb hby d17_7) rfl (tlt (by decide : (1 : Int32) < (2 : Int32))).2.1 ?_
    show Steps p.tables e below (T2.setTop (mkF m 10 #[.val (.ref a0c), .val (.int (1 : Int32)), .val (.ref a2b), .val (.int (1 : Int32)), .val (.int (2 : Int32)), .val (.int (1 : Int32)), .val (.int c0)] [])) _
    refine XS.aloadN X2.here hx rfl (hb hby d17_10) rfl rfl ?_
    show Steps p.tables e below (T2.setTop (mkF m 11 #[.val (.ref a0c), .val (.int (1 : Int32)), .val (.ref a2b), .val (.int (1 : Int32)), .val (.int (2 : Int32)), .val (.int (1 : Int32)), .val (.int c0)] [(.ref a0c)])) _
    refine XS.iloadN X2.here hx rfl (hb hby d17_11) rfl ?_
    show Steps p.tables e below (T2.setTop (mkF m 12 #[.val (.ref a0c), .val (.int (1 : Int32)), .val (.ref a2b), .val (.int (1 : Int32)), .val (.int (2 : Int32)), .val (.int (1 : Int32)), .val (.int c0)] [(.int (1 : Int32)), (.ref a0c)])) _
    refine X2.caload hx (j := (1 : Int32)) (v := (.int c1)) (by rw [e2]; exact Ar3.1) (State.isArrayOf_alike hZ.alike Ar3.2.1) Ar3.2.2 hin3 hat3 (g := (mkF m 12 #[.val (.ref a0c), .val (.int (1 : Int32)), .val (.ref a2b), .val (.int (1 : Int32)), .val (.int (2 : Int32)), .val (.int (1 : Int32)), .val (.int c0)] [(.int (1 : Int32)), (.ref a0c)])) rfl rfl (hb hby d17_12) _ ?_
    show Steps p.tables e below (T2.setTop (mkF m 13 #[.val (.ref a0c), .val (.int (1 : Int32)), .val (.ref a2b), .val (.int (1 : Int32)), .val (.int (2 : Int32)), .val (.int (1 : Int32)), .val (.int c0)] [(.int c1)])) _
    refine XS.istore X2.here hx rfl (hb hby d17_13) rfl (l' := #[.val (.ref a0c), .val (.int (1 : Int32)), .val (.ref a2b), .val (.int (1 : Int32)), .val (.int (2 : Int32)), .val (.int (1 : Int32)), .val (.int c1)]) rfl ?_
    show Steps p.tables e below (T2.setTop (mkF m 15 #[.val (.ref a0c), .val (.int (1 : Int32)), .val (.ref a2b), .val (.int (1 : Int32)), .val (.int (2 : Int32)), .val (.int (1 : Int32)), .val (.int c1)] [])) _
    refine XS.iload X2.here hx rfl (hb hby d17_15) rfl ?_
    show Steps p.tables e below (T2.setTop (mkF m 17 #[.val (.ref a0c), .val (.int (1 : Int32)), .val (.ref a2b), .val (.int (1 : Int32)), .val (.int (2 : Int32)), .val (.int (1 : Int32)), .val (.int c1)] [(.int c1)])) _
    refine XS.sipush X2.here hx rfl (hb hby d17_17) ?_
    show Steps p.tables e below (T2.setTop (mkF m 20 #[.val (.ref a0c), .val (.int (1 : Int32)), .val (.ref a2b), .val (.int (1 : Int32)), .val (.int (2 : Int32)), .val (.int (1 : Int32)), .val (.int c1)] [(.int (255 : Int32)), (.int c1)])) _
    refine XS.icmpYes X2.here hx rfl (pc0 := 20) (pc' := 26) rfl (hb hby d17_20) rfl (flt hc1).2.2.2 (by decide) (by decide) ?_
    show Steps p.tables e below (T2.setTop (mkF m 26 #[.val (.ref a0c), .val (.int (1 : Int32)), .val (.ref a2b), .val (.int (1 : Int32)), .val (.int (2 : Int32)), .val (.int (1 : Int32)), .val (.int c1)] [])) _
    refine XS.aloadN X2.here hx rfl (hb hby d17_26) rfl rfl ?_
    show Steps p.tables e below (T2.setTop (mkF m 27 #[.val (.ref a0c), .val (.int (1 : Int32)), .val (.ref a2b), .val (.int (1 : Int32)), .val (.int (2 : Int32)), .val (.int (1 : Int32)), .val (.int c1)] [(.ref a2b)])) _
    refine XS.iloadN X2.here hx rfl (hb hby d17_27) rfl ?_
    show Steps p.tables e below (T2.setTop (mkF m 28 #[.val (.ref a0c), .val (.int (1 : Int32)), .val (.ref a2b), .val (.int (1 : Int32)), .val (.int (2 : Int32)), .val (.int (1 : Int32)), .val (.int c1)] [(.int (1 : Int32)), (.ref a2b)])) _
    refine XS.iload X2.here hx rfl (hb hby d17_28) rfl ?_
    show Steps p.tables e below (T2.setTop (mkF m 30 #[.val (.ref a0c), .val (.int (1 : Int32)), .val (.ref a2b), .val (.int (1 : Int32)), .val (.int (2 : Int32)), .val (.int (1 : Int32)), .val (.int c1)] [(.int c1), (.int (1 : Int32)), (.ref a2b)])) _
    refine XS.i2b X2.here hx rfl (hb hby d17_30) rfl ?_
    show Steps p.tables e below (T2.setTop (mkF m 31 #[.val (.ref a0c), .val (.int (1 : Int32)), .val (.ref a2b), .val (.int (1 : Int32)), .val (.int (2 : Int32)), .val (.int (1 : Int32)), .val (.int c1)] [(.int (c1.toInt8.toInt32)), (.int (1 : Int32)), (.ref a2b)])) _
    refine st4 _ ?_
    show Steps p.tables e below (T4.setTop (mkF m 32 #[.val (.ref a0c), .val (.int (1 : Int32)), .val (.ref a2b), .val (.int (1 : Int32)), .val (.int (2 : Int32)), .val (.int (1 : Int32)), .val (.int c1)] [])) _
    refine XS.iinc X4.here hx rfl (hb hby d17_32) rfl (l' := #[.val (.ref a0c), .val (.int (2 : Int32)), .val (.ref a2b), .val (.int (1 : Int32)), .val (.int (2 : Int32)), .val (.int (1 : Int32)), .val (.int c1)]) rfl ?_
    show Steps p.tables e below (T4.setTop (mkF m 35 #[.val (.ref a0c), .val (.int (2 : Int32)), .val (.ref a2b), .val (.int (1 : Int32)), .val (.int (2 : Int32)), .val (.int (1 : Int32)), .val (.int c1)] [])) _
    refine XS.iinc X4.here hx rfl (hb hby d17_35) rfl (l' := #[.val (.ref a0c), .val (.int (2 : Int32)), .val (.ref a2b), .val (.int (2 : Int32)), .val (.int (2 : Int32)), .val (.int (1 : Int32)), .val (.int c1)]) rfl ?_
    show Steps p.tables e below (T4.setTop (mkF m 38 #[.val (.ref a0c), .val (.int (2 : Int32)), .val (.ref a2b), .val (.int (2 : Int32)), .val (.int (2 : Int32)), .val (.int (1 : Int32)), .val (.int c1)] [])) _
    refine XS.iinc X4.here hx rfl (hb hby d17_38) rfl (l' := #[.val (.ref a0c), .val (.int (2 : Int32)), .val (.ref a2b), .val (.int (2 : Int32)), .val (.int (2 : Int32)), .val (.int (2 : Int32)), .val (.int c1)]) rfl ?_
    show Steps p.tables e below (T4.setTop (mkF m 41 #[.val (.ref a0c), .val (.int (2 : Int32)), .val (.ref a2b), .val (.int (2 : Int32)), .val (.int (2 : Int32)), .val (.int (2 : Int32)), .val (.int c1)] [])) _
    refine XS.goto X4.here hx rfl (pc0 := 41) (pc' := 3) rfl (hb hby d17_41) (by decide) (by decide) ?_
    show Steps p.tables e below (T4.setTop (mkF m 3 #[.val (.ref a0c), .val (.int (2 : Int32)), .val (.ref a2b), .val (.int (2 : Int32)), .val (.int (2 : Int32)), .val (.int (2 : Int32)), .val (.int c1)] [])) _
    refine XS.iload X4.here hx rfl (hb hby d17_3) rfl ?_
    show Steps p.tables e below (T4.setTop (mkF m 5 #[.val (.ref a0c), .val (.int (2 : Int32)), .val (.ref a2b), .val (.int (2 : Int32)), .val (.int (2 : Int32)), .val (.int (2 : Int32)), .val (.int c1)] [(.int (2 : Int32))])) _
    refine XS.iload X4.here hx rfl (hb hby d17_5) rfl ?_
    show Steps p.tables e below (T4.setTop (mkF m 7 #[.val (.ref a0c), .val (.int (2 : Int32)), .val (.ref a2b), .val (.int (2 : Int32)), .val (.int (2 : Int32)), .val (.int (2 : Int32)), .val (.int c1)] [(.int (2 : Int32)), (.int (2 : Int32))])) _
    refine XS.icmpYes X4.here hx rfl (pc0 := 7) (pc' := 44) rfl (hb hby d17_7) rfl (flt (by decide : ¬ ((2 : Int32) < (2 : Int32)))).2.1 (by decide) (by decide) ?_
    show Steps p.tables e below (T4.setTop (mkF m 44 #[.val (.ref a0c), .val (.int (2 : Int32)), .val (.ref a2b), .val (.int (2 : Int32)), .val (.int (2 : Int32)), .val (.int (2 : Int32)), .val (.int c1)] [])) _
    refine XS.iload X4.here hx rfl (hb hby d17_44) rfl ?_
    show Steps p.tables e below (T4.setTop (mkF m 46 #[.val (.ref a0c), .val (.int (2 : Int32)), .val (.ref a2b), .val (.int (2 : Int32)), .val (.int (2 : Int32)), .val (.int (2 : Int32)), .val (.int c1)] [(.int (2 : Int32))])) _
    exact retI X4 hx Bd.returns (hb hby d17_46) hr
  · show Q_rmC2_2 n0 Z cS aRS aEM aUS aSS a0c a2b k0 k2 c0 c1 h0 _ T4.heap _
    rw [e4]
    exact ⟨rfl, N4, K4, V4⟩
theorem ef_rmC1_2 (m : MethodId) (a0c : Addr) : entryFrame m #[(.ref a0c), (.int (0 : Int32)), (.int (2 : Int32))] 6 = mkF m 0 #[.val (.ref a0c), .val (.int (0 : Int32)), .val (.int (2 : Int32)), .unset, .unset, .unset] [] := by first | (simp [entryFrame, mkF, argsToLocals, Value.category]; done) | rfl
def Q_rmC1_2 (n0 : Nat) (Z : State) (cS : Int32) (aRS : Addr) (aEM : Addr) (aUS : Addr) (aSS : Addr) (a0c : Addr) (k0 : ClassId) (c0 : Int32) (c1 : Int32) (h0 : Heap) (v : Option Value) (h : Heap) (L : List Loc) : Prop := ∃ b : Addr, ∃ kb : ClassId, v = some (.ref b) ∧ Fr n0 L ∧ Keep h0 h [] ∧ (h0.size ≤ b) ∧ (Exa Z h b "[B") ∧ (Arv Z h b kb .byte (2 : Int32) [(.int (c0.toInt8.toInt32)), (.int (c1.toInt8.toInt32))] (.int (0 : Int32)))
set_option maxRecDepth 65536 in
set_option maxHeartbeats 40000000 in
theorem rmC1_2 (l : Launch) (Z : State) (a0 : Array Value) (hw : ∀ d ∈ tables_1, d.before a0 Z = true) (ws : List Jvm.Cond) (cS : Int32) (aRS : Addr) (aEM : Addr) (aUS : Addr) (aSS : Addr) (a0c : Addr) (k0 : ClassId) (c0 : Int32) (c1 : Int32) (h0 : Heap) (n0 : Nat) (O0 : Old Z n0 h0) (GL : GF Z cS aRS aEM aUS aSS) (V_a0c : Arv Z h0 a0c k0 .char (2 : Int32) [(.int c0), (.int c1)] (.int (0 : Int32))) (hc0 : ¬ ((255 : Int32) < c0)) (hc1 : ¬ ((255 : Int32) < c1)) :
    MetFree l MN_1 (head1 (Jvm.Cond.code MN_1 jdk_52_method_16_code 6 (some (.array .byte)) :: ws) ({ frames := 1, cells := 1, slots := 2, locals := 18 } : Room)) (fun a U => a = #[(.ref a0c), (.int (0 : Int32)), (.int (2 : Int32))] ∧ Z.Warmed39 U.vm ∧ U.heap = h0) (fun _ _ _ _ _ => True) (fun _ U o U' => ∃ v L, o = .returned v ∧ Q_rmC1_2 n0 Z cS aRS aEM aUS aSS a0c k0 c0 c1 h0 v U'.heap L ∧ FrameEnd U o U' L ({ frames := 1, cells := 1, slots := 2, locals := 18 } : Room).cells ({ frames := 1, cells := 1, slots := 2, locals := 18 } : Room).slots) := by
  refine MetFree.of_bodySF (plainFor_of_name pn) hisR ?_
  intro p e s m args below meth c s₁ Bd hml0 hP hK
  obtain ⟨rfl, hZ, hh⟩ := hP
  have hx := Bd.exec
  have hby := Bd.bytes
  have hml : c.maxLocals = 6 := hml0
  have hown : s.vm.findClass "java/lang/StringUTF16" = some m.cls := findClass_of_methodNamed Bd.named
  have hnm := (name_of_methodNamed Bd.named Bd.method).1
  have X0 : Stand p l e ({ frames := 1, cells := 1, slots := 2, locals := 18 } : Room) s m #[(.ref a0c), (.int (0 : Int32)), (.int (2 : Int32))] below meth c s₁ [] 0 0 := Stand.of_body Bd
  have e0 : s₁.heap = h0 := by rw [← hh, Bd.state]; rfl
  have N0 := Fr.nil n0
  have pre0 : ∀ t, Steps p.tables e below (s₁.setTop (mkF m 0 #[.val (.ref a0c), .val (.int (0 : Int32)), .val (.int (2 : Int32)), .unset, .unset, .unset] [])) t → Steps p.tables e below (s₁.setTop (entryFrame m #[(.ref a0c), (.int (0 : Int32)), (.int (2 : Int32))] 6)) t := fun t k => castTop (ef_rmC1_2 m a0c) k
  have GL' := GL
  obtain ⟨GCS, GCP, GSR, GSE, GEE, GFE, GSU, GSS⟩ := GL'
  obtain ⟨T1, h1, k1, X1, e1, E1, A1, A1', st1⟩ := newPE X0 hx hZ (Wd hw 15 rfl) e0 (g := (mkF m 1 #[.val (.ref a0c), .val (.int (0 : Int32)), .val (.int (2 : Int32)), .unset, .unset, .unset] [(.int (2 : Int32))])) rfl (hb hby d16_1) rfl (by decide) (cap := 2) (by decide) (by decide) (by decide) (by decide) (ad := "[B") rfl
  obtain ⟨b1, g1⟩ : ∃ z, z = h0.size := ⟨_, rfl⟩
  rw [← g1] at A1 A1' st1
  have g_b1 : n0 ≤ b1 := Nat.le_trans (own_sz O0) (Nat.le_of_eq g1.symm)
  have sz_b1 : h0.size ≤ b1 := Nat.le_trans (Keep.refl h0 []).1 (Nat.le_of_eq g1.symm)
  have K1 : Keep h0 h1 [] := (Keep.refl h0 []).ext E1
  have O1 := O0.ext E1
  have V_b1 : Arv Z h1 b1 k1 .byte (2 : Int32) [(.int (0 : Int32)), (.int (0 : Int32))] (.int (0 : Int32)) := (Arv.new A1 (by decide)).pad (pad_rep [] (.int (0 : Int32)) 2)
  obtain ⟨_, _, ⟨T2, L2, k2, n2⟩, -, X2, ⟨Lc2, hQ2, l2, y2, z2⟩, st2⟩ := Jvm.LawKit.callS X1 hx (y := MN_0) hown (mvT hZ (Wd hw 108 rfl)) (mvT hZ (Wd hw 109 rfl)) (mvT hZ (Wd hw 106 rfl)) (mvT hZ (Wd hw 110 rfl)) (by decide) (backOf (W := 0) (rmC2_2 l Z a0 hw [] cS aRS aEM aUS aSS (a0c) (b1) (k0) (k1) (c0) (c1) (h1) n0 O1 GL (V_a0c.ext E1) V_b1 g_b1 hc0 hc1) hZ (Wd hw 110 rfl) (Wd hw 106 rfl) (by decide) (by decide)) (g := (mkF m 9 #[.val (.ref a0c), .val (.int (0 : Int32)), .val (.int (2 : Int32)), .val (.ref b1), .unset, .unset] [(.int (2 : Int32)), (.int (0 : Int32)), (.ref b1), (.int (0 : Int32)), (.ref a0c)])) rfl (by rw [hml]; rfl) (argsL := [(.ref a0c), (.int (0 : Int32)), (.ref b1), (.int (0 : Int32)), (.int (2 : Int32))]) (rest := []) (lenOf pd rfl) rfl (by show 2 * 0 + _ ≤ _; exact Nat.le_of_eq rfl) (hb hby d16_9) (fun _ _ => ⟨rfl, e1, (by decide : 1 + 0 ≤ _), (by decide : 2 + 0 ≤ _)⟩)
  dsimp only [Pt.U, Pt.locs, Pt.cells, Pt.slots] at X2 l2 y2 z2 st2 hQ2
  subst l2 y2 z2
  obtain ⟨rfl, N2q, Kc2, P2_0⟩ := hQ2
  have K2 : Keep h0 T2.heap [] := K1.trans Kc2 (allS (Or.inr sz_b1) all0)
  have O2 := O1.keep Kc2 (allS g_b1 all0)
  have N2 := Fr.app N0 N2q
  obtain ⟨fs, hr, hrun, hended, hW, hsame⟩ := X2.leave (v := some (.ref b1)) (fun h => by rw [Bd.returns] at h; cases h)
  refine ⟨_, _, pre0 _ ?_, hrun, hended, _, _, rfl, ?_, ⟨_, rfl⟩, hW, hsame.mono (by decide) (by decide)⟩
  · show Steps p.tables e below (s₁.setTop (mkF m 0 #[.val (.ref a0c), .val (.int (0 : Int32)), .val (.int (2 : Int32)), .unset, .unset, .unset] [])) _
    refine XS.iloadN X0.here hx rfl (hb hby d16_0) rfl ?_
    show Steps p.tables e below (s₁.setTop (mkF m 1 #[.val (.ref a0c), .val (.int (0 : Int32)), .val (.int (2 : Int32)), .unset, .unset, .unset] [(.int (2 : Int32))])) _
    refine st1 _ ?_
    show Steps p.tables e below (T1.setTop (mkF m 3 #[.val (.ref a0c), .val (.int (0 : Int32)), .val (.int (2 : Int32)), .unset, .unset, .unset] [(.ref b1)])) _
    refine XS.astoreN X1.here hx rfl (hb hby d16_3) rfl rfl (l' := #[.val (.ref a0c), .val (.int (0 : Int32)), .val (.int (2 : Int32)), .val (.ref b1), .unset, .unset]) rfl ?_
    show Steps p.tables e below (T1.setTop (mkF m 4 #[.val (.ref a0c), .val (.int (0 : Int32)), .val (.int (2 : Int32)), .val (.ref b1), .unset, .unset] [])) _
    refine XS.aloadN X1.here hx rfl (hb hby d16_4) rfl rfl ?_
    show Steps p.tables e below (T1.setTop (mkF m 5 #[.val (.ref a0c), .val (.int (0 : Int32)), .val (.int (2 : Int32)), .val (.ref b1), .unset, .unset] [(.ref a0c)])) _
    refine XS.iloadN X1.here hx rfl (hb hby d16_5) rfl ?_
    show Steps p.tables e below (T1.setTop (mkF m 6 #[.val (.ref a0c), .val (.int (0 : Int32)), .val (.int (2 : Int32)), .val (.ref b1), .unset, .unset] [(.int (0 : Int32)), (.ref a0c)])) _
    refine XS.aloadN X1.here hx rfl (hb hby d16_6) rfl rfl ?_
    show Steps p.tables e below (T1.setTop (mkF m 7 #[.val (.ref a0c), .val (.int (0 : Int32)), .val (.int (2 : Int32)), .val (.ref b1), .unset, .unset] [(.ref b1), (.int (0 : Int32)), (.ref a0c)])) _
    refine XS.iconst X1.here hx rfl (hb hby d16_7) ?_
    show Steps p.tables e below (T1.setTop (mkF m 8 #[.val (.ref a0c), .val (.int (0 : Int32)), .val (.int (2 : Int32)), .val (.ref b1), .unset, .unset] [(.int (0 : Int32)), (.ref b1), (.int (0 : Int32)), (.ref a0c)])) _
    refine XS.iloadN X1.here hx rfl (hb hby d16_8) rfl ?_
    show Steps p.tables e below (T1.setTop (mkF m 9 #[.val (.ref a0c), .val (.int (0 : Int32)), .val (.int (2 : Int32)), .val (.ref b1), .unset, .unset] [(.int (2 : Int32)), (.int (0 : Int32)), (.ref b1), (.int (0 : Int32)), (.ref a0c)])) _
    refine st2 _ ?_
    show Steps p.tables e below (T2.setTop (mkF m 12 #[.val (.ref a0c), .val (.int (0 : Int32)), .val (.int (2 : Int32)), .val (.ref b1), .unset, .unset] [(.int (2 : Int32))])) _
    refine XS.istore X2.here hx rfl (hb hby d16_12) rfl (l' := #[.val (.ref a0c), .val (.int (0 : Int32)), .val (.int (2 : Int32)), .val (.ref b1), .val (.int (2 : Int32)), .unset]) rfl ?_
    show Steps p.tables e below (T2.setTop (mkF m 14 #[.val (.ref a0c), .val (.int (0 : Int32)), .val (.int (2 : Int32)), .val (.ref b1), .val (.int (2 : Int32)), .unset] [])) _
    refine XS.iload X2.here hx rfl (hb hby d16_14) rfl ?_
    show Steps p.tables e below (T2.setTop (mkF m 16 #[.val (.ref a0c), .val (.int (0 : Int32)), .val (.int (2 : Int32)), .val (.ref b1), .val (.int (2 : Int32)), .unset] [(.int (2 : Int32))])) _
    refine XS.iloadN X2.here hx rfl (hb hby d16_16) rfl ?_
    show Steps p.tables e below (T2.setTop (mkF m 17 #[.val (.ref a0c), .val (.int (0 : Int32)), .val (.int (2 : Int32)), .val (.ref b1), .val (.int (2 : Int32)), .unset] [(.int (2 : Int32)), (.int (2 : Int32))])) _
    refine XS.icmpYes X2.here hx rfl (pc0 := 17) (pc' := 57) rfl (hb hby d16_17) rfl (teq (by decide : (2 : Int32) = (2 : Int32))).1 (by decide) (by decide) ?_
    show Steps p.tables e below (T2.setTop (mkF m 57 #[.val (.ref a0c), .val (.int (0 : Int32)), .val (.int (2 : Int32)), .val (.ref b1), .val (.int (2 : Int32)), .unset] [])) _
    refine XS.aloadN X2.here hx rfl (hb hby d16_57) rfl rfl ?_
    show Steps p.tables e below (T2.setTop (mkF m 58 #[.val (.ref a0c), .val (.int (0 : Int32)), .val (.int (2 : Int32)), .val (.ref b1), .val (.int (2 : Int32)), .unset] [(.ref b1)])) _
    jvm_step X2.here [X2.here.top, hx, (hb hby d16_58), X2.method', Bd.returns, Value.isRef, FieldType.isReference]
    first | (intro acts; rw [hr _ acts rfl rfl rfl]) | rw [hr _ _ rfl rfl rfl]
    exact Steps.refl _
  · show Q_rmC1_2 n0 Z cS aRS aEM aUS aSS a0c k0 c0 c1 h0 _ T2.heap _
    exact ⟨b1, k1, rfl, N2, K2, sz_b1, (A1'.keep Kc2), P2_0⟩
theorem ef_rmC2_3 (m : MethodId) (a0c : Addr) (a2b : Addr) : entryFrame m #[(.ref a0c), (.int (0 : Int32)), (.ref a2b), (.int (0 : Int32)), (.int (3 : Int32))] 7 = mkF m 0 #[.val (.ref a0c), .val (.int (0 : Int32)), .val (.ref a2b), .val (.int (0 : Int32)), .val (.int (3 : Int32)), .unset, .unset] [] := by first | (simp [entryFrame, mkF, argsToLocals, Value.category]; done) | rfl
def Q_rmC2_3 (n0 : Nat) (Z : State) (cS : Int32) (aRS : Addr) (aEM : Addr) (aUS : Addr) (aSS : Addr) (a0c : Addr) (a2b : Addr) (k0 : ClassId) (k2 : ClassId) (c0 : Int32) (c1 : Int32) (c2 : Int32) (h0 : Heap) (v : Option Value) (h : Heap) (L : List Loc) : Prop := v = some (.int (3 : Int32)) ∧ Fr n0 L ∧ Keep h0 h [a2b] ∧ (Arv Z h a2b k2 .byte (3 : Int32) [(.int (c0.toInt8.toInt32)), (.int (c1.toInt8.toInt32)), (.int (c2.toInt8.toInt32))] (.int (0 : Int32)))
set_option maxRecDepth 65536 in
set_option maxHeartbeats 40000000 in
theorem rmC2_3 (l : Launch) (Z : State) (a0 : Array Value) (hw : ∀ d ∈ tables_1, d.before a0 Z = true) (ws : List Jvm.Cond) (cS : Int32) (aRS : Addr) (aEM : Addr) (aUS : Addr) (aSS : Addr) (a0c : Addr) (a2b : Addr) (k0 : ClassId) (k2 : ClassId) (c0 : Int32) (c1 : Int32) (c2 : Int32) (h0 : Heap) (n0 : Nat) (O0 : Old Z n0 h0) (GL : GF Z cS aRS aEM aUS aSS) (V_a0c : Arv Z h0 a0c k0 .char (3 : Int32) [(.int c0), (.int c1), (.int c2)] (.int (0 : Int32))) (V_a2b : Arv Z h0 a2b k2 .byte (3 : Int32) [(.int (0 : Int32)), (.int (0 : Int32)), (.int (0 : Int32))] (.int (0 : Int32))) (g_a2b : n0 ≤ a2b) (hc0 : ¬ ((255 : Int32) < c0)) (hc1 : ¬ ((255 : Int32) < c1)) (hc2 : ¬ ((255 : Int32) < c2)) :
    MetFree l MN_0 (head1 (Jvm.Cond.code MN_0 jdk_52_method_21_code 7 (some .int) :: ws) ({ frames := 0, cells := 0, slots := 0, locals := 0 } : Room)) (fun a U => a = #[(.ref a0c), (.int (0 : Int32)), (.ref a2b), (.int (0 : Int32)), (.int (3 : Int32))] ∧ Z.Warmed39 U.vm ∧ U.heap = h0) (fun _ _ _ _ _ => True) (fun _ U o U' => ∃ v L, o = .returned v ∧ Q_rmC2_3 n0 Z cS aRS aEM aUS aSS a0c a2b k0 k2 c0 c1 c2 h0 v U'.heap L ∧ FrameEnd U o U' L ({ frames := 0, cells := 0, slots := 0, locals := 0 } : Room).cells ({ frames := 0, cells := 0, slots := 0, locals := 0 } : Room).slots) := by
  refine MetFree.of_bodySF (plainFor_of_name pn) hisR ?_
  intro p e s m args below meth c s₁ Bd hml0 hP hK
  obtain ⟨rfl, hZ, hh⟩ := hP
  have hx := Bd.exec
  have hby := Bd.bytes
  have hml : c.maxLocals = 7 := hml0
  have hown : s.vm.findClass "java/lang/StringUTF16" = some m.cls := findClass_of_methodNamed Bd.named
  have hnm := (name_of_methodNamed Bd.named Bd.method).1
  have X0 : Stand p l e ({ frames := 0, cells := 0, slots := 0, locals := 0 } : Room) s m #[(.ref a0c), (.int (0 : Int32)), (.ref a2b), (.int (0 : Int32)), (.int (3 : Int32))] below meth c s₁ [] 0 0 := Stand.of_body Bd
  have e0 : s₁.heap = h0 := by rw [← hh, Bd.state]; rfl
  have N0 := Fr.nil n0
  have pre0 : ∀ t, Steps p.tables e below (s₁.setTop (mkF m 0 #[.val (.ref a0c), .val (.int (0 : Int32)), .val (.ref a2b), .val (.int (0 : Int32)), .val (.int (3 : Int32)), .unset, .unset] [])) t → Steps p.tables e below (s₁.setTop (entryFrame m #[(.ref a0c), (.int (0 : Int32)), (.ref a2b), (.int (0 : Int32)), (.int (3 : Int32))] 7)) t := fun t k => castTop (ef_rmC2_3 m a0c a2b) k
  have GL' := GL
  obtain ⟨GCS, GCP, GSR, GSE, GEE, GFE, GSU, GSS⟩ := GL'
  obtain ⟨cl1, Ar1, -, S1, N1_, H1, G1⟩ := id (V_a0c)
  have hin1 : ¬ ((0 : Int32) < 0 ∨ cl1.slots.size ≤ ((0 : Int32)).toNatClampNeg) := inb_of S1 ⟨(by decide), (by decide)⟩
  have hat1 : cl1.slots[((0 : Int32)).toNatClampNeg]? = some (.int c0) := H1.at hin1 rfl
  obtain ⟨cl2, Ar2, q2, S2, N2_, H2, G2⟩ := id (V_a2b)
  have hin2 : ¬ ((0 : Int32) < 0 ∨ cl2.slots.size ≤ ((0 : Int32)).toNatClampNeg) := inb_of S2 ⟨(by decide), (by decide)⟩
  obtain ⟨T2, h2, X2, e2, W2, st2⟩ := stB X0 hx hZ e0 Ar2 (j := (0 : Int32)) hin2 (g := (mkF m 31 #[.val (.ref a0c), .val (.int (0 : Int32)), .val (.ref a2b), .val (.int (0 : Int32)), .val (.int (3 : Int32)), .val (.int (0 : Int32)), .val (.int c0)] [(.int (c0.toInt8.toInt32)), (.int (0 : Int32)), (.ref a2b)])) rfl rfl (hb hby d17_31)
  have K2 : Keep h0 h2 [a2b] := (Keep.refl h0 [a2b]).wr W2 (Or.inl (List.mem_of_getElem? (i := 0) rfl))
  have O2 := O0.wr W2 g_a2b
  have N2 := Fr.snoc X2 N0 g_a2b
  have V2' : Arv Z h2 a2b k2 .byte (3 : Int32) [(.int ((c0.toInt8.toInt32)).toInt8.toInt32), (.int (0 : Int32)), (.int (0 : Int32))] (.int (0 : Int32)) := Arv.set Ar2 q2 S2 N2_ H2 G2 (fits_nar_byte _) W2 0 rfl (Nat.le_of_ble_eq_true rfl)
  have V2 : Arv Z h2 a2b k2 .byte (3 : Int32) [(.int (c0.toInt8.toInt32)), (.int (0 : Int32)), (.int (0 : Int32))] (.int (0 : Int32)) := by
    rw [own_b2 c0] at V2'
    exact V2'
  obtain ⟨cl3, Ar3, -, S3, N3_, H3, G3⟩ := id ((V_a0c.other W2 (own_neArv V_a0c V_a2b (by decide))))
  have hin3 : ¬ ((1 : Int32) < 0 ∨ cl3.slots.size ≤ ((1 : Int32)).toNatClampNeg) := inb_of S3 ⟨(by decide), (by decide)⟩
  have hat3 : cl3.slots[((1 : Int32)).toNatClampNeg]? = some (.int c1) := H3.at hin3 rfl
  obtain ⟨cl4, Ar4, q4, S4, N4_, H4, G4⟩ := id (V2)
  have hin4 : ¬ ((1 : Int32) < 0 ∨ cl4.slots.size ≤ ((1 : Int32)).toNatClampNeg) := inb_of S4 ⟨(by decide), (by decide)⟩
  obtain ⟨T4, h4, X4, e4, W4, st4⟩ := stB X2 hx hZ e2 Ar4 (j := (1 : Int32)) hin4 (g := (mkF m 31 #[.val (.ref a0c), .val (.int (1 : Int32)), .val (.ref a2b), .val (.int (1 : Int32)), .val (.int (3 : Int32)), .val (.int (1 : Int32)), .val (.int c1)] [(.int (c1.toInt8.toInt32)), (.int (1 : Int32)), (.ref a2b)])) rfl rfl (hb hby d17_31)
  have K4 : Keep h0 h4 [a2b] := K2.wr W4 (Or.inl (List.mem_of_getElem? (i := 0) rfl))
  have O4 := O2.wr W4 g_a2b
  have N4 := Fr.snoc X4 N2 g_a2b
  have V4' : Arv Z h4 a2b k2 .byte (3 : Int32) [(.int (c0.toInt8.toInt32)), (.int ((c1.toInt8.toInt32)).toInt8.toInt32), (.int (0 : Int32))] (.int (0 : Int32)) := Arv.set Ar4 q4 S4 N4_ H4 G4 (fits_nar_byte _) W4 1 rfl (Nat.le_of_ble_eq_true rfl)
  have V4 : Arv Z h4 a2b k2 .byte (3 : Int32) [(.int (c0.toInt8.toInt32)), (.int (c1.toInt8.toInt32)), (.int (0 : Int32))] (.int (0 : Int32)) := by
    rw [own_b2 c1] at V4'
    exact V4'
  obtain ⟨cl5, Ar5, -, S5, N5_, H5, G5⟩ := id (((V_a0c.other W2 (own_neArv V_a0c V_a2b (by decide))).other W4 (own_neArv V_a0c V_a2b (by decide))))
  have hin5 : ¬ ((2 : Int32) < 0 ∨ cl5.slots.size ≤ ((2 : Int32)).toNatClampNeg) := inb_of S5 ⟨(by decide), (by decide)⟩
  have hat5 : cl5.slots[((2 : Int32)).toNatClampNeg]? = some (.int c2) := H5.at hin5 rfl
  obtain ⟨cl6, Ar6, q6, S6, N6_, H6, G6⟩ := id (V4)
  have hin6 : ¬ ((2 : Int32) < 0 ∨ cl6.slots.size ≤ ((2 : Int32)).toNatClampNeg) := inb_of S6 ⟨(by decide), (by decide)⟩
  obtain ⟨T6, h6, X6, e6, W6, st6⟩ := stB X4 hx hZ e4 Ar6 (j := (2 : Int32)) hin6 (g := (mkF m 31 #[.val (.ref a0c), .val (.int (2 : Int32)), .val (.ref a2b), .val (.int (2 : Int32)), .val (.int (3 : Int32)), .val (.int (2 : Int32)), .val (.int c2)] [(.int (c2.toInt8.toInt32)), (.int (2 : Int32)), (.ref a2b)])) rfl rfl (hb hby d17_31)
  have K6 : Keep h0 h6 [a2b] := K4.wr W6 (Or.inl (List.mem_of_getElem? (i := 0) rfl))
  have O6 := O4.wr W6 g_a2b
  have N6 := Fr.snoc X6 N4 g_a2b
  have V6' : Arv Z h6 a2b k2 .byte (3 : Int32) [(.int (c0.toInt8.toInt32)), (.int (c1.toInt8.toInt32)), (.int ((c2.toInt8.toInt32)).toInt8.toInt32)] (.int (0 : Int32)) := Arv.set Ar6 q6 S6 N6_ H6 G6 (fits_nar_byte _) W6 2 rfl (Nat.le_of_ble_eq_true rfl)
  have V6 : Arv Z h6 a2b k2 .byte (3 : Int32) [(.int (c0.toInt8.toInt32)), (.int (c1.toInt8.toInt32)), (.int (c2.toInt8.toInt32))] (.int (0 : Int32)) := by
    rw [own_b2 c2] at V6'
    exact V6'
  obtain ⟨fs, hr, hrun, hended, hW, hsame⟩ := X6.leave (v := some (.int (3 : Int32))) (fun h => by rw [Bd.returns] at h; cases h)
  refine ⟨_, _, pre0 _ ?_, hrun, hended, _, _, rfl, ?_, ⟨_, rfl⟩, hW, hsame.mono (by decide) (by decide)⟩
  · show Steps p.tables e below (s₁.setTop (mkF m 0 #[.val (.ref a0c), .val (.int (0 : Int32)), .val (.ref a2b), .val (.int (0 : Int32)), .val (.int (3 : Int32)), .unset, .unset] [])) _
    refine XS.iconst X0.here hx rfl (hb hby d17_0) ?_
    show Steps p.tables e below (s₁.setTop (mkF m 1 #[.val (.ref a0c), .val (.int (0 : Int32)), .val (.ref a2b), .val (.int (0 : Int32)), .val (.int (3 : Int32)), .unset, .unset] [(.int (0 : Int32))])) _
    refine XS.istore X0.here hx rfl (hb hby d17_1) rfl (l' := #[.val (.ref a0c), .val (.int (0 : Int32)), .val (.ref a2b), .val (.int (0 : Int32)), .val (.int (3 : Int32)), .val (.int (0 : Int32)), .unset]) rfl ?_
    show Steps p.tables e below (s₁.setTop (mkF m 3 #[.val (.ref a0c), .val (.int (0 : Int32)), .val (.ref a2b), .val (.int (0 : Int32)), .val (.int (3 : Int32)), .val (.int (0 : Int32)), .unset] [])) _
    refine XS.iload X0.here hx rfl (hb hby d17_3) rfl ?_
    show Steps p.tables e below (s₁.setTop (mkF m 5 #[.val (.ref a0c), .val (.int (0 : Int32)), .val (.ref a2b), .val (.int (0 : Int32)), .val (.int (3 : Int32)), .val (.int (0 : Int32)), .unset] [(.int (0 : Int32))])) _
    refine XS.iload X0.here hx rfl (hb hby d17_5) rfl ?_
    show Steps p.tables e below (s₁.setTop (mkF m 7 #[.val (.ref a0c), .val (.int (0 : Int32)), .val (.ref a2b), .val (.int (0 : Int32)), .val (.int (3 : Int32)), .val (.int (0 : Int32)), .unset] [(.int (3 : Int32)), (.int (0 : Int32))])) _
    refine XS.icmpNo X0.here hx rfl (hb hby d17_7) rfl (tlt (by decide : (0 : Int32) < (3 : Int32))).2.1 ?_
    show Steps p.tables e below (s₁.setTop (mkF m 10 #[.val (.ref a0c), .val (.int (0 : Int32)), .val (.ref a2b), .val (.int (0 : Int32)), .val (.int (3 : Int32)), .val (.int (0 : Int32)), .unset] [])) _
    refine XS.aloadN X0.here hx rfl (hb hby d17_10) rfl rfl ?_
    show Steps p.tables e below (s₁.setTop (mkF m 11 #[.val (.ref a0c), .val (.int (0 : Int32)), .val (.ref a2b), .val (.int (0 : Int32)), .val (.int (3 : Int32)), .val (.int (0 : Int32)), .unset] [(.ref a0c)])) _
    refine XS.iloadN X0.here hx rfl (hb hby d17_11) rfl ?_
    show Steps p.tables e below (s₁.setTop (mkF m 12 #[.val (.ref a0c), .val (.int (0 : Int32)), .val (.ref a2b), .val (.int (0 : Int32)), .val (.int (3 : Int32)), .val (.int (0 : Int32)), .unset] [(.int (0 : Int32)), (.ref a0c)])) _
    refine X0.caload hx (j := (0 : Int32)) (v := (.int c0)) (by rw [e0]; exact Ar1.1) (State.isArrayOf_alike hZ.alike Ar1.2.1) Ar1.2.2 hin1 hat1 (g := (mkF m 12 #[.val (.ref a0c), .val (.int (0 : Int32)), .val (.ref a2b), .val (.int (0 : Int32)), .val (.int (3 : Int32)), .val (.int (0 : Int32)), .unset] [(.int (0 : Int32)), (.ref a0c)])) rfl rfl (hb hby d17_12) _ ?_
    show Steps p.tables e below (s₁.setTop (mkF m 13 #[.val (.ref a0c), .val (.int (0 : Int32)), .val (.ref a2b), .val (.int (0 : Int32)), .val (.int (3 : Int32)), .val (.int (0 : Int32)), .unset] [(.int c0)])) _
    refine XS.istore X0.here hx rfl (hb hby d17_13) rfl (l' := #[.val (.ref a0c), .val (.int (0 : Int32)), .val (.ref a2b), .val (.int (0 : Int32)), .val (.int (3 : Int32)), .val (.int (0 : Int32)), .val (.int c0)]) rfl ?_
    show Steps p.tables e below (s₁.setTop (mkF m 15 #[.val (.ref a0c), .val (.int (0 : Int32)), .val (.ref a2b), .val (.int (0 : Int32)), .val (.int (3 : Int32)), .val (.int (0 : Int32)), .val (.int c0)] [])) _
    refine XS.iload X0.here hx rfl (hb hby d17_15) rfl ?_
    show Steps p.tables e below (s₁.setTop (mkF m 17 #[.val (.ref a0c), .val (.int (0 : Int32)), .val (.ref a2b), .val (.int (0 : Int32)), .val (.int (3 : Int32)), .val (.int (0 : Int32)), .val (.int c0)] [(.int c0)])) _
    refine XS.sipush X0.here hx rfl (hb hby d17_17) ?_
    show Steps p.tables e below (s₁.setTop (mkF m 20 #[.val (.ref a0c), .val (.int (0 : Int32)), .val (.ref a2b), .val (.int (0 : Int32)), .val (.int (3 : Int32)), .val (.int (0 : Int32)), .val (.int c0)] [(.int (255 : Int32)), (.int c0)])) _
    refine XS.icmpYes X0.here hx rfl (pc0 := 20) (pc' := 26) rfl (hb hby d17_20) rfl (flt hc0).2.2.2 (by decide) (by decide) ?_
    show Steps p.tables e below (s₁.setTop (mkF m 26 #[.val (.ref a0c), .val (.int (0 : Int32)), .val (.ref a2b), .val (.int (0 : Int32)), .val (.int (3 : Int32)), .val (.int (0 : Int32)), .val (.int c0)] [])) _
    refine XS.aloadN X0.here hx rfl (hb hby d17_26) rfl rfl ?_
    show Steps p.tables e below (s₁.setTop (mkF m 27 #[.val (.ref a0c), .val (.int (0 : Int32)), .val (.ref a2b), .val (.int (0 : Int32)), .val (.int (3 : Int32)), .val (.int (0 : Int32)), .val (.int c0)] [(.ref a2b)])) _
    refine XS.iloadN X0.here hx rfl (hb hby d17_27) rfl ?_
    show Steps p.tables e below (s₁.setTop (mkF m 28 #[.val (.ref a0c), .val (.int (0 : Int32)), .val (.ref a2b), .val (.int (0 : Int32)), .val (.int (3 : Int32)), .val (.int (0 : Int32)), .val (.int c0)] [(.int (0 : Int32)), (.ref a2b)])) _
    refine XS.iload X0.here hx rfl (hb hby d17_28) rfl ?_
    show Steps p.tables e below (s₁.setTop (mkF m 30 #[.val (.ref a0c), .val (.int (0 : Int32)), .val (.ref a2b), .val (.int (0 : Int32)), .val (.int (3 : Int32)), .val (.int (0 : Int32)), .val (.int c0)] [(.int c0), (.int (0 : Int32)), (.ref a2b)])) _
    refine XS.i2b X0.here hx rfl (hb hby d17_30) rfl ?_
    show Steps p.tables e below (s₁.setTop (mkF m 31 #[.val (.ref a0c), .val (.int (0 : Int32)), .val (.ref a2b), .val (.int (0 : Int32)), .val (.int (3 : Int32)), .val (.int (0 : Int32)), .val (.int c0)] [(.int (c0.toInt8.toInt32)), (.int (0 : Int32)), (.ref a2b)])) _
    refine st2 _ ?_
    show Steps p.tables e below (T2.setTop (mkF m 32 #[.val (.ref a0c), .val (.int (0 : Int32)), .val (.ref a2b), .val (.int (0 : Int32)), .val (.int (3 : Int32)), .val (.int (0 : Int32)), .val (.int c0)] [])) _
    refine XS.iinc X2.here hx rfl (hb hby d17_32) rfl (l' := #[.val (.ref a0c), .val (.int (1 : Int32)), .val (.ref a2b), .val (.int (0 : Int32)), .val (.int (3 : Int32)), .val (.int (0 : Int32)), .val (.int c0)]) rfl ?_
    show Steps p.tables e below (T2.setTop (mkF m 35 #[.val (.ref a0c), .val (.int (1 : Int32)), .val (.ref a2b), .val (.int (0 : Int32)), .val (.int (3 : Int32)), .val (.int (0 : Int32)), .val (.int c0)] [])) _
    refine XS.iinc X2.here hx rfl (hb hby d17_35) rfl (l' := #[.val (.ref a0c), .val (.int (1 : Int32)), .val (.ref a2b), .val (.int (1 : Int32)), .val (.int (3 : Int32)), .val (.int (0 : Int32)), .val (.int c0)]) rfl ?_
    show Steps p.tables e below (T2.setTop (mkF m 38 #[.val (.ref a0c), .val (.int (1 : Int32)), .val (.ref a2b), .val (.int (1 : Int32)), .val (.int (3 : Int32)), .val (.int (0 : Int32)), .val (.int c0)] [])) _
    refine XS.iinc X2.here hx rfl (hb hby d17_38) rfl (l' := #[.val (.ref a0c), .val (.int (1 : Int32)), .val (.ref a2b), .val (.int (1 : Int32)), .val (.int (3 : Int32)), .val (.int (1 : Int32)), .val (.int c0)]) rfl ?_
    show Steps p.tables e below (T2.setTop (mkF m 41 #[.val (.ref a0c), .val (.int (1 : Int32)), .val (.ref a2b), .val (.int (1 : Int32)), .val (.int (3 : Int32)), .val (.int (1 : Int32)), .val (.int c0)] [])) _
    refine XS.goto X2.here hx rfl (pc0 := 41) (pc' := 3) rfl (hb hby d17_41) (by decide) (by decide) ?_
    show Steps p.tables e below (T2.setTop (mkF m 3 #[.val (.ref a0c), .val (.int (1 : Int32)), .val (.ref a2b), .val (.int (1 : Int32)), .val (.int (3 : Int32)), .val (.int (1 : Int32)), .val (.int c0)] [])) _
    refine XS.iload X2.here hx rfl (hb hby d17_3) rfl ?_
    show Steps p.tables e below (T2.setTop (mkF m 5 #[.val (.ref a0c), .val (.int (1 : Int32)), .val (.ref a2b), .val (.int (1 : Int32)), .val (.int (3 : Int32)), .val (.int (1 : Int32)), .val (.int c0)] [(.int (1 : Int32))])) _
    refine XS.iload X2.here hx rfl (hb hby d17_5) rfl ?_
    show Steps p.tables e below (T2.setTop (mkF m 7 #[.val (.ref a0c), .val (.int (1 : Int32)), .val (.ref a2b), .val (.int (1 : Int32)), .val (.int (3 : Int32)), .val (.int (1 : Int32)), .val (.int c0)] [(.int (3 : Int32)), (.int (1 : Int32))])) _
    refine XS.icmpNo X2.here hx rfl (hb hby d17_7) rfl (tlt (by decide : (1 : Int32) < (3 : Int32))).2.1 ?_
    show Steps p.tables e below (T2.setTop (mkF m 10 #[.val (.ref a0c), .val (.int (1 : Int32)), .val (.ref a2b), .val (.int (1 : Int32)), .val (.int (3 : Int32)), .val (.int (1 : Int32)), .val (.int c0)] [])) _
    refine XS.aloadN X2.here hx rfl (hb hby d17_10) rfl rfl ?_
    show Steps p.tables e below (T2.setTop (mkF m 11 #[.val (.ref a0c), .val (.int (1 : Int32)), .val (.ref a2b), .val (.int (1 : Int32)), .val (.int (3 : Int32)), .val (.int (1 : Int32)), .val (.int c0)] [(.ref a0c)])) _
    refine XS.iloadN X2.here hx rfl (hb hby d17_11) rfl ?_
    show Steps p.tables e below (T2.setTop (mkF m 12 #[.val (.ref a0c), .val (.int (1 : Int32)), .val (.ref a2b), .val (.int (1 : Int32)), .val (.int (3 : Int32)), .val (.int (1 : Int32)), .val (.int c0)] [(.int (1 : Int32)), (.ref a0c)])) _
    refine X2.caload hx (j := (1 : Int32)) (v := (.int c1)) (by rw [e2]; exact Ar3.1) (State.isArrayOf_alike hZ.alike Ar3.2.1) Ar3.2.2 hin3 hat3 (g := (mkF m 12 #[.val (.ref a0c), .val (.int (1 : Int32)), .val (.ref a2b), .val (.int (1 : Int32)), .val (.int (3 : Int32)), .val (.int (1 : Int32)), .val (.int c0)] [(.int (1 : Int32)), (.ref a0c)])) rfl rfl (hb hby d17_12) _ ?_
    show Steps p.tables e below (T2.setTop (mkF m 13 #[.val (.ref a0c), .val (.int (1 : Int32)), .val (.ref a2b), .val (.int (1 : Int32)), .val (.int (3 : Int32)), .val (.int (1 : Int32)), .val (.int c0)] [(.int c1)])) _
    refine XS.istore X2.here hx rfl (hb hby d17_13) rfl (l' := #[.val (.ref a0c), .val (.int (1 : Int32)), .val (.ref a2b), .val (.int (1 : Int32)), .val (.int (3 : Int32)), .val (.int (1 : Int32)), .val (.int c1)]) rfl ?_
    show Steps p.tables e below (T2.setTop (mkF m 15 #[.val (.ref a0c), .val (.int (1 : Int32)), .val (.ref a2b), .val (.int (1 : Int32)), .val (.int (3 : Int32)), .val (.int (1 : Int32)), .val (.int c1)] [])) _
    refine XS.iload X2.here hx rfl (hb hby d17_15) rfl ?_
    show Steps p.tables e below (T2.setTop (mkF m 17 #[.val (.ref a0c), .val (.int (1 : Int32)), .val (.ref a2b), .val (.int (1 : Int32)), .val (.int (3 : Int32)), .val (.int (1 : Int32)), .val (.int c1)] [(.int c1)])) _
    refine XS.sipush X2.here hx rfl (hb hby d17_17) ?_
    show Steps p.tables e below (T2.setTop (mkF m 20 #[.val (.ref a0c), .val (.int (1 : Int32)), .val (.ref a2b), .val (.int (1 : Int32)), .val (.int (3 : Int32)), .val (.int (1 : Int32)), .val (.int c1)] [(.int (255 : Int32)), (.int c1)])) _
    refine XS.icmpYes X2.here hx rfl (pc0 := 20) (pc' := 26) rfl (hb hby d17_20) rfl (flt hc1).2.2.2 (by decide) (by decide) ?_
    show Steps p.tables e below (T2.setTop (mkF m 26 #[.val (.ref a0c), .val (.int (1 : Int32)), .val (.ref a2b), .val (.int (1 : Int32)), .val (.int (3 : Int32)), .val (.int (1 : Int32)), .val (.int c1)] [])) _
    refine XS.aloadN X2.here hx rfl (hb hby d17_26) rfl rfl ?_
    show Steps p.tables e below (T2.setTop (mkF m 27 #[.val (.ref a0c), .val (.int (1 : Int32)), .val (.ref a2b), .val (.int (1 : Int32)), .val (.int (3 : Int32)), .val (.int (1 : Int32)), .val (.int c1)] [(.ref a2b)])) _
    refine XS.iloadN X2.here hx rfl (hb hby d17_27) rfl ?_
    show Steps p.tables e below (T2.setTop (mkF m 28 #[.val (.ref a0c), .val (.int (1 : Int32)), .val (.ref a2b), .val (.int (1 : Int32)), .val (.int (3 : Int32)), .val (.int (1 : Int32)), .val (.int c1)] [(.int (1 : Int32)), (.ref a2b)])) _
    refine XS.iload X2.here hx rfl (hb hby d17_28) rfl ?_
    show Steps p.tables e below (T2.setTop (mkF m 30 #[.val (.ref a0c), .val (.int (1 : Int32)), .val (.ref a2b), .val (.int (1 : Int32)), .val (.int (3 : Int32)), .val (.int (1 : Int32)), .val (.int c1)] [(.int c1), (.int (1 : Int32)), (.ref a2b)])) _
    refine XS.i2b X2.here hx rfl (hb hby d17_30) rfl ?_
    show Steps p.tables e below (T2.setTop (mkF m 31 #[.val (.ref a0c), .val (.int (1 : Int32)), .val (.ref a2b), .val (.int (1 : Int32)), .val (.int (3 : Int32)), .val (.int (1 : Int32)), .val (.int c1)] [(.int (c1.toInt8.toInt32)), (.int (1 : Int32)), (.ref a2b)])) _
    refine st4 _ ?_
    show Steps p.tables e below (T4.setTop (mkF m 32 #[.val (.ref a0c), .val (.int (1 : Int32)), .val (.ref a2b), .val (.int (1 : Int32)), .val (.int (3 : Int32)), .val (.int (1 : Int32)), .val (.int c1)] [])) _
    refine XS.iinc X4.here hx rfl (hb hby d17_32) rfl (l' := #[.val (.ref a0c), .val (.int (2 : Int32)), .val (.ref a2b), .val (.int (1 : Int32)), .val (.int (3 : Int32)), .val (.int (1 : Int32)), .val (.int c1)]) rfl ?_
    show Steps p.tables e below (T4.setTop (mkF m 35 #[.val (.ref a0c), .val (.int (2 : Int32)), .val (.ref a2b), .val (.int (1 : Int32)), .val (.int (3 : Int32)), .val (.int (1 : Int32)), .val (.int c1)] [])) _
    refine XS.iinc X4.here hx rfl (hb hby d17_35) rfl (l' := #[.val (.ref a0c), .val (.int (2 : Int32)), .val (.ref a2b), .val (.int (2 : Int32)), .val (.int (3 : Int32)), .val (.int (1 : Int32)), .val (.int c1)]) rfl ?_
    show Steps p.tables e below (T4.setTop (mkF m 38 #[.val (.ref a0c), .val (.int (2 : Int32)), .val (.ref a2b), .val (.int (2 : Int32)), .val (.int (3 : Int32)), .val (.int (1 : Int32)), .val (.int c1)] [])) _
    refine XS.iinc X4.here hx rfl (hb hby d17_38) rfl (l' := #[.val (.ref a0c), .val (.int (2 : Int32)), .val (.ref a2b), .val (.int (2 : Int32)), .val (.int (3 : Int32)), .val (.int (2 : Int32)), .val (.int c1)]) rfl ?_
    show Steps p.tables e below (T4.setTop (mkF m 41 #[.val (.ref a0c), .val (.int (2 : Int32)), .val (.ref a2b), .val (.int (2 : Int32)), .val (.int (3 : Int32)), .val (.int (2 : Int32)), .val (.int c1)] [])) _
    refine XS.goto X4.here hx rfl (pc0 := 41) (pc' := 3) rfl (hb hby d17_41) (by decide) (by decide) ?_
    show Steps p.tables e below (T4.setTop (mkF m 3 #[.val (.ref a0c), .val (.int (2 : Int32)), .val (.ref a2b), .val (.int (2 : Int32)), .val (.int (3 : Int32)), .val (.int (2 : Int32)), .val (.int c1)] [])) _
    refine XS.iload X4.here hx rfl (hb hby d17_3) rfl ?_
    show Steps p.tables e below (T4.setTop (mkF m 5 #[.val (.ref a0c), .val (.int (2 : Int32)), .val (.ref a2b), .val (.int (2 : Int32)), .val (.int (3 : Int32)), .val (.int (2 : Int32)), .val (.int c1)] [(.int (2 : Int32))])) _
    refine XS.iload X4.here hx rfl (hb hby d17_5) rfl ?_
    show Steps p.tables e below (T4.setTop (mkF m 7 #[.val (.ref a0c), .val (.int (2 : Int32)), .val (.ref a2b), .val (.int (2 : Int32)), .val (.int (3 : Int32)), .val (.int (2 : Int32)), .val (.int c1)] [(.int (3 : Int32)), (.int (2 : Int32))])) _
    refine XS.icmpNo X4.here hx rfl (hb hby d17_7) rfl (tlt (by decide : (2 : Int32) < (3 : Int32))).2.1 ?_
    show Steps p.tables e below (T4.setTop (mkF m 10 #[.val (.ref a0c), .val (.int (2 : Int32)), .val (.ref a2b), .val (.int (2 : Int32)), .val (.int (3 : Int32)), .val (.int (2 : Int32)), .val (.int c1)] [])) _
    refine XS.aloadN X4.here hx rfl (hb hby d17_10) rfl rfl ?_
    show Steps p.tables e below (T4.setTop (mkF m 11 #[.val (.ref a0c), .val (.int (2 : Int32)), .val (.ref a2b), .val (.int (2 : Int32)), .val (.int (3 : Int32)), .val (.int (2 : Int32)), .val (.int c1)] [(.ref a0c)])) _
    refine XS.iloadN X4.here hx rfl (hb hby d17_11) rfl ?_
    show Steps p.tables e below (T4.setTop (mkF m 12 #[.val (.ref a0c), .val (.int (2 : Int32)), .val (.ref a2b), .val (.int (2 : Int32)), .val (.int (3 : Int32)), .val (.int (2 : Int32)), .val (.int c1)] [(.int (2 : Int32)), (.ref a0c)])) _
    refine X4.caload hx (j := (2 : Int32)) (v := (.int c2)) (by rw [e4]; exact Ar5.1) (State.isArrayOf_alike hZ.alike Ar5.2.1) Ar5.2.2 hin5 hat5 (g := (mkF m 12 #[.val (.ref a0c), .val (.int (2 : Int32)), .val (.ref a2b), .val (.int (2 : Int32)), .val (.int (3 : Int32)), .val (.int (2 : Int32)), .val (.int c1)] [(.int (2 : Int32)), (.ref a0c)])) rfl rfl (hb hby d17_12) _ ?_
    show Steps p.tables e below (T4.setTop (mkF m 13 #[.val (.ref a0c), .val (.int (2 : Int32)), .val (.ref a2b), .val (.int (2 : Int32)), .val (.int (3 : Int32)), .val (.int (2 : Int32)), .val (.int c1)] [(.int c2)])) _
    refine XS.istore X4.here hx rfl (hb hby d17_13) rfl (l' := #[.val (.ref a0c), .val (.int (2 : Int32)), .val (.ref a2b), .val (.int (2 : Int32)), .val (.int (3 : Int32)), .val (.int (2 : Int32)), .val (.int c2)]) rfl ?_
    show Steps p.tables e below (T4.setTop (mkF m 15 #[.val (.ref a0c), .val (.int (2 : Int32)), .val (.ref a2b), .val (.int (2 : Int32)), .val (.int (3 : Int32)), .val (.int (2 : Int32)), .val (.int c2)] [])) _
    refine XS.iload X4.here hx rfl (hb hby d17_15) rfl ?_
    show Steps p.tables e below (T4.setTop (mkF m 17 #[.val (.ref a0c), .val (.int (2 : Int32)), .val (.ref a2b), .val (.int (2 : Int32)), .val (.int (3 : Int32)), .val (.int (2 : Int32)), .val (.int c2)] [(.int c2)])) _
    refine XS.sipush X4.here hx rfl (hb hby d17_17) ?_
    show Steps p.tables e below (T4.setTop (mkF m 20 #[.val (.ref a0c), .val (.int (2 : Int32)), .val (.ref a2b), .val (.int (2 : Int32)), .val (.int (3 : Int32)), .val (.int (2 : Int32)), .val (.int c2)] [(.int (255 : Int32)), (.int c2)])) _
    refine XS.icmpYes X4.here hx rfl (pc0 := 20) (pc' := 26) rfl (hb hby d17_20) rfl (flt hc2).2.2.2 (by decide) (by decide) ?_
    show Steps p.tables e below (T4.setTop (mkF m 26 #[.val (.ref a0c), .val (.int (2 : Int32)), .val (.ref a2b), .val (.int (2 : Int32)), .val (.int (3 : Int32)), .val (.int (2 : Int32)), .val (.int c2)] [])) _
    refine XS.aloadN X4.here hx rfl (hb hby d17_26) rfl rfl ?_
    show Steps p.tables e below (T4.setTop (mkF m 27 #[.val (.ref a0c), .val (.int (2 : Int32)), .val (.ref a2b), .val (.int (2 : Int32)), .val (.int (3 : Int32)), .val (.int (2 : Int32)), .val (.int c2)] [(.ref a2b)])) _
    refine XS.iloadN X4.here hx rfl (hb hby d17_27) rfl ?_
    show Steps p.tables e below (T4.setTop (mkF m 28 #[.val (.ref a0c), .val (.int (2 : Int32)), .val (.ref a2b), .val (.int (2 : Int32)), .val (.int (3 : Int32)), .val (.int (2 : Int32)), .val (.int c2)] [(.int (2 : Int32)), (.ref a2b)])) _
    refine XS.iload X4.here hx rfl (hb hby d17_28) rfl ?_
    show Steps p.tables e below (T4.setTop (mkF m 30 #[.val (.ref a0c), .val (.int (2 : Int32)), .val (.ref a2b), .val (.int (2 : Int32)), .val (.int (3 : Int32)), .val (.int (2 : Int32)), .val (.int c2)] [(.int c2), (.int (2 : Int32)), (.ref a2b)])) _
    refine XS.i2b X4.here hx rfl (hb hby d17_30) rfl ?_
    show Steps p.tables e below (T4.setTop (mkF m 31 #[.val (.ref a0c), .val (.int (2 : Int32)), .val (.ref a2b), .val (.int (2 : Int32)), .val (.int (3 : Int32)), .val (.int (2 : Int32)), .val (.int c2)] [(.int (c2.toInt8.toInt32)), (.int (2 : Int32)), (.ref a2b)])) _
    refine st6 _ ?_
    show Steps p.tables e below (T6.setTop (mkF m 32 #[.val (.ref a0c), .val (.int (2 : Int32)), .val (.ref a2b), .val (.int (2 : Int32)), .val (.int (3 : Int32)), .val (.int (2 : Int32)), .val (.int c2)] [])) _
    refine XS.iinc X6.here hx rfl (hb hby d17_32) rfl (l' := #[.val (.ref a0c), .val (.int (3 : Int32)), .val (.ref a2b), .val (.int (2 : Int32)), .val (.int (3 : Int32)), .val (.int (2 : Int32)), .val (.int c2)]) rfl ?_
    show Steps p.tables e below (T6.setTop (mkF m 35 #[.val (.ref a0c), .val (.int (3 : Int32)), .val (.ref a2b), .val (.int (2 : Int32)), .val (.int (3 : Int32)), .val (.int (2 : Int32)), .val (.int c2)] [])) _
    refine XS.iinc X6.here hx rfl (hb hby d17_35) rfl (l' := #[.val (.ref a0c), .val (.int (3 : Int32)), .val (.ref a2b), .val (.int (3 : Int32)), .val (.int (3 : Int32)), .val (.int (2 : Int32)), .val (.int c2)]) rfl ?_
    show Steps p.tables e below (T6.setTop (mkF m 38 #[.val (.ref a0c), .val (.int (3 : Int32)), .val (.ref a2b), .val (.int (3 : Int32)), .val (.int (3 : Int32)), .val (.int (2 : Int32)), .val (.int c2)] [])) _
    refine XS.iinc X6.here hx rfl (hb hby d17_38) rfl (l' := #[.val (.ref a0c), .val (.int (3 : Int32)), .val (.ref a2b), .val (.int (3 : Int32)), .val (.int (3 : Int32)), .val (.int (3 : Int32)), .val (.int c2)]) rfl ?_
    show Steps p.tables e below (T6.setTop (mkF m 41 #[.val (.ref a0c), .val (.int (3 : Int32)), .val (.ref a2b), .val (.int (3 : Int32)), .val (.int (3 : Int32)), .val (.int (3 : Int32)), .val (.int c2)] [])) _
    refine XS.goto X6.here hx rfl (pc0 := 41) (pc' := 3) rfl (hb hby d17_41) (by decide) (by decide) ?_
    show Steps p.tables e below (T6.setTop (mkF m 3 #[.val (.ref a0c), .val (.int (3 : Int32)), .val (.ref a2b), .val (.int (3 : Int32)), .val (.int (3 : Int32)), .val (.int (3 : Int32)), .val (.int c2)] [])) _
    refine XS.iload X6.here hx rfl (hb hby d17_3) rfl ?_
    show Steps p.tables e below (T6.setTop (mkF m 5 #[.val (.ref a0c), .val (.int (3 : Int32)), .val (.ref a2b), .val (.int (3 : Int32)), .val (.int (3 : Int32)), .val (.int (3 : Int32)), .val (.int c2)] [(.int (3 : Int32))])) _
    refine XS.iload X6.here hx rfl (hb hby d17_5) rfl ?_
    show Steps p.tables e below (T6.setTop (mkF m 7 #[.val (.ref a0c), .val (.int (3 : Int32)), .val (.ref a2b), .val (.int (3 : Int32)), .val (.int (3 : Int32)), .val (.int (3 : Int32)), .val (.int c2)] [(.int (3 : Int32)), (.int (3 : Int32))])) _
    refine XS.icmpYes X6.here hx rfl (pc0 := 7) (pc' := 44) rfl (hb hby d17_7) rfl (flt (by decide : ¬ ((3 : Int32) < (3 : Int32)))).2.1 (by decide) (by decide) ?_
    show Steps p.tables e below (T6.setTop (mkF m 44 #[.val (.ref a0c), .val (.int (3 : Int32)), .val (.ref a2b), .val (.int (3 : Int32)), .val (.int (3 : Int32)), .val (.int (3 : Int32)), .val (.int c2)] [])) _
    refine XS.iload X6.here hx rfl (hb hby d17_44) rfl ?_
    show Steps p.tables e below (T6.setTop (mkF m 46 #[.val (.ref a0c), .val (.int (3 : Int32)), .val (.ref a2b), .val (.int (3 : Int32)), .val (.int (3 : Int32)), .val (.int (3 : Int32)), .val (.int c2)] [(.int (3 : Int32))])) _
    exact retI X6 hx Bd.returns (hb hby d17_46) hr
  · show Q_rmC2_3 n0 Z cS aRS aEM aUS aSS a0c a2b k0 k2 c0 c1 c2 h0 _ T6.heap _
    rw [e6]
    exact ⟨rfl, N6, K6, V6⟩
theorem ef_rmC1_3 (m : MethodId) (a0c : Addr) : entryFrame m #[(.ref a0c), (.int (0 : Int32)), (.int (3 : Int32))] 6 = mkF m 0 #[.val (.ref a0c), .val (.int (0 : Int32)), .val (.int (3 : Int32)), .unset, .unset, .unset] [] := by first | (simp [entryFrame, mkF, argsToLocals, Value.category]; done) | rfl
def Q_rmC1_3 (n0 : Nat) (Z : State) (cS : Int32) (aRS : Addr) (aEM : Addr) (aUS : Addr) (aSS : Addr) (a0c : Addr) (k0 : ClassId) (c0 : Int32) (c1 : Int32) (c2 : Int32) (h0 : Heap) (v : Option Value) (h : Heap) (L : List Loc) : Prop := ∃ b : Addr, ∃ kb : ClassId, v = some (.ref b) ∧ Fr n0 L ∧ Keep h0 h [] ∧ (h0.size ≤ b) ∧ (Exa Z h b "[B") ∧ (Arv Z h b kb .byte (3 : Int32) [(.int (c0.toInt8.toInt32)), (.int (c1.toInt8.toInt32)), (.int (c2.toInt8.toInt32))] (.int (0 : Int32)))
set_option maxRecDepth 65536 in
set_option maxHeartbeats 40000000 in
theorem rmC1_3 (l : Launch) (Z : State) (a0 : Array Value) (hw : ∀ d ∈ tables_1, d.before a0 Z = true) (ws : List Jvm.Cond) (cS : Int32) (aRS : Addr) (aEM : Addr) (aUS : Addr) (aSS : Addr) (a0c : Addr) (k0 : ClassId) (c0 : Int32) (c1 : Int32) (c2 : Int32) (h0 : Heap) (n0 : Nat) (O0 : Old Z n0 h0) (GL : GF Z cS aRS aEM aUS aSS) (V_a0c : Arv Z h0 a0c k0 .char (3 : Int32) [(.int c0), (.int c1), (.int c2)] (.int (0 : Int32))) (hc0 : ¬ ((255 : Int32) < c0)) (hc1 : ¬ ((255 : Int32) < c1)) (hc2 : ¬ ((255 : Int32) < c2)) :
    MetFree l MN_1 (head1 (Jvm.Cond.code MN_1 jdk_52_method_16_code 6 (some (.array .byte)) :: ws) ({ frames := 1, cells := 1, slots := 3, locals := 18 } : Room)) (fun a U => a = #[(.ref a0c), (.int (0 : Int32)), (.int (3 : Int32))] ∧ Z.Warmed39 U.vm ∧ U.heap = h0) (fun _ _ _ _ _ => True) (fun _ U o U' => ∃ v L, o = .returned v ∧ Q_rmC1_3 n0 Z cS aRS aEM aUS aSS a0c k0 c0 c1 c2 h0 v U'.heap L ∧ FrameEnd U o U' L ({ frames := 1, cells := 1, slots := 3, locals := 18 } : Room).cells ({ frames := 1, cells := 1, slots := 3, locals := 18 } : Room).slots) := by
  refine MetFree.of_bodySF (plainFor_of_name pn) hisR ?_
  intro p e s m args below meth c s₁ Bd hml0 hP hK
  obtain ⟨rfl, hZ, hh⟩ := hP
  have hx := Bd.exec
  have hby := Bd.bytes
  have hml : c.maxLocals = 6 := hml0
  have hown : s.vm.findClass "java/lang/StringUTF16" = some m.cls := findClass_of_methodNamed Bd.named
  have hnm := (name_of_methodNamed Bd.named Bd.method).1
  have X0 : Stand p l e ({ frames := 1, cells := 1, slots := 3, locals := 18 } : Room) s m #[(.ref a0c), (.int (0 : Int32)), (.int (3 : Int32))] below meth c s₁ [] 0 0 := Stand.of_body Bd
  have e0 : s₁.heap = h0 := by rw [← hh, Bd.state]; rfl
  have N0 := Fr.nil n0
  have pre0 : ∀ t, Steps p.tables e below (s₁.setTop (mkF m 0 #[.val (.ref a0c), .val (.int (0 : Int32)), .val (.int (3 : Int32)), .unset, .unset, .unset] [])) t → Steps p.tables e below (s₁.setTop (entryFrame m #[(.ref a0c), (.int (0 : Int32)), (.int (3 : Int32))] 6)) t := fun t k => castTop (ef_rmC1_3 m a0c) k
  have GL' := GL
  obtain ⟨GCS, GCP, GSR, GSE, GEE, GFE, GSU, GSS⟩ := GL'
  obtain ⟨T1, h1, k1, X1, e1, E1, A1, A1', st1⟩ := newPE X0 hx hZ (Wd hw 15 rfl) e0 (g := (mkF m 1 #[.val (.ref a0c), .val (.int (0 : Int32)), .val (.int (3 : Int32)), .unset, .unset, .unset] [(.int (3 : Int32))])) rfl (hb hby d16_1) rfl (by decide) (cap := 3) (by decide) (by decide) (by decide) (by decide) (ad := "[B") rfl
  obtain ⟨b1, g1⟩ : ∃ z, z = h0.size := ⟨_, rfl⟩
  rw [← g1] at A1 A1' st1
  have g_b1 : n0 ≤ b1 := Nat.le_trans (own_sz O0) (Nat.le_of_eq g1.symm)
  have sz_b1 : h0.size ≤ b1 := Nat.le_trans (Keep.refl h0 []).1 (Nat.le_of_eq g1.symm)
  have K1 : Keep h0 h1 [] := (Keep.refl h0 []).ext E1
  have O1 := O0.ext E1
  have V_b1 : Arv Z h1 b1 k1 .byte (3 : Int32) [(.int (0 : Int32)), (.int (0 : Int32)), (.int (0 : Int32))] (.int (0 : Int32)) := (Arv.new A1 (by decide)).pad (pad_rep [] (.int (0 : Int32)) 3)
  obtain ⟨_, _, ⟨T2, L2, k2, n2⟩, -, X2, ⟨Lc2, hQ2, l2, y2, z2⟩, st2⟩ := Jvm.LawKit.callS X1 hx (y := MN_0) hown (mvT hZ (Wd hw 108 rfl)) (mvT hZ (Wd hw 109 rfl)) (mvT hZ (Wd hw 106 rfl)) (mvT hZ (Wd hw 110 rfl)) (by decide) (backOf (W := 0) (rmC2_3 l Z a0 hw [] cS aRS aEM aUS aSS (a0c) (b1) (k0) (k1) (c0) (c1) (c2) (h1) n0 O1 GL (V_a0c.ext E1) V_b1 g_b1 hc0 hc1 hc2) hZ (Wd hw 110 rfl) (Wd hw 106 rfl) (by decide) (by decide)) (g := (mkF m 9 #[.val (.ref a0c), .val (.int (0 : Int32)), .val (.int (3 : Int32)), .val (.ref b1), .unset, .unset] [(.int (3 : Int32)), (.int (0 : Int32)), (.ref b1), (.int (0 : Int32)), (.ref a0c)])) rfl (by rw [hml]; rfl) (argsL := [(.ref a0c), (.int (0 : Int32)), (.ref b1), (.int (0 : Int32)), (.int (3 : Int32))]) (rest := []) (lenOf pd rfl) rfl (by show 2 * 0 + _ ≤ _; exact Nat.le_of_eq rfl) (hb hby d16_9) (fun _ _ => ⟨rfl, e1, (by decide : 1 + 0 ≤ _), (by decide : 3 + 0 ≤ _)⟩)
  dsimp only [Pt.U, Pt.locs, Pt.cells, Pt.slots] at X2 l2 y2 z2 st2 hQ2
  subst l2 y2 z2
  obtain ⟨rfl, N2q, Kc2, P2_0⟩ := hQ2
  have K2 : Keep h0 T2.heap [] := K1.trans Kc2 (allS (Or.inr sz_b1) all0)
  have O2 := O1.keep Kc2 (allS g_b1 all0)
  have N2 := Fr.app N0 N2q
  obtain ⟨fs, hr, hrun, hended, hW, hsame⟩ := X2.leave (v := some (.ref b1)) (fun h => by rw [Bd.returns] at h; cases h)
  refine ⟨_, _, pre0 _ ?_, hrun, hended, _, _, rfl, ?_, ⟨_, rfl⟩, hW, hsame.mono (by decide) (by decide)⟩
  · show Steps p.tables e below (s₁.setTop (mkF m 0 #[.val (.ref a0c), .val (.int (0 : Int32)), .val (.int (3 : Int32)), .unset, .unset, .unset] [])) _
    refine XS.iloadN X0.here hx rfl (hb hby d16_0) rfl ?_
    show Steps p.tables e below (s₁.setTop (mkF m 1 #[.val (.ref a0c), .val (.int (0 : Int32)), .val (.int (3 : Int32)), .unset, .unset, .unset] [(.int (3 : Int32))])) _
    refine st1 _ ?_
    show Steps p.tables e below (T1.setTop (mkF m 3 #[.val (.ref a0c), .val (.int (0 : Int32)), .val (.int (3 : Int32)), .unset, .unset, .unset] [(.ref b1)])) _
    refine XS.astoreN X1.here hx rfl (hb hby d16_3) rfl rfl (l' := #[.val (.ref a0c), .val (.int (0 : Int32)), .val (.int (3 : Int32)), .val (.ref b1), .unset, .unset]) rfl ?_
    show Steps p.tables e below (T1.setTop (mkF m 4 #[.val (.ref a0c), .val (.int (0 : Int32)), .val (.int (3 : Int32)), .val (.ref b1), .unset, .unset] [])) _
    refine XS.aloadN X1.here hx rfl (hb hby d16_4) rfl rfl ?_
    show Steps p.tables e below (T1.setTop (mkF m 5 #[.val (.ref a0c), .val (.int (0 : Int32)), .val (.int (3 : Int32)), .val (.ref b1), .unset, .unset] [(.ref a0c)])) _
    refine XS.iloadN X1.here hx rfl (hb hby d16_5) rfl ?_
    show Steps p.tables e below (T1.setTop (mkF m 6 #[.val (.ref a0c), .val (.int (0 : Int32)), .val (.int (3 : Int32)), .val (.ref b1), .unset, .unset] [(.int (0 : Int32)), (.ref a0c)])) _
    refine XS.aloadN X1.here hx rfl (hb hby d16_6) rfl rfl ?_
    show Steps p.tables e below (T1.setTop (mkF m 7 #[.val (.ref a0c), .val (.int (0 : Int32)), .val (.int (3 : Int32)), .val (.ref b1), .unset, .unset] [(.ref b1), (.int (0 : Int32)), (.ref a0c)])) _
    refine XS.iconst X1.here hx rfl (hb hby d16_7) ?_
    show Steps p.tables e below (T1.setTop (mkF m 8 #[.val (.ref a0c), .val (.int (0 : Int32)), .val (.int (3 : Int32)), .val (.ref b1), .unset, .unset] [(.int (0 : Int32)), (.ref b1), (.int (0 : Int32)), (.ref a0c)])) _
    refine XS.iloadN X1.here hx rfl (hb hby d16_8) rfl ?_
    show Steps p.tables e below (T1.setTop (mkF m 9 #[.val (.ref a0c), .val (.int (0 : Int32)), .val (.int (3 : Int32)), .val (.ref b1), .unset, .unset] [(.int (3 : Int32)), (.int (0 : Int32)), (.ref b1), (.int (0 : Int32)), (.ref a0c)])) _
    refine st2 _ ?_
    show Steps p.tables e below (T2.setTop (mkF m 12 #[.val (.ref a0c), .val (.int (0 : Int32)), .val (.int (3 : Int32)), .val (.ref b1), .unset, .unset] [(.int (3 : Int32))])) _
    refine XS.istore X2.here hx rfl (hb hby d16_12) rfl (l' := #[.val (.ref a0c), .val (.int (0 : Int32)), .val (.int (3 : Int32)), .val (.ref b1), .val (.int (3 : Int32)), .unset]) rfl ?_
    show Steps p.tables e below (T2.setTop (mkF m 14 #[.val (.ref a0c), .val (.int (0 : Int32)), .val (.int (3 : Int32)), .val (.ref b1), .val (.int (3 : Int32)), .unset] [])) _
    refine XS.iload X2.here hx rfl (hb hby d16_14) rfl ?_
    show Steps p.tables e below (T2.setTop (mkF m 16 #[.val (.ref a0c), .val (.int (0 : Int32)), .val (.int (3 : Int32)), .val (.ref b1), .val (.int (3 : Int32)), .unset] [(.int (3 : Int32))])) _
    refine XS.iloadN X2.here hx rfl (hb hby d16_16) rfl ?_
    show Steps p.tables e below (T2.setTop (mkF m 17 #[.val (.ref a0c), .val (.int (0 : Int32)), .val (.int (3 : Int32)), .val (.ref b1), .val (.int (3 : Int32)), .unset] [(.int (3 : Int32)), (.int (3 : Int32))])) _
    refine XS.icmpYes X2.here hx rfl (pc0 := 17) (pc' := 57) rfl (hb hby d16_17) rfl (teq (by decide : (3 : Int32) = (3 : Int32))).1 (by decide) (by decide) ?_
    show Steps p.tables e below (T2.setTop (mkF m 57 #[.val (.ref a0c), .val (.int (0 : Int32)), .val (.int (3 : Int32)), .val (.ref b1), .val (.int (3 : Int32)), .unset] [])) _
    refine XS.aloadN X2.here hx rfl (hb hby d16_57) rfl rfl ?_
    show Steps p.tables e below (T2.setTop (mkF m 58 #[.val (.ref a0c), .val (.int (0 : Int32)), .val (.int (3 : Int32)), .val (.ref b1), .val (.int (3 : Int32)), .unset] [(.ref b1)])) _
    jvm_step X2.here [X2.here.top, hx, (hb hby d16_58), X2.method', Bd.returns, Value.isRef, FieldType.isReference]
    first | (intro acts; rw [hr _ acts rfl rfl rfl]) | rw [hr _ _ rfl rfl rfl]
    exact Steps.refl _
  · show Q_rmC1_3 n0 Z cS aRS aEM aUS aSS a0c k0 c0 c1 c2 h0 _ T2.heap _
    exact ⟨b1, k1, rfl, N2, K2, sz_b1, (A1'.keep Kc2), P2_0⟩
theorem d18_0 : decode jdk_52_method_15_code 0 = .ok (.iload_n 1, 1) := by decide +kernel
theorem d18_1 : decode jdk_52_method_15_code 1 = .ok (.aload_n 0, 1) := by decide +kernel
theorem d18_2 : decode jdk_52_method_15_code 2 = .ok (.arraylength, 1) := by decide +kernel
theorem d18_3 : decode jdk_52_method_15_code 3 = .ok (.isub, 1) := by decide +kernel
theorem d18_4 : decode jdk_52_method_15_code 4 = .ok (.bipush 31, 2) := by decide +kernel
theorem d18_6 : decode jdk_52_method_15_code 6 = .ok (.iushr, 1) := by decide +kernel
theorem d18_7 : decode jdk_52_method_15_code 7 = .ok (.i2b, 1) := by decide +kernel
theorem d18_8 : decode jdk_52_method_15_code 8 = .ok (.ireturn, 1) := by decide +kernel
abbrev MN_2 : MethodName := ⟨"java/lang/StringUTF16", "coderFromArrayLen", "([BI)B"⟩
theorem ef_rmCfa1_1 (m : MethodId) (a0b : Addr) : entryFrame m #[(.ref a0b), (.int (1 : Int32))] 2 = mkF m 0 #[.val (.ref a0b), .val (.int (1 : Int32))] [] := by first | (simp [entryFrame, mkF, argsToLocals, Value.category]; done) | rfl
def Q_rmCfa1_1 (n0 : Nat) (Z : State) (cS : Int32) (aRS : Addr) (aEM : Addr) (aUS : Addr) (aSS : Addr) (a0b : Addr) (k0 : ClassId) (vs : List Value) (h0 : Heap) (v : Option Value) (h : Heap) (L : List Loc) : Prop := v = some (.int (0 : Int32)) ∧ Fr n0 L ∧ h = h0
set_option maxRecDepth 65536 in
set_option maxHeartbeats 40000000 in
theorem rmCfa1_1 (l : Launch) (Z : State) (a0 : Array Value) (hw : ∀ d ∈ tables_1, d.before a0 Z = true) (ws : List Jvm.Cond) (cS : Int32) (aRS : Addr) (aEM : Addr) (aUS : Addr) (aSS : Addr) (a0b : Addr) (k0 : ClassId) (vs : List Value) (h0 : Heap) (n0 : Nat) (O0 : Old Z n0 h0) (GL : GF Z cS aRS aEM aUS aSS) (V_a0b : Arv Z h0 a0b k0 .byte (1 : Int32) vs (.int (0 : Int32))) :
    MetFree l MN_2 (head1 (Jvm.Cond.code MN_2 jdk_52_method_15_code 2 (some .byte) :: ws) ({ frames := 0, cells := 0, slots := 0, locals := 0 } : Room)) (fun a U => a = #[(.ref a0b), (.int (1 : Int32))] ∧ Z.Warmed39 U.vm ∧ U.heap = h0) (fun _ _ _ _ _ => True) (fun _ U o U' => ∃ v L, o = .returned v ∧ Q_rmCfa1_1 n0 Z cS aRS aEM aUS aSS a0b k0 vs h0 v U'.heap L ∧ FrameEnd U o U' L ({ frames := 0, cells := 0, slots := 0, locals := 0 } : Room).cells ({ frames := 0, cells := 0, slots := 0, locals := 0 } : Room).slots) := by
  refine MetFree.of_bodySF (plainFor_of_name pn) hisR ?_
  intro p e s m args below meth c s₁ Bd hml0 hP hK
  obtain ⟨rfl, hZ, hh⟩ := hP
  have hx := Bd.exec
  have hby := Bd.bytes
  have hml : c.maxLocals = 2 := hml0
  have hown : s.vm.findClass "java/lang/StringUTF16" = some m.cls := findClass_of_methodNamed Bd.named
  have hnm := (name_of_methodNamed Bd.named Bd.method).1
  have X0 : Stand p l e ({ frames := 0, cells := 0, slots := 0, locals := 0 } : Room) s m #[(.ref a0b), (.int (1 : Int32))] below meth c s₁ [] 0 0 := Stand.of_body Bd
  have e0 : s₁.heap = h0 := by rw [← hh, Bd.state]; rfl
  have N0 := Fr.nil n0
  have pre0 : ∀ t, Steps p.tables e below (s₁.setTop (mkF m 0 #[.val (.ref a0b), .val (.int (1 : Int32))] [])) t → Steps p.tables e below (s₁.setTop (entryFrame m #[(.ref a0b), (.int (1 : Int32))] 2)) t := fun t k => castTop (ef_rmCfa1_1 m a0b) k
  have GL' := GL
  obtain ⟨GCS, GCP, GSR, GSE, GEE, GFE, GSU, GSS⟩ := GL'
  obtain ⟨cl1, Ar1, -, S1, N1_, -, -⟩ := id (V_a0b)
  obtain ⟨fs, hr, hrun, hended, hW, hsame⟩ := X0.leave (v := some (.int (0 : Int32))) (fun h => by rw [Bd.returns] at h; cases h)
  refine ⟨_, _, pre0 _ ?_, hrun, hended, _, _, rfl, ?_, ⟨_, rfl⟩, hW, hsame.mono (by decide) (by decide)⟩
  · show Steps p.tables e below (s₁.setTop (mkF m 0 #[.val (.ref a0b), .val (.int (1 : Int32))] [])) _
    refine XS.iloadN X0.here hx rfl (hb hby d18_0) rfl ?_
    show Steps p.tables e below (s₁.setTop (mkF m 1 #[.val (.ref a0b), .val (.int (1 : Int32))] [(.int (1 : Int32))])) _
    refine XS.aloadN X0.here hx rfl (hb hby d18_1) rfl rfl ?_
    show Steps p.tables e below (s₁.setTop (mkF m 2 #[.val (.ref a0b), .val (.int (1 : Int32))] [(.ref a0b), (.int (1 : Int32))])) _
    refine X0.arraylength hx (by rw [e0]; exact Ar1.1) (State.isArrayOf_alike hZ.alike Ar1.2.1) (g := (mkF m 2 #[.val (.ref a0b), .val (.int (1 : Int32))] [(.ref a0b), (.int (1 : Int32))])) rfl rfl (hb hby d18_2) _ ?_
    rw [len_of S1 N1_]
    show Steps p.tables e below (s₁.setTop (mkF m 3 #[.val (.ref a0b), .val (.int (1 : Int32))] [(.int (1 : Int32)), (.int (1 : Int32))])) _
    refine XS.isub X0.here hx rfl (hb hby d18_3) rfl ?_
    show Steps p.tables e below (s₁.setTop (mkF m 4 #[.val (.ref a0b), .val (.int (1 : Int32))] [(.int (0 : Int32))])) _
    refine XS.bipush X0.here hx rfl (hb hby d18_4) ?_
    show Steps p.tables e below (s₁.setTop (mkF m 6 #[.val (.ref a0b), .val (.int (1 : Int32))] [(.int (31 : Int32)), (.int (0 : Int32))])) _
    refine XS.iushr X0.here hx rfl (hb hby d18_6) rfl ?_
    show Steps p.tables e below (s₁.setTop (mkF m 7 #[.val (.ref a0b), .val (.int (1 : Int32))] [(.int (0 : Int32))])) _
    refine XS.i2b X0.here hx rfl (hb hby d18_7) rfl ?_
    show Steps p.tables e below (s₁.setTop (mkF m 8 #[.val (.ref a0b), .val (.int (1 : Int32))] [(.int (0 : Int32))])) _
    exact retN X0 hx (t := .byte) Bd.returns (by simp) (hb hby d18_8) hr
  · show Q_rmCfa1_1 n0 Z cS aRS aEM aUS aSS a0b k0 vs h0 _ s₁.heap _
    rw [e0]
    exact ⟨rfl, N0, rfl⟩
theorem ef_rmCfa2_2 (m : MethodId) (a0b : Addr) : entryFrame m #[(.ref a0b), (.int (2 : Int32))] 2 = mkF m 0 #[.val (.ref a0b), .val (.int (2 : Int32))] [] := by first | (simp [entryFrame, mkF, argsToLocals, Value.category]; done) | rfl
def Q_rmCfa2_2 (n0 : Nat) (Z : State) (cS : Int32) (aRS : Addr) (aEM : Addr) (aUS : Addr) (aSS : Addr) (a0b : Addr) (k0 : ClassId) (vs : List Value) (h0 : Heap) (v : Option Value) (h : Heap) (L : List Loc) : Prop := v = some (.int (0 : Int32)) ∧ Fr n0 L ∧ h = h0
set_option maxRecDepth 65536 in
set_option maxHeartbeats 40000000 in
theorem rmCfa2_2 (l : Launch) (Z : State) (a0 : Array Value) (hw : ∀ d ∈ tables_1, d.before a0 Z = true) (ws : List Jvm.Cond) (cS : Int32) (aRS : Addr) (aEM : Addr) (aUS : Addr) (aSS : Addr) (a0b : Addr) (k0 : ClassId) (vs : List Value) (h0 : Heap) (n0 : Nat) (O0 : Old Z n0 h0) (GL : GF Z cS aRS aEM aUS aSS) (V_a0b : Arv Z h0 a0b k0 .byte (2 : Int32) vs (.int (0 : Int32))) :
    MetFree l MN_2 (head1 (Jvm.Cond.code MN_2 jdk_52_method_15_code 2 (some .byte) :: ws) ({ frames := 0, cells := 0, slots := 0, locals := 0 } : Room)) (fun a U => a = #[(.ref a0b), (.int (2 : Int32))] ∧ Z.Warmed39 U.vm ∧ U.heap = h0) (fun _ _ _ _ _ => True) (fun _ U o U' => ∃ v L, o = .returned v ∧ Q_rmCfa2_2 n0 Z cS aRS aEM aUS aSS a0b k0 vs h0 v U'.heap L ∧ FrameEnd U o U' L ({ frames := 0, cells := 0, slots := 0, locals := 0 } : Room).cells ({ frames := 0, cells := 0, slots := 0, locals := 0 } : Room).slots) := by
  refine MetFree.of_bodySF (plainFor_of_name pn) hisR ?_
  intro p e s m args below meth c s₁ Bd hml0 hP hK
  obtain ⟨rfl, hZ, hh⟩ := hP
  have hx := Bd.exec
  have hby := Bd.bytes
  have hml : c.maxLocals = 2 := hml0
  have hown : s.vm.findClass "java/lang/StringUTF16" = some m.cls := findClass_of_methodNamed Bd.named
  have hnm := (name_of_methodNamed Bd.named Bd.method).1
  have X0 : Stand p l e ({ frames := 0, cells := 0, slots := 0, locals := 0 } : Room) s m #[(.ref a0b), (.int (2 : Int32))] below meth c s₁ [] 0 0 := Stand.of_body Bd
  have e0 : s₁.heap = h0 := by rw [← hh, Bd.state]; rfl
  have N0 := Fr.nil n0
  have pre0 : ∀ t, Steps p.tables e below (s₁.setTop (mkF m 0 #[.val (.ref a0b), .val (.int (2 : Int32))] [])) t → Steps p.tables e below (s₁.setTop (entryFrame m #[(.ref a0b), (.int (2 : Int32))] 2)) t := fun t k => castTop (ef_rmCfa2_2 m a0b) k
  have GL' := GL
  obtain ⟨GCS, GCP, GSR, GSE, GEE, GFE, GSU, GSS⟩ := GL'
  obtain ⟨cl1, Ar1, -, S1, N1_, -, -⟩ := id (V_a0b)
  obtain ⟨fs, hr, hrun, hended, hW, hsame⟩ := X0.leave (v := some (.int (0 : Int32))) (fun h => by rw [Bd.returns] at h; cases h)
  refine ⟨_, _, pre0 _ ?_, hrun, hended, _, _, rfl, ?_, ⟨_, rfl⟩, hW, hsame.mono (by decide) (by decide)⟩
  · show Steps p.tables e below (s₁.setTop (mkF m 0 #[.val (.ref a0b), .val (.int (2 : Int32))] [])) _
    refine XS.iloadN X0.here hx rfl (hb hby d18_0) rfl ?_
    show Steps p.tables e below (s₁.setTop (mkF m 1 #[.val (.ref a0b), .val (.int (2 : Int32))] [(.int (2 : Int32))])) _
    refine XS.aloadN X0.here hx rfl (hb hby d18_1) rfl rfl ?_
    show Steps p.tables e below (s₁.setTop (mkF m 2 #[.val (.ref a0b), .val (.int (2 : Int32))] [(.ref a0b), (.int (2 : Int32))])) _
    refine X0.arraylength hx (by rw [e0]; exact Ar1.1) (State.isArrayOf_alike hZ.alike Ar1.2.1) (g := (mkF m 2 #[.val (.ref a0b), .val (.int (2 : Int32))] [(.ref a0b), (.int (2 : Int32))])) rfl rfl (hb hby d18_2) _ ?_
    rw [len_of S1 N1_]
    show Steps p.tables e below (s₁.setTop (mkF m 3 #[.val (.ref a0b), .val (.int (2 : Int32))] [(.int (2 : Int32)), (.int (2 : Int32))])) _
    refine XS.isub X0.here hx rfl (hb hby d18_3) rfl ?_
    show Steps p.tables e below (s₁.setTop (mkF m 4 #[.val (.ref a0b), .val (.int (2 : Int32))] [(.int (0 : Int32))])) _
    refine XS.bipush X0.here hx rfl (hb hby d18_4) ?_
    show Steps p.tables e below (s₁.setTop (mkF m 6 #[.val (.ref a0b), .val (.int (2 : Int32))] [(.int (31 : Int32)), (.int (0 : Int32))])) _
    refine XS.iushr X0.here hx rfl (hb hby d18_6) rfl ?_
    show Steps p.tables e below (s₁.setTop (mkF m 7 #[.val (.ref a0b), .val (.int (2 : Int32))] [(.int (0 : Int32))])) _
    refine XS.i2b X0.here hx rfl (hb hby d18_7) rfl ?_
    show Steps p.tables e below (s₁.setTop (mkF m 8 #[.val (.ref a0b), .val (.int (2 : Int32))] [(.int (0 : Int32))])) _
    exact retN X0 hx (t := .byte) Bd.returns (by simp) (hb hby d18_8) hr
  · show Q_rmCfa2_2 n0 Z cS aRS aEM aUS aSS a0b k0 vs h0 _ s₁.heap _
    rw [e0]
    exact ⟨rfl, N0, rfl⟩
theorem ef_rmCfa3_3 (m : MethodId) (a0b : Addr) : entryFrame m #[(.ref a0b), (.int (3 : Int32))] 2 = mkF m 0 #[.val (.ref a0b), .val (.int (3 : Int32))] [] := by first | (simp [entryFrame, mkF, argsToLocals, Value.category]; done) | rfl
def Q_rmCfa3_3 (n0 : Nat) (Z : State) (cS : Int32) (aRS : Addr) (aEM : Addr) (aUS : Addr) (aSS : Addr) (a0b : Addr) (k0 : ClassId) (vs : List Value) (h0 : Heap) (v : Option Value) (h : Heap) (L : List Loc) : Prop := v = some (.int (0 : Int32)) ∧ Fr n0 L ∧ h = h0
set_option maxRecDepth 65536 in
set_option maxHeartbeats 40000000 in
theorem rmCfa3_3 (l : Launch) (Z : State) (a0 : Array Value) (hw : ∀ d ∈ tables_1, d.before a0 Z = true) (ws : List Jvm.Cond) (cS : Int32) (aRS : Addr) (aEM : Addr) (aUS : Addr) (aSS : Addr) (a0b : Addr) (k0 : ClassId) (vs : List Value) (h0 : Heap) (n0 : Nat) (O0 : Old Z n0 h0) (GL : GF Z cS aRS aEM aUS aSS) (V_a0b : Arv Z h0 a0b k0 .byte (3 : Int32) vs (.int (0 : Int32))) :
    MetFree l MN_2 (head1 (Jvm.Cond.code MN_2 jdk_52_method_15_code 2 (some .byte) :: ws) ({ frames := 0, cells := 0, slots := 0, locals := 0 } : Room)) (fun a U => a = #[(.ref a0b), (.int (3 : Int32))] ∧ Z.Warmed39 U.vm ∧ U.heap = h0) (fun _ _ _ _ _ => True) (fun _ U o U' => ∃ v L, o = .returned v ∧ Q_rmCfa3_3 n0 Z cS aRS aEM aUS aSS a0b k0 vs h0 v U'.heap L ∧ FrameEnd U o U' L ({ frames := 0, cells := 0, slots := 0, locals := 0 } : Room).cells ({ frames := 0, cells := 0, slots := 0, locals := 0 } : Room).slots) := by
  refine MetFree.of_bodySF (plainFor_of_name pn) hisR ?_
  intro p e s m args below meth c s₁ Bd hml0 hP hK
  obtain ⟨rfl, hZ, hh⟩ := hP
  have hx := Bd.exec
  have hby := Bd.bytes
  have hml : c.maxLocals = 2 := hml0
  have hown : s.vm.findClass "java/lang/StringUTF16" = some m.cls := findClass_of_methodNamed Bd.named
  have hnm := (name_of_methodNamed Bd.named Bd.method).1
  have X0 : Stand p l e ({ frames := 0, cells := 0, slots := 0, locals := 0 } : Room) s m #[(.ref a0b), (.int (3 : Int32))] below meth c s₁ [] 0 0 := Stand.of_body Bd
  have e0 : s₁.heap = h0 := by rw [← hh, Bd.state]; rfl
  have N0 := Fr.nil n0
  have pre0 : ∀ t, Steps p.tables e below (s₁.setTop (mkF m 0 #[.val (.ref a0b), .val (.int (3 : Int32))] [])) t → Steps p.tables e below (s₁.setTop (entryFrame m #[(.ref a0b), (.int (3 : Int32))] 2)) t := fun t k => castTop (ef_rmCfa3_3 m a0b) k
  have GL' := GL
  obtain ⟨GCS, GCP, GSR, GSE, GEE, GFE, GSU, GSS⟩ := GL'
  obtain ⟨cl1, Ar1, -, S1, N1_, -, -⟩ := id (V_a0b)
  obtain ⟨fs, hr, hrun, hended, hW, hsame⟩ := X0.leave (v := some (.int (0 : Int32))) (fun h => by rw [Bd.returns] at h; cases h)
  refine ⟨_, _, pre0 _ ?_, hrun, hended, _, _, rfl, ?_, ⟨_, rfl⟩, hW, hsame.mono (by decide) (by decide)⟩
  · show Steps p.tables e below (s₁.setTop (mkF m 0 #[.val (.ref a0b), .val (.int (3 : Int32))] [])) _
    refine XS.iloadN X0.here hx rfl (hb hby d18_0) rfl ?_
    show Steps p.tables e below (s₁.setTop (mkF m 1 #[.val (.ref a0b), .val (.int (3 : Int32))] [(.int (3 : Int32))])) _
    refine XS.aloadN X0.here hx rfl (hb hby d18_1) rfl rfl ?_
    show Steps p.tables e below (s₁.setTop (mkF m 2 #[.val (.ref a0b), .val (.int (3 : Int32))] [(.ref a0b), (.int (3 : Int32))])) _
    refine X0.arraylength hx (by rw [e0]; exact Ar1.1) (State.isArrayOf_alike hZ.alike Ar1.2.1) (g := (mkF m 2 #[.val (.ref a0b), .val (.int (3 : Int32))] [(.ref a0b), (.int (3 : Int32))])) rfl rfl (hb hby d18_2) _ ?_
    rw [len_of S1 N1_]
    show Steps p.tables e below (s₁.setTop (mkF m 3 #[.val (.ref a0b), .val (.int (3 : Int32))] [(.int (3 : Int32)), (.int (3 : Int32))])) _
    refine XS.isub X0.here hx rfl (hb hby d18_3) rfl ?_
    show Steps p.tables e below (s₁.setTop (mkF m 4 #[.val (.ref a0b), .val (.int (3 : Int32))] [(.int (0 : Int32))])) _
    refine XS.bipush X0.here hx rfl (hb hby d18_4) ?_
    show Steps p.tables e below (s₁.setTop (mkF m 6 #[.val (.ref a0b), .val (.int (3 : Int32))] [(.int (31 : Int32)), (.int (0 : Int32))])) _
    refine XS.iushr X0.here hx rfl (hb hby d18_6) rfl ?_
    show Steps p.tables e below (s₁.setTop (mkF m 7 #[.val (.ref a0b), .val (.int (3 : Int32))] [(.int (0 : Int32))])) _
    refine XS.i2b X0.here hx rfl (hb hby d18_7) rfl ?_
    show Steps p.tables e below (s₁.setTop (mkF m 8 #[.val (.ref a0b), .val (.int (3 : Int32))] [(.int (0 : Int32))])) _
    exact retN X0 hx (t := .byte) Bd.returns (by simp) (hb hby d18_8) hr
  · show Q_rmCfa3_3 n0 Z cS aRS aEM aUS aSS a0b k0 vs h0 _ s₁.heap _
    rw [e0]
    exact ⟨rfl, N0, rfl⟩
theorem d2_0 : decode jdk_42_method_149_code 0 = .ok (.aload_n 0, 1) := by decide +kernel
theorem d2_1 : decode jdk_42_method_149_code 1 = .ok (.invokespecial 1, 3) := by decide +kernel
theorem d2_4 : decode jdk_42_method_149_code 4 = .ok (.iload_n 3, 1) := by decide +kernel
theorem d2_5 : decode jdk_42_method_149_code 5 = .ok (.ifCond .ne 22, 3) := by decide +kernel
theorem d2_8 : decode jdk_42_method_149_code 8 = .ok (.aload_n 0, 1) := by decide +kernel
theorem d2_9 : decode jdk_42_method_149_code 9 = .ok (.ldc 7, 2) := by decide +kernel
theorem d2_11 : decode jdk_42_method_149_code 11 = .ok (.getfield 9, 3) := by decide +kernel
theorem d2_14 : decode jdk_42_method_149_code 14 = .ok (.putfield 9, 3) := by decide +kernel
theorem d2_17 : decode jdk_42_method_149_code 17 = .ok (.aload_n 0, 1) := by decide +kernel
theorem d2_18 : decode jdk_42_method_149_code 18 = .ok (.ldc 7, 2) := by decide +kernel
theorem d2_20 : decode jdk_42_method_149_code 20 = .ok (.getfield 15, 3) := by decide +kernel
theorem d2_23 : decode jdk_42_method_149_code 23 = .ok (.putfield 15, 3) := by decide +kernel
theorem d2_26 : decode jdk_42_method_149_code 26 = .ok (.return_, 1) := by decide +kernel
theorem pnv1 : plainName "java/lang/String" = true := by first | (simp [plainName, overriddenIn]; done) | decide +kernel
abbrev MN_3 : MethodName := ⟨"java/lang/String", "<init>", "([CIILjava/lang/Void;)V"⟩
theorem ef_rmIv_0 (m : MethodId) (a0s : Addr) (a1c : Addr) : entryFrame m #[(.ref a0s), (.ref a1c), (.int (0 : Int32)), (.int (0 : Int32)), .null] 6 = mkF m 0 #[.val (.ref a0s), .val (.ref a1c), .val (.int (0 : Int32)), .val (.int (0 : Int32)), .val .null, .unset] [] := by first | (simp [entryFrame, mkF, argsToLocals, Value.category]; done) | rfl
def Q_rmIv_0 (n0 : Nat) (Z : State) (cS : Int32) (aRS : Addr) (aEM : Addr) (aUS : Addr) (aSS : Addr) (a0s : Addr) (a1c : Addr) (h0 : Heap) (v : Option Value) (h : Heap) (L : List Loc) : Prop := ∃ b : Addr, ∃ kb : ClassId, v = none ∧ Fr n0 L ∧ Keep h0 h [a0s] ∧ (Exa Z h a0s "java/lang/String") ∧ (Fld Z h a0s "java/lang/String" "value" "[B" (.ref b)) ∧ (Fld Z h a0s "java/lang/String" "coder" "B" (.int (0 : Int32))) ∧ (Arv Z h b kb .byte (0 : Int32) [] (.int (0 : Int32)))
set_option maxRecDepth 65536 in
set_option maxHeartbeats 40000000 in
theorem rmIv_0 (l : Launch) (Z : State) (a0 : Array Value) (hw : ∀ d ∈ tables_1, d.before a0 Z = true) (ws : List Jvm.Cond) (cS : Int32) (aRS : Addr) (aEM : Addr) (aUS : Addr) (aSS : Addr) (a0s : Addr) (a1c : Addr) (h0 : Heap) (n0 : Nat) (O0 : Old Z n0 h0) (GL : GF Z cS aRS aEM aUS aSS) (E_a0s : Exa Z h0 a0s "java/lang/String") (F_value_a0s : Fld Z h0 a0s "java/lang/String" "value" "[B" .null) (F_coder_a0s : Fld Z h0 a0s "java/lang/String" "coder" "B" (.int (0 : Int32))) (g_a0s : n0 ≤ a0s) :
    MetFree l MN_3 (head1 (Jvm.Cond.code MN_3 jdk_42_method_149_code 6 none :: ws) ({ frames := 1, cells := 4, slots := 8, locals := 12 } : Room)) (fun a U => a = #[(.ref a0s), (.ref a1c), (.int (0 : Int32)), (.int (0 : Int32)), .null] ∧ Z.Warmed39 U.vm ∧ U.heap = h0 ∧ CHv Z EL1 U.vm h0) (fun _ _ _ _ _ => True) (fun _ U o U' => ∃ v L, o = .returned v ∧ Q_rmIv_0 n0 Z cS aRS aEM aUS aSS a0s a1c h0 v U'.heap L ∧ CHr Z EL1 U.vm U.heap U'.vm U'.heap ∧ ReturnedEndW U o U' L ({ frames := 1, cells := 4, slots := 8, locals := 12 } : Room).cells ({ frames := 1, cells := 4, slots := 8, locals := 12 } : Room).slots) := by
  refine MetFree.of_bodySF (plainFor_of_name pnv1) hisR ?_
  intro p e s m args below meth c s₁ Bd hml0 hP hK
  obtain ⟨rfl, hZ, hh, H0⟩ := hP
  have hx := Bd.exec
  have hby := Bd.bytes
  have hml : c.maxLocals = 6 := hml0
  have hown : s.vm.findClass "java/lang/String" = some m.cls := findClass_of_methodNamed Bd.named
  have hnm := (name_of_methodNamed Bd.named Bd.method).1
  have X0 : Stand p l e ({ frames := 1, cells := 4, slots := 8, locals := 12 } : Room) s m #[(.ref a0s), (.ref a1c), (.int (0 : Int32)), (.int (0 : Int32)), .null] below meth c s₁ [] 0 0 := Stand.of_body Bd
  have e0 : s₁.heap = h0 := by rw [← hh, Bd.state]; rfl
  have N0 := Fr.nil n0
  have pre0 : ∀ t, Steps p.tables e below (s₁.setTop (mkF m 0 #[.val (.ref a0s), .val (.ref a1c), .val (.int (0 : Int32)), .val (.int (0 : Int32)), .val .null, .unset] [])) t → Steps p.tables e below (s₁.setTop (entryFrame m #[(.ref a0s), (.ref a1c), (.int (0 : Int32)), (.int (0 : Int32)), .null] 6)) t := fun t k => castTop (ef_rmIv_0 m a0s a1c) k
  have X0w : Stand p l e ({ frames := 1, cells := 4, slots := 8, locals := 12 } : Room) (s.setVm s.vm) m #[(.ref a0s), (.ref a1c), (.int (0 : Int32)), (.int (0 : Int32)), .null] below meth c s₁ [] 0 0 := X0
  have R0 : CHr Z EL1 s.vm h0 s.vm h0 := CHr.refl H0
  have hS0 : s.Since s.vm h0.size := (State.WarmedH.refl s).since _
  have GL' := GL
  obtain ⟨GCS, GCP, GSR, GSE, GEE, GFE, GSU, GSS⟩ := GL'
  obtain ⟨T1, X1, e1, st1⟩ := initO X0w hx hZ hown (Wd hw 11 rfl) (Wd hw 12 rfl) (Wd hw 13 rfl) e0 (g := (mkF m 1 #[.val (.ref a0s), .val (.ref a1c), .val (.int (0 : Int32)), .val (.int (0 : Int32)), .val .null, .unset] [(.ref a0s)])) rfl (by rw [hml]; rfl) rfl (hb hby d2_1) (by decide) (W := 0) (by show 2 * 0 + _ ≤ _; exact Nat.le_of_eq rfl) (by decide)
  obtain ⟨a2, T2, h2, k12, b2, kc2, X2, e2, E2, hS2, hk2, hZ2, hown2, A2, Fc2, Fv2, V2, la2, lb2, Rs2, Li2, nel2, st2⟩ := ldcCH X1 hx hZ hown (Wd hw 14 rfl) (own_wS hw) e1 hS0 (Nat.le_refl _) (own_EW hw) (List.mem_of_getElem? (i := 0) rfl) H0 (vs := []) (z := (0 : Int32)) ⟨by decide, by decide⟩ (by decide) rfl (g := (mkF m 9 #[.val (.ref a0s), .val (.ref a1c), .val (.int (0 : Int32)), .val (.int (0 : Int32)), .val .null, .unset] [(.ref a0s)])) rfl (hb hby d2_9) (n := 0) (by decide) (by decide) (by decide) (by decide)
  have H_3 := Rs2.1
  have R_3 := R0.trans Rs2
  have K2 : Keep h0 h2 [a0s] := (Keep.refl h0 [a0s]).ext E2
  have O2 := O0.ext E2
  obtain ⟨T4, X4, e4, st4⟩ := getF X2 hx hZ2 hown2 (host := "") (Or.inl (Wd hw 20 rfl)) Via.refl e2 Fv2 (g := (mkF m 11 #[.val (.ref a0s), .val (.ref a1c), .val (.int (0 : Int32)), .val (.int (0 : Int32)), .val .null, .unset] [(.ref a2), (.ref a0s)])) rfl rfl (hb hby d2_11)
  obtain ⟨T5, h5, X5, e5, W5, st5⟩ := putF X4 hx hZ2 hown2 (host := "") (Or.inl (Wd hw 20 rfl)) Via.refl e4 (F_value_a0s.ext E2) (E_a0s.ext E2) (Or.inr ⟨(Wd hw 16 rfl), rfl, hnm⟩) (Wd hw 2 rfl) (ty := (.array .byte)) (by decide) rfl rfl (g := (mkF m 14 #[.val (.ref a0s), .val (.ref a1c), .val (.int (0 : Int32)), .val (.int (0 : Int32)), .val .null, .unset] [(.ref b2), (.ref a0s)])) rfl rfl (hb hby d2_14)
  have Fw5 := (F_value_a0s.ext E2).same W5
  have Sf7 : Safe Z EL1 T2.vm h2 a0s := (CHr.safe Rs2 E_a0s.lt (own_safeS hZ.alike H0 F_value_a0s E_a0s))
  have H_6 := H_3.wr W5 Sf7
  have R_6 := R_3.trans (CHr.wr W5 Sf7 H_3)
  have K5 : Keep h0 h5 [a0s] := K2.wr W5 (Or.inl (List.mem_of_getElem? (i := 0) rfl))
  have O5 := O2.wr W5 g_a0s
  have N5 := Fr.snoc X5 N0 g_a0s
  obtain ⟨a8, T8, h8, k18, b8, kc8, X8, e8, E8, hS8, hk8, hZ8, hown8, A8, Fc8, Fv8, V8, la8, lb8, Rs8, Li8, nel8, st8⟩ := ldcCH X5 hx hZ2 hown2 (Wd hw 14 rfl) (own_wS hw) e5 hS2 (Nat.le_trans hk2 (Keep.of_wr W5).1) (own_EW hw) (List.mem_of_getElem? (i := 0) rfl) H_6 (vs := []) (z := (0 : Int32)) ⟨by decide, by decide⟩ (by decide) rfl (g := (mkF m 18 #[.val (.ref a0s), .val (.ref a1c), .val (.int (0 : Int32)), .val (.int (0 : Int32)), .val .null, .unset] [(.ref a0s)])) rfl (hb hby d2_18) (n := 0) (by decide) (by decide) (by decide) (by decide)
  have H_9 := Rs8.1
  have R_9 := R_6.trans Rs8
  have K8 : Keep h0 h8 [a0s] := K5.ext E8
  have O8 := O5.ext E8
  obtain ⟨T10, X10, e10, st10⟩ := getF X8 hx hZ8 hown8 (host := "") (Or.inl (Wd hw 21 rfl)) Via.refl e8 Fc8 (g := (mkF m 20 #[.val (.ref a0s), .val (.ref a1c), .val (.int (0 : Int32)), .val (.int (0 : Int32)), .val .null, .unset] [(.ref a8), (.ref a0s)])) rfl rfl (hb hby d2_20)
  obtain ⟨T11, h11, X11, e11, W11, st11⟩ := putFN X10 hx hZ8 hown8 (Wd hw 21 rfl) Via.refl e10 (((F_coder_a0s.ext E2).other W5 (Or.inr (slot_ne (a0 := a0) (Or.inr (Wd hw 17 rfl)) (Or.inr (Wd hw 16 rfl)) (by decide) (t := .byte) (t' := (.array .byte)) (by decide) (by decide)))).ext E8) (((E_a0s.ext E2).wr W5).ext E8) (Or.inr ⟨(Wd hw 17 rfl), rfl, hnm⟩) (Wd hw 2 rfl) (ty := .byte) (v' := (.int (0 : Int32))) (by decide) rfl (by decide) (g := (mkF m 23 #[.val (.ref a0s), .val (.ref a1c), .val (.int (0 : Int32)), .val (.int (0 : Int32)), .val .null, .unset] [(.int (0 : Int32)), (.ref a0s)])) rfl rfl (hb hby d2_23)
  have Fw11 := (((F_coder_a0s.ext E2).other W5 (Or.inr (slot_ne (a0 := a0) (Or.inr (Wd hw 17 rfl)) (Or.inr (Wd hw 16 rfl)) (by decide) (t := .byte) (t' := (.array .byte)) (by decide) (by decide)))).ext E8).same W11
  have Sf13 : Safe Z EL1 T8.vm h8 a0s := (CHr.safe Rs8 (Nat.lt_of_lt_of_le E_a0s.lt (Nat.le_trans E2.1 (Keep.of_wr W5).1)) (Safe.wr W5 Sf7 H_3 Sf7))
  have H_12 := H_9.wr W11 Sf13
  have R_12 := R_9.trans (CHr.wr W11 Sf13 H_9)
  have K11 : Keep h0 h11 [a0s] := K8.wr W11 (Or.inl (List.mem_of_getElem? (i := 0) rfl))
  have O11 := O8.wr W11 g_a0s
  have N11 := Fr.snoc X11 N5 g_a0s
  obtain ⟨fs, hr, hrun, hended, hRW⟩ := X11.leaveW hS8 (by rw [e11]; exact (Nat.le_trans hk8 (Keep.of_wr W11).1)) (v := none) (fun _ => rfl)
  have hCR : CHr Z EL1 s.vm s.heap T11.vm T11.heap := by
    rw [hh, e11]
    exact R_12.trans (CHv.at X11 hZ8 (own_EW hw) H_12)
  refine ⟨_, _, pre0 _ ?_, hrun, hended, _, _, rfl, ?_, hCR, hRW.1, hRW.2.1, hRW.2.2.1, hRW.2.2.2.mono (by decide) (by decide)⟩
  · show Steps p.tables e below (s₁.setTop (mkF m 0 #[.val (.ref a0s), .val (.ref a1c), .val (.int (0 : Int32)), .val (.int (0 : Int32)), .val .null, .unset] [])) _
    refine XS.aloadN X0w.here hx rfl (hb hby d2_0) rfl rfl ?_
    show Steps p.tables e below (s₁.setTop (mkF m 1 #[.val (.ref a0s), .val (.ref a1c), .val (.int (0 : Int32)), .val (.int (0 : Int32)), .val .null, .unset] [(.ref a0s)])) _
    refine st1 _ ?_
    show Steps p.tables e below (T1.setTop (mkF m 4 #[.val (.ref a0s), .val (.ref a1c), .val (.int (0 : Int32)), .val (.int (0 : Int32)), .val .null, .unset] [])) _
    refine XS.iloadN X1.here hx rfl (hb hby d2_4) rfl ?_
    show Steps p.tables e below (T1.setTop (mkF m 5 #[.val (.ref a0s), .val (.ref a1c), .val (.int (0 : Int32)), .val (.int (0 : Int32)), .val .null, .unset] [(.int (0 : Int32))])) _
    refine XS.ifNo X1.here hx rfl (hb hby d2_5) rfl ((if0 _ _).trans (teq (by decide : (0 : Int32) = (0 : Int32))).2) ?_
    show Steps p.tables e below (T1.setTop (mkF m 8 #[.val (.ref a0s), .val (.ref a1c), .val (.int (0 : Int32)), .val (.int (0 : Int32)), .val .null, .unset] [])) _
    refine XS.aloadN X1.here hx rfl (hb hby d2_8) rfl rfl ?_
    show Steps p.tables e below (T1.setTop (mkF m 9 #[.val (.ref a0s), .val (.ref a1c), .val (.int (0 : Int32)), .val (.int (0 : Int32)), .val .null, .unset] [(.ref a0s)])) _
    refine st2 _ ?_
    show Steps p.tables e below (T2.setTop (mkF m 11 #[.val (.ref a0s), .val (.ref a1c), .val (.int (0 : Int32)), .val (.int (0 : Int32)), .val .null, .unset] [(.ref a2), (.ref a0s)])) _
    refine st4 _ ?_
    show Steps p.tables e below (T4.setTop (mkF m 14 #[.val (.ref a0s), .val (.ref a1c), .val (.int (0 : Int32)), .val (.int (0 : Int32)), .val .null, .unset] [(.ref b2), (.ref a0s)])) _
    refine st5 _ ?_
    show Steps p.tables e below (T5.setTop (mkF m 17 #[.val (.ref a0s), .val (.ref a1c), .val (.int (0 : Int32)), .val (.int (0 : Int32)), .val .null, .unset] [])) _
    refine XS.aloadN X5.here hx rfl (hb hby d2_17) rfl rfl ?_
    show Steps p.tables e below (T5.setTop (mkF m 18 #[.val (.ref a0s), .val (.ref a1c), .val (.int (0 : Int32)), .val (.int (0 : Int32)), .val .null, .unset] [(.ref a0s)])) _
    refine st8 _ ?_
    show Steps p.tables e below (T8.setTop (mkF m 20 #[.val (.ref a0s), .val (.ref a1c), .val (.int (0 : Int32)), .val (.int (0 : Int32)), .val .null, .unset] [(.ref a8), (.ref a0s)])) _
    refine st10 _ ?_
    show Steps p.tables e below (T10.setTop (mkF m 23 #[.val (.ref a0s), .val (.ref a1c), .val (.int (0 : Int32)), .val (.int (0 : Int32)), .val .null, .unset] [(.int (0 : Int32)), (.ref a0s)])) _
    refine st11 _ ?_
    show Steps p.tables e below (T11.setTop (mkF m 26 #[.val (.ref a0s), .val (.ref a1c), .val (.int (0 : Int32)), .val (.int (0 : Int32)), .val .null, .unset] [])) _
    exact X11.returnOut hx Bd.returns (hb hby d2_26) hr
  · show Q_rmIv_0 n0 Z cS aRS aEM aUS aSS a0s a1c h0 _ T11.heap _
    rw [e11]
    exact ⟨b2, kc2, rfl, N11, K11, ((((E_a0s.ext E2).wr W5).ext E8).wr W11), ((Fw5.ext E8).other W11 (Or.inr (slot_ne (a0 := a0) (Or.inr (Wd hw 16 rfl)) (Or.inr (Wd hw 17 rfl)) (by decide) (t := (.array .byte)) (t' := .byte) (by decide) (by decide)))), Fw11, (((V2.other W5 (Ne.symm (nel2 a0s Sf7).2)).ext E8).other W11 (Ne.symm (nel2 a0s Sf7).2))⟩
theorem d2_27 : decode jdk_42_method_149_code 27 = .ok (.getstatic 38, 3) := by decide +kernel
theorem d2_30 : decode jdk_42_method_149_code 30 = .ok (.ifCond .eq 28, 3) := by decide +kernel
theorem d2_33 : decode jdk_42_method_149_code 33 = .ok (.aload_n 1, 1) := by decide +kernel
theorem d2_34 : decode jdk_42_method_149_code 34 = .ok (.iload_n 2, 1) := by decide +kernel
theorem d2_35 : decode jdk_42_method_149_code 35 = .ok (.iload_n 3, 1) := by decide +kernel
theorem d2_36 : decode jdk_42_method_149_code 36 = .ok (.invokestatic 177, 3) := by decide +kernel
theorem pdv1 : parseMethodDescriptor "([CII)[B" = some ⟨[(.array .char), .int, .int], some (.array .byte)⟩ := by decide +kernel
theorem d2_39 : decode jdk_42_method_149_code 39 = .ok (.astore 5, 2) := by decide +kernel
theorem d2_41 : decode jdk_42_method_149_code 41 = .ok (.aload_n 0, 1) := by decide +kernel
theorem d2_42 : decode jdk_42_method_149_code 42 = .ok (.aload 5, 2) := by decide +kernel
theorem d2_44 : decode jdk_42_method_149_code 44 = .ok (.iload_n 3, 1) := by decide +kernel
theorem d2_45 : decode jdk_42_method_149_code 45 = .ok (.invokestatic 47, 3) := by decide +kernel
theorem pdv2 : parseMethodDescriptor "([BI)B" = some ⟨[(.array .byte), .int], some .byte⟩ := by decide +kernel
theorem d2_48 : decode jdk_42_method_149_code 48 = .ok (.putfield 15, 3) := by decide +kernel
theorem d2_51 : decode jdk_42_method_149_code 51 = .ok (.aload_n 0, 1) := by decide +kernel
theorem d2_52 : decode jdk_42_method_149_code 52 = .ok (.aload 5, 2) := by decide +kernel
theorem d2_54 : decode jdk_42_method_149_code 54 = .ok (.putfield 9, 3) := by decide +kernel
theorem d2_57 : decode jdk_42_method_149_code 57 = .ok (.return_, 1) := by decide +kernel
theorem ef_rmIv_1 (m : MethodId) (a0s : Addr) (a1c : Addr) : entryFrame m #[(.ref a0s), (.ref a1c), (.int (0 : Int32)), (.int (1 : Int32)), .null] 6 = mkF m 0 #[.val (.ref a0s), .val (.ref a1c), .val (.int (0 : Int32)), .val (.int (1 : Int32)), .val .null, .unset] [] := by first | (simp [entryFrame, mkF, argsToLocals, Value.category]; done) | rfl
def Q_rmIv_1 (n0 : Nat) (Z : State) (cS : Int32) (aRS : Addr) (aEM : Addr) (aUS : Addr) (aSS : Addr) (a0s : Addr) (a1c : Addr) (k1 : ClassId) (c0 : Int32) (h0 : Heap) (v : Option Value) (h : Heap) (L : List Loc) : Prop := ∃ b : Addr, ∃ kb : ClassId, v = none ∧ Fr n0 L ∧ Keep h0 h [a0s] ∧ (h0.size ≤ b) ∧ (Exa Z h b "[B") ∧ (Exa Z h a0s "java/lang/String") ∧ (Fld Z h a0s "java/lang/String" "value" "[B" (.ref b)) ∧ (Fld Z h a0s "java/lang/String" "coder" "B" (.int (0 : Int32))) ∧ (Arv Z h b kb .byte (1 : Int32) [(.int (c0.toInt8.toInt32))] (.int (0 : Int32)))
set_option maxRecDepth 65536 in
set_option maxHeartbeats 40000000 in
theorem rmIv_1 (l : Launch) (Z : State) (a0 : Array Value) (hw : ∀ d ∈ tables_1, d.before a0 Z = true) (ws : List Jvm.Cond) (cS : Int32) (aRS : Addr) (aEM : Addr) (aUS : Addr) (aSS : Addr) (a0s : Addr) (a1c : Addr) (k1 : ClassId) (c0 : Int32) (h0 : Heap) (n0 : Nat) (O0 : Old Z n0 h0) (GL : GF Z cS aRS aEM aUS aSS) (E_a0s : Exa Z h0 a0s "java/lang/String") (F_value_a0s : Fld Z h0 a0s "java/lang/String" "value" "[B" .null) (F_coder_a0s : Fld Z h0 a0s "java/lang/String" "coder" "B" (.int (0 : Int32))) (g_a0s : n0 ≤ a0s) (V_a1c : Arv Z h0 a1c k1 .char (1 : Int32) [(.int c0)] (.int (0 : Int32))) (hc0 : ¬ ((255 : Int32) < c0)) :
    MetFree l MN_3 (head1 (Jvm.Cond.code MN_3 jdk_42_method_149_code 6 none :: ws) ({ frames := 2, cells := 1, slots := 1, locals := 35 } : Room)) (fun a U => a = #[(.ref a0s), (.ref a1c), (.int (0 : Int32)), (.int (1 : Int32)), .null] ∧ Z.Warmed39 U.vm ∧ U.heap = h0) (fun _ _ _ _ _ => True) (fun _ U o U' => ∃ v L, o = .returned v ∧ Q_rmIv_1 n0 Z cS aRS aEM aUS aSS a0s a1c k1 c0 h0 v U'.heap L ∧ FrameEnd U o U' L ({ frames := 2, cells := 1, slots := 1, locals := 35 } : Room).cells ({ frames := 2, cells := 1, slots := 1, locals := 35 } : Room).slots) := by
  refine MetFree.of_bodySF (plainFor_of_name pnv1) hisR ?_
  intro p e s m args below meth c s₁ Bd hml0 hP hK
  obtain ⟨rfl, hZ, hh⟩ := hP
  have hx := Bd.exec
  have hby := Bd.bytes
  have hml : c.maxLocals = 6 := hml0
  have hown : s.vm.findClass "java/lang/String" = some m.cls := findClass_of_methodNamed Bd.named
  have hnm := (name_of_methodNamed Bd.named Bd.method).1
  have X0 : Stand p l e ({ frames := 2, cells := 1, slots := 1, locals := 35 } : Room) s m #[(.ref a0s), (.ref a1c), (.int (0 : Int32)), (.int (1 : Int32)), .null] below meth c s₁ [] 0 0 := Stand.of_body Bd
  have e0 : s₁.heap = h0 := by rw [← hh, Bd.state]; rfl
  have N0 := Fr.nil n0
  have pre0 : ∀ t, Steps p.tables e below (s₁.setTop (mkF m 0 #[.val (.ref a0s), .val (.ref a1c), .val (.int (0 : Int32)), .val (.int (1 : Int32)), .val .null, .unset] [])) t → Steps p.tables e below (s₁.setTop (entryFrame m #[(.ref a0s), (.ref a1c), (.int (0 : Int32)), (.int (1 : Int32)), .null] 6)) t := fun t k => castTop (ef_rmIv_1 m a0s a1c) k
  have GL' := GL
  obtain ⟨GCS, GCP, GSR, GSE, GEE, GFE, GSU, GSS⟩ := GL'
  obtain ⟨T1, X1, e1, st1⟩ := initO X0 hx hZ hown (Wd hw 11 rfl) (Wd hw 12 rfl) (Wd hw 13 rfl) e0 (g := (mkF m 1 #[.val (.ref a0s), .val (.ref a1c), .val (.int (0 : Int32)), .val (.int (1 : Int32)), .val .null, .unset] [(.ref a0s)])) rfl (by rw [hml]; rfl) rfl (hb hby d2_1) (by decide) (W := 0) (by show 2 * 0 + _ ≤ _; exact Nat.le_of_eq rfl) (by decide)
  obtain ⟨T2, X2, e2, st2⟩ := getS2 X1 hx hZ hown (host := "") (Or.inl (Wd hw 103 rfl)) Via.refl e1 (GCS.ext O0.2) (g := (mkF m 27 #[.val (.ref a0s), .val (.ref a1c), .val (.int (0 : Int32)), .val (.int (1 : Int32)), .val .null, .unset] [])) rfl (hb hby d2_27)
  obtain ⟨_, _, ⟨T3, L3, k3, n3⟩, -, X3, ⟨Lc3, hQ3, l3, y3, z3⟩, st3⟩ := Jvm.LawKit.callS X2 hx (y := MN_1) hown (mvT hZ (Wd hw 104 rfl)) (mvT hZ (Wd hw 105 rfl)) (mvT hZ (Wd hw 106 rfl)) (mvT hZ (Wd hw 107 rfl)) (by decide) (backOf (W := 0) (rmC1_1 l Z a0 hw [] cS aRS aEM aUS aSS (a1c) (k1) (c0) (h0) n0 O0 GL V_a1c hc0) hZ (Wd hw 107 rfl) (Wd hw 106 rfl) (by decide) (by decide)) (g := (mkF m 36 #[.val (.ref a0s), .val (.ref a1c), .val (.int (0 : Int32)), .val (.int (1 : Int32)), .val .null, .unset] [(.int (1 : Int32)), (.int (0 : Int32)), (.ref a1c)])) rfl (by rw [hml]; rfl) (argsL := [(.ref a1c), (.int (0 : Int32)), (.int (1 : Int32))]) (rest := []) (lenOf pdv1 rfl) rfl (by show 2 * 0 + _ ≤ _; exact Nat.le_of_eq rfl) (hb hby d2_36) (fun _ _ => ⟨rfl, e2, (by decide : 0 + 1 ≤ _), (by decide : 0 + 1 ≤ _)⟩)
  dsimp only [Pt.U, Pt.locs, Pt.cells, Pt.slots] at X3 l3 y3 z3 st3 hQ3
  subst l3 y3 z3
  obtain ⟨b_3, kb_3, rfl, N3q, Kc3, P3_0, P3_1, P3_2⟩ := hQ3
  have K3 : Keep h0 T3.heap [a0s] := (Keep.refl h0 [a0s]).trans Kc3 all0
  have O3 := O0.keep Kc3 all0
  have g_b_3 : n0 ≤ b_3 := Nat.le_trans (own_sz O0) P3_0
  have sz_b_3 : h0.size ≤ b_3 := Nat.le_trans (Keep.refl h0 [a0s]).1 P3_0
  have N3 := Fr.app N0 N3q
  obtain ⟨_, _, ⟨T4, L4, k4, n4⟩, -, X4, ⟨Lc4, hQ4, l4, y4, z4⟩, st4⟩ := Jvm.LawKit.callS X3 hx (y := MN_2) hown (mvT hZ (Wd hw 111 rfl)) (mvT hZ (Wd hw 112 rfl)) (mvT hZ (Wd hw 106 rfl)) (mvT hZ (Wd hw 113 rfl)) (by decide) (backOf (W := 1) (rmCfa1_1 l Z a0 hw [] cS aRS aEM aUS aSS (b_3) (kb_3) ([(.int (c0.toInt8.toInt32))]) (T3.heap) n0 O3 GL P3_2) hZ (Wd hw 113 rfl) (Wd hw 106 rfl) (by decide) (by decide)) (g := (mkF m 45 #[.val (.ref a0s), .val (.ref a1c), .val (.int (0 : Int32)), .val (.int (1 : Int32)), .val .null, .val (.ref b_3)] [(.int (1 : Int32)), (.ref b_3), (.ref a0s)])) rfl (by rw [hml]; rfl) (argsL := [(.ref b_3), (.int (1 : Int32))]) (rest := [(.ref a0s)]) (lenOf pdv2 rfl) rfl (by show 2 * 0 + _ ≤ _; exact Nat.le_of_eq rfl) (hb hby d2_45) (fun _ _ => ⟨rfl, rfl, (by decide : 1 + 0 ≤ _), (by decide : 1 + 0 ≤ _)⟩)
  dsimp only [Pt.U, Pt.locs, Pt.cells, Pt.slots] at X4 l4 y4 z4 st4 hQ4
  subst l4 y4 z4
  obtain ⟨rfl, N4q, e4⟩ := hQ4
  have N4 := Fr.app N3 N4q
  obtain ⟨T5, h5, X5, e5, W5, st5⟩ := putFN X4 hx hZ hown (Wd hw 21 rfl) Via.refl e4 (F_coder_a0s.keep Kc3 nin0) (E_a0s.keep Kc3) (Or.inr ⟨(Wd hw 17 rfl), rfl, hnm⟩) (Wd hw 2 rfl) (ty := .byte) (v' := (.int (0 : Int32))) (by decide) rfl (by decide) (g := (mkF m 48 #[.val (.ref a0s), .val (.ref a1c), .val (.int (0 : Int32)), .val (.int (1 : Int32)), .val .null, .val (.ref b_3)] [(.int (0 : Int32)), (.ref a0s)])) rfl rfl (hb hby d2_48)
  have Fw5 := (F_coder_a0s.keep Kc3 nin0).same W5
  have K5 : Keep h0 h5 [a0s] := K3.wr W5 (Or.inl (List.mem_of_getElem? (i := 0) rfl))
  have O5 := O3.wr W5 g_a0s
  have N5 := Fr.snoc X5 N4 g_a0s
  obtain ⟨T6, h6, X6, e6, W6, st6⟩ := putF X5 hx hZ hown (host := "") (Or.inl (Wd hw 20 rfl)) Via.refl e5 ((F_value_a0s.keep Kc3 nin0).other W5 (Or.inr (slot_ne (a0 := a0) (Or.inr (Wd hw 16 rfl)) (Or.inr (Wd hw 17 rfl)) (by decide) (t := (.array .byte)) (t' := .byte) (by decide) (by decide)))) ((E_a0s.keep Kc3).wr W5) (Or.inr ⟨(Wd hw 16 rfl), rfl, hnm⟩) (Wd hw 2 rfl) (ty := (.array .byte)) (by decide) rfl rfl (g := (mkF m 54 #[.val (.ref a0s), .val (.ref a1c), .val (.int (0 : Int32)), .val (.int (1 : Int32)), .val .null, .val (.ref b_3)] [(.ref b_3), (.ref a0s)])) rfl rfl (hb hby d2_54)
  have Fw6 := ((F_value_a0s.keep Kc3 nin0).other W5 (Or.inr (slot_ne (a0 := a0) (Or.inr (Wd hw 16 rfl)) (Or.inr (Wd hw 17 rfl)) (by decide) (t := (.array .byte)) (t' := .byte) (by decide) (by decide)))).same W6
  have K6 : Keep h0 h6 [a0s] := K5.wr W6 (Or.inl (List.mem_of_getElem? (i := 0) rfl))
  have O6 := O5.wr W6 g_a0s
  have N6 := Fr.snoc X6 N5 g_a0s
  obtain ⟨fs, hr, hrun, hended, hW, hsame⟩ := X6.leave (v := none) (fun _ => rfl)
  refine ⟨_, _, pre0 _ ?_, hrun, hended, _, _, rfl, ?_, ⟨_, rfl⟩, hW, hsame.mono (by decide) (by decide)⟩
  · show Steps p.tables e below (s₁.setTop (mkF m 0 #[.val (.ref a0s), .val (.ref a1c), .val (.int (0 : Int32)), .val (.int (1 : Int32)), .val .null, .unset] [])) _
    refine XS.aloadN X0.here hx rfl (hb hby d2_0) rfl rfl ?_
    show Steps p.tables e below (s₁.setTop (mkF m 1 #[.val (.ref a0s), .val (.ref a1c), .val (.int (0 : Int32)), .val (.int (1 : Int32)), .val .null, .unset] [(.ref a0s)])) _
    refine st1 _ ?_
    show Steps p.tables e below (T1.setTop (mkF m 4 #[.val (.ref a0s), .val (.ref a1c), .val (.int (0 : Int32)), .val (.int (1 : Int32)), .val .null, .unset] [])) _
    refine XS.iloadN X1.here hx rfl (hb hby d2_4) rfl ?_
    show Steps p.tables e below (T1.setTop (mkF m 5 #[.val (.ref a0s), .val (.ref a1c), .val (.int (0 : Int32)), .val (.int (1 : Int32)), .val .null, .unset] [(.int (1 : Int32))])) _
    refine XS.ifYes X1.here hx rfl (pc0 := 5) (pc' := 27) rfl (hb hby d2_5) rfl ((if0 _ _).trans (feq (by decide : ¬ ((1 : Int32) = (0 : Int32)))).2) (by decide) (by decide) ?_
    show Steps p.tables e below (T1.setTop (mkF m 27 #[.val (.ref a0s), .val (.ref a1c), .val (.int (0 : Int32)), .val (.int (1 : Int32)), .val .null, .unset] [])) _
    refine st2 _ ?_
    show Steps p.tables e below (T2.setTop (mkF m 30 #[.val (.ref a0s), .val (.ref a1c), .val (.int (0 : Int32)), .val (.int (1 : Int32)), .val .null, .unset] [(.int cS)])) _
    refine XS.ifNo X2.here hx rfl (hb hby d2_30) rfl ((if0 _ _).trans (feq GCP).1) ?_
    show Steps p.tables e below (T2.setTop (mkF m 33 #[.val (.ref a0s), .val (.ref a1c), .val (.int (0 : Int32)), .val (.int (1 : Int32)), .val .null, .unset] [])) _
    refine XS.aloadN X2.here hx rfl (hb hby d2_33) rfl rfl ?_
    show Steps p.tables e below (T2.setTop (mkF m 34 #[.val (.ref a0s), .val (.ref a1c), .val (.int (0 : Int32)), .val (.int (1 : Int32)), .val .null, .unset] [(.ref a1c)])) _
    refine XS.iloadN X2.here hx rfl (hb hby d2_34) rfl ?_
    show Steps p.tables e below (T2.setTop (mkF m 35 #[.val (.ref a0s), .val (.ref a1c), .val (.int (0 : Int32)), .val (.int (1 : Int32)), .val .null, .unset] [(.int (0 : Int32)), (.ref a1c)])) _
    refine XS.iloadN X2.here hx rfl (hb hby d2_35) rfl ?_
    show Steps p.tables e below (T2.setTop (mkF m 36 #[.val (.ref a0s), .val (.ref a1c), .val (.int (0 : Int32)), .val (.int (1 : Int32)), .val .null, .unset] [(.int (1 : Int32)), (.int (0 : Int32)), (.ref a1c)])) _
    refine st3 _ ?_
    show Steps p.tables e below (T3.setTop (mkF m 39 #[.val (.ref a0s), .val (.ref a1c), .val (.int (0 : Int32)), .val (.int (1 : Int32)), .val .null, .unset] [(.ref b_3)])) _
    refine XS.astore X3.here hx rfl (hb hby d2_39) rfl rfl (l' := #[.val (.ref a0s), .val (.ref a1c), .val (.int (0 : Int32)), .val (.int (1 : Int32)), .val .null, .val (.ref b_3)]) rfl ?_
    show Steps p.tables e below (T3.setTop (mkF m 41 #[.val (.ref a0s), .val (.ref a1c), .val (.int (0 : Int32)), .val (.int (1 : Int32)), .val .null, .val (.ref b_3)] [])) _
    refine XS.aloadN X3.here hx rfl (hb hby d2_41) rfl rfl ?_
    show Steps p.tables e below (T3.setTop (mkF m 42 #[.val (.ref a0s), .val (.ref a1c), .val (.int (0 : Int32)), .val (.int (1 : Int32)), .val .null, .val (.ref b_3)] [(.ref a0s)])) _
    refine XS.aload X3.here hx rfl (hb hby d2_42) rfl rfl ?_
    show Steps p.tables e below (T3.setTop (mkF m 44 #[.val (.ref a0s), .val (.ref a1c), .val (.int (0 : Int32)), .val (.int (1 : Int32)), .val .null, .val (.ref b_3)] [(.ref b_3), (.ref a0s)])) _
    refine XS.iloadN X3.here hx rfl (hb hby d2_44) rfl ?_
    show Steps p.tables e below (T3.setTop (mkF m 45 #[.val (.ref a0s), .val (.ref a1c), .val (.int (0 : Int32)), .val (.int (1 : Int32)), .val .null, .val (.ref b_3)] [(.int (1 : Int32)), (.ref b_3), (.ref a0s)])) _
    refine st4 _ ?_
    show Steps p.tables e below (T4.setTop (mkF m 48 #[.val (.ref a0s), .val (.ref a1c), .val (.int (0 : Int32)), .val (.int (1 : Int32)), .val .null, .val (.ref b_3)] [(.int (0 : Int32)), (.ref a0s)])) _
    refine st5 _ ?_
    show Steps p.tables e below (T5.setTop (mkF m 51 #[.val (.ref a0s), .val (.ref a1c), .val (.int (0 : Int32)), .val (.int (1 : Int32)), .val .null, .val (.ref b_3)] [])) _
    refine XS.aloadN X5.here hx rfl (hb hby d2_51) rfl rfl ?_
    show Steps p.tables e below (T5.setTop (mkF m 52 #[.val (.ref a0s), .val (.ref a1c), .val (.int (0 : Int32)), .val (.int (1 : Int32)), .val .null, .val (.ref b_3)] [(.ref a0s)])) _
    refine XS.aload X5.here hx rfl (hb hby d2_52) rfl rfl ?_
    show Steps p.tables e below (T5.setTop (mkF m 54 #[.val (.ref a0s), .val (.ref a1c), .val (.int (0 : Int32)), .val (.int (1 : Int32)), .val .null, .val (.ref b_3)] [(.ref b_3), (.ref a0s)])) _
    refine st6 _ ?_
    show Steps p.tables e below (T6.setTop (mkF m 57 #[.val (.ref a0s), .val (.ref a1c), .val (.int (0 : Int32)), .val (.int (1 : Int32)), .val .null, .val (.ref b_3)] [])) _
    exact X6.returnOut hx Bd.returns (hb hby d2_57) hr
  · show Q_rmIv_1 n0 Z cS aRS aEM aUS aSS a0s a1c k1 c0 h0 _ T6.heap _
    rw [e6]
    exact ⟨b_3, kb_3, rfl, N6, K6, sz_b_3, ((P3_1.wr W5).wr W6), (((E_a0s.keep Kc3).wr W5).wr W6), Fw6, (Fw5.other W6 (Or.inr (slot_ne (a0 := a0) (Or.inr (Wd hw 17 rfl)) (Or.inr (Wd hw 16 rfl)) (by decide) (t := .byte) (t' := (.array .byte)) (by decide) (by decide)))), ((P3_2.other W5 (Ne.symm (Nat.ne_of_lt (Nat.lt_of_lt_of_le E_a0s.lt P3_0)))).other W6 (Ne.symm (Nat.ne_of_lt (Nat.lt_of_lt_of_le E_a0s.lt P3_0))))⟩
theorem ef_rmIv_2 (m : MethodId) (a0s : Addr) (a1c : Addr) : entryFrame m #[(.ref a0s), (.ref a1c), (.int (0 : Int32)), (.int (2 : Int32)), .null] 6 = mkF m 0 #[.val (.ref a0s), .val (.ref a1c), .val (.int (0 : Int32)), .val (.int (2 : Int32)), .val .null, .unset] [] := by first | (simp [entryFrame, mkF, argsToLocals, Value.category]; done) | rfl
def Q_rmIv_2 (n0 : Nat) (Z : State) (cS : Int32) (aRS : Addr) (aEM : Addr) (aUS : Addr) (aSS : Addr) (a0s : Addr) (a1c : Addr) (k1 : ClassId) (c0 : Int32) (c1 : Int32) (h0 : Heap) (v : Option Value) (h : Heap) (L : List Loc) : Prop := ∃ b : Addr, ∃ kb : ClassId, v = none ∧ Fr n0 L ∧ Keep h0 h [a0s] ∧ (h0.size ≤ b) ∧ (Exa Z h b "[B") ∧ (Exa Z h a0s "java/lang/String") ∧ (Fld Z h a0s "java/lang/String" "value" "[B" (.ref b)) ∧ (Fld Z h a0s "java/lang/String" "coder" "B" (.int (0 : Int32))) ∧ (Arv Z h b kb .byte (2 : Int32) [(.int (c0.toInt8.toInt32)), (.int (c1.toInt8.toInt32))] (.int (0 : Int32)))
set_option maxRecDepth 65536 in
set_option maxHeartbeats 40000000 in
theorem rmIv_2 (l : Launch) (Z : State) (a0 : Array Value) (hw : ∀ d ∈ tables_1, d.before a0 Z = true) (ws : List Jvm.Cond) (cS : Int32) (aRS : Addr) (aEM : Addr) (aUS : Addr) (aSS : Addr) (a0s : Addr) (a1c : Addr) (k1 : ClassId) (c0 : Int32) (c1 : Int32) (h0 : Heap) (n0 : Nat) (O0 : Old Z n0 h0) (GL : GF Z cS aRS aEM aUS aSS) (E_a0s : Exa Z h0 a0s "java/lang/String") (F_value_a0s : Fld Z h0 a0s "java/lang/String" "value" "[B" .null) (F_coder_a0s : Fld Z h0 a0s "java/lang/String" "coder" "B" (.int (0 : Int32))) (g_a0s : n0 ≤ a0s) (V_a1c : Arv Z h0 a1c k1 .char (2 : Int32) [(.int c0), (.int c1)] (.int (0 : Int32))) (hc0 : ¬ ((255 : Int32) < c0)) (hc1 : ¬ ((255 : Int32) < c1)) :
    MetFree l MN_3 (head1 (Jvm.Cond.code MN_3 jdk_42_method_149_code 6 none :: ws) ({ frames := 2, cells := 1, slots := 2, locals := 35 } : Room)) (fun a U => a = #[(.ref a0s), (.ref a1c), (.int (0 : Int32)), (.int (2 : Int32)), .null] ∧ Z.Warmed39 U.vm ∧ U.heap = h0) (fun _ _ _ _ _ => True) (fun _ U o U' => ∃ v L, o = .returned v ∧ Q_rmIv_2 n0 Z cS aRS aEM aUS aSS a0s a1c k1 c0 c1 h0 v U'.heap L ∧ FrameEnd U o U' L ({ frames := 2, cells := 1, slots := 2, locals := 35 } : Room).cells ({ frames := 2, cells := 1, slots := 2, locals := 35 } : Room).slots) := by
  refine MetFree.of_bodySF (plainFor_of_name pnv1) hisR ?_
  intro p e s m args below meth c s₁ Bd hml0 hP hK
  obtain ⟨rfl, hZ, hh⟩ := hP
  have hx := Bd.exec
  have hby := Bd.bytes
  have hml : c.maxLocals = 6 := hml0
  have hown : s.vm.findClass "java/lang/String" = some m.cls := findClass_of_methodNamed Bd.named
  have hnm := (name_of_methodNamed Bd.named Bd.method).1
  have X0 : Stand p l e ({ frames := 2, cells := 1, slots := 2, locals := 35 } : Room) s m #[(.ref a0s), (.ref a1c), (.int (0 : Int32)), (.int (2 : Int32)), .null] below meth c s₁ [] 0 0 := Stand.of_body Bd
  have e0 : s₁.heap = h0 := by rw [← hh, Bd.state]; rfl
  have N0 := Fr.nil n0
  have pre0 : ∀ t, Steps p.tables e below (s₁.setTop (mkF m 0 #[.val (.ref a0s), .val (.ref a1c), .val (.int (0 : Int32)), .val (.int (2 : Int32)), .val .null, .unset] [])) t → Steps p.tables e below (s₁.setTop (entryFrame m #[(.ref a0s), (.ref a1c), (.int (0 : Int32)), (.int (2 : Int32)), .null] 6)) t := fun t k => castTop (ef_rmIv_2 m a0s a1c) k
  have GL' := GL
  obtain ⟨GCS, GCP, GSR, GSE, GEE, GFE, GSU, GSS⟩ := GL'
  obtain ⟨T1, X1, e1, st1⟩ := initO X0 hx hZ hown (Wd hw 11 rfl) (Wd hw 12 rfl) (Wd hw 13 rfl) e0 (g := (mkF m 1 #[.val (.ref a0s), .val (.ref a1c), .val (.int (0 : Int32)), .val (.int (2 : Int32)), .val .null, .unset] [(.ref a0s)])) rfl (by rw [hml]; rfl) rfl (hb hby d2_1) (by decide) (W := 0) (by show 2 * 0 + _ ≤ _; exact Nat.le_of_eq rfl) (by decide)
  obtain ⟨T2, X2, e2, st2⟩ := getS2 X1 hx hZ hown (host := "") (Or.inl (Wd hw 103 rfl)) Via.refl e1 (GCS.ext O0.2) (g := (mkF m 27 #[.val (.ref a0s), .val (.ref a1c), .val (.int (0 : Int32)), .val (.int (2 : Int32)), .val .null, .unset] [])) rfl (hb hby d2_27)
  obtain ⟨_, _, ⟨T3, L3, k3, n3⟩, -, X3, ⟨Lc3, hQ3, l3, y3, z3⟩, st3⟩ := Jvm.LawKit.callS X2 hx (y := MN_1) hown (mvT hZ (Wd hw 104 rfl)) (mvT hZ (Wd hw 105 rfl)) (mvT hZ (Wd hw 106 rfl)) (mvT hZ (Wd hw 107 rfl)) (by decide) (backOf (W := 0) (rmC1_2 l Z a0 hw [] cS aRS aEM aUS aSS (a1c) (k1) (c0) (c1) (h0) n0 O0 GL V_a1c hc0 hc1) hZ (Wd hw 107 rfl) (Wd hw 106 rfl) (by decide) (by decide)) (g := (mkF m 36 #[.val (.ref a0s), .val (.ref a1c), .val (.int (0 : Int32)), .val (.int (2 : Int32)), .val .null, .unset] [(.int (2 : Int32)), (.int (0 : Int32)), (.ref a1c)])) rfl (by rw [hml]; rfl) (argsL := [(.ref a1c), (.int (0 : Int32)), (.int (2 : Int32))]) (rest := []) (lenOf pdv1 rfl) rfl (by show 2 * 0 + _ ≤ _; exact Nat.le_of_eq rfl) (hb hby d2_36) (fun _ _ => ⟨rfl, e2, (by decide : 0 + 1 ≤ _), (by decide : 0 + 2 ≤ _)⟩)
  dsimp only [Pt.U, Pt.locs, Pt.cells, Pt.slots] at X3 l3 y3 z3 st3 hQ3
  subst l3 y3 z3
  obtain ⟨b_3, kb_3, rfl, N3q, Kc3, P3_0, P3_1, P3_2⟩ := hQ3
  have K3 : Keep h0 T3.heap [a0s] := (Keep.refl h0 [a0s]).trans Kc3 all0
  have O3 := O0.keep Kc3 all0
  have g_b_3 : n0 ≤ b_3 := Nat.le_trans (own_sz O0) P3_0
  have sz_b_3 : h0.size ≤ b_3 := Nat.le_trans (Keep.refl h0 [a0s]).1 P3_0
  have N3 := Fr.app N0 N3q
  obtain ⟨_, _, ⟨T4, L4, k4, n4⟩, -, X4, ⟨Lc4, hQ4, l4, y4, z4⟩, st4⟩ := Jvm.LawKit.callS X3 hx (y := MN_2) hown (mvT hZ (Wd hw 111 rfl)) (mvT hZ (Wd hw 112 rfl)) (mvT hZ (Wd hw 106 rfl)) (mvT hZ (Wd hw 113 rfl)) (by decide) (backOf (W := 1) (rmCfa2_2 l Z a0 hw [] cS aRS aEM aUS aSS (b_3) (kb_3) ([(.int (c0.toInt8.toInt32)), (.int (c1.toInt8.toInt32))]) (T3.heap) n0 O3 GL P3_2) hZ (Wd hw 113 rfl) (Wd hw 106 rfl) (by decide) (by decide)) (g := (mkF m 45 #[.val (.ref a0s), .val (.ref a1c), .val (.int (0 : Int32)), .val (.int (2 : Int32)), .val .null, .val (.ref b_3)] [(.int (2 : Int32)), (.ref b_3), (.ref a0s)])) rfl (by rw [hml]; rfl) (argsL := [(.ref b_3), (.int (2 : Int32))]) (rest := [(.ref a0s)]) (lenOf pdv2 rfl) rfl (by show 2 * 0 + _ ≤ _; exact Nat.le_of_eq rfl) (hb hby d2_45) (fun _ _ => ⟨rfl, rfl, (by decide : 1 + 0 ≤ _), (by decide : 2 + 0 ≤ _)⟩)
  dsimp only [Pt.U, Pt.locs, Pt.cells, Pt.slots] at X4 l4 y4 z4 st4 hQ4
  subst l4 y4 z4
  obtain ⟨rfl, N4q, e4⟩ := hQ4
  have N4 := Fr.app N3 N4q
  obtain ⟨T5, h5, X5, e5, W5, st5⟩ := putFN X4 hx hZ hown (Wd hw 21 rfl) Via.refl e4 (F_coder_a0s.keep Kc3 nin0) (E_a0s.keep Kc3) (Or.inr ⟨(Wd hw 17 rfl), rfl, hnm⟩) (Wd hw 2 rfl) (ty := .byte) (v' := (.int (0 : Int32))) (by decide) rfl (by decide) (g := (mkF m 48 #[.val (.ref a0s), .val (.ref a1c), .val (.int (0 : Int32)), .val (.int (2 : Int32)), .val .null, .val (.ref b_3)] [(.int (0 : Int32)), (.ref a0s)])) rfl rfl (hb hby d2_48)
  have Fw5 := (F_coder_a0s.keep Kc3 nin0).same W5
  have K5 : Keep h0 h5 [a0s] := K3.wr W5 (Or.inl (List.mem_of_getElem? (i := 0) rfl))
  have O5 := O3.wr W5 g_a0s
  have N5 := Fr.snoc X5 N4 g_a0s
  obtain ⟨T6, h6, X6, e6, W6, st6⟩ := putF X5 hx hZ hown (host := "") (Or.inl (Wd hw 20 rfl)) Via.refl e5 ((F_value_a0s.keep Kc3 nin0).other W5 (Or.inr (slot_ne (a0 := a0) (Or.inr (Wd hw 16 rfl)) (Or.inr (Wd hw 17 rfl)) (by decide) (t := (.array .byte)) (t' := .byte) (by decide) (by decide)))) ((E_a0s.keep Kc3).wr W5) (Or.inr ⟨(Wd hw 16 rfl), rfl, hnm⟩) (Wd hw 2 rfl) (ty := (.array .byte)) (by decide) rfl rfl (g := (mkF m 54 #[.val (.ref a0s), .val (.ref a1c), .val (.int (0 : Int32)), .val (.int (2 : Int32)), .val .null, .val (.ref b_3)] [(.ref b_3), (.ref a0s)])) rfl rfl (hb hby d2_54)
  have Fw6 := ((F_value_a0s.keep Kc3 nin0).other W5 (Or.inr (slot_ne (a0 := a0) (Or.inr (Wd hw 16 rfl)) (Or.inr (Wd hw 17 rfl)) (by decide) (t := (.array .byte)) (t' := .byte) (by decide) (by decide)))).same W6
  have K6 : Keep h0 h6 [a0s] := K5.wr W6 (Or.inl (List.mem_of_getElem? (i := 0) rfl))
  have O6 := O5.wr W6 g_a0s
  have N6 := Fr.snoc X6 N5 g_a0s
  obtain ⟨fs, hr, hrun, hended, hW, hsame⟩ := X6.leave (v := none) (fun _ => rfl)
  refine ⟨_, _, pre0 _ ?_, hrun, hended, _, _, rfl, ?_, ⟨_, rfl⟩, hW, hsame.mono (by decide) (by decide)⟩
  · show Steps p.tables e below (s₁.setTop (mkF m 0 #[.val (.ref a0s), .val (.ref a1c), .val (.int (0 : Int32)), .val (.int (2 : Int32)), .val .null, .unset] [])) _
    refine XS.aloadN X0.here hx rfl (hb hby d2_0) rfl rfl ?_
    show Steps p.tables e below (s₁.setTop (mkF m 1 #[.val (.ref a0s), .val (.ref a1c), .val (.int (0 : Int32)), .val (.int (2 : Int32)), .val .null, .unset] [(.ref a0s)])) _
    refine st1 _ ?_
    show Steps p.tables e below (T1.setTop (mkF m 4 #[.val (.ref a0s), .val (.ref a1c), .val (.int (0 : Int32)), .val (.int (2 : Int32)), .val .null, .unset] [])) _
    refine XS.iloadN X1.here hx rfl (hb hby d2_4) rfl ?_
    show Steps p.tables e below (T1.setTop (mkF m 5 #[.val (.ref a0s), .val (.ref a1c), .val (.int (0 : Int32)), .val (.int (2 : Int32)), .val .null, .unset] [(.int (2 : Int32))])) _
    refine XS.ifYes X1.here hx rfl (pc0 := 5) (pc' := 27) rfl (hb hby d2_5) rfl ((if0 _ _).trans (feq (by decide : ¬ ((2 : Int32) = (0 : Int32)))).2) (by decide) (by decide) ?_
    show Steps p.tables e below (T1.setTop (mkF m 27 #[.val (.ref a0s), .val (.ref a1c), .val (.int (0 : Int32)), .val (.int (2 : Int32)), .val .null, .unset] [])) _
    refine st2 _ ?_
    show Steps p.tables e below (T2.setTop (mkF m 30 #[.val (.ref a0s), .val (.ref a1c), .val (.int (0 : Int32)), .val (.int (2 : Int32)), .val .null, .unset] [(.int cS)])) _
    refine XS.ifNo X2.here hx rfl (hb hby d2_30) rfl ((if0 _ _).trans (feq GCP).1) ?_
    show Steps p.tables e below (T2.setTop (mkF m 33 #[.val (.ref a0s), .val (.ref a1c), .val (.int (0 : Int32)), .val (.int (2 : Int32)), .val .null, .unset] [])) _
    refine XS.aloadN X2.here hx rfl (hb hby d2_33) rfl rfl ?_
    show Steps p.tables e below (T2.setTop (mkF m 34 #[.val (.ref a0s), .val (.ref a1c), .val (.int (0 : Int32)), .val (.int (2 : Int32)), .val .null, .unset] [(.ref a1c)])) _
    refine XS.iloadN X2.here hx rfl (hb hby d2_34) rfl ?_
    show Steps p.tables e below (T2.setTop (mkF m 35 #[.val (.ref a0s), .val (.ref a1c), .val (.int (0 : Int32)), .val (.int (2 : Int32)), .val .null, .unset] [(.int (0 : Int32)), (.ref a1c)])) _
    refine XS.iloadN X2.here hx rfl (hb hby d2_35) rfl ?_
    show Steps p.tables e below (T2.setTop (mkF m 36 #[.val (.ref a0s), .val (.ref a1c), .val (.int (0 : Int32)), .val (.int (2 : Int32)), .val .null, .unset] [(.int (2 : Int32)), (.int (0 : Int32)), (.ref a1c)])) _
    refine st3 _ ?_
    show Steps p.tables e below (T3.setTop (mkF m 39 #[.val (.ref a0s), .val (.ref a1c), .val (.int (0 : Int32)), .val (.int (2 : Int32)), .val .null, .unset] [(.ref b_3)])) _
    refine XS.astore X3.here hx rfl (hb hby d2_39) rfl rfl (l' := #[.val (.ref a0s), .val (.ref a1c), .val (.int (0 : Int32)), .val (.int (2 : Int32)), .val .null, .val (.ref b_3)]) rfl ?_
    show Steps p.tables e below (T3.setTop (mkF m 41 #[.val (.ref a0s), .val (.ref a1c), .val (.int (0 : Int32)), .val (.int (2 : Int32)), .val .null, .val (.ref b_3)] [])) _
    refine XS.aloadN X3.here hx rfl (hb hby d2_41) rfl rfl ?_
    show Steps p.tables e below (T3.setTop (mkF m 42 #[.val (.ref a0s), .val (.ref a1c), .val (.int (0 : Int32)), .val (.int (2 : Int32)), .val .null, .val (.ref b_3)] [(.ref a0s)])) _
    refine XS.aload X3.here hx rfl (hb hby d2_42) rfl rfl ?_
    show Steps p.tables e below (T3.setTop (mkF m 44 #[.val (.ref a0s), .val (.ref a1c), .val (.int (0 : Int32)), .val (.int (2 : Int32)), .val .null, .val (.ref b_3)] [(.ref b_3), (.ref a0s)])) _
    refine XS.iloadN X3.here hx rfl (hb hby d2_44) rfl ?_
    show Steps p.tables e below (T3.setTop (mkF m 45 #[.val (.ref a0s), .val (.ref a1c), .val (.int (0 : Int32)), .val (.int (2 : Int32)), .val .null, .val (.ref b_3)] [(.int (2 : Int32)), (.ref b_3), (.ref a0s)])) _
    refine st4 _ ?_
    show Steps p.tables e below (T4.setTop (mkF m 48 #[.val (.ref a0s), .val (.ref a1c), .val (.int (0 : Int32)), .val (.int (2 : Int32)), .val .null, .val (.ref b_3)] [(.int (0 : Int32)), (.ref a0s)])) _
    refine st5 _ ?_
    show Steps p.tables e below (T5.setTop (mkF m 51 #[.val (.ref a0s), .val (.ref a1c), .val (.int (0 : Int32)), .val (.int (2 : Int32)), .val .null, .val (.ref b_3)] [])) _
    refine XS.aloadN X5.here hx rfl (hb hby d2_51) rfl rfl ?_
    show Steps p.tables e below (T5.setTop (mkF m 52 #[.val (.ref a0s), .val (.ref a1c), .val (.int (0 : Int32)), .val (.int (2 : Int32)), .val .null, .val (.ref b_3)] [(.ref a0s)])) _
    refine XS.aload X5.here hx rfl (hb hby d2_52) rfl rfl ?_
    show Steps p.tables e below (T5.setTop (mkF m 54 #[.val (.ref a0s), .val (.ref a1c), .val (.int (0 : Int32)), .val (.int (2 : Int32)), .val .null, .val (.ref b_3)] [(.ref b_3), (.ref a0s)])) _
    refine st6 _ ?_
    show Steps p.tables e below (T6.setTop (mkF m 57 #[.val (.ref a0s), .val (.ref a1c), .val (.int (0 : Int32)), .val (.int (2 : Int32)), .val .null, .val (.ref b_3)] [])) _
    exact X6.returnOut hx Bd.returns (hb hby d2_57) hr
  · show Q_rmIv_2 n0 Z cS aRS aEM aUS aSS a0s a1c k1 c0 c1 h0 _ T6.heap _
    rw [e6]
    exact ⟨b_3, kb_3, rfl, N6, K6, sz_b_3, ((P3_1.wr W5).wr W6), (((E_a0s.keep Kc3).wr W5).wr W6), Fw6, (Fw5.other W6 (Or.inr (slot_ne (a0 := a0) (Or.inr (Wd hw 17 rfl)) (Or.inr (Wd hw 16 rfl)) (by decide) (t := .byte) (t' := (.array .byte)) (by decide) (by decide)))), ((P3_2.other W5 (Ne.symm (Nat.ne_of_lt (Nat.lt_of_lt_of_le E_a0s.lt P3_0)))).other W6 (Ne.symm (Nat.ne_of_lt (Nat.lt_of_lt_of_le E_a0s.lt P3_0))))⟩
theorem ef_rmIv_3 (m : MethodId) (a0s : Addr) (a1c : Addr) : entryFrame m #[(.ref a0s), (.ref a1c), (.int (0 : Int32)), (.int (3 : Int32)), .null] 6 = mkF m 0 #[.val (.ref a0s), .val (.ref a1c), .val (.int (0 : Int32)), .val (.int (3 : Int32)), .val .null, .unset] [] := by first | (simp [entryFrame, mkF, argsToLocals, Value.category]; done) | rfl
def Q_rmIv_3 (n0 : Nat) (Z : State) (cS : Int32) (aRS : Addr) (aEM : Addr) (aUS : Addr) (aSS : Addr) (a0s : Addr) (a1c : Addr) (k1 : ClassId) (c0 : Int32) (c1 : Int32) (c2 : Int32) (h0 : Heap) (v : Option Value) (h : Heap) (L : List Loc) : Prop := ∃ b : Addr, ∃ kb : ClassId, v = none ∧ Fr n0 L ∧ Keep h0 h [a0s] ∧ (h0.size ≤ b) ∧ (Exa Z h b "[B") ∧ (Exa Z h a0s "java/lang/String") ∧ (Fld Z h a0s "java/lang/String" "value" "[B" (.ref b)) ∧ (Fld Z h a0s "java/lang/String" "coder" "B" (.int (0 : Int32))) ∧ (Arv Z h b kb .byte (3 : Int32) [(.int (c0.toInt8.toInt32)), (.int (c1.toInt8.toInt32)), (.int (c2.toInt8.toInt32))] (.int (0 : Int32)))
set_option maxRecDepth 65536 in
set_option maxHeartbeats 40000000 in
theorem rmIv_3 (l : Launch) (Z : State) (a0 : Array Value) (hw : ∀ d ∈ tables_1, d.before a0 Z = true) (ws : List Jvm.Cond) (cS : Int32) (aRS : Addr) (aEM : Addr) (aUS : Addr) (aSS : Addr) (a0s : Addr) (a1c : Addr) (k1 : ClassId) (c0 : Int32) (c1 : Int32) (c2 : Int32) (h0 : Heap) (n0 : Nat) (O0 : Old Z n0 h0) (GL : GF Z cS aRS aEM aUS aSS) (E_a0s : Exa Z h0 a0s "java/lang/String") (F_value_a0s : Fld Z h0 a0s "java/lang/String" "value" "[B" .null) (F_coder_a0s : Fld Z h0 a0s "java/lang/String" "coder" "B" (.int (0 : Int32))) (g_a0s : n0 ≤ a0s) (V_a1c : Arv Z h0 a1c k1 .char (3 : Int32) [(.int c0), (.int c1), (.int c2)] (.int (0 : Int32))) (hc0 : ¬ ((255 : Int32) < c0)) (hc1 : ¬ ((255 : Int32) < c1)) (hc2 : ¬ ((255 : Int32) < c2)) :
    MetFree l MN_3 (head1 (Jvm.Cond.code MN_3 jdk_42_method_149_code 6 none :: ws) ({ frames := 2, cells := 1, slots := 3, locals := 35 } : Room)) (fun a U => a = #[(.ref a0s), (.ref a1c), (.int (0 : Int32)), (.int (3 : Int32)), .null] ∧ Z.Warmed39 U.vm ∧ U.heap = h0) (fun _ _ _ _ _ => True) (fun _ U o U' => ∃ v L, o = .returned v ∧ Q_rmIv_3 n0 Z cS aRS aEM aUS aSS a0s a1c k1 c0 c1 c2 h0 v U'.heap L ∧ FrameEnd U o U' L ({ frames := 2, cells := 1, slots := 3, locals := 35 } : Room).cells ({ frames := 2, cells := 1, slots := 3, locals := 35 } : Room).slots) := by
  refine MetFree.of_bodySF (plainFor_of_name pnv1) hisR ?_
  intro p e s m args below meth c s₁ Bd hml0 hP hK
  obtain ⟨rfl, hZ, hh⟩ := hP
  have hx := Bd.exec
  have hby := Bd.bytes
  have hml : c.maxLocals = 6 := hml0
  have hown : s.vm.findClass "java/lang/String" = some m.cls := findClass_of_methodNamed Bd.named
  have hnm := (name_of_methodNamed Bd.named Bd.method).1
  have X0 : Stand p l e ({ frames := 2, cells := 1, slots := 3, locals := 35 } : Room) s m #[(.ref a0s), (.ref a1c), (.int (0 : Int32)), (.int (3 : Int32)), .null] below meth c s₁ [] 0 0 := Stand.of_body Bd
  have e0 : s₁.heap = h0 := by rw [← hh, Bd.state]; rfl
  have N0 := Fr.nil n0
  have pre0 : ∀ t, Steps p.tables e below (s₁.setTop (mkF m 0 #[.val (.ref a0s), .val (.ref a1c), .val (.int (0 : Int32)), .val (.int (3 : Int32)), .val .null, .unset] [])) t → Steps p.tables e below (s₁.setTop (entryFrame m #[(.ref a0s), (.ref a1c), (.int (0 : Int32)), (.int (3 : Int32)), .null] 6)) t := fun t k => castTop (ef_rmIv_3 m a0s a1c) k
  have GL' := GL
  obtain ⟨GCS, GCP, GSR, GSE, GEE, GFE, GSU, GSS⟩ := GL'
  obtain ⟨T1, X1, e1, st1⟩ := initO X0 hx hZ hown (Wd hw 11 rfl) (Wd hw 12 rfl) (Wd hw 13 rfl) e0 (g := (mkF m 1 #[.val (.ref a0s), .val (.ref a1c), .val (.int (0 : Int32)), .val (.int (3 : Int32)), .val .null, .unset] [(.ref a0s)])) rfl (by rw [hml]; rfl) rfl (hb hby d2_1) (by decide) (W := 0) (by show 2 * 0 + _ ≤ _; exact Nat.le_of_eq rfl) (by decide)
  obtain ⟨T2, X2, e2, st2⟩ := getS2 X1 hx hZ hown (host := "") (Or.inl (Wd hw 103 rfl)) Via.refl e1 (GCS.ext O0.2) (g := (mkF m 27 #[.val (.ref a0s), .val (.ref a1c), .val (.int (0 : Int32)), .val (.int (3 : Int32)), .val .null, .unset] [])) rfl (hb hby d2_27)
  obtain ⟨_, _, ⟨T3, L3, k3, n3⟩, -, X3, ⟨Lc3, hQ3, l3, y3, z3⟩, st3⟩ := Jvm.LawKit.callS X2 hx (y := MN_1) hown (mvT hZ (Wd hw 104 rfl)) (mvT hZ (Wd hw 105 rfl)) (mvT hZ (Wd hw 106 rfl)) (mvT hZ (Wd hw 107 rfl)) (by decide) (backOf (W := 0) (rmC1_3 l Z a0 hw [] cS aRS aEM aUS aSS (a1c) (k1) (c0) (c1) (c2) (h0) n0 O0 GL V_a1c hc0 hc1 hc2) hZ (Wd hw 107 rfl) (Wd hw 106 rfl) (by decide) (by decide)) (g := (mkF m 36 #[.val (.ref a0s), .val (.ref a1c), .val (.int (0 : Int32)), .val (.int (3 : Int32)), .val .null, .unset] [(.int (3 : Int32)), (.int (0 : Int32)), (.ref a1c)])) rfl (by rw [hml]; rfl) (argsL := [(.ref a1c), (.int (0 : Int32)), (.int (3 : Int32))]) (rest := []) (lenOf pdv1 rfl) rfl (by show 2 * 0 + _ ≤ _; exact Nat.le_of_eq rfl) (hb hby d2_36) (fun _ _ => ⟨rfl, e2, (by decide : 0 + 1 ≤ _), (by decide : 0 + 3 ≤ _)⟩)
  dsimp only [Pt.U, Pt.locs, Pt.cells, Pt.slots] at X3 l3 y3 z3 st3 hQ3
  subst l3 y3 z3
  obtain ⟨b_3, kb_3, rfl, N3q, Kc3, P3_0, P3_1, P3_2⟩ := hQ3
  have K3 : Keep h0 T3.heap [a0s] := (Keep.refl h0 [a0s]).trans Kc3 all0
  have O3 := O0.keep Kc3 all0
  have g_b_3 : n0 ≤ b_3 := Nat.le_trans (own_sz O0) P3_0
  have sz_b_3 : h0.size ≤ b_3 := Nat.le_trans (Keep.refl h0 [a0s]).1 P3_0
  have N3 := Fr.app N0 N3q
  obtain ⟨_, _, ⟨T4, L4, k4, n4⟩, -, X4, ⟨Lc4, hQ4, l4, y4, z4⟩, st4⟩ := Jvm.LawKit.callS X3 hx (y := MN_2) hown (mvT hZ (Wd hw 111 rfl)) (mvT hZ (Wd hw 112 rfl)) (mvT hZ (Wd hw 106 rfl)) (mvT hZ (Wd hw 113 rfl)) (by decide) (backOf (W := 1) (rmCfa3_3 l Z a0 hw [] cS aRS aEM aUS aSS (b_3) (kb_3) ([(.int (c0.toInt8.toInt32)), (.int (c1.toInt8.toInt32)), (.int (c2.toInt8.toInt32))]) (T3.heap) n0 O3 GL P3_2) hZ (Wd hw 113 rfl) (Wd hw 106 rfl) (by decide) (by decide)) (g := (mkF m 45 #[.val (.ref a0s), .val (.ref a1c), .val (.int (0 : Int32)), .val (.int (3 : Int32)), .val .null, .val (.ref b_3)] [(.int (3 : Int32)), (.ref b_3), (.ref a0s)])) rfl (by rw [hml]; rfl) (argsL := [(.ref b_3), (.int (3 : Int32))]) (rest := [(.ref a0s)]) (lenOf pdv2 rfl) rfl (by show 2 * 0 + _ ≤ _; exact Nat.le_of_eq rfl) (hb hby d2_45) (fun _ _ => ⟨rfl, rfl, (by decide : 1 + 0 ≤ _), (by decide : 3 + 0 ≤ _)⟩)
  dsimp only [Pt.U, Pt.locs, Pt.cells, Pt.slots] at X4 l4 y4 z4 st4 hQ4
  subst l4 y4 z4
  obtain ⟨rfl, N4q, e4⟩ := hQ4
  have N4 := Fr.app N3 N4q
  obtain ⟨T5, h5, X5, e5, W5, st5⟩ := putFN X4 hx hZ hown (Wd hw 21 rfl) Via.refl e4 (F_coder_a0s.keep Kc3 nin0) (E_a0s.keep Kc3) (Or.inr ⟨(Wd hw 17 rfl), rfl, hnm⟩) (Wd hw 2 rfl) (ty := .byte) (v' := (.int (0 : Int32))) (by decide) rfl (by decide) (g := (mkF m 48 #[.val (.ref a0s), .val (.ref a1c), .val (.int (0 : Int32)), .val (.int (3 : Int32)), .val .null, .val (.ref b_3)] [(.int (0 : Int32)), (.ref a0s)])) rfl rfl (hb hby d2_48)
  have Fw5 := (F_coder_a0s.keep Kc3 nin0).same W5
  have K5 : Keep h0 h5 [a0s] := K3.wr W5 (Or.inl (List.mem_of_getElem? (i := 0) rfl))
  have O5 := O3.wr W5 g_a0s
  have N5 := Fr.snoc X5 N4 g_a0s
  obtain ⟨T6, h6, X6, e6, W6, st6⟩ := putF X5 hx hZ hown (host := "") (Or.inl (Wd hw 20 rfl)) Via.refl e5 ((F_value_a0s.keep Kc3 nin0).other W5 (Or.inr (slot_ne (a0 := a0) (Or.inr (Wd hw 16 rfl)) (Or.inr (Wd hw 17 rfl)) (by decide) (t := (.array .byte)) (t' := .byte) (by decide) (by decide)))) ((E_a0s.keep Kc3).wr W5) (Or.inr ⟨(Wd hw 16 rfl), rfl, hnm⟩) (Wd hw 2 rfl) (ty := (.array .byte)) (by decide) rfl rfl (g := (mkF m 54 #[.val (.ref a0s), .val (.ref a1c), .val (.int (0 : Int32)), .val (.int (3 : Int32)), .val .null, .val (.ref b_3)] [(.ref b_3), (.ref a0s)])) rfl rfl (hb hby d2_54)
  have Fw6 := ((F_value_a0s.keep Kc3 nin0).other W5 (Or.inr (slot_ne (a0 := a0) (Or.inr (Wd hw 16 rfl)) (Or.inr (Wd hw 17 rfl)) (by decide) (t := (.array .byte)) (t' := .byte) (by decide) (by decide)))).same W6
  have K6 : Keep h0 h6 [a0s] := K5.wr W6 (Or.inl (List.mem_of_getElem? (i := 0) rfl))
  have O6 := O5.wr W6 g_a0s
  have N6 := Fr.snoc X6 N5 g_a0s
  obtain ⟨fs, hr, hrun, hended, hW, hsame⟩ := X6.leave (v := none) (fun _ => rfl)
  refine ⟨_, _, pre0 _ ?_, hrun, hended, _, _, rfl, ?_, ⟨_, rfl⟩, hW, hsame.mono (by decide) (by decide)⟩
  · show Steps p.tables e below (s₁.setTop (mkF m 0 #[.val (.ref a0s), .val (.ref a1c), .val (.int (0 : Int32)), .val (.int (3 : Int32)), .val .null, .unset] [])) _
    refine XS.aloadN X0.here hx rfl (hb hby d2_0) rfl rfl ?_
    show Steps p.tables e below (s₁.setTop (mkF m 1 #[.val (.ref a0s), .val (.ref a1c), .val (.int (0 : Int32)), .val (.int (3 : Int32)), .val .null, .unset] [(.ref a0s)])) _
    refine st1 _ ?_
    show Steps p.tables e below (T1.setTop (mkF m 4 #[.val (.ref a0s), .val (.ref a1c), .val (.int (0 : Int32)), .val (.int (3 : Int32)), .val .null, .unset] [])) _
    refine XS.iloadN X1.here hx rfl (hb hby d2_4) rfl ?_
    show Steps p.tables e below (T1.setTop (mkF m 5 #[.val (.ref a0s), .val (.ref a1c), .val (.int (0 : Int32)), .val (.int (3 : Int32)), .val .null, .unset] [(.int (3 : Int32))])) _
    refine XS.ifYes X1.here hx rfl (pc0 := 5) (pc' := 27) rfl (hb hby d2_5) rfl ((if0 _ _).trans (feq (by decide : ¬ ((3 : Int32) = (0 : Int32)))).2) (by decide) (by decide) ?_
    show Steps p.tables e below (T1.setTop (mkF m 27 #[.val (.ref a0s), .val (.ref a1c), .val (.int (0 : Int32)), .val (.int (3 : Int32)), .val .null, .unset] [])) _
    refine st2 _ ?_
    show Steps p.tables e below (T2.setTop (mkF m 30 #[.val (.ref a0s), .val (.ref a1c), .val (.int (0 : Int32)), .val (.int (3 : Int32)), .val .null, .unset] [(.int cS)])) _
    refine XS.ifNo X2.here hx rfl (hb hby d2_30) rfl ((if0 _ _).trans (feq GCP).1) ?_
    show Steps p.tables e below (T2.setTop (mkF m 33 #[.val (.ref a0s), .val (.ref a1c), .val (.int (0 : Int32)), .val (.int (3 : Int32)), .val .null, .unset] [])) _
    refine XS.aloadN X2.here hx rfl (hb hby d2_33) rfl rfl ?_
    show Steps p.tables e below (T2.setTop (mkF m 34 #[.val (.ref a0s), .val (.ref a1c), .val (.int (0 : Int32)), .val (.int (3 : Int32)), .val .null, .unset] [(.ref a1c)])) _
    refine XS.iloadN X2.here hx rfl (hb hby d2_34) rfl ?_
    show Steps p.tables e below (T2.setTop (mkF m 35 #[.val (.ref a0s), .val (.ref a1c), .val (.int (0 : Int32)), .val (.int (3 : Int32)), .val .null, .unset] [(.int (0 : Int32)), (.ref a1c)])) _
    refine XS.iloadN X2.here hx rfl (hb hby d2_35) rfl ?_
    show Steps p.tables e below (T2.setTop (mkF m 36 #[.val (.ref a0s), .val (.ref a1c), .val (.int (0 : Int32)), .val (.int (3 : Int32)), .val .null, .unset] [(.int (3 : Int32)), (.int (0 : Int32)), (.ref a1c)])) _
    refine st3 _ ?_
    show Steps p.tables e below (T3.setTop (mkF m 39 #[.val (.ref a0s), .val (.ref a1c), .val (.int (0 : Int32)), .val (.int (3 : Int32)), .val .null, .unset] [(.ref b_3)])) _
    refine XS.astore X3.here hx rfl (hb hby d2_39) rfl rfl (l' := #[.val (.ref a0s), .val (.ref a1c), .val (.int (0 : Int32)), .val (.int (3 : Int32)), .val .null, .val (.ref b_3)]) rfl ?_
    show Steps p.tables e below (T3.setTop (mkF m 41 #[.val (.ref a0s), .val (.ref a1c), .val (.int (0 : Int32)), .val (.int (3 : Int32)), .val .null, .val (.ref b_3)] [])) _
    refine XS.aloadN X3.here hx rfl (hb hby d2_41) rfl rfl ?_
    show Steps p.tables e below (T3.setTop (mkF m 42 #[.val (.ref a0s), .val (.ref a1c), .val (.int (0 : Int32)), .val (.int (3 : Int32)), .val .null, .val (.ref b_3)] [(.ref a0s)])) _
    refine XS.aload X3.here hx rfl (hb hby d2_42) rfl rfl ?_
    show Steps p.tables e below (T3.setTop (mkF m 44 #[.val (.ref a0s), .val (.ref a1c), .val (.int (0 : Int32)), .val (.int (3 : Int32)), .val .null, .val (.ref b_3)] [(.ref b_3), (.ref a0s)])) _
    refine XS.iloadN X3.here hx rfl (hb hby d2_44) rfl ?_
    show Steps p.tables e below (T3.setTop (mkF m 45 #[.val (.ref a0s), .val (.ref a1c), .val (.int (0 : Int32)), .val (.int (3 : Int32)), .val .null, .val (.ref b_3)] [(.int (3 : Int32)), (.ref b_3), (.ref a0s)])) _
    refine st4 _ ?_
    show Steps p.tables e below (T4.setTop (mkF m 48 #[.val (.ref a0s), .val (.ref a1c), .val (.int (0 : Int32)), .val (.int (3 : Int32)), .val .null, .val (.ref b_3)] [(.int (0 : Int32)), (.ref a0s)])) _
    refine st5 _ ?_
    show Steps p.tables e below (T5.setTop (mkF m 51 #[.val (.ref a0s), .val (.ref a1c), .val (.int (0 : Int32)), .val (.int (3 : Int32)), .val .null, .val (.ref b_3)] [])) _
    refine XS.aloadN X5.here hx rfl (hb hby d2_51) rfl rfl ?_
    show Steps p.tables e below (T5.setTop (mkF m 52 #[.val (.ref a0s), .val (.ref a1c), .val (.int (0 : Int32)), .val (.int (3 : Int32)), .val .null, .val (.ref b_3)] [(.ref a0s)])) _
    refine XS.aload X5.here hx rfl (hb hby d2_52) rfl rfl ?_
    show Steps p.tables e below (T5.setTop (mkF m 54 #[.val (.ref a0s), .val (.ref a1c), .val (.int (0 : Int32)), .val (.int (3 : Int32)), .val .null, .val (.ref b_3)] [(.ref b_3), (.ref a0s)])) _
    refine st6 _ ?_
    show Steps p.tables e below (T6.setTop (mkF m 57 #[.val (.ref a0s), .val (.ref a1c), .val (.int (0 : Int32)), .val (.int (3 : Int32)), .val .null, .val (.ref b_3)] [])) _
    exact X6.returnOut hx Bd.returns (hb hby d2_57) hr
  · show Q_rmIv_3 n0 Z cS aRS aEM aUS aSS a0s a1c k1 c0 c1 c2 h0 _ T6.heap _
    rw [e6]
    exact ⟨b_3, kb_3, rfl, N6, K6, sz_b_3, ((P3_1.wr W5).wr W6), (((E_a0s.keep Kc3).wr W5).wr W6), Fw6, (Fw5.other W6 (Or.inr (slot_ne (a0 := a0) (Or.inr (Wd hw 17 rfl)) (Or.inr (Wd hw 16 rfl)) (by decide) (t := .byte) (t' := (.array .byte)) (by decide) (by decide)))), ((P3_2.other W5 (Ne.symm (Nat.ne_of_lt (Nat.lt_of_lt_of_le E_a0s.lt P3_0)))).other W6 (Ne.symm (Nat.ne_of_lt (Nat.lt_of_lt_of_le E_a0s.lt P3_0))))⟩
theorem d1_0 : decode jdk_42_method_3_code 0 = .ok (.aload_n 0, 1) := by decide +kernel
theorem d1_1 : decode jdk_42_method_3_code 1 = .ok (.aload_n 1, 1) := by decide +kernel
theorem d1_2 : decode jdk_42_method_3_code 2 = .ok (.iconst 0, 1) := by decide +kernel
theorem d1_3 : decode jdk_42_method_3_code 3 = .ok (.aload_n 1, 1) := by decide +kernel
theorem d1_4 : decode jdk_42_method_3_code 4 = .ok (.arraylength, 1) := by decide +kernel
theorem d1_5 : decode jdk_42_method_3_code 5 = .ok (.aconst_null, 1) := by decide +kernel
theorem d1_6 : decode jdk_42_method_3_code 6 = .ok (.invokespecial 27, 3) := by decide +kernel
theorem pdv3 : parseMethodDescriptor "([CIILjava/lang/Void;)V" = some ⟨[(.array .char), .int, .int, (.object "java/lang/Void")], none⟩ := by decide +kernel
theorem d1_9 : decode jdk_42_method_3_code 9 = .ok (.return_, 1) := by decide +kernel
abbrev MN_4 : MethodName := ⟨"java/lang/String", "<init>", "([C)V"⟩
theorem ef_rmIc_0 (m : MethodId) (a0s : Addr) (a1c : Addr) : entryFrame m #[(.ref a0s), (.ref a1c)] 2 = mkF m 0 #[.val (.ref a0s), .val (.ref a1c)] [] := by first | (simp [entryFrame, mkF, argsToLocals, Value.category]; done) | rfl
def Q_rmIc_0 (n0 : Nat) (Z : State) (cS : Int32) (aRS : Addr) (aEM : Addr) (aUS : Addr) (aSS : Addr) (a0s : Addr) (a1c : Addr) (k1 : ClassId) (h0 : Heap) (v : Option Value) (h : Heap) (L : List Loc) : Prop := ∃ b : Addr, ∃ kb : ClassId, v = none ∧ Fr n0 L ∧ Keep h0 h [a0s] ∧ (Exa Z h a0s "java/lang/String") ∧ (Fld Z h a0s "java/lang/String" "value" "[B" (.ref b)) ∧ (Fld Z h a0s "java/lang/String" "coder" "B" (.int (0 : Int32))) ∧ (Arv Z h b kb .byte (0 : Int32) [] (.int (0 : Int32)))
set_option maxRecDepth 65536 in
set_option maxHeartbeats 40000000 in
theorem rmIc_0 (l : Launch) (Z : State) (a0 : Array Value) (hw : ∀ d ∈ tables_1, d.before a0 Z = true) (ws : List Jvm.Cond) (cS : Int32) (aRS : Addr) (aEM : Addr) (aUS : Addr) (aSS : Addr) (a0s : Addr) (a1c : Addr) (k1 : ClassId) (h0 : Heap) (n0 : Nat) (O0 : Old Z n0 h0) (GL : GF Z cS aRS aEM aUS aSS) (E_a0s : Exa Z h0 a0s "java/lang/String") (F_value_a0s : Fld Z h0 a0s "java/lang/String" "value" "[B" .null) (F_coder_a0s : Fld Z h0 a0s "java/lang/String" "coder" "B" (.int (0 : Int32))) (g_a0s : n0 ≤ a0s) (V_a1c : Arv Z h0 a1c k1 .char (0 : Int32) [] (.int (0 : Int32))) :
    MetFree l MN_4 (head1 (Jvm.Cond.code MN_4 jdk_42_method_3_code 2 none :: ws) ({ frames := 2, cells := 4, slots := 8, locals := 29 } : Room)) (fun a U => a = #[(.ref a0s), (.ref a1c)] ∧ Z.Warmed39 U.vm ∧ U.heap = h0 ∧ CHv Z EL1 U.vm h0) (fun _ _ _ _ _ => True) (fun _ U o U' => ∃ v L, o = .returned v ∧ Q_rmIc_0 n0 Z cS aRS aEM aUS aSS a0s a1c k1 h0 v U'.heap L ∧ CHr Z EL1 U.vm U.heap U'.vm U'.heap ∧ ReturnedEndW U o U' L ({ frames := 2, cells := 4, slots := 8, locals := 29 } : Room).cells ({ frames := 2, cells := 4, slots := 8, locals := 29 } : Room).slots) := by
  refine MetFree.of_bodySF (plainFor_of_name pnv1) hisR ?_
  intro p e s m args below meth c s₁ Bd hml0 hP hK
  obtain ⟨rfl, hZ, hh, H0⟩ := hP
  have hx := Bd.exec
  have hby := Bd.bytes
  have hml : c.maxLocals = 2 := hml0
  have hown : s.vm.findClass "java/lang/String" = some m.cls := findClass_of_methodNamed Bd.named
  have hnm := (name_of_methodNamed Bd.named Bd.method).1
  have X0 : Stand p l e ({ frames := 2, cells := 4, slots := 8, locals := 29 } : Room) s m #[(.ref a0s), (.ref a1c)] below meth c s₁ [] 0 0 := Stand.of_body Bd
  have e0 : s₁.heap = h0 := by rw [← hh, Bd.state]; rfl
  have N0 := Fr.nil n0
  have pre0 : ∀ t, Steps p.tables e below (s₁.setTop (mkF m 0 #[.val (.ref a0s), .val (.ref a1c)] [])) t → Steps p.tables e below (s₁.setTop (entryFrame m #[(.ref a0s), (.ref a1c)] 2)) t := fun t k => castTop (ef_rmIc_0 m a0s a1c) k
  have X0w : Stand p l e ({ frames := 2, cells := 4, slots := 8, locals := 29 } : Room) (s.setVm s.vm) m #[(.ref a0s), (.ref a1c)] below meth c s₁ [] 0 0 := X0
  have R0 : CHr Z EL1 s.vm h0 s.vm h0 := CHr.refl H0
  have hS0 : s.Since s.vm h0.size := (State.WarmedH.refl s).since _
  have GL' := GL
  obtain ⟨GCS, GCP, GSR, GSE, GEE, GFE, GSU, GSS⟩ := GL'
  obtain ⟨cl1, Ar1, -, S1, N1_, -, -⟩ := id (V_a1c)
  obtain ⟨_, _, ⟨T2, L2, k2, n2⟩, -, X2', hS2', hg2, ⟨Lc2, hQ2, l2, y2, z2, Rs2⟩, st2⟩ := X0w.specialBackS hx (y := MN_3) rfl hown (mvT hZ (Wd hw 7 rfl)) (mvT hZ (Wd hw 8 rfl)) (mvT hZ (Wd hw 10 rfl)) (by decide) (backOfSH (W := 0) (rmIv_0 l Z a0 hw [] cS aRS aEM aUS aSS (a0s) (a1c) (h0) n0 O0 GL E_a0s F_value_a0s F_coder_a0s g_a0s) hZ (Wd hw 10 rfl) (Wd hw 3 rfl) (by decide) (by decide) (own_EW hw) H0) (g := (mkF m 6 #[.val (.ref a0s), .val (.ref a1c)] [.null, (.int (0 : Int32)), (.int (0 : Int32)), (.ref a1c), (.ref a0s)])) rfl (by rw [hml]; rfl) (Steps.refl _) (a := a0s) (argsL := [(.ref a1c), (.int (0 : Int32)), (.int (0 : Int32)), .null]) (rest := []) (lenOf pdv3 rfl) rfl (by show 2 * 0 + _ ≤ _; exact Nat.le_of_eq rfl) (hb hby d1_6) (fun _ _ => ⟨rfl, e0, (by decide : 0 + 4 ≤ _), (by decide : 0 + 8 ≤ _)⟩)
  dsimp only [Pt.U, Pt.locs, Pt.cells, Pt.slots] at X2' l2 y2 z2 st2 hQ2 hS2' hg2 Rs2
  subst l2 y2 z2
  obtain ⟨X2, hS2, hZ2, hown2⟩ := rebS hS0 (by rw [e0]; exact (Nat.le_refl _)) X2' hS2' hg2 hZ hown
  obtain ⟨b_2, kb_2, rfl, N2q, Kc2, P2_0, P2_1, P2_2, P2_3⟩ := hQ2
  have K2 : Keep h0 T2.heap [a0s] := (Keep.refl h0 [a0s]).trans Kc2 (allS (Or.inl (List.mem_of_getElem? (i := 0) rfl)) all0)
  have O2 := O0.keep Kc2 (allS g_a0s all0)
  have H_3 := Rs2.1
  have R_3 := R0.trans Rs2
  have N2 := Fr.app N0 N2q
  obtain ⟨fs, hr, hrun, hended, hRW⟩ := X2.leaveW hS2 (Nat.le_refl _) (v := none) (fun _ => rfl)
  have hCR : CHr Z EL1 s.vm s.heap T2.vm T2.heap := by
    rw [hh]
    exact R_3.trans (CHv.at X2 hZ2 (own_EW hw) H_3)
  refine ⟨_, _, pre0 _ ?_, hrun, hended, _, _, rfl, ?_, hCR, hRW.1, hRW.2.1, hRW.2.2.1, hRW.2.2.2.mono (by decide) (by decide)⟩
  · show Steps p.tables e below (s₁.setTop (mkF m 0 #[.val (.ref a0s), .val (.ref a1c)] [])) _
    refine XS.aloadN X0w.here hx rfl (hb hby d1_0) rfl rfl ?_
    show Steps p.tables e below (s₁.setTop (mkF m 1 #[.val (.ref a0s), .val (.ref a1c)] [(.ref a0s)])) _
    refine XS.aloadN X0w.here hx rfl (hb hby d1_1) rfl rfl ?_
    show Steps p.tables e below (s₁.setTop (mkF m 2 #[.val (.ref a0s), .val (.ref a1c)] [(.ref a1c), (.ref a0s)])) _
    refine XS.iconst X0w.here hx rfl (hb hby d1_2) ?_
    show Steps p.tables e below (s₁.setTop (mkF m 3 #[.val (.ref a0s), .val (.ref a1c)] [(.int (0 : Int32)), (.ref a1c), (.ref a0s)])) _
    refine XS.aloadN X0w.here hx rfl (hb hby d1_3) rfl rfl ?_
    show Steps p.tables e below (s₁.setTop (mkF m 4 #[.val (.ref a0s), .val (.ref a1c)] [(.ref a1c), (.int (0 : Int32)), (.ref a1c), (.ref a0s)])) _
    refine X0w.arraylength hx (by rw [e0]; exact Ar1.1) (State.isArrayOf_alike hZ.alike Ar1.2.1) (g := (mkF m 4 #[.val (.ref a0s), .val (.ref a1c)] [(.ref a1c), (.int (0 : Int32)), (.ref a1c), (.ref a0s)])) rfl rfl (hb hby d1_4) _ ?_
    rw [len_of S1 N1_]
    show Steps p.tables e below (s₁.setTop (mkF m 5 #[.val (.ref a0s), .val (.ref a1c)] [(.int (0 : Int32)), (.int (0 : Int32)), (.ref a1c), (.ref a0s)])) _
    refine XS.aconstNull X0w.here hx rfl (hb hby d1_5) ?_
    show Steps p.tables e below (s₁.setTop (mkF m 6 #[.val (.ref a0s), .val (.ref a1c)] [.null, (.int (0 : Int32)), (.int (0 : Int32)), (.ref a1c), (.ref a0s)])) _
    refine st2.trans ?_
    show Steps p.tables e below (T2.setTop (mkF m 9 #[.val (.ref a0s), .val (.ref a1c)] [])) _
    exact X2.returnOut hx Bd.returns (hb hby d1_9) hr
  · show Q_rmIc_0 n0 Z cS aRS aEM aUS aSS a0s a1c k1 h0 _ T2.heap _
    exact ⟨b_2, kb_2, rfl, N2, K2, P2_0, P2_1, P2_2, P2_3⟩
def Q_rmIc_1 (n0 : Nat) (Z : State) (cS : Int32) (aRS : Addr) (aEM : Addr) (aUS : Addr) (aSS : Addr) (a0s : Addr) (a1c : Addr) (k1 : ClassId) (c0 : Int32) (h0 : Heap) (v : Option Value) (h : Heap) (L : List Loc) : Prop := ∃ b : Addr, ∃ kb : ClassId, v = none ∧ Fr n0 L ∧ Keep h0 h [a0s] ∧ (h0.size ≤ b) ∧ (Exa Z h b "[B") ∧ (Exa Z h a0s "java/lang/String") ∧ (Fld Z h a0s "java/lang/String" "value" "[B" (.ref b)) ∧ (Fld Z h a0s "java/lang/String" "coder" "B" (.int (0 : Int32))) ∧ (Arv Z h b kb .byte (1 : Int32) [(.int (c0.toInt8.toInt32))] (.int (0 : Int32)))
set_option maxRecDepth 65536 in
set_option maxHeartbeats 40000000 in
theorem rmIc_1 (l : Launch) (Z : State) (a0 : Array Value) (hw : ∀ d ∈ tables_1, d.before a0 Z = true) (ws : List Jvm.Cond) (cS : Int32) (aRS : Addr) (aEM : Addr) (aUS : Addr) (aSS : Addr) (a0s : Addr) (a1c : Addr) (k1 : ClassId) (c0 : Int32) (h0 : Heap) (n0 : Nat) (O0 : Old Z n0 h0) (GL : GF Z cS aRS aEM aUS aSS) (E_a0s : Exa Z h0 a0s "java/lang/String") (F_value_a0s : Fld Z h0 a0s "java/lang/String" "value" "[B" .null) (F_coder_a0s : Fld Z h0 a0s "java/lang/String" "coder" "B" (.int (0 : Int32))) (g_a0s : n0 ≤ a0s) (V_a1c : Arv Z h0 a1c k1 .char (1 : Int32) [(.int c0)] (.int (0 : Int32))) (hc0 : ¬ ((255 : Int32) < c0)) :
    MetFree l MN_4 (head1 (Jvm.Cond.code MN_4 jdk_42_method_3_code 2 none :: ws) ({ frames := 3, cells := 1, slots := 1, locals := 52 } : Room)) (fun a U => a = #[(.ref a0s), (.ref a1c)] ∧ Z.Warmed39 U.vm ∧ U.heap = h0) (fun _ _ _ _ _ => True) (fun _ U o U' => ∃ v L, o = .returned v ∧ Q_rmIc_1 n0 Z cS aRS aEM aUS aSS a0s a1c k1 c0 h0 v U'.heap L ∧ FrameEnd U o U' L ({ frames := 3, cells := 1, slots := 1, locals := 52 } : Room).cells ({ frames := 3, cells := 1, slots := 1, locals := 52 } : Room).slots) := by
  refine MetFree.of_bodySF (plainFor_of_name pnv1) hisR ?_
  intro p e s m args below meth c s₁ Bd hml0 hP hK
  obtain ⟨rfl, hZ, hh⟩ := hP
  have hx := Bd.exec
  have hby := Bd.bytes
  have hml : c.maxLocals = 2 := hml0
  have hown : s.vm.findClass "java/lang/String" = some m.cls := findClass_of_methodNamed Bd.named
  have hnm := (name_of_methodNamed Bd.named Bd.method).1
  have X0 : Stand p l e ({ frames := 3, cells := 1, slots := 1, locals := 52 } : Room) s m #[(.ref a0s), (.ref a1c)] below meth c s₁ [] 0 0 := Stand.of_body Bd
  have e0 : s₁.heap = h0 := by rw [← hh, Bd.state]; rfl
  have N0 := Fr.nil n0
  have pre0 : ∀ t, Steps p.tables e below (s₁.setTop (mkF m 0 #[.val (.ref a0s), .val (.ref a1c)] [])) t → Steps p.tables e below (s₁.setTop (entryFrame m #[(.ref a0s), (.ref a1c)] 2)) t := fun t k => castTop (ef_rmIc_0 m a0s a1c) k
  have GL' := GL
  obtain ⟨GCS, GCP, GSR, GSE, GEE, GFE, GSU, GSS⟩ := GL'
  obtain ⟨cl1, Ar1, -, S1, N1_, -, -⟩ := id (V_a1c)
  obtain ⟨_, _, ⟨T2, L2, k2, n2⟩, -, X2, ⟨Lc2, hQ2, l2, y2, z2⟩, st2⟩ := X0.specialBack hx (y := MN_3) rfl hown (mvT hZ (Wd hw 7 rfl)) (mvT hZ (Wd hw 8 rfl)) (mvT hZ (Wd hw 10 rfl)) (by decide) (backOf (W := 0) (rmIv_1 l Z a0 hw [] cS aRS aEM aUS aSS (a0s) (a1c) (k1) (c0) (h0) n0 O0 GL E_a0s F_value_a0s F_coder_a0s g_a0s V_a1c hc0) hZ (Wd hw 10 rfl) (Wd hw 3 rfl) (by decide) (by decide)) (g := (mkF m 6 #[.val (.ref a0s), .val (.ref a1c)] [.null, (.int (1 : Int32)), (.int (0 : Int32)), (.ref a1c), (.ref a0s)])) rfl (by rw [hml]; rfl) (Steps.refl _) (a := a0s) (argsL := [(.ref a1c), (.int (0 : Int32)), (.int (1 : Int32)), .null]) (rest := []) (lenOf pdv3 rfl) rfl (by show 2 * 0 + _ ≤ _; exact Nat.le_of_eq rfl) (hb hby d1_6) (fun _ _ => ⟨rfl, e0, (by decide : 0 + 1 ≤ _), (by decide : 0 + 1 ≤ _)⟩)
  dsimp only [Pt.U, Pt.locs, Pt.cells, Pt.slots] at X2 l2 y2 z2 st2 hQ2
  subst l2 y2 z2
  obtain ⟨b_2, kb_2, rfl, N2q, Kc2, P2_0, P2_1, P2_2, P2_3, P2_4, P2_5⟩ := hQ2
  have K2 : Keep h0 T2.heap [a0s] := (Keep.refl h0 [a0s]).trans Kc2 (allS (Or.inl (List.mem_of_getElem? (i := 0) rfl)) all0)
  have O2 := O0.keep Kc2 (allS g_a0s all0)
  have g_b_2 : n0 ≤ b_2 := Nat.le_trans (own_sz O0) P2_0
  have sz_b_2 : h0.size ≤ b_2 := Nat.le_trans (Keep.refl h0 [a0s]).1 P2_0
  have N2 := Fr.app N0 N2q
  obtain ⟨fs, hr, hrun, hended, hW, hsame⟩ := X2.leave (v := none) (fun _ => rfl)
  refine ⟨_, _, pre0 _ ?_, hrun, hended, _, _, rfl, ?_, ⟨_, rfl⟩, hW, hsame.mono (by decide) (by decide)⟩
  · show Steps p.tables e below (s₁.setTop (mkF m 0 #[.val (.ref a0s), .val (.ref a1c)] [])) _
    refine XS.aloadN X0.here hx rfl (hb hby d1_0) rfl rfl ?_
    show Steps p.tables e below (s₁.setTop (mkF m 1 #[.val (.ref a0s), .val (.ref a1c)] [(.ref a0s)])) _
    refine XS.aloadN X0.here hx rfl (hb hby d1_1) rfl rfl ?_
    show Steps p.tables e below (s₁.setTop (mkF m 2 #[.val (.ref a0s), .val (.ref a1c)] [(.ref a1c), (.ref a0s)])) _
    refine XS.iconst X0.here hx rfl (hb hby d1_2) ?_
    show Steps p.tables e below (s₁.setTop (mkF m 3 #[.val (.ref a0s), .val (.ref a1c)] [(.int (0 : Int32)), (.ref a1c), (.ref a0s)])) _
    refine XS.aloadN X0.here hx rfl (hb hby d1_3) rfl rfl ?_
    show Steps p.tables e below (s₁.setTop (mkF m 4 #[.val (.ref a0s), .val (.ref a1c)] [(.ref a1c), (.int (0 : Int32)), (.ref a1c), (.ref a0s)])) _
    refine X0.arraylength hx (by rw [e0]; exact Ar1.1) (State.isArrayOf_alike hZ.alike Ar1.2.1) (g := (mkF m 4 #[.val (.ref a0s), .val (.ref a1c)] [(.ref a1c), (.int (0 : Int32)), (.ref a1c), (.ref a0s)])) rfl rfl (hb hby d1_4) _ ?_
    rw [len_of S1 N1_]
    show Steps p.tables e below (s₁.setTop (mkF m 5 #[.val (.ref a0s), .val (.ref a1c)] [(.int (1 : Int32)), (.int (0 : Int32)), (.ref a1c), (.ref a0s)])) _
    refine XS.aconstNull X0.here hx rfl (hb hby d1_5) ?_
    show Steps p.tables e below (s₁.setTop (mkF m 6 #[.val (.ref a0s), .val (.ref a1c)] [.null, (.int (1 : Int32)), (.int (0 : Int32)), (.ref a1c), (.ref a0s)])) _
    refine st2.trans ?_
    show Steps p.tables e below (T2.setTop (mkF m 9 #[.val (.ref a0s), .val (.ref a1c)] [])) _
    exact X2.returnOut hx Bd.returns (hb hby d1_9) hr
  · show Q_rmIc_1 n0 Z cS aRS aEM aUS aSS a0s a1c k1 c0 h0 _ T2.heap _
    exact ⟨b_2, kb_2, rfl, N2, K2, sz_b_2, P2_1, P2_2, P2_3, P2_4, P2_5⟩
def Q_rmIc_2 (n0 : Nat) (Z : State) (cS : Int32) (aRS : Addr) (aEM : Addr) (aUS : Addr) (aSS : Addr) (a0s : Addr) (a1c : Addr) (k1 : ClassId) (c0 : Int32) (c1 : Int32) (h0 : Heap) (v : Option Value) (h : Heap) (L : List Loc) : Prop := ∃ b : Addr, ∃ kb : ClassId, v = none ∧ Fr n0 L ∧ Keep h0 h [a0s] ∧ (h0.size ≤ b) ∧ (Exa Z h b "[B") ∧ (Exa Z h a0s "java/lang/String") ∧ (Fld Z h a0s "java/lang/String" "value" "[B" (.ref b)) ∧ (Fld Z h a0s "java/lang/String" "coder" "B" (.int (0 : Int32))) ∧ (Arv Z h b kb .byte (2 : Int32) [(.int (c0.toInt8.toInt32)), (.int (c1.toInt8.toInt32))] (.int (0 : Int32)))
set_option maxRecDepth 65536 in
set_option maxHeartbeats 40000000 in
theorem rmIc_2 (l : Launch) (Z : State) (a0 : Array Value) (hw : ∀ d ∈ tables_1, d.before a0 Z = true) (ws : List Jvm.Cond) (cS : Int32) (aRS : Addr) (aEM : Addr) (aUS : Addr) (aSS : Addr) (a0s : Addr) (a1c : Addr) (k1 : ClassId) (c0 : Int32) (c1 : Int32) (h0 : Heap) (n0 : Nat) (O0 : Old Z n0 h0) (GL : GF Z cS aRS aEM aUS aSS) (E_a0s : Exa Z h0 a0s "java/lang/String") (F_value_a0s : Fld Z h0 a0s "java/lang/String" "value" "[B" .null) (F_coder_a0s : Fld Z h0 a0s "java/lang/String" "coder" "B" (.int (0 : Int32))) (g_a0s : n0 ≤ a0s) (V_a1c : Arv Z h0 a1c k1 .char (2 : Int32) [(.int c0), (.int c1)] (.int (0 : Int32))) (hc0 : ¬ ((255 : Int32) < c0)) (hc1 : ¬ ((255 : Int32) < c1)) :
    MetFree l MN_4 (head1 (Jvm.Cond.code MN_4 jdk_42_method_3_code 2 none :: ws) ({ frames := 3, cells := 1, slots := 2, locals := 52 } : Room)) (fun a U => a = #[(.ref a0s), (.ref a1c)] ∧ Z.Warmed39 U.vm ∧ U.heap = h0) (fun _ _ _ _ _ => True) (fun _ U o U' => ∃ v L, o = .returned v ∧ Q_rmIc_2 n0 Z cS aRS aEM aUS aSS a0s a1c k1 c0 c1 h0 v U'.heap L ∧ FrameEnd U o U' L ({ frames := 3, cells := 1, slots := 2, locals := 52 } : Room).cells ({ frames := 3, cells := 1, slots := 2, locals := 52 } : Room).slots) := by
  refine MetFree.of_bodySF (plainFor_of_name pnv1) hisR ?_
  intro p e s m args below meth c s₁ Bd hml0 hP hK
  obtain ⟨rfl, hZ, hh⟩ := hP
  have hx := Bd.exec
  have hby := Bd.bytes
  have hml : c.maxLocals = 2 := hml0
  have hown : s.vm.findClass "java/lang/String" = some m.cls := findClass_of_methodNamed Bd.named
  have hnm := (name_of_methodNamed Bd.named Bd.method).1
  have X0 : Stand p l e ({ frames := 3, cells := 1, slots := 2, locals := 52 } : Room) s m #[(.ref a0s), (.ref a1c)] below meth c s₁ [] 0 0 := Stand.of_body Bd
  have e0 : s₁.heap = h0 := by rw [← hh, Bd.state]; rfl
  have N0 := Fr.nil n0
  have pre0 : ∀ t, Steps p.tables e below (s₁.setTop (mkF m 0 #[.val (.ref a0s), .val (.ref a1c)] [])) t → Steps p.tables e below (s₁.setTop (entryFrame m #[(.ref a0s), (.ref a1c)] 2)) t := fun t k => castTop (ef_rmIc_0 m a0s a1c) k
  have GL' := GL
  obtain ⟨GCS, GCP, GSR, GSE, GEE, GFE, GSU, GSS⟩ := GL'
  obtain ⟨cl1, Ar1, -, S1, N1_, -, -⟩ := id (V_a1c)
  obtain ⟨_, _, ⟨T2, L2, k2, n2⟩, -, X2, ⟨Lc2, hQ2, l2, y2, z2⟩, st2⟩ := X0.specialBack hx (y := MN_3) rfl hown (mvT hZ (Wd hw 7 rfl)) (mvT hZ (Wd hw 8 rfl)) (mvT hZ (Wd hw 10 rfl)) (by decide) (backOf (W := 0) (rmIv_2 l Z a0 hw [] cS aRS aEM aUS aSS (a0s) (a1c) (k1) (c0) (c1) (h0) n0 O0 GL E_a0s F_value_a0s F_coder_a0s g_a0s V_a1c hc0 hc1) hZ (Wd hw 10 rfl) (Wd hw 3 rfl) (by decide) (by decide)) (g := (mkF m 6 #[.val (.ref a0s), .val (.ref a1c)] [.null, (.int (2 : Int32)), (.int (0 : Int32)), (.ref a1c), (.ref a0s)])) rfl (by rw [hml]; rfl) (Steps.refl _) (a := a0s) (argsL := [(.ref a1c), (.int (0 : Int32)), (.int (2 : Int32)), .null]) (rest := []) (lenOf pdv3 rfl) rfl (by show 2 * 0 + _ ≤ _; exact Nat.le_of_eq rfl) (hb hby d1_6) (fun _ _ => ⟨rfl, e0, (by decide : 0 + 1 ≤ _), (by decide : 0 + 2 ≤ _)⟩)
  dsimp only [Pt.U, Pt.locs, Pt.cells, Pt.slots] at X2 l2 y2 z2 st2 hQ2
  subst l2 y2 z2
  obtain ⟨b_2, kb_2, rfl, N2q, Kc2, P2_0, P2_1, P2_2, P2_3, P2_4, P2_5⟩ := hQ2
  have K2 : Keep h0 T2.heap [a0s] := (Keep.refl h0 [a0s]).trans Kc2 (allS (Or.inl (List.mem_of_getElem? (i := 0) rfl)) all0)
  have O2 := O0.keep Kc2 (allS g_a0s all0)
  have g_b_2 : n0 ≤ b_2 := Nat.le_trans (own_sz O0) P2_0
  have sz_b_2 : h0.size ≤ b_2 := Nat.le_trans (Keep.refl h0 [a0s]).1 P2_0
  have N2 := Fr.app N0 N2q
  obtain ⟨fs, hr, hrun, hended, hW, hsame⟩ := X2.leave (v := none) (fun _ => rfl)
  refine ⟨_, _, pre0 _ ?_, hrun, hended, _, _, rfl, ?_, ⟨_, rfl⟩, hW, hsame.mono (by decide) (by decide)⟩
  · show Steps p.tables e below (s₁.setTop (mkF m 0 #[.val (.ref a0s), .val (.ref a1c)] [])) _
    refine XS.aloadN X0.here hx rfl (hb hby d1_0) rfl rfl ?_
    show Steps p.tables e below (s₁.setTop (mkF m 1 #[.val (.ref a0s), .val (.ref a1c)] [(.ref a0s)])) _
    refine XS.aloadN X0.here hx rfl (hb hby d1_1) rfl rfl ?_
    show Steps p.tables e below (s₁.setTop (mkF m 2 #[.val (.ref a0s), .val (.ref a1c)] [(.ref a1c), (.ref a0s)])) _
    refine XS.iconst X0.here hx rfl (hb hby d1_2) ?_
    show Steps p.tables e below (s₁.setTop (mkF m 3 #[.val (.ref a0s), .val (.ref a1c)] [(.int (0 : Int32)), (.ref a1c), (.ref a0s)])) _
    refine XS.aloadN X0.here hx rfl (hb hby d1_3) rfl rfl ?_
    show Steps p.tables e below (s₁.setTop (mkF m 4 #[.val (.ref a0s), .val (.ref a1c)] [(.ref a1c), (.int (0 : Int32)), (.ref a1c), (.ref a0s)])) _
    refine X0.arraylength hx (by rw [e0]; exact Ar1.1) (State.isArrayOf_alike hZ.alike Ar1.2.1) (g := (mkF m 4 #[.val (.ref a0s), .val (.ref a1c)] [(.ref a1c), (.int (0 : Int32)), (.ref a1c), (.ref a0s)])) rfl rfl (hb hby d1_4) _ ?_
    rw [len_of S1 N1_]
    show Steps p.tables e below (s₁.setTop (mkF m 5 #[.val (.ref a0s), .val (.ref a1c)] [(.int (2 : Int32)), (.int (0 : Int32)), (.ref a1c), (.ref a0s)])) _
    refine XS.aconstNull X0.here hx rfl (hb hby d1_5) ?_
    show Steps p.tables e below (s₁.setTop (mkF m 6 #[.val (.ref a0s), .val (.ref a1c)] [.null, (.int (2 : Int32)), (.int (0 : Int32)), (.ref a1c), (.ref a0s)])) _
    refine st2.trans ?_
    show Steps p.tables e below (T2.setTop (mkF m 9 #[.val (.ref a0s), .val (.ref a1c)] [])) _
    exact X2.returnOut hx Bd.returns (hb hby d1_9) hr
  · show Q_rmIc_2 n0 Z cS aRS aEM aUS aSS a0s a1c k1 c0 c1 h0 _ T2.heap _
    exact ⟨b_2, kb_2, rfl, N2, K2, sz_b_2, P2_1, P2_2, P2_3, P2_4, P2_5⟩
def Q_rmIc_3 (n0 : Nat) (Z : State) (cS : Int32) (aRS : Addr) (aEM : Addr) (aUS : Addr) (aSS : Addr) (a0s : Addr) (a1c : Addr) (k1 : ClassId) (c0 : Int32) (c1 : Int32) (c2 : Int32) (h0 : Heap) (v : Option Value) (h : Heap) (L : List Loc) : Prop := ∃ b : Addr, ∃ kb : ClassId, v = none ∧ Fr n0 L ∧ Keep h0 h [a0s] ∧ (h0.size ≤ b) ∧ (Exa Z h b "[B") ∧ (Exa Z h a0s "java/lang/String") ∧ (Fld Z h a0s "java/lang/String" "value" "[B" (.ref b)) ∧ (Fld Z h a0s "java/lang/String" "coder" "B" (.int (0 : Int32))) ∧ (Arv Z h b kb .byte (3 : Int32) [(.int (c0.toInt8.toInt32)), (.int (c1.toInt8.toInt32)), (.int (c2.toInt8.toInt32))] (.int (0 : Int32)))
set_option maxRecDepth 65536 in
set_option maxHeartbeats 40000000 in
theorem rmIc_3 (l : Launch) (Z : State) (a0 : Array Value) (hw : ∀ d ∈ tables_1, d.before a0 Z = true) (ws : List Jvm.Cond) (cS : Int32) (aRS : Addr) (aEM : Addr) (aUS : Addr) (aSS : Addr) (a0s : Addr) (a1c : Addr) (k1 : ClassId) (c0 : Int32) (c1 : Int32) (c2 : Int32) (h0 : Heap) (n0 : Nat) (O0 : Old Z n0 h0) (GL : GF Z cS aRS aEM aUS aSS) (E_a0s : Exa Z h0 a0s "java/lang/String") (F_value_a0s : Fld Z h0 a0s "java/lang/String" "value" "[B" .null) (F_coder_a0s : Fld Z h0 a0s "java/lang/String" "coder" "B" (.int (0 : Int32))) (g_a0s : n0 ≤ a0s) (V_a1c : Arv Z h0 a1c k1 .char (3 : Int32) [(.int c0), (.int c1), (.int c2)] (.int (0 : Int32))) (hc0 : ¬ ((255 : Int32) < c0)) (hc1 : ¬ ((255 : Int32) < c1)) (hc2 : ¬ ((255 : Int32) < c2)) :
    MetFree l MN_4 (head1 (Jvm.Cond.code MN_4 jdk_42_method_3_code 2 none :: ws) ({ frames := 3, cells := 1, slots := 3, locals := 52 } : Room)) (fun a U => a = #[(.ref a0s), (.ref a1c)] ∧ Z.Warmed39 U.vm ∧ U.heap = h0) (fun _ _ _ _ _ => True) (fun _ U o U' => ∃ v L, o = .returned v ∧ Q_rmIc_3 n0 Z cS aRS aEM aUS aSS a0s a1c k1 c0 c1 c2 h0 v U'.heap L ∧ FrameEnd U o U' L ({ frames := 3, cells := 1, slots := 3, locals := 52 } : Room).cells ({ frames := 3, cells := 1, slots := 3, locals := 52 } : Room).slots) := by
  refine MetFree.of_bodySF (plainFor_of_name pnv1) hisR ?_
  intro p e s m args below meth c s₁ Bd hml0 hP hK
  obtain ⟨rfl, hZ, hh⟩ := hP
  have hx := Bd.exec
  have hby := Bd.bytes
  have hml : c.maxLocals = 2 := hml0
  have hown : s.vm.findClass "java/lang/String" = some m.cls := findClass_of_methodNamed Bd.named
  have hnm := (name_of_methodNamed Bd.named Bd.method).1
  have X0 : Stand p l e ({ frames := 3, cells := 1, slots := 3, locals := 52 } : Room) s m #[(.ref a0s), (.ref a1c)] below meth c s₁ [] 0 0 := Stand.of_body Bd
  have e0 : s₁.heap = h0 := by rw [← hh, Bd.state]; rfl
  have N0 := Fr.nil n0
  have pre0 : ∀ t, Steps p.tables e below (s₁.setTop (mkF m 0 #[.val (.ref a0s), .val (.ref a1c)] [])) t → Steps p.tables e below (s₁.setTop (entryFrame m #[(.ref a0s), (.ref a1c)] 2)) t := fun t k => castTop (ef_rmIc_0 m a0s a1c) k
  have GL' := GL
  obtain ⟨GCS, GCP, GSR, GSE, GEE, GFE, GSU, GSS⟩ := GL'
  obtain ⟨cl1, Ar1, -, S1, N1_, -, -⟩ := id (V_a1c)
  obtain ⟨_, _, ⟨T2, L2, k2, n2⟩, -, X2, ⟨Lc2, hQ2, l2, y2, z2⟩, st2⟩ := X0.specialBack hx (y := MN_3) rfl hown (mvT hZ (Wd hw 7 rfl)) (mvT hZ (Wd hw 8 rfl)) (mvT hZ (Wd hw 10 rfl)) (by decide) (backOf (W := 0) (rmIv_3 l Z a0 hw [] cS aRS aEM aUS aSS (a0s) (a1c) (k1) (c0) (c1) (c2) (h0) n0 O0 GL E_a0s F_value_a0s F_coder_a0s g_a0s V_a1c hc0 hc1 hc2) hZ (Wd hw 10 rfl) (Wd hw 3 rfl) (by decide) (by decide)) (g := (mkF m 6 #[.val (.ref a0s), .val (.ref a1c)] [.null, (.int (3 : Int32)), (.int (0 : Int32)), (.ref a1c), (.ref a0s)])) rfl (by rw [hml]; rfl) (Steps.refl _) (a := a0s) (argsL := [(.ref a1c), (.int (0 : Int32)), (.int (3 : Int32)), .null]) (rest := []) (lenOf pdv3 rfl) rfl (by show 2 * 0 + _ ≤ _; exact Nat.le_of_eq rfl) (hb hby d1_6) (fun _ _ => ⟨rfl, e0, (by decide : 0 + 1 ≤ _), (by decide : 0 + 3 ≤ _)⟩)
  dsimp only [Pt.U, Pt.locs, Pt.cells, Pt.slots] at X2 l2 y2 z2 st2 hQ2
  subst l2 y2 z2
  obtain ⟨b_2, kb_2, rfl, N2q, Kc2, P2_0, P2_1, P2_2, P2_3, P2_4, P2_5⟩ := hQ2
  have K2 : Keep h0 T2.heap [a0s] := (Keep.refl h0 [a0s]).trans Kc2 (allS (Or.inl (List.mem_of_getElem? (i := 0) rfl)) all0)
  have O2 := O0.keep Kc2 (allS g_a0s all0)
  have g_b_2 : n0 ≤ b_2 := Nat.le_trans (own_sz O0) P2_0
  have sz_b_2 : h0.size ≤ b_2 := Nat.le_trans (Keep.refl h0 [a0s]).1 P2_0
  have N2 := Fr.app N0 N2q
  obtain ⟨fs, hr, hrun, hended, hW, hsame⟩ := X2.leave (v := none) (fun _ => rfl)
  refine ⟨_, _, pre0 _ ?_, hrun, hended, _, _, rfl, ?_, ⟨_, rfl⟩, hW, hsame.mono (by decide) (by decide)⟩
  · show Steps p.tables e below (s₁.setTop (mkF m 0 #[.val (.ref a0s), .val (.ref a1c)] [])) _
    refine XS.aloadN X0.here hx rfl (hb hby d1_0) rfl rfl ?_
    show Steps p.tables e below (s₁.setTop (mkF m 1 #[.val (.ref a0s), .val (.ref a1c)] [(.ref a0s)])) _
    refine XS.aloadN X0.here hx rfl (hb hby d1_1) rfl rfl ?_
    show Steps p.tables e below (s₁.setTop (mkF m 2 #[.val (.ref a0s), .val (.ref a1c)] [(.ref a1c), (.ref a0s)])) _
    refine XS.iconst X0.here hx rfl (hb hby d1_2) ?_
    show Steps p.tables e below (s₁.setTop (mkF m 3 #[.val (.ref a0s), .val (.ref a1c)] [(.int (0 : Int32)), (.ref a1c), (.ref a0s)])) _
    refine XS.aloadN X0.here hx rfl (hb hby d1_3) rfl rfl ?_
    show Steps p.tables e below (s₁.setTop (mkF m 4 #[.val (.ref a0s), .val (.ref a1c)] [(.ref a1c), (.int (0 : Int32)), (.ref a1c), (.ref a0s)])) _
    refine X0.arraylength hx (by rw [e0]; exact Ar1.1) (State.isArrayOf_alike hZ.alike Ar1.2.1) (g := (mkF m 4 #[.val (.ref a0s), .val (.ref a1c)] [(.ref a1c), (.int (0 : Int32)), (.ref a1c), (.ref a0s)])) rfl rfl (hb hby d1_4) _ ?_
    rw [len_of S1 N1_]
    show Steps p.tables e below (s₁.setTop (mkF m 5 #[.val (.ref a0s), .val (.ref a1c)] [(.int (3 : Int32)), (.int (0 : Int32)), (.ref a1c), (.ref a0s)])) _
    refine XS.aconstNull X0.here hx rfl (hb hby d1_5) ?_
    show Steps p.tables e below (s₁.setTop (mkF m 6 #[.val (.ref a0s), .val (.ref a1c)] [.null, (.int (3 : Int32)), (.int (0 : Int32)), (.ref a1c), (.ref a0s)])) _
    refine st2.trans ?_
    show Steps p.tables e below (T2.setTop (mkF m 9 #[.val (.ref a0s), .val (.ref a1c)] [])) _
    exact X2.returnOut hx Bd.returns (hb hby d1_9) hr
  · show Q_rmIc_3 n0 Z cS aRS aEM aUS aSS a0s a1c k1 c0 c1 c2 h0 _ T2.heap _
    exact ⟨b_2, kb_2, rfl, N2, K2, sz_b_2, P2_1, P2_2, P2_3, P2_4, P2_5⟩
theorem d6_0 : decode jdk_2649_method_2_code 0 = .ok (.getstatic 17, 3) := by decide +kernel
theorem d6_3 : decode jdk_2649_method_2_code 3 = .ok (.areturn, 1) := by decide +kernel
theorem pnv2 : plainName "java/util/OptionalInt" = true := by first | (simp [plainName, overriddenIn]; done) | decide +kernel
abbrev MN_5 : MethodName := ⟨"java/util/OptionalInt", "empty", "()Ljava/util/OptionalInt;"⟩
theorem ef_rmEm (m : MethodId)  : entryFrame m #[] 0 = mkF m 0 #[] [] := by first | (simp [entryFrame, mkF, argsToLocals, Value.category]; done) | rfl
def Q_rmEm (n0 : Nat) (Z : State) (cS : Int32) (aRS : Addr) (aEM : Addr) (aUS : Addr) (aSS : Addr) (h0 : Heap) (v : Option Value) (h : Heap) (L : List Loc) : Prop := v = some (.ref aEM) ∧ Fr n0 L ∧ h = h0
set_option maxRecDepth 65536 in
set_option maxHeartbeats 40000000 in
theorem rmEm (l : Launch) (Z : State) (a0 : Array Value) (hw : ∀ d ∈ tables_1, d.before a0 Z = true) (ws : List Jvm.Cond) (cS : Int32) (aRS : Addr) (aEM : Addr) (aUS : Addr) (aSS : Addr) (h0 : Heap) (n0 : Nat) (O0 : Old Z n0 h0) (GL : GF Z cS aRS aEM aUS aSS) :
    MetFree l MN_5 (head1 (Jvm.Cond.code MN_5 jdk_2649_method_2_code 0 (some (.object "java/util/OptionalInt")) :: ws) ({ frames := 0, cells := 0, slots := 0, locals := 0 } : Room)) (fun a U => a = #[] ∧ Z.Warmed39 U.vm ∧ U.heap = h0) (fun _ _ _ _ _ => True) (fun _ U o U' => ∃ v L, o = .returned v ∧ Q_rmEm n0 Z cS aRS aEM aUS aSS h0 v U'.heap L ∧ FrameEnd U o U' L ({ frames := 0, cells := 0, slots := 0, locals := 0 } : Room).cells ({ frames := 0, cells := 0, slots := 0, locals := 0 } : Room).slots) := by
  refine MetFree.of_bodySF (plainFor_of_name pnv2) hisR ?_
  intro p e s m args below meth c s₁ Bd hml0 hP hK
  obtain ⟨rfl, hZ, hh⟩ := hP
  have hx := Bd.exec
  have hby := Bd.bytes
  have hml : c.maxLocals = 0 := hml0
  have hown : s.vm.findClass "java/util/OptionalInt" = some m.cls := findClass_of_methodNamed Bd.named
  have hnm := (name_of_methodNamed Bd.named Bd.method).1
  have X0 : Stand p l e ({ frames := 0, cells := 0, slots := 0, locals := 0 } : Room) s m #[] below meth c s₁ [] 0 0 := Stand.of_body Bd
  have e0 : s₁.heap = h0 := by rw [← hh, Bd.state]; rfl
  have N0 := Fr.nil n0
  have pre0 : ∀ t, Steps p.tables e below (s₁.setTop (mkF m 0 #[] [])) t → Steps p.tables e below (s₁.setTop (entryFrame m #[] 0)) t := fun t k => castTop (ef_rmEm m ) k
  have GL' := GL
  obtain ⟨GCS, GCP, GSR, GSE, GEE, GFE, GSU, GSS⟩ := GL'
  obtain ⟨T1, X1, e1, st1⟩ := getS2 X0 hx hZ hown (host := "") (Or.inl (Wd hw 38 rfl)) Via.refl e0 (GSE.ext O0.2) (g := (mkF m 0 #[] [])) rfl (hb hby d6_0)
  obtain ⟨fs, hr, hrun, hended, hW, hsame⟩ := X1.leave (v := some (.ref aEM)) (fun h => by rw [Bd.returns] at h; cases h)
  refine ⟨_, _, pre0 _ ?_, hrun, hended, _, _, rfl, ?_, ⟨_, rfl⟩, hW, hsame.mono (by decide) (by decide)⟩
  · show Steps p.tables e below (s₁.setTop (mkF m 0 #[] [])) _
    refine st1 _ ?_
    show Steps p.tables e below (T1.setTop (mkF m 3 #[] [(.ref aEM)])) _
    jvm_step X1.here [X1.here.top, hx, (hb hby d6_3), X1.method', Bd.returns, Value.isRef, FieldType.isReference]
    first | (intro acts; rw [hr _ acts rfl rfl rfl]) | rw [hr _ _ rfl rfl rfl]
    exact Steps.refl _
  · show Q_rmEm n0 Z cS aRS aEM aUS aSS h0 _ T1.heap _
    rw [e1]
    exact ⟨rfl, N0, rfl⟩
theorem d10_0 : decode jdk_78_method_5_code 0 = .ok (.aload_n 0, 1) := by decide +kernel
theorem d10_1 : decode jdk_78_method_5_code 1 = .ok (.invokespecial 1, 3) := by decide +kernel
theorem d10_4 : decode jdk_78_method_5_code 4 = .ok (.aload_n 0, 1) := by decide +kernel
theorem d10_5 : decode jdk_78_method_5_code 5 = .ok (.aload_n 0, 1) := by decide +kernel
theorem d10_6 : decode jdk_78_method_5_code 6 = .ok (.putfield 7, 3) := by decide +kernel
theorem d10_9 : decode jdk_78_method_5_code 9 = .ok (.aload_n 0, 1) := by decide +kernel
theorem d10_10 : decode jdk_78_method_5_code 10 = .ok (.getstatic 13, 3) := by decide +kernel
theorem d10_13 : decode jdk_78_method_5_code 13 = .ok (.putfield 17, 3) := by decide +kernel
theorem d10_16 : decode jdk_78_method_5_code 16 = .ok (.aload_n 0, 1) := by decide +kernel
theorem d10_17 : decode jdk_78_method_5_code 17 = .ok (.getstatic 20, 3) := by decide +kernel
theorem d10_20 : decode jdk_78_method_5_code 20 = .ok (.putfield 24, 3) := by decide +kernel
theorem d10_23 : decode jdk_78_method_5_code 23 = .ok (.iload 4, 2) := by decide +kernel
theorem d10_25 : decode jdk_78_method_5_code 25 = .ok (.ifCond .eq 11, 3) := by decide +kernel
theorem d10_36 : decode jdk_78_method_5_code 36 = .ok (.aload_n 0, 1) := by decide +kernel
theorem d10_37 : decode jdk_78_method_5_code 37 = .ok (.aconst_null, 1) := by decide +kernel
theorem d10_38 : decode jdk_78_method_5_code 38 = .ok (.putfield 17, 3) := by decide +kernel
theorem d10_41 : decode jdk_78_method_5_code 41 = .ok (.aload_n 0, 1) := by decide +kernel
theorem d10_42 : decode jdk_78_method_5_code 42 = .ok (.aload_n 1, 1) := by decide +kernel
theorem d10_43 : decode jdk_78_method_5_code 43 = .ok (.putfield 31, 3) := by decide +kernel
theorem d10_46 : decode jdk_78_method_5_code 46 = .ok (.aload_n 0, 1) := by decide +kernel
theorem d10_47 : decode jdk_78_method_5_code 47 = .ok (.aload_n 2, 1) := by decide +kernel
theorem d10_48 : decode jdk_78_method_5_code 48 = .ok (.putfield 7, 3) := by decide +kernel
theorem d10_51 : decode jdk_78_method_5_code 51 = .ok (.iload_n 3, 1) := by decide +kernel
theorem d10_52 : decode jdk_78_method_5_code 52 = .ok (.ifCond .ne 8, 3) := by decide +kernel
theorem d10_55 : decode jdk_78_method_5_code 55 = .ok (.aload_n 0, 1) := by decide +kernel
theorem d10_56 : decode jdk_78_method_5_code 56 = .ok (.aconst_null, 1) := by decide +kernel
theorem d10_57 : decode jdk_78_method_5_code 57 = .ok (.putfield 24, 3) := by decide +kernel
theorem d10_60 : decode jdk_78_method_5_code 60 = .ok (.return_, 1) := by decide +kernel
theorem pnv3 : plainName "java/lang/Throwable" = true := by first | (simp [plainName, overriddenIn]; done) | decide +kernel
abbrev MN_6 : MethodName := ⟨"java/lang/Throwable", "<init>", "(Ljava/lang/String;Ljava/lang/Throwable;ZZ)V"⟩
theorem ef_rmTh (m : MethodId) (a0r : Addr) (am : Addr) : entryFrame m #[(.ref a0r), (.ref am), .null, (.int (0 : Int32)), (.int (0 : Int32))] 5 = mkF m 0 #[.val (.ref a0r), .val (.ref am), .val .null, .val (.int (0 : Int32)), .val (.int (0 : Int32))] [] := by first | (simp [entryFrame, mkF, argsToLocals, Value.category]; done) | rfl
def Q_rmTh (n0 : Nat) (Z : State) (cS : Int32) (aRS : Addr) (aEM : Addr) (aUS : Addr) (aSS : Addr) (a0r : Addr) (am : Addr) (h0 : Heap) (v : Option Value) (h : Heap) (L : List Loc) : Prop := v = none ∧ Fr n0 L ∧ Keep h0 h [a0r] ∧ (Exa Z h a0r "com/example/metaloom/metaloom/store/Rejection") ∧ (Fld Z h a0r "java/lang/Throwable" "detailMessage" "Ljava/lang/String;" (.ref am)) ∧ (Fld Z h a0r "com/example/metaloom/metaloom/store/Rejection" "reason" "Lcom/example/metaloom/metaloom/store/Rejection$Reason;" .null) ∧ (Fld Z h a0r "com/example/metaloom/metaloom/store/Rejection" "position" "Ljava/util/OptionalInt;" .null)
set_option maxRecDepth 65536 in
set_option maxHeartbeats 40000000 in
theorem rmTh (l : Launch) (Z : State) (a0 : Array Value) (hw : ∀ d ∈ tables_1, d.before a0 Z = true) (ws : List Jvm.Cond) (cS : Int32) (aRS : Addr) (aEM : Addr) (aUS : Addr) (aSS : Addr) (a0r : Addr) (am : Addr) (h0 : Heap) (n0 : Nat) (O0 : Old Z n0 h0) (GL : GF Z cS aRS aEM aUS aSS) (E_a0r : Exa Z h0 a0r "com/example/metaloom/metaloom/store/Rejection") (F_cause_a0r : Fld Z h0 a0r "java/lang/Throwable" "cause" "Ljava/lang/Throwable;" .null) (F_stackTrace_a0r : Fld Z h0 a0r "java/lang/Throwable" "stackTrace" "[Ljava/lang/StackTraceElement;" .null) (F_suppressedExceptions_a0r : Fld Z h0 a0r "java/lang/Throwable" "suppressedExceptions" "Ljava/util/List;" .null) (F_detailMessage_a0r : Fld Z h0 a0r "java/lang/Throwable" "detailMessage" "Ljava/lang/String;" .null) (F_reason_a0r : Fld Z h0 a0r "com/example/metaloom/metaloom/store/Rejection" "reason" "Lcom/example/metaloom/metaloom/store/Rejection$Reason;" .null) (F_position_a0r : Fld Z h0 a0r "com/example/metaloom/metaloom/store/Rejection" "position" "Ljava/util/OptionalInt;" .null) (g_a0r : n0 ≤ a0r) :
    MetFree l MN_6 (head1 (Jvm.Cond.code MN_6 jdk_78_method_5_code 5 none :: ws) ({ frames := 1, cells := 0, slots := 0, locals := 12 } : Room)) (fun a U => a = #[(.ref a0r), (.ref am), .null, (.int (0 : Int32)), (.int (0 : Int32))] ∧ Z.Warmed39 U.vm ∧ U.heap = h0) (fun _ _ _ _ _ => True) (fun _ U o U' => ∃ v L, o = .returned v ∧ Q_rmTh n0 Z cS aRS aEM aUS aSS a0r am h0 v U'.heap L ∧ FrameEnd U o U' L ({ frames := 1, cells := 0, slots := 0, locals := 12 } : Room).cells ({ frames := 1, cells := 0, slots := 0, locals := 12 } : Room).slots) := by
  refine MetFree.of_bodySF (plainFor_of_name pnv3) hisR ?_
  intro p e s m args below meth c s₁ Bd hml0 hP hK
  obtain ⟨rfl, hZ, hh⟩ := hP
  have hx := Bd.exec
  have hby := Bd.bytes
  have hml : c.maxLocals = 5 := hml0
  have hown : s.vm.findClass "java/lang/Throwable" = some m.cls := findClass_of_methodNamed Bd.named
  have hnm := (name_of_methodNamed Bd.named Bd.method).1
  have X0 : Stand p l e ({ frames := 1, cells := 0, slots := 0, locals := 12 } : Room) s m #[(.ref a0r), (.ref am), .null, (.int (0 : Int32)), (.int (0 : Int32))] below meth c s₁ [] 0 0 := Stand.of_body Bd
  have e0 : s₁.heap = h0 := by rw [← hh, Bd.state]; rfl
  have N0 := Fr.nil n0
  have pre0 : ∀ t, Steps p.tables e below (s₁.setTop (mkF m 0 #[.val (.ref a0r), .val (.ref am), .val .null, .val (.int (0 : Int32)), .val (.int (0 : Int32))] [])) t → Steps p.tables e below (s₁.setTop (entryFrame m #[(.ref a0r), (.ref am), .null, (.int (0 : Int32)), (.int (0 : Int32))] 5)) t := fun t k => castTop (ef_rmTh m a0r am) k
  have GL' := GL
  obtain ⟨GCS, GCP, GSR, GSE, GEE, GFE, GSU, GSS⟩ := GL'
  obtain ⟨T1, X1, e1, st1⟩ := initO X0 hx hZ hown (Wd hw 59 rfl) (Wd hw 12 rfl) (Wd hw 13 rfl) e0 (g := (mkF m 1 #[.val (.ref a0r), .val (.ref am), .val .null, .val (.int (0 : Int32)), .val (.int (0 : Int32))] [(.ref a0r)])) rfl (by rw [hml]; rfl) rfl (hb hby d10_1) (by decide) (W := 0) (by show 2 * 0 + _ ≤ _; exact Nat.le_of_eq rfl) (by decide)
  obtain ⟨T2, h2, X2, e2, W2, st2⟩ := putF X1 hx hZ hown (host := "") (Or.inl (Wd hw 60 rfl)) Via.refl e1 F_cause_a0r E_a0r (Or.inl (Wd hw 61 rfl)) (Wd hw 27 rfl) (ty := (.object "java/lang/Throwable")) (by decide) rfl rfl (g := (mkF m 6 #[.val (.ref a0r), .val (.ref am), .val .null, .val (.int (0 : Int32)), .val (.int (0 : Int32))] [(.ref a0r), (.ref a0r)])) rfl rfl (hb hby d10_6)
  have Fw2 := F_cause_a0r.same W2
  have K2 : Keep h0 h2 [a0r] := (Keep.refl h0 [a0r]).wr W2 (Or.inl (List.mem_of_getElem? (i := 0) rfl))
  have O2 := O0.wr W2 g_a0r
  have N2 := Fr.snoc X2 N0 g_a0r
  obtain ⟨T3, X3, e3, st3⟩ := getS2 X2 hx hZ hown (host := "") (Or.inl (Wd hw 62 rfl)) Via.refl e2 (GSU.ext O2.2) (g := (mkF m 10 #[.val (.ref a0r), .val (.ref am), .val .null, .val (.int (0 : Int32)), .val (.int (0 : Int32))] [(.ref a0r)])) rfl (hb hby d10_10)
  obtain ⟨T4, h4, X4, e4, W4, st4⟩ := putF X3 hx hZ hown (host := "") (Or.inl (Wd hw 63 rfl)) Via.refl e3 (F_stackTrace_a0r.other W2 (Or.inr (slot_ne (a0 := a0) (Or.inl (Wd hw 64 rfl)) (Or.inl (Wd hw 61 rfl)) (by decide) (t := (.array (.object "java/lang/StackTraceElement"))) (t' := (.object "java/lang/Throwable")) (by decide) (by decide)))) (E_a0r.wr W2) (Or.inl (Wd hw 64 rfl)) (Wd hw 27 rfl) (ty := (.array (.object "java/lang/StackTraceElement"))) (by decide) rfl rfl (g := (mkF m 13 #[.val (.ref a0r), .val (.ref am), .val .null, .val (.int (0 : Int32)), .val (.int (0 : Int32))] [(.ref aUS), (.ref a0r)])) rfl rfl (hb hby d10_13)
  have Fw4 := (F_stackTrace_a0r.other W2 (Or.inr (slot_ne (a0 := a0) (Or.inl (Wd hw 64 rfl)) (Or.inl (Wd hw 61 rfl)) (by decide) (t := (.array (.object "java/lang/StackTraceElement"))) (t' := (.object "java/lang/Throwable")) (by decide) (by decide)))).same W4
  have K4 : Keep h0 h4 [a0r] := K2.wr W4 (Or.inl (List.mem_of_getElem? (i := 0) rfl))
  have O4 := O2.wr W4 g_a0r
  have N4 := Fr.snoc X4 N2 g_a0r
  obtain ⟨T5, X5, e5, st5⟩ := getS2 X4 hx hZ hown (host := "") (Or.inl (Wd hw 65 rfl)) Via.refl e4 (GSS.ext O4.2) (g := (mkF m 17 #[.val (.ref a0r), .val (.ref am), .val .null, .val (.int (0 : Int32)), .val (.int (0 : Int32))] [(.ref a0r)])) rfl (hb hby d10_17)
  obtain ⟨T6, h6, X6, e6, W6, st6⟩ := putF X5 hx hZ hown (host := "") (Or.inl (Wd hw 66 rfl)) Via.refl e5 ((F_suppressedExceptions_a0r.other W2 (Or.inr (slot_ne (a0 := a0) (Or.inl (Wd hw 67 rfl)) (Or.inl (Wd hw 61 rfl)) (by decide) (t := (.object "java/util/List")) (t' := (.object "java/lang/Throwable")) (by decide) (by decide)))).other W4 (Or.inr (slot_ne (a0 := a0) (Or.inl (Wd hw 67 rfl)) (Or.inl (Wd hw 64 rfl)) (by decide) (t := (.object "java/util/List")) (t' := (.array (.object "java/lang/StackTraceElement"))) (by decide) (by decide)))) ((E_a0r.wr W2).wr W4) (Or.inl (Wd hw 67 rfl)) (Wd hw 27 rfl) (ty := (.object "java/util/List")) (by decide) rfl rfl (g := (mkF m 20 #[.val (.ref a0r), .val (.ref am), .val .null, .val (.int (0 : Int32)), .val (.int (0 : Int32))] [(.ref aSS), (.ref a0r)])) rfl rfl (hb hby d10_20)
  have Fw6 := ((F_suppressedExceptions_a0r.other W2 (Or.inr (slot_ne (a0 := a0) (Or.inl (Wd hw 67 rfl)) (Or.inl (Wd hw 61 rfl)) (by decide) (t := (.object "java/util/List")) (t' := (.object "java/lang/Throwable")) (by decide) (by decide)))).other W4 (Or.inr (slot_ne (a0 := a0) (Or.inl (Wd hw 67 rfl)) (Or.inl (Wd hw 64 rfl)) (by decide) (t := (.object "java/util/List")) (t' := (.array (.object "java/lang/StackTraceElement"))) (by decide) (by decide)))).same W6
  have K6 : Keep h0 h6 [a0r] := K4.wr W6 (Or.inl (List.mem_of_getElem? (i := 0) rfl))
  have O6 := O4.wr W6 g_a0r
  have N6 := Fr.snoc X6 N4 g_a0r
  obtain ⟨T7, h7, X7, e7, W7, st7⟩ := putF X6 hx hZ hown (host := "") (Or.inl (Wd hw 63 rfl)) Via.refl e6 (Fw4.other W6 (Or.inr (slot_ne (a0 := a0) (Or.inl (Wd hw 64 rfl)) (Or.inl (Wd hw 67 rfl)) (by decide) (t := (.array (.object "java/lang/StackTraceElement"))) (t' := (.object "java/util/List")) (by decide) (by decide)))) (((E_a0r.wr W2).wr W4).wr W6) (Or.inl (Wd hw 64 rfl)) (Wd hw 27 rfl) (ty := (.array (.object "java/lang/StackTraceElement"))) (by decide) rfl rfl (g := (mkF m 38 #[.val (.ref a0r), .val (.ref am), .val .null, .val (.int (0 : Int32)), .val (.int (0 : Int32))] [.null, (.ref a0r)])) rfl rfl (hb hby d10_38)
  have Fw7 := (Fw4.other W6 (Or.inr (slot_ne (a0 := a0) (Or.inl (Wd hw 64 rfl)) (Or.inl (Wd hw 67 rfl)) (by decide) (t := (.array (.object "java/lang/StackTraceElement"))) (t' := (.object "java/util/List")) (by decide) (by decide)))).same W7
  have K7 : Keep h0 h7 [a0r] := K6.wr W7 (Or.inl (List.mem_of_getElem? (i := 0) rfl))
  have O7 := O6.wr W7 g_a0r
  have N7 := Fr.snoc X7 N6 g_a0r
  obtain ⟨T8, h8, X8, e8, W8, st8⟩ := putF X7 hx hZ hown (host := "") (Or.inl (Wd hw 68 rfl)) Via.refl e7 ((((F_detailMessage_a0r.other W2 (Or.inr (slot_ne (a0 := a0) (Or.inl (Wd hw 69 rfl)) (Or.inl (Wd hw 61 rfl)) (by decide) (t := (.object "java/lang/String")) (t' := (.object "java/lang/Throwable")) (by decide) (by decide)))).other W4 (Or.inr (slot_ne (a0 := a0) (Or.inl (Wd hw 69 rfl)) (Or.inl (Wd hw 64 rfl)) (by decide) (t := (.object "java/lang/String")) (t' := (.array (.object "java/lang/StackTraceElement"))) (by decide) (by decide)))).other W6 (Or.inr (slot_ne (a0 := a0) (Or.inl (Wd hw 69 rfl)) (Or.inl (Wd hw 67 rfl)) (by decide) (t := (.object "java/lang/String")) (t' := (.object "java/util/List")) (by decide) (by decide)))).other W7 (Or.inr (slot_ne (a0 := a0) (Or.inl (Wd hw 69 rfl)) (Or.inl (Wd hw 64 rfl)) (by decide) (t := (.object "java/lang/String")) (t' := (.array (.object "java/lang/StackTraceElement"))) (by decide) (by decide)))) ((((E_a0r.wr W2).wr W4).wr W6).wr W7) (Or.inl (Wd hw 69 rfl)) (Wd hw 27 rfl) (ty := (.object "java/lang/String")) (by decide) rfl rfl (g := (mkF m 43 #[.val (.ref a0r), .val (.ref am), .val .null, .val (.int (0 : Int32)), .val (.int (0 : Int32))] [(.ref am), (.ref a0r)])) rfl rfl (hb hby d10_43)
  have Fw8 := ((((F_detailMessage_a0r.other W2 (Or.inr (slot_ne (a0 := a0) (Or.inl (Wd hw 69 rfl)) (Or.inl (Wd hw 61 rfl)) (by decide) (t := (.object "java/lang/String")) (t' := (.object "java/lang/Throwable")) (by decide) (by decide)))).other W4 (Or.inr (slot_ne (a0 := a0) (Or.inl (Wd hw 69 rfl)) (Or.inl (Wd hw 64 rfl)) (by decide) (t := (.object "java/lang/String")) (t' := (.array (.object "java/lang/StackTraceElement"))) (by decide) (by decide)))).other W6 (Or.inr (slot_ne (a0 := a0) (Or.inl (Wd hw 69 rfl)) (Or.inl (Wd hw 67 rfl)) (by decide) (t := (.object "java/lang/String")) (t' := (.object "java/util/List")) (by decide) (by decide)))).other W7 (Or.inr (slot_ne (a0 := a0) (Or.inl (Wd hw 69 rfl)) (Or.inl (Wd hw 64 rfl)) (by decide) (t := (.object "java/lang/String")) (t' := (.array (.object "java/lang/StackTraceElement"))) (by decide) (by decide)))).same W8
  have K8 : Keep h0 h8 [a0r] := K7.wr W8 (Or.inl (List.mem_of_getElem? (i := 0) rfl))
  have O8 := O7.wr W8 g_a0r
  have N8 := Fr.snoc X8 N7 g_a0r
  obtain ⟨T9, h9, X9, e9, W9, st9⟩ := putF X8 hx hZ hown (host := "") (Or.inl (Wd hw 60 rfl)) Via.refl e8 ((((Fw2.other W4 (Or.inr (slot_ne (a0 := a0) (Or.inl (Wd hw 61 rfl)) (Or.inl (Wd hw 64 rfl)) (by decide) (t := (.object "java/lang/Throwable")) (t' := (.array (.object "java/lang/StackTraceElement"))) (by decide) (by decide)))).other W6 (Or.inr (slot_ne (a0 := a0) (Or.inl (Wd hw 61 rfl)) (Or.inl (Wd hw 67 rfl)) (by decide) (t := (.object "java/lang/Throwable")) (t' := (.object "java/util/List")) (by decide) (by decide)))).other W7 (Or.inr (slot_ne (a0 := a0) (Or.inl (Wd hw 61 rfl)) (Or.inl (Wd hw 64 rfl)) (by decide) (t := (.object "java/lang/Throwable")) (t' := (.array (.object "java/lang/StackTraceElement"))) (by decide) (by decide)))).other W8 (Or.inr (slot_ne (a0 := a0) (Or.inl (Wd hw 61 rfl)) (Or.inl (Wd hw 69 rfl)) (by decide) (t := (.object "java/lang/Throwable")) (t' := (.object "java/lang/String")) (by decide) (by decide)))) (((((E_a0r.wr W2).wr W4).wr W6).wr W7).wr W8) (Or.inl (Wd hw 61 rfl)) (Wd hw 27 rfl) (ty := (.object "java/lang/Throwable")) (by decide) rfl rfl (g := (mkF m 48 #[.val (.ref a0r), .val (.ref am), .val .null, .val (.int (0 : Int32)), .val (.int (0 : Int32))] [.null, (.ref a0r)])) rfl rfl (hb hby d10_48)
  have Fw9 := ((((Fw2.other W4 (Or.inr (slot_ne (a0 := a0) (Or.inl (Wd hw 61 rfl)) (Or.inl (Wd hw 64 rfl)) (by decide) (t := (.object "java/lang/Throwable")) (t' := (.array (.object "java/lang/StackTraceElement"))) (by decide) (by decide)))).other W6 (Or.inr (slot_ne (a0 := a0) (Or.inl (Wd hw 61 rfl)) (Or.inl (Wd hw 67 rfl)) (by decide) (t := (.object "java/lang/Throwable")) (t' := (.object "java/util/List")) (by decide) (by decide)))).other W7 (Or.inr (slot_ne (a0 := a0) (Or.inl (Wd hw 61 rfl)) (Or.inl (Wd hw 64 rfl)) (by decide) (t := (.object "java/lang/Throwable")) (t' := (.array (.object "java/lang/StackTraceElement"))) (by decide) (by decide)))).other W8 (Or.inr (slot_ne (a0 := a0) (Or.inl (Wd hw 61 rfl)) (Or.inl (Wd hw 69 rfl)) (by decide) (t := (.object "java/lang/Throwable")) (t' := (.object "java/lang/String")) (by decide) (by decide)))).same W9
  have K9 : Keep h0 h9 [a0r] := K8.wr W9 (Or.inl (List.mem_of_getElem? (i := 0) rfl))
  have O9 := O8.wr W9 g_a0r
  have N9 := Fr.snoc X9 N8 g_a0r
  obtain ⟨T10, h10, X10, e10, W10, st10⟩ := putF X9 hx hZ hown (host := "") (Or.inl (Wd hw 66 rfl)) Via.refl e9 (((Fw6.other W7 (Or.inr (slot_ne (a0 := a0) (Or.inl (Wd hw 67 rfl)) (Or.inl (Wd hw 64 rfl)) (by decide) (t := (.object "java/util/List")) (t' := (.array (.object "java/lang/StackTraceElement"))) (by decide) (by decide)))).other W8 (Or.inr (slot_ne (a0 := a0) (Or.inl (Wd hw 67 rfl)) (Or.inl (Wd hw 69 rfl)) (by decide) (t := (.object "java/util/List")) (t' := (.object "java/lang/String")) (by decide) (by decide)))).other W9 (Or.inr (slot_ne (a0 := a0) (Or.inl (Wd hw 67 rfl)) (Or.inl (Wd hw 61 rfl)) (by decide) (t := (.object "java/util/List")) (t' := (.object "java/lang/Throwable")) (by decide) (by decide)))) ((((((E_a0r.wr W2).wr W4).wr W6).wr W7).wr W8).wr W9) (Or.inl (Wd hw 67 rfl)) (Wd hw 27 rfl) (ty := (.object "java/util/List")) (by decide) rfl rfl (g := (mkF m 57 #[.val (.ref a0r), .val (.ref am), .val .null, .val (.int (0 : Int32)), .val (.int (0 : Int32))] [.null, (.ref a0r)])) rfl rfl (hb hby d10_57)
  have Fw10 := (((Fw6.other W7 (Or.inr (slot_ne (a0 := a0) (Or.inl (Wd hw 67 rfl)) (Or.inl (Wd hw 64 rfl)) (by decide) (t := (.object "java/util/List")) (t' := (.array (.object "java/lang/StackTraceElement"))) (by decide) (by decide)))).other W8 (Or.inr (slot_ne (a0 := a0) (Or.inl (Wd hw 67 rfl)) (Or.inl (Wd hw 69 rfl)) (by decide) (t := (.object "java/util/List")) (t' := (.object "java/lang/String")) (by decide) (by decide)))).other W9 (Or.inr (slot_ne (a0 := a0) (Or.inl (Wd hw 67 rfl)) (Or.inl (Wd hw 61 rfl)) (by decide) (t := (.object "java/util/List")) (t' := (.object "java/lang/Throwable")) (by decide) (by decide)))).same W10
  have K10 : Keep h0 h10 [a0r] := K9.wr W10 (Or.inl (List.mem_of_getElem? (i := 0) rfl))
  have O10 := O9.wr W10 g_a0r
  have N10 := Fr.snoc X10 N9 g_a0r
  obtain ⟨fs, hr, hrun, hended, hW, hsame⟩ := X10.leave (v := none) (fun _ => rfl)
  refine ⟨_, _, pre0 _ ?_, hrun, hended, _, _, rfl, ?_, ⟨_, rfl⟩, hW, hsame.mono (by decide) (by decide)⟩
  · show Steps p.tables e below (s₁.setTop (mkF m 0 #[.val (.ref a0r), .val (.ref am), .val .null, .val (.int (0 : Int32)), .val (.int (0 : Int32))] [])) _
    refine XS.aloadN X0.here hx rfl (hb hby d10_0) rfl rfl ?_
    show Steps p.tables e below (s₁.setTop (mkF m 1 #[.val (.ref a0r), .val (.ref am), .val .null, .val (.int (0 : Int32)), .val (.int (0 : Int32))] [(.ref a0r)])) _
    refine st1 _ ?_
    show Steps p.tables e below (T1.setTop (mkF m 4 #[.val (.ref a0r), .val (.ref am), .val .null, .val (.int (0 : Int32)), .val (.int (0 : Int32))] [])) _
    refine XS.aloadN X1.here hx rfl (hb hby d10_4) rfl rfl ?_
    show Steps p.tables e below (T1.setTop (mkF m 5 #[.val (.ref a0r), .val (.ref am), .val .null, .val (.int (0 : Int32)), .val (.int (0 : Int32))] [(.ref a0r)])) _
    refine XS.aloadN X1.here hx rfl (hb hby d10_5) rfl rfl ?_
    show Steps p.tables e below (T1.setTop (mkF m 6 #[.val (.ref a0r), .val (.ref am), .val .null, .val (.int (0 : Int32)), .val (.int (0 : Int32))] [(.ref a0r), (.ref a0r)])) _
    refine st2 _ ?_
    show Steps p.tables e below (T2.setTop (mkF m 9 #[.val (.ref a0r), .val (.ref am), .val .null, .val (.int (0 : Int32)), .val (.int (0 : Int32))] [])) _
    refine XS.aloadN X2.here hx rfl (hb hby d10_9) rfl rfl ?_
    show Steps p.tables e below (T2.setTop (mkF m 10 #[.val (.ref a0r), .val (.ref am), .val .null, .val (.int (0 : Int32)), .val (.int (0 : Int32))] [(.ref a0r)])) _
    refine st3 _ ?_
    show Steps p.tables e below (T3.setTop (mkF m 13 #[.val (.ref a0r), .val (.ref am), .val .null, .val (.int (0 : Int32)), .val (.int (0 : Int32))] [(.ref aUS), (.ref a0r)])) _
    refine st4 _ ?_
    show Steps p.tables e below (T4.setTop (mkF m 16 #[.val (.ref a0r), .val (.ref am), .val .null, .val (.int (0 : Int32)), .val (.int (0 : Int32))] [])) _
    refine XS.aloadN X4.here hx rfl (hb hby d10_16) rfl rfl ?_
    show Steps p.tables e below (T4.setTop (mkF m 17 #[.val (.ref a0r), .val (.ref am), .val .null, .val (.int (0 : Int32)), .val (.int (0 : Int32))] [(.ref a0r)])) _
    refine st5 _ ?_
    show Steps p.tables e below (T5.setTop (mkF m 20 #[.val (.ref a0r), .val (.ref am), .val .null, .val (.int (0 : Int32)), .val (.int (0 : Int32))] [(.ref aSS), (.ref a0r)])) _
    refine st6 _ ?_
    show Steps p.tables e below (T6.setTop (mkF m 23 #[.val (.ref a0r), .val (.ref am), .val .null, .val (.int (0 : Int32)), .val (.int (0 : Int32))] [])) _
    refine XS.iload X6.here hx rfl (hb hby d10_23) rfl ?_
    show Steps p.tables e below (T6.setTop (mkF m 25 #[.val (.ref a0r), .val (.ref am), .val .null, .val (.int (0 : Int32)), .val (.int (0 : Int32))] [(.int (0 : Int32))])) _
    refine XS.ifYes X6.here hx rfl (pc0 := 25) (pc' := 36) rfl (hb hby d10_25) rfl ((if0 _ _).trans (teq (by decide : (0 : Int32) = (0 : Int32))).1) (by decide) (by decide) ?_
    show Steps p.tables e below (T6.setTop (mkF m 36 #[.val (.ref a0r), .val (.ref am), .val .null, .val (.int (0 : Int32)), .val (.int (0 : Int32))] [])) _
    refine XS.aloadN X6.here hx rfl (hb hby d10_36) rfl rfl ?_
    show Steps p.tables e below (T6.setTop (mkF m 37 #[.val (.ref a0r), .val (.ref am), .val .null, .val (.int (0 : Int32)), .val (.int (0 : Int32))] [(.ref a0r)])) _
    refine XS.aconstNull X6.here hx rfl (hb hby d10_37) ?_
    show Steps p.tables e below (T6.setTop (mkF m 38 #[.val (.ref a0r), .val (.ref am), .val .null, .val (.int (0 : Int32)), .val (.int (0 : Int32))] [.null, (.ref a0r)])) _
    refine st7 _ ?_
    show Steps p.tables e below (T7.setTop (mkF m 41 #[.val (.ref a0r), .val (.ref am), .val .null, .val (.int (0 : Int32)), .val (.int (0 : Int32))] [])) _
    refine XS.aloadN X7.here hx rfl (hb hby d10_41) rfl rfl ?_
    show Steps p.tables e below (T7.setTop (mkF m 42 #[.val (.ref a0r), .val (.ref am), .val .null, .val (.int (0 : Int32)), .val (.int (0 : Int32))] [(.ref a0r)])) _
    refine XS.aloadN X7.here hx rfl (hb hby d10_42) rfl rfl ?_
    show Steps p.tables e below (T7.setTop (mkF m 43 #[.val (.ref a0r), .val (.ref am), .val .null, .val (.int (0 : Int32)), .val (.int (0 : Int32))] [(.ref am), (.ref a0r)])) _
    refine st8 _ ?_
    show Steps p.tables e below (T8.setTop (mkF m 46 #[.val (.ref a0r), .val (.ref am), .val .null, .val (.int (0 : Int32)), .val (.int (0 : Int32))] [])) _
    refine XS.aloadN X8.here hx rfl (hb hby d10_46) rfl rfl ?_
    show Steps p.tables e below (T8.setTop (mkF m 47 #[.val (.ref a0r), .val (.ref am), .val .null, .val (.int (0 : Int32)), .val (.int (0 : Int32))] [(.ref a0r)])) _
    refine XS.aloadN X8.here hx rfl (hb hby d10_47) rfl rfl ?_
    show Steps p.tables e below (T8.setTop (mkF m 48 #[.val (.ref a0r), .val (.ref am), .val .null, .val (.int (0 : Int32)), .val (.int (0 : Int32))] [.null, (.ref a0r)])) _
    refine st9 _ ?_
    show Steps p.tables e below (T9.setTop (mkF m 51 #[.val (.ref a0r), .val (.ref am), .val .null, .val (.int (0 : Int32)), .val (.int (0 : Int32))] [])) _
    refine XS.iloadN X9.here hx rfl (hb hby d10_51) rfl ?_
    show Steps p.tables e below (T9.setTop (mkF m 52 #[.val (.ref a0r), .val (.ref am), .val .null, .val (.int (0 : Int32)), .val (.int (0 : Int32))] [(.int (0 : Int32))])) _
    refine XS.ifNo X9.here hx rfl (hb hby d10_52) rfl ((if0 _ _).trans (teq (by decide : (0 : Int32) = (0 : Int32))).2) ?_
    show Steps p.tables e below (T9.setTop (mkF m 55 #[.val (.ref a0r), .val (.ref am), .val .null, .val (.int (0 : Int32)), .val (.int (0 : Int32))] [])) _
    refine XS.aloadN X9.here hx rfl (hb hby d10_55) rfl rfl ?_
    show Steps p.tables e below (T9.setTop (mkF m 56 #[.val (.ref a0r), .val (.ref am), .val .null, .val (.int (0 : Int32)), .val (.int (0 : Int32))] [(.ref a0r)])) _
    refine XS.aconstNull X9.here hx rfl (hb hby d10_56) ?_
    show Steps p.tables e below (T9.setTop (mkF m 57 #[.val (.ref a0r), .val (.ref am), .val .null, .val (.int (0 : Int32)), .val (.int (0 : Int32))] [.null, (.ref a0r)])) _
    refine st10 _ ?_
    show Steps p.tables e below (T10.setTop (mkF m 60 #[.val (.ref a0r), .val (.ref am), .val .null, .val (.int (0 : Int32)), .val (.int (0 : Int32))] [])) _
    exact X10.returnOut hx Bd.returns (hb hby d10_60) hr
  · show Q_rmTh n0 Z cS aRS aEM aUS aSS a0r am h0 _ T10.heap _
    rw [e10]
    exact ⟨rfl, N10, K10, (((((((E_a0r.wr W2).wr W4).wr W6).wr W7).wr W8).wr W9).wr W10), ((Fw8.other W9 (Or.inr (slot_ne (a0 := a0) (Or.inl (Wd hw 69 rfl)) (Or.inl (Wd hw 61 rfl)) (by decide) (t := (.object "java/lang/String")) (t' := (.object "java/lang/Throwable")) (by decide) (by decide)))).other W10 (Or.inr (slot_ne (a0 := a0) (Or.inl (Wd hw 69 rfl)) (Or.inl (Wd hw 67 rfl)) (by decide) (t := (.object "java/lang/String")) (t' := (.object "java/util/List")) (by decide) (by decide)))), (((((((F_reason_a0r.other W2 (Or.inr (slot_ne (a0 := a0) (Or.inr (Wd hw 71 rfl)) (Or.inl (Wd hw 61 rfl)) (by decide) (t := (.object "com/example/metaloom/metaloom/store/Rejection$Reason")) (t' := (.object "java/lang/Throwable")) (by decide) (by decide)))).other W4 (Or.inr (slot_ne (a0 := a0) (Or.inr (Wd hw 71 rfl)) (Or.inl (Wd hw 64 rfl)) (by decide) (t := (.object "com/example/metaloom/metaloom/store/Rejection$Reason")) (t' := (.array (.object "java/lang/StackTraceElement"))) (by decide) (by decide)))).other W6 (Or.inr (slot_ne (a0 := a0) (Or.inr (Wd hw 71 rfl)) (Or.inl (Wd hw 67 rfl)) (by decide) (t := (.object "com/example/metaloom/metaloom/store/Rejection$Reason")) (t' := (.object "java/util/List")) (by decide) (by decide)))).other W7 (Or.inr (slot_ne (a0 := a0) (Or.inr (Wd hw 71 rfl)) (Or.inl (Wd hw 64 rfl)) (by decide) (t := (.object "com/example/metaloom/metaloom/store/Rejection$Reason")) (t' := (.array (.object "java/lang/StackTraceElement"))) (by decide) (by decide)))).other W8 (Or.inr (slot_ne (a0 := a0) (Or.inr (Wd hw 71 rfl)) (Or.inl (Wd hw 69 rfl)) (by decide) (t := (.object "com/example/metaloom/metaloom/store/Rejection$Reason")) (t' := (.object "java/lang/String")) (by decide) (by decide)))).other W9 (Or.inr (slot_ne (a0 := a0) (Or.inr (Wd hw 71 rfl)) (Or.inl (Wd hw 61 rfl)) (by decide) (t := (.object "com/example/metaloom/metaloom/store/Rejection$Reason")) (t' := (.object "java/lang/Throwable")) (by decide) (by decide)))).other W10 (Or.inr (slot_ne (a0 := a0) (Or.inr (Wd hw 71 rfl)) (Or.inl (Wd hw 67 rfl)) (by decide) (t := (.object "com/example/metaloom/metaloom/store/Rejection$Reason")) (t' := (.object "java/util/List")) (by decide) (by decide)))), (((((((F_position_a0r.other W2 (Or.inr (slot_ne (a0 := a0) (Or.inr (Wd hw 73 rfl)) (Or.inl (Wd hw 61 rfl)) (by decide) (t := (.object "java/util/OptionalInt")) (t' := (.object "java/lang/Throwable")) (by decide) (by decide)))).other W4 (Or.inr (slot_ne (a0 := a0) (Or.inr (Wd hw 73 rfl)) (Or.inl (Wd hw 64 rfl)) (by decide) (t := (.object "java/util/OptionalInt")) (t' := (.array (.object "java/lang/StackTraceElement"))) (by decide) (by decide)))).other W6 (Or.inr (slot_ne (a0 := a0) (Or.inr (Wd hw 73 rfl)) (Or.inl (Wd hw 67 rfl)) (by decide) (t := (.object "java/util/OptionalInt")) (t' := (.object "java/util/List")) (by decide) (by decide)))).other W7 (Or.inr (slot_ne (a0 := a0) (Or.inr (Wd hw 73 rfl)) (Or.inl (Wd hw 64 rfl)) (by decide) (t := (.object "java/util/OptionalInt")) (t' := (.array (.object "java/lang/StackTraceElement"))) (by decide) (by decide)))).other W8 (Or.inr (slot_ne (a0 := a0) (Or.inr (Wd hw 73 rfl)) (Or.inl (Wd hw 69 rfl)) (by decide) (t := (.object "java/util/OptionalInt")) (t' := (.object "java/lang/String")) (by decide) (by decide)))).other W9 (Or.inr (slot_ne (a0 := a0) (Or.inr (Wd hw 73 rfl)) (Or.inl (Wd hw 61 rfl)) (by decide) (t := (.object "java/util/OptionalInt")) (t' := (.object "java/lang/Throwable")) (by decide) (by decide)))).other W10 (Or.inr (slot_ne (a0 := a0) (Or.inr (Wd hw 73 rfl)) (Or.inl (Wd hw 67 rfl)) (by decide) (t := (.object "java/util/OptionalInt")) (t' := (.object "java/util/List")) (by decide) (by decide))))⟩
theorem d9_0 : decode jdk_59_method_5_code 0 = .ok (.aload_n 0, 1) := by decide +kernel
theorem d9_1 : decode jdk_59_method_5_code 1 = .ok (.aload_n 1, 1) := by decide +kernel
theorem d9_2 : decode jdk_59_method_5_code 2 = .ok (.aload_n 2, 1) := by decide +kernel
theorem d9_3 : decode jdk_59_method_5_code 3 = .ok (.iload_n 3, 1) := by decide +kernel
theorem d9_4 : decode jdk_59_method_5_code 4 = .ok (.iload 4, 2) := by decide +kernel
theorem d9_6 : decode jdk_59_method_5_code 6 = .ok (.invokespecial 16, 3) := by decide +kernel
theorem pdv4 : parseMethodDescriptor "(Ljava/lang/String;Ljava/lang/Throwable;ZZ)V" = some ⟨[(.object "java/lang/String"), (.object "java/lang/Throwable"), .boolean, .boolean], none⟩ := by decide +kernel
theorem d9_9 : decode jdk_59_method_5_code 9 = .ok (.return_, 1) := by decide +kernel
theorem pnv4 : plainName "java/lang/Exception" = true := by first | (simp [plainName, overriddenIn]; done) | decide +kernel
abbrev MN_7 : MethodName := ⟨"java/lang/Exception", "<init>", "(Ljava/lang/String;Ljava/lang/Throwable;ZZ)V"⟩
def Q_rmEx (n0 : Nat) (Z : State) (cS : Int32) (aRS : Addr) (aEM : Addr) (aUS : Addr) (aSS : Addr) (a0r : Addr) (am : Addr) (h0 : Heap) (v : Option Value) (h : Heap) (L : List Loc) : Prop := v = none ∧ Fr n0 L ∧ Keep h0 h [a0r] ∧ (Exa Z h a0r "com/example/metaloom/metaloom/store/Rejection") ∧ (Fld Z h a0r "java/lang/Throwable" "detailMessage" "Ljava/lang/String;" (.ref am)) ∧ (Fld Z h a0r "com/example/metaloom/metaloom/store/Rejection" "reason" "Lcom/example/metaloom/metaloom/store/Rejection$Reason;" .null) ∧ (Fld Z h a0r "com/example/metaloom/metaloom/store/Rejection" "position" "Ljava/util/OptionalInt;" .null)
set_option maxRecDepth 65536 in
set_option maxHeartbeats 40000000 in
theorem rmEx (l : Launch) (Z : State) (a0 : Array Value) (hw : ∀ d ∈ tables_1, d.before a0 Z = true) (ws : List Jvm.Cond) (cS : Int32) (aRS : Addr) (aEM : Addr) (aUS : Addr) (aSS : Addr) (a0r : Addr) (am : Addr) (h0 : Heap) (n0 : Nat) (O0 : Old Z n0 h0) (GL : GF Z cS aRS aEM aUS aSS) (E_a0r : Exa Z h0 a0r "com/example/metaloom/metaloom/store/Rejection") (F_cause_a0r : Fld Z h0 a0r "java/lang/Throwable" "cause" "Ljava/lang/Throwable;" .null) (F_stackTrace_a0r : Fld Z h0 a0r "java/lang/Throwable" "stackTrace" "[Ljava/lang/StackTraceElement;" .null) (F_suppressedExceptions_a0r : Fld Z h0 a0r "java/lang/Throwable" "suppressedExceptions" "Ljava/util/List;" .null) (F_detailMessage_a0r : Fld Z h0 a0r "java/lang/Throwable" "detailMessage" "Ljava/lang/String;" .null) (F_reason_a0r : Fld Z h0 a0r "com/example/metaloom/metaloom/store/Rejection" "reason" "Lcom/example/metaloom/metaloom/store/Rejection$Reason;" .null) (F_position_a0r : Fld Z h0 a0r "com/example/metaloom/metaloom/store/Rejection" "position" "Ljava/util/OptionalInt;" .null) (g_a0r : n0 ≤ a0r) :
    MetFree l MN_7 (head1 (Jvm.Cond.code MN_7 jdk_59_method_5_code 5 none :: ws) ({ frames := 2, cells := 0, slots := 0, locals := 28 } : Room)) (fun a U => a = #[(.ref a0r), (.ref am), .null, (.int (0 : Int32)), (.int (0 : Int32))] ∧ Z.Warmed39 U.vm ∧ U.heap = h0) (fun _ _ _ _ _ => True) (fun _ U o U' => ∃ v L, o = .returned v ∧ Q_rmEx n0 Z cS aRS aEM aUS aSS a0r am h0 v U'.heap L ∧ FrameEnd U o U' L ({ frames := 2, cells := 0, slots := 0, locals := 28 } : Room).cells ({ frames := 2, cells := 0, slots := 0, locals := 28 } : Room).slots) := by
  refine MetFree.of_bodySF (plainFor_of_name pnv4) hisR ?_
  intro p e s m args below meth c s₁ Bd hml0 hP hK
  obtain ⟨rfl, hZ, hh⟩ := hP
  have hx := Bd.exec
  have hby := Bd.bytes
  have hml : c.maxLocals = 5 := hml0
  have hown : s.vm.findClass "java/lang/Exception" = some m.cls := findClass_of_methodNamed Bd.named
  have hnm := (name_of_methodNamed Bd.named Bd.method).1
  have X0 : Stand p l e ({ frames := 2, cells := 0, slots := 0, locals := 28 } : Room) s m #[(.ref a0r), (.ref am), .null, (.int (0 : Int32)), (.int (0 : Int32))] below meth c s₁ [] 0 0 := Stand.of_body Bd
  have e0 : s₁.heap = h0 := by rw [← hh, Bd.state]; rfl
  have N0 := Fr.nil n0
  have pre0 : ∀ t, Steps p.tables e below (s₁.setTop (mkF m 0 #[.val (.ref a0r), .val (.ref am), .val .null, .val (.int (0 : Int32)), .val (.int (0 : Int32))] [])) t → Steps p.tables e below (s₁.setTop (entryFrame m #[(.ref a0r), (.ref am), .null, (.int (0 : Int32)), (.int (0 : Int32))] 5)) t := fun t k => castTop (ef_rmTh m a0r am) k
  have GL' := GL
  obtain ⟨GCS, GCP, GSR, GSE, GEE, GFE, GSU, GSS⟩ := GL'
  obtain ⟨_, _, ⟨T1, L1, k1, n1⟩, -, X1, ⟨Lc1, hQ1, l1, y1, z1⟩, st1⟩ := X0.specialBack hx (y := MN_6) rfl hown (mvT hZ (Wd hw 53 rfl)) (mvT hZ (Wd hw 54 rfl)) (mvT hZ (Wd hw 58 rfl)) (by decide) (backOf (W := 0) (rmTh l Z a0 hw [] cS aRS aEM aUS aSS (a0r) (am) (h0) n0 O0 GL E_a0r F_cause_a0r F_stackTrace_a0r F_suppressedExceptions_a0r F_detailMessage_a0r F_reason_a0r F_position_a0r g_a0r) hZ (Wd hw 58 rfl) (Wd hw 57 rfl) (by decide) (by decide)) (g := (mkF m 6 #[.val (.ref a0r), .val (.ref am), .val .null, .val (.int (0 : Int32)), .val (.int (0 : Int32))] [(.int (0 : Int32)), (.int (0 : Int32)), .null, (.ref am), (.ref a0r)])) rfl (by rw [hml]; rfl) (Steps.refl _) (a := a0r) (argsL := [(.ref am), .null, (.int (0 : Int32)), (.int (0 : Int32))]) (rest := []) (lenOf pdv4 rfl) rfl (by show 2 * 0 + _ ≤ _; exact Nat.le_of_eq rfl) (hb hby d9_6) (fun _ _ => ⟨rfl, e0, (by decide : 0 + 0 ≤ _), (by decide : 0 + 0 ≤ _)⟩)
  dsimp only [Pt.U, Pt.locs, Pt.cells, Pt.slots] at X1 l1 y1 z1 st1 hQ1
  subst l1 y1 z1
  obtain ⟨rfl, N1q, Kc1, P1_0, P1_1, P1_2, P1_3⟩ := hQ1
  have K1 : Keep h0 T1.heap [a0r] := (Keep.refl h0 [a0r]).trans Kc1 (allS (Or.inl (List.mem_of_getElem? (i := 0) rfl)) all0)
  have O1 := O0.keep Kc1 (allS g_a0r all0)
  have N1 := Fr.app N0 N1q
  obtain ⟨fs, hr, hrun, hended, hW, hsame⟩ := X1.leave (v := none) (fun _ => rfl)
  refine ⟨_, _, pre0 _ ?_, hrun, hended, _, _, rfl, ?_, ⟨_, rfl⟩, hW, hsame.mono (by decide) (by decide)⟩
  · show Steps p.tables e below (s₁.setTop (mkF m 0 #[.val (.ref a0r), .val (.ref am), .val .null, .val (.int (0 : Int32)), .val (.int (0 : Int32))] [])) _
    refine XS.aloadN X0.here hx rfl (hb hby d9_0) rfl rfl ?_
    show Steps p.tables e below (s₁.setTop (mkF m 1 #[.val (.ref a0r), .val (.ref am), .val .null, .val (.int (0 : Int32)), .val (.int (0 : Int32))] [(.ref a0r)])) _
    refine XS.aloadN X0.here hx rfl (hb hby d9_1) rfl rfl ?_
    show Steps p.tables e below (s₁.setTop (mkF m 2 #[.val (.ref a0r), .val (.ref am), .val .null, .val (.int (0 : Int32)), .val (.int (0 : Int32))] [(.ref am), (.ref a0r)])) _
    refine XS.aloadN X0.here hx rfl (hb hby d9_2) rfl rfl ?_
    show Steps p.tables e below (s₁.setTop (mkF m 3 #[.val (.ref a0r), .val (.ref am), .val .null, .val (.int (0 : Int32)), .val (.int (0 : Int32))] [.null, (.ref am), (.ref a0r)])) _
    refine XS.iloadN X0.here hx rfl (hb hby d9_3) rfl ?_
    show Steps p.tables e below (s₁.setTop (mkF m 4 #[.val (.ref a0r), .val (.ref am), .val .null, .val (.int (0 : Int32)), .val (.int (0 : Int32))] [(.int (0 : Int32)), .null, (.ref am), (.ref a0r)])) _
    refine XS.iload X0.here hx rfl (hb hby d9_4) rfl ?_
    show Steps p.tables e below (s₁.setTop (mkF m 6 #[.val (.ref a0r), .val (.ref am), .val .null, .val (.int (0 : Int32)), .val (.int (0 : Int32))] [(.int (0 : Int32)), (.int (0 : Int32)), .null, (.ref am), (.ref a0r)])) _
    refine st1.trans ?_
    show Steps p.tables e below (T1.setTop (mkF m 9 #[.val (.ref a0r), .val (.ref am), .val .null, .val (.int (0 : Int32)), .val (.int (0 : Int32))] [])) _
    exact X1.returnOut hx Bd.returns (hb hby d9_9) hr
  · show Q_rmEx n0 Z cS aRS aEM aUS aSS a0r am h0 _ T1.heap _
    exact ⟨rfl, N1, K1, P1_0, P1_1, P1_2, P1_3⟩
theorem d8_0 : decode jdk_58_method_5_code 0 = .ok (.aload_n 0, 1) := by decide +kernel
theorem d8_1 : decode jdk_58_method_5_code 1 = .ok (.aload_n 1, 1) := by decide +kernel
theorem d8_2 : decode jdk_58_method_5_code 2 = .ok (.aload_n 2, 1) := by decide +kernel
theorem d8_3 : decode jdk_58_method_5_code 3 = .ok (.iload_n 3, 1) := by decide +kernel
theorem d8_4 : decode jdk_58_method_5_code 4 = .ok (.iload 4, 2) := by decide +kernel
theorem d8_6 : decode jdk_58_method_5_code 6 = .ok (.invokespecial 16, 3) := by decide +kernel
theorem d8_9 : decode jdk_58_method_5_code 9 = .ok (.return_, 1) := by decide +kernel
theorem pnv5 : plainName "java/lang/RuntimeException" = true := by first | (simp [plainName, overriddenIn]; done) | decide +kernel
abbrev MN_8 : MethodName := ⟨"java/lang/RuntimeException", "<init>", "(Ljava/lang/String;Ljava/lang/Throwable;ZZ)V"⟩
def Q_rmRt (n0 : Nat) (Z : State) (cS : Int32) (aRS : Addr) (aEM : Addr) (aUS : Addr) (aSS : Addr) (a0r : Addr) (am : Addr) (h0 : Heap) (v : Option Value) (h : Heap) (L : List Loc) : Prop := v = none ∧ Fr n0 L ∧ Keep h0 h [a0r] ∧ (Exa Z h a0r "com/example/metaloom/metaloom/store/Rejection") ∧ (Fld Z h a0r "java/lang/Throwable" "detailMessage" "Ljava/lang/String;" (.ref am)) ∧ (Fld Z h a0r "com/example/metaloom/metaloom/store/Rejection" "reason" "Lcom/example/metaloom/metaloom/store/Rejection$Reason;" .null) ∧ (Fld Z h a0r "com/example/metaloom/metaloom/store/Rejection" "position" "Ljava/util/OptionalInt;" .null)
set_option maxRecDepth 65536 in
set_option maxHeartbeats 40000000 in
theorem rmRt (l : Launch) (Z : State) (a0 : Array Value) (hw : ∀ d ∈ tables_1, d.before a0 Z = true) (ws : List Jvm.Cond) (cS : Int32) (aRS : Addr) (aEM : Addr) (aUS : Addr) (aSS : Addr) (a0r : Addr) (am : Addr) (h0 : Heap) (n0 : Nat) (O0 : Old Z n0 h0) (GL : GF Z cS aRS aEM aUS aSS) (E_a0r : Exa Z h0 a0r "com/example/metaloom/metaloom/store/Rejection") (F_cause_a0r : Fld Z h0 a0r "java/lang/Throwable" "cause" "Ljava/lang/Throwable;" .null) (F_stackTrace_a0r : Fld Z h0 a0r "java/lang/Throwable" "stackTrace" "[Ljava/lang/StackTraceElement;" .null) (F_suppressedExceptions_a0r : Fld Z h0 a0r "java/lang/Throwable" "suppressedExceptions" "Ljava/util/List;" .null) (F_detailMessage_a0r : Fld Z h0 a0r "java/lang/Throwable" "detailMessage" "Ljava/lang/String;" .null) (F_reason_a0r : Fld Z h0 a0r "com/example/metaloom/metaloom/store/Rejection" "reason" "Lcom/example/metaloom/metaloom/store/Rejection$Reason;" .null) (F_position_a0r : Fld Z h0 a0r "com/example/metaloom/metaloom/store/Rejection" "position" "Ljava/util/OptionalInt;" .null) (g_a0r : n0 ≤ a0r) :
    MetFree l MN_8 (head1 (Jvm.Cond.code MN_8 jdk_58_method_5_code 5 none :: ws) ({ frames := 3, cells := 0, slots := 0, locals := 44 } : Room)) (fun a U => a = #[(.ref a0r), (.ref am), .null, (.int (0 : Int32)), (.int (0 : Int32))] ∧ Z.Warmed39 U.vm ∧ U.heap = h0) (fun _ _ _ _ _ => True) (fun _ U o U' => ∃ v L, o = .returned v ∧ Q_rmRt n0 Z cS aRS aEM aUS aSS a0r am h0 v U'.heap L ∧ FrameEnd U o U' L ({ frames := 3, cells := 0, slots := 0, locals := 44 } : Room).cells ({ frames := 3, cells := 0, slots := 0, locals := 44 } : Room).slots) := by
  refine MetFree.of_bodySF (plainFor_of_name pnv5) hisR ?_
  intro p e s m args below meth c s₁ Bd hml0 hP hK
  obtain ⟨rfl, hZ, hh⟩ := hP
  have hx := Bd.exec
  have hby := Bd.bytes
  have hml : c.maxLocals = 5 := hml0
  have hown : s.vm.findClass "java/lang/RuntimeException" = some m.cls := findClass_of_methodNamed Bd.named
  have hnm := (name_of_methodNamed Bd.named Bd.method).1
  have X0 : Stand p l e ({ frames := 3, cells := 0, slots := 0, locals := 44 } : Room) s m #[(.ref a0r), (.ref am), .null, (.int (0 : Int32)), (.int (0 : Int32))] below meth c s₁ [] 0 0 := Stand.of_body Bd
  have e0 : s₁.heap = h0 := by rw [← hh, Bd.state]; rfl
  have N0 := Fr.nil n0
  have pre0 : ∀ t, Steps p.tables e below (s₁.setTop (mkF m 0 #[.val (.ref a0r), .val (.ref am), .val .null, .val (.int (0 : Int32)), .val (.int (0 : Int32))] [])) t → Steps p.tables e below (s₁.setTop (entryFrame m #[(.ref a0r), (.ref am), .null, (.int (0 : Int32)), (.int (0 : Int32))] 5)) t := fun t k => castTop (ef_rmTh m a0r am) k
  have GL' := GL
  obtain ⟨GCS, GCP, GSR, GSE, GEE, GFE, GSU, GSS⟩ := GL'
  obtain ⟨_, _, ⟨T1, L1, k1, n1⟩, -, X1, ⟨Lc1, hQ1, l1, y1, z1⟩, st1⟩ := X0.specialBack hx (y := MN_7) rfl hown (mvT hZ (Wd hw 47 rfl)) (mvT hZ (Wd hw 48 rfl)) (mvT hZ (Wd hw 52 rfl)) (by decide) (backOf (W := 0) (rmEx l Z a0 hw [] cS aRS aEM aUS aSS (a0r) (am) (h0) n0 O0 GL E_a0r F_cause_a0r F_stackTrace_a0r F_suppressedExceptions_a0r F_detailMessage_a0r F_reason_a0r F_position_a0r g_a0r) hZ (Wd hw 52 rfl) (Wd hw 51 rfl) (by decide) (by decide)) (g := (mkF m 6 #[.val (.ref a0r), .val (.ref am), .val .null, .val (.int (0 : Int32)), .val (.int (0 : Int32))] [(.int (0 : Int32)), (.int (0 : Int32)), .null, (.ref am), (.ref a0r)])) rfl (by rw [hml]; rfl) (Steps.refl _) (a := a0r) (argsL := [(.ref am), .null, (.int (0 : Int32)), (.int (0 : Int32))]) (rest := []) (lenOf pdv4 rfl) rfl (by show 2 * 0 + _ ≤ _; exact Nat.le_of_eq rfl) (hb hby d8_6) (fun _ _ => ⟨rfl, e0, (by decide : 0 + 0 ≤ _), (by decide : 0 + 0 ≤ _)⟩)
  dsimp only [Pt.U, Pt.locs, Pt.cells, Pt.slots] at X1 l1 y1 z1 st1 hQ1
  subst l1 y1 z1
  obtain ⟨rfl, N1q, Kc1, P1_0, P1_1, P1_2, P1_3⟩ := hQ1
  have K1 : Keep h0 T1.heap [a0r] := (Keep.refl h0 [a0r]).trans Kc1 (allS (Or.inl (List.mem_of_getElem? (i := 0) rfl)) all0)
  have O1 := O0.keep Kc1 (allS g_a0r all0)
  have N1 := Fr.app N0 N1q
  obtain ⟨fs, hr, hrun, hended, hW, hsame⟩ := X1.leave (v := none) (fun _ => rfl)
  refine ⟨_, _, pre0 _ ?_, hrun, hended, _, _, rfl, ?_, ⟨_, rfl⟩, hW, hsame.mono (by decide) (by decide)⟩
  · show Steps p.tables e below (s₁.setTop (mkF m 0 #[.val (.ref a0r), .val (.ref am), .val .null, .val (.int (0 : Int32)), .val (.int (0 : Int32))] [])) _
    refine XS.aloadN X0.here hx rfl (hb hby d8_0) rfl rfl ?_
    show Steps p.tables e below (s₁.setTop (mkF m 1 #[.val (.ref a0r), .val (.ref am), .val .null, .val (.int (0 : Int32)), .val (.int (0 : Int32))] [(.ref a0r)])) _
    refine XS.aloadN X0.here hx rfl (hb hby d8_1) rfl rfl ?_
    show Steps p.tables e below (s₁.setTop (mkF m 2 #[.val (.ref a0r), .val (.ref am), .val .null, .val (.int (0 : Int32)), .val (.int (0 : Int32))] [(.ref am), (.ref a0r)])) _
    refine XS.aloadN X0.here hx rfl (hb hby d8_2) rfl rfl ?_
    show Steps p.tables e below (s₁.setTop (mkF m 3 #[.val (.ref a0r), .val (.ref am), .val .null, .val (.int (0 : Int32)), .val (.int (0 : Int32))] [.null, (.ref am), (.ref a0r)])) _
    refine XS.iloadN X0.here hx rfl (hb hby d8_3) rfl ?_
    show Steps p.tables e below (s₁.setTop (mkF m 4 #[.val (.ref a0r), .val (.ref am), .val .null, .val (.int (0 : Int32)), .val (.int (0 : Int32))] [(.int (0 : Int32)), .null, (.ref am), (.ref a0r)])) _
    refine XS.iload X0.here hx rfl (hb hby d8_4) rfl ?_
    show Steps p.tables e below (s₁.setTop (mkF m 6 #[.val (.ref a0r), .val (.ref am), .val .null, .val (.int (0 : Int32)), .val (.int (0 : Int32))] [(.int (0 : Int32)), (.int (0 : Int32)), .null, (.ref am), (.ref a0r)])) _
    refine st1.trans ?_
    show Steps p.tables e below (T1.setTop (mkF m 9 #[.val (.ref a0r), .val (.ref am), .val .null, .val (.int (0 : Int32)), .val (.int (0 : Int32))] [])) _
    exact X1.returnOut hx Bd.returns (hb hby d8_9) hr
  · show Q_rmRt n0 Z cS aRS aEM aUS aSS a0r am h0 _ T1.heap _
    exact ⟨rfl, N1, K1, P1_0, P1_1, P1_2, P1_3⟩
theorem d7_0 : decode prog_21_method_1_code 0 = .ok (.aload_n 0, 1) := by decide +kernel
theorem d7_1 : decode prog_21_method_1_code 1 = .ok (.aload_n 2, 1) := by decide +kernel
theorem d7_2 : decode prog_21_method_1_code 2 = .ok (.aconst_null, 1) := by decide +kernel
theorem d7_3 : decode prog_21_method_1_code 3 = .ok (.iconst 0, 1) := by decide +kernel
theorem d7_4 : decode prog_21_method_1_code 4 = .ok (.iconst 0, 1) := by decide +kernel
theorem d7_5 : decode prog_21_method_1_code 5 = .ok (.invokespecial 1, 3) := by decide +kernel
theorem d7_8 : decode prog_21_method_1_code 8 = .ok (.aload_n 0, 1) := by decide +kernel
theorem d7_9 : decode prog_21_method_1_code 9 = .ok (.aload_n 1, 1) := by decide +kernel
theorem d7_10 : decode prog_21_method_1_code 10 = .ok (.putfield 7, 3) := by decide +kernel
theorem d7_13 : decode prog_21_method_1_code 13 = .ok (.aload_n 0, 1) := by decide +kernel
theorem d7_14 : decode prog_21_method_1_code 14 = .ok (.aload_n 3, 1) := by decide +kernel
theorem d7_15 : decode prog_21_method_1_code 15 = .ok (.putfield 13, 3) := by decide +kernel
theorem d7_18 : decode prog_21_method_1_code 18 = .ok (.return_, 1) := by decide +kernel
theorem pnv6 : plainName "com/example/metaloom/metaloom/store/Rejection" = true := by first | (simp [plainName, overriddenIn]; done) | decide +kernel
abbrev MN_9 : MethodName := ⟨"com/example/metaloom/metaloom/store/Rejection", "<init>", "(Lcom/example/metaloom/metaloom/store/Rejection$Reason;Ljava/lang/String;Ljava/util/OptionalInt;)V"⟩
theorem ef_rmR3 (m : MethodId) (a0r : Addr) (ar : Addr) (am : Addr) (ap : Addr) : entryFrame m #[(.ref a0r), (.ref ar), (.ref am), (.ref ap)] 4 = mkF m 0 #[.val (.ref a0r), .val (.ref ar), .val (.ref am), .val (.ref ap)] [] := by first | (simp [entryFrame, mkF, argsToLocals, Value.category]; done) | rfl
def Q_rmR3 (n0 : Nat) (Z : State) (cS : Int32) (aRS : Addr) (aEM : Addr) (aUS : Addr) (aSS : Addr) (a0r : Addr) (ar : Addr) (am : Addr) (ap : Addr) (h0 : Heap) (v : Option Value) (h : Heap) (L : List Loc) : Prop := v = none ∧ Fr n0 L ∧ Keep h0 h [a0r] ∧ (Exa Z h a0r "com/example/metaloom/metaloom/store/Rejection") ∧ (Fld Z h a0r "java/lang/Throwable" "detailMessage" "Ljava/lang/String;" (.ref am)) ∧ (Fld Z h a0r "com/example/metaloom/metaloom/store/Rejection" "reason" "Lcom/example/metaloom/metaloom/store/Rejection$Reason;" (.ref ar)) ∧ (Fld Z h a0r "com/example/metaloom/metaloom/store/Rejection" "position" "Ljava/util/OptionalInt;" (.ref ap))
set_option maxRecDepth 65536 in
set_option maxHeartbeats 40000000 in
theorem rmR3 (l : Launch) (Z : State) (a0 : Array Value) (hw : ∀ d ∈ tables_1, d.before a0 Z = true) (ws : List Jvm.Cond) (cS : Int32) (aRS : Addr) (aEM : Addr) (aUS : Addr) (aSS : Addr) (a0r : Addr) (ar : Addr) (am : Addr) (ap : Addr) (h0 : Heap) (n0 : Nat) (O0 : Old Z n0 h0) (GL : GF Z cS aRS aEM aUS aSS) (E_a0r : Exa Z h0 a0r "com/example/metaloom/metaloom/store/Rejection") (F_cause_a0r : Fld Z h0 a0r "java/lang/Throwable" "cause" "Ljava/lang/Throwable;" .null) (F_stackTrace_a0r : Fld Z h0 a0r "java/lang/Throwable" "stackTrace" "[Ljava/lang/StackTraceElement;" .null) (F_suppressedExceptions_a0r : Fld Z h0 a0r "java/lang/Throwable" "suppressedExceptions" "Ljava/util/List;" .null) (F_detailMessage_a0r : Fld Z h0 a0r "java/lang/Throwable" "detailMessage" "Ljava/lang/String;" .null) (F_reason_a0r : Fld Z h0 a0r "com/example/metaloom/metaloom/store/Rejection" "reason" "Lcom/example/metaloom/metaloom/store/Rejection$Reason;" .null) (F_position_a0r : Fld Z h0 a0r "com/example/metaloom/metaloom/store/Rejection" "position" "Ljava/util/OptionalInt;" .null) (g_a0r : n0 ≤ a0r) :
    MetFree l MN_9 (head1 (Jvm.Cond.code MN_9 prog_21_method_1_code 4 none :: ws) ({ frames := 4, cells := 0, slots := 0, locals := 60 } : Room)) (fun a U => a = #[(.ref a0r), (.ref ar), (.ref am), (.ref ap)] ∧ Z.Warmed39 U.vm ∧ U.heap = h0) (fun _ _ _ _ _ => True) (fun _ U o U' => ∃ v L, o = .returned v ∧ Q_rmR3 n0 Z cS aRS aEM aUS aSS a0r ar am ap h0 v U'.heap L ∧ FrameEnd U o U' L ({ frames := 4, cells := 0, slots := 0, locals := 60 } : Room).cells ({ frames := 4, cells := 0, slots := 0, locals := 60 } : Room).slots) := by
  refine MetFree.of_bodySF (plainFor_of_name pnv6) hisR ?_
  intro p e s m args below meth c s₁ Bd hml0 hP hK
  obtain ⟨rfl, hZ, hh⟩ := hP
  have hx := Bd.exec
  have hby := Bd.bytes
  have hml : c.maxLocals = 4 := hml0
  have hown : s.vm.findClass "com/example/metaloom/metaloom/store/Rejection" = some m.cls := findClass_of_methodNamed Bd.named
  have hnm := (name_of_methodNamed Bd.named Bd.method).1
  have X0 : Stand p l e ({ frames := 4, cells := 0, slots := 0, locals := 60 } : Room) s m #[(.ref a0r), (.ref ar), (.ref am), (.ref ap)] below meth c s₁ [] 0 0 := Stand.of_body Bd
  have e0 : s₁.heap = h0 := by rw [← hh, Bd.state]; rfl
  have N0 := Fr.nil n0
  have pre0 : ∀ t, Steps p.tables e below (s₁.setTop (mkF m 0 #[.val (.ref a0r), .val (.ref ar), .val (.ref am), .val (.ref ap)] [])) t → Steps p.tables e below (s₁.setTop (entryFrame m #[(.ref a0r), (.ref ar), (.ref am), (.ref ap)] 4)) t := fun t k => castTop (ef_rmR3 m a0r ar am ap) k
  have GL' := GL
  obtain ⟨GCS, GCP, GSR, GSE, GEE, GFE, GSU, GSS⟩ := GL'
  obtain ⟨_, _, ⟨T1, L1, k1, n1⟩, -, X1, ⟨Lc1, hQ1, l1, y1, z1⟩, st1⟩ := X0.specialBack hx (y := MN_8) rfl hown (mvT hZ (Wd hw 42 rfl)) (mvT hZ (Wd hw 43 rfl)) (mvT hZ (Wd hw 46 rfl)) (by decide) (backOf (W := 0) (rmRt l Z a0 hw [] cS aRS aEM aUS aSS (a0r) (am) (h0) n0 O0 GL E_a0r F_cause_a0r F_stackTrace_a0r F_suppressedExceptions_a0r F_detailMessage_a0r F_reason_a0r F_position_a0r g_a0r) hZ (Wd hw 46 rfl) (Wd hw 45 rfl) (by decide) (by decide)) (g := (mkF m 5 #[.val (.ref a0r), .val (.ref ar), .val (.ref am), .val (.ref ap)] [(.int (0 : Int32)), (.int (0 : Int32)), .null, (.ref am), (.ref a0r)])) rfl (by rw [hml]; rfl) (Steps.refl _) (a := a0r) (argsL := [(.ref am), .null, (.int (0 : Int32)), (.int (0 : Int32))]) (rest := []) (lenOf pdv4 rfl) rfl (by show 2 * 0 + _ ≤ _; exact Nat.le_of_eq rfl) (hb hby d7_5) (fun _ _ => ⟨rfl, e0, (by decide : 0 + 0 ≤ _), (by decide : 0 + 0 ≤ _)⟩)
  dsimp only [Pt.U, Pt.locs, Pt.cells, Pt.slots] at X1 l1 y1 z1 st1 hQ1
  subst l1 y1 z1
  obtain ⟨rfl, N1q, Kc1, P1_0, P1_1, P1_2, P1_3⟩ := hQ1
  have K1 : Keep h0 T1.heap [a0r] := (Keep.refl h0 [a0r]).trans Kc1 (allS (Or.inl (List.mem_of_getElem? (i := 0) rfl)) all0)
  have O1 := O0.keep Kc1 (allS g_a0r all0)
  have N1 := Fr.app N0 N1q
  obtain ⟨T2, h2, X2, e2, W2, st2⟩ := putF X1 hx hZ hown (host := "") (Or.inl (Wd hw 70 rfl)) Via.refl rfl P1_2 P1_0 (Or.inr ⟨(Wd hw 71 rfl), rfl, hnm⟩) (Wd hw 27 rfl) (ty := (.object "com/example/metaloom/metaloom/store/Rejection$Reason")) (by decide) rfl rfl (g := (mkF m 10 #[.val (.ref a0r), .val (.ref ar), .val (.ref am), .val (.ref ap)] [(.ref ar), (.ref a0r)])) rfl rfl (hb hby d7_10)
  have Fw2 := P1_2.same W2
  have K2 : Keep h0 h2 [a0r] := K1.wr W2 (Or.inl (List.mem_of_getElem? (i := 0) rfl))
  have O2 := O1.wr W2 g_a0r
  have N2 := Fr.snoc X2 N1 g_a0r
  obtain ⟨T3, h3, X3, e3, W3, st3⟩ := putF X2 hx hZ hown (host := "") (Or.inl (Wd hw 72 rfl)) Via.refl e2 (P1_3.other W2 (Or.inr (slot_ne (a0 := a0) (Or.inr (Wd hw 73 rfl)) (Or.inr (Wd hw 71 rfl)) (by decide) (t := (.object "java/util/OptionalInt")) (t' := (.object "com/example/metaloom/metaloom/store/Rejection$Reason")) (by decide) (by decide)))) (P1_0.wr W2) (Or.inr ⟨(Wd hw 73 rfl), rfl, hnm⟩) (Wd hw 27 rfl) (ty := (.object "java/util/OptionalInt")) (by decide) rfl rfl (g := (mkF m 15 #[.val (.ref a0r), .val (.ref ar), .val (.ref am), .val (.ref ap)] [(.ref ap), (.ref a0r)])) rfl rfl (hb hby d7_15)
  have Fw3 := (P1_3.other W2 (Or.inr (slot_ne (a0 := a0) (Or.inr (Wd hw 73 rfl)) (Or.inr (Wd hw 71 rfl)) (by decide) (t := (.object "java/util/OptionalInt")) (t' := (.object "com/example/metaloom/metaloom/store/Rejection$Reason")) (by decide) (by decide)))).same W3
  have K3 : Keep h0 h3 [a0r] := K2.wr W3 (Or.inl (List.mem_of_getElem? (i := 0) rfl))
  have O3 := O2.wr W3 g_a0r
  have N3 := Fr.snoc X3 N2 g_a0r
  obtain ⟨fs, hr, hrun, hended, hW, hsame⟩ := X3.leave (v := none) (fun _ => rfl)
  refine ⟨_, _, pre0 _ ?_, hrun, hended, _, _, rfl, ?_, ⟨_, rfl⟩, hW, hsame.mono (by decide) (by decide)⟩
  · show Steps p.tables e below (s₁.setTop (mkF m 0 #[.val (.ref a0r), .val (.ref ar), .val (.ref am), .val (.ref ap)] [])) _
    refine XS.aloadN X0.here hx rfl (hb hby d7_0) rfl rfl ?_
    show Steps p.tables e below (s₁.setTop (mkF m 1 #[.val (.ref a0r), .val (.ref ar), .val (.ref am), .val (.ref ap)] [(.ref a0r)])) _
    refine XS.aloadN X0.here hx rfl (hb hby d7_1) rfl rfl ?_
    show Steps p.tables e below (s₁.setTop (mkF m 2 #[.val (.ref a0r), .val (.ref ar), .val (.ref am), .val (.ref ap)] [(.ref am), (.ref a0r)])) _
    refine XS.aconstNull X0.here hx rfl (hb hby d7_2) ?_
    show Steps p.tables e below (s₁.setTop (mkF m 3 #[.val (.ref a0r), .val (.ref ar), .val (.ref am), .val (.ref ap)] [.null, (.ref am), (.ref a0r)])) _
    refine XS.iconst X0.here hx rfl (hb hby d7_3) ?_
    show Steps p.tables e below (s₁.setTop (mkF m 4 #[.val (.ref a0r), .val (.ref ar), .val (.ref am), .val (.ref ap)] [(.int (0 : Int32)), .null, (.ref am), (.ref a0r)])) _
    refine XS.iconst X0.here hx rfl (hb hby d7_4) ?_
    show Steps p.tables e below (s₁.setTop (mkF m 5 #[.val (.ref a0r), .val (.ref ar), .val (.ref am), .val (.ref ap)] [(.int (0 : Int32)), (.int (0 : Int32)), .null, (.ref am), (.ref a0r)])) _
    refine st1.trans ?_
    show Steps p.tables e below (T1.setTop (mkF m 8 #[.val (.ref a0r), .val (.ref ar), .val (.ref am), .val (.ref ap)] [])) _
    refine XS.aloadN X1.here hx rfl (hb hby d7_8) rfl rfl ?_
    show Steps p.tables e below (T1.setTop (mkF m 9 #[.val (.ref a0r), .val (.ref ar), .val (.ref am), .val (.ref ap)] [(.ref a0r)])) _
    refine XS.aloadN X1.here hx rfl (hb hby d7_9) rfl rfl ?_
    show Steps p.tables e below (T1.setTop (mkF m 10 #[.val (.ref a0r), .val (.ref ar), .val (.ref am), .val (.ref ap)] [(.ref ar), (.ref a0r)])) _
    refine st2 _ ?_
    show Steps p.tables e below (T2.setTop (mkF m 13 #[.val (.ref a0r), .val (.ref ar), .val (.ref am), .val (.ref ap)] [])) _
    refine XS.aloadN X2.here hx rfl (hb hby d7_13) rfl rfl ?_
    show Steps p.tables e below (T2.setTop (mkF m 14 #[.val (.ref a0r), .val (.ref ar), .val (.ref am), .val (.ref ap)] [(.ref a0r)])) _
    refine XS.aloadN X2.here hx rfl (hb hby d7_14) rfl rfl ?_
    show Steps p.tables e below (T2.setTop (mkF m 15 #[.val (.ref a0r), .val (.ref ar), .val (.ref am), .val (.ref ap)] [(.ref ap), (.ref a0r)])) _
    refine st3 _ ?_
    show Steps p.tables e below (T3.setTop (mkF m 18 #[.val (.ref a0r), .val (.ref ar), .val (.ref am), .val (.ref ap)] [])) _
    exact X3.returnOut hx Bd.returns (hb hby d7_18) hr
  · show Q_rmR3 n0 Z cS aRS aEM aUS aSS a0r ar am ap h0 _ T3.heap _
    rw [e3]
    exact ⟨rfl, N3, K3, ((P1_0.wr W2).wr W3), ((P1_1.other W2 (Or.inr (slot_ne (a0 := a0) (Or.inl (Wd hw 69 rfl)) (Or.inr (Wd hw 71 rfl)) (by decide) (t := (.object "java/lang/String")) (t' := (.object "com/example/metaloom/metaloom/store/Rejection$Reason")) (by decide) (by decide)))).other W3 (Or.inr (slot_ne (a0 := a0) (Or.inl (Wd hw 69 rfl)) (Or.inr (Wd hw 73 rfl)) (by decide) (t := (.object "java/lang/String")) (t' := (.object "java/util/OptionalInt")) (by decide) (by decide)))), (Fw2.other W3 (Or.inr (slot_ne (a0 := a0) (Or.inr (Wd hw 71 rfl)) (Or.inr (Wd hw 73 rfl)) (by decide) (t := (.object "com/example/metaloom/metaloom/store/Rejection$Reason")) (t' := (.object "java/util/OptionalInt")) (by decide) (by decide)))), Fw3⟩
theorem d5_0 : decode prog_21_method_2_code 0 = .ok (.aload_n 0, 1) := by decide +kernel
theorem d5_1 : decode prog_21_method_2_code 1 = .ok (.aload_n 1, 1) := by decide +kernel
theorem d5_2 : decode prog_21_method_2_code 2 = .ok (.aload_n 2, 1) := by decide +kernel
theorem d5_3 : decode prog_21_method_2_code 3 = .ok (.invokestatic 17, 3) := by decide +kernel
theorem pdv5 : parseMethodDescriptor "()Ljava/util/OptionalInt;" = some ⟨[], some (.object "java/util/OptionalInt")⟩ := by decide +kernel
theorem d5_6 : decode prog_21_method_2_code 6 = .ok (.invokespecial 23, 3) := by decide +kernel
theorem pdv6 : parseMethodDescriptor "(Lcom/example/metaloom/metaloom/store/Rejection$Reason;Ljava/lang/String;Ljava/util/OptionalInt;)V" = some ⟨[(.object "com/example/metaloom/metaloom/store/Rejection$Reason"), (.object "java/lang/String"), (.object "java/util/OptionalInt")], none⟩ := by decide +kernel
theorem d5_9 : decode prog_21_method_2_code 9 = .ok (.return_, 1) := by decide +kernel
abbrev MN_10 : MethodName := ⟨"com/example/metaloom/metaloom/store/Rejection", "<init>", "(Lcom/example/metaloom/metaloom/store/Rejection$Reason;Ljava/lang/String;)V"⟩
theorem ef_rmR2 (m : MethodId) (a0r : Addr) (ar : Addr) (am : Addr) : entryFrame m #[(.ref a0r), (.ref ar), (.ref am)] 3 = mkF m 0 #[.val (.ref a0r), .val (.ref ar), .val (.ref am)] [] := by first | (simp [entryFrame, mkF, argsToLocals, Value.category]; done) | rfl
def Q_rmR2 (n0 : Nat) (Z : State) (cS : Int32) (aRS : Addr) (aEM : Addr) (aUS : Addr) (aSS : Addr) (a0r : Addr) (ar : Addr) (am : Addr) (h0 : Heap) (v : Option Value) (h : Heap) (L : List Loc) : Prop := v = none ∧ Fr n0 L ∧ Keep h0 h [a0r] ∧ (Exa Z h a0r "com/example/metaloom/metaloom/store/Rejection") ∧ (Fld Z h a0r "java/lang/Throwable" "detailMessage" "Ljava/lang/String;" (.ref am)) ∧ (Fld Z h a0r "com/example/metaloom/metaloom/store/Rejection" "reason" "Lcom/example/metaloom/metaloom/store/Rejection$Reason;" (.ref ar)) ∧ (Fld Z h a0r "com/example/metaloom/metaloom/store/Rejection" "position" "Ljava/util/OptionalInt;" (.ref aEM))
set_option maxRecDepth 65536 in
set_option maxHeartbeats 40000000 in
theorem rmR2 (l : Launch) (Z : State) (a0 : Array Value) (hw : ∀ d ∈ tables_1, d.before a0 Z = true) (ws : List Jvm.Cond) (cS : Int32) (aRS : Addr) (aEM : Addr) (aUS : Addr) (aSS : Addr) (a0r : Addr) (ar : Addr) (am : Addr) (h0 : Heap) (n0 : Nat) (O0 : Old Z n0 h0) (GL : GF Z cS aRS aEM aUS aSS) (E_a0r : Exa Z h0 a0r "com/example/metaloom/metaloom/store/Rejection") (F_cause_a0r : Fld Z h0 a0r "java/lang/Throwable" "cause" "Ljava/lang/Throwable;" .null) (F_stackTrace_a0r : Fld Z h0 a0r "java/lang/Throwable" "stackTrace" "[Ljava/lang/StackTraceElement;" .null) (F_suppressedExceptions_a0r : Fld Z h0 a0r "java/lang/Throwable" "suppressedExceptions" "Ljava/util/List;" .null) (F_detailMessage_a0r : Fld Z h0 a0r "java/lang/Throwable" "detailMessage" "Ljava/lang/String;" .null) (F_reason_a0r : Fld Z h0 a0r "com/example/metaloom/metaloom/store/Rejection" "reason" "Lcom/example/metaloom/metaloom/store/Rejection$Reason;" .null) (F_position_a0r : Fld Z h0 a0r "com/example/metaloom/metaloom/store/Rejection" "position" "Ljava/util/OptionalInt;" .null) (g_a0r : n0 ≤ a0r) :
    MetFree l MN_10 (head1 (Jvm.Cond.code MN_10 prog_21_method_2_code 3 none :: ws) ({ frames := 5, cells := 0, slots := 0, locals := 75 } : Room)) (fun a U => a = #[(.ref a0r), (.ref ar), (.ref am)] ∧ Z.Warmed39 U.vm ∧ U.heap = h0) (fun _ _ _ _ _ => True) (fun _ U o U' => ∃ v L, o = .returned v ∧ Q_rmR2 n0 Z cS aRS aEM aUS aSS a0r ar am h0 v U'.heap L ∧ FrameEnd U o U' L ({ frames := 5, cells := 0, slots := 0, locals := 75 } : Room).cells ({ frames := 5, cells := 0, slots := 0, locals := 75 } : Room).slots) := by
  refine MetFree.of_bodySF (plainFor_of_name pnv6) hisR ?_
  intro p e s m args below meth c s₁ Bd hml0 hP hK
  obtain ⟨rfl, hZ, hh⟩ := hP
  have hx := Bd.exec
  have hby := Bd.bytes
  have hml : c.maxLocals = 3 := hml0
  have hown : s.vm.findClass "com/example/metaloom/metaloom/store/Rejection" = some m.cls := findClass_of_methodNamed Bd.named
  have hnm := (name_of_methodNamed Bd.named Bd.method).1
  have X0 : Stand p l e ({ frames := 5, cells := 0, slots := 0, locals := 75 } : Room) s m #[(.ref a0r), (.ref ar), (.ref am)] below meth c s₁ [] 0 0 := Stand.of_body Bd
  have e0 : s₁.heap = h0 := by rw [← hh, Bd.state]; rfl
  have N0 := Fr.nil n0
  have pre0 : ∀ t, Steps p.tables e below (s₁.setTop (mkF m 0 #[.val (.ref a0r), .val (.ref ar), .val (.ref am)] [])) t → Steps p.tables e below (s₁.setTop (entryFrame m #[(.ref a0r), (.ref ar), (.ref am)] 3)) t := fun t k => castTop (ef_rmR2 m a0r ar am) k
  have GL' := GL
  obtain ⟨GCS, GCP, GSR, GSE, GEE, GFE, GSU, GSS⟩ := GL'
  obtain ⟨_, _, ⟨T1, L1, k1, n1⟩, -, X1, ⟨Lc1, hQ1, l1, y1, z1⟩, st1⟩ := Jvm.LawKit.callS X0 hx (y := MN_5) hown (mvT hZ (Wd hw 34 rfl)) (mvT hZ (Wd hw 35 rfl)) (mvT hZ (Wd hw 36 rfl)) (mvT hZ (Wd hw 37 rfl)) (by decide) (backOf (W := 3) (rmEm l Z a0 hw [] cS aRS aEM aUS aSS  (h0) n0 O0 GL) hZ (Wd hw 37 rfl) (Wd hw 36 rfl) (by decide) (by decide)) (g := (mkF m 3 #[.val (.ref a0r), .val (.ref ar), .val (.ref am)] [(.ref am), (.ref ar), (.ref a0r)])) rfl (by rw [hml]; rfl) (argsL := []) (rest := [(.ref am), (.ref ar), (.ref a0r)]) (lenOf pdv5 rfl) rfl (by show 2 * 0 + _ ≤ _; exact Nat.le_of_eq rfl) (hb hby d5_3) (fun _ _ => ⟨rfl, e0, (by decide : 0 + 0 ≤ _), (by decide : 0 + 0 ≤ _)⟩)
  dsimp only [Pt.U, Pt.locs, Pt.cells, Pt.slots] at X1 l1 y1 z1 st1 hQ1
  subst l1 y1 z1
  obtain ⟨rfl, N1q, e1⟩ := hQ1
  have N1 := Fr.app N0 N1q
  obtain ⟨_, _, ⟨T2, L2, k2, n2⟩, -, X2, ⟨Lc2, hQ2, l2, y2, z2⟩, st2⟩ := X1.specialBack hx (y := MN_9) rfl hown (mvT hZ (Wd hw 39 rfl)) (mvT hZ (Wd hw 40 rfl)) (mvT hZ (Wd hw 41 rfl)) (by decide) (backOf (W := 0) (rmR3 l Z a0 hw [] cS aRS aEM aUS aSS (a0r) (ar) (am) (aEM) (h0) n0 O0 GL E_a0r F_cause_a0r F_stackTrace_a0r F_suppressedExceptions_a0r F_detailMessage_a0r F_reason_a0r F_position_a0r g_a0r) hZ (Wd hw 41 rfl) (Wd hw 24 rfl) (by decide) (by decide)) (g := (mkF m 6 #[.val (.ref a0r), .val (.ref ar), .val (.ref am)] [(.ref aEM), (.ref am), (.ref ar), (.ref a0r)])) rfl (by rw [hml]; rfl) (Steps.refl _) (a := a0r) (argsL := [(.ref ar), (.ref am), (.ref aEM)]) (rest := []) (lenOf pdv6 rfl) rfl (by show 2 * 0 + _ ≤ _; exact Nat.le_of_eq rfl) (hb hby d5_6) (fun _ _ => ⟨rfl, e1, (by decide : 0 + 0 ≤ _), (by decide : 0 + 0 ≤ _)⟩)
  dsimp only [Pt.U, Pt.locs, Pt.cells, Pt.slots] at X2 l2 y2 z2 st2 hQ2
  subst l2 y2 z2
  obtain ⟨rfl, N2q, Kc2, P2_0, P2_1, P2_2, P2_3⟩ := hQ2
  have K2 : Keep h0 T2.heap [a0r] := (Keep.refl h0 [a0r]).trans Kc2 (allS (Or.inl (List.mem_of_getElem? (i := 0) rfl)) all0)
  have O2 := O0.keep Kc2 (allS g_a0r all0)
  have N2 := Fr.app N1 N2q
  obtain ⟨fs, hr, hrun, hended, hW, hsame⟩ := X2.leave (v := none) (fun _ => rfl)
  refine ⟨_, _, pre0 _ ?_, hrun, hended, _, _, rfl, ?_, ⟨_, rfl⟩, hW, hsame.mono (by decide) (by decide)⟩
  · show Steps p.tables e below (s₁.setTop (mkF m 0 #[.val (.ref a0r), .val (.ref ar), .val (.ref am)] [])) _
    refine XS.aloadN X0.here hx rfl (hb hby d5_0) rfl rfl ?_
    show Steps p.tables e below (s₁.setTop (mkF m 1 #[.val (.ref a0r), .val (.ref ar), .val (.ref am)] [(.ref a0r)])) _
    refine XS.aloadN X0.here hx rfl (hb hby d5_1) rfl rfl ?_
    show Steps p.tables e below (s₁.setTop (mkF m 2 #[.val (.ref a0r), .val (.ref ar), .val (.ref am)] [(.ref ar), (.ref a0r)])) _
    refine XS.aloadN X0.here hx rfl (hb hby d5_2) rfl rfl ?_
    show Steps p.tables e below (s₁.setTop (mkF m 3 #[.val (.ref a0r), .val (.ref ar), .val (.ref am)] [(.ref am), (.ref ar), (.ref a0r)])) _
    refine st1 _ ?_
    show Steps p.tables e below (T1.setTop (mkF m 6 #[.val (.ref a0r), .val (.ref ar), .val (.ref am)] [(.ref aEM), (.ref am), (.ref ar), (.ref a0r)])) _
    refine st2.trans ?_
    show Steps p.tables e below (T2.setTop (mkF m 9 #[.val (.ref a0r), .val (.ref ar), .val (.ref am)] [])) _
    exact X2.returnOut hx Bd.returns (hb hby d5_9) hr
  · show Q_rmR2 n0 Z cS aRS aEM aUS aSS a0r ar am h0 _ T2.heap _
    exact ⟨rfl, N2, K2, P2_0, P2_1, P2_2, P2_3⟩
theorem d4_0 : decode prog_21_method_6_code 0 = .ok (.new 8, 3) := by decide +kernel
theorem d4_3 : decode prog_21_method_6_code 3 = .ok (.dup, 1) := by decide +kernel
theorem d4_4 : decode prog_21_method_6_code 4 = .ok (.getstatic 41, 3) := by decide +kernel
theorem d4_7 : decode prog_21_method_6_code 7 = .ok (.aload_n 0, 1) := by decide +kernel
theorem d4_8 : decode prog_21_method_6_code 8 = .ok (.invokespecial 31, 3) := by decide +kernel
theorem pdv7 : parseMethodDescriptor "(Lcom/example/metaloom/metaloom/store/Rejection$Reason;Ljava/lang/String;)V" = some ⟨[(.object "com/example/metaloom/metaloom/store/Rejection$Reason"), (.object "java/lang/String")], none⟩ := by decide +kernel
theorem d4_11 : decode prog_21_method_6_code 11 = .ok (.areturn, 1) := by decide +kernel
abbrev MN_11 : MethodName := ⟨"com/example/metaloom/metaloom/store/Rejection", "conflict", "(Ljava/lang/String;)Lcom/example/metaloom/metaloom/store/Rejection;"⟩
theorem ef_rmMk (m : MethodId) (am : Addr) : entryFrame m #[(.ref am)] 1 = mkF m 0 #[.val (.ref am)] [] := by first | (simp [entryFrame, mkF, argsToLocals, Value.category]; done) | rfl
def Q_rmMk (n0 : Nat) (Z : State) (cS : Int32) (aRS : Addr) (aEM : Addr) (aUS : Addr) (aSS : Addr) (am : Addr) (h0 : Heap) (v : Option Value) (h : Heap) (L : List Loc) : Prop := ∃ b : Addr, v = some (.ref b) ∧ Fr n0 L ∧ Keep h0 h [] ∧ (h0.size ≤ b) ∧ (Exa Z h b "com/example/metaloom/metaloom/store/Rejection") ∧ (Fld Z h b "java/lang/Throwable" "detailMessage" "Ljava/lang/String;" (.ref am)) ∧ (Fld Z h b "com/example/metaloom/metaloom/store/Rejection" "reason" "Lcom/example/metaloom/metaloom/store/Rejection$Reason;" (.ref aRS)) ∧ (Fld Z h b "com/example/metaloom/metaloom/store/Rejection" "position" "Ljava/util/OptionalInt;" (.ref aEM))
set_option maxRecDepth 65536 in
set_option maxHeartbeats 40000000 in
theorem rmMk (l : Launch) (Z : State) (a0 : Array Value) (hw : ∀ d ∈ tables_1, d.before a0 Z = true) (ws : List Jvm.Cond) (cS : Int32) (aRS : Addr) (aEM : Addr) (aUS : Addr) (aSS : Addr) (am : Addr) (h0 : Heap) (n0 : Nat) (O0 : Old Z n0 h0) (GL : GF Z cS aRS aEM aUS aSS) :
    MetFree l MN_11 (head1 (Jvm.Cond.code MN_11 prog_21_method_6_code 1 (some (.object "com/example/metaloom/metaloom/store/Rejection")) :: ws) ({ frames := 6, cells := 1, slots := 8, locals := 90 } : Room)) (fun a U => a = #[(.ref am)] ∧ Z.Warmed39 U.vm ∧ U.heap = h0) (fun _ _ _ _ _ => True) (fun _ U o U' => ∃ v L, o = .returned v ∧ Q_rmMk n0 Z cS aRS aEM aUS aSS am h0 v U'.heap L ∧ FrameEnd U o U' L ({ frames := 6, cells := 1, slots := 8, locals := 90 } : Room).cells ({ frames := 6, cells := 1, slots := 8, locals := 90 } : Room).slots) := by
  refine MetFree.of_bodySF (plainFor_of_name pnv6) hisR ?_
  intro p e s m args below meth c s₁ Bd hml0 hP hK
  obtain ⟨rfl, hZ, hh⟩ := hP
  have hx := Bd.exec
  have hby := Bd.bytes
  have hml : c.maxLocals = 1 := hml0
  have hown : s.vm.findClass "com/example/metaloom/metaloom/store/Rejection" = some m.cls := findClass_of_methodNamed Bd.named
  have hnm := (name_of_methodNamed Bd.named Bd.method).1
  have X0 : Stand p l e ({ frames := 6, cells := 1, slots := 8, locals := 90 } : Room) s m #[(.ref am)] below meth c s₁ [] 0 0 := Stand.of_body Bd
  have e0 : s₁.heap = h0 := by rw [← hh, Bd.state]; rfl
  have N0 := Fr.nil n0
  have pre0 : ∀ t, Steps p.tables e below (s₁.setTop (mkF m 0 #[.val (.ref am)] [])) t → Steps p.tables e below (s₁.setTop (entryFrame m #[(.ref am)] 1)) t := fun t k => castTop (ef_rmMk m am) k
  have GL' := GL
  obtain ⟨GCS, GCP, GSR, GSE, GEE, GFE, GSU, GSS⟩ := GL'
  obtain ⟨T1, h1, X1, e1, E1, A1, D1, -, st1⟩ := newO X0 hx hZ hown (Wd hw 26 rfl) (Wd hw 27 rfl) (Wd hw 24 rfl) e0 (g := (mkF m 0 #[.val (.ref am)] [])) rfl (hb hby d4_0) (by decide) (by decide)
  obtain ⟨b1, g1⟩ : ∃ z, z = h0.size := ⟨_, rfl⟩
  rw [← g1] at A1 D1 st1
  have g_b1 : n0 ≤ b1 := Nat.le_trans (own_sz O0) (Nat.le_of_eq g1.symm)
  have sz_b1 : h0.size ≤ b1 := Nat.le_trans (Keep.refl h0 []).1 (Nat.le_of_eq g1.symm)
  have K1 : Keep h0 h1 [] := (Keep.refl h0 []).ext E1
  have O1 := O0.ext E1
  have F_cause_b1 : Fld Z h1 b1 "java/lang/Throwable" "cause" "Ljava/lang/Throwable;" .null := D1 (Or.inl (Wd hw 61 rfl)) (ty := (.object "java/lang/Throwable")) (by decide)
  have F_stackTrace_b1 : Fld Z h1 b1 "java/lang/Throwable" "stackTrace" "[Ljava/lang/StackTraceElement;" .null := D1 (Or.inl (Wd hw 64 rfl)) (ty := (.array (.object "java/lang/StackTraceElement"))) (by decide)
  have F_suppressedExceptions_b1 : Fld Z h1 b1 "java/lang/Throwable" "suppressedExceptions" "Ljava/util/List;" .null := D1 (Or.inl (Wd hw 67 rfl)) (ty := (.object "java/util/List")) (by decide)
  have F_detailMessage_b1 : Fld Z h1 b1 "java/lang/Throwable" "detailMessage" "Ljava/lang/String;" .null := D1 (Or.inl (Wd hw 69 rfl)) (ty := (.object "java/lang/String")) (by decide)
  have F_reason_b1 : Fld Z h1 b1 "com/example/metaloom/metaloom/store/Rejection" "reason" "Lcom/example/metaloom/metaloom/store/Rejection$Reason;" .null := D1 (Or.inr (Wd hw 71 rfl)) (ty := (.object "com/example/metaloom/metaloom/store/Rejection$Reason")) (by decide)
  have F_position_b1 : Fld Z h1 b1 "com/example/metaloom/metaloom/store/Rejection" "position" "Ljava/util/OptionalInt;" .null := D1 (Or.inr (Wd hw 73 rfl)) (ty := (.object "java/util/OptionalInt")) (by decide)
  obtain ⟨T2, X2, e2, st2⟩ := getS2 X1 hx hZ hown (host := "") (Or.inl (Wd hw 28 rfl)) Via.refl e1 (GSR.ext O1.2) (g := (mkF m 4 #[.val (.ref am)] [(.ref b1), (.ref b1)])) rfl (hb hby d4_4)
  obtain ⟨_, _, ⟨T3, L3, k3, n3⟩, -, X3, ⟨Lc3, hQ3, l3, y3, z3⟩, st3⟩ := X2.specialBack hx (y := MN_10) rfl hown (mvT hZ (Wd hw 31 rfl)) (mvT hZ (Wd hw 32 rfl)) (mvT hZ (Wd hw 33 rfl)) (by decide) (backOf (W := 1) (rmR2 l Z a0 hw [] cS aRS aEM aUS aSS (b1) (aRS) (am) (h1) n0 O1 GL A1 F_cause_b1 F_stackTrace_b1 F_suppressedExceptions_b1 F_detailMessage_b1 F_reason_b1 F_position_b1 g_b1) hZ (Wd hw 33 rfl) (Wd hw 24 rfl) (by decide) (by decide)) (g := (mkF m 8 #[.val (.ref am)] [(.ref am), (.ref aRS), (.ref b1), (.ref b1)])) rfl (by rw [hml]; rfl) (Steps.refl _) (a := b1) (argsL := [(.ref aRS), (.ref am)]) (rest := [(.ref b1)]) (lenOf pdv7 rfl) rfl (by show 2 * 0 + _ ≤ _; exact Nat.le_of_eq rfl) (hb hby d4_8) (fun _ _ => ⟨rfl, e2, (by decide : 1 + 0 ≤ _), (by decide : 8 + 0 ≤ _)⟩)
  dsimp only [Pt.U, Pt.locs, Pt.cells, Pt.slots] at X3 l3 y3 z3 st3 hQ3
  subst l3 y3 z3
  obtain ⟨rfl, N3q, Kc3, P3_0, P3_1, P3_2, P3_3⟩ := hQ3
  have K3 : Keep h0 T3.heap [] := K1.trans Kc3 (allS (Or.inr sz_b1) all0)
  have O3 := O1.keep Kc3 (allS g_b1 all0)
  have N3 := Fr.app N0 N3q
  obtain ⟨fs, hr, hrun, hended, hW, hsame⟩ := X3.leave (v := some (.ref b1)) (fun h => by rw [Bd.returns] at h; cases h)
  refine ⟨_, _, pre0 _ ?_, hrun, hended, _, _, rfl, ?_, ⟨_, rfl⟩, hW, hsame.mono (by decide) (by decide)⟩
  · show Steps p.tables e below (s₁.setTop (mkF m 0 #[.val (.ref am)] [])) _
    refine st1 _ ?_
    show Steps p.tables e below (T1.setTop (mkF m 3 #[.val (.ref am)] [(.ref b1)])) _
    refine XS.dup X1.here hx rfl (hb hby d4_3) rfl rfl ?_
    show Steps p.tables e below (T1.setTop (mkF m 4 #[.val (.ref am)] [(.ref b1), (.ref b1)])) _
    refine st2 _ ?_
    show Steps p.tables e below (T2.setTop (mkF m 7 #[.val (.ref am)] [(.ref aRS), (.ref b1), (.ref b1)])) _
    refine XS.aloadN X2.here hx rfl (hb hby d4_7) rfl rfl ?_
    show Steps p.tables e below (T2.setTop (mkF m 8 #[.val (.ref am)] [(.ref am), (.ref aRS), (.ref b1), (.ref b1)])) _
    refine st3.trans ?_
    show Steps p.tables e below (T3.setTop (mkF m 11 #[.val (.ref am)] [(.ref b1)])) _
    jvm_step X3.here [X3.here.top, hx, (hb hby d4_11), X3.method', Bd.returns, Value.isRef, FieldType.isReference]
    first | (intro acts; rw [hr _ acts rfl rfl rfl]) | rw [hr _ _ rfl rfl rfl]
    exact Steps.refl _
  · show Q_rmMk n0 Z cS aRS aEM aUS aSS am h0 _ T3.heap _
    exact ⟨b1, rfl, N3, K3, sz_b1, P3_0, P3_1, P3_2, P3_3⟩
theorem d11_0 : decode prog_21_method_7_code 0 = .ok (.aload_n 0, 1) := by decide +kernel
theorem d11_1 : decode prog_21_method_7_code 1 = .ok (.getfield 7, 3) := by decide +kernel
theorem d11_4 : decode prog_21_method_7_code 4 = .ok (.areturn, 1) := by decide +kernel
abbrev MN_12 : MethodName := ⟨"com/example/metaloom/metaloom/store/Rejection", "reason", "()Lcom/example/metaloom/metaloom/store/Rejection$Reason;"⟩
theorem ef_rmGr (m : MethodId) (a0g : Addr) : entryFrame m #[(.ref a0g)] 1 = mkF m 0 #[.val (.ref a0g)] [] := by first | (simp [entryFrame, mkF, argsToLocals, Value.category]; done) | rfl
def Q_rmGr (n0 : Nat) (Z : State) (cS : Int32) (aRS : Addr) (aEM : Addr) (aUS : Addr) (aSS : Addr) (a0g : Addr) (gv : Addr) (h0 : Heap) (v : Option Value) (h : Heap) (L : List Loc) : Prop := v = some (.ref gv) ∧ Fr n0 L ∧ h = h0
set_option maxRecDepth 65536 in
set_option maxHeartbeats 40000000 in
theorem rmGr (l : Launch) (Z : State) (a0 : Array Value) (hw : ∀ d ∈ tables_1, d.before a0 Z = true) (ws : List Jvm.Cond) (cS : Int32) (aRS : Addr) (aEM : Addr) (aUS : Addr) (aSS : Addr) (a0g : Addr) (gv : Addr) (h0 : Heap) (n0 : Nat) (O0 : Old Z n0 h0) (GL : GF Z cS aRS aEM aUS aSS) (F_reason_a0g : Fld Z h0 a0g "com/example/metaloom/metaloom/store/Rejection" "reason" "Lcom/example/metaloom/metaloom/store/Rejection$Reason;" (.ref gv)) :
    MetFree l MN_12 (head1 (Jvm.Cond.code MN_12 prog_21_method_7_code 1 (some (.object "com/example/metaloom/metaloom/store/Rejection$Reason")) :: ws) ({ frames := 0, cells := 0, slots := 0, locals := 0 } : Room)) (fun a U => a = #[(.ref a0g)] ∧ Z.Warmed39 U.vm ∧ U.heap = h0) (fun _ _ _ _ _ => True) (fun _ U o U' => ∃ v L, o = .returned v ∧ Q_rmGr n0 Z cS aRS aEM aUS aSS a0g gv h0 v U'.heap L ∧ FrameEnd U o U' L ({ frames := 0, cells := 0, slots := 0, locals := 0 } : Room).cells ({ frames := 0, cells := 0, slots := 0, locals := 0 } : Room).slots) := by
  refine MetFree.of_bodySF (plainFor_of_name pnv6) hisR ?_
  intro p e s m args below meth c s₁ Bd hml0 hP hK
  obtain ⟨rfl, hZ, hh⟩ := hP
  have hx := Bd.exec
  have hby := Bd.bytes
  have hml : c.maxLocals = 1 := hml0
  have hown : s.vm.findClass "com/example/metaloom/metaloom/store/Rejection" = some m.cls := findClass_of_methodNamed Bd.named
  have hnm := (name_of_methodNamed Bd.named Bd.method).1
  have X0 : Stand p l e ({ frames := 0, cells := 0, slots := 0, locals := 0 } : Room) s m #[(.ref a0g)] below meth c s₁ [] 0 0 := Stand.of_body Bd
  have e0 : s₁.heap = h0 := by rw [← hh, Bd.state]; rfl
  have N0 := Fr.nil n0
  have pre0 : ∀ t, Steps p.tables e below (s₁.setTop (mkF m 0 #[.val (.ref a0g)] [])) t → Steps p.tables e below (s₁.setTop (entryFrame m #[(.ref a0g)] 1)) t := fun t k => castTop (ef_rmGr m a0g) k
  have GL' := GL
  obtain ⟨GCS, GCP, GSR, GSE, GEE, GFE, GSU, GSS⟩ := GL'
  obtain ⟨T1, X1, e1, st1⟩ := getF X0 hx hZ hown (host := "") (Or.inl (Wd hw 70 rfl)) Via.refl e0 F_reason_a0g (g := (mkF m 1 #[.val (.ref a0g)] [(.ref a0g)])) rfl rfl (hb hby d11_1)
  obtain ⟨fs, hr, hrun, hended, hW, hsame⟩ := X1.leave (v := some (.ref gv)) (fun h => by rw [Bd.returns] at h; cases h)
  refine ⟨_, _, pre0 _ ?_, hrun, hended, _, _, rfl, ?_, ⟨_, rfl⟩, hW, hsame.mono (by decide) (by decide)⟩
  · show Steps p.tables e below (s₁.setTop (mkF m 0 #[.val (.ref a0g)] [])) _
    refine XS.aloadN X0.here hx rfl (hb hby d11_0) rfl rfl ?_
    show Steps p.tables e below (s₁.setTop (mkF m 1 #[.val (.ref a0g)] [(.ref a0g)])) _
    refine st1 _ ?_
    show Steps p.tables e below (T1.setTop (mkF m 4 #[.val (.ref a0g)] [(.ref gv)])) _
    jvm_step X1.here [X1.here.top, hx, (hb hby d11_4), X1.method', Bd.returns, Value.isRef, FieldType.isReference]
    first | (intro acts; rw [hr _ acts rfl rfl rfl]) | rw [hr _ _ rfl rfl rfl]
    exact Steps.refl _
  · show Q_rmGr n0 Z cS aRS aEM aUS aSS a0g gv h0 _ T1.heap _
    rw [e1]
    exact ⟨rfl, N0, rfl⟩
theorem d14_0 : decode prog_21_method_8_code 0 = .ok (.aload_n 0, 1) := by decide +kernel
theorem d14_1 : decode prog_21_method_8_code 1 = .ok (.getfield 13, 3) := by decide +kernel
theorem d14_4 : decode prog_21_method_8_code 4 = .ok (.areturn, 1) := by decide +kernel
abbrev MN_13 : MethodName := ⟨"com/example/metaloom/metaloom/store/Rejection", "position", "()Ljava/util/OptionalInt;"⟩
def Q_rmGp (n0 : Nat) (Z : State) (cS : Int32) (aRS : Addr) (aEM : Addr) (aUS : Addr) (aSS : Addr) (a0g : Addr) (gv : Addr) (h0 : Heap) (v : Option Value) (h : Heap) (L : List Loc) : Prop := v = some (.ref gv) ∧ Fr n0 L ∧ h = h0
set_option maxRecDepth 65536 in
set_option maxHeartbeats 40000000 in
theorem rmGp (l : Launch) (Z : State) (a0 : Array Value) (hw : ∀ d ∈ tables_1, d.before a0 Z = true) (ws : List Jvm.Cond) (cS : Int32) (aRS : Addr) (aEM : Addr) (aUS : Addr) (aSS : Addr) (a0g : Addr) (gv : Addr) (h0 : Heap) (n0 : Nat) (O0 : Old Z n0 h0) (GL : GF Z cS aRS aEM aUS aSS) (F_position_a0g : Fld Z h0 a0g "com/example/metaloom/metaloom/store/Rejection" "position" "Ljava/util/OptionalInt;" (.ref gv)) :
    MetFree l MN_13 (head1 (Jvm.Cond.code MN_13 prog_21_method_8_code 1 (some (.object "java/util/OptionalInt")) :: ws) ({ frames := 0, cells := 0, slots := 0, locals := 0 } : Room)) (fun a U => a = #[(.ref a0g)] ∧ Z.Warmed39 U.vm ∧ U.heap = h0) (fun _ _ _ _ _ => True) (fun _ U o U' => ∃ v L, o = .returned v ∧ Q_rmGp n0 Z cS aRS aEM aUS aSS a0g gv h0 v U'.heap L ∧ FrameEnd U o U' L ({ frames := 0, cells := 0, slots := 0, locals := 0 } : Room).cells ({ frames := 0, cells := 0, slots := 0, locals := 0 } : Room).slots) := by
  refine MetFree.of_bodySF (plainFor_of_name pnv6) hisR ?_
  intro p e s m args below meth c s₁ Bd hml0 hP hK
  obtain ⟨rfl, hZ, hh⟩ := hP
  have hx := Bd.exec
  have hby := Bd.bytes
  have hml : c.maxLocals = 1 := hml0
  have hown : s.vm.findClass "com/example/metaloom/metaloom/store/Rejection" = some m.cls := findClass_of_methodNamed Bd.named
  have hnm := (name_of_methodNamed Bd.named Bd.method).1
  have X0 : Stand p l e ({ frames := 0, cells := 0, slots := 0, locals := 0 } : Room) s m #[(.ref a0g)] below meth c s₁ [] 0 0 := Stand.of_body Bd
  have e0 : s₁.heap = h0 := by rw [← hh, Bd.state]; rfl
  have N0 := Fr.nil n0
  have pre0 : ∀ t, Steps p.tables e below (s₁.setTop (mkF m 0 #[.val (.ref a0g)] [])) t → Steps p.tables e below (s₁.setTop (entryFrame m #[(.ref a0g)] 1)) t := fun t k => castTop (ef_rmGr m a0g) k
  have GL' := GL
  obtain ⟨GCS, GCP, GSR, GSE, GEE, GFE, GSU, GSS⟩ := GL'
  obtain ⟨T1, X1, e1, st1⟩ := getF X0 hx hZ hown (host := "") (Or.inl (Wd hw 72 rfl)) Via.refl e0 F_position_a0g (g := (mkF m 1 #[.val (.ref a0g)] [(.ref a0g)])) rfl rfl (hb hby d14_1)
  obtain ⟨fs, hr, hrun, hended, hW, hsame⟩ := X1.leave (v := some (.ref gv)) (fun h => by rw [Bd.returns] at h; cases h)
  refine ⟨_, _, pre0 _ ?_, hrun, hended, _, _, rfl, ?_, ⟨_, rfl⟩, hW, hsame.mono (by decide) (by decide)⟩
  · show Steps p.tables e below (s₁.setTop (mkF m 0 #[.val (.ref a0g)] [])) _
    refine XS.aloadN X0.here hx rfl (hb hby d14_0) rfl rfl ?_
    show Steps p.tables e below (s₁.setTop (mkF m 1 #[.val (.ref a0g)] [(.ref a0g)])) _
    refine st1 _ ?_
    show Steps p.tables e below (T1.setTop (mkF m 4 #[.val (.ref a0g)] [(.ref gv)])) _
    jvm_step X1.here [X1.here.top, hx, (hb hby d14_4), X1.method', Bd.returns, Value.isRef, FieldType.isReference]
    first | (intro acts; rw [hr _ acts rfl rfl rfl]) | rw [hr _ _ rfl rfl rfl]
    exact Steps.refl _
  · show Q_rmGp n0 Z cS aRS aEM aUS aSS a0g gv h0 _ T1.heap _
    rw [e1]
    exact ⟨rfl, N0, rfl⟩
theorem d12_0 : decode jdk_78_method_6_code 0 = .ok (.aload_n 0, 1) := by decide +kernel
theorem d12_1 : decode jdk_78_method_6_code 1 = .ok (.getfield 31, 3) := by decide +kernel
theorem d12_4 : decode jdk_78_method_6_code 4 = .ok (.areturn, 1) := by decide +kernel
abbrev MN_14 : MethodName := ⟨"java/lang/Throwable", "getMessage", "()Ljava/lang/String;"⟩
def Q_rmGm (n0 : Nat) (Z : State) (cS : Int32) (aRS : Addr) (aEM : Addr) (aUS : Addr) (aSS : Addr) (a0g : Addr) (gv : Addr) (h0 : Heap) (v : Option Value) (h : Heap) (L : List Loc) : Prop := v = some (.ref gv) ∧ Fr n0 L ∧ h = h0
set_option maxRecDepth 65536 in
set_option maxHeartbeats 40000000 in
theorem rmGm (l : Launch) (Z : State) (a0 : Array Value) (hw : ∀ d ∈ tables_1, d.before a0 Z = true) (ws : List Jvm.Cond) (cS : Int32) (aRS : Addr) (aEM : Addr) (aUS : Addr) (aSS : Addr) (a0g : Addr) (gv : Addr) (h0 : Heap) (n0 : Nat) (O0 : Old Z n0 h0) (GL : GF Z cS aRS aEM aUS aSS) (F_detailMessage_a0g : Fld Z h0 a0g "java/lang/Throwable" "detailMessage" "Ljava/lang/String;" (.ref gv)) :
    MetFree l MN_14 (head1 (Jvm.Cond.code MN_14 jdk_78_method_6_code 1 (some (.object "java/lang/String")) :: ws) ({ frames := 0, cells := 0, slots := 0, locals := 0 } : Room)) (fun a U => a = #[(.ref a0g)] ∧ Z.Warmed39 U.vm ∧ U.heap = h0) (fun _ _ _ _ _ => True) (fun _ U o U' => ∃ v L, o = .returned v ∧ Q_rmGm n0 Z cS aRS aEM aUS aSS a0g gv h0 v U'.heap L ∧ FrameEnd U o U' L ({ frames := 0, cells := 0, slots := 0, locals := 0 } : Room).cells ({ frames := 0, cells := 0, slots := 0, locals := 0 } : Room).slots) := by
  refine MetFree.of_bodySF (plainFor_of_name pnv3) hisR ?_
  intro p e s m args below meth c s₁ Bd hml0 hP hK
  obtain ⟨rfl, hZ, hh⟩ := hP
  have hx := Bd.exec
  have hby := Bd.bytes
  have hml : c.maxLocals = 1 := hml0
  have hown : s.vm.findClass "java/lang/Throwable" = some m.cls := findClass_of_methodNamed Bd.named
  have hnm := (name_of_methodNamed Bd.named Bd.method).1
  have X0 : Stand p l e ({ frames := 0, cells := 0, slots := 0, locals := 0 } : Room) s m #[(.ref a0g)] below meth c s₁ [] 0 0 := Stand.of_body Bd
  have e0 : s₁.heap = h0 := by rw [← hh, Bd.state]; rfl
  have N0 := Fr.nil n0
  have pre0 : ∀ t, Steps p.tables e below (s₁.setTop (mkF m 0 #[.val (.ref a0g)] [])) t → Steps p.tables e below (s₁.setTop (entryFrame m #[(.ref a0g)] 1)) t := fun t k => castTop (ef_rmGr m a0g) k
  have GL' := GL
  obtain ⟨GCS, GCP, GSR, GSE, GEE, GFE, GSU, GSS⟩ := GL'
  obtain ⟨T1, X1, e1, st1⟩ := getF X0 hx hZ hown (host := "") (Or.inl (Wd hw 68 rfl)) Via.refl e0 F_detailMessage_a0g (g := (mkF m 1 #[.val (.ref a0g)] [(.ref a0g)])) rfl rfl (hb hby d12_1)
  obtain ⟨fs, hr, hrun, hended, hW, hsame⟩ := X1.leave (v := some (.ref gv)) (fun h => by rw [Bd.returns] at h; cases h)
  refine ⟨_, _, pre0 _ ?_, hrun, hended, _, _, rfl, ?_, ⟨_, rfl⟩, hW, hsame.mono (by decide) (by decide)⟩
  · show Steps p.tables e below (s₁.setTop (mkF m 0 #[.val (.ref a0g)] [])) _
    refine XS.aloadN X0.here hx rfl (hb hby d12_0) rfl rfl ?_
    show Steps p.tables e below (s₁.setTop (mkF m 1 #[.val (.ref a0g)] [(.ref a0g)])) _
    refine st1 _ ?_
    show Steps p.tables e below (T1.setTop (mkF m 4 #[.val (.ref a0g)] [(.ref gv)])) _
    jvm_step X1.here [X1.here.top, hx, (hb hby d12_4), X1.method', Bd.returns, Value.isRef, FieldType.isReference]
    first | (intro acts; rw [hr _ acts rfl rfl rfl]) | rw [hr _ _ rfl rfl rfl]
    exact Steps.refl _
  · show Q_rmGm n0 Z cS aRS aEM aUS aSS a0g gv h0 _ T1.heap _
    rw [e1]
    exact ⟨rfl, N0, rfl⟩
theorem d15_0 : decode jdk_2649_method_6_code 0 = .ok (.aload_n 0, 1) := by decide +kernel
theorem d15_1 : decode jdk_2649_method_6_code 1 = .ok (.getfield 7, 3) := by decide +kernel
theorem d15_4 : decode jdk_2649_method_6_code 4 = .ok (.ireturn, 1) := by decide +kernel
abbrev MN_15 : MethodName := ⟨"java/util/OptionalInt", "isPresent", "()Z"⟩
def Q_rmIp (n0 : Nat) (Z : State) (cS : Int32) (aRS : Addr) (aEM : Addr) (aUS : Addr) (aSS : Addr) (a0g : Addr) (h0 : Heap) (v : Option Value) (h : Heap) (L : List Loc) : Prop := v = some (.int (0 : Int32)) ∧ Fr n0 L ∧ h = h0
set_option maxRecDepth 65536 in
set_option maxHeartbeats 40000000 in
theorem rmIp (l : Launch) (Z : State) (a0 : Array Value) (hw : ∀ d ∈ tables_1, d.before a0 Z = true) (ws : List Jvm.Cond) (cS : Int32) (aRS : Addr) (aEM : Addr) (aUS : Addr) (aSS : Addr) (a0g : Addr) (h0 : Heap) (n0 : Nat) (O0 : Old Z n0 h0) (GL : GF Z cS aRS aEM aUS aSS) (F_isPresent_a0g : Fld Z h0 a0g "java/util/OptionalInt" "isPresent" "Z" (.int (0 : Int32))) :
    MetFree l MN_15 (head1 (Jvm.Cond.code MN_15 jdk_2649_method_6_code 1 (some .boolean) :: ws) ({ frames := 0, cells := 0, slots := 0, locals := 0 } : Room)) (fun a U => a = #[(.ref a0g)] ∧ Z.Warmed39 U.vm ∧ U.heap = h0) (fun _ _ _ _ _ => True) (fun _ U o U' => ∃ v L, o = .returned v ∧ Q_rmIp n0 Z cS aRS aEM aUS aSS a0g h0 v U'.heap L ∧ FrameEnd U o U' L ({ frames := 0, cells := 0, slots := 0, locals := 0 } : Room).cells ({ frames := 0, cells := 0, slots := 0, locals := 0 } : Room).slots) := by
  refine MetFree.of_bodySF (plainFor_of_name pnv2) hisR ?_
  intro p e s m args below meth c s₁ Bd hml0 hP hK
  obtain ⟨rfl, hZ, hh⟩ := hP
  have hx := Bd.exec
  have hby := Bd.bytes
  have hml : c.maxLocals = 1 := hml0
  have hown : s.vm.findClass "java/util/OptionalInt" = some m.cls := findClass_of_methodNamed Bd.named
  have hnm := (name_of_methodNamed Bd.named Bd.method).1
  have X0 : Stand p l e ({ frames := 0, cells := 0, slots := 0, locals := 0 } : Room) s m #[(.ref a0g)] below meth c s₁ [] 0 0 := Stand.of_body Bd
  have e0 : s₁.heap = h0 := by rw [← hh, Bd.state]; rfl
  have N0 := Fr.nil n0
  have pre0 : ∀ t, Steps p.tables e below (s₁.setTop (mkF m 0 #[.val (.ref a0g)] [])) t → Steps p.tables e below (s₁.setTop (entryFrame m #[(.ref a0g)] 1)) t := fun t k => castTop (ef_rmGr m a0g) k
  have GL' := GL
  obtain ⟨GCS, GCP, GSR, GSE, GEE, GFE, GSU, GSS⟩ := GL'
  obtain ⟨T1, X1, e1, st1⟩ := getF X0 hx hZ hown (host := "") (Or.inl (Wd hw 101 rfl)) Via.refl e0 F_isPresent_a0g (g := (mkF m 1 #[.val (.ref a0g)] [(.ref a0g)])) rfl rfl (hb hby d15_1)
  obtain ⟨fs, hr, hrun, hended, hW, hsame⟩ := X1.leave (v := some (.int (0 : Int32))) (fun h => by rw [Bd.returns] at h; cases h)
  refine ⟨_, _, pre0 _ ?_, hrun, hended, _, _, rfl, ?_, ⟨_, rfl⟩, hW, hsame.mono (by decide) (by decide)⟩
  · show Steps p.tables e below (s₁.setTop (mkF m 0 #[.val (.ref a0g)] [])) _
    refine XS.aloadN X0.here hx rfl (hb hby d15_0) rfl rfl ?_
    show Steps p.tables e below (s₁.setTop (mkF m 1 #[.val (.ref a0g)] [(.ref a0g)])) _
    refine st1 _ ?_
    show Steps p.tables e below (T1.setTop (mkF m 4 #[.val (.ref a0g)] [(.int (0 : Int32))])) _
    exact retN X1 hx (t := .boolean) Bd.returns (by simp) (hb hby d15_4) hr
  · show Q_rmIp n0 Z cS aRS aEM aUS aSS a0g h0 _ T1.heap _
    rw [e1]
    exact ⟨rfl, N0, rfl⟩
theorem d13_0 : decode jdk_42_method_66_code 0 = .ok (.aload_n 0, 1) := by decide +kernel
theorem d13_1 : decode jdk_42_method_66_code 1 = .ok (.aload_n 1, 1) := by decide +kernel
theorem d13_2 : decode jdk_42_method_66_code 2 = .ok (.if_acmp .ne 5, 3) := by decide +kernel
theorem d13_5 : decode jdk_42_method_66_code 5 = .ok (.iconst 1, 1) := by decide +kernel
theorem d13_6 : decode jdk_42_method_66_code 6 = .ok (.ireturn, 1) := by decide +kernel
abbrev MN_16 : MethodName := ⟨"java/lang/String", "equals", "(Ljava/lang/Object;)Z"⟩
theorem ef_rmEq (m : MethodId) (a0e : Addr) (a0e : Addr) : entryFrame m #[(.ref a0e), (.ref a0e)] 3 = mkF m 0 #[.val (.ref a0e), .val (.ref a0e), .unset] [] := by first | (simp [entryFrame, mkF, argsToLocals, Value.category]; done) | rfl
def Q_rmEq (n0 : Nat) (Z : State) (cS : Int32) (aRS : Addr) (aEM : Addr) (aUS : Addr) (aSS : Addr) (a0e : Addr) (h0 : Heap) (v : Option Value) (h : Heap) (L : List Loc) : Prop := v = some (.int (1 : Int32)) ∧ Fr n0 L ∧ h = h0
set_option maxRecDepth 65536 in
set_option maxHeartbeats 40000000 in
theorem rmEq (l : Launch) (Z : State) (a0 : Array Value) (hw : ∀ d ∈ tables_1, d.before a0 Z = true) (ws : List Jvm.Cond) (cS : Int32) (aRS : Addr) (aEM : Addr) (aUS : Addr) (aSS : Addr) (a0e : Addr) (h0 : Heap) (n0 : Nat) (O0 : Old Z n0 h0) (GL : GF Z cS aRS aEM aUS aSS) :
    MetFree l MN_16 (head1 (Jvm.Cond.code MN_16 jdk_42_method_66_code 3 (some .boolean) :: ws) ({ frames := 0, cells := 0, slots := 0, locals := 0 } : Room)) (fun a U => a = #[(.ref a0e), (.ref a0e)] ∧ Z.Warmed39 U.vm ∧ U.heap = h0) (fun _ _ _ _ _ => True) (fun _ U o U' => ∃ v L, o = .returned v ∧ Q_rmEq n0 Z cS aRS aEM aUS aSS a0e h0 v U'.heap L ∧ FrameEnd U o U' L ({ frames := 0, cells := 0, slots := 0, locals := 0 } : Room).cells ({ frames := 0, cells := 0, slots := 0, locals := 0 } : Room).slots) := by
  refine MetFree.of_bodySF (plainFor_of_name pnv1) hisR ?_
  intro p e s m args below meth c s₁ Bd hml0 hP hK
  obtain ⟨rfl, hZ, hh⟩ := hP
  have hx := Bd.exec
  have hby := Bd.bytes
  have hml : c.maxLocals = 3 := hml0
  have hown : s.vm.findClass "java/lang/String" = some m.cls := findClass_of_methodNamed Bd.named
  have hnm := (name_of_methodNamed Bd.named Bd.method).1
  have X0 : Stand p l e ({ frames := 0, cells := 0, slots := 0, locals := 0 } : Room) s m #[(.ref a0e), (.ref a0e)] below meth c s₁ [] 0 0 := Stand.of_body Bd
  have e0 : s₁.heap = h0 := by rw [← hh, Bd.state]; rfl
  have N0 := Fr.nil n0
  have pre0 : ∀ t, Steps p.tables e below (s₁.setTop (mkF m 0 #[.val (.ref a0e), .val (.ref a0e), .unset] [])) t → Steps p.tables e below (s₁.setTop (entryFrame m #[(.ref a0e), (.ref a0e)] 3)) t := fun t k => castTop (ef_rmEq m a0e a0e) k
  have GL' := GL
  obtain ⟨GCS, GCP, GSR, GSE, GEE, GFE, GSU, GSS⟩ := GL'
  obtain ⟨fs, hr, hrun, hended, hW, hsame⟩ := X0.leave (v := some (.int (1 : Int32))) (fun h => by rw [Bd.returns] at h; cases h)
  refine ⟨_, _, pre0 _ ?_, hrun, hended, _, _, rfl, ?_, ⟨_, rfl⟩, hW, hsame.mono (by decide) (by decide)⟩
  · show Steps p.tables e below (s₁.setTop (mkF m 0 #[.val (.ref a0e), .val (.ref a0e), .unset] [])) _
    refine XS.aloadN X0.here hx rfl (hb hby d13_0) rfl rfl ?_
    show Steps p.tables e below (s₁.setTop (mkF m 1 #[.val (.ref a0e), .val (.ref a0e), .unset] [(.ref a0e)])) _
    refine XS.aloadN X0.here hx rfl (hb hby d13_1) rfl rfl ?_
    show Steps p.tables e below (s₁.setTop (mkF m 2 #[.val (.ref a0e), .val (.ref a0e), .unset] [(.ref a0e), (.ref a0e)])) _
    refine Jvm.RoadKit.acmp (g := (mkF m 2 #[.val (.ref a0e), .val (.ref a0e), .unset] [(.ref a0e), (.ref a0e)])) X0 hx rfl rfl rfl (pc0 := 2) (pc' := 5) (same := true) rfl (hb hby d13_2) rfl (decide_eq_true rfl) (by decide) (by decide) ?_
    show Steps p.tables e below (s₁.setTop (mkF m 5 #[.val (.ref a0e), .val (.ref a0e), .unset] [])) _
    refine XS.iconst X0.here hx rfl (hb hby d13_5) ?_
    show Steps p.tables e below (s₁.setTop (mkF m 6 #[.val (.ref a0e), .val (.ref a0e), .unset] [(.int (1 : Int32))])) _
    exact retN X0 hx (t := .boolean) Bd.returns (by simp) (hb hby d13_6) hr
  · show Q_rmEq n0 Z cS aRS aEM aUS aSS a0e h0 _ s₁.heap _
    rw [e0]
    exact ⟨rfl, N0, rfl⟩
theorem pdv8 : parseMethodDescriptor "([C)V" = some ⟨[(.array .char)], none⟩ := by decide +kernel
theorem pdv9 : parseMethodDescriptor "(Ljava/lang/String;)Lcom/example/metaloom/metaloom/store/Rejection;" = some ⟨[(.object "java/lang/String")], some (.object "com/example/metaloom/metaloom/store/Rejection")⟩ := by decide +kernel
theorem pdv10 : parseMethodDescriptor "()Lcom/example/metaloom/metaloom/store/Rejection$Reason;" = some ⟨[], some (.object "com/example/metaloom/metaloom/store/Rejection$Reason")⟩ := by decide +kernel
theorem pdv11 : parseMethodDescriptor "()Ljava/lang/String;" = some ⟨[], some (.object "java/lang/String")⟩ := by decide +kernel
abbrev MN_17 : MethodName := ⟨"com/example/metaloom/metaloom/store/Rejection", "getMessage", "()Ljava/lang/String;"⟩
theorem pdv12 : parseMethodDescriptor "(Ljava/lang/Object;)Z" = some ⟨[(.object "java/lang/Object")], some .boolean⟩ := by decide +kernel
theorem pdv13 : parseMethodDescriptor "()Z" = some ⟨[], some .boolean⟩ := by decide +kernel
theorem pnv7 : plainName "com/example/metaloom/metaloom/store/RejectionConflictPinLaw" = true := by first | (simp [plainName, overriddenIn]; done) | decide +kernel
theorem ef_rm0 (m : MethodId) (p0 : Int32) (p1 : Int32) (p2 : Int32) (p3 : Int32) : entryFrame m #[(.int p0), (.int p1), (.int p2), (.int p3)] maxLocals = mkF m 0 #[.val (.int p0), .val (.int p1), .val (.int p2), .val (.int p3), .unset, .unset, .unset, .unset, .unset, .unset, .unset, .unset, .unset, .unset, .unset, .unset, .unset] [] := by first | (simp [entryFrame, mkF, argsToLocals, Value.category, maxLocals]; done) | rfl
def Q_rm0 (n0 : Nat) (v : Option Value) (h : Heap) (L : List Loc) : Prop := v = some (.int (1 : Int32)) ∧ Fr n0 L
set_option maxRecDepth 65536 in
set_option maxHeartbeats 40000000 in
theorem rm0 (l : Launch) (Z : State) (a0 : Array Value) (hw : ∀ d ∈ tables_1, d.before a0 Z = true) (ws : List Jvm.Cond) (cS : Int32) (aRS : Addr) (aEM : Addr) (aUS : Addr) (aSS : Addr) (p0 : Int32) (p1 : Int32) (p2 : Int32) (p3 : Int32) (h0 : Heap) (n0 : Nat) (O0 : Old Z n0 h0) (GL : GF Z cS aRS aEM aUS aSS) :
    MetFree l x (head1 (Jvm.Cond.code x code maxLocals ret :: ws) room_1) (fun a U => a = #[(.int p0), (.int p1), (.int p2), (.int p3)] ∧ Z.Warmed39 U.vm ∧ U.heap = h0 ∧ CHv Z EL1 U.vm h0) (fun _ _ _ _ _ => True) (fun _ U o U' => ∃ v L, o = .returned v ∧ Q_rm0 n0 v U'.heap L ∧ CHr Z EL1 U.vm U.heap U'.vm U'.heap ∧ ReturnedEndW U o U' L room_1.cells room_1.slots) := by
  refine MetFree.of_bodySF (plainFor_of_name pnv7) hisR ?_
  intro p e s m args below meth c s₁ Bd hml0 hP hK
  obtain ⟨rfl, hZ, hh, H0⟩ := hP
  have hx := Bd.exec
  have hby := Bd.bytes
  have hml : c.maxLocals = 17 := hml0
  have hown : s.vm.findClass "com/example/metaloom/metaloom/store/RejectionConflictPinLaw" = some m.cls := findClass_of_methodNamed Bd.named
  have hnm := (name_of_methodNamed Bd.named Bd.method).1
  have X0 : Stand p l e room_1 s m #[(.int p0), (.int p1), (.int p2), (.int p3)] below meth c s₁ [] 0 0 := Stand.of_body Bd
  have e0 : s₁.heap = h0 := by rw [← hh, Bd.state]; rfl
  have N0 := Fr.nil n0
  have pre0 : ∀ t, Steps p.tables e below (s₁.setTop (mkF m 0 #[.val (.int p0), .val (.int p1), .val (.int p2), .val (.int p3), .unset, .unset, .unset, .unset, .unset, .unset, .unset, .unset, .unset, .unset, .unset, .unset, .unset] [])) t → Steps p.tables e below (s₁.setTop (entryFrame m #[(.int p0), (.int p1), (.int p2), (.int p3)] maxLocals)) t := fun t k => castTop (ef_rm0 m p0 p1 p2 p3) k
  have X0w : Stand p l e room_1 (s.setVm s.vm) m #[(.int p0), (.int p1), (.int p2), (.int p3)] below meth c s₁ [] 0 0 := X0
  have R0 : CHr Z EL1 s.vm h0 s.vm h0 := CHr.refl H0
  have hS0 : s.Since s.vm h0.size := (State.WarmedH.refl s).since _
  have GL' := GL
  obtain ⟨GCS, GCP, GSR, GSE, GEE, GFE, GSU, GSS⟩ := GL'
  have hq1 : ¬ ((255 : Int32) < (p1 &&& (255 : Int32))) := (own_and255 p1).1
  have hq2 : ¬ ((255 : Int32) < (p2 &&& (255 : Int32))) := (own_and255 p2).1
  have hq3 : ¬ ((255 : Int32) < (p3 &&& (255 : Int32))) := (own_and255 p3).1
  obtain ⟨T1, h1, k1, X1, e1, E1, A1, A1', st1⟩ := newPE X0w hx hZ (Wd hw 0 rfl) e0 (g := (mkF m 25 #[.val (.int p0), .val (.int p1), .val (.int p2), .val (.int p3), .val (.int (p1 &&& (255 : Int32))), .val (.int (p2 &&& (255 : Int32))), .val (.int (p3 &&& (255 : Int32))), .unset, .unset, .unset, .unset, .unset, .unset, .unset, .unset, .unset, .unset] [(.int (0 : Int32))])) rfl (hb hby at_25) rfl (by decide) (cap := 0) (by decide) (by decide) (by decide) (by decide) (ad := "[C") rfl
  obtain ⟨b1, g1⟩ : ∃ z, z = h0.size := ⟨_, rfl⟩
  rw [← g1] at A1 A1' st1
  have g_b1 : n0 ≤ b1 := Nat.le_trans (own_sz O0) (Nat.le_of_eq g1.symm)
  have H_2 := H0.ext E1
  have R_2 := R0.trans (CHr.ext E1 H0)
  have O1 := O0.ext E1
  have V_b1 : Arv Z h1 b1 k1 .char (0 : Int32) [] (.int (0 : Int32)) := Arv.new A1 (by decide)
  obtain ⟨T3, h3, k3, X3, e3, E3, A3, A3', st3⟩ := newPE X1 hx hZ (Wd hw 0 rfl) e1 (g := (mkF m 30 #[.val (.int p0), .val (.int p1), .val (.int p2), .val (.int p3), .val (.int (p1 &&& (255 : Int32))), .val (.int (p2 &&& (255 : Int32))), .val (.int (p3 &&& (255 : Int32))), .val (.ref b1), .unset, .unset, .unset, .unset, .unset, .unset, .unset, .unset, .unset] [(.int (1 : Int32))])) rfl (hb hby at_30) rfl (by decide) (cap := 1) (by decide) (by decide) (by decide) (by decide) (ad := "[C") rfl
  obtain ⟨b3, g3⟩ : ∃ z, z = h1.size := ⟨_, rfl⟩
  rw [← g3] at A3 A3' st3
  have g_b3 : n0 ≤ b3 := Nat.le_trans (own_sz O1) (Nat.le_of_eq g3.symm)
  have H_4 := H_2.ext E3
  have R_4 := R_2.trans (CHr.ext E3 H_2)
  have O3 := O1.ext E3
  have V_b3 : Arv Z h3 b3 k3 .char (1 : Int32) [(.int (0 : Int32))] (.int (0 : Int32)) := (Arv.new A3 (by decide)).pad (pad_rep [] (.int (0 : Int32)) 1)
  obtain ⟨cl5, Ar5, q5, S5, N5_, H5, G5⟩ := id (V_b3)
  have hin5 : ¬ ((0 : Int32) < 0 ∨ cl5.slots.size ≤ ((0 : Int32)).toNatClampNeg) := inb_of S5 ⟨(by decide), (by decide)⟩
  obtain ⟨T5, h5, X5, e5, W5, st5⟩ := stC X3 hx hZ e3 Ar5 (j := (0 : Int32)) hin5 (g := (mkF m 36 #[.val (.int p0), .val (.int p1), .val (.int p2), .val (.int p3), .val (.int (p1 &&& (255 : Int32))), .val (.int (p2 &&& (255 : Int32))), .val (.int (p3 &&& (255 : Int32))), .val (.ref b1), .unset, .unset, .unset, .unset, .unset, .unset, .unset, .unset, .unset] [(.int (p1 &&& (255 : Int32))), (.int (0 : Int32)), (.ref b3), (.ref b3)])) rfl rfl (hb hby at_36)
  have Sf7 : Safe Z EL1 s.vm h3 b3 := Safe.exa (EL := EL1) hZ.alike A3' (by decide) (by decide)
  have H_6 := H_4.wr W5 Sf7
  have R_6 := R_4.trans (CHr.wr W5 Sf7 H_4)
  have O5 := O3.wr W5 g_b3
  have N5 := Fr.snoc X5 N0 g_b3
  have V5' : Arv Z h5 b3 k3 .char (1 : Int32) [(.int (nar .char (p1 &&& (255 : Int32))))] (.int (0 : Int32)) := Arv.set Ar5 q5 S5 N5_ H5 G5 (fits_nar_char _) W5 0 rfl (Nat.le_of_ble_eq_true rfl)
  have V5 : Arv Z h5 b3 k3 .char (1 : Int32) [(.int (p1 &&& (255 : Int32)))] (.int (0 : Int32)) := by
    rw [own_nar255 p1] at V5'
    exact V5'
  obtain ⟨T8, h8, k8, X8, e8, E8, A8, A8', st8⟩ := newPE X5 hx hZ (Wd hw 0 rfl) e5 (g := (mkF m 40 #[.val (.int p0), .val (.int p1), .val (.int p2), .val (.int p3), .val (.int (p1 &&& (255 : Int32))), .val (.int (p2 &&& (255 : Int32))), .val (.int (p3 &&& (255 : Int32))), .val (.ref b1), .val (.ref b3), .unset, .unset, .unset, .unset, .unset, .unset, .unset, .unset] [(.int (2 : Int32))])) rfl (hb hby at_40) rfl (by decide) (cap := 2) (by decide) (by decide) (by decide) (by decide) (ad := "[C") rfl
  obtain ⟨b8, g8⟩ : ∃ z, z = h5.size := ⟨_, rfl⟩
  rw [← g8] at A8 A8' st8
  have g_b8 : n0 ≤ b8 := Nat.le_trans (own_sz O5) (Nat.le_of_eq g8.symm)
  have H_9 := H_6.ext E8
  have R_9 := R_6.trans (CHr.ext E8 H_6)
  have O8 := O5.ext E8
  have V_b8 : Arv Z h8 b8 k8 .char (2 : Int32) [(.int (0 : Int32)), (.int (0 : Int32))] (.int (0 : Int32)) := (Arv.new A8 (by decide)).pad (pad_rep [] (.int (0 : Int32)) 2)
  obtain ⟨cl10, Ar10, q10, S10, N10_, H10, G10⟩ := id (V_b8)
  have hin10 : ¬ ((0 : Int32) < 0 ∨ cl10.slots.size ≤ ((0 : Int32)).toNatClampNeg) := inb_of S10 ⟨(by decide), (by decide)⟩
  obtain ⟨T10, h10, X10, e10, W10, st10⟩ := stC X8 hx hZ e8 Ar10 (j := (0 : Int32)) hin10 (g := (mkF m 46 #[.val (.int p0), .val (.int p1), .val (.int p2), .val (.int p3), .val (.int (p1 &&& (255 : Int32))), .val (.int (p2 &&& (255 : Int32))), .val (.int (p3 &&& (255 : Int32))), .val (.ref b1), .val (.ref b3), .unset, .unset, .unset, .unset, .unset, .unset, .unset, .unset] [(.int (p1 &&& (255 : Int32))), (.int (0 : Int32)), (.ref b8), (.ref b8)])) rfl rfl (hb hby at_46)
  have Sf12 : Safe Z EL1 s.vm h8 b8 := Safe.exa (EL := EL1) hZ.alike A8' (by decide) (by decide)
  have H_11 := H_9.wr W10 Sf12
  have R_11 := R_9.trans (CHr.wr W10 Sf12 H_9)
  have O10 := O8.wr W10 g_b8
  have N10 := Fr.snoc X10 N5 g_b8
  have V10' : Arv Z h10 b8 k8 .char (2 : Int32) [(.int (nar .char (p1 &&& (255 : Int32)))), (.int (0 : Int32))] (.int (0 : Int32)) := Arv.set Ar10 q10 S10 N10_ H10 G10 (fits_nar_char _) W10 0 rfl (Nat.le_of_ble_eq_true rfl)
  have V10 : Arv Z h10 b8 k8 .char (2 : Int32) [(.int (p1 &&& (255 : Int32))), (.int (0 : Int32))] (.int (0 : Int32)) := by
    rw [own_nar255 p1] at V10'
    exact V10'
  obtain ⟨cl13, Ar13, q13, S13, N13_, H13, G13⟩ := id (V10)
  have hin13 : ¬ ((1 : Int32) < 0 ∨ cl13.slots.size ≤ ((1 : Int32)).toNatClampNeg) := inb_of S13 ⟨(by decide), (by decide)⟩
  obtain ⟨T13, h13, X13, e13, W13, st13⟩ := stC X10 hx hZ e10 Ar13 (j := (1 : Int32)) hin13 (g := (mkF m 51 #[.val (.int p0), .val (.int p1), .val (.int p2), .val (.int p3), .val (.int (p1 &&& (255 : Int32))), .val (.int (p2 &&& (255 : Int32))), .val (.int (p3 &&& (255 : Int32))), .val (.ref b1), .val (.ref b3), .unset, .unset, .unset, .unset, .unset, .unset, .unset, .unset] [(.int (p2 &&& (255 : Int32))), (.int (1 : Int32)), (.ref b8), (.ref b8)])) rfl rfl (hb hby at_51)
  have Sf15 : Safe Z EL1 s.vm h10 b8 := Safe.exa (EL := EL1) hZ.alike (A8'.wr W10) (by decide) (by decide)
  have H_14 := H_11.wr W13 Sf15
  have R_14 := R_11.trans (CHr.wr W13 Sf15 H_11)
  have O13 := O10.wr W13 g_b8
  have N13 := Fr.snoc X13 N10 g_b8
  have V13' : Arv Z h13 b8 k8 .char (2 : Int32) [(.int (p1 &&& (255 : Int32))), (.int (nar .char (p2 &&& (255 : Int32))))] (.int (0 : Int32)) := Arv.set Ar13 q13 S13 N13_ H13 G13 (fits_nar_char _) W13 1 rfl (Nat.le_of_ble_eq_true rfl)
  have V13 : Arv Z h13 b8 k8 .char (2 : Int32) [(.int (p1 &&& (255 : Int32))), (.int (p2 &&& (255 : Int32)))] (.int (0 : Int32)) := by
    rw [own_nar255 p2] at V13'
    exact V13'
  obtain ⟨T16, h16, k16, X16, e16, E16, A16, A16', st16⟩ := newPE X13 hx hZ (Wd hw 0 rfl) e13 (g := (mkF m 55 #[.val (.int p0), .val (.int p1), .val (.int p2), .val (.int p3), .val (.int (p1 &&& (255 : Int32))), .val (.int (p2 &&& (255 : Int32))), .val (.int (p3 &&& (255 : Int32))), .val (.ref b1), .val (.ref b3), .val (.ref b8), .unset, .unset, .unset, .unset, .unset, .unset, .unset] [(.int (3 : Int32))])) rfl (hb hby at_55) rfl (by decide) (cap := 3) (by decide) (by decide) (by decide) (by decide) (ad := "[C") rfl
  obtain ⟨b16, g16⟩ : ∃ z, z = h13.size := ⟨_, rfl⟩
  rw [← g16] at A16 A16' st16
  have g_b16 : n0 ≤ b16 := Nat.le_trans (own_sz O13) (Nat.le_of_eq g16.symm)
  have H_17 := H_14.ext E16
  have R_17 := R_14.trans (CHr.ext E16 H_14)
  have O16 := O13.ext E16
  have V_b16 : Arv Z h16 b16 k16 .char (3 : Int32) [(.int (0 : Int32)), (.int (0 : Int32)), (.int (0 : Int32))] (.int (0 : Int32)) := (Arv.new A16 (by decide)).pad (pad_rep [] (.int (0 : Int32)) 3)
  obtain ⟨cl18, Ar18, q18, S18, N18_, H18, G18⟩ := id (V_b16)
  have hin18 : ¬ ((0 : Int32) < 0 ∨ cl18.slots.size ≤ ((0 : Int32)).toNatClampNeg) := inb_of S18 ⟨(by decide), (by decide)⟩
  obtain ⟨T18, h18, X18, e18, W18, st18⟩ := stC X16 hx hZ e16 Ar18 (j := (0 : Int32)) hin18 (g := (mkF m 61 #[.val (.int p0), .val (.int p1), .val (.int p2), .val (.int p3), .val (.int (p1 &&& (255 : Int32))), .val (.int (p2 &&& (255 : Int32))), .val (.int (p3 &&& (255 : Int32))), .val (.ref b1), .val (.ref b3), .val (.ref b8), .unset, .unset, .unset, .unset, .unset, .unset, .unset] [(.int (p1 &&& (255 : Int32))), (.int (0 : Int32)), (.ref b16), (.ref b16)])) rfl rfl (hb hby at_61)
  have Sf20 : Safe Z EL1 s.vm h16 b16 := Safe.exa (EL := EL1) hZ.alike A16' (by decide) (by decide)
  have H_19 := H_17.wr W18 Sf20
  have R_19 := R_17.trans (CHr.wr W18 Sf20 H_17)
  have O18 := O16.wr W18 g_b16
  have N18 := Fr.snoc X18 N13 g_b16
  have V18' : Arv Z h18 b16 k16 .char (3 : Int32) [(.int (nar .char (p1 &&& (255 : Int32)))), (.int (0 : Int32)), (.int (0 : Int32))] (.int (0 : Int32)) := Arv.set Ar18 q18 S18 N18_ H18 G18 (fits_nar_char _) W18 0 rfl (Nat.le_of_ble_eq_true rfl)
  have V18 : Arv Z h18 b16 k16 .char (3 : Int32) [(.int (p1 &&& (255 : Int32))), (.int (0 : Int32)), (.int (0 : Int32))] (.int (0 : Int32)) := by
    rw [own_nar255 p1] at V18'
    exact V18'
  obtain ⟨cl21, Ar21, q21, S21, N21_, H21, G21⟩ := id (V18)
  have hin21 : ¬ ((1 : Int32) < 0 ∨ cl21.slots.size ≤ ((1 : Int32)).toNatClampNeg) := inb_of S21 ⟨(by decide), (by decide)⟩
  obtain ⟨T21, h21, X21, e21, W21, st21⟩ := stC X18 hx hZ e18 Ar21 (j := (1 : Int32)) hin21 (g := (mkF m 66 #[.val (.int p0), .val (.int p1), .val (.int p2), .val (.int p3), .val (.int (p1 &&& (255 : Int32))), .val (.int (p2 &&& (255 : Int32))), .val (.int (p3 &&& (255 : Int32))), .val (.ref b1), .val (.ref b3), .val (.ref b8), .unset, .unset, .unset, .unset, .unset, .unset, .unset] [(.int (p2 &&& (255 : Int32))), (.int (1 : Int32)), (.ref b16), (.ref b16)])) rfl rfl (hb hby at_66)
  have Sf23 : Safe Z EL1 s.vm h18 b16 := Safe.exa (EL := EL1) hZ.alike (A16'.wr W18) (by decide) (by decide)
  have H_22 := H_19.wr W21 Sf23
  have R_22 := R_19.trans (CHr.wr W21 Sf23 H_19)
  have O21 := O18.wr W21 g_b16
  have N21 := Fr.snoc X21 N18 g_b16
  have V21' : Arv Z h21 b16 k16 .char (3 : Int32) [(.int (p1 &&& (255 : Int32))), (.int (nar .char (p2 &&& (255 : Int32)))), (.int (0 : Int32))] (.int (0 : Int32)) := Arv.set Ar21 q21 S21 N21_ H21 G21 (fits_nar_char _) W21 1 rfl (Nat.le_of_ble_eq_true rfl)
  have V21 : Arv Z h21 b16 k16 .char (3 : Int32) [(.int (p1 &&& (255 : Int32))), (.int (p2 &&& (255 : Int32))), (.int (0 : Int32))] (.int (0 : Int32)) := by
    rw [own_nar255 p2] at V21'
    exact V21'
  obtain ⟨cl24, Ar24, q24, S24, N24_, H24, G24⟩ := id (V21)
  have hin24 : ¬ ((2 : Int32) < 0 ∨ cl24.slots.size ≤ ((2 : Int32)).toNatClampNeg) := inb_of S24 ⟨(by decide), (by decide)⟩
  obtain ⟨T24, h24, X24, e24, W24, st24⟩ := stC X21 hx hZ e21 Ar24 (j := (2 : Int32)) hin24 (g := (mkF m 71 #[.val (.int p0), .val (.int p1), .val (.int p2), .val (.int p3), .val (.int (p1 &&& (255 : Int32))), .val (.int (p2 &&& (255 : Int32))), .val (.int (p3 &&& (255 : Int32))), .val (.ref b1), .val (.ref b3), .val (.ref b8), .unset, .unset, .unset, .unset, .unset, .unset, .unset] [(.int (p3 &&& (255 : Int32))), (.int (2 : Int32)), (.ref b16), (.ref b16)])) rfl rfl (hb hby at_71)
  have Sf26 : Safe Z EL1 s.vm h21 b16 := Safe.exa (EL := EL1) hZ.alike ((A16'.wr W18).wr W21) (by decide) (by decide)
  have H_25 := H_22.wr W24 Sf26
  have R_25 := R_22.trans (CHr.wr W24 Sf26 H_22)
  have O24 := O21.wr W24 g_b16
  have N24 := Fr.snoc X24 N21 g_b16
  have V24' : Arv Z h24 b16 k16 .char (3 : Int32) [(.int (p1 &&& (255 : Int32))), (.int (p2 &&& (255 : Int32))), (.int (nar .char (p3 &&& (255 : Int32))))] (.int (0 : Int32)) := Arv.set Ar24 q24 S24 N24_ H24 G24 (fits_nar_char _) W24 2 rfl (Nat.le_of_ble_eq_true rfl)
  have V24 : Arv Z h24 b16 k16 .char (3 : Int32) [(.int (p1 &&& (255 : Int32))), (.int (p2 &&& (255 : Int32))), (.int (p3 &&& (255 : Int32)))] (.int (0 : Int32)) := by
    rw [own_nar255 p3] at V24'
    exact V24'
  have pre28 : ∀ t, Steps p.tables e below (T24.setTop (mkF m 81 #[.val (.int p0), .val (.int p1), .val (.int p2), .val (.int p3), .val (.int (p1 &&& (255 : Int32))), .val (.int (p2 &&& (255 : Int32))), .val (.int (p3 &&& (255 : Int32))), .val (.ref b1), .val (.ref b3), .val (.ref b8), .val (.ref b16), .val (.int (p0 &&& (3 : Int32))), .unset, .unset, .unset, .unset, .unset] [(.int (p0 &&& (3 : Int32)))])) t → Steps p.tables e below (s₁.setTop (entryFrame m #[(.int p0), (.int p1), (.int p2), (.int p3)] maxLocals)) t := fun t kt => by
    refine pre0 t ?_
    show Steps p.tables e below (s₁.setTop (mkF m 0 #[.val (.int p0), .val (.int p1), .val (.int p2), .val (.int p3), .unset, .unset, .unset, .unset, .unset, .unset, .unset, .unset, .unset, .unset, .unset, .unset, .unset] [])) _
    refine XS.iloadN X0w.here hx rfl (hb hby at_0) rfl ?_
    show Steps p.tables e below (s₁.setTop (mkF m 1 #[.val (.int p0), .val (.int p1), .val (.int p2), .val (.int p3), .unset, .unset, .unset, .unset, .unset, .unset, .unset, .unset, .unset, .unset, .unset, .unset, .unset] [(.int p1)])) _
    refine XS.sipush X0w.here hx rfl (hb hby at_1) ?_
    show Steps p.tables e below (s₁.setTop (mkF m 4 #[.val (.int p0), .val (.int p1), .val (.int p2), .val (.int p3), .unset, .unset, .unset, .unset, .unset, .unset, .unset, .unset, .unset, .unset, .unset, .unset, .unset] [(.int (255 : Int32)), (.int p1)])) _
    refine XS.iand X0w.here hx rfl (hb hby at_4) rfl ?_
    show Steps p.tables e below (s₁.setTop (mkF m 5 #[.val (.int p0), .val (.int p1), .val (.int p2), .val (.int p3), .unset, .unset, .unset, .unset, .unset, .unset, .unset, .unset, .unset, .unset, .unset, .unset, .unset] [(.int (p1 &&& (255 : Int32)))])) _
    refine XS.i2c X0w.here hx rfl (hb hby at_5) rfl ?_
    rw [i2c_mask p1]
    show Steps p.tables e below (s₁.setTop (mkF m 6 #[.val (.int p0), .val (.int p1), .val (.int p2), .val (.int p3), .unset, .unset, .unset, .unset, .unset, .unset, .unset, .unset, .unset, .unset, .unset, .unset, .unset] [(.int (p1 &&& (255 : Int32)))])) _
    refine XS.istore X0w.here hx rfl (hb hby at_6) rfl (l' := #[.val (.int p0), .val (.int p1), .val (.int p2), .val (.int p3), .val (.int (p1 &&& (255 : Int32))), .unset, .unset, .unset, .unset, .unset, .unset, .unset, .unset, .unset, .unset, .unset, .unset]) rfl ?_
    show Steps p.tables e below (s₁.setTop (mkF m 8 #[.val (.int p0), .val (.int p1), .val (.int p2), .val (.int p3), .val (.int (p1 &&& (255 : Int32))), .unset, .unset, .unset, .unset, .unset, .unset, .unset, .unset, .unset, .unset, .unset, .unset] [])) _
    refine XS.iloadN X0w.here hx rfl (hb hby at_8) rfl ?_
    show Steps p.tables e below (s₁.setTop (mkF m 9 #[.val (.int p0), .val (.int p1), .val (.int p2), .val (.int p3), .val (.int (p1 &&& (255 : Int32))), .unset, .unset, .unset, .unset, .unset, .unset, .unset, .unset, .unset, .unset, .unset, .unset] [(.int p2)])) _
    refine XS.sipush X0w.here hx rfl (hb hby at_9) ?_
    show Steps p.tables e below (s₁.setTop (mkF m 12 #[.val (.int p0), .val (.int p1), .val (.int p2), .val (.int p3), .val (.int (p1 &&& (255 : Int32))), .unset, .unset, .unset, .unset, .unset, .unset, .unset, .unset, .unset, .unset, .unset, .unset] [(.int (255 : Int32)), (.int p2)])) _
    refine XS.iand X0w.here hx rfl (hb hby at_12) rfl ?_
    show Steps p.tables e below (s₁.setTop (mkF m 13 #[.val (.int p0), .val (.int p1), .val (.int p2), .val (.int p3), .val (.int (p1 &&& (255 : Int32))), .unset, .unset, .unset, .unset, .unset, .unset, .unset, .unset, .unset, .unset, .unset, .unset] [(.int (p2 &&& (255 : Int32)))])) _
    refine XS.i2c X0w.here hx rfl (hb hby at_13) rfl ?_
    rw [i2c_mask p2]
    show Steps p.tables e below (s₁.setTop (mkF m 14 #[.val (.int p0), .val (.int p1), .val (.int p2), .val (.int p3), .val (.int (p1 &&& (255 : Int32))), .unset, .unset, .unset, .unset, .unset, .unset, .unset, .unset, .unset, .unset, .unset, .unset] [(.int (p2 &&& (255 : Int32)))])) _
    refine XS.istore X0w.here hx rfl (hb hby at_14) rfl (l' := #[.val (.int p0), .val (.int p1), .val (.int p2), .val (.int p3), .val (.int (p1 &&& (255 : Int32))), .val (.int (p2 &&& (255 : Int32))), .unset, .unset, .unset, .unset, .unset, .unset, .unset, .unset, .unset, .unset, .unset]) rfl ?_
    show Steps p.tables e below (s₁.setTop (mkF m 16 #[.val (.int p0), .val (.int p1), .val (.int p2), .val (.int p3), .val (.int (p1 &&& (255 : Int32))), .val (.int (p2 &&& (255 : Int32))), .unset, .unset, .unset, .unset, .unset, .unset, .unset, .unset, .unset, .unset, .unset] [])) _
    refine XS.iloadN X0w.here hx rfl (hb hby at_16) rfl ?_
    show Steps p.tables e below (s₁.setTop (mkF m 17 #[.val (.int p0), .val (.int p1), .val (.int p2), .val (.int p3), .val (.int (p1 &&& (255 : Int32))), .val (.int (p2 &&& (255 : Int32))), .unset, .unset, .unset, .unset, .unset, .unset, .unset, .unset, .unset, .unset, .unset] [(.int p3)])) _
    refine XS.sipush X0w.here hx rfl (hb hby at_17) ?_
    show Steps p.tables e below (s₁.setTop (mkF m 20 #[.val (.int p0), .val (.int p1), .val (.int p2), .val (.int p3), .val (.int (p1 &&& (255 : Int32))), .val (.int (p2 &&& (255 : Int32))), .unset, .unset, .unset, .unset, .unset, .unset, .unset, .unset, .unset, .unset, .unset] [(.int (255 : Int32)), (.int p3)])) _
    refine XS.iand X0w.here hx rfl (hb hby at_20) rfl ?_
    show Steps p.tables e below (s₁.setTop (mkF m 21 #[.val (.int p0), .val (.int p1), .val (.int p2), .val (.int p3), .val (.int (p1 &&& (255 : Int32))), .val (.int (p2 &&& (255 : Int32))), .unset, .unset, .unset, .unset, .unset, .unset, .unset, .unset, .unset, .unset, .unset] [(.int (p3 &&& (255 : Int32)))])) _
    refine XS.i2c X0w.here hx rfl (hb hby at_21) rfl ?_
    rw [i2c_mask p3]
    show Steps p.tables e below (s₁.setTop (mkF m 22 #[.val (.int p0), .val (.int p1), .val (.int p2), .val (.int p3), .val (.int (p1 &&& (255 : Int32))), .val (.int (p2 &&& (255 : Int32))), .unset, .unset, .unset, .unset, .unset, .unset, .unset, .unset, .unset, .unset, .unset] [(.int (p3 &&& (255 : Int32)))])) _
    refine XS.istore X0w.here hx rfl (hb hby at_22) rfl (l' := #[.val (.int p0), .val (.int p1), .val (.int p2), .val (.int p3), .val (.int (p1 &&& (255 : Int32))), .val (.int (p2 &&& (255 : Int32))), .val (.int (p3 &&& (255 : Int32))), .unset, .unset, .unset, .unset, .unset, .unset, .unset, .unset, .unset, .unset]) rfl ?_
    show Steps p.tables e below (s₁.setTop (mkF m 24 #[.val (.int p0), .val (.int p1), .val (.int p2), .val (.int p3), .val (.int (p1 &&& (255 : Int32))), .val (.int (p2 &&& (255 : Int32))), .val (.int (p3 &&& (255 : Int32))), .unset, .unset, .unset, .unset, .unset, .unset, .unset, .unset, .unset, .unset] [])) _
    refine XS.iconst X0w.here hx rfl (hb hby at_24) ?_
    show Steps p.tables e below (s₁.setTop (mkF m 25 #[.val (.int p0), .val (.int p1), .val (.int p2), .val (.int p3), .val (.int (p1 &&& (255 : Int32))), .val (.int (p2 &&& (255 : Int32))), .val (.int (p3 &&& (255 : Int32))), .unset, .unset, .unset, .unset, .unset, .unset, .unset, .unset, .unset, .unset] [(.int (0 : Int32))])) _
    refine st1 _ ?_
    show Steps p.tables e below (T1.setTop (mkF m 27 #[.val (.int p0), .val (.int p1), .val (.int p2), .val (.int p3), .val (.int (p1 &&& (255 : Int32))), .val (.int (p2 &&& (255 : Int32))), .val (.int (p3 &&& (255 : Int32))), .unset, .unset, .unset, .unset, .unset, .unset, .unset, .unset, .unset, .unset] [(.ref b1)])) _
    refine XS.astore X1.here hx rfl (hb hby at_27) rfl rfl (l' := #[.val (.int p0), .val (.int p1), .val (.int p2), .val (.int p3), .val (.int (p1 &&& (255 : Int32))), .val (.int (p2 &&& (255 : Int32))), .val (.int (p3 &&& (255 : Int32))), .val (.ref b1), .unset, .unset, .unset, .unset, .unset, .unset, .unset, .unset, .unset]) rfl ?_
    show Steps p.tables e below (T1.setTop (mkF m 29 #[.val (.int p0), .val (.int p1), .val (.int p2), .val (.int p3), .val (.int (p1 &&& (255 : Int32))), .val (.int (p2 &&& (255 : Int32))), .val (.int (p3 &&& (255 : Int32))), .val (.ref b1), .unset, .unset, .unset, .unset, .unset, .unset, .unset, .unset, .unset] [])) _
    refine XS.iconst X1.here hx rfl (hb hby at_29) ?_
    show Steps p.tables e below (T1.setTop (mkF m 30 #[.val (.int p0), .val (.int p1), .val (.int p2), .val (.int p3), .val (.int (p1 &&& (255 : Int32))), .val (.int (p2 &&& (255 : Int32))), .val (.int (p3 &&& (255 : Int32))), .val (.ref b1), .unset, .unset, .unset, .unset, .unset, .unset, .unset, .unset, .unset] [(.int (1 : Int32))])) _
    refine st3 _ ?_
    show Steps p.tables e below (T3.setTop (mkF m 32 #[.val (.int p0), .val (.int p1), .val (.int p2), .val (.int p3), .val (.int (p1 &&& (255 : Int32))), .val (.int (p2 &&& (255 : Int32))), .val (.int (p3 &&& (255 : Int32))), .val (.ref b1), .unset, .unset, .unset, .unset, .unset, .unset, .unset, .unset, .unset] [(.ref b3)])) _
    refine XS.dup X3.here hx rfl (hb hby at_32) rfl rfl ?_
    show Steps p.tables e below (T3.setTop (mkF m 33 #[.val (.int p0), .val (.int p1), .val (.int p2), .val (.int p3), .val (.int (p1 &&& (255 : Int32))), .val (.int (p2 &&& (255 : Int32))), .val (.int (p3 &&& (255 : Int32))), .val (.ref b1), .unset, .unset, .unset, .unset, .unset, .unset, .unset, .unset, .unset] [(.ref b3), (.ref b3)])) _
    refine XS.iconst X3.here hx rfl (hb hby at_33) ?_
    show Steps p.tables e below (T3.setTop (mkF m 34 #[.val (.int p0), .val (.int p1), .val (.int p2), .val (.int p3), .val (.int (p1 &&& (255 : Int32))), .val (.int (p2 &&& (255 : Int32))), .val (.int (p3 &&& (255 : Int32))), .val (.ref b1), .unset, .unset, .unset, .unset, .unset, .unset, .unset, .unset, .unset] [(.int (0 : Int32)), (.ref b3), (.ref b3)])) _
    refine XS.iload X3.here hx rfl (hb hby at_34) rfl ?_
    show Steps p.tables e below (T3.setTop (mkF m 36 #[.val (.int p0), .val (.int p1), .val (.int p2), .val (.int p3), .val (.int (p1 &&& (255 : Int32))), .val (.int (p2 &&& (255 : Int32))), .val (.int (p3 &&& (255 : Int32))), .val (.ref b1), .unset, .unset, .unset, .unset, .unset, .unset, .unset, .unset, .unset] [(.int (p1 &&& (255 : Int32))), (.int (0 : Int32)), (.ref b3), (.ref b3)])) _
    refine st5 _ ?_
    show Steps p.tables e below (T5.setTop (mkF m 37 #[.val (.int p0), .val (.int p1), .val (.int p2), .val (.int p3), .val (.int (p1 &&& (255 : Int32))), .val (.int (p2 &&& (255 : Int32))), .val (.int (p3 &&& (255 : Int32))), .val (.ref b1), .unset, .unset, .unset, .unset, .unset, .unset, .unset, .unset, .unset] [(.ref b3)])) _
    refine XS.astore X5.here hx rfl (hb hby at_37) rfl rfl (l' := #[.val (.int p0), .val (.int p1), .val (.int p2), .val (.int p3), .val (.int (p1 &&& (255 : Int32))), .val (.int (p2 &&& (255 : Int32))), .val (.int (p3 &&& (255 : Int32))), .val (.ref b1), .val (.ref b3), .unset, .unset, .unset, .unset, .unset, .unset, .unset, .unset]) rfl ?_
    show Steps p.tables e below (T5.setTop (mkF m 39 #[.val (.int p0), .val (.int p1), .val (.int p2), .val (.int p3), .val (.int (p1 &&& (255 : Int32))), .val (.int (p2 &&& (255 : Int32))), .val (.int (p3 &&& (255 : Int32))), .val (.ref b1), .val (.ref b3), .unset, .unset, .unset, .unset, .unset, .unset, .unset, .unset] [])) _
    refine XS.iconst X5.here hx rfl (hb hby at_39) ?_
    show Steps p.tables e below (T5.setTop (mkF m 40 #[.val (.int p0), .val (.int p1), .val (.int p2), .val (.int p3), .val (.int (p1 &&& (255 : Int32))), .val (.int (p2 &&& (255 : Int32))), .val (.int (p3 &&& (255 : Int32))), .val (.ref b1), .val (.ref b3), .unset, .unset, .unset, .unset, .unset, .unset, .unset, .unset] [(.int (2 : Int32))])) _
    refine st8 _ ?_
    show Steps p.tables e below (T8.setTop (mkF m 42 #[.val (.int p0), .val (.int p1), .val (.int p2), .val (.int p3), .val (.int (p1 &&& (255 : Int32))), .val (.int (p2 &&& (255 : Int32))), .val (.int (p3 &&& (255 : Int32))), .val (.ref b1), .val (.ref b3), .unset, .unset, .unset, .unset, .unset, .unset, .unset, .unset] [(.ref b8)])) _
    refine XS.dup X8.here hx rfl (hb hby at_42) rfl rfl ?_
    show Steps p.tables e below (T8.setTop (mkF m 43 #[.val (.int p0), .val (.int p1), .val (.int p2), .val (.int p3), .val (.int (p1 &&& (255 : Int32))), .val (.int (p2 &&& (255 : Int32))), .val (.int (p3 &&& (255 : Int32))), .val (.ref b1), .val (.ref b3), .unset, .unset, .unset, .unset, .unset, .unset, .unset, .unset] [(.ref b8), (.ref b8)])) _
    refine XS.iconst X8.here hx rfl (hb hby at_43) ?_
    show Steps p.tables e below (T8.setTop (mkF m 44 #[.val (.int p0), .val (.int p1), .val (.int p2), .val (.int p3), .val (.int (p1 &&& (255 : Int32))), .val (.int (p2 &&& (255 : Int32))), .val (.int (p3 &&& (255 : Int32))), .val (.ref b1), .val (.ref b3), .unset, .unset, .unset, .unset, .unset, .unset, .unset, .unset] [(.int (0 : Int32)), (.ref b8), (.ref b8)])) _
    refine XS.iload X8.here hx rfl (hb hby at_44) rfl ?_
    show Steps p.tables e below (T8.setTop (mkF m 46 #[.val (.int p0), .val (.int p1), .val (.int p2), .val (.int p3), .val (.int (p1 &&& (255 : Int32))), .val (.int (p2 &&& (255 : Int32))), .val (.int (p3 &&& (255 : Int32))), .val (.ref b1), .val (.ref b3), .unset, .unset, .unset, .unset, .unset, .unset, .unset, .unset] [(.int (p1 &&& (255 : Int32))), (.int (0 : Int32)), (.ref b8), (.ref b8)])) _
    refine st10 _ ?_
    show Steps p.tables e below (T10.setTop (mkF m 47 #[.val (.int p0), .val (.int p1), .val (.int p2), .val (.int p3), .val (.int (p1 &&& (255 : Int32))), .val (.int (p2 &&& (255 : Int32))), .val (.int (p3 &&& (255 : Int32))), .val (.ref b1), .val (.ref b3), .unset, .unset, .unset, .unset, .unset, .unset, .unset, .unset] [(.ref b8)])) _
    refine XS.dup X10.here hx rfl (hb hby at_47) rfl rfl ?_
    show Steps p.tables e below (T10.setTop (mkF m 48 #[.val (.int p0), .val (.int p1), .val (.int p2), .val (.int p3), .val (.int (p1 &&& (255 : Int32))), .val (.int (p2 &&& (255 : Int32))), .val (.int (p3 &&& (255 : Int32))), .val (.ref b1), .val (.ref b3), .unset, .unset, .unset, .unset, .unset, .unset, .unset, .unset] [(.ref b8), (.ref b8)])) _
    refine XS.iconst X10.here hx rfl (hb hby at_48) ?_
    show Steps p.tables e below (T10.setTop (mkF m 49 #[.val (.int p0), .val (.int p1), .val (.int p2), .val (.int p3), .val (.int (p1 &&& (255 : Int32))), .val (.int (p2 &&& (255 : Int32))), .val (.int (p3 &&& (255 : Int32))), .val (.ref b1), .val (.ref b3), .unset, .unset, .unset, .unset, .unset, .unset, .unset, .unset] [(.int (1 : Int32)), (.ref b8), (.ref b8)])) _
    refine XS.iload X10.here hx rfl (hb hby at_49) rfl ?_
    show Steps p.tables e below (T10.setTop (mkF m 51 #[.val (.int p0), .val (.int p1), .val (.int p2), .val (.int p3), .val (.int (p1 &&& (255 : Int32))), .val (.int (p2 &&& (255 : Int32))), .val (.int (p3 &&& (255 : Int32))), .val (.ref b1), .val (.ref b3), .unset, .unset, .unset, .unset, .unset, .unset, .unset, .unset] [(.int (p2 &&& (255 : Int32))), (.int (1 : Int32)), (.ref b8), (.ref b8)])) _
    refine st13 _ ?_
    show Steps p.tables e below (T13.setTop (mkF m 52 #[.val (.int p0), .val (.int p1), .val (.int p2), .val (.int p3), .val (.int (p1 &&& (255 : Int32))), .val (.int (p2 &&& (255 : Int32))), .val (.int (p3 &&& (255 : Int32))), .val (.ref b1), .val (.ref b3), .unset, .unset, .unset, .unset, .unset, .unset, .unset, .unset] [(.ref b8)])) _
    refine XS.astore X13.here hx rfl (hb hby at_52) rfl rfl (l' := #[.val (.int p0), .val (.int p1), .val (.int p2), .val (.int p3), .val (.int (p1 &&& (255 : Int32))), .val (.int (p2 &&& (255 : Int32))), .val (.int (p3 &&& (255 : Int32))), .val (.ref b1), .val (.ref b3), .val (.ref b8), .unset, .unset, .unset, .unset, .unset, .unset, .unset]) rfl ?_
    show Steps p.tables e below (T13.setTop (mkF m 54 #[.val (.int p0), .val (.int p1), .val (.int p2), .val (.int p3), .val (.int (p1 &&& (255 : Int32))), .val (.int (p2 &&& (255 : Int32))), .val (.int (p3 &&& (255 : Int32))), .val (.ref b1), .val (.ref b3), .val (.ref b8), .unset, .unset, .unset, .unset, .unset, .unset, .unset] [])) _
    refine XS.iconst X13.here hx rfl (hb hby at_54) ?_
    show Steps p.tables e below (T13.setTop (mkF m 55 #[.val (.int p0), .val (.int p1), .val (.int p2), .val (.int p3), .val (.int (p1 &&& (255 : Int32))), .val (.int (p2 &&& (255 : Int32))), .val (.int (p3 &&& (255 : Int32))), .val (.ref b1), .val (.ref b3), .val (.ref b8), .unset, .unset, .unset, .unset, .unset, .unset, .unset] [(.int (3 : Int32))])) _
    refine st16 _ ?_
    show Steps p.tables e below (T16.setTop (mkF m 57 #[.val (.int p0), .val (.int p1), .val (.int p2), .val (.int p3), .val (.int (p1 &&& (255 : Int32))), .val (.int (p2 &&& (255 : Int32))), .val (.int (p3 &&& (255 : Int32))), .val (.ref b1), .val (.ref b3), .val (.ref b8), .unset, .unset, .unset, .unset, .unset, .unset, .unset] [(.ref b16)])) _
    refine XS.dup X16.here hx rfl (hb hby at_57) rfl rfl ?_
    show Steps p.tables e below (T16.setTop (mkF m 58 #[.val (.int p0), .val (.int p1), .val (.int p2), .val (.int p3), .val (.int (p1 &&& (255 : Int32))), .val (.int (p2 &&& (255 : Int32))), .val (.int (p3 &&& (255 : Int32))), .val (.ref b1), .val (.ref b3), .val (.ref b8), .unset, .unset, .unset, .unset, .unset, .unset, .unset] [(.ref b16), (.ref b16)])) _
    refine XS.iconst X16.here hx rfl (hb hby at_58) ?_
    show Steps p.tables e below (T16.setTop (mkF m 59 #[.val (.int p0), .val (.int p1), .val (.int p2), .val (.int p3), .val (.int (p1 &&& (255 : Int32))), .val (.int (p2 &&& (255 : Int32))), .val (.int (p3 &&& (255 : Int32))), .val (.ref b1), .val (.ref b3), .val (.ref b8), .unset, .unset, .unset, .unset, .unset, .unset, .unset] [(.int (0 : Int32)), (.ref b16), (.ref b16)])) _
    refine XS.iload X16.here hx rfl (hb hby at_59) rfl ?_
    show Steps p.tables e below (T16.setTop (mkF m 61 #[.val (.int p0), .val (.int p1), .val (.int p2), .val (.int p3), .val (.int (p1 &&& (255 : Int32))), .val (.int (p2 &&& (255 : Int32))), .val (.int (p3 &&& (255 : Int32))), .val (.ref b1), .val (.ref b3), .val (.ref b8), .unset, .unset, .unset, .unset, .unset, .unset, .unset] [(.int (p1 &&& (255 : Int32))), (.int (0 : Int32)), (.ref b16), (.ref b16)])) _
    refine st18 _ ?_
    show Steps p.tables e below (T18.setTop (mkF m 62 #[.val (.int p0), .val (.int p1), .val (.int p2), .val (.int p3), .val (.int (p1 &&& (255 : Int32))), .val (.int (p2 &&& (255 : Int32))), .val (.int (p3 &&& (255 : Int32))), .val (.ref b1), .val (.ref b3), .val (.ref b8), .unset, .unset, .unset, .unset, .unset, .unset, .unset] [(.ref b16)])) _
    refine XS.dup X18.here hx rfl (hb hby at_62) rfl rfl ?_
    show Steps p.tables e below (T18.setTop (mkF m 63 #[.val (.int p0), .val (.int p1), .val (.int p2), .val (.int p3), .val (.int (p1 &&& (255 : Int32))), .val (.int (p2 &&& (255 : Int32))), .val (.int (p3 &&& (255 : Int32))), .val (.ref b1), .val (.ref b3), .val (.ref b8), .unset, .unset, .unset, .unset, .unset, .unset, .unset] [(.ref b16), (.ref b16)])) _
    refine XS.iconst X18.here hx rfl (hb hby at_63) ?_
    show Steps p.tables e below (T18.setTop (mkF m 64 #[.val (.int p0), .val (.int p1), .val (.int p2), .val (.int p3), .val (.int (p1 &&& (255 : Int32))), .val (.int (p2 &&& (255 : Int32))), .val (.int (p3 &&& (255 : Int32))), .val (.ref b1), .val (.ref b3), .val (.ref b8), .unset, .unset, .unset, .unset, .unset, .unset, .unset] [(.int (1 : Int32)), (.ref b16), (.ref b16)])) _
    refine XS.iload X18.here hx rfl (hb hby at_64) rfl ?_
    show Steps p.tables e below (T18.setTop (mkF m 66 #[.val (.int p0), .val (.int p1), .val (.int p2), .val (.int p3), .val (.int (p1 &&& (255 : Int32))), .val (.int (p2 &&& (255 : Int32))), .val (.int (p3 &&& (255 : Int32))), .val (.ref b1), .val (.ref b3), .val (.ref b8), .unset, .unset, .unset, .unset, .unset, .unset, .unset] [(.int (p2 &&& (255 : Int32))), (.int (1 : Int32)), (.ref b16), (.ref b16)])) _
    refine st21 _ ?_
    show Steps p.tables e below (T21.setTop (mkF m 67 #[.val (.int p0), .val (.int p1), .val (.int p2), .val (.int p3), .val (.int (p1 &&& (255 : Int32))), .val (.int (p2 &&& (255 : Int32))), .val (.int (p3 &&& (255 : Int32))), .val (.ref b1), .val (.ref b3), .val (.ref b8), .unset, .unset, .unset, .unset, .unset, .unset, .unset] [(.ref b16)])) _
    refine XS.dup X21.here hx rfl (hb hby at_67) rfl rfl ?_
    show Steps p.tables e below (T21.setTop (mkF m 68 #[.val (.int p0), .val (.int p1), .val (.int p2), .val (.int p3), .val (.int (p1 &&& (255 : Int32))), .val (.int (p2 &&& (255 : Int32))), .val (.int (p3 &&& (255 : Int32))), .val (.ref b1), .val (.ref b3), .val (.ref b8), .unset, .unset, .unset, .unset, .unset, .unset, .unset] [(.ref b16), (.ref b16)])) _
    refine XS.iconst X21.here hx rfl (hb hby at_68) ?_
    show Steps p.tables e below (T21.setTop (mkF m 69 #[.val (.int p0), .val (.int p1), .val (.int p2), .val (.int p3), .val (.int (p1 &&& (255 : Int32))), .val (.int (p2 &&& (255 : Int32))), .val (.int (p3 &&& (255 : Int32))), .val (.ref b1), .val (.ref b3), .val (.ref b8), .unset, .unset, .unset, .unset, .unset, .unset, .unset] [(.int (2 : Int32)), (.ref b16), (.ref b16)])) _
    refine XS.iload X21.here hx rfl (hb hby at_69) rfl ?_
    show Steps p.tables e below (T21.setTop (mkF m 71 #[.val (.int p0), .val (.int p1), .val (.int p2), .val (.int p3), .val (.int (p1 &&& (255 : Int32))), .val (.int (p2 &&& (255 : Int32))), .val (.int (p3 &&& (255 : Int32))), .val (.ref b1), .val (.ref b3), .val (.ref b8), .unset, .unset, .unset, .unset, .unset, .unset, .unset] [(.int (p3 &&& (255 : Int32))), (.int (2 : Int32)), (.ref b16), (.ref b16)])) _
    refine st24 _ ?_
    show Steps p.tables e below (T24.setTop (mkF m 72 #[.val (.int p0), .val (.int p1), .val (.int p2), .val (.int p3), .val (.int (p1 &&& (255 : Int32))), .val (.int (p2 &&& (255 : Int32))), .val (.int (p3 &&& (255 : Int32))), .val (.ref b1), .val (.ref b3), .val (.ref b8), .unset, .unset, .unset, .unset, .unset, .unset, .unset] [(.ref b16)])) _
    refine XS.astore X24.here hx rfl (hb hby at_72) rfl rfl (l' := #[.val (.int p0), .val (.int p1), .val (.int p2), .val (.int p3), .val (.int (p1 &&& (255 : Int32))), .val (.int (p2 &&& (255 : Int32))), .val (.int (p3 &&& (255 : Int32))), .val (.ref b1), .val (.ref b3), .val (.ref b8), .val (.ref b16), .unset, .unset, .unset, .unset, .unset, .unset]) rfl ?_
    show Steps p.tables e below (T24.setTop (mkF m 74 #[.val (.int p0), .val (.int p1), .val (.int p2), .val (.int p3), .val (.int (p1 &&& (255 : Int32))), .val (.int (p2 &&& (255 : Int32))), .val (.int (p3 &&& (255 : Int32))), .val (.ref b1), .val (.ref b3), .val (.ref b8), .val (.ref b16), .unset, .unset, .unset, .unset, .unset, .unset] [])) _
    refine XS.iloadN X24.here hx rfl (hb hby at_74) rfl ?_
    show Steps p.tables e below (T24.setTop (mkF m 75 #[.val (.int p0), .val (.int p1), .val (.int p2), .val (.int p3), .val (.int (p1 &&& (255 : Int32))), .val (.int (p2 &&& (255 : Int32))), .val (.int (p3 &&& (255 : Int32))), .val (.ref b1), .val (.ref b3), .val (.ref b8), .val (.ref b16), .unset, .unset, .unset, .unset, .unset, .unset] [(.int p0)])) _
    refine XS.iconst X24.here hx rfl (hb hby at_75) ?_
    show Steps p.tables e below (T24.setTop (mkF m 76 #[.val (.int p0), .val (.int p1), .val (.int p2), .val (.int p3), .val (.int (p1 &&& (255 : Int32))), .val (.int (p2 &&& (255 : Int32))), .val (.int (p3 &&& (255 : Int32))), .val (.ref b1), .val (.ref b3), .val (.ref b8), .val (.ref b16), .unset, .unset, .unset, .unset, .unset, .unset] [(.int (3 : Int32)), (.int p0)])) _
    refine XS.iand X24.here hx rfl (hb hby at_76) rfl ?_
    show Steps p.tables e below (T24.setTop (mkF m 77 #[.val (.int p0), .val (.int p1), .val (.int p2), .val (.int p3), .val (.int (p1 &&& (255 : Int32))), .val (.int (p2 &&& (255 : Int32))), .val (.int (p3 &&& (255 : Int32))), .val (.ref b1), .val (.ref b3), .val (.ref b8), .val (.ref b16), .unset, .unset, .unset, .unset, .unset, .unset] [(.int (p0 &&& (3 : Int32)))])) _
    refine XS.istore X24.here hx rfl (hb hby at_77) rfl (l' := #[.val (.int p0), .val (.int p1), .val (.int p2), .val (.int p3), .val (.int (p1 &&& (255 : Int32))), .val (.int (p2 &&& (255 : Int32))), .val (.int (p3 &&& (255 : Int32))), .val (.ref b1), .val (.ref b3), .val (.ref b8), .val (.ref b16), .val (.int (p0 &&& (3 : Int32))), .unset, .unset, .unset, .unset, .unset]) rfl ?_
    show Steps p.tables e below (T24.setTop (mkF m 79 #[.val (.int p0), .val (.int p1), .val (.int p2), .val (.int p3), .val (.int (p1 &&& (255 : Int32))), .val (.int (p2 &&& (255 : Int32))), .val (.int (p3 &&& (255 : Int32))), .val (.ref b1), .val (.ref b3), .val (.ref b8), .val (.ref b16), .val (.int (p0 &&& (3 : Int32))), .unset, .unset, .unset, .unset, .unset] [])) _
    refine XS.iload X24.here hx rfl (hb hby at_79) rfl ?_
    exact kt
  by_cases hc81_27 : (p0 &&& (3 : Int32)) = (0 : Int32)
  · obtain ⟨T29, h29, X29, e29, E29, A29, D29, -, st29⟩ := newO X24 hx hZ hown (Wd hw 1 rfl) (Wd hw 2 rfl) (Wd hw 3 rfl) e24 (g := (mkF m 84 #[.val (.int p0), .val (.int p1), .val (.int p2), .val (.int p3), .val (.int (p1 &&& (255 : Int32))), .val (.int (p2 &&& (255 : Int32))), .val (.int (p3 &&& (255 : Int32))), .val (.ref b1), .val (.ref b3), .val (.ref b8), .val (.ref b16), .val (.int (p0 &&& (3 : Int32))), .unset, .unset, .unset, .unset, .unset] [])) rfl (hb hby at_84) (by decide) (by decide)
    obtain ⟨b29, g29⟩ : ∃ z, z = h24.size := ⟨_, rfl⟩
    rw [← g29] at A29 D29 st29
    have g_b29 : n0 ≤ b29 := Nat.le_trans (own_sz O24) (Nat.le_of_eq g29.symm)
    have H_30 := H_25.ext E29
    have R_30 := R_25.trans (CHr.ext E29 H_25)
    have O29 := O24.ext E29
    have F_value_b29 : Fld Z h29 b29 "java/lang/String" "value" "[B" .null := D29 (Or.inr (Wd hw 16 rfl)) (ty := (.array .byte)) (by decide)
    have F_coder_b29 : Fld Z h29 b29 "java/lang/String" "coder" "B" (.int (0 : Int32)) := D29 (Or.inr (Wd hw 17 rfl)) (ty := .byte) (by decide)
    obtain ⟨_, _, ⟨T31, L31, k31, n31⟩, -, X31', hS31', hg31, ⟨Lc31, hQ31, l31, y31, z31, Rs31⟩, st31⟩ := X29.specialBackS hx (y := MN_4) rfl hown (mvT hZ (Wd hw 4 rfl)) (mvT hZ (Wd hw 5 rfl)) (mvT hZ (Wd hw 6 rfl)) (by decide) (backOfSH (W := 1) (rmIc_0 l Z a0 hw [] cS aRS aEM aUS aSS (b29) (b1) (k1) (h29) n0 O29 GL A29 F_value_b29 F_coder_b29 g_b29 ((((((((((V_b1.ext E3).other W5 (Nat.ne_of_lt (Nat.lt_of_lt_of_le V_b1.lt (Nat.le_of_eq g3.symm)))).ext E8).other W10 (Nat.ne_of_lt (Nat.lt_of_lt_of_le (Nat.lt_of_lt_of_le V_b1.lt (Nat.le_trans E3.1 (Keep.of_wr W5).1)) (Nat.le_of_eq g8.symm)))).other W13 (Nat.ne_of_lt (Nat.lt_of_lt_of_le (Nat.lt_of_lt_of_le V_b1.lt (Nat.le_trans E3.1 (Keep.of_wr W5).1)) (Nat.le_of_eq g8.symm)))).ext E16).other W18 (Nat.ne_of_lt (Nat.lt_of_lt_of_le (Nat.lt_of_lt_of_le V_b1.lt (Nat.le_trans (Nat.le_trans (Nat.le_trans (Nat.le_trans E3.1 (Keep.of_wr W5).1) E8.1) (Keep.of_wr W10).1) (Keep.of_wr W13).1)) (Nat.le_of_eq g16.symm)))).other W21 (Nat.ne_of_lt (Nat.lt_of_lt_of_le (Nat.lt_of_lt_of_le V_b1.lt (Nat.le_trans (Nat.le_trans (Nat.le_trans (Nat.le_trans E3.1 (Keep.of_wr W5).1) E8.1) (Keep.of_wr W10).1) (Keep.of_wr W13).1)) (Nat.le_of_eq g16.symm)))).other W24 (Nat.ne_of_lt (Nat.lt_of_lt_of_le (Nat.lt_of_lt_of_le V_b1.lt (Nat.le_trans (Nat.le_trans (Nat.le_trans (Nat.le_trans E3.1 (Keep.of_wr W5).1) E8.1) (Keep.of_wr W10).1) (Keep.of_wr W13).1)) (Nat.le_of_eq g16.symm)))).ext E29)) hZ (Wd hw 6 rfl) (Wd hw 3 rfl) (by decide) (by decide) (own_EW hw) H_30) (g := (mkF m 90 #[.val (.int p0), .val (.int p1), .val (.int p2), .val (.int p3), .val (.int (p1 &&& (255 : Int32))), .val (.int (p2 &&& (255 : Int32))), .val (.int (p3 &&& (255 : Int32))), .val (.ref b1), .val (.ref b3), .val (.ref b8), .val (.ref b16), .val (.int (p0 &&& (3 : Int32))), .unset, .unset, .unset, .unset, .unset] [(.ref b1), (.ref b29), (.ref b29)])) rfl (by rw [hml]; rfl) (Steps.refl _) (a := b29) (argsL := [(.ref b1)]) (rest := [(.ref b29)]) (lenOf pdv8 rfl) rfl (by show 2 * 0 + _ ≤ _; exact Nat.le_of_eq rfl) (hb hby at_90) (fun _ _ => ⟨rfl, e29, (by decide : 5 + 4 ≤ _), (by decide : 10 + 8 ≤ _)⟩)
    dsimp only [Pt.U, Pt.locs, Pt.cells, Pt.slots] at X31' l31 y31 z31 st31 hQ31 hS31' hg31 Rs31
    subst l31 y31 z31
    obtain ⟨X31, hS31, hZ31, hown31⟩ := rebS hS0 (by rw [e29]; exact (Nat.le_trans (Nat.le_trans (Nat.le_trans (Nat.le_trans (Nat.le_trans (Nat.le_trans (Nat.le_trans (Nat.le_trans (Nat.le_trans (Nat.le_trans (Nat.le_trans (Nat.le_refl _) E1.1) E3.1) (Keep.of_wr W5).1) E8.1) (Keep.of_wr W10).1) (Keep.of_wr W13).1) E16.1) (Keep.of_wr W18).1) (Keep.of_wr W21).1) (Keep.of_wr W24).1) E29.1)) X31' hS31' hg31 hZ hown
    obtain ⟨b_31, kb_31, rfl, N31q, Kc31, P31_0, P31_1, P31_2, P31_3⟩ := hQ31
    have O31 := O29.keep Kc31 (allS g_b29 all0)
    have H_32 := Rs31.1
    have R_32 := R_30.trans Rs31
    have N31 := Fr.app N24 N31q
    obtain ⟨_, _, ⟨T33, L33, k33, n33⟩, -, X33, ⟨Lc33, hQ33, l33, y33, z33⟩, st33⟩ := Jvm.LawKit.callS X31 hx (y := MN_11) hown31 (mvT hZ31 (Wd hw 22 rfl)) (mvT hZ31 (Wd hw 23 rfl)) (mvT hZ31 (Wd hw 24 rfl)) (mvT hZ31 (Wd hw 25 rfl)) (by decide) (backOf (W := 0) (rmMk l Z a0 hw [] cS aRS aEM aUS aSS (b29) (T31.heap) n0 O31 GL) hZ31 (Wd hw 25 rfl) (Wd hw 24 rfl) (by decide) (by decide)) (g := (mkF m 145 #[.val (.int p0), .val (.int p1), .val (.int p2), .val (.int p3), .val (.int (p1 &&& (255 : Int32))), .val (.int (p2 &&& (255 : Int32))), .val (.int (p3 &&& (255 : Int32))), .val (.ref b1), .val (.ref b3), .val (.ref b8), .val (.ref b16), .val (.int (p0 &&& (3 : Int32))), .val (.ref b29), .unset, .unset, .unset, .unset] [(.ref b29)])) rfl (by rw [hml]; rfl) (argsL := [(.ref b29)]) (rest := []) (lenOf pdv9 rfl) rfl (by show 2 * 0 + _ ≤ _; exact Nat.le_of_eq rfl) (hb hby at_145) (fun _ _ => ⟨rfl, rfl, (by decide : 9 + 1 ≤ _), (by decide : 18 + 8 ≤ _)⟩)
    dsimp only [Pt.U, Pt.locs, Pt.cells, Pt.slots] at X33 l33 y33 z33 st33 hQ33
    subst l33 y33 z33
    obtain ⟨b_33, rfl, N33q, Kc33, P33_0, P33_1, P33_2, P33_3, P33_4⟩ := hQ33
    have O33 := O31.keep Kc33 all0
    have H_34 := H_32.keep Kc33 sf0
    have R_34 := R_32.trans (CHr.keep Kc33 sf0 H_32)
    have g_b_33 : n0 ≤ b_33 := Nat.le_trans (own_sz O31) P33_0
    have N33 := Fr.app N31 N33q
    obtain ⟨cq35, kq35, q35a, q35b, q35c⟩ := isOf hZ31 rfl P33_1
    obtain ⟨_, _, ⟨T35, L35, k35, n35⟩, -, X35, ⟨Lc35, hQ35, l35, y35, z35⟩, st35⟩ := X33.virtualBack hx (y := MN_12) (z := MN_12) hown31 (mvT hZ31 (Wd hw 74 rfl)) (mvT hZ31 (Wd hw 75 rfl)) (notFace_of_selects (args := #[]) (mvT hZ31 (Wd hw 77 rfl))) (mvT hZ31 (Wd hw 77 rfl)) (mvT hZ31 (Wd hw 76 rfl)) (by decide) (backOf (W := 0) (rmGr l Z a0 hw [] cS aRS aEM aUS aSS (b_33) (aRS) (T33.heap) n0 O33 GL P33_3) hZ31 (Wd hw 78 rfl) (Wd hw 24 rfl) (by decide) (by decide)) q35a q35c (g := (mkF m 152 #[.val (.int p0), .val (.int p1), .val (.int p2), .val (.int p3), .val (.int (p1 &&& (255 : Int32))), .val (.int (p2 &&& (255 : Int32))), .val (.int (p3 &&& (255 : Int32))), .val (.ref b1), .val (.ref b3), .val (.ref b8), .val (.ref b16), .val (.int (p0 &&& (3 : Int32))), .val (.ref b29), .val (.ref b_33), .unset, .unset, .unset] [(.ref b_33)])) rfl (by rw [hml]; rfl) (Steps.refl _) (argsL := []) (rest := []) (lenOf pdv10 rfl) rfl (by show 2 * 0 + _ ≤ _; exact Nat.le_of_eq rfl) (hb hby at_152) (fun _ _ => ⟨rfl, rfl, (by decide : 10 + 0 ≤ _), (by decide : 26 + 0 ≤ _)⟩)
    dsimp only [Pt.U, Pt.locs, Pt.cells, Pt.slots] at X35 l35 y35 z35 st35 hQ35
    subst l35 y35 z35
    obtain ⟨rfl, N35q, e35⟩ := hQ35
    have N35 := Fr.app N33 N35q
    obtain ⟨T36, X36, e36, st36⟩ := getS2 X35 hx hZ31 hown31 (host := "") (Or.inl (Wd hw 79 rfl)) Via.refl e35 (GSR.ext O33.2) (g := (mkF m 155 #[.val (.int p0), .val (.int p1), .val (.int p2), .val (.int p3), .val (.int (p1 &&& (255 : Int32))), .val (.int (p2 &&& (255 : Int32))), .val (.int (p3 &&& (255 : Int32))), .val (.ref b1), .val (.ref b3), .val (.ref b8), .val (.ref b16), .val (.int (p0 &&& (3 : Int32))), .val (.ref b29), .val (.ref b_33), .unset, .unset, .unset] [(.ref aRS)])) rfl (hb hby at_155)
    obtain ⟨cq37, kq37, q37a, q37b, q37c⟩ := isOf hZ31 e36 P33_1
    obtain ⟨_, _, ⟨T37, L37, k37, n37⟩, -, X37, ⟨Lc37, hQ37, l37, y37, z37⟩, st37⟩ := X36.virtualBackUp hx (owner := "java/lang/Throwable") (x := MN_17) (y := MN_14) hown31 (mvT hZ31 (Wd hw 80 rfl)) (mvT hZ31 (Wd hw 81 rfl)) (mvT hZ31 (Wd hw 82 rfl)) (by decide) (mvT hZ31 (Wd hw 84 rfl)) (mvT hZ31 (Wd hw 83 rfl)) (backOf (W := 1) (rmGm l Z a0 hw [] cS aRS aEM aUS aSS (b_33) (b29) (T33.heap) n0 O33 GL P33_2) hZ31 (Wd hw 85 rfl) (Wd hw 57 rfl) (by decide) (by decide)) q37a q37c (g := (mkF m 172 #[.val (.int p0), .val (.int p1), .val (.int p2), .val (.int p3), .val (.int (p1 &&& (255 : Int32))), .val (.int (p2 &&& (255 : Int32))), .val (.int (p3 &&& (255 : Int32))), .val (.ref b1), .val (.ref b3), .val (.ref b8), .val (.ref b16), .val (.int (p0 &&& (3 : Int32))), .val (.ref b29), .val (.ref b_33), .val (.int (1 : Int32)), .unset, .unset] [(.ref b_33), (.ref b29)])) rfl (by rw [hml]; rfl) (Steps.refl _) (argsL := []) (rest := [(.ref b29)]) (lenOf pdv11 rfl) rfl (by show 2 * 0 + _ ≤ _; exact Nat.le_of_eq rfl) (hb hby at_172) (fun _ _ => ⟨rfl, e36, (by decide : 10 + 0 ≤ _), (by decide : 26 + 0 ≤ _)⟩)
    dsimp only [Pt.U, Pt.locs, Pt.cells, Pt.slots] at X37 l37 y37 z37 st37 hQ37
    subst l37 y37 z37
    obtain ⟨rfl, N37q, e37⟩ := hQ37
    have N37 := Fr.app N35 N37q
    obtain ⟨cq38, kq38, q38a, q38b, q38c⟩ := isOf hZ31 e37 (P31_0.keep Kc33)
    obtain ⟨_, _, ⟨T38, L38, k38, n38⟩, -, X38, ⟨Lc38, hQ38, l38, y38, z38⟩, st38⟩ := X37.virtualBack hx (y := MN_16) (z := MN_16) hown31 (mvT hZ31 (Wd hw 86 rfl)) (mvT hZ31 (Wd hw 87 rfl)) (notFace_of_selects (args := #[]) (mvT hZ31 (Wd hw 89 rfl))) (mvT hZ31 (Wd hw 89 rfl)) (mvT hZ31 (Wd hw 88 rfl)) (by decide) (backOf (W := 0) (rmEq l Z a0 hw [] cS aRS aEM aUS aSS (b29) (T33.heap) n0 O33 GL) hZ31 (Wd hw 90 rfl) (Wd hw 3 rfl) (by decide) (by decide)) q38a q38c (g := (mkF m 175 #[.val (.int p0), .val (.int p1), .val (.int p2), .val (.int p3), .val (.int (p1 &&& (255 : Int32))), .val (.int (p2 &&& (255 : Int32))), .val (.int (p3 &&& (255 : Int32))), .val (.ref b1), .val (.ref b3), .val (.ref b8), .val (.ref b16), .val (.int (p0 &&& (3 : Int32))), .val (.ref b29), .val (.ref b_33), .val (.int (1 : Int32)), .unset, .unset] [(.ref b29), (.ref b29)])) rfl (by rw [hml]; rfl) (Steps.refl _) (argsL := [(.ref b29)]) (rest := []) (lenOf pdv12 rfl) rfl (by show 2 * 0 + _ ≤ _; exact Nat.le_of_eq rfl) (hb hby at_175) (fun _ _ => ⟨rfl, e37, (by decide : 10 + 0 ≤ _), (by decide : 26 + 0 ≤ _)⟩)
    dsimp only [Pt.U, Pt.locs, Pt.cells, Pt.slots] at X38 l38 y38 z38 st38 hQ38
    subst l38 y38 z38
    obtain ⟨rfl, N38q, e38⟩ := hQ38
    have N38 := Fr.app N37 N38q
    obtain ⟨cq39, kq39, q39a, q39b, q39c⟩ := isOf hZ31 e38 P33_1
    obtain ⟨_, _, ⟨T39, L39, k39, n39⟩, -, X39, ⟨Lc39, hQ39, l39, y39, z39⟩, st39⟩ := X38.virtualBack hx (y := MN_13) (z := MN_13) hown31 (mvT hZ31 (Wd hw 91 rfl)) (mvT hZ31 (Wd hw 92 rfl)) (notFace_of_selects (args := #[]) (mvT hZ31 (Wd hw 94 rfl))) (mvT hZ31 (Wd hw 94 rfl)) (mvT hZ31 (Wd hw 93 rfl)) (by decide) (backOf (W := 0) (rmGp l Z a0 hw [] cS aRS aEM aUS aSS (b_33) (aEM) (T33.heap) n0 O33 GL P33_4) hZ31 (Wd hw 95 rfl) (Wd hw 24 rfl) (by decide) (by decide)) q39a q39c (g := (mkF m 182 #[.val (.int p0), .val (.int p1), .val (.int p2), .val (.int p3), .val (.int (p1 &&& (255 : Int32))), .val (.int (p2 &&& (255 : Int32))), .val (.int (p3 &&& (255 : Int32))), .val (.ref b1), .val (.ref b3), .val (.ref b8), .val (.ref b16), .val (.int (p0 &&& (3 : Int32))), .val (.ref b29), .val (.ref b_33), .val (.int (1 : Int32)), .val (.int (1 : Int32)), .unset] [(.ref b_33)])) rfl (by rw [hml]; rfl) (Steps.refl _) (argsL := []) (rest := []) (lenOf pdv5 rfl) rfl (by show 2 * 0 + _ ≤ _; exact Nat.le_of_eq rfl) (hb hby at_182) (fun _ _ => ⟨rfl, e38, (by decide : 10 + 0 ≤ _), (by decide : 26 + 0 ≤ _)⟩)
    dsimp only [Pt.U, Pt.locs, Pt.cells, Pt.slots] at X39 l39 y39 z39 st39 hQ39
    subst l39 y39 z39
    obtain ⟨rfl, N39q, e39⟩ := hQ39
    have N39 := Fr.app N38 N39q
    obtain ⟨cq40, kq40, q40a, q40b, q40c⟩ := isOf hZ31 e39 (GEE.ext O33.2)
    obtain ⟨_, _, ⟨T40, L40, k40, n40⟩, -, X40, ⟨Lc40, hQ40, l40, y40, z40⟩, st40⟩ := X39.virtualBack hx (y := MN_15) (z := MN_15) hown31 (mvT hZ31 (Wd hw 96 rfl)) (mvT hZ31 (Wd hw 97 rfl)) (notFace_of_selects (args := #[]) (mvT hZ31 (Wd hw 99 rfl))) (mvT hZ31 (Wd hw 99 rfl)) (mvT hZ31 (Wd hw 98 rfl)) (by decide) (backOf (W := 0) (rmIp l Z a0 hw [] cS aRS aEM aUS aSS (aEM) (T33.heap) n0 O33 GL (GFE.ext O33.2)) hZ31 (Wd hw 100 rfl) (Wd hw 36 rfl) (by decide) (by decide)) q40a q40c (g := (mkF m 185 #[.val (.int p0), .val (.int p1), .val (.int p2), .val (.int p3), .val (.int (p1 &&& (255 : Int32))), .val (.int (p2 &&& (255 : Int32))), .val (.int (p3 &&& (255 : Int32))), .val (.ref b1), .val (.ref b3), .val (.ref b8), .val (.ref b16), .val (.int (p0 &&& (3 : Int32))), .val (.ref b29), .val (.ref b_33), .val (.int (1 : Int32)), .val (.int (1 : Int32)), .unset] [(.ref aEM)])) rfl (by rw [hml]; rfl) (Steps.refl _) (argsL := []) (rest := []) (lenOf pdv13 rfl) rfl (by show 2 * 0 + _ ≤ _; exact Nat.le_of_eq rfl) (hb hby at_185) (fun _ _ => ⟨rfl, e39, (by decide : 10 + 0 ≤ _), (by decide : 26 + 0 ≤ _)⟩)
    dsimp only [Pt.U, Pt.locs, Pt.cells, Pt.slots] at X40 l40 y40 z40 st40 hQ40
    subst l40 y40 z40
    obtain ⟨rfl, N40q, e40⟩ := hQ40
    have N40 := Fr.app N39 N40q
    obtain ⟨fs, hr, hrun, hended, hRW⟩ := X40.leaveW hS31 (by rw [e40]; exact (Nat.le_trans (Nat.le_refl _) Kc33.1)) (v := some (.int (1 : Int32))) (fun h => by rw [Bd.returns] at h; cases h)
    have hCR : CHr Z EL1 s.vm s.heap T40.vm T40.heap := by
      rw [hh, e40]
      exact R_34.trans (CHv.at X40 hZ31 (own_EW hw) H_34)
    refine ⟨_, _, pre28 _ ?_, hrun, hended, _, _, rfl, ?_, hCR, hRW.1, hRW.2.1, hRW.2.2.1, hRW.2.2.2.mono (by decide) (by decide)⟩
    · show Steps p.tables e below (T24.setTop (mkF m 81 #[.val (.int p0), .val (.int p1), .val (.int p2), .val (.int p3), .val (.int (p1 &&& (255 : Int32))), .val (.int (p2 &&& (255 : Int32))), .val (.int (p3 &&& (255 : Int32))), .val (.ref b1), .val (.ref b3), .val (.ref b8), .val (.ref b16), .val (.int (p0 &&& (3 : Int32))), .unset, .unset, .unset, .unset, .unset] [(.int (p0 &&& (3 : Int32)))])) _
      refine XS.ifNo X24.here hx rfl (hb hby at_81) rfl ((if0 _ _).trans (teq hc81_27).2) ?_
      show Steps p.tables e below (T24.setTop (mkF m 84 #[.val (.int p0), .val (.int p1), .val (.int p2), .val (.int p3), .val (.int (p1 &&& (255 : Int32))), .val (.int (p2 &&& (255 : Int32))), .val (.int (p3 &&& (255 : Int32))), .val (.ref b1), .val (.ref b3), .val (.ref b8), .val (.ref b16), .val (.int (p0 &&& (3 : Int32))), .unset, .unset, .unset, .unset, .unset] [])) _
      refine st29 _ ?_
      show Steps p.tables e below (T29.setTop (mkF m 87 #[.val (.int p0), .val (.int p1), .val (.int p2), .val (.int p3), .val (.int (p1 &&& (255 : Int32))), .val (.int (p2 &&& (255 : Int32))), .val (.int (p3 &&& (255 : Int32))), .val (.ref b1), .val (.ref b3), .val (.ref b8), .val (.ref b16), .val (.int (p0 &&& (3 : Int32))), .unset, .unset, .unset, .unset, .unset] [(.ref b29)])) _
      refine XS.dup X29.here hx rfl (hb hby at_87) rfl rfl ?_
      show Steps p.tables e below (T29.setTop (mkF m 88 #[.val (.int p0), .val (.int p1), .val (.int p2), .val (.int p3), .val (.int (p1 &&& (255 : Int32))), .val (.int (p2 &&& (255 : Int32))), .val (.int (p3 &&& (255 : Int32))), .val (.ref b1), .val (.ref b3), .val (.ref b8), .val (.ref b16), .val (.int (p0 &&& (3 : Int32))), .unset, .unset, .unset, .unset, .unset] [(.ref b29), (.ref b29)])) _
      refine XS.aload X29.here hx rfl (hb hby at_88) rfl rfl ?_
      show Steps p.tables e below (T29.setTop (mkF m 90 #[.val (.int p0), .val (.int p1), .val (.int p2), .val (.int p3), .val (.int (p1 &&& (255 : Int32))), .val (.int (p2 &&& (255 : Int32))), .val (.int (p3 &&& (255 : Int32))), .val (.ref b1), .val (.ref b3), .val (.ref b8), .val (.ref b16), .val (.int (p0 &&& (3 : Int32))), .unset, .unset, .unset, .unset, .unset] [(.ref b1), (.ref b29), (.ref b29)])) _
      refine st31.trans ?_
      show Steps p.tables e below (T31.setTop (mkF m 93 #[.val (.int p0), .val (.int p1), .val (.int p2), .val (.int p3), .val (.int (p1 &&& (255 : Int32))), .val (.int (p2 &&& (255 : Int32))), .val (.int (p3 &&& (255 : Int32))), .val (.ref b1), .val (.ref b3), .val (.ref b8), .val (.ref b16), .val (.int (p0 &&& (3 : Int32))), .unset, .unset, .unset, .unset, .unset] [(.ref b29)])) _
      refine XS.goto X31.here hx rfl (pc0 := 93) (pc' := 141) rfl (hb hby at_93) (by decide) (by decide) ?_
      show Steps p.tables e below (T31.setTop (mkF m 141 #[.val (.int p0), .val (.int p1), .val (.int p2), .val (.int p3), .val (.int (p1 &&& (255 : Int32))), .val (.int (p2 &&& (255 : Int32))), .val (.int (p3 &&& (255 : Int32))), .val (.ref b1), .val (.ref b3), .val (.ref b8), .val (.ref b16), .val (.int (p0 &&& (3 : Int32))), .unset, .unset, .unset, .unset, .unset] [(.ref b29)])) _
      refine XS.astore X31.here hx rfl (hb hby at_141) rfl rfl (l' := #[.val (.int p0), .val (.int p1), .val (.int p2), .val (.int p3), .val (.int (p1 &&& (255 : Int32))), .val (.int (p2 &&& (255 : Int32))), .val (.int (p3 &&& (255 : Int32))), .val (.ref b1), .val (.ref b3), .val (.ref b8), .val (.ref b16), .val (.int (p0 &&& (3 : Int32))), .val (.ref b29), .unset, .unset, .unset, .unset]) rfl ?_
      show Steps p.tables e below (T31.setTop (mkF m 143 #[.val (.int p0), .val (.int p1), .val (.int p2), .val (.int p3), .val (.int (p1 &&& (255 : Int32))), .val (.int (p2 &&& (255 : Int32))), .val (.int (p3 &&& (255 : Int32))), .val (.ref b1), .val (.ref b3), .val (.ref b8), .val (.ref b16), .val (.int (p0 &&& (3 : Int32))), .val (.ref b29), .unset, .unset, .unset, .unset] [])) _
      refine XS.aload X31.here hx rfl (hb hby at_143) rfl rfl ?_
      show Steps p.tables e below (T31.setTop (mkF m 145 #[.val (.int p0), .val (.int p1), .val (.int p2), .val (.int p3), .val (.int (p1 &&& (255 : Int32))), .val (.int (p2 &&& (255 : Int32))), .val (.int (p3 &&& (255 : Int32))), .val (.ref b1), .val (.ref b3), .val (.ref b8), .val (.ref b16), .val (.int (p0 &&& (3 : Int32))), .val (.ref b29), .unset, .unset, .unset, .unset] [(.ref b29)])) _
      refine st33 _ ?_
      show Steps p.tables e below (T33.setTop (mkF m 148 #[.val (.int p0), .val (.int p1), .val (.int p2), .val (.int p3), .val (.int (p1 &&& (255 : Int32))), .val (.int (p2 &&& (255 : Int32))), .val (.int (p3 &&& (255 : Int32))), .val (.ref b1), .val (.ref b3), .val (.ref b8), .val (.ref b16), .val (.int (p0 &&& (3 : Int32))), .val (.ref b29), .unset, .unset, .unset, .unset] [(.ref b_33)])) _
      refine XS.astore X33.here hx rfl (hb hby at_148) rfl rfl (l' := #[.val (.int p0), .val (.int p1), .val (.int p2), .val (.int p3), .val (.int (p1 &&& (255 : Int32))), .val (.int (p2 &&& (255 : Int32))), .val (.int (p3 &&& (255 : Int32))), .val (.ref b1), .val (.ref b3), .val (.ref b8), .val (.ref b16), .val (.int (p0 &&& (3 : Int32))), .val (.ref b29), .val (.ref b_33), .unset, .unset, .unset]) rfl ?_
      show Steps p.tables e below (T33.setTop (mkF m 150 #[.val (.int p0), .val (.int p1), .val (.int p2), .val (.int p3), .val (.int (p1 &&& (255 : Int32))), .val (.int (p2 &&& (255 : Int32))), .val (.int (p3 &&& (255 : Int32))), .val (.ref b1), .val (.ref b3), .val (.ref b8), .val (.ref b16), .val (.int (p0 &&& (3 : Int32))), .val (.ref b29), .val (.ref b_33), .unset, .unset, .unset] [])) _
      refine XS.aload X33.here hx rfl (hb hby at_150) rfl rfl ?_
      show Steps p.tables e below (T33.setTop (mkF m 152 #[.val (.int p0), .val (.int p1), .val (.int p2), .val (.int p3), .val (.int (p1 &&& (255 : Int32))), .val (.int (p2 &&& (255 : Int32))), .val (.int (p3 &&& (255 : Int32))), .val (.ref b1), .val (.ref b3), .val (.ref b8), .val (.ref b16), .val (.int (p0 &&& (3 : Int32))), .val (.ref b29), .val (.ref b_33), .unset, .unset, .unset] [(.ref b_33)])) _
      refine st35.trans ?_
      show Steps p.tables e below (T35.setTop (mkF m 155 #[.val (.int p0), .val (.int p1), .val (.int p2), .val (.int p3), .val (.int (p1 &&& (255 : Int32))), .val (.int (p2 &&& (255 : Int32))), .val (.int (p3 &&& (255 : Int32))), .val (.ref b1), .val (.ref b3), .val (.ref b8), .val (.ref b16), .val (.int (p0 &&& (3 : Int32))), .val (.ref b29), .val (.ref b_33), .unset, .unset, .unset] [(.ref aRS)])) _
      refine st36 _ ?_
      show Steps p.tables e below (T36.setTop (mkF m 158 #[.val (.int p0), .val (.int p1), .val (.int p2), .val (.int p3), .val (.int (p1 &&& (255 : Int32))), .val (.int (p2 &&& (255 : Int32))), .val (.int (p3 &&& (255 : Int32))), .val (.ref b1), .val (.ref b3), .val (.ref b8), .val (.ref b16), .val (.int (p0 &&& (3 : Int32))), .val (.ref b29), .val (.ref b_33), .unset, .unset, .unset] [(.ref aRS), (.ref aRS)])) _
      refine Jvm.RoadKit.acmp (g := (mkF m 158 #[.val (.int p0), .val (.int p1), .val (.int p2), .val (.int p3), .val (.int (p1 &&& (255 : Int32))), .val (.int (p2 &&& (255 : Int32))), .val (.int (p3 &&& (255 : Int32))), .val (.ref b1), .val (.ref b3), .val (.ref b8), .val (.ref b16), .val (.int (p0 &&& (3 : Int32))), .val (.ref b29), .val (.ref b_33), .unset, .unset, .unset] [(.ref aRS), (.ref aRS)])) X36 hx rfl rfl rfl (pc0 := 158) (pc' := 161) (same := true) rfl (hb hby at_158) rfl (decide_eq_true rfl) (by decide) (by decide) ?_
      show Steps p.tables e below (T36.setTop (mkF m 161 #[.val (.int p0), .val (.int p1), .val (.int p2), .val (.int p3), .val (.int (p1 &&& (255 : Int32))), .val (.int (p2 &&& (255 : Int32))), .val (.int (p3 &&& (255 : Int32))), .val (.ref b1), .val (.ref b3), .val (.ref b8), .val (.ref b16), .val (.int (p0 &&& (3 : Int32))), .val (.ref b29), .val (.ref b_33), .unset, .unset, .unset] [])) _
      refine XS.iconst X36.here hx rfl (hb hby at_161) ?_
      show Steps p.tables e below (T36.setTop (mkF m 162 #[.val (.int p0), .val (.int p1), .val (.int p2), .val (.int p3), .val (.int (p1 &&& (255 : Int32))), .val (.int (p2 &&& (255 : Int32))), .val (.int (p3 &&& (255 : Int32))), .val (.ref b1), .val (.ref b3), .val (.ref b8), .val (.ref b16), .val (.int (p0 &&& (3 : Int32))), .val (.ref b29), .val (.ref b_33), .unset, .unset, .unset] [(.int (1 : Int32))])) _
      refine XS.goto X36.here hx rfl (pc0 := 162) (pc' := 166) rfl (hb hby at_162) (by decide) (by decide) ?_
      show Steps p.tables e below (T36.setTop (mkF m 166 #[.val (.int p0), .val (.int p1), .val (.int p2), .val (.int p3), .val (.int (p1 &&& (255 : Int32))), .val (.int (p2 &&& (255 : Int32))), .val (.int (p3 &&& (255 : Int32))), .val (.ref b1), .val (.ref b3), .val (.ref b8), .val (.ref b16), .val (.int (p0 &&& (3 : Int32))), .val (.ref b29), .val (.ref b_33), .unset, .unset, .unset] [(.int (1 : Int32))])) _
      refine XS.istore X36.here hx rfl (hb hby at_166) rfl (l' := #[.val (.int p0), .val (.int p1), .val (.int p2), .val (.int p3), .val (.int (p1 &&& (255 : Int32))), .val (.int (p2 &&& (255 : Int32))), .val (.int (p3 &&& (255 : Int32))), .val (.ref b1), .val (.ref b3), .val (.ref b8), .val (.ref b16), .val (.int (p0 &&& (3 : Int32))), .val (.ref b29), .val (.ref b_33), .val (.int (1 : Int32)), .unset, .unset]) rfl ?_
      show Steps p.tables e below (T36.setTop (mkF m 168 #[.val (.int p0), .val (.int p1), .val (.int p2), .val (.int p3), .val (.int (p1 &&& (255 : Int32))), .val (.int (p2 &&& (255 : Int32))), .val (.int (p3 &&& (255 : Int32))), .val (.ref b1), .val (.ref b3), .val (.ref b8), .val (.ref b16), .val (.int (p0 &&& (3 : Int32))), .val (.ref b29), .val (.ref b_33), .val (.int (1 : Int32)), .unset, .unset] [])) _
      refine XS.aload X36.here hx rfl (hb hby at_168) rfl rfl ?_
      show Steps p.tables e below (T36.setTop (mkF m 170 #[.val (.int p0), .val (.int p1), .val (.int p2), .val (.int p3), .val (.int (p1 &&& (255 : Int32))), .val (.int (p2 &&& (255 : Int32))), .val (.int (p3 &&& (255 : Int32))), .val (.ref b1), .val (.ref b3), .val (.ref b8), .val (.ref b16), .val (.int (p0 &&& (3 : Int32))), .val (.ref b29), .val (.ref b_33), .val (.int (1 : Int32)), .unset, .unset] [(.ref b29)])) _
      refine XS.aload X36.here hx rfl (hb hby at_170) rfl rfl ?_
      show Steps p.tables e below (T36.setTop (mkF m 172 #[.val (.int p0), .val (.int p1), .val (.int p2), .val (.int p3), .val (.int (p1 &&& (255 : Int32))), .val (.int (p2 &&& (255 : Int32))), .val (.int (p3 &&& (255 : Int32))), .val (.ref b1), .val (.ref b3), .val (.ref b8), .val (.ref b16), .val (.int (p0 &&& (3 : Int32))), .val (.ref b29), .val (.ref b_33), .val (.int (1 : Int32)), .unset, .unset] [(.ref b_33), (.ref b29)])) _
      refine st37.trans ?_
      show Steps p.tables e below (T37.setTop (mkF m 175 #[.val (.int p0), .val (.int p1), .val (.int p2), .val (.int p3), .val (.int (p1 &&& (255 : Int32))), .val (.int (p2 &&& (255 : Int32))), .val (.int (p3 &&& (255 : Int32))), .val (.ref b1), .val (.ref b3), .val (.ref b8), .val (.ref b16), .val (.int (p0 &&& (3 : Int32))), .val (.ref b29), .val (.ref b_33), .val (.int (1 : Int32)), .unset, .unset] [(.ref b29), (.ref b29)])) _
      refine st38.trans ?_
      show Steps p.tables e below (T38.setTop (mkF m 178 #[.val (.int p0), .val (.int p1), .val (.int p2), .val (.int p3), .val (.int (p1 &&& (255 : Int32))), .val (.int (p2 &&& (255 : Int32))), .val (.int (p3 &&& (255 : Int32))), .val (.ref b1), .val (.ref b3), .val (.ref b8), .val (.ref b16), .val (.int (p0 &&& (3 : Int32))), .val (.ref b29), .val (.ref b_33), .val (.int (1 : Int32)), .unset, .unset] [(.int (1 : Int32))])) _
      refine XS.istore X38.here hx rfl (hb hby at_178) rfl (l' := #[.val (.int p0), .val (.int p1), .val (.int p2), .val (.int p3), .val (.int (p1 &&& (255 : Int32))), .val (.int (p2 &&& (255 : Int32))), .val (.int (p3 &&& (255 : Int32))), .val (.ref b1), .val (.ref b3), .val (.ref b8), .val (.ref b16), .val (.int (p0 &&& (3 : Int32))), .val (.ref b29), .val (.ref b_33), .val (.int (1 : Int32)), .val (.int (1 : Int32)), .unset]) rfl ?_
      show Steps p.tables e below (T38.setTop (mkF m 180 #[.val (.int p0), .val (.int p1), .val (.int p2), .val (.int p3), .val (.int (p1 &&& (255 : Int32))), .val (.int (p2 &&& (255 : Int32))), .val (.int (p3 &&& (255 : Int32))), .val (.ref b1), .val (.ref b3), .val (.ref b8), .val (.ref b16), .val (.int (p0 &&& (3 : Int32))), .val (.ref b29), .val (.ref b_33), .val (.int (1 : Int32)), .val (.int (1 : Int32)), .unset] [])) _
      refine XS.aload X38.here hx rfl (hb hby at_180) rfl rfl ?_
      show Steps p.tables e below (T38.setTop (mkF m 182 #[.val (.int p0), .val (.int p1), .val (.int p2), .val (.int p3), .val (.int (p1 &&& (255 : Int32))), .val (.int (p2 &&& (255 : Int32))), .val (.int (p3 &&& (255 : Int32))), .val (.ref b1), .val (.ref b3), .val (.ref b8), .val (.ref b16), .val (.int (p0 &&& (3 : Int32))), .val (.ref b29), .val (.ref b_33), .val (.int (1 : Int32)), .val (.int (1 : Int32)), .unset] [(.ref b_33)])) _
      refine st39.trans ?_
      show Steps p.tables e below (T39.setTop (mkF m 185 #[.val (.int p0), .val (.int p1), .val (.int p2), .val (.int p3), .val (.int (p1 &&& (255 : Int32))), .val (.int (p2 &&& (255 : Int32))), .val (.int (p3 &&& (255 : Int32))), .val (.ref b1), .val (.ref b3), .val (.ref b8), .val (.ref b16), .val (.int (p0 &&& (3 : Int32))), .val (.ref b29), .val (.ref b_33), .val (.int (1 : Int32)), .val (.int (1 : Int32)), .unset] [(.ref aEM)])) _
      refine st40.trans ?_
      show Steps p.tables e below (T40.setTop (mkF m 188 #[.val (.int p0), .val (.int p1), .val (.int p2), .val (.int p3), .val (.int (p1 &&& (255 : Int32))), .val (.int (p2 &&& (255 : Int32))), .val (.int (p3 &&& (255 : Int32))), .val (.ref b1), .val (.ref b3), .val (.ref b8), .val (.ref b16), .val (.int (p0 &&& (3 : Int32))), .val (.ref b29), .val (.ref b_33), .val (.int (1 : Int32)), .val (.int (1 : Int32)), .unset] [(.int (0 : Int32))])) _
      refine XS.ifNo X40.here hx rfl (hb hby at_188) rfl ((if0 _ _).trans (teq (by decide : (0 : Int32) = (0 : Int32))).2) ?_
      show Steps p.tables e below (T40.setTop (mkF m 191 #[.val (.int p0), .val (.int p1), .val (.int p2), .val (.int p3), .val (.int (p1 &&& (255 : Int32))), .val (.int (p2 &&& (255 : Int32))), .val (.int (p3 &&& (255 : Int32))), .val (.ref b1), .val (.ref b3), .val (.ref b8), .val (.ref b16), .val (.int (p0 &&& (3 : Int32))), .val (.ref b29), .val (.ref b_33), .val (.int (1 : Int32)), .val (.int (1 : Int32)), .unset] [])) _
      refine XS.iconst X40.here hx rfl (hb hby at_191) ?_
      show Steps p.tables e below (T40.setTop (mkF m 192 #[.val (.int p0), .val (.int p1), .val (.int p2), .val (.int p3), .val (.int (p1 &&& (255 : Int32))), .val (.int (p2 &&& (255 : Int32))), .val (.int (p3 &&& (255 : Int32))), .val (.ref b1), .val (.ref b3), .val (.ref b8), .val (.ref b16), .val (.int (p0 &&& (3 : Int32))), .val (.ref b29), .val (.ref b_33), .val (.int (1 : Int32)), .val (.int (1 : Int32)), .unset] [(.int (1 : Int32))])) _
      refine XS.goto X40.here hx rfl (pc0 := 192) (pc' := 196) rfl (hb hby at_192) (by decide) (by decide) ?_
      show Steps p.tables e below (T40.setTop (mkF m 196 #[.val (.int p0), .val (.int p1), .val (.int p2), .val (.int p3), .val (.int (p1 &&& (255 : Int32))), .val (.int (p2 &&& (255 : Int32))), .val (.int (p3 &&& (255 : Int32))), .val (.ref b1), .val (.ref b3), .val (.ref b8), .val (.ref b16), .val (.int (p0 &&& (3 : Int32))), .val (.ref b29), .val (.ref b_33), .val (.int (1 : Int32)), .val (.int (1 : Int32)), .unset] [(.int (1 : Int32))])) _
      refine XS.istore X40.here hx rfl (hb hby at_196) rfl (l' := #[.val (.int p0), .val (.int p1), .val (.int p2), .val (.int p3), .val (.int (p1 &&& (255 : Int32))), .val (.int (p2 &&& (255 : Int32))), .val (.int (p3 &&& (255 : Int32))), .val (.ref b1), .val (.ref b3), .val (.ref b8), .val (.ref b16), .val (.int (p0 &&& (3 : Int32))), .val (.ref b29), .val (.ref b_33), .val (.int (1 : Int32)), .val (.int (1 : Int32)), .val (.int (1 : Int32))]) rfl ?_
      show Steps p.tables e below (T40.setTop (mkF m 198 #[.val (.int p0), .val (.int p1), .val (.int p2), .val (.int p3), .val (.int (p1 &&& (255 : Int32))), .val (.int (p2 &&& (255 : Int32))), .val (.int (p3 &&& (255 : Int32))), .val (.ref b1), .val (.ref b3), .val (.ref b8), .val (.ref b16), .val (.int (p0 &&& (3 : Int32))), .val (.ref b29), .val (.ref b_33), .val (.int (1 : Int32)), .val (.int (1 : Int32)), .val (.int (1 : Int32))] [])) _
      refine XS.iload X40.here hx rfl (hb hby at_198) rfl ?_
      show Steps p.tables e below (T40.setTop (mkF m 200 #[.val (.int p0), .val (.int p1), .val (.int p2), .val (.int p3), .val (.int (p1 &&& (255 : Int32))), .val (.int (p2 &&& (255 : Int32))), .val (.int (p3 &&& (255 : Int32))), .val (.ref b1), .val (.ref b3), .val (.ref b8), .val (.ref b16), .val (.int (p0 &&& (3 : Int32))), .val (.ref b29), .val (.ref b_33), .val (.int (1 : Int32)), .val (.int (1 : Int32)), .val (.int (1 : Int32))] [(.int (1 : Int32))])) _
      refine XS.ifNo X40.here hx rfl (hb hby at_200) rfl ((if0 _ _).trans (feq (by decide : ¬ ((1 : Int32) = (0 : Int32)))).1) ?_
      show Steps p.tables e below (T40.setTop (mkF m 203 #[.val (.int p0), .val (.int p1), .val (.int p2), .val (.int p3), .val (.int (p1 &&& (255 : Int32))), .val (.int (p2 &&& (255 : Int32))), .val (.int (p3 &&& (255 : Int32))), .val (.ref b1), .val (.ref b3), .val (.ref b8), .val (.ref b16), .val (.int (p0 &&& (3 : Int32))), .val (.ref b29), .val (.ref b_33), .val (.int (1 : Int32)), .val (.int (1 : Int32)), .val (.int (1 : Int32))] [])) _
      refine XS.iload X40.here hx rfl (hb hby at_203) rfl ?_
      show Steps p.tables e below (T40.setTop (mkF m 205 #[.val (.int p0), .val (.int p1), .val (.int p2), .val (.int p3), .val (.int (p1 &&& (255 : Int32))), .val (.int (p2 &&& (255 : Int32))), .val (.int (p3 &&& (255 : Int32))), .val (.ref b1), .val (.ref b3), .val (.ref b8), .val (.ref b16), .val (.int (p0 &&& (3 : Int32))), .val (.ref b29), .val (.ref b_33), .val (.int (1 : Int32)), .val (.int (1 : Int32)), .val (.int (1 : Int32))] [(.int (1 : Int32))])) _
      refine XS.ifNo X40.here hx rfl (hb hby at_205) rfl ((if0 _ _).trans (feq (by decide : ¬ ((1 : Int32) = (0 : Int32)))).1) ?_
      show Steps p.tables e below (T40.setTop (mkF m 208 #[.val (.int p0), .val (.int p1), .val (.int p2), .val (.int p3), .val (.int (p1 &&& (255 : Int32))), .val (.int (p2 &&& (255 : Int32))), .val (.int (p3 &&& (255 : Int32))), .val (.ref b1), .val (.ref b3), .val (.ref b8), .val (.ref b16), .val (.int (p0 &&& (3 : Int32))), .val (.ref b29), .val (.ref b_33), .val (.int (1 : Int32)), .val (.int (1 : Int32)), .val (.int (1 : Int32))] [])) _
      refine XS.iload X40.here hx rfl (hb hby at_208) rfl ?_
      show Steps p.tables e below (T40.setTop (mkF m 210 #[.val (.int p0), .val (.int p1), .val (.int p2), .val (.int p3), .val (.int (p1 &&& (255 : Int32))), .val (.int (p2 &&& (255 : Int32))), .val (.int (p3 &&& (255 : Int32))), .val (.ref b1), .val (.ref b3), .val (.ref b8), .val (.ref b16), .val (.int (p0 &&& (3 : Int32))), .val (.ref b29), .val (.ref b_33), .val (.int (1 : Int32)), .val (.int (1 : Int32)), .val (.int (1 : Int32))] [(.int (1 : Int32))])) _
      refine XS.ifNo X40.here hx rfl (hb hby at_210) rfl ((if0 _ _).trans (feq (by decide : ¬ ((1 : Int32) = (0 : Int32)))).1) ?_
      show Steps p.tables e below (T40.setTop (mkF m 213 #[.val (.int p0), .val (.int p1), .val (.int p2), .val (.int p3), .val (.int (p1 &&& (255 : Int32))), .val (.int (p2 &&& (255 : Int32))), .val (.int (p3 &&& (255 : Int32))), .val (.ref b1), .val (.ref b3), .val (.ref b8), .val (.ref b16), .val (.int (p0 &&& (3 : Int32))), .val (.ref b29), .val (.ref b_33), .val (.int (1 : Int32)), .val (.int (1 : Int32)), .val (.int (1 : Int32))] [])) _
      refine XS.iconst X40.here hx rfl (hb hby at_213) ?_
      show Steps p.tables e below (T40.setTop (mkF m 214 #[.val (.int p0), .val (.int p1), .val (.int p2), .val (.int p3), .val (.int (p1 &&& (255 : Int32))), .val (.int (p2 &&& (255 : Int32))), .val (.int (p3 &&& (255 : Int32))), .val (.ref b1), .val (.ref b3), .val (.ref b8), .val (.ref b16), .val (.int (p0 &&& (3 : Int32))), .val (.ref b29), .val (.ref b_33), .val (.int (1 : Int32)), .val (.int (1 : Int32)), .val (.int (1 : Int32))] [(.int (1 : Int32))])) _
      refine XS.goto X40.here hx rfl (pc0 := 214) (pc' := 218) rfl (hb hby at_214) (by decide) (by decide) ?_
      show Steps p.tables e below (T40.setTop (mkF m 218 #[.val (.int p0), .val (.int p1), .val (.int p2), .val (.int p3), .val (.int (p1 &&& (255 : Int32))), .val (.int (p2 &&& (255 : Int32))), .val (.int (p3 &&& (255 : Int32))), .val (.ref b1), .val (.ref b3), .val (.ref b8), .val (.ref b16), .val (.int (p0 &&& (3 : Int32))), .val (.ref b29), .val (.ref b_33), .val (.int (1 : Int32)), .val (.int (1 : Int32)), .val (.int (1 : Int32))] [(.int (1 : Int32))])) _
      exact retN X40 hx (t := .boolean) Bd.returns (by simp) (hb hby at_218) hr
    · show Q_rm0 n0 _ T40.heap _
      rw [e40]
      exact ⟨rfl, N40⟩
  · have pre42 : ∀ t, Steps p.tables e below (T24.setTop (mkF m 99 #[.val (.int p0), .val (.int p1), .val (.int p2), .val (.int p3), .val (.int (p1 &&& (255 : Int32))), .val (.int (p2 &&& (255 : Int32))), .val (.int (p3 &&& (255 : Int32))), .val (.ref b1), .val (.ref b3), .val (.ref b8), .val (.ref b16), .val (.int (p0 &&& (3 : Int32))), .unset, .unset, .unset, .unset, .unset] [(.int (1 : Int32)), (.int (p0 &&& (3 : Int32)))])) t → Steps p.tables e below (s₁.setTop (entryFrame m #[(.int p0), (.int p1), (.int p2), (.int p3)] maxLocals)) t := fun t kt => by
      refine pre28 t ?_
      show Steps p.tables e below (T24.setTop (mkF m 81 #[.val (.int p0), .val (.int p1), .val (.int p2), .val (.int p3), .val (.int (p1 &&& (255 : Int32))), .val (.int (p2 &&& (255 : Int32))), .val (.int (p3 &&& (255 : Int32))), .val (.ref b1), .val (.ref b3), .val (.ref b8), .val (.ref b16), .val (.int (p0 &&& (3 : Int32))), .unset, .unset, .unset, .unset, .unset] [(.int (p0 &&& (3 : Int32)))])) _
      refine XS.ifYes X24.here hx rfl (pc0 := 81) (pc' := 96) rfl (hb hby at_81) rfl ((if0 _ _).trans (feq hc81_27).2) (by decide) (by decide) ?_
      show Steps p.tables e below (T24.setTop (mkF m 96 #[.val (.int p0), .val (.int p1), .val (.int p2), .val (.int p3), .val (.int (p1 &&& (255 : Int32))), .val (.int (p2 &&& (255 : Int32))), .val (.int (p3 &&& (255 : Int32))), .val (.ref b1), .val (.ref b3), .val (.ref b8), .val (.ref b16), .val (.int (p0 &&& (3 : Int32))), .unset, .unset, .unset, .unset, .unset] [])) _
      refine XS.iload X24.here hx rfl (hb hby at_96) rfl ?_
      show Steps p.tables e below (T24.setTop (mkF m 98 #[.val (.int p0), .val (.int p1), .val (.int p2), .val (.int p3), .val (.int (p1 &&& (255 : Int32))), .val (.int (p2 &&& (255 : Int32))), .val (.int (p3 &&& (255 : Int32))), .val (.ref b1), .val (.ref b3), .val (.ref b8), .val (.ref b16), .val (.int (p0 &&& (3 : Int32))), .unset, .unset, .unset, .unset, .unset] [(.int (p0 &&& (3 : Int32)))])) _
      refine XS.iconst X24.here hx rfl (hb hby at_98) ?_
      exact kt
    by_cases hc99_41 : (p0 &&& (3 : Int32)) = (1 : Int32)
    · obtain ⟨T43, h43, X43, e43, E43, A43, D43, -, st43⟩ := newO X24 hx hZ hown (Wd hw 1 rfl) (Wd hw 2 rfl) (Wd hw 3 rfl) e24 (g := (mkF m 102 #[.val (.int p0), .val (.int p1), .val (.int p2), .val (.int p3), .val (.int (p1 &&& (255 : Int32))), .val (.int (p2 &&& (255 : Int32))), .val (.int (p3 &&& (255 : Int32))), .val (.ref b1), .val (.ref b3), .val (.ref b8), .val (.ref b16), .val (.int (p0 &&& (3 : Int32))), .unset, .unset, .unset, .unset, .unset] [])) rfl (hb hby at_102) (by decide) (by decide)
      obtain ⟨b43, g43⟩ : ∃ z, z = h24.size := ⟨_, rfl⟩
      rw [← g43] at A43 D43 st43
      have g_b43 : n0 ≤ b43 := Nat.le_trans (own_sz O24) (Nat.le_of_eq g43.symm)
      have H_44 := H_25.ext E43
      have R_44 := R_25.trans (CHr.ext E43 H_25)
      have O43 := O24.ext E43
      have F_value_b43 : Fld Z h43 b43 "java/lang/String" "value" "[B" .null := D43 (Or.inr (Wd hw 16 rfl)) (ty := (.array .byte)) (by decide)
      have F_coder_b43 : Fld Z h43 b43 "java/lang/String" "coder" "B" (.int (0 : Int32)) := D43 (Or.inr (Wd hw 17 rfl)) (ty := .byte) (by decide)
      obtain ⟨_, _, ⟨T45, L45, k45, n45⟩, -, X45, ⟨Lc45, hQ45, l45, y45, z45⟩, st45⟩ := X43.specialBack hx (y := MN_4) rfl hown (mvT hZ (Wd hw 4 rfl)) (mvT hZ (Wd hw 5 rfl)) (mvT hZ (Wd hw 6 rfl)) (by decide) (backOf (W := 1) (rmIc_1 l Z a0 hw [] cS aRS aEM aUS aSS (b43) (b3) (k3) ((p1 &&& (255 : Int32))) (h43) n0 O43 GL A43 F_value_b43 F_coder_b43 g_b43 ((((((((V5.ext E8).other W10 (Nat.ne_of_lt (Nat.lt_of_lt_of_le (Nat.lt_of_lt_of_le V_b3.lt (Keep.of_wr W5).1) (Nat.le_of_eq g8.symm)))).other W13 (Nat.ne_of_lt (Nat.lt_of_lt_of_le (Nat.lt_of_lt_of_le V_b3.lt (Keep.of_wr W5).1) (Nat.le_of_eq g8.symm)))).ext E16).other W18 (Nat.ne_of_lt (Nat.lt_of_lt_of_le (Nat.lt_of_lt_of_le V_b3.lt (Nat.le_trans (Nat.le_trans (Nat.le_trans (Keep.of_wr W5).1 E8.1) (Keep.of_wr W10).1) (Keep.of_wr W13).1)) (Nat.le_of_eq g16.symm)))).other W21 (Nat.ne_of_lt (Nat.lt_of_lt_of_le (Nat.lt_of_lt_of_le V_b3.lt (Nat.le_trans (Nat.le_trans (Nat.le_trans (Keep.of_wr W5).1 E8.1) (Keep.of_wr W10).1) (Keep.of_wr W13).1)) (Nat.le_of_eq g16.symm)))).other W24 (Nat.ne_of_lt (Nat.lt_of_lt_of_le (Nat.lt_of_lt_of_le V_b3.lt (Nat.le_trans (Nat.le_trans (Nat.le_trans (Keep.of_wr W5).1 E8.1) (Keep.of_wr W10).1) (Keep.of_wr W13).1)) (Nat.le_of_eq g16.symm)))).ext E43) hq1) hZ (Wd hw 6 rfl) (Wd hw 3 rfl) (by decide) (by decide)) (g := (mkF m 108 #[.val (.int p0), .val (.int p1), .val (.int p2), .val (.int p3), .val (.int (p1 &&& (255 : Int32))), .val (.int (p2 &&& (255 : Int32))), .val (.int (p3 &&& (255 : Int32))), .val (.ref b1), .val (.ref b3), .val (.ref b8), .val (.ref b16), .val (.int (p0 &&& (3 : Int32))), .unset, .unset, .unset, .unset, .unset] [(.ref b3), (.ref b43), (.ref b43)])) rfl (by rw [hml]; rfl) (Steps.refl _) (a := b43) (argsL := [(.ref b3)]) (rest := [(.ref b43)]) (lenOf pdv8 rfl) rfl (by show 2 * 0 + _ ≤ _; exact Nat.le_of_eq rfl) (hb hby at_108) (fun _ _ => ⟨rfl, e43, (by decide : 5 + 1 ≤ _), (by decide : 10 + 1 ≤ _)⟩)
      dsimp only [Pt.U, Pt.locs, Pt.cells, Pt.slots] at X45 l45 y45 z45 st45 hQ45
      subst l45 y45 z45
      obtain ⟨b_45, kb_45, rfl, N45q, Kc45, P45_0, P45_1, P45_2, P45_3, P45_4, P45_5⟩ := hQ45
      have O45 := O43.keep Kc45 (allS g_b43 all0)
      have Sf47 : Safe Z EL1 s.vm h43 b43 := (Safe.ext E43 H_25 (Safe.new (Z := Z) (EL := EL1) (vm := s.vm) (Nat.le_of_eq g43.symm)))
      have H_46 := H_44.keep Kc45 (sfS Sf47 sf0)
      have R_46 := R_44.trans (CHr.keep Kc45 (sfS Sf47 sf0) H_44)
      have g_b_45 : n0 ≤ b_45 := Nat.le_trans (own_sz O43) P45_0
      have N45 := Fr.app N24 N45q
      obtain ⟨_, _, ⟨T48, L48, k48, n48⟩, -, X48, ⟨Lc48, hQ48, l48, y48, z48⟩, st48⟩ := Jvm.LawKit.callS X45 hx (y := MN_11) hown (mvT hZ (Wd hw 22 rfl)) (mvT hZ (Wd hw 23 rfl)) (mvT hZ (Wd hw 24 rfl)) (mvT hZ (Wd hw 25 rfl)) (by decide) (backOf (W := 0) (rmMk l Z a0 hw [] cS aRS aEM aUS aSS (b43) (T45.heap) n0 O45 GL) hZ (Wd hw 25 rfl) (Wd hw 24 rfl) (by decide) (by decide)) (g := (mkF m 145 #[.val (.int p0), .val (.int p1), .val (.int p2), .val (.int p3), .val (.int (p1 &&& (255 : Int32))), .val (.int (p2 &&& (255 : Int32))), .val (.int (p3 &&& (255 : Int32))), .val (.ref b1), .val (.ref b3), .val (.ref b8), .val (.ref b16), .val (.int (p0 &&& (3 : Int32))), .val (.ref b43), .unset, .unset, .unset, .unset] [(.ref b43)])) rfl (by rw [hml]; rfl) (argsL := [(.ref b43)]) (rest := []) (lenOf pdv9 rfl) rfl (by show 2 * 0 + _ ≤ _; exact Nat.le_of_eq rfl) (hb hby at_145) (fun _ _ => ⟨rfl, rfl, (by decide : 6 + 1 ≤ _), (by decide : 11 + 8 ≤ _)⟩)
      dsimp only [Pt.U, Pt.locs, Pt.cells, Pt.slots] at X48 l48 y48 z48 st48 hQ48
      subst l48 y48 z48
      obtain ⟨b_48, rfl, N48q, Kc48, P48_0, P48_1, P48_2, P48_3, P48_4⟩ := hQ48
      have O48 := O45.keep Kc48 all0
      have H_49 := H_46.keep Kc48 sf0
      have R_49 := R_46.trans (CHr.keep Kc48 sf0 H_46)
      have g_b_48 : n0 ≤ b_48 := Nat.le_trans (own_sz O45) P48_0
      have N48 := Fr.app N45 N48q
      obtain ⟨cq50, kq50, q50a, q50b, q50c⟩ := isOf hZ rfl P48_1
      obtain ⟨_, _, ⟨T50, L50, k50, n50⟩, -, X50, ⟨Lc50, hQ50, l50, y50, z50⟩, st50⟩ := X48.virtualBack hx (y := MN_12) (z := MN_12) hown (mvT hZ (Wd hw 74 rfl)) (mvT hZ (Wd hw 75 rfl)) (notFace_of_selects (args := #[]) (mvT hZ (Wd hw 77 rfl))) (mvT hZ (Wd hw 77 rfl)) (mvT hZ (Wd hw 76 rfl)) (by decide) (backOf (W := 0) (rmGr l Z a0 hw [] cS aRS aEM aUS aSS (b_48) (aRS) (T48.heap) n0 O48 GL P48_3) hZ (Wd hw 78 rfl) (Wd hw 24 rfl) (by decide) (by decide)) q50a q50c (g := (mkF m 152 #[.val (.int p0), .val (.int p1), .val (.int p2), .val (.int p3), .val (.int (p1 &&& (255 : Int32))), .val (.int (p2 &&& (255 : Int32))), .val (.int (p3 &&& (255 : Int32))), .val (.ref b1), .val (.ref b3), .val (.ref b8), .val (.ref b16), .val (.int (p0 &&& (3 : Int32))), .val (.ref b43), .val (.ref b_48), .unset, .unset, .unset] [(.ref b_48)])) rfl (by rw [hml]; rfl) (Steps.refl _) (argsL := []) (rest := []) (lenOf pdv10 rfl) rfl (by show 2 * 0 + _ ≤ _; exact Nat.le_of_eq rfl) (hb hby at_152) (fun _ _ => ⟨rfl, rfl, (by decide : 7 + 0 ≤ _), (by decide : 19 + 0 ≤ _)⟩)
      dsimp only [Pt.U, Pt.locs, Pt.cells, Pt.slots] at X50 l50 y50 z50 st50 hQ50
      subst l50 y50 z50
      obtain ⟨rfl, N50q, e50⟩ := hQ50
      have N50 := Fr.app N48 N50q
      obtain ⟨T51, X51, e51, st51⟩ := getS2 X50 hx hZ hown (host := "") (Or.inl (Wd hw 79 rfl)) Via.refl e50 (GSR.ext O48.2) (g := (mkF m 155 #[.val (.int p0), .val (.int p1), .val (.int p2), .val (.int p3), .val (.int (p1 &&& (255 : Int32))), .val (.int (p2 &&& (255 : Int32))), .val (.int (p3 &&& (255 : Int32))), .val (.ref b1), .val (.ref b3), .val (.ref b8), .val (.ref b16), .val (.int (p0 &&& (3 : Int32))), .val (.ref b43), .val (.ref b_48), .unset, .unset, .unset] [(.ref aRS)])) rfl (hb hby at_155)
      obtain ⟨cq52, kq52, q52a, q52b, q52c⟩ := isOf hZ e51 P48_1
      obtain ⟨_, _, ⟨T52, L52, k52, n52⟩, -, X52, ⟨Lc52, hQ52, l52, y52, z52⟩, st52⟩ := X51.virtualBackUp hx (owner := "java/lang/Throwable") (x := MN_17) (y := MN_14) hown (mvT hZ (Wd hw 80 rfl)) (mvT hZ (Wd hw 81 rfl)) (mvT hZ (Wd hw 82 rfl)) (by decide) (mvT hZ (Wd hw 84 rfl)) (mvT hZ (Wd hw 83 rfl)) (backOf (W := 1) (rmGm l Z a0 hw [] cS aRS aEM aUS aSS (b_48) (b43) (T48.heap) n0 O48 GL P48_2) hZ (Wd hw 85 rfl) (Wd hw 57 rfl) (by decide) (by decide)) q52a q52c (g := (mkF m 172 #[.val (.int p0), .val (.int p1), .val (.int p2), .val (.int p3), .val (.int (p1 &&& (255 : Int32))), .val (.int (p2 &&& (255 : Int32))), .val (.int (p3 &&& (255 : Int32))), .val (.ref b1), .val (.ref b3), .val (.ref b8), .val (.ref b16), .val (.int (p0 &&& (3 : Int32))), .val (.ref b43), .val (.ref b_48), .val (.int (1 : Int32)), .unset, .unset] [(.ref b_48), (.ref b43)])) rfl (by rw [hml]; rfl) (Steps.refl _) (argsL := []) (rest := [(.ref b43)]) (lenOf pdv11 rfl) rfl (by show 2 * 0 + _ ≤ _; exact Nat.le_of_eq rfl) (hb hby at_172) (fun _ _ => ⟨rfl, e51, (by decide : 7 + 0 ≤ _), (by decide : 19 + 0 ≤ _)⟩)
      dsimp only [Pt.U, Pt.locs, Pt.cells, Pt.slots] at X52 l52 y52 z52 st52 hQ52
      subst l52 y52 z52
      obtain ⟨rfl, N52q, e52⟩ := hQ52
      have N52 := Fr.app N50 N52q
      obtain ⟨cq53, kq53, q53a, q53b, q53c⟩ := isOf hZ e52 (P45_2.keep Kc48)
      obtain ⟨_, _, ⟨T53, L53, k53, n53⟩, -, X53, ⟨Lc53, hQ53, l53, y53, z53⟩, st53⟩ := X52.virtualBack hx (y := MN_16) (z := MN_16) hown (mvT hZ (Wd hw 86 rfl)) (mvT hZ (Wd hw 87 rfl)) (notFace_of_selects (args := #[]) (mvT hZ (Wd hw 89 rfl))) (mvT hZ (Wd hw 89 rfl)) (mvT hZ (Wd hw 88 rfl)) (by decide) (backOf (W := 0) (rmEq l Z a0 hw [] cS aRS aEM aUS aSS (b43) (T48.heap) n0 O48 GL) hZ (Wd hw 90 rfl) (Wd hw 3 rfl) (by decide) (by decide)) q53a q53c (g := (mkF m 175 #[.val (.int p0), .val (.int p1), .val (.int p2), .val (.int p3), .val (.int (p1 &&& (255 : Int32))), .val (.int (p2 &&& (255 : Int32))), .val (.int (p3 &&& (255 : Int32))), .val (.ref b1), .val (.ref b3), .val (.ref b8), .val (.ref b16), .val (.int (p0 &&& (3 : Int32))), .val (.ref b43), .val (.ref b_48), .val (.int (1 : Int32)), .unset, .unset] [(.ref b43), (.ref b43)])) rfl (by rw [hml]; rfl) (Steps.refl _) (argsL := [(.ref b43)]) (rest := []) (lenOf pdv12 rfl) rfl (by show 2 * 0 + _ ≤ _; exact Nat.le_of_eq rfl) (hb hby at_175) (fun _ _ => ⟨rfl, e52, (by decide : 7 + 0 ≤ _), (by decide : 19 + 0 ≤ _)⟩)
      dsimp only [Pt.U, Pt.locs, Pt.cells, Pt.slots] at X53 l53 y53 z53 st53 hQ53
      subst l53 y53 z53
      obtain ⟨rfl, N53q, e53⟩ := hQ53
      have N53 := Fr.app N52 N53q
      obtain ⟨cq54, kq54, q54a, q54b, q54c⟩ := isOf hZ e53 P48_1
      obtain ⟨_, _, ⟨T54, L54, k54, n54⟩, -, X54, ⟨Lc54, hQ54, l54, y54, z54⟩, st54⟩ := X53.virtualBack hx (y := MN_13) (z := MN_13) hown (mvT hZ (Wd hw 91 rfl)) (mvT hZ (Wd hw 92 rfl)) (notFace_of_selects (args := #[]) (mvT hZ (Wd hw 94 rfl))) (mvT hZ (Wd hw 94 rfl)) (mvT hZ (Wd hw 93 rfl)) (by decide) (backOf (W := 0) (rmGp l Z a0 hw [] cS aRS aEM aUS aSS (b_48) (aEM) (T48.heap) n0 O48 GL P48_4) hZ (Wd hw 95 rfl) (Wd hw 24 rfl) (by decide) (by decide)) q54a q54c (g := (mkF m 182 #[.val (.int p0), .val (.int p1), .val (.int p2), .val (.int p3), .val (.int (p1 &&& (255 : Int32))), .val (.int (p2 &&& (255 : Int32))), .val (.int (p3 &&& (255 : Int32))), .val (.ref b1), .val (.ref b3), .val (.ref b8), .val (.ref b16), .val (.int (p0 &&& (3 : Int32))), .val (.ref b43), .val (.ref b_48), .val (.int (1 : Int32)), .val (.int (1 : Int32)), .unset] [(.ref b_48)])) rfl (by rw [hml]; rfl) (Steps.refl _) (argsL := []) (rest := []) (lenOf pdv5 rfl) rfl (by show 2 * 0 + _ ≤ _; exact Nat.le_of_eq rfl) (hb hby at_182) (fun _ _ => ⟨rfl, e53, (by decide : 7 + 0 ≤ _), (by decide : 19 + 0 ≤ _)⟩)
      dsimp only [Pt.U, Pt.locs, Pt.cells, Pt.slots] at X54 l54 y54 z54 st54 hQ54
      subst l54 y54 z54
      obtain ⟨rfl, N54q, e54⟩ := hQ54
      have N54 := Fr.app N53 N54q
      obtain ⟨cq55, kq55, q55a, q55b, q55c⟩ := isOf hZ e54 (GEE.ext O48.2)
      obtain ⟨_, _, ⟨T55, L55, k55, n55⟩, -, X55, ⟨Lc55, hQ55, l55, y55, z55⟩, st55⟩ := X54.virtualBack hx (y := MN_15) (z := MN_15) hown (mvT hZ (Wd hw 96 rfl)) (mvT hZ (Wd hw 97 rfl)) (notFace_of_selects (args := #[]) (mvT hZ (Wd hw 99 rfl))) (mvT hZ (Wd hw 99 rfl)) (mvT hZ (Wd hw 98 rfl)) (by decide) (backOf (W := 0) (rmIp l Z a0 hw [] cS aRS aEM aUS aSS (aEM) (T48.heap) n0 O48 GL (GFE.ext O48.2)) hZ (Wd hw 100 rfl) (Wd hw 36 rfl) (by decide) (by decide)) q55a q55c (g := (mkF m 185 #[.val (.int p0), .val (.int p1), .val (.int p2), .val (.int p3), .val (.int (p1 &&& (255 : Int32))), .val (.int (p2 &&& (255 : Int32))), .val (.int (p3 &&& (255 : Int32))), .val (.ref b1), .val (.ref b3), .val (.ref b8), .val (.ref b16), .val (.int (p0 &&& (3 : Int32))), .val (.ref b43), .val (.ref b_48), .val (.int (1 : Int32)), .val (.int (1 : Int32)), .unset] [(.ref aEM)])) rfl (by rw [hml]; rfl) (Steps.refl _) (argsL := []) (rest := []) (lenOf pdv13 rfl) rfl (by show 2 * 0 + _ ≤ _; exact Nat.le_of_eq rfl) (hb hby at_185) (fun _ _ => ⟨rfl, e54, (by decide : 7 + 0 ≤ _), (by decide : 19 + 0 ≤ _)⟩)
      dsimp only [Pt.U, Pt.locs, Pt.cells, Pt.slots] at X55 l55 y55 z55 st55 hQ55
      subst l55 y55 z55
      obtain ⟨rfl, N55q, e55⟩ := hQ55
      have N55 := Fr.app N54 N55q
      obtain ⟨fs, hr, hrun, hended, hRW⟩ := X55.leaveW hS0 (by rw [e55]; exact (Nat.le_trans (Nat.le_trans (Nat.le_trans (Nat.le_trans (Nat.le_trans (Nat.le_trans (Nat.le_trans (Nat.le_trans (Nat.le_trans (Nat.le_trans (Nat.le_trans (Nat.le_trans (Nat.le_trans (Nat.le_refl _) E1.1) E3.1) (Keep.of_wr W5).1) E8.1) (Keep.of_wr W10).1) (Keep.of_wr W13).1) E16.1) (Keep.of_wr W18).1) (Keep.of_wr W21).1) (Keep.of_wr W24).1) E43.1) Kc45.1) Kc48.1)) (v := some (.int (1 : Int32))) (fun h => by rw [Bd.returns] at h; cases h)
      have hCR : CHr Z EL1 s.vm s.heap T55.vm T55.heap := by
        rw [hh, e55]
        exact R_49.trans (CHv.at X55 hZ (own_EW hw) H_49)
      refine ⟨_, _, pre42 _ ?_, hrun, hended, _, _, rfl, ?_, hCR, hRW.1, hRW.2.1, hRW.2.2.1, hRW.2.2.2.mono (by decide) (by decide)⟩
      · show Steps p.tables e below (T24.setTop (mkF m 99 #[.val (.int p0), .val (.int p1), .val (.int p2), .val (.int p3), .val (.int (p1 &&& (255 : Int32))), .val (.int (p2 &&& (255 : Int32))), .val (.int (p3 &&& (255 : Int32))), .val (.ref b1), .val (.ref b3), .val (.ref b8), .val (.ref b16), .val (.int (p0 &&& (3 : Int32))), .unset, .unset, .unset, .unset, .unset] [(.int (1 : Int32)), (.int (p0 &&& (3 : Int32)))])) _
        refine XS.icmpNo X24.here hx rfl (hb hby at_99) rfl (teq hc99_41).2 ?_
        show Steps p.tables e below (T24.setTop (mkF m 102 #[.val (.int p0), .val (.int p1), .val (.int p2), .val (.int p3), .val (.int (p1 &&& (255 : Int32))), .val (.int (p2 &&& (255 : Int32))), .val (.int (p3 &&& (255 : Int32))), .val (.ref b1), .val (.ref b3), .val (.ref b8), .val (.ref b16), .val (.int (p0 &&& (3 : Int32))), .unset, .unset, .unset, .unset, .unset] [])) _
        refine st43 _ ?_
        show Steps p.tables e below (T43.setTop (mkF m 105 #[.val (.int p0), .val (.int p1), .val (.int p2), .val (.int p3), .val (.int (p1 &&& (255 : Int32))), .val (.int (p2 &&& (255 : Int32))), .val (.int (p3 &&& (255 : Int32))), .val (.ref b1), .val (.ref b3), .val (.ref b8), .val (.ref b16), .val (.int (p0 &&& (3 : Int32))), .unset, .unset, .unset, .unset, .unset] [(.ref b43)])) _
        refine XS.dup X43.here hx rfl (hb hby at_105) rfl rfl ?_
        show Steps p.tables e below (T43.setTop (mkF m 106 #[.val (.int p0), .val (.int p1), .val (.int p2), .val (.int p3), .val (.int (p1 &&& (255 : Int32))), .val (.int (p2 &&& (255 : Int32))), .val (.int (p3 &&& (255 : Int32))), .val (.ref b1), .val (.ref b3), .val (.ref b8), .val (.ref b16), .val (.int (p0 &&& (3 : Int32))), .unset, .unset, .unset, .unset, .unset] [(.ref b43), (.ref b43)])) _
        refine XS.aload X43.here hx rfl (hb hby at_106) rfl rfl ?_
        show Steps p.tables e below (T43.setTop (mkF m 108 #[.val (.int p0), .val (.int p1), .val (.int p2), .val (.int p3), .val (.int (p1 &&& (255 : Int32))), .val (.int (p2 &&& (255 : Int32))), .val (.int (p3 &&& (255 : Int32))), .val (.ref b1), .val (.ref b3), .val (.ref b8), .val (.ref b16), .val (.int (p0 &&& (3 : Int32))), .unset, .unset, .unset, .unset, .unset] [(.ref b3), (.ref b43), (.ref b43)])) _
        refine st45.trans ?_
        show Steps p.tables e below (T45.setTop (mkF m 111 #[.val (.int p0), .val (.int p1), .val (.int p2), .val (.int p3), .val (.int (p1 &&& (255 : Int32))), .val (.int (p2 &&& (255 : Int32))), .val (.int (p3 &&& (255 : Int32))), .val (.ref b1), .val (.ref b3), .val (.ref b8), .val (.ref b16), .val (.int (p0 &&& (3 : Int32))), .unset, .unset, .unset, .unset, .unset] [(.ref b43)])) _
        refine XS.goto X45.here hx rfl (pc0 := 111) (pc' := 141) rfl (hb hby at_111) (by decide) (by decide) ?_
        show Steps p.tables e below (T45.setTop (mkF m 141 #[.val (.int p0), .val (.int p1), .val (.int p2), .val (.int p3), .val (.int (p1 &&& (255 : Int32))), .val (.int (p2 &&& (255 : Int32))), .val (.int (p3 &&& (255 : Int32))), .val (.ref b1), .val (.ref b3), .val (.ref b8), .val (.ref b16), .val (.int (p0 &&& (3 : Int32))), .unset, .unset, .unset, .unset, .unset] [(.ref b43)])) _
        refine XS.astore X45.here hx rfl (hb hby at_141) rfl rfl (l' := #[.val (.int p0), .val (.int p1), .val (.int p2), .val (.int p3), .val (.int (p1 &&& (255 : Int32))), .val (.int (p2 &&& (255 : Int32))), .val (.int (p3 &&& (255 : Int32))), .val (.ref b1), .val (.ref b3), .val (.ref b8), .val (.ref b16), .val (.int (p0 &&& (3 : Int32))), .val (.ref b43), .unset, .unset, .unset, .unset]) rfl ?_
        show Steps p.tables e below (T45.setTop (mkF m 143 #[.val (.int p0), .val (.int p1), .val (.int p2), .val (.int p3), .val (.int (p1 &&& (255 : Int32))), .val (.int (p2 &&& (255 : Int32))), .val (.int (p3 &&& (255 : Int32))), .val (.ref b1), .val (.ref b3), .val (.ref b8), .val (.ref b16), .val (.int (p0 &&& (3 : Int32))), .val (.ref b43), .unset, .unset, .unset, .unset] [])) _
        refine XS.aload X45.here hx rfl (hb hby at_143) rfl rfl ?_
        show Steps p.tables e below (T45.setTop (mkF m 145 #[.val (.int p0), .val (.int p1), .val (.int p2), .val (.int p3), .val (.int (p1 &&& (255 : Int32))), .val (.int (p2 &&& (255 : Int32))), .val (.int (p3 &&& (255 : Int32))), .val (.ref b1), .val (.ref b3), .val (.ref b8), .val (.ref b16), .val (.int (p0 &&& (3 : Int32))), .val (.ref b43), .unset, .unset, .unset, .unset] [(.ref b43)])) _
        refine st48 _ ?_
        show Steps p.tables e below (T48.setTop (mkF m 148 #[.val (.int p0), .val (.int p1), .val (.int p2), .val (.int p3), .val (.int (p1 &&& (255 : Int32))), .val (.int (p2 &&& (255 : Int32))), .val (.int (p3 &&& (255 : Int32))), .val (.ref b1), .val (.ref b3), .val (.ref b8), .val (.ref b16), .val (.int (p0 &&& (3 : Int32))), .val (.ref b43), .unset, .unset, .unset, .unset] [(.ref b_48)])) _
        refine XS.astore X48.here hx rfl (hb hby at_148) rfl rfl (l' := #[.val (.int p0), .val (.int p1), .val (.int p2), .val (.int p3), .val (.int (p1 &&& (255 : Int32))), .val (.int (p2 &&& (255 : Int32))), .val (.int (p3 &&& (255 : Int32))), .val (.ref b1), .val (.ref b3), .val (.ref b8), .val (.ref b16), .val (.int (p0 &&& (3 : Int32))), .val (.ref b43), .val (.ref b_48), .unset, .unset, .unset]) rfl ?_
        show Steps p.tables e below (T48.setTop (mkF m 150 #[.val (.int p0), .val (.int p1), .val (.int p2), .val (.int p3), .val (.int (p1 &&& (255 : Int32))), .val (.int (p2 &&& (255 : Int32))), .val (.int (p3 &&& (255 : Int32))), .val (.ref b1), .val (.ref b3), .val (.ref b8), .val (.ref b16), .val (.int (p0 &&& (3 : Int32))), .val (.ref b43), .val (.ref b_48), .unset, .unset, .unset] [])) _
        refine XS.aload X48.here hx rfl (hb hby at_150) rfl rfl ?_
        show Steps p.tables e below (T48.setTop (mkF m 152 #[.val (.int p0), .val (.int p1), .val (.int p2), .val (.int p3), .val (.int (p1 &&& (255 : Int32))), .val (.int (p2 &&& (255 : Int32))), .val (.int (p3 &&& (255 : Int32))), .val (.ref b1), .val (.ref b3), .val (.ref b8), .val (.ref b16), .val (.int (p0 &&& (3 : Int32))), .val (.ref b43), .val (.ref b_48), .unset, .unset, .unset] [(.ref b_48)])) _
        refine st50.trans ?_
        show Steps p.tables e below (T50.setTop (mkF m 155 #[.val (.int p0), .val (.int p1), .val (.int p2), .val (.int p3), .val (.int (p1 &&& (255 : Int32))), .val (.int (p2 &&& (255 : Int32))), .val (.int (p3 &&& (255 : Int32))), .val (.ref b1), .val (.ref b3), .val (.ref b8), .val (.ref b16), .val (.int (p0 &&& (3 : Int32))), .val (.ref b43), .val (.ref b_48), .unset, .unset, .unset] [(.ref aRS)])) _
        refine st51 _ ?_
        show Steps p.tables e below (T51.setTop (mkF m 158 #[.val (.int p0), .val (.int p1), .val (.int p2), .val (.int p3), .val (.int (p1 &&& (255 : Int32))), .val (.int (p2 &&& (255 : Int32))), .val (.int (p3 &&& (255 : Int32))), .val (.ref b1), .val (.ref b3), .val (.ref b8), .val (.ref b16), .val (.int (p0 &&& (3 : Int32))), .val (.ref b43), .val (.ref b_48), .unset, .unset, .unset] [(.ref aRS), (.ref aRS)])) _
        refine Jvm.RoadKit.acmp (g := (mkF m 158 #[.val (.int p0), .val (.int p1), .val (.int p2), .val (.int p3), .val (.int (p1 &&& (255 : Int32))), .val (.int (p2 &&& (255 : Int32))), .val (.int (p3 &&& (255 : Int32))), .val (.ref b1), .val (.ref b3), .val (.ref b8), .val (.ref b16), .val (.int (p0 &&& (3 : Int32))), .val (.ref b43), .val (.ref b_48), .unset, .unset, .unset] [(.ref aRS), (.ref aRS)])) X51 hx rfl rfl rfl (pc0 := 158) (pc' := 161) (same := true) rfl (hb hby at_158) rfl (decide_eq_true rfl) (by decide) (by decide) ?_
        show Steps p.tables e below (T51.setTop (mkF m 161 #[.val (.int p0), .val (.int p1), .val (.int p2), .val (.int p3), .val (.int (p1 &&& (255 : Int32))), .val (.int (p2 &&& (255 : Int32))), .val (.int (p3 &&& (255 : Int32))), .val (.ref b1), .val (.ref b3), .val (.ref b8), .val (.ref b16), .val (.int (p0 &&& (3 : Int32))), .val (.ref b43), .val (.ref b_48), .unset, .unset, .unset] [])) _
        refine XS.iconst X51.here hx rfl (hb hby at_161) ?_
        show Steps p.tables e below (T51.setTop (mkF m 162 #[.val (.int p0), .val (.int p1), .val (.int p2), .val (.int p3), .val (.int (p1 &&& (255 : Int32))), .val (.int (p2 &&& (255 : Int32))), .val (.int (p3 &&& (255 : Int32))), .val (.ref b1), .val (.ref b3), .val (.ref b8), .val (.ref b16), .val (.int (p0 &&& (3 : Int32))), .val (.ref b43), .val (.ref b_48), .unset, .unset, .unset] [(.int (1 : Int32))])) _
        refine XS.goto X51.here hx rfl (pc0 := 162) (pc' := 166) rfl (hb hby at_162) (by decide) (by decide) ?_
        show Steps p.tables e below (T51.setTop (mkF m 166 #[.val (.int p0), .val (.int p1), .val (.int p2), .val (.int p3), .val (.int (p1 &&& (255 : Int32))), .val (.int (p2 &&& (255 : Int32))), .val (.int (p3 &&& (255 : Int32))), .val (.ref b1), .val (.ref b3), .val (.ref b8), .val (.ref b16), .val (.int (p0 &&& (3 : Int32))), .val (.ref b43), .val (.ref b_48), .unset, .unset, .unset] [(.int (1 : Int32))])) _
        refine XS.istore X51.here hx rfl (hb hby at_166) rfl (l' := #[.val (.int p0), .val (.int p1), .val (.int p2), .val (.int p3), .val (.int (p1 &&& (255 : Int32))), .val (.int (p2 &&& (255 : Int32))), .val (.int (p3 &&& (255 : Int32))), .val (.ref b1), .val (.ref b3), .val (.ref b8), .val (.ref b16), .val (.int (p0 &&& (3 : Int32))), .val (.ref b43), .val (.ref b_48), .val (.int (1 : Int32)), .unset, .unset]) rfl ?_
        show Steps p.tables e below (T51.setTop (mkF m 168 #[.val (.int p0), .val (.int p1), .val (.int p2), .val (.int p3), .val (.int (p1 &&& (255 : Int32))), .val (.int (p2 &&& (255 : Int32))), .val (.int (p3 &&& (255 : Int32))), .val (.ref b1), .val (.ref b3), .val (.ref b8), .val (.ref b16), .val (.int (p0 &&& (3 : Int32))), .val (.ref b43), .val (.ref b_48), .val (.int (1 : Int32)), .unset, .unset] [])) _
        refine XS.aload X51.here hx rfl (hb hby at_168) rfl rfl ?_
        show Steps p.tables e below (T51.setTop (mkF m 170 #[.val (.int p0), .val (.int p1), .val (.int p2), .val (.int p3), .val (.int (p1 &&& (255 : Int32))), .val (.int (p2 &&& (255 : Int32))), .val (.int (p3 &&& (255 : Int32))), .val (.ref b1), .val (.ref b3), .val (.ref b8), .val (.ref b16), .val (.int (p0 &&& (3 : Int32))), .val (.ref b43), .val (.ref b_48), .val (.int (1 : Int32)), .unset, .unset] [(.ref b43)])) _
        refine XS.aload X51.here hx rfl (hb hby at_170) rfl rfl ?_
        show Steps p.tables e below (T51.setTop (mkF m 172 #[.val (.int p0), .val (.int p1), .val (.int p2), .val (.int p3), .val (.int (p1 &&& (255 : Int32))), .val (.int (p2 &&& (255 : Int32))), .val (.int (p3 &&& (255 : Int32))), .val (.ref b1), .val (.ref b3), .val (.ref b8), .val (.ref b16), .val (.int (p0 &&& (3 : Int32))), .val (.ref b43), .val (.ref b_48), .val (.int (1 : Int32)), .unset, .unset] [(.ref b_48), (.ref b43)])) _
        refine st52.trans ?_
        show Steps p.tables e below (T52.setTop (mkF m 175 #[.val (.int p0), .val (.int p1), .val (.int p2), .val (.int p3), .val (.int (p1 &&& (255 : Int32))), .val (.int (p2 &&& (255 : Int32))), .val (.int (p3 &&& (255 : Int32))), .val (.ref b1), .val (.ref b3), .val (.ref b8), .val (.ref b16), .val (.int (p0 &&& (3 : Int32))), .val (.ref b43), .val (.ref b_48), .val (.int (1 : Int32)), .unset, .unset] [(.ref b43), (.ref b43)])) _
        refine st53.trans ?_
        show Steps p.tables e below (T53.setTop (mkF m 178 #[.val (.int p0), .val (.int p1), .val (.int p2), .val (.int p3), .val (.int (p1 &&& (255 : Int32))), .val (.int (p2 &&& (255 : Int32))), .val (.int (p3 &&& (255 : Int32))), .val (.ref b1), .val (.ref b3), .val (.ref b8), .val (.ref b16), .val (.int (p0 &&& (3 : Int32))), .val (.ref b43), .val (.ref b_48), .val (.int (1 : Int32)), .unset, .unset] [(.int (1 : Int32))])) _
        refine XS.istore X53.here hx rfl (hb hby at_178) rfl (l' := #[.val (.int p0), .val (.int p1), .val (.int p2), .val (.int p3), .val (.int (p1 &&& (255 : Int32))), .val (.int (p2 &&& (255 : Int32))), .val (.int (p3 &&& (255 : Int32))), .val (.ref b1), .val (.ref b3), .val (.ref b8), .val (.ref b16), .val (.int (p0 &&& (3 : Int32))), .val (.ref b43), .val (.ref b_48), .val (.int (1 : Int32)), .val (.int (1 : Int32)), .unset]) rfl ?_
        show Steps p.tables e below (T53.setTop (mkF m 180 #[.val (.int p0), .val (.int p1), .val (.int p2), .val (.int p3), .val (.int (p1 &&& (255 : Int32))), .val (.int (p2 &&& (255 : Int32))), .val (.int (p3 &&& (255 : Int32))), .val (.ref b1), .val (.ref b3), .val (.ref b8), .val (.ref b16), .val (.int (p0 &&& (3 : Int32))), .val (.ref b43), .val (.ref b_48), .val (.int (1 : Int32)), .val (.int (1 : Int32)), .unset] [])) _
        refine XS.aload X53.here hx rfl (hb hby at_180) rfl rfl ?_
        show Steps p.tables e below (T53.setTop (mkF m 182 #[.val (.int p0), .val (.int p1), .val (.int p2), .val (.int p3), .val (.int (p1 &&& (255 : Int32))), .val (.int (p2 &&& (255 : Int32))), .val (.int (p3 &&& (255 : Int32))), .val (.ref b1), .val (.ref b3), .val (.ref b8), .val (.ref b16), .val (.int (p0 &&& (3 : Int32))), .val (.ref b43), .val (.ref b_48), .val (.int (1 : Int32)), .val (.int (1 : Int32)), .unset] [(.ref b_48)])) _
        refine st54.trans ?_
        show Steps p.tables e below (T54.setTop (mkF m 185 #[.val (.int p0), .val (.int p1), .val (.int p2), .val (.int p3), .val (.int (p1 &&& (255 : Int32))), .val (.int (p2 &&& (255 : Int32))), .val (.int (p3 &&& (255 : Int32))), .val (.ref b1), .val (.ref b3), .val (.ref b8), .val (.ref b16), .val (.int (p0 &&& (3 : Int32))), .val (.ref b43), .val (.ref b_48), .val (.int (1 : Int32)), .val (.int (1 : Int32)), .unset] [(.ref aEM)])) _
        refine st55.trans ?_
        show Steps p.tables e below (T55.setTop (mkF m 188 #[.val (.int p0), .val (.int p1), .val (.int p2), .val (.int p3), .val (.int (p1 &&& (255 : Int32))), .val (.int (p2 &&& (255 : Int32))), .val (.int (p3 &&& (255 : Int32))), .val (.ref b1), .val (.ref b3), .val (.ref b8), .val (.ref b16), .val (.int (p0 &&& (3 : Int32))), .val (.ref b43), .val (.ref b_48), .val (.int (1 : Int32)), .val (.int (1 : Int32)), .unset] [(.int (0 : Int32))])) _
        refine XS.ifNo X55.here hx rfl (hb hby at_188) rfl ((if0 _ _).trans (teq (by decide : (0 : Int32) = (0 : Int32))).2) ?_
        show Steps p.tables e below (T55.setTop (mkF m 191 #[.val (.int p0), .val (.int p1), .val (.int p2), .val (.int p3), .val (.int (p1 &&& (255 : Int32))), .val (.int (p2 &&& (255 : Int32))), .val (.int (p3 &&& (255 : Int32))), .val (.ref b1), .val (.ref b3), .val (.ref b8), .val (.ref b16), .val (.int (p0 &&& (3 : Int32))), .val (.ref b43), .val (.ref b_48), .val (.int (1 : Int32)), .val (.int (1 : Int32)), .unset] [])) _
        refine XS.iconst X55.here hx rfl (hb hby at_191) ?_
        show Steps p.tables e below (T55.setTop (mkF m 192 #[.val (.int p0), .val (.int p1), .val (.int p2), .val (.int p3), .val (.int (p1 &&& (255 : Int32))), .val (.int (p2 &&& (255 : Int32))), .val (.int (p3 &&& (255 : Int32))), .val (.ref b1), .val (.ref b3), .val (.ref b8), .val (.ref b16), .val (.int (p0 &&& (3 : Int32))), .val (.ref b43), .val (.ref b_48), .val (.int (1 : Int32)), .val (.int (1 : Int32)), .unset] [(.int (1 : Int32))])) _
        refine XS.goto X55.here hx rfl (pc0 := 192) (pc' := 196) rfl (hb hby at_192) (by decide) (by decide) ?_
        show Steps p.tables e below (T55.setTop (mkF m 196 #[.val (.int p0), .val (.int p1), .val (.int p2), .val (.int p3), .val (.int (p1 &&& (255 : Int32))), .val (.int (p2 &&& (255 : Int32))), .val (.int (p3 &&& (255 : Int32))), .val (.ref b1), .val (.ref b3), .val (.ref b8), .val (.ref b16), .val (.int (p0 &&& (3 : Int32))), .val (.ref b43), .val (.ref b_48), .val (.int (1 : Int32)), .val (.int (1 : Int32)), .unset] [(.int (1 : Int32))])) _
        refine XS.istore X55.here hx rfl (hb hby at_196) rfl (l' := #[.val (.int p0), .val (.int p1), .val (.int p2), .val (.int p3), .val (.int (p1 &&& (255 : Int32))), .val (.int (p2 &&& (255 : Int32))), .val (.int (p3 &&& (255 : Int32))), .val (.ref b1), .val (.ref b3), .val (.ref b8), .val (.ref b16), .val (.int (p0 &&& (3 : Int32))), .val (.ref b43), .val (.ref b_48), .val (.int (1 : Int32)), .val (.int (1 : Int32)), .val (.int (1 : Int32))]) rfl ?_
        show Steps p.tables e below (T55.setTop (mkF m 198 #[.val (.int p0), .val (.int p1), .val (.int p2), .val (.int p3), .val (.int (p1 &&& (255 : Int32))), .val (.int (p2 &&& (255 : Int32))), .val (.int (p3 &&& (255 : Int32))), .val (.ref b1), .val (.ref b3), .val (.ref b8), .val (.ref b16), .val (.int (p0 &&& (3 : Int32))), .val (.ref b43), .val (.ref b_48), .val (.int (1 : Int32)), .val (.int (1 : Int32)), .val (.int (1 : Int32))] [])) _
        refine XS.iload X55.here hx rfl (hb hby at_198) rfl ?_
        show Steps p.tables e below (T55.setTop (mkF m 200 #[.val (.int p0), .val (.int p1), .val (.int p2), .val (.int p3), .val (.int (p1 &&& (255 : Int32))), .val (.int (p2 &&& (255 : Int32))), .val (.int (p3 &&& (255 : Int32))), .val (.ref b1), .val (.ref b3), .val (.ref b8), .val (.ref b16), .val (.int (p0 &&& (3 : Int32))), .val (.ref b43), .val (.ref b_48), .val (.int (1 : Int32)), .val (.int (1 : Int32)), .val (.int (1 : Int32))] [(.int (1 : Int32))])) _
        refine XS.ifNo X55.here hx rfl (hb hby at_200) rfl ((if0 _ _).trans (feq (by decide : ¬ ((1 : Int32) = (0 : Int32)))).1) ?_
        show Steps p.tables e below (T55.setTop (mkF m 203 #[.val (.int p0), .val (.int p1), .val (.int p2), .val (.int p3), .val (.int (p1 &&& (255 : Int32))), .val (.int (p2 &&& (255 : Int32))), .val (.int (p3 &&& (255 : Int32))), .val (.ref b1), .val (.ref b3), .val (.ref b8), .val (.ref b16), .val (.int (p0 &&& (3 : Int32))), .val (.ref b43), .val (.ref b_48), .val (.int (1 : Int32)), .val (.int (1 : Int32)), .val (.int (1 : Int32))] [])) _
        refine XS.iload X55.here hx rfl (hb hby at_203) rfl ?_
        show Steps p.tables e below (T55.setTop (mkF m 205 #[.val (.int p0), .val (.int p1), .val (.int p2), .val (.int p3), .val (.int (p1 &&& (255 : Int32))), .val (.int (p2 &&& (255 : Int32))), .val (.int (p3 &&& (255 : Int32))), .val (.ref b1), .val (.ref b3), .val (.ref b8), .val (.ref b16), .val (.int (p0 &&& (3 : Int32))), .val (.ref b43), .val (.ref b_48), .val (.int (1 : Int32)), .val (.int (1 : Int32)), .val (.int (1 : Int32))] [(.int (1 : Int32))])) _
        refine XS.ifNo X55.here hx rfl (hb hby at_205) rfl ((if0 _ _).trans (feq (by decide : ¬ ((1 : Int32) = (0 : Int32)))).1) ?_
        show Steps p.tables e below (T55.setTop (mkF m 208 #[.val (.int p0), .val (.int p1), .val (.int p2), .val (.int p3), .val (.int (p1 &&& (255 : Int32))), .val (.int (p2 &&& (255 : Int32))), .val (.int (p3 &&& (255 : Int32))), .val (.ref b1), .val (.ref b3), .val (.ref b8), .val (.ref b16), .val (.int (p0 &&& (3 : Int32))), .val (.ref b43), .val (.ref b_48), .val (.int (1 : Int32)), .val (.int (1 : Int32)), .val (.int (1 : Int32))] [])) _
        refine XS.iload X55.here hx rfl (hb hby at_208) rfl ?_
        show Steps p.tables e below (T55.setTop (mkF m 210 #[.val (.int p0), .val (.int p1), .val (.int p2), .val (.int p3), .val (.int (p1 &&& (255 : Int32))), .val (.int (p2 &&& (255 : Int32))), .val (.int (p3 &&& (255 : Int32))), .val (.ref b1), .val (.ref b3), .val (.ref b8), .val (.ref b16), .val (.int (p0 &&& (3 : Int32))), .val (.ref b43), .val (.ref b_48), .val (.int (1 : Int32)), .val (.int (1 : Int32)), .val (.int (1 : Int32))] [(.int (1 : Int32))])) _
        refine XS.ifNo X55.here hx rfl (hb hby at_210) rfl ((if0 _ _).trans (feq (by decide : ¬ ((1 : Int32) = (0 : Int32)))).1) ?_
        show Steps p.tables e below (T55.setTop (mkF m 213 #[.val (.int p0), .val (.int p1), .val (.int p2), .val (.int p3), .val (.int (p1 &&& (255 : Int32))), .val (.int (p2 &&& (255 : Int32))), .val (.int (p3 &&& (255 : Int32))), .val (.ref b1), .val (.ref b3), .val (.ref b8), .val (.ref b16), .val (.int (p0 &&& (3 : Int32))), .val (.ref b43), .val (.ref b_48), .val (.int (1 : Int32)), .val (.int (1 : Int32)), .val (.int (1 : Int32))] [])) _
        refine XS.iconst X55.here hx rfl (hb hby at_213) ?_
        show Steps p.tables e below (T55.setTop (mkF m 214 #[.val (.int p0), .val (.int p1), .val (.int p2), .val (.int p3), .val (.int (p1 &&& (255 : Int32))), .val (.int (p2 &&& (255 : Int32))), .val (.int (p3 &&& (255 : Int32))), .val (.ref b1), .val (.ref b3), .val (.ref b8), .val (.ref b16), .val (.int (p0 &&& (3 : Int32))), .val (.ref b43), .val (.ref b_48), .val (.int (1 : Int32)), .val (.int (1 : Int32)), .val (.int (1 : Int32))] [(.int (1 : Int32))])) _
        refine XS.goto X55.here hx rfl (pc0 := 214) (pc' := 218) rfl (hb hby at_214) (by decide) (by decide) ?_
        show Steps p.tables e below (T55.setTop (mkF m 218 #[.val (.int p0), .val (.int p1), .val (.int p2), .val (.int p3), .val (.int (p1 &&& (255 : Int32))), .val (.int (p2 &&& (255 : Int32))), .val (.int (p3 &&& (255 : Int32))), .val (.ref b1), .val (.ref b3), .val (.ref b8), .val (.ref b16), .val (.int (p0 &&& (3 : Int32))), .val (.ref b43), .val (.ref b_48), .val (.int (1 : Int32)), .val (.int (1 : Int32)), .val (.int (1 : Int32))] [(.int (1 : Int32))])) _
        exact retN X55 hx (t := .boolean) Bd.returns (by simp) (hb hby at_218) hr
      · show Q_rm0 n0 _ T55.heap _
        rw [e55]
        exact ⟨rfl, N55⟩
    · have pre57 : ∀ t, Steps p.tables e below (T24.setTop (mkF m 117 #[.val (.int p0), .val (.int p1), .val (.int p2), .val (.int p3), .val (.int (p1 &&& (255 : Int32))), .val (.int (p2 &&& (255 : Int32))), .val (.int (p3 &&& (255 : Int32))), .val (.ref b1), .val (.ref b3), .val (.ref b8), .val (.ref b16), .val (.int (p0 &&& (3 : Int32))), .unset, .unset, .unset, .unset, .unset] [(.int (2 : Int32)), (.int (p0 &&& (3 : Int32)))])) t → Steps p.tables e below (s₁.setTop (entryFrame m #[(.int p0), (.int p1), (.int p2), (.int p3)] maxLocals)) t := fun t kt => by
        refine pre42 t ?_
        show Steps p.tables e below (T24.setTop (mkF m 99 #[.val (.int p0), .val (.int p1), .val (.int p2), .val (.int p3), .val (.int (p1 &&& (255 : Int32))), .val (.int (p2 &&& (255 : Int32))), .val (.int (p3 &&& (255 : Int32))), .val (.ref b1), .val (.ref b3), .val (.ref b8), .val (.ref b16), .val (.int (p0 &&& (3 : Int32))), .unset, .unset, .unset, .unset, .unset] [(.int (1 : Int32)), (.int (p0 &&& (3 : Int32)))])) _
        refine XS.icmpYes X24.here hx rfl (pc0 := 99) (pc' := 114) rfl (hb hby at_99) rfl (feq hc99_41).2 (by decide) (by decide) ?_
        show Steps p.tables e below (T24.setTop (mkF m 114 #[.val (.int p0), .val (.int p1), .val (.int p2), .val (.int p3), .val (.int (p1 &&& (255 : Int32))), .val (.int (p2 &&& (255 : Int32))), .val (.int (p3 &&& (255 : Int32))), .val (.ref b1), .val (.ref b3), .val (.ref b8), .val (.ref b16), .val (.int (p0 &&& (3 : Int32))), .unset, .unset, .unset, .unset, .unset] [])) _
        refine XS.iload X24.here hx rfl (hb hby at_114) rfl ?_
        show Steps p.tables e below (T24.setTop (mkF m 116 #[.val (.int p0), .val (.int p1), .val (.int p2), .val (.int p3), .val (.int (p1 &&& (255 : Int32))), .val (.int (p2 &&& (255 : Int32))), .val (.int (p3 &&& (255 : Int32))), .val (.ref b1), .val (.ref b3), .val (.ref b8), .val (.ref b16), .val (.int (p0 &&& (3 : Int32))), .unset, .unset, .unset, .unset, .unset] [(.int (p0 &&& (3 : Int32)))])) _
        refine XS.iconst X24.here hx rfl (hb hby at_116) ?_
        exact kt
      by_cases hc117_56 : (p0 &&& (3 : Int32)) = (2 : Int32)
      · obtain ⟨T58, h58, X58, e58, E58, A58, D58, -, st58⟩ := newO X24 hx hZ hown (Wd hw 1 rfl) (Wd hw 2 rfl) (Wd hw 3 rfl) e24 (g := (mkF m 120 #[.val (.int p0), .val (.int p1), .val (.int p2), .val (.int p3), .val (.int (p1 &&& (255 : Int32))), .val (.int (p2 &&& (255 : Int32))), .val (.int (p3 &&& (255 : Int32))), .val (.ref b1), .val (.ref b3), .val (.ref b8), .val (.ref b16), .val (.int (p0 &&& (3 : Int32))), .unset, .unset, .unset, .unset, .unset] [])) rfl (hb hby at_120) (by decide) (by decide)
        obtain ⟨b58, g58⟩ : ∃ z, z = h24.size := ⟨_, rfl⟩
        rw [← g58] at A58 D58 st58
        have g_b58 : n0 ≤ b58 := Nat.le_trans (own_sz O24) (Nat.le_of_eq g58.symm)
        have H_59 := H_25.ext E58
        have R_59 := R_25.trans (CHr.ext E58 H_25)
        have O58 := O24.ext E58
        have F_value_b58 : Fld Z h58 b58 "java/lang/String" "value" "[B" .null := D58 (Or.inr (Wd hw 16 rfl)) (ty := (.array .byte)) (by decide)
        have F_coder_b58 : Fld Z h58 b58 "java/lang/String" "coder" "B" (.int (0 : Int32)) := D58 (Or.inr (Wd hw 17 rfl)) (ty := .byte) (by decide)
        obtain ⟨_, _, ⟨T60, L60, k60, n60⟩, -, X60, ⟨Lc60, hQ60, l60, y60, z60⟩, st60⟩ := X58.specialBack hx (y := MN_4) rfl hown (mvT hZ (Wd hw 4 rfl)) (mvT hZ (Wd hw 5 rfl)) (mvT hZ (Wd hw 6 rfl)) (by decide) (backOf (W := 1) (rmIc_2 l Z a0 hw [] cS aRS aEM aUS aSS (b58) (b8) (k8) ((p1 &&& (255 : Int32))) ((p2 &&& (255 : Int32))) (h58) n0 O58 GL A58 F_value_b58 F_coder_b58 g_b58 (((((V13.ext E16).other W18 (Nat.ne_of_lt (Nat.lt_of_lt_of_le (Nat.lt_of_lt_of_le V_b8.lt (Nat.le_trans (Keep.of_wr W10).1 (Keep.of_wr W13).1)) (Nat.le_of_eq g16.symm)))).other W21 (Nat.ne_of_lt (Nat.lt_of_lt_of_le (Nat.lt_of_lt_of_le V_b8.lt (Nat.le_trans (Keep.of_wr W10).1 (Keep.of_wr W13).1)) (Nat.le_of_eq g16.symm)))).other W24 (Nat.ne_of_lt (Nat.lt_of_lt_of_le (Nat.lt_of_lt_of_le V_b8.lt (Nat.le_trans (Keep.of_wr W10).1 (Keep.of_wr W13).1)) (Nat.le_of_eq g16.symm)))).ext E58) hq1 hq2) hZ (Wd hw 6 rfl) (Wd hw 3 rfl) (by decide) (by decide)) (g := (mkF m 126 #[.val (.int p0), .val (.int p1), .val (.int p2), .val (.int p3), .val (.int (p1 &&& (255 : Int32))), .val (.int (p2 &&& (255 : Int32))), .val (.int (p3 &&& (255 : Int32))), .val (.ref b1), .val (.ref b3), .val (.ref b8), .val (.ref b16), .val (.int (p0 &&& (3 : Int32))), .unset, .unset, .unset, .unset, .unset] [(.ref b8), (.ref b58), (.ref b58)])) rfl (by rw [hml]; rfl) (Steps.refl _) (a := b58) (argsL := [(.ref b8)]) (rest := [(.ref b58)]) (lenOf pdv8 rfl) rfl (by show 2 * 0 + _ ≤ _; exact Nat.le_of_eq rfl) (hb hby at_126) (fun _ _ => ⟨rfl, e58, (by decide : 5 + 1 ≤ _), (by decide : 10 + 2 ≤ _)⟩)
        dsimp only [Pt.U, Pt.locs, Pt.cells, Pt.slots] at X60 l60 y60 z60 st60 hQ60
        subst l60 y60 z60
        obtain ⟨b_60, kb_60, rfl, N60q, Kc60, P60_0, P60_1, P60_2, P60_3, P60_4, P60_5⟩ := hQ60
        have O60 := O58.keep Kc60 (allS g_b58 all0)
        have Sf62 : Safe Z EL1 s.vm h58 b58 := (Safe.ext E58 H_25 (Safe.new (Z := Z) (EL := EL1) (vm := s.vm) (Nat.le_of_eq g58.symm)))
        have H_61 := H_59.keep Kc60 (sfS Sf62 sf0)
        have R_61 := R_59.trans (CHr.keep Kc60 (sfS Sf62 sf0) H_59)
        have g_b_60 : n0 ≤ b_60 := Nat.le_trans (own_sz O58) P60_0
        have N60 := Fr.app N24 N60q
        obtain ⟨_, _, ⟨T63, L63, k63, n63⟩, -, X63, ⟨Lc63, hQ63, l63, y63, z63⟩, st63⟩ := Jvm.LawKit.callS X60 hx (y := MN_11) hown (mvT hZ (Wd hw 22 rfl)) (mvT hZ (Wd hw 23 rfl)) (mvT hZ (Wd hw 24 rfl)) (mvT hZ (Wd hw 25 rfl)) (by decide) (backOf (W := 0) (rmMk l Z a0 hw [] cS aRS aEM aUS aSS (b58) (T60.heap) n0 O60 GL) hZ (Wd hw 25 rfl) (Wd hw 24 rfl) (by decide) (by decide)) (g := (mkF m 145 #[.val (.int p0), .val (.int p1), .val (.int p2), .val (.int p3), .val (.int (p1 &&& (255 : Int32))), .val (.int (p2 &&& (255 : Int32))), .val (.int (p3 &&& (255 : Int32))), .val (.ref b1), .val (.ref b3), .val (.ref b8), .val (.ref b16), .val (.int (p0 &&& (3 : Int32))), .val (.ref b58), .unset, .unset, .unset, .unset] [(.ref b58)])) rfl (by rw [hml]; rfl) (argsL := [(.ref b58)]) (rest := []) (lenOf pdv9 rfl) rfl (by show 2 * 0 + _ ≤ _; exact Nat.le_of_eq rfl) (hb hby at_145) (fun _ _ => ⟨rfl, rfl, (by decide : 6 + 1 ≤ _), (by decide : 12 + 8 ≤ _)⟩)
        dsimp only [Pt.U, Pt.locs, Pt.cells, Pt.slots] at X63 l63 y63 z63 st63 hQ63
        subst l63 y63 z63
        obtain ⟨b_63, rfl, N63q, Kc63, P63_0, P63_1, P63_2, P63_3, P63_4⟩ := hQ63
        have O63 := O60.keep Kc63 all0
        have H_64 := H_61.keep Kc63 sf0
        have R_64 := R_61.trans (CHr.keep Kc63 sf0 H_61)
        have g_b_63 : n0 ≤ b_63 := Nat.le_trans (own_sz O60) P63_0
        have N63 := Fr.app N60 N63q
        obtain ⟨cq65, kq65, q65a, q65b, q65c⟩ := isOf hZ rfl P63_1
        obtain ⟨_, _, ⟨T65, L65, k65, n65⟩, -, X65, ⟨Lc65, hQ65, l65, y65, z65⟩, st65⟩ := X63.virtualBack hx (y := MN_12) (z := MN_12) hown (mvT hZ (Wd hw 74 rfl)) (mvT hZ (Wd hw 75 rfl)) (notFace_of_selects (args := #[]) (mvT hZ (Wd hw 77 rfl))) (mvT hZ (Wd hw 77 rfl)) (mvT hZ (Wd hw 76 rfl)) (by decide) (backOf (W := 0) (rmGr l Z a0 hw [] cS aRS aEM aUS aSS (b_63) (aRS) (T63.heap) n0 O63 GL P63_3) hZ (Wd hw 78 rfl) (Wd hw 24 rfl) (by decide) (by decide)) q65a q65c (g := (mkF m 152 #[.val (.int p0), .val (.int p1), .val (.int p2), .val (.int p3), .val (.int (p1 &&& (255 : Int32))), .val (.int (p2 &&& (255 : Int32))), .val (.int (p3 &&& (255 : Int32))), .val (.ref b1), .val (.ref b3), .val (.ref b8), .val (.ref b16), .val (.int (p0 &&& (3 : Int32))), .val (.ref b58), .val (.ref b_63), .unset, .unset, .unset] [(.ref b_63)])) rfl (by rw [hml]; rfl) (Steps.refl _) (argsL := []) (rest := []) (lenOf pdv10 rfl) rfl (by show 2 * 0 + _ ≤ _; exact Nat.le_of_eq rfl) (hb hby at_152) (fun _ _ => ⟨rfl, rfl, (by decide : 7 + 0 ≤ _), (by decide : 20 + 0 ≤ _)⟩)
        dsimp only [Pt.U, Pt.locs, Pt.cells, Pt.slots] at X65 l65 y65 z65 st65 hQ65
        subst l65 y65 z65
        obtain ⟨rfl, N65q, e65⟩ := hQ65
        have N65 := Fr.app N63 N65q
        obtain ⟨T66, X66, e66, st66⟩ := getS2 X65 hx hZ hown (host := "") (Or.inl (Wd hw 79 rfl)) Via.refl e65 (GSR.ext O63.2) (g := (mkF m 155 #[.val (.int p0), .val (.int p1), .val (.int p2), .val (.int p3), .val (.int (p1 &&& (255 : Int32))), .val (.int (p2 &&& (255 : Int32))), .val (.int (p3 &&& (255 : Int32))), .val (.ref b1), .val (.ref b3), .val (.ref b8), .val (.ref b16), .val (.int (p0 &&& (3 : Int32))), .val (.ref b58), .val (.ref b_63), .unset, .unset, .unset] [(.ref aRS)])) rfl (hb hby at_155)
        obtain ⟨cq67, kq67, q67a, q67b, q67c⟩ := isOf hZ e66 P63_1
        obtain ⟨_, _, ⟨T67, L67, k67, n67⟩, -, X67, ⟨Lc67, hQ67, l67, y67, z67⟩, st67⟩ := X66.virtualBackUp hx (owner := "java/lang/Throwable") (x := MN_17) (y := MN_14) hown (mvT hZ (Wd hw 80 rfl)) (mvT hZ (Wd hw 81 rfl)) (mvT hZ (Wd hw 82 rfl)) (by decide) (mvT hZ (Wd hw 84 rfl)) (mvT hZ (Wd hw 83 rfl)) (backOf (W := 1) (rmGm l Z a0 hw [] cS aRS aEM aUS aSS (b_63) (b58) (T63.heap) n0 O63 GL P63_2) hZ (Wd hw 85 rfl) (Wd hw 57 rfl) (by decide) (by decide)) q67a q67c (g := (mkF m 172 #[.val (.int p0), .val (.int p1), .val (.int p2), .val (.int p3), .val (.int (p1 &&& (255 : Int32))), .val (.int (p2 &&& (255 : Int32))), .val (.int (p3 &&& (255 : Int32))), .val (.ref b1), .val (.ref b3), .val (.ref b8), .val (.ref b16), .val (.int (p0 &&& (3 : Int32))), .val (.ref b58), .val (.ref b_63), .val (.int (1 : Int32)), .unset, .unset] [(.ref b_63), (.ref b58)])) rfl (by rw [hml]; rfl) (Steps.refl _) (argsL := []) (rest := [(.ref b58)]) (lenOf pdv11 rfl) rfl (by show 2 * 0 + _ ≤ _; exact Nat.le_of_eq rfl) (hb hby at_172) (fun _ _ => ⟨rfl, e66, (by decide : 7 + 0 ≤ _), (by decide : 20 + 0 ≤ _)⟩)
        dsimp only [Pt.U, Pt.locs, Pt.cells, Pt.slots] at X67 l67 y67 z67 st67 hQ67
        subst l67 y67 z67
        obtain ⟨rfl, N67q, e67⟩ := hQ67
        have N67 := Fr.app N65 N67q
        obtain ⟨cq68, kq68, q68a, q68b, q68c⟩ := isOf hZ e67 (P60_2.keep Kc63)
        obtain ⟨_, _, ⟨T68, L68, k68, n68⟩, -, X68, ⟨Lc68, hQ68, l68, y68, z68⟩, st68⟩ := X67.virtualBack hx (y := MN_16) (z := MN_16) hown (mvT hZ (Wd hw 86 rfl)) (mvT hZ (Wd hw 87 rfl)) (notFace_of_selects (args := #[]) (mvT hZ (Wd hw 89 rfl))) (mvT hZ (Wd hw 89 rfl)) (mvT hZ (Wd hw 88 rfl)) (by decide) (backOf (W := 0) (rmEq l Z a0 hw [] cS aRS aEM aUS aSS (b58) (T63.heap) n0 O63 GL) hZ (Wd hw 90 rfl) (Wd hw 3 rfl) (by decide) (by decide)) q68a q68c (g := (mkF m 175 #[.val (.int p0), .val (.int p1), .val (.int p2), .val (.int p3), .val (.int (p1 &&& (255 : Int32))), .val (.int (p2 &&& (255 : Int32))), .val (.int (p3 &&& (255 : Int32))), .val (.ref b1), .val (.ref b3), .val (.ref b8), .val (.ref b16), .val (.int (p0 &&& (3 : Int32))), .val (.ref b58), .val (.ref b_63), .val (.int (1 : Int32)), .unset, .unset] [(.ref b58), (.ref b58)])) rfl (by rw [hml]; rfl) (Steps.refl _) (argsL := [(.ref b58)]) (rest := []) (lenOf pdv12 rfl) rfl (by show 2 * 0 + _ ≤ _; exact Nat.le_of_eq rfl) (hb hby at_175) (fun _ _ => ⟨rfl, e67, (by decide : 7 + 0 ≤ _), (by decide : 20 + 0 ≤ _)⟩)
        dsimp only [Pt.U, Pt.locs, Pt.cells, Pt.slots] at X68 l68 y68 z68 st68 hQ68
        subst l68 y68 z68
        obtain ⟨rfl, N68q, e68⟩ := hQ68
        have N68 := Fr.app N67 N68q
        obtain ⟨cq69, kq69, q69a, q69b, q69c⟩ := isOf hZ e68 P63_1
        obtain ⟨_, _, ⟨T69, L69, k69, n69⟩, -, X69, ⟨Lc69, hQ69, l69, y69, z69⟩, st69⟩ := X68.virtualBack hx (y := MN_13) (z := MN_13) hown (mvT hZ (Wd hw 91 rfl)) (mvT hZ (Wd hw 92 rfl)) (notFace_of_selects (args := #[]) (mvT hZ (Wd hw 94 rfl))) (mvT hZ (Wd hw 94 rfl)) (mvT hZ (Wd hw 93 rfl)) (by decide) (backOf (W := 0) (rmGp l Z a0 hw [] cS aRS aEM aUS aSS (b_63) (aEM) (T63.heap) n0 O63 GL P63_4) hZ (Wd hw 95 rfl) (Wd hw 24 rfl) (by decide) (by decide)) q69a q69c (g := (mkF m 182 #[.val (.int p0), .val (.int p1), .val (.int p2), .val (.int p3), .val (.int (p1 &&& (255 : Int32))), .val (.int (p2 &&& (255 : Int32))), .val (.int (p3 &&& (255 : Int32))), .val (.ref b1), .val (.ref b3), .val (.ref b8), .val (.ref b16), .val (.int (p0 &&& (3 : Int32))), .val (.ref b58), .val (.ref b_63), .val (.int (1 : Int32)), .val (.int (1 : Int32)), .unset] [(.ref b_63)])) rfl (by rw [hml]; rfl) (Steps.refl _) (argsL := []) (rest := []) (lenOf pdv5 rfl) rfl (by show 2 * 0 + _ ≤ _; exact Nat.le_of_eq rfl) (hb hby at_182) (fun _ _ => ⟨rfl, e68, (by decide : 7 + 0 ≤ _), (by decide : 20 + 0 ≤ _)⟩)
        dsimp only [Pt.U, Pt.locs, Pt.cells, Pt.slots] at X69 l69 y69 z69 st69 hQ69
        subst l69 y69 z69
        obtain ⟨rfl, N69q, e69⟩ := hQ69
        have N69 := Fr.app N68 N69q
        obtain ⟨cq70, kq70, q70a, q70b, q70c⟩ := isOf hZ e69 (GEE.ext O63.2)
        obtain ⟨_, _, ⟨T70, L70, k70, n70⟩, -, X70, ⟨Lc70, hQ70, l70, y70, z70⟩, st70⟩ := X69.virtualBack hx (y := MN_15) (z := MN_15) hown (mvT hZ (Wd hw 96 rfl)) (mvT hZ (Wd hw 97 rfl)) (notFace_of_selects (args := #[]) (mvT hZ (Wd hw 99 rfl))) (mvT hZ (Wd hw 99 rfl)) (mvT hZ (Wd hw 98 rfl)) (by decide) (backOf (W := 0) (rmIp l Z a0 hw [] cS aRS aEM aUS aSS (aEM) (T63.heap) n0 O63 GL (GFE.ext O63.2)) hZ (Wd hw 100 rfl) (Wd hw 36 rfl) (by decide) (by decide)) q70a q70c (g := (mkF m 185 #[.val (.int p0), .val (.int p1), .val (.int p2), .val (.int p3), .val (.int (p1 &&& (255 : Int32))), .val (.int (p2 &&& (255 : Int32))), .val (.int (p3 &&& (255 : Int32))), .val (.ref b1), .val (.ref b3), .val (.ref b8), .val (.ref b16), .val (.int (p0 &&& (3 : Int32))), .val (.ref b58), .val (.ref b_63), .val (.int (1 : Int32)), .val (.int (1 : Int32)), .unset] [(.ref aEM)])) rfl (by rw [hml]; rfl) (Steps.refl _) (argsL := []) (rest := []) (lenOf pdv13 rfl) rfl (by show 2 * 0 + _ ≤ _; exact Nat.le_of_eq rfl) (hb hby at_185) (fun _ _ => ⟨rfl, e69, (by decide : 7 + 0 ≤ _), (by decide : 20 + 0 ≤ _)⟩)
        dsimp only [Pt.U, Pt.locs, Pt.cells, Pt.slots] at X70 l70 y70 z70 st70 hQ70
        subst l70 y70 z70
        obtain ⟨rfl, N70q, e70⟩ := hQ70
        have N70 := Fr.app N69 N70q
        obtain ⟨fs, hr, hrun, hended, hRW⟩ := X70.leaveW hS0 (by rw [e70]; exact (Nat.le_trans (Nat.le_trans (Nat.le_trans (Nat.le_trans (Nat.le_trans (Nat.le_trans (Nat.le_trans (Nat.le_trans (Nat.le_trans (Nat.le_trans (Nat.le_trans (Nat.le_trans (Nat.le_trans (Nat.le_refl _) E1.1) E3.1) (Keep.of_wr W5).1) E8.1) (Keep.of_wr W10).1) (Keep.of_wr W13).1) E16.1) (Keep.of_wr W18).1) (Keep.of_wr W21).1) (Keep.of_wr W24).1) E58.1) Kc60.1) Kc63.1)) (v := some (.int (1 : Int32))) (fun h => by rw [Bd.returns] at h; cases h)
        have hCR : CHr Z EL1 s.vm s.heap T70.vm T70.heap := by
          rw [hh, e70]
          exact R_64.trans (CHv.at X70 hZ (own_EW hw) H_64)
        refine ⟨_, _, pre57 _ ?_, hrun, hended, _, _, rfl, ?_, hCR, hRW.1, hRW.2.1, hRW.2.2.1, hRW.2.2.2.mono (by decide) (by decide)⟩
        · show Steps p.tables e below (T24.setTop (mkF m 117 #[.val (.int p0), .val (.int p1), .val (.int p2), .val (.int p3), .val (.int (p1 &&& (255 : Int32))), .val (.int (p2 &&& (255 : Int32))), .val (.int (p3 &&& (255 : Int32))), .val (.ref b1), .val (.ref b3), .val (.ref b8), .val (.ref b16), .val (.int (p0 &&& (3 : Int32))), .unset, .unset, .unset, .unset, .unset] [(.int (2 : Int32)), (.int (p0 &&& (3 : Int32)))])) _
          refine XS.icmpNo X24.here hx rfl (hb hby at_117) rfl (teq hc117_56).2 ?_
          show Steps p.tables e below (T24.setTop (mkF m 120 #[.val (.int p0), .val (.int p1), .val (.int p2), .val (.int p3), .val (.int (p1 &&& (255 : Int32))), .val (.int (p2 &&& (255 : Int32))), .val (.int (p3 &&& (255 : Int32))), .val (.ref b1), .val (.ref b3), .val (.ref b8), .val (.ref b16), .val (.int (p0 &&& (3 : Int32))), .unset, .unset, .unset, .unset, .unset] [])) _
          refine st58 _ ?_
          show Steps p.tables e below (T58.setTop (mkF m 123 #[.val (.int p0), .val (.int p1), .val (.int p2), .val (.int p3), .val (.int (p1 &&& (255 : Int32))), .val (.int (p2 &&& (255 : Int32))), .val (.int (p3 &&& (255 : Int32))), .val (.ref b1), .val (.ref b3), .val (.ref b8), .val (.ref b16), .val (.int (p0 &&& (3 : Int32))), .unset, .unset, .unset, .unset, .unset] [(.ref b58)])) _
          refine XS.dup X58.here hx rfl (hb hby at_123) rfl rfl ?_
          show Steps p.tables e below (T58.setTop (mkF m 124 #[.val (.int p0), .val (.int p1), .val (.int p2), .val (.int p3), .val (.int (p1 &&& (255 : Int32))), .val (.int (p2 &&& (255 : Int32))), .val (.int (p3 &&& (255 : Int32))), .val (.ref b1), .val (.ref b3), .val (.ref b8), .val (.ref b16), .val (.int (p0 &&& (3 : Int32))), .unset, .unset, .unset, .unset, .unset] [(.ref b58), (.ref b58)])) _
          refine XS.aload X58.here hx rfl (hb hby at_124) rfl rfl ?_
          show Steps p.tables e below (T58.setTop (mkF m 126 #[.val (.int p0), .val (.int p1), .val (.int p2), .val (.int p3), .val (.int (p1 &&& (255 : Int32))), .val (.int (p2 &&& (255 : Int32))), .val (.int (p3 &&& (255 : Int32))), .val (.ref b1), .val (.ref b3), .val (.ref b8), .val (.ref b16), .val (.int (p0 &&& (3 : Int32))), .unset, .unset, .unset, .unset, .unset] [(.ref b8), (.ref b58), (.ref b58)])) _
          refine st60.trans ?_
          show Steps p.tables e below (T60.setTop (mkF m 129 #[.val (.int p0), .val (.int p1), .val (.int p2), .val (.int p3), .val (.int (p1 &&& (255 : Int32))), .val (.int (p2 &&& (255 : Int32))), .val (.int (p3 &&& (255 : Int32))), .val (.ref b1), .val (.ref b3), .val (.ref b8), .val (.ref b16), .val (.int (p0 &&& (3 : Int32))), .unset, .unset, .unset, .unset, .unset] [(.ref b58)])) _
          refine XS.goto X60.here hx rfl (pc0 := 129) (pc' := 141) rfl (hb hby at_129) (by decide) (by decide) ?_
          show Steps p.tables e below (T60.setTop (mkF m 141 #[.val (.int p0), .val (.int p1), .val (.int p2), .val (.int p3), .val (.int (p1 &&& (255 : Int32))), .val (.int (p2 &&& (255 : Int32))), .val (.int (p3 &&& (255 : Int32))), .val (.ref b1), .val (.ref b3), .val (.ref b8), .val (.ref b16), .val (.int (p0 &&& (3 : Int32))), .unset, .unset, .unset, .unset, .unset] [(.ref b58)])) _
          refine XS.astore X60.here hx rfl (hb hby at_141) rfl rfl (l' := #[.val (.int p0), .val (.int p1), .val (.int p2), .val (.int p3), .val (.int (p1 &&& (255 : Int32))), .val (.int (p2 &&& (255 : Int32))), .val (.int (p3 &&& (255 : Int32))), .val (.ref b1), .val (.ref b3), .val (.ref b8), .val (.ref b16), .val (.int (p0 &&& (3 : Int32))), .val (.ref b58), .unset, .unset, .unset, .unset]) rfl ?_
          show Steps p.tables e below (T60.setTop (mkF m 143 #[.val (.int p0), .val (.int p1), .val (.int p2), .val (.int p3), .val (.int (p1 &&& (255 : Int32))), .val (.int (p2 &&& (255 : Int32))), .val (.int (p3 &&& (255 : Int32))), .val (.ref b1), .val (.ref b3), .val (.ref b8), .val (.ref b16), .val (.int (p0 &&& (3 : Int32))), .val (.ref b58), .unset, .unset, .unset, .unset] [])) _
          refine XS.aload X60.here hx rfl (hb hby at_143) rfl rfl ?_
          show Steps p.tables e below (T60.setTop (mkF m 145 #[.val (.int p0), .val (.int p1), .val (.int p2), .val (.int p3), .val (.int (p1 &&& (255 : Int32))), .val (.int (p2 &&& (255 : Int32))), .val (.int (p3 &&& (255 : Int32))), .val (.ref b1), .val (.ref b3), .val (.ref b8), .val (.ref b16), .val (.int (p0 &&& (3 : Int32))), .val (.ref b58), .unset, .unset, .unset, .unset] [(.ref b58)])) _
          refine st63 _ ?_
          show Steps p.tables e below (T63.setTop (mkF m 148 #[.val (.int p0), .val (.int p1), .val (.int p2), .val (.int p3), .val (.int (p1 &&& (255 : Int32))), .val (.int (p2 &&& (255 : Int32))), .val (.int (p3 &&& (255 : Int32))), .val (.ref b1), .val (.ref b3), .val (.ref b8), .val (.ref b16), .val (.int (p0 &&& (3 : Int32))), .val (.ref b58), .unset, .unset, .unset, .unset] [(.ref b_63)])) _
          refine XS.astore X63.here hx rfl (hb hby at_148) rfl rfl (l' := #[.val (.int p0), .val (.int p1), .val (.int p2), .val (.int p3), .val (.int (p1 &&& (255 : Int32))), .val (.int (p2 &&& (255 : Int32))), .val (.int (p3 &&& (255 : Int32))), .val (.ref b1), .val (.ref b3), .val (.ref b8), .val (.ref b16), .val (.int (p0 &&& (3 : Int32))), .val (.ref b58), .val (.ref b_63), .unset, .unset, .unset]) rfl ?_
          show Steps p.tables e below (T63.setTop (mkF m 150 #[.val (.int p0), .val (.int p1), .val (.int p2), .val (.int p3), .val (.int (p1 &&& (255 : Int32))), .val (.int (p2 &&& (255 : Int32))), .val (.int (p3 &&& (255 : Int32))), .val (.ref b1), .val (.ref b3), .val (.ref b8), .val (.ref b16), .val (.int (p0 &&& (3 : Int32))), .val (.ref b58), .val (.ref b_63), .unset, .unset, .unset] [])) _
          refine XS.aload X63.here hx rfl (hb hby at_150) rfl rfl ?_
          show Steps p.tables e below (T63.setTop (mkF m 152 #[.val (.int p0), .val (.int p1), .val (.int p2), .val (.int p3), .val (.int (p1 &&& (255 : Int32))), .val (.int (p2 &&& (255 : Int32))), .val (.int (p3 &&& (255 : Int32))), .val (.ref b1), .val (.ref b3), .val (.ref b8), .val (.ref b16), .val (.int (p0 &&& (3 : Int32))), .val (.ref b58), .val (.ref b_63), .unset, .unset, .unset] [(.ref b_63)])) _
          refine st65.trans ?_
          show Steps p.tables e below (T65.setTop (mkF m 155 #[.val (.int p0), .val (.int p1), .val (.int p2), .val (.int p3), .val (.int (p1 &&& (255 : Int32))), .val (.int (p2 &&& (255 : Int32))), .val (.int (p3 &&& (255 : Int32))), .val (.ref b1), .val (.ref b3), .val (.ref b8), .val (.ref b16), .val (.int (p0 &&& (3 : Int32))), .val (.ref b58), .val (.ref b_63), .unset, .unset, .unset] [(.ref aRS)])) _
          refine st66 _ ?_
          show Steps p.tables e below (T66.setTop (mkF m 158 #[.val (.int p0), .val (.int p1), .val (.int p2), .val (.int p3), .val (.int (p1 &&& (255 : Int32))), .val (.int (p2 &&& (255 : Int32))), .val (.int (p3 &&& (255 : Int32))), .val (.ref b1), .val (.ref b3), .val (.ref b8), .val (.ref b16), .val (.int (p0 &&& (3 : Int32))), .val (.ref b58), .val (.ref b_63), .unset, .unset, .unset] [(.ref aRS), (.ref aRS)])) _
          refine Jvm.RoadKit.acmp (g := (mkF m 158 #[.val (.int p0), .val (.int p1), .val (.int p2), .val (.int p3), .val (.int (p1 &&& (255 : Int32))), .val (.int (p2 &&& (255 : Int32))), .val (.int (p3 &&& (255 : Int32))), .val (.ref b1), .val (.ref b3), .val (.ref b8), .val (.ref b16), .val (.int (p0 &&& (3 : Int32))), .val (.ref b58), .val (.ref b_63), .unset, .unset, .unset] [(.ref aRS), (.ref aRS)])) X66 hx rfl rfl rfl (pc0 := 158) (pc' := 161) (same := true) rfl (hb hby at_158) rfl (decide_eq_true rfl) (by decide) (by decide) ?_
          show Steps p.tables e below (T66.setTop (mkF m 161 #[.val (.int p0), .val (.int p1), .val (.int p2), .val (.int p3), .val (.int (p1 &&& (255 : Int32))), .val (.int (p2 &&& (255 : Int32))), .val (.int (p3 &&& (255 : Int32))), .val (.ref b1), .val (.ref b3), .val (.ref b8), .val (.ref b16), .val (.int (p0 &&& (3 : Int32))), .val (.ref b58), .val (.ref b_63), .unset, .unset, .unset] [])) _
          refine XS.iconst X66.here hx rfl (hb hby at_161) ?_
          show Steps p.tables e below (T66.setTop (mkF m 162 #[.val (.int p0), .val (.int p1), .val (.int p2), .val (.int p3), .val (.int (p1 &&& (255 : Int32))), .val (.int (p2 &&& (255 : Int32))), .val (.int (p3 &&& (255 : Int32))), .val (.ref b1), .val (.ref b3), .val (.ref b8), .val (.ref b16), .val (.int (p0 &&& (3 : Int32))), .val (.ref b58), .val (.ref b_63), .unset, .unset, .unset] [(.int (1 : Int32))])) _
          refine XS.goto X66.here hx rfl (pc0 := 162) (pc' := 166) rfl (hb hby at_162) (by decide) (by decide) ?_
          show Steps p.tables e below (T66.setTop (mkF m 166 #[.val (.int p0), .val (.int p1), .val (.int p2), .val (.int p3), .val (.int (p1 &&& (255 : Int32))), .val (.int (p2 &&& (255 : Int32))), .val (.int (p3 &&& (255 : Int32))), .val (.ref b1), .val (.ref b3), .val (.ref b8), .val (.ref b16), .val (.int (p0 &&& (3 : Int32))), .val (.ref b58), .val (.ref b_63), .unset, .unset, .unset] [(.int (1 : Int32))])) _
          refine XS.istore X66.here hx rfl (hb hby at_166) rfl (l' := #[.val (.int p0), .val (.int p1), .val (.int p2), .val (.int p3), .val (.int (p1 &&& (255 : Int32))), .val (.int (p2 &&& (255 : Int32))), .val (.int (p3 &&& (255 : Int32))), .val (.ref b1), .val (.ref b3), .val (.ref b8), .val (.ref b16), .val (.int (p0 &&& (3 : Int32))), .val (.ref b58), .val (.ref b_63), .val (.int (1 : Int32)), .unset, .unset]) rfl ?_
          show Steps p.tables e below (T66.setTop (mkF m 168 #[.val (.int p0), .val (.int p1), .val (.int p2), .val (.int p3), .val (.int (p1 &&& (255 : Int32))), .val (.int (p2 &&& (255 : Int32))), .val (.int (p3 &&& (255 : Int32))), .val (.ref b1), .val (.ref b3), .val (.ref b8), .val (.ref b16), .val (.int (p0 &&& (3 : Int32))), .val (.ref b58), .val (.ref b_63), .val (.int (1 : Int32)), .unset, .unset] [])) _
          refine XS.aload X66.here hx rfl (hb hby at_168) rfl rfl ?_
          show Steps p.tables e below (T66.setTop (mkF m 170 #[.val (.int p0), .val (.int p1), .val (.int p2), .val (.int p3), .val (.int (p1 &&& (255 : Int32))), .val (.int (p2 &&& (255 : Int32))), .val (.int (p3 &&& (255 : Int32))), .val (.ref b1), .val (.ref b3), .val (.ref b8), .val (.ref b16), .val (.int (p0 &&& (3 : Int32))), .val (.ref b58), .val (.ref b_63), .val (.int (1 : Int32)), .unset, .unset] [(.ref b58)])) _
          refine XS.aload X66.here hx rfl (hb hby at_170) rfl rfl ?_
          show Steps p.tables e below (T66.setTop (mkF m 172 #[.val (.int p0), .val (.int p1), .val (.int p2), .val (.int p3), .val (.int (p1 &&& (255 : Int32))), .val (.int (p2 &&& (255 : Int32))), .val (.int (p3 &&& (255 : Int32))), .val (.ref b1), .val (.ref b3), .val (.ref b8), .val (.ref b16), .val (.int (p0 &&& (3 : Int32))), .val (.ref b58), .val (.ref b_63), .val (.int (1 : Int32)), .unset, .unset] [(.ref b_63), (.ref b58)])) _
          refine st67.trans ?_
          show Steps p.tables e below (T67.setTop (mkF m 175 #[.val (.int p0), .val (.int p1), .val (.int p2), .val (.int p3), .val (.int (p1 &&& (255 : Int32))), .val (.int (p2 &&& (255 : Int32))), .val (.int (p3 &&& (255 : Int32))), .val (.ref b1), .val (.ref b3), .val (.ref b8), .val (.ref b16), .val (.int (p0 &&& (3 : Int32))), .val (.ref b58), .val (.ref b_63), .val (.int (1 : Int32)), .unset, .unset] [(.ref b58), (.ref b58)])) _
          refine st68.trans ?_
          show Steps p.tables e below (T68.setTop (mkF m 178 #[.val (.int p0), .val (.int p1), .val (.int p2), .val (.int p3), .val (.int (p1 &&& (255 : Int32))), .val (.int (p2 &&& (255 : Int32))), .val (.int (p3 &&& (255 : Int32))), .val (.ref b1), .val (.ref b3), .val (.ref b8), .val (.ref b16), .val (.int (p0 &&& (3 : Int32))), .val (.ref b58), .val (.ref b_63), .val (.int (1 : Int32)), .unset, .unset] [(.int (1 : Int32))])) _
          refine XS.istore X68.here hx rfl (hb hby at_178) rfl (l' := #[.val (.int p0), .val (.int p1), .val (.int p2), .val (.int p3), .val (.int (p1 &&& (255 : Int32))), .val (.int (p2 &&& (255 : Int32))), .val (.int (p3 &&& (255 : Int32))), .val (.ref b1), .val (.ref b3), .val (.ref b8), .val (.ref b16), .val (.int (p0 &&& (3 : Int32))), .val (.ref b58), .val (.ref b_63), .val (.int (1 : Int32)), .val (.int (1 : Int32)), .unset]) rfl ?_
          show Steps p.tables e below (T68.setTop (mkF m 180 #[.val (.int p0), .val (.int p1), .val (.int p2), .val (.int p3), .val (.int (p1 &&& (255 : Int32))), .val (.int (p2 &&& (255 : Int32))), .val (.int (p3 &&& (255 : Int32))), .val (.ref b1), .val (.ref b3), .val (.ref b8), .val (.ref b16), .val (.int (p0 &&& (3 : Int32))), .val (.ref b58), .val (.ref b_63), .val (.int (1 : Int32)), .val (.int (1 : Int32)), .unset] [])) _
          refine XS.aload X68.here hx rfl (hb hby at_180) rfl rfl ?_
          show Steps p.tables e below (T68.setTop (mkF m 182 #[.val (.int p0), .val (.int p1), .val (.int p2), .val (.int p3), .val (.int (p1 &&& (255 : Int32))), .val (.int (p2 &&& (255 : Int32))), .val (.int (p3 &&& (255 : Int32))), .val (.ref b1), .val (.ref b3), .val (.ref b8), .val (.ref b16), .val (.int (p0 &&& (3 : Int32))), .val (.ref b58), .val (.ref b_63), .val (.int (1 : Int32)), .val (.int (1 : Int32)), .unset] [(.ref b_63)])) _
          refine st69.trans ?_
          show Steps p.tables e below (T69.setTop (mkF m 185 #[.val (.int p0), .val (.int p1), .val (.int p2), .val (.int p3), .val (.int (p1 &&& (255 : Int32))), .val (.int (p2 &&& (255 : Int32))), .val (.int (p3 &&& (255 : Int32))), .val (.ref b1), .val (.ref b3), .val (.ref b8), .val (.ref b16), .val (.int (p0 &&& (3 : Int32))), .val (.ref b58), .val (.ref b_63), .val (.int (1 : Int32)), .val (.int (1 : Int32)), .unset] [(.ref aEM)])) _
          refine st70.trans ?_
          show Steps p.tables e below (T70.setTop (mkF m 188 #[.val (.int p0), .val (.int p1), .val (.int p2), .val (.int p3), .val (.int (p1 &&& (255 : Int32))), .val (.int (p2 &&& (255 : Int32))), .val (.int (p3 &&& (255 : Int32))), .val (.ref b1), .val (.ref b3), .val (.ref b8), .val (.ref b16), .val (.int (p0 &&& (3 : Int32))), .val (.ref b58), .val (.ref b_63), .val (.int (1 : Int32)), .val (.int (1 : Int32)), .unset] [(.int (0 : Int32))])) _
          refine XS.ifNo X70.here hx rfl (hb hby at_188) rfl ((if0 _ _).trans (teq (by decide : (0 : Int32) = (0 : Int32))).2) ?_
          show Steps p.tables e below (T70.setTop (mkF m 191 #[.val (.int p0), .val (.int p1), .val (.int p2), .val (.int p3), .val (.int (p1 &&& (255 : Int32))), .val (.int (p2 &&& (255 : Int32))), .val (.int (p3 &&& (255 : Int32))), .val (.ref b1), .val (.ref b3), .val (.ref b8), .val (.ref b16), .val (.int (p0 &&& (3 : Int32))), .val (.ref b58), .val (.ref b_63), .val (.int (1 : Int32)), .val (.int (1 : Int32)), .unset] [])) _
          refine XS.iconst X70.here hx rfl (hb hby at_191) ?_
          show Steps p.tables e below (T70.setTop (mkF m 192 #[.val (.int p0), .val (.int p1), .val (.int p2), .val (.int p3), .val (.int (p1 &&& (255 : Int32))), .val (.int (p2 &&& (255 : Int32))), .val (.int (p3 &&& (255 : Int32))), .val (.ref b1), .val (.ref b3), .val (.ref b8), .val (.ref b16), .val (.int (p0 &&& (3 : Int32))), .val (.ref b58), .val (.ref b_63), .val (.int (1 : Int32)), .val (.int (1 : Int32)), .unset] [(.int (1 : Int32))])) _
          refine XS.goto X70.here hx rfl (pc0 := 192) (pc' := 196) rfl (hb hby at_192) (by decide) (by decide) ?_
          show Steps p.tables e below (T70.setTop (mkF m 196 #[.val (.int p0), .val (.int p1), .val (.int p2), .val (.int p3), .val (.int (p1 &&& (255 : Int32))), .val (.int (p2 &&& (255 : Int32))), .val (.int (p3 &&& (255 : Int32))), .val (.ref b1), .val (.ref b3), .val (.ref b8), .val (.ref b16), .val (.int (p0 &&& (3 : Int32))), .val (.ref b58), .val (.ref b_63), .val (.int (1 : Int32)), .val (.int (1 : Int32)), .unset] [(.int (1 : Int32))])) _
          refine XS.istore X70.here hx rfl (hb hby at_196) rfl (l' := #[.val (.int p0), .val (.int p1), .val (.int p2), .val (.int p3), .val (.int (p1 &&& (255 : Int32))), .val (.int (p2 &&& (255 : Int32))), .val (.int (p3 &&& (255 : Int32))), .val (.ref b1), .val (.ref b3), .val (.ref b8), .val (.ref b16), .val (.int (p0 &&& (3 : Int32))), .val (.ref b58), .val (.ref b_63), .val (.int (1 : Int32)), .val (.int (1 : Int32)), .val (.int (1 : Int32))]) rfl ?_
          show Steps p.tables e below (T70.setTop (mkF m 198 #[.val (.int p0), .val (.int p1), .val (.int p2), .val (.int p3), .val (.int (p1 &&& (255 : Int32))), .val (.int (p2 &&& (255 : Int32))), .val (.int (p3 &&& (255 : Int32))), .val (.ref b1), .val (.ref b3), .val (.ref b8), .val (.ref b16), .val (.int (p0 &&& (3 : Int32))), .val (.ref b58), .val (.ref b_63), .val (.int (1 : Int32)), .val (.int (1 : Int32)), .val (.int (1 : Int32))] [])) _
          refine XS.iload X70.here hx rfl (hb hby at_198) rfl ?_
          show Steps p.tables e below (T70.setTop (mkF m 200 #[.val (.int p0), .val (.int p1), .val (.int p2), .val (.int p3), .val (.int (p1 &&& (255 : Int32))), .val (.int (p2 &&& (255 : Int32))), .val (.int (p3 &&& (255 : Int32))), .val (.ref b1), .val (.ref b3), .val (.ref b8), .val (.ref b16), .val (.int (p0 &&& (3 : Int32))), .val (.ref b58), .val (.ref b_63), .val (.int (1 : Int32)), .val (.int (1 : Int32)), .val (.int (1 : Int32))] [(.int (1 : Int32))])) _
          refine XS.ifNo X70.here hx rfl (hb hby at_200) rfl ((if0 _ _).trans (feq (by decide : ¬ ((1 : Int32) = (0 : Int32)))).1) ?_
          show Steps p.tables e below (T70.setTop (mkF m 203 #[.val (.int p0), .val (.int p1), .val (.int p2), .val (.int p3), .val (.int (p1 &&& (255 : Int32))), .val (.int (p2 &&& (255 : Int32))), .val (.int (p3 &&& (255 : Int32))), .val (.ref b1), .val (.ref b3), .val (.ref b8), .val (.ref b16), .val (.int (p0 &&& (3 : Int32))), .val (.ref b58), .val (.ref b_63), .val (.int (1 : Int32)), .val (.int (1 : Int32)), .val (.int (1 : Int32))] [])) _
          refine XS.iload X70.here hx rfl (hb hby at_203) rfl ?_
          show Steps p.tables e below (T70.setTop (mkF m 205 #[.val (.int p0), .val (.int p1), .val (.int p2), .val (.int p3), .val (.int (p1 &&& (255 : Int32))), .val (.int (p2 &&& (255 : Int32))), .val (.int (p3 &&& (255 : Int32))), .val (.ref b1), .val (.ref b3), .val (.ref b8), .val (.ref b16), .val (.int (p0 &&& (3 : Int32))), .val (.ref b58), .val (.ref b_63), .val (.int (1 : Int32)), .val (.int (1 : Int32)), .val (.int (1 : Int32))] [(.int (1 : Int32))])) _
          refine XS.ifNo X70.here hx rfl (hb hby at_205) rfl ((if0 _ _).trans (feq (by decide : ¬ ((1 : Int32) = (0 : Int32)))).1) ?_
          show Steps p.tables e below (T70.setTop (mkF m 208 #[.val (.int p0), .val (.int p1), .val (.int p2), .val (.int p3), .val (.int (p1 &&& (255 : Int32))), .val (.int (p2 &&& (255 : Int32))), .val (.int (p3 &&& (255 : Int32))), .val (.ref b1), .val (.ref b3), .val (.ref b8), .val (.ref b16), .val (.int (p0 &&& (3 : Int32))), .val (.ref b58), .val (.ref b_63), .val (.int (1 : Int32)), .val (.int (1 : Int32)), .val (.int (1 : Int32))] [])) _
          refine XS.iload X70.here hx rfl (hb hby at_208) rfl ?_
          show Steps p.tables e below (T70.setTop (mkF m 210 #[.val (.int p0), .val (.int p1), .val (.int p2), .val (.int p3), .val (.int (p1 &&& (255 : Int32))), .val (.int (p2 &&& (255 : Int32))), .val (.int (p3 &&& (255 : Int32))), .val (.ref b1), .val (.ref b3), .val (.ref b8), .val (.ref b16), .val (.int (p0 &&& (3 : Int32))), .val (.ref b58), .val (.ref b_63), .val (.int (1 : Int32)), .val (.int (1 : Int32)), .val (.int (1 : Int32))] [(.int (1 : Int32))])) _
          refine XS.ifNo X70.here hx rfl (hb hby at_210) rfl ((if0 _ _).trans (feq (by decide : ¬ ((1 : Int32) = (0 : Int32)))).1) ?_
          show Steps p.tables e below (T70.setTop (mkF m 213 #[.val (.int p0), .val (.int p1), .val (.int p2), .val (.int p3), .val (.int (p1 &&& (255 : Int32))), .val (.int (p2 &&& (255 : Int32))), .val (.int (p3 &&& (255 : Int32))), .val (.ref b1), .val (.ref b3), .val (.ref b8), .val (.ref b16), .val (.int (p0 &&& (3 : Int32))), .val (.ref b58), .val (.ref b_63), .val (.int (1 : Int32)), .val (.int (1 : Int32)), .val (.int (1 : Int32))] [])) _
          refine XS.iconst X70.here hx rfl (hb hby at_213) ?_
          show Steps p.tables e below (T70.setTop (mkF m 214 #[.val (.int p0), .val (.int p1), .val (.int p2), .val (.int p3), .val (.int (p1 &&& (255 : Int32))), .val (.int (p2 &&& (255 : Int32))), .val (.int (p3 &&& (255 : Int32))), .val (.ref b1), .val (.ref b3), .val (.ref b8), .val (.ref b16), .val (.int (p0 &&& (3 : Int32))), .val (.ref b58), .val (.ref b_63), .val (.int (1 : Int32)), .val (.int (1 : Int32)), .val (.int (1 : Int32))] [(.int (1 : Int32))])) _
          refine XS.goto X70.here hx rfl (pc0 := 214) (pc' := 218) rfl (hb hby at_214) (by decide) (by decide) ?_
          show Steps p.tables e below (T70.setTop (mkF m 218 #[.val (.int p0), .val (.int p1), .val (.int p2), .val (.int p3), .val (.int (p1 &&& (255 : Int32))), .val (.int (p2 &&& (255 : Int32))), .val (.int (p3 &&& (255 : Int32))), .val (.ref b1), .val (.ref b3), .val (.ref b8), .val (.ref b16), .val (.int (p0 &&& (3 : Int32))), .val (.ref b58), .val (.ref b_63), .val (.int (1 : Int32)), .val (.int (1 : Int32)), .val (.int (1 : Int32))] [(.int (1 : Int32))])) _
          exact retN X70 hx (t := .boolean) Bd.returns (by simp) (hb hby at_218) hr
        · show Q_rm0 n0 _ T70.heap _
          rw [e70]
          exact ⟨rfl, N70⟩
      · obtain ⟨T71, h71, X71, e71, E71, A71, D71, -, st71⟩ := newO X24 hx hZ hown (Wd hw 1 rfl) (Wd hw 2 rfl) (Wd hw 3 rfl) e24 (g := (mkF m 132 #[.val (.int p0), .val (.int p1), .val (.int p2), .val (.int p3), .val (.int (p1 &&& (255 : Int32))), .val (.int (p2 &&& (255 : Int32))), .val (.int (p3 &&& (255 : Int32))), .val (.ref b1), .val (.ref b3), .val (.ref b8), .val (.ref b16), .val (.int (p0 &&& (3 : Int32))), .unset, .unset, .unset, .unset, .unset] [])) rfl (hb hby at_132) (by decide) (by decide)
        obtain ⟨b71, g71⟩ : ∃ z, z = h24.size := ⟨_, rfl⟩
        rw [← g71] at A71 D71 st71
        have g_b71 : n0 ≤ b71 := Nat.le_trans (own_sz O24) (Nat.le_of_eq g71.symm)
        have H_72 := H_25.ext E71
        have R_72 := R_25.trans (CHr.ext E71 H_25)
        have O71 := O24.ext E71
        have F_value_b71 : Fld Z h71 b71 "java/lang/String" "value" "[B" .null := D71 (Or.inr (Wd hw 16 rfl)) (ty := (.array .byte)) (by decide)
        have F_coder_b71 : Fld Z h71 b71 "java/lang/String" "coder" "B" (.int (0 : Int32)) := D71 (Or.inr (Wd hw 17 rfl)) (ty := .byte) (by decide)
        obtain ⟨_, _, ⟨T73, L73, k73, n73⟩, -, X73, ⟨Lc73, hQ73, l73, y73, z73⟩, st73⟩ := X71.specialBack hx (y := MN_4) rfl hown (mvT hZ (Wd hw 4 rfl)) (mvT hZ (Wd hw 5 rfl)) (mvT hZ (Wd hw 6 rfl)) (by decide) (backOf (W := 1) (rmIc_3 l Z a0 hw [] cS aRS aEM aUS aSS (b71) (b16) (k16) ((p1 &&& (255 : Int32))) ((p2 &&& (255 : Int32))) ((p3 &&& (255 : Int32))) (h71) n0 O71 GL A71 F_value_b71 F_coder_b71 g_b71 (V24.ext E71) hq1 hq2 hq3) hZ (Wd hw 6 rfl) (Wd hw 3 rfl) (by decide) (by decide)) (g := (mkF m 138 #[.val (.int p0), .val (.int p1), .val (.int p2), .val (.int p3), .val (.int (p1 &&& (255 : Int32))), .val (.int (p2 &&& (255 : Int32))), .val (.int (p3 &&& (255 : Int32))), .val (.ref b1), .val (.ref b3), .val (.ref b8), .val (.ref b16), .val (.int (p0 &&& (3 : Int32))), .unset, .unset, .unset, .unset, .unset] [(.ref b16), (.ref b71), (.ref b71)])) rfl (by rw [hml]; rfl) (Steps.refl _) (a := b71) (argsL := [(.ref b16)]) (rest := [(.ref b71)]) (lenOf pdv8 rfl) rfl (by show 2 * 0 + _ ≤ _; exact Nat.le_of_eq rfl) (hb hby at_138) (fun _ _ => ⟨rfl, e71, (by decide : 5 + 1 ≤ _), (by decide : 10 + 3 ≤ _)⟩)
        dsimp only [Pt.U, Pt.locs, Pt.cells, Pt.slots] at X73 l73 y73 z73 st73 hQ73
        subst l73 y73 z73
        obtain ⟨b_73, kb_73, rfl, N73q, Kc73, P73_0, P73_1, P73_2, P73_3, P73_4, P73_5⟩ := hQ73
        have O73 := O71.keep Kc73 (allS g_b71 all0)
        have Sf75 : Safe Z EL1 s.vm h71 b71 := (Safe.ext E71 H_25 (Safe.new (Z := Z) (EL := EL1) (vm := s.vm) (Nat.le_of_eq g71.symm)))
        have H_74 := H_72.keep Kc73 (sfS Sf75 sf0)
        have R_74 := R_72.trans (CHr.keep Kc73 (sfS Sf75 sf0) H_72)
        have g_b_73 : n0 ≤ b_73 := Nat.le_trans (own_sz O71) P73_0
        have N73 := Fr.app N24 N73q
        obtain ⟨_, _, ⟨T76, L76, k76, n76⟩, -, X76, ⟨Lc76, hQ76, l76, y76, z76⟩, st76⟩ := Jvm.LawKit.callS X73 hx (y := MN_11) hown (mvT hZ (Wd hw 22 rfl)) (mvT hZ (Wd hw 23 rfl)) (mvT hZ (Wd hw 24 rfl)) (mvT hZ (Wd hw 25 rfl)) (by decide) (backOf (W := 0) (rmMk l Z a0 hw [] cS aRS aEM aUS aSS (b71) (T73.heap) n0 O73 GL) hZ (Wd hw 25 rfl) (Wd hw 24 rfl) (by decide) (by decide)) (g := (mkF m 145 #[.val (.int p0), .val (.int p1), .val (.int p2), .val (.int p3), .val (.int (p1 &&& (255 : Int32))), .val (.int (p2 &&& (255 : Int32))), .val (.int (p3 &&& (255 : Int32))), .val (.ref b1), .val (.ref b3), .val (.ref b8), .val (.ref b16), .val (.int (p0 &&& (3 : Int32))), .val (.ref b71), .unset, .unset, .unset, .unset] [(.ref b71)])) rfl (by rw [hml]; rfl) (argsL := [(.ref b71)]) (rest := []) (lenOf pdv9 rfl) rfl (by show 2 * 0 + _ ≤ _; exact Nat.le_of_eq rfl) (hb hby at_145) (fun _ _ => ⟨rfl, rfl, (by decide : 6 + 1 ≤ _), (by decide : 13 + 8 ≤ _)⟩)
        dsimp only [Pt.U, Pt.locs, Pt.cells, Pt.slots] at X76 l76 y76 z76 st76 hQ76
        subst l76 y76 z76
        obtain ⟨b_76, rfl, N76q, Kc76, P76_0, P76_1, P76_2, P76_3, P76_4⟩ := hQ76
        have O76 := O73.keep Kc76 all0
        have H_77 := H_74.keep Kc76 sf0
        have R_77 := R_74.trans (CHr.keep Kc76 sf0 H_74)
        have g_b_76 : n0 ≤ b_76 := Nat.le_trans (own_sz O73) P76_0
        have N76 := Fr.app N73 N76q
        obtain ⟨cq78, kq78, q78a, q78b, q78c⟩ := isOf hZ rfl P76_1
        obtain ⟨_, _, ⟨T78, L78, k78, n78⟩, -, X78, ⟨Lc78, hQ78, l78, y78, z78⟩, st78⟩ := X76.virtualBack hx (y := MN_12) (z := MN_12) hown (mvT hZ (Wd hw 74 rfl)) (mvT hZ (Wd hw 75 rfl)) (notFace_of_selects (args := #[]) (mvT hZ (Wd hw 77 rfl))) (mvT hZ (Wd hw 77 rfl)) (mvT hZ (Wd hw 76 rfl)) (by decide) (backOf (W := 0) (rmGr l Z a0 hw [] cS aRS aEM aUS aSS (b_76) (aRS) (T76.heap) n0 O76 GL P76_3) hZ (Wd hw 78 rfl) (Wd hw 24 rfl) (by decide) (by decide)) q78a q78c (g := (mkF m 152 #[.val (.int p0), .val (.int p1), .val (.int p2), .val (.int p3), .val (.int (p1 &&& (255 : Int32))), .val (.int (p2 &&& (255 : Int32))), .val (.int (p3 &&& (255 : Int32))), .val (.ref b1), .val (.ref b3), .val (.ref b8), .val (.ref b16), .val (.int (p0 &&& (3 : Int32))), .val (.ref b71), .val (.ref b_76), .unset, .unset, .unset] [(.ref b_76)])) rfl (by rw [hml]; rfl) (Steps.refl _) (argsL := []) (rest := []) (lenOf pdv10 rfl) rfl (by show 2 * 0 + _ ≤ _; exact Nat.le_of_eq rfl) (hb hby at_152) (fun _ _ => ⟨rfl, rfl, (by decide : 7 + 0 ≤ _), (by decide : 21 + 0 ≤ _)⟩)
        dsimp only [Pt.U, Pt.locs, Pt.cells, Pt.slots] at X78 l78 y78 z78 st78 hQ78
        subst l78 y78 z78
        obtain ⟨rfl, N78q, e78⟩ := hQ78
        have N78 := Fr.app N76 N78q
        obtain ⟨T79, X79, e79, st79⟩ := getS2 X78 hx hZ hown (host := "") (Or.inl (Wd hw 79 rfl)) Via.refl e78 (GSR.ext O76.2) (g := (mkF m 155 #[.val (.int p0), .val (.int p1), .val (.int p2), .val (.int p3), .val (.int (p1 &&& (255 : Int32))), .val (.int (p2 &&& (255 : Int32))), .val (.int (p3 &&& (255 : Int32))), .val (.ref b1), .val (.ref b3), .val (.ref b8), .val (.ref b16), .val (.int (p0 &&& (3 : Int32))), .val (.ref b71), .val (.ref b_76), .unset, .unset, .unset] [(.ref aRS)])) rfl (hb hby at_155)
        obtain ⟨cq80, kq80, q80a, q80b, q80c⟩ := isOf hZ e79 P76_1
        obtain ⟨_, _, ⟨T80, L80, k80, n80⟩, -, X80, ⟨Lc80, hQ80, l80, y80, z80⟩, st80⟩ := X79.virtualBackUp hx (owner := "java/lang/Throwable") (x := MN_17) (y := MN_14) hown (mvT hZ (Wd hw 80 rfl)) (mvT hZ (Wd hw 81 rfl)) (mvT hZ (Wd hw 82 rfl)) (by decide) (mvT hZ (Wd hw 84 rfl)) (mvT hZ (Wd hw 83 rfl)) (backOf (W := 1) (rmGm l Z a0 hw [] cS aRS aEM aUS aSS (b_76) (b71) (T76.heap) n0 O76 GL P76_2) hZ (Wd hw 85 rfl) (Wd hw 57 rfl) (by decide) (by decide)) q80a q80c (g := (mkF m 172 #[.val (.int p0), .val (.int p1), .val (.int p2), .val (.int p3), .val (.int (p1 &&& (255 : Int32))), .val (.int (p2 &&& (255 : Int32))), .val (.int (p3 &&& (255 : Int32))), .val (.ref b1), .val (.ref b3), .val (.ref b8), .val (.ref b16), .val (.int (p0 &&& (3 : Int32))), .val (.ref b71), .val (.ref b_76), .val (.int (1 : Int32)), .unset, .unset] [(.ref b_76), (.ref b71)])) rfl (by rw [hml]; rfl) (Steps.refl _) (argsL := []) (rest := [(.ref b71)]) (lenOf pdv11 rfl) rfl (by show 2 * 0 + _ ≤ _; exact Nat.le_of_eq rfl) (hb hby at_172) (fun _ _ => ⟨rfl, e79, (by decide : 7 + 0 ≤ _), (by decide : 21 + 0 ≤ _)⟩)
        dsimp only [Pt.U, Pt.locs, Pt.cells, Pt.slots] at X80 l80 y80 z80 st80 hQ80
        subst l80 y80 z80
        obtain ⟨rfl, N80q, e80⟩ := hQ80
        have N80 := Fr.app N78 N80q
        obtain ⟨cq81, kq81, q81a, q81b, q81c⟩ := isOf hZ e80 (P73_2.keep Kc76)
        obtain ⟨_, _, ⟨T81, L81, k81, n81⟩, -, X81, ⟨Lc81, hQ81, l81, y81, z81⟩, st81⟩ := X80.virtualBack hx (y := MN_16) (z := MN_16) hown (mvT hZ (Wd hw 86 rfl)) (mvT hZ (Wd hw 87 rfl)) (notFace_of_selects (args := #[]) (mvT hZ (Wd hw 89 rfl))) (mvT hZ (Wd hw 89 rfl)) (mvT hZ (Wd hw 88 rfl)) (by decide) (backOf (W := 0) (rmEq l Z a0 hw [] cS aRS aEM aUS aSS (b71) (T76.heap) n0 O76 GL) hZ (Wd hw 90 rfl) (Wd hw 3 rfl) (by decide) (by decide)) q81a q81c (g := (mkF m 175 #[.val (.int p0), .val (.int p1), .val (.int p2), .val (.int p3), .val (.int (p1 &&& (255 : Int32))), .val (.int (p2 &&& (255 : Int32))), .val (.int (p3 &&& (255 : Int32))), .val (.ref b1), .val (.ref b3), .val (.ref b8), .val (.ref b16), .val (.int (p0 &&& (3 : Int32))), .val (.ref b71), .val (.ref b_76), .val (.int (1 : Int32)), .unset, .unset] [(.ref b71), (.ref b71)])) rfl (by rw [hml]; rfl) (Steps.refl _) (argsL := [(.ref b71)]) (rest := []) (lenOf pdv12 rfl) rfl (by show 2 * 0 + _ ≤ _; exact Nat.le_of_eq rfl) (hb hby at_175) (fun _ _ => ⟨rfl, e80, (by decide : 7 + 0 ≤ _), (by decide : 21 + 0 ≤ _)⟩)
        dsimp only [Pt.U, Pt.locs, Pt.cells, Pt.slots] at X81 l81 y81 z81 st81 hQ81
        subst l81 y81 z81
        obtain ⟨rfl, N81q, e81⟩ := hQ81
        have N81 := Fr.app N80 N81q
        obtain ⟨cq82, kq82, q82a, q82b, q82c⟩ := isOf hZ e81 P76_1
        obtain ⟨_, _, ⟨T82, L82, k82, n82⟩, -, X82, ⟨Lc82, hQ82, l82, y82, z82⟩, st82⟩ := X81.virtualBack hx (y := MN_13) (z := MN_13) hown (mvT hZ (Wd hw 91 rfl)) (mvT hZ (Wd hw 92 rfl)) (notFace_of_selects (args := #[]) (mvT hZ (Wd hw 94 rfl))) (mvT hZ (Wd hw 94 rfl)) (mvT hZ (Wd hw 93 rfl)) (by decide) (backOf (W := 0) (rmGp l Z a0 hw [] cS aRS aEM aUS aSS (b_76) (aEM) (T76.heap) n0 O76 GL P76_4) hZ (Wd hw 95 rfl) (Wd hw 24 rfl) (by decide) (by decide)) q82a q82c (g := (mkF m 182 #[.val (.int p0), .val (.int p1), .val (.int p2), .val (.int p3), .val (.int (p1 &&& (255 : Int32))), .val (.int (p2 &&& (255 : Int32))), .val (.int (p3 &&& (255 : Int32))), .val (.ref b1), .val (.ref b3), .val (.ref b8), .val (.ref b16), .val (.int (p0 &&& (3 : Int32))), .val (.ref b71), .val (.ref b_76), .val (.int (1 : Int32)), .val (.int (1 : Int32)), .unset] [(.ref b_76)])) rfl (by rw [hml]; rfl) (Steps.refl _) (argsL := []) (rest := []) (lenOf pdv5 rfl) rfl (by show 2 * 0 + _ ≤ _; exact Nat.le_of_eq rfl) (hb hby at_182) (fun _ _ => ⟨rfl, e81, (by decide : 7 + 0 ≤ _), (by decide : 21 + 0 ≤ _)⟩)
        dsimp only [Pt.U, Pt.locs, Pt.cells, Pt.slots] at X82 l82 y82 z82 st82 hQ82
        subst l82 y82 z82
        obtain ⟨rfl, N82q, e82⟩ := hQ82
        have N82 := Fr.app N81 N82q
        obtain ⟨cq83, kq83, q83a, q83b, q83c⟩ := isOf hZ e82 (GEE.ext O76.2)
        obtain ⟨_, _, ⟨T83, L83, k83, n83⟩, -, X83, ⟨Lc83, hQ83, l83, y83, z83⟩, st83⟩ := X82.virtualBack hx (y := MN_15) (z := MN_15) hown (mvT hZ (Wd hw 96 rfl)) (mvT hZ (Wd hw 97 rfl)) (notFace_of_selects (args := #[]) (mvT hZ (Wd hw 99 rfl))) (mvT hZ (Wd hw 99 rfl)) (mvT hZ (Wd hw 98 rfl)) (by decide) (backOf (W := 0) (rmIp l Z a0 hw [] cS aRS aEM aUS aSS (aEM) (T76.heap) n0 O76 GL (GFE.ext O76.2)) hZ (Wd hw 100 rfl) (Wd hw 36 rfl) (by decide) (by decide)) q83a q83c (g := (mkF m 185 #[.val (.int p0), .val (.int p1), .val (.int p2), .val (.int p3), .val (.int (p1 &&& (255 : Int32))), .val (.int (p2 &&& (255 : Int32))), .val (.int (p3 &&& (255 : Int32))), .val (.ref b1), .val (.ref b3), .val (.ref b8), .val (.ref b16), .val (.int (p0 &&& (3 : Int32))), .val (.ref b71), .val (.ref b_76), .val (.int (1 : Int32)), .val (.int (1 : Int32)), .unset] [(.ref aEM)])) rfl (by rw [hml]; rfl) (Steps.refl _) (argsL := []) (rest := []) (lenOf pdv13 rfl) rfl (by show 2 * 0 + _ ≤ _; exact Nat.le_of_eq rfl) (hb hby at_185) (fun _ _ => ⟨rfl, e82, (by decide : 7 + 0 ≤ _), (by decide : 21 + 0 ≤ _)⟩)
        dsimp only [Pt.U, Pt.locs, Pt.cells, Pt.slots] at X83 l83 y83 z83 st83 hQ83
        subst l83 y83 z83
        obtain ⟨rfl, N83q, e83⟩ := hQ83
        have N83 := Fr.app N82 N83q
        obtain ⟨fs, hr, hrun, hended, hRW⟩ := X83.leaveW hS0 (by rw [e83]; exact (Nat.le_trans (Nat.le_trans (Nat.le_trans (Nat.le_trans (Nat.le_trans (Nat.le_trans (Nat.le_trans (Nat.le_trans (Nat.le_trans (Nat.le_trans (Nat.le_trans (Nat.le_trans (Nat.le_trans (Nat.le_refl _) E1.1) E3.1) (Keep.of_wr W5).1) E8.1) (Keep.of_wr W10).1) (Keep.of_wr W13).1) E16.1) (Keep.of_wr W18).1) (Keep.of_wr W21).1) (Keep.of_wr W24).1) E71.1) Kc73.1) Kc76.1)) (v := some (.int (1 : Int32))) (fun h => by rw [Bd.returns] at h; cases h)
        have hCR : CHr Z EL1 s.vm s.heap T83.vm T83.heap := by
          rw [hh, e83]
          exact R_77.trans (CHv.at X83 hZ (own_EW hw) H_77)
        refine ⟨_, _, pre57 _ ?_, hrun, hended, _, _, rfl, ?_, hCR, hRW.1, hRW.2.1, hRW.2.2.1, hRW.2.2.2.mono (by decide) (by decide)⟩
        · show Steps p.tables e below (T24.setTop (mkF m 117 #[.val (.int p0), .val (.int p1), .val (.int p2), .val (.int p3), .val (.int (p1 &&& (255 : Int32))), .val (.int (p2 &&& (255 : Int32))), .val (.int (p3 &&& (255 : Int32))), .val (.ref b1), .val (.ref b3), .val (.ref b8), .val (.ref b16), .val (.int (p0 &&& (3 : Int32))), .unset, .unset, .unset, .unset, .unset] [(.int (2 : Int32)), (.int (p0 &&& (3 : Int32)))])) _
          refine XS.icmpYes X24.here hx rfl (pc0 := 117) (pc' := 132) rfl (hb hby at_117) rfl (feq hc117_56).2 (by decide) (by decide) ?_
          show Steps p.tables e below (T24.setTop (mkF m 132 #[.val (.int p0), .val (.int p1), .val (.int p2), .val (.int p3), .val (.int (p1 &&& (255 : Int32))), .val (.int (p2 &&& (255 : Int32))), .val (.int (p3 &&& (255 : Int32))), .val (.ref b1), .val (.ref b3), .val (.ref b8), .val (.ref b16), .val (.int (p0 &&& (3 : Int32))), .unset, .unset, .unset, .unset, .unset] [])) _
          refine st71 _ ?_
          show Steps p.tables e below (T71.setTop (mkF m 135 #[.val (.int p0), .val (.int p1), .val (.int p2), .val (.int p3), .val (.int (p1 &&& (255 : Int32))), .val (.int (p2 &&& (255 : Int32))), .val (.int (p3 &&& (255 : Int32))), .val (.ref b1), .val (.ref b3), .val (.ref b8), .val (.ref b16), .val (.int (p0 &&& (3 : Int32))), .unset, .unset, .unset, .unset, .unset] [(.ref b71)])) _
          refine XS.dup X71.here hx rfl (hb hby at_135) rfl rfl ?_
          show Steps p.tables e below (T71.setTop (mkF m 136 #[.val (.int p0), .val (.int p1), .val (.int p2), .val (.int p3), .val (.int (p1 &&& (255 : Int32))), .val (.int (p2 &&& (255 : Int32))), .val (.int (p3 &&& (255 : Int32))), .val (.ref b1), .val (.ref b3), .val (.ref b8), .val (.ref b16), .val (.int (p0 &&& (3 : Int32))), .unset, .unset, .unset, .unset, .unset] [(.ref b71), (.ref b71)])) _
          refine XS.aload X71.here hx rfl (hb hby at_136) rfl rfl ?_
          show Steps p.tables e below (T71.setTop (mkF m 138 #[.val (.int p0), .val (.int p1), .val (.int p2), .val (.int p3), .val (.int (p1 &&& (255 : Int32))), .val (.int (p2 &&& (255 : Int32))), .val (.int (p3 &&& (255 : Int32))), .val (.ref b1), .val (.ref b3), .val (.ref b8), .val (.ref b16), .val (.int (p0 &&& (3 : Int32))), .unset, .unset, .unset, .unset, .unset] [(.ref b16), (.ref b71), (.ref b71)])) _
          refine st73.trans ?_
          show Steps p.tables e below (T73.setTop (mkF m 141 #[.val (.int p0), .val (.int p1), .val (.int p2), .val (.int p3), .val (.int (p1 &&& (255 : Int32))), .val (.int (p2 &&& (255 : Int32))), .val (.int (p3 &&& (255 : Int32))), .val (.ref b1), .val (.ref b3), .val (.ref b8), .val (.ref b16), .val (.int (p0 &&& (3 : Int32))), .unset, .unset, .unset, .unset, .unset] [(.ref b71)])) _
          refine XS.astore X73.here hx rfl (hb hby at_141) rfl rfl (l' := #[.val (.int p0), .val (.int p1), .val (.int p2), .val (.int p3), .val (.int (p1 &&& (255 : Int32))), .val (.int (p2 &&& (255 : Int32))), .val (.int (p3 &&& (255 : Int32))), .val (.ref b1), .val (.ref b3), .val (.ref b8), .val (.ref b16), .val (.int (p0 &&& (3 : Int32))), .val (.ref b71), .unset, .unset, .unset, .unset]) rfl ?_
          show Steps p.tables e below (T73.setTop (mkF m 143 #[.val (.int p0), .val (.int p1), .val (.int p2), .val (.int p3), .val (.int (p1 &&& (255 : Int32))), .val (.int (p2 &&& (255 : Int32))), .val (.int (p3 &&& (255 : Int32))), .val (.ref b1), .val (.ref b3), .val (.ref b8), .val (.ref b16), .val (.int (p0 &&& (3 : Int32))), .val (.ref b71), .unset, .unset, .unset, .unset] [])) _
          refine XS.aload X73.here hx rfl (hb hby at_143) rfl rfl ?_
          show Steps p.tables e below (T73.setTop (mkF m 145 #[.val (.int p0), .val (.int p1), .val (.int p2), .val (.int p3), .val (.int (p1 &&& (255 : Int32))), .val (.int (p2 &&& (255 : Int32))), .val (.int (p3 &&& (255 : Int32))), .val (.ref b1), .val (.ref b3), .val (.ref b8), .val (.ref b16), .val (.int (p0 &&& (3 : Int32))), .val (.ref b71), .unset, .unset, .unset, .unset] [(.ref b71)])) _
          refine st76 _ ?_
          show Steps p.tables e below (T76.setTop (mkF m 148 #[.val (.int p0), .val (.int p1), .val (.int p2), .val (.int p3), .val (.int (p1 &&& (255 : Int32))), .val (.int (p2 &&& (255 : Int32))), .val (.int (p3 &&& (255 : Int32))), .val (.ref b1), .val (.ref b3), .val (.ref b8), .val (.ref b16), .val (.int (p0 &&& (3 : Int32))), .val (.ref b71), .unset, .unset, .unset, .unset] [(.ref b_76)])) _
          refine XS.astore X76.here hx rfl (hb hby at_148) rfl rfl (l' := #[.val (.int p0), .val (.int p1), .val (.int p2), .val (.int p3), .val (.int (p1 &&& (255 : Int32))), .val (.int (p2 &&& (255 : Int32))), .val (.int (p3 &&& (255 : Int32))), .val (.ref b1), .val (.ref b3), .val (.ref b8), .val (.ref b16), .val (.int (p0 &&& (3 : Int32))), .val (.ref b71), .val (.ref b_76), .unset, .unset, .unset]) rfl ?_
          show Steps p.tables e below (T76.setTop (mkF m 150 #[.val (.int p0), .val (.int p1), .val (.int p2), .val (.int p3), .val (.int (p1 &&& (255 : Int32))), .val (.int (p2 &&& (255 : Int32))), .val (.int (p3 &&& (255 : Int32))), .val (.ref b1), .val (.ref b3), .val (.ref b8), .val (.ref b16), .val (.int (p0 &&& (3 : Int32))), .val (.ref b71), .val (.ref b_76), .unset, .unset, .unset] [])) _
          refine XS.aload X76.here hx rfl (hb hby at_150) rfl rfl ?_
          show Steps p.tables e below (T76.setTop (mkF m 152 #[.val (.int p0), .val (.int p1), .val (.int p2), .val (.int p3), .val (.int (p1 &&& (255 : Int32))), .val (.int (p2 &&& (255 : Int32))), .val (.int (p3 &&& (255 : Int32))), .val (.ref b1), .val (.ref b3), .val (.ref b8), .val (.ref b16), .val (.int (p0 &&& (3 : Int32))), .val (.ref b71), .val (.ref b_76), .unset, .unset, .unset] [(.ref b_76)])) _
          refine st78.trans ?_
          show Steps p.tables e below (T78.setTop (mkF m 155 #[.val (.int p0), .val (.int p1), .val (.int p2), .val (.int p3), .val (.int (p1 &&& (255 : Int32))), .val (.int (p2 &&& (255 : Int32))), .val (.int (p3 &&& (255 : Int32))), .val (.ref b1), .val (.ref b3), .val (.ref b8), .val (.ref b16), .val (.int (p0 &&& (3 : Int32))), .val (.ref b71), .val (.ref b_76), .unset, .unset, .unset] [(.ref aRS)])) _
          refine st79 _ ?_
          show Steps p.tables e below (T79.setTop (mkF m 158 #[.val (.int p0), .val (.int p1), .val (.int p2), .val (.int p3), .val (.int (p1 &&& (255 : Int32))), .val (.int (p2 &&& (255 : Int32))), .val (.int (p3 &&& (255 : Int32))), .val (.ref b1), .val (.ref b3), .val (.ref b8), .val (.ref b16), .val (.int (p0 &&& (3 : Int32))), .val (.ref b71), .val (.ref b_76), .unset, .unset, .unset] [(.ref aRS), (.ref aRS)])) _
          refine Jvm.RoadKit.acmp (g := (mkF m 158 #[.val (.int p0), .val (.int p1), .val (.int p2), .val (.int p3), .val (.int (p1 &&& (255 : Int32))), .val (.int (p2 &&& (255 : Int32))), .val (.int (p3 &&& (255 : Int32))), .val (.ref b1), .val (.ref b3), .val (.ref b8), .val (.ref b16), .val (.int (p0 &&& (3 : Int32))), .val (.ref b71), .val (.ref b_76), .unset, .unset, .unset] [(.ref aRS), (.ref aRS)])) X79 hx rfl rfl rfl (pc0 := 158) (pc' := 161) (same := true) rfl (hb hby at_158) rfl (decide_eq_true rfl) (by decide) (by decide) ?_
          show Steps p.tables e below (T79.setTop (mkF m 161 #[.val (.int p0), .val (.int p1), .val (.int p2), .val (.int p3), .val (.int (p1 &&& (255 : Int32))), .val (.int (p2 &&& (255 : Int32))), .val (.int (p3 &&& (255 : Int32))), .val (.ref b1), .val (.ref b3), .val (.ref b8), .val (.ref b16), .val (.int (p0 &&& (3 : Int32))), .val (.ref b71), .val (.ref b_76), .unset, .unset, .unset] [])) _
          refine XS.iconst X79.here hx rfl (hb hby at_161) ?_
          show Steps p.tables e below (T79.setTop (mkF m 162 #[.val (.int p0), .val (.int p1), .val (.int p2), .val (.int p3), .val (.int (p1 &&& (255 : Int32))), .val (.int (p2 &&& (255 : Int32))), .val (.int (p3 &&& (255 : Int32))), .val (.ref b1), .val (.ref b3), .val (.ref b8), .val (.ref b16), .val (.int (p0 &&& (3 : Int32))), .val (.ref b71), .val (.ref b_76), .unset, .unset, .unset] [(.int (1 : Int32))])) _
          refine XS.goto X79.here hx rfl (pc0 := 162) (pc' := 166) rfl (hb hby at_162) (by decide) (by decide) ?_
          show Steps p.tables e below (T79.setTop (mkF m 166 #[.val (.int p0), .val (.int p1), .val (.int p2), .val (.int p3), .val (.int (p1 &&& (255 : Int32))), .val (.int (p2 &&& (255 : Int32))), .val (.int (p3 &&& (255 : Int32))), .val (.ref b1), .val (.ref b3), .val (.ref b8), .val (.ref b16), .val (.int (p0 &&& (3 : Int32))), .val (.ref b71), .val (.ref b_76), .unset, .unset, .unset] [(.int (1 : Int32))])) _
          refine XS.istore X79.here hx rfl (hb hby at_166) rfl (l' := #[.val (.int p0), .val (.int p1), .val (.int p2), .val (.int p3), .val (.int (p1 &&& (255 : Int32))), .val (.int (p2 &&& (255 : Int32))), .val (.int (p3 &&& (255 : Int32))), .val (.ref b1), .val (.ref b3), .val (.ref b8), .val (.ref b16), .val (.int (p0 &&& (3 : Int32))), .val (.ref b71), .val (.ref b_76), .val (.int (1 : Int32)), .unset, .unset]) rfl ?_
          show Steps p.tables e below (T79.setTop (mkF m 168 #[.val (.int p0), .val (.int p1), .val (.int p2), .val (.int p3), .val (.int (p1 &&& (255 : Int32))), .val (.int (p2 &&& (255 : Int32))), .val (.int (p3 &&& (255 : Int32))), .val (.ref b1), .val (.ref b3), .val (.ref b8), .val (.ref b16), .val (.int (p0 &&& (3 : Int32))), .val (.ref b71), .val (.ref b_76), .val (.int (1 : Int32)), .unset, .unset] [])) _
          refine XS.aload X79.here hx rfl (hb hby at_168) rfl rfl ?_
          show Steps p.tables e below (T79.setTop (mkF m 170 #[.val (.int p0), .val (.int p1), .val (.int p2), .val (.int p3), .val (.int (p1 &&& (255 : Int32))), .val (.int (p2 &&& (255 : Int32))), .val (.int (p3 &&& (255 : Int32))), .val (.ref b1), .val (.ref b3), .val (.ref b8), .val (.ref b16), .val (.int (p0 &&& (3 : Int32))), .val (.ref b71), .val (.ref b_76), .val (.int (1 : Int32)), .unset, .unset] [(.ref b71)])) _
          refine XS.aload X79.here hx rfl (hb hby at_170) rfl rfl ?_
          show Steps p.tables e below (T79.setTop (mkF m 172 #[.val (.int p0), .val (.int p1), .val (.int p2), .val (.int p3), .val (.int (p1 &&& (255 : Int32))), .val (.int (p2 &&& (255 : Int32))), .val (.int (p3 &&& (255 : Int32))), .val (.ref b1), .val (.ref b3), .val (.ref b8), .val (.ref b16), .val (.int (p0 &&& (3 : Int32))), .val (.ref b71), .val (.ref b_76), .val (.int (1 : Int32)), .unset, .unset] [(.ref b_76), (.ref b71)])) _
          refine st80.trans ?_
          show Steps p.tables e below (T80.setTop (mkF m 175 #[.val (.int p0), .val (.int p1), .val (.int p2), .val (.int p3), .val (.int (p1 &&& (255 : Int32))), .val (.int (p2 &&& (255 : Int32))), .val (.int (p3 &&& (255 : Int32))), .val (.ref b1), .val (.ref b3), .val (.ref b8), .val (.ref b16), .val (.int (p0 &&& (3 : Int32))), .val (.ref b71), .val (.ref b_76), .val (.int (1 : Int32)), .unset, .unset] [(.ref b71), (.ref b71)])) _
          refine st81.trans ?_
          show Steps p.tables e below (T81.setTop (mkF m 178 #[.val (.int p0), .val (.int p1), .val (.int p2), .val (.int p3), .val (.int (p1 &&& (255 : Int32))), .val (.int (p2 &&& (255 : Int32))), .val (.int (p3 &&& (255 : Int32))), .val (.ref b1), .val (.ref b3), .val (.ref b8), .val (.ref b16), .val (.int (p0 &&& (3 : Int32))), .val (.ref b71), .val (.ref b_76), .val (.int (1 : Int32)), .unset, .unset] [(.int (1 : Int32))])) _
          refine XS.istore X81.here hx rfl (hb hby at_178) rfl (l' := #[.val (.int p0), .val (.int p1), .val (.int p2), .val (.int p3), .val (.int (p1 &&& (255 : Int32))), .val (.int (p2 &&& (255 : Int32))), .val (.int (p3 &&& (255 : Int32))), .val (.ref b1), .val (.ref b3), .val (.ref b8), .val (.ref b16), .val (.int (p0 &&& (3 : Int32))), .val (.ref b71), .val (.ref b_76), .val (.int (1 : Int32)), .val (.int (1 : Int32)), .unset]) rfl ?_
          show Steps p.tables e below (T81.setTop (mkF m 180 #[.val (.int p0), .val (.int p1), .val (.int p2), .val (.int p3), .val (.int (p1 &&& (255 : Int32))), .val (.int (p2 &&& (255 : Int32))), .val (.int (p3 &&& (255 : Int32))), .val (.ref b1), .val (.ref b3), .val (.ref b8), .val (.ref b16), .val (.int (p0 &&& (3 : Int32))), .val (.ref b71), .val (.ref b_76), .val (.int (1 : Int32)), .val (.int (1 : Int32)), .unset] [])) _
          refine XS.aload X81.here hx rfl (hb hby at_180) rfl rfl ?_
          show Steps p.tables e below (T81.setTop (mkF m 182 #[.val (.int p0), .val (.int p1), .val (.int p2), .val (.int p3), .val (.int (p1 &&& (255 : Int32))), .val (.int (p2 &&& (255 : Int32))), .val (.int (p3 &&& (255 : Int32))), .val (.ref b1), .val (.ref b3), .val (.ref b8), .val (.ref b16), .val (.int (p0 &&& (3 : Int32))), .val (.ref b71), .val (.ref b_76), .val (.int (1 : Int32)), .val (.int (1 : Int32)), .unset] [(.ref b_76)])) _
          refine st82.trans ?_
          show Steps p.tables e below (T82.setTop (mkF m 185 #[.val (.int p0), .val (.int p1), .val (.int p2), .val (.int p3), .val (.int (p1 &&& (255 : Int32))), .val (.int (p2 &&& (255 : Int32))), .val (.int (p3 &&& (255 : Int32))), .val (.ref b1), .val (.ref b3), .val (.ref b8), .val (.ref b16), .val (.int (p0 &&& (3 : Int32))), .val (.ref b71), .val (.ref b_76), .val (.int (1 : Int32)), .val (.int (1 : Int32)), .unset] [(.ref aEM)])) _
          refine st83.trans ?_
          show Steps p.tables e below (T83.setTop (mkF m 188 #[.val (.int p0), .val (.int p1), .val (.int p2), .val (.int p3), .val (.int (p1 &&& (255 : Int32))), .val (.int (p2 &&& (255 : Int32))), .val (.int (p3 &&& (255 : Int32))), .val (.ref b1), .val (.ref b3), .val (.ref b8), .val (.ref b16), .val (.int (p0 &&& (3 : Int32))), .val (.ref b71), .val (.ref b_76), .val (.int (1 : Int32)), .val (.int (1 : Int32)), .unset] [(.int (0 : Int32))])) _
          refine XS.ifNo X83.here hx rfl (hb hby at_188) rfl ((if0 _ _).trans (teq (by decide : (0 : Int32) = (0 : Int32))).2) ?_
          show Steps p.tables e below (T83.setTop (mkF m 191 #[.val (.int p0), .val (.int p1), .val (.int p2), .val (.int p3), .val (.int (p1 &&& (255 : Int32))), .val (.int (p2 &&& (255 : Int32))), .val (.int (p3 &&& (255 : Int32))), .val (.ref b1), .val (.ref b3), .val (.ref b8), .val (.ref b16), .val (.int (p0 &&& (3 : Int32))), .val (.ref b71), .val (.ref b_76), .val (.int (1 : Int32)), .val (.int (1 : Int32)), .unset] [])) _
          refine XS.iconst X83.here hx rfl (hb hby at_191) ?_
          show Steps p.tables e below (T83.setTop (mkF m 192 #[.val (.int p0), .val (.int p1), .val (.int p2), .val (.int p3), .val (.int (p1 &&& (255 : Int32))), .val (.int (p2 &&& (255 : Int32))), .val (.int (p3 &&& (255 : Int32))), .val (.ref b1), .val (.ref b3), .val (.ref b8), .val (.ref b16), .val (.int (p0 &&& (3 : Int32))), .val (.ref b71), .val (.ref b_76), .val (.int (1 : Int32)), .val (.int (1 : Int32)), .unset] [(.int (1 : Int32))])) _
          refine XS.goto X83.here hx rfl (pc0 := 192) (pc' := 196) rfl (hb hby at_192) (by decide) (by decide) ?_
          show Steps p.tables e below (T83.setTop (mkF m 196 #[.val (.int p0), .val (.int p1), .val (.int p2), .val (.int p3), .val (.int (p1 &&& (255 : Int32))), .val (.int (p2 &&& (255 : Int32))), .val (.int (p3 &&& (255 : Int32))), .val (.ref b1), .val (.ref b3), .val (.ref b8), .val (.ref b16), .val (.int (p0 &&& (3 : Int32))), .val (.ref b71), .val (.ref b_76), .val (.int (1 : Int32)), .val (.int (1 : Int32)), .unset] [(.int (1 : Int32))])) _
          refine XS.istore X83.here hx rfl (hb hby at_196) rfl (l' := #[.val (.int p0), .val (.int p1), .val (.int p2), .val (.int p3), .val (.int (p1 &&& (255 : Int32))), .val (.int (p2 &&& (255 : Int32))), .val (.int (p3 &&& (255 : Int32))), .val (.ref b1), .val (.ref b3), .val (.ref b8), .val (.ref b16), .val (.int (p0 &&& (3 : Int32))), .val (.ref b71), .val (.ref b_76), .val (.int (1 : Int32)), .val (.int (1 : Int32)), .val (.int (1 : Int32))]) rfl ?_
          show Steps p.tables e below (T83.setTop (mkF m 198 #[.val (.int p0), .val (.int p1), .val (.int p2), .val (.int p3), .val (.int (p1 &&& (255 : Int32))), .val (.int (p2 &&& (255 : Int32))), .val (.int (p3 &&& (255 : Int32))), .val (.ref b1), .val (.ref b3), .val (.ref b8), .val (.ref b16), .val (.int (p0 &&& (3 : Int32))), .val (.ref b71), .val (.ref b_76), .val (.int (1 : Int32)), .val (.int (1 : Int32)), .val (.int (1 : Int32))] [])) _
          refine XS.iload X83.here hx rfl (hb hby at_198) rfl ?_
          show Steps p.tables e below (T83.setTop (mkF m 200 #[.val (.int p0), .val (.int p1), .val (.int p2), .val (.int p3), .val (.int (p1 &&& (255 : Int32))), .val (.int (p2 &&& (255 : Int32))), .val (.int (p3 &&& (255 : Int32))), .val (.ref b1), .val (.ref b3), .val (.ref b8), .val (.ref b16), .val (.int (p0 &&& (3 : Int32))), .val (.ref b71), .val (.ref b_76), .val (.int (1 : Int32)), .val (.int (1 : Int32)), .val (.int (1 : Int32))] [(.int (1 : Int32))])) _
          refine XS.ifNo X83.here hx rfl (hb hby at_200) rfl ((if0 _ _).trans (feq (by decide : ¬ ((1 : Int32) = (0 : Int32)))).1) ?_
          show Steps p.tables e below (T83.setTop (mkF m 203 #[.val (.int p0), .val (.int p1), .val (.int p2), .val (.int p3), .val (.int (p1 &&& (255 : Int32))), .val (.int (p2 &&& (255 : Int32))), .val (.int (p3 &&& (255 : Int32))), .val (.ref b1), .val (.ref b3), .val (.ref b8), .val (.ref b16), .val (.int (p0 &&& (3 : Int32))), .val (.ref b71), .val (.ref b_76), .val (.int (1 : Int32)), .val (.int (1 : Int32)), .val (.int (1 : Int32))] [])) _
          refine XS.iload X83.here hx rfl (hb hby at_203) rfl ?_
          show Steps p.tables e below (T83.setTop (mkF m 205 #[.val (.int p0), .val (.int p1), .val (.int p2), .val (.int p3), .val (.int (p1 &&& (255 : Int32))), .val (.int (p2 &&& (255 : Int32))), .val (.int (p3 &&& (255 : Int32))), .val (.ref b1), .val (.ref b3), .val (.ref b8), .val (.ref b16), .val (.int (p0 &&& (3 : Int32))), .val (.ref b71), .val (.ref b_76), .val (.int (1 : Int32)), .val (.int (1 : Int32)), .val (.int (1 : Int32))] [(.int (1 : Int32))])) _
          refine XS.ifNo X83.here hx rfl (hb hby at_205) rfl ((if0 _ _).trans (feq (by decide : ¬ ((1 : Int32) = (0 : Int32)))).1) ?_
          show Steps p.tables e below (T83.setTop (mkF m 208 #[.val (.int p0), .val (.int p1), .val (.int p2), .val (.int p3), .val (.int (p1 &&& (255 : Int32))), .val (.int (p2 &&& (255 : Int32))), .val (.int (p3 &&& (255 : Int32))), .val (.ref b1), .val (.ref b3), .val (.ref b8), .val (.ref b16), .val (.int (p0 &&& (3 : Int32))), .val (.ref b71), .val (.ref b_76), .val (.int (1 : Int32)), .val (.int (1 : Int32)), .val (.int (1 : Int32))] [])) _
          refine XS.iload X83.here hx rfl (hb hby at_208) rfl ?_
          show Steps p.tables e below (T83.setTop (mkF m 210 #[.val (.int p0), .val (.int p1), .val (.int p2), .val (.int p3), .val (.int (p1 &&& (255 : Int32))), .val (.int (p2 &&& (255 : Int32))), .val (.int (p3 &&& (255 : Int32))), .val (.ref b1), .val (.ref b3), .val (.ref b8), .val (.ref b16), .val (.int (p0 &&& (3 : Int32))), .val (.ref b71), .val (.ref b_76), .val (.int (1 : Int32)), .val (.int (1 : Int32)), .val (.int (1 : Int32))] [(.int (1 : Int32))])) _
          refine XS.ifNo X83.here hx rfl (hb hby at_210) rfl ((if0 _ _).trans (feq (by decide : ¬ ((1 : Int32) = (0 : Int32)))).1) ?_
          show Steps p.tables e below (T83.setTop (mkF m 213 #[.val (.int p0), .val (.int p1), .val (.int p2), .val (.int p3), .val (.int (p1 &&& (255 : Int32))), .val (.int (p2 &&& (255 : Int32))), .val (.int (p3 &&& (255 : Int32))), .val (.ref b1), .val (.ref b3), .val (.ref b8), .val (.ref b16), .val (.int (p0 &&& (3 : Int32))), .val (.ref b71), .val (.ref b_76), .val (.int (1 : Int32)), .val (.int (1 : Int32)), .val (.int (1 : Int32))] [])) _
          refine XS.iconst X83.here hx rfl (hb hby at_213) ?_
          show Steps p.tables e below (T83.setTop (mkF m 214 #[.val (.int p0), .val (.int p1), .val (.int p2), .val (.int p3), .val (.int (p1 &&& (255 : Int32))), .val (.int (p2 &&& (255 : Int32))), .val (.int (p3 &&& (255 : Int32))), .val (.ref b1), .val (.ref b3), .val (.ref b8), .val (.ref b16), .val (.int (p0 &&& (3 : Int32))), .val (.ref b71), .val (.ref b_76), .val (.int (1 : Int32)), .val (.int (1 : Int32)), .val (.int (1 : Int32))] [(.int (1 : Int32))])) _
          refine XS.goto X83.here hx rfl (pc0 := 214) (pc' := 218) rfl (hb hby at_214) (by decide) (by decide) ?_
          show Steps p.tables e below (T83.setTop (mkF m 218 #[.val (.int p0), .val (.int p1), .val (.int p2), .val (.int p3), .val (.int (p1 &&& (255 : Int32))), .val (.int (p2 &&& (255 : Int32))), .val (.int (p3 &&& (255 : Int32))), .val (.ref b1), .val (.ref b3), .val (.ref b8), .val (.ref b16), .val (.int (p0 &&& (3 : Int32))), .val (.ref b71), .val (.ref b_76), .val (.int (1 : Int32)), .val (.int (1 : Int32)), .val (.int (1 : Int32))] [(.int (1 : Int32))])) _
          exact retN X83 hx (t := .boolean) Bd.returns (by simp) (hb hby at_218) hr
        · show Q_rm0 n0 _ T83.heap _
          rw [e83]
          exact ⟨rfl, N83⟩
set_option maxRecDepth 65536 in
set_option maxHeartbeats 40000000 in
theorem comes_1 {Post : Tables → Env → Array Value → State → Outcome → State → Prop} (hpost : ∀ tb e args s v u, (limb_1_1.after args s (.returned v) u = true ∧ limb_1_2.after args s (.returned v) u = true ∧ True) → ReturnedEndW s (.returned v) u (Jvm.fieldLocs frame_1_writes args s ++ Jvm.arrayLocs frame_1_arrays args s ++ Jvm.staticLocs frame_1_statics s) 24 1152 → Post tb e args s (.returned v) u) :
    ArmFor flags0 classFile x code maxLocals ret World_1 tables_1 room_1 Calls_1 rest_1 Pre_1 Post := by
  intro l hfl _ _ p e ha hc hk s m args below hf hA hF happ hP
  obtain ⟨hcalls, hrest, hpre⟩ := hP
  obtain ⟨-, -, -, hnamed, -, -, -, hat⟩ := (Spec.applies_iff hf).mp happ
  obtain ⟨hg, hn⟩ := and_e (Cond.before_iff.mp (show (Jvm.Cond.and given_1 narrow_1).before args s = true from hpre))
  obtain ⟨gv_l0, gv_r0⟩ := and_e hg
  obtain ⟨gv_l2, gv_r2⟩ := and_e gv_r0
  obtain ⟨gv_l4, gv_r4⟩ := and_e gv_r2
  obtain ⟨gv_l6, gv_r6⟩ := and_e gv_r4
  obtain ⟨w0, w1, w2, w3, rfl⟩ : ∃ w0 w1 w2 w3 : Value, args = #[w0, w1, w2, w3] := by
    have hs : args.size = 4 := by simpa [Cond.value, given_1] using gv_l0
    obtain ⟨L⟩ := args
    match L, hs with
    | [w0, w1, w2, w3], _ => exact ⟨w0, w1, w2, w3, rfl⟩
  have hw := fun d (hd : d ∈ tables_1) => atoms_spec (ws := Jvm.Cond.code x code maxLocals ret :: tables_1) hat d (List.mem_cons_of_mem _ hd)
  have hfit : Fit s := fun {y c} hc i hi => by
    obtain ⟨ha, rfl⟩ := Array.getElem?_eq_some_iff.mp hc
    have q := List.all_eq_true.mp ((Array.all_eq_true_iff_forall_mem.mp hF) _ (Array.getElem_mem ha)) i (List.mem_range.mpr hi)
    simpa [Array.getElem?_eq_getElem hi] using q
  obtain ⟨hsets, hown0⟩ := atoms_of _ (rest_1_c_eq ▸ (show rest_1_c.before _ s = true from hrest))
  have hr0 := Cond.before_iff.mp hown0
  obtain ⟨i0, ei0⟩ := is_v gv_l2
  obtain rfl : w0 = (.int i0) := Option.some.inj ei0
  obtain ⟨i1, ei1⟩ := is_v gv_l4
  obtain rfl : w1 = (.int i1) := Option.some.inj ei1
  obtain ⟨i2, ei2⟩ := is_v gv_l6
  obtain rfl : w2 = (.int i2) := Option.some.inj ei2
  obtain ⟨i3, ei3⟩ := is_v gv_r6
  obtain rfl : w3 = (.int i3) := Option.some.inj ei3
  obtain ⟨cS, eCS⟩ := is_v (Cond.before_iff.mp (hsets _ (List.mem_of_getElem? (i := 26) rfl)))
  have SCS := Sta.start eCS (Or.inl (hsets _ (List.mem_of_getElem? (i := 25) rfl)))
  have PCS : ¬ (cS = (0 : Int32)) := gotF (Cond.eq_ints eCS (Term.int_eval (0 : Int32))) (not_v (Cond.before_iff.mp (hsets _ (List.mem_of_getElem? (i := 27) rfl))))
  obtain ⟨aRS, vRS⟩ := exa_v hn
  obtain ⟨aEM, vEM⟩ := exa_v (Cond.before_iff.mp (hsets _ (List.mem_of_getElem? (i := 2) rfl)))
  obtain ⟨aUS, vUS⟩ := arr_v (Cond.before_iff.mp (hsets _ (List.mem_of_getElem? (i := 13) rfl)))
  obtain ⟨aSS, vSS⟩ := exa_v (Cond.before_iff.mp (hsets _ (List.mem_of_getElem? (i := 18) rfl)))
  have GL : GF s cS aRS aEM aUS aSS := ⟨SCS, PCS, Sta.start vRS (Or.inr ⟨(Wd hw 29 rfl), (Wd hw 30 rfl)⟩), Sta.start vEM (Or.inl (hsets _ (List.mem_of_getElem? (i := 1) rfl))), Exa.start vEM (Cond.before_iff.mp (hsets _ (List.mem_of_getElem? (i := 2) rfl))), Fld.start (own_fi vEM (Cond.before_iff.mp (hsets _ (List.mem_of_getElem? (i := 3) rfl)))), Sta.start vUS (Or.inl (hsets _ (List.mem_of_getElem? (i := 11) rfl))), Sta.start vSS (Or.inl (hsets _ (List.mem_of_getElem? (i := 16) rfl)))⟩
  have H0 : CHv s EL1 s.vm s.heap := CHv.start (own_EW hw) hcalls.1 (hsets _ (List.mem_of_getElem? (i := 27) rfl)) (Wd hw 15 rfl) (Wd hw 2 rfl)
  obtain ⟨n, o, h1, h2, h3, _, L, rfl, ⟨rfl, N⟩, -, hq⟩ := rm0 l s _ hw tables_1 cS aRS aEM aUS aSS i0 i1 i2 i3 s.heap s.heap.size (Old.start s) GL p e ha hc hk s m _ below hf ((Spec.applies_iff_loose hf).mp happ).1 ⟨rfl, State.Warmed39.refl s, rfl, H0⟩ trivial
  refine ⟨n, _, h1, h2, h3, hpost _ _ _ _ _ _ ⟨Cond.after_iff.mpr rfl, Cond.after_iff.mpr (eq_i res_at (Term.int_eval (1)) rfl), trivial⟩ ⟨hq.1, hq.2.1, hq.2.2.1, (hq.2.2.2.sift fun y hy => Or.inr (N y hy)).mono (by decide) (by decide)⟩⟩
theorem main_1_1 : Claimed_1_1 := comes_1 fun _ _ _ _ _ _ h hF => ⟨h.1, hF⟩
theorem main_1_2 : Claimed_1_2 := comes_1 fun _ _ _ _ _ _ h hF => ⟨h.2.1, hF⟩
end Jvm.Pilot.@@N@@
namespace Jvm.Pilot.@@N@@
open Jvm Jvm.ClassFile Sem Op Lib Jvm.Free Jvm.Stand Jvm.Pilot.@@N@@.Jvm.D
/-! MADE BY PROGRAM (witnessworld.py) out of the Statement's table words and the real class files: 38 classes; the members and pool entries that the words name. The judged class is class 1, her method 1. -/
namespace start1
open Jvm.ClassFile
def u (s : String) : CpInfo := .utf8 (stringToUtf16 s)
/-- a pool by its gaps: so many unusable entries, then the entry; so many at the end -/
def gap : Nat → List CpInfo → List CpInfo
  | 0, r => r
  | n + 1, r => .unusable :: gap n r
def poolList (es : List (Nat × CpInfo)) (last : Nat) : List CpInfo := es.foldr (fun e r => gap e.1 (e.2 :: r)) (gap last [])
def pool (es : List (Nat × CpInfo)) (last : Nat) : Array CpInfo := ⟨poolList es last⟩
def fileOf (pool : Array CpInfo) (this : Nat) (attrs : Array Attribute := #[]) (ms : Array MethodInfo := #[]) (fl : Nat := 33) (sup : Nat := 0) (ifs : Array Nat := #[]) (fds : Array FieldInfo := #[]) : ClassFile where
  minorVersion := 0
  majorVersion := 65
  constantPool := pool
  accessFlags := fl
  thisClass := this
  superClass := sup
  interfaces := ifs
  fields := fds
  methods := ms
  attributes := attrs
def plain (name : String) (sup : Option ClassId) : Class where
  name := name
  kind := .ordinary
  loader := none
  accessFlags := 33
  super := sup
  interfaces := #[]
  cf := none
  fields := #[]
  methods := #[]
  instanceTypes := #[]
  staticTypes := #[]
  resolved := #[]
  callSites := []
  init := .initialized
  statics := none
  mirror := none

def pool0 : Array CpInfo := pool [(5, u "<init>"), (0, u "()V"), (1, .class_ 10), (1, u "java/lang/Object")] 113

def k0c0 : Code := { maxStack := 0, maxLocals := 1, code := object_method_1_code, exceptionTable := #[], attributes := #[] }
def k0m0 : Method := { name := "<init>", desc := "()V", sig := { parameters := [], returnType := none }, accessFlags := 1, code := some k0c0 }
/-- java/lang/Object -/
def k0 : Class := { plain "java/lang/Object" none with
  accessFlags := 33
  interfaces := #[]
  cf := some (fileOf pool0 8 #[] #[{ accessFlags := 1, nameIndex := 5, descriptorIndex := 6, attributes := #[] }] 33 0 #[] #[])
  fields := #[]
  methods := #[k0m0]
  instanceTypes := #[]
  staticTypes := #[]
  resolved := Array.replicate 124 none
  statics := none }

def pool1 : Array CpInfo := pool [(2, .class_ 4), (1, u "java/lang/Object"), (0, u "<init>"), (0, u "()V"), (0, .class_ 8), (0, u "java/lang/String"), (0, .methodref 7 10), (0, .nameAndType 5 11), (0, u "([C)V"), (0, .methodref 13 14), (0, .class_ 15), (0, .nameAndType 16 17), (0, u "com/example/metaloom/metaloom/store/Rejection"), (0, u "conflict"), (0, u "(Ljava/lang/String;)Lcom/example/metaloom/metaloom/store/Rejection;"), (0, .methodref 13 19), (0, .nameAndType 20 21), (0, u "reason"), (0, u "()Lcom/example/metaloom/metaloom/store/Rejection$Reason;"), (0, .fieldref 23 24), (0, .class_ 25), (0, .nameAndType 26 27), (0, u "com/example/metaloom/metaloom/store/Rejection$Reason"), (0, u "CONFLICT"), (0, u "Lcom/example/metaloom/metaloom/store/Rejection$Reason;"), (0, .methodref 13 29), (0, .nameAndType 30 31), (0, u "getMessage"), (0, u "()Ljava/lang/String;"), (0, .methodref 7 33), (0, .nameAndType 34 35), (0, u "equals"), (0, u "(Ljava/lang/Object;)Z"), (0, .methodref 13 37), (0, .nameAndType 38 39), (0, u "position"), (0, u "()Ljava/util/OptionalInt;"), (0, .methodref 41 42), (0, .class_ 43), (0, .nameAndType 44 45), (0, u "java/util/OptionalInt"), (0, u "isPresent"), (0, u "()Z"), (0, .class_ 47), (0, u "com/example/metaloom/metaloom/store/RejectionConflictPinLaw"), (2, u "law"), (0, u "(IIII)Z")] 7

def k1m0 : Method := { name := "<init>", desc := "()V", sig := { parameters := [], returnType := none }, accessFlags := 1, code := none }
def k1c1 : Code := { maxStack := 4, maxLocals := 17, code := code, exceptionTable := #[], attributes := #[] }
def k1m1 : Method := { name := "law", desc := "(IIII)Z", sig := { parameters := [.int, .int, .int, .int], returnType := some .boolean }, accessFlags := 9, code := some k1c1 }
/-- com/example/metaloom/metaloom/store/RejectionConflictPinLaw -/
def k1 : Class := { plain "com/example/metaloom/metaloom/store/RejectionConflictPinLaw" (some 0) with
  accessFlags := 49
  interfaces := #[]
  cf := some (fileOf pool1 46 #[] #[{ accessFlags := 1, nameIndex := 5, descriptorIndex := 6, attributes := #[] }, { accessFlags := 9, nameIndex := 50, descriptorIndex := 51, attributes := #[] }] 49 2 #[] #[])
  fields := #[]
  methods := #[k1m0, k1m1]
  instanceTypes := #[]
  staticTypes := #[]
  resolved := Array.replicate 59 none
  statics := none }

def pool2 : Array CpInfo := pool [(1, .class_ 2), (0, u "java/io/Serializable"), (0, .class_ 4), (0, u "java/lang/Object")] 2

/-- java/io/Serializable -/
def k2 : Class := { plain "java/io/Serializable" (some 0) with
  accessFlags := 1537
  interfaces := #[]
  cf := some (fileOf pool2 1 #[] #[] 1537 3 #[] #[])
  fields := #[]
  methods := #[]
  instanceTypes := #[]
  staticTypes := #[]
  resolved := Array.replicate 7 none
  statics := none }

def pool3 : Array CpInfo := pool [(1, .class_ 2), (0, u "java/lang/Comparable"), (0, .class_ 4), (0, u "java/lang/Object")] 7

/-- java/lang/Comparable -/
def k3 : Class := { plain "java/lang/Comparable" (some 0) with
  accessFlags := 1537
  interfaces := #[]
  cf := some (fileOf pool3 1 #[] #[] 1537 3 #[] #[])
  fields := #[]
  methods := #[]
  instanceTypes := #[]
  staticTypes := #[]
  resolved := Array.replicate 12 none
  statics := none }

def pool4 : Array CpInfo := pool [(2, .class_ 4), (1, u "java/lang/CharSequence"), (42, .class_ 48), (0, u "java/lang/CharSequence$1CodePointIterator"), (10, .class_ 60), (0, u "java/lang/CharSequence$1CharIterator"), (5, .class_ 67), (0, u "java/lang/Object")] 63

/-- java/lang/CharSequence -/
def k4 : Class := { plain "java/lang/CharSequence" (some 0) with
  accessFlags := 1537
  interfaces := #[]
  cf := some (fileOf pool4 2 #[.nestMembers #[47, 59]] #[] 1537 66 #[] #[])
  fields := #[]
  methods := #[]
  instanceTypes := #[]
  staticTypes := #[]
  resolved := Array.replicate 131 none
  statics := none }

def pool5 : Array CpInfo := pool [(1, .class_ 2), (0, u "java/lang/constant/Constable"), (0, .class_ 4), (0, u "java/lang/Object")] 6

/-- java/lang/constant/Constable -/
def k5 : Class := { plain "java/lang/constant/Constable" (some 0) with
  accessFlags := 1537
  interfaces := #[]
  cf := some (fileOf pool5 1 #[] #[] 1537 3 #[] #[])
  fields := #[]
  methods := #[]
  instanceTypes := #[]
  staticTypes := #[]
  resolved := Array.replicate 11 none
  statics := none }

def pool6 : Array CpInfo := pool [(1, .class_ 2), (0, u "java/lang/constant/ConstantDesc"), (0, .class_ 4), (0, u "java/lang/Object")] 32

/-- java/lang/constant/ConstantDesc -/
def k6 : Class := { plain "java/lang/constant/ConstantDesc" (some 0) with
  accessFlags := 1537
  interfaces := #[]
  cf := some (fileOf pool6 1 #[] #[] 1537 3 #[] #[])
  fields := #[]
  methods := #[]
  instanceTypes := #[]
  staticTypes := #[]
  resolved := Array.replicate 37 none
  statics := none }

def pool7 : Array CpInfo := pool [(1, .methodref 2 3), (0, .class_ 4), (0, .nameAndType 5 6), (0, u "java/lang/Object"), (0, u "<init>"), (0, u "()V"), (0, .string 8), (0, u ""), (0, .fieldref 10 11), (0, .class_ 12), (0, .nameAndType 13 14), (0, u "java/lang/String"), (0, u "value"), (0, u "[B"), (0, .fieldref 10 16), (0, .nameAndType 17 18), (0, u "coder"), (0, u "B"), (2, u "hash"), (0, u "I"), (2, u "hashIsZero"), (0, u "Z"), (0, .methodref 10 28), (0, .nameAndType 5 29), (0, u "([CIILjava/lang/Void;)V"), (8, .fieldref 10 39), (0, .nameAndType 40 26), (0, u "COMPACT_STRINGS"), (1, .class_ 44), (1, u "java/lang/StringUTF16"), (0, u "compress"), (1, .methodref 42 48), (0, .nameAndType 49 50), (0, u "coderFromArrayLen"), (0, u "([BI)B"), (126, .methodref 42 178), (0, .nameAndType 45 179), (0, u "([CII)[B"), (363, u "equals"), (29, u "(Ljava/lang/Object;)Z"), (1, .class_ 576), (0, u "java/lang/CharSequence"), (22, u "CASE_INSENSITIVE_ORDER"), (0, u "Ljava/util/Comparator;"), (409, u "([C)V"), (90, u "serialPersistentFields"), (0, u "[Ljava/io/ObjectStreamField;"), (0, .class_ 1104), (0, u "java/lang/String$CaseInsensitiveComparator"), (1, .class_ 1107), (0, u "java/io/Serializable"), (0, .class_ 1109), (0, u "java/lang/Comparable"), (0, .class_ 1111), (0, u "java/lang/constant/Constable"), (0, .class_ 1113), (0, u "java/lang/constant/ConstantDesc"), (2, u "serialVersionUID"), (0, u "J"), (3, u "REPL"), (0, u "C"), (2, u "LATIN1"), (1, u "UTF16")] 323

def k7m0 : Method := { name := "<init>", desc := "()V", sig := { parameters := [], returnType := none }, accessFlags := 1, code := none }
def k7c1 : Code := { maxStack := 5, maxLocals := 2, code := jdk_42_method_3_code, exceptionTable := #[], attributes := #[] }
def k7m1 : Method := { name := "<init>", desc := "([C)V", sig := { parameters := [(.array .char)], returnType := none }, accessFlags := 1, code := some k7c1 }
def k7c2 : Code := { maxStack := 2, maxLocals := 3, code := jdk_42_method_66_code, exceptionTable := #[], attributes := #[] }
def k7m2 : Method := { name := "equals", desc := "(Ljava/lang/Object;)Z", sig := { parameters := [(.object "java/lang/Object")], returnType := some .boolean }, accessFlags := 1, code := some k7c2 }
def k7c3 : Code := { maxStack := 4, maxLocals := 6, code := jdk_42_method_149_code, exceptionTable := #[], attributes := #[] }
def k7m3 : Method := { name := "<init>", desc := "([CIILjava/lang/Void;)V", sig := { parameters := [(.array .char), .int, .int, (.object "java/lang/Void")], returnType := none }, accessFlags := 2, code := some k7c3 }
/-- java/lang/String -/
def k7 : Class := { plain "java/lang/String" (some 0) with
  accessFlags := 49
  interfaces := #[2, 3, 4, 5, 6]
  cf := some (fileOf pool7 10 #[.nestMembers #[1103]] #[{ accessFlags := 1, nameIndex := 5, descriptorIndex := 6, attributes := #[] }, { accessFlags := 1, nameIndex := 5, descriptorIndex := 1010, attributes := #[] }, { accessFlags := 1, nameIndex := 543, descriptorIndex := 573, attributes := #[] }, { accessFlags := 2, nameIndex := 5, descriptorIndex := 29, attributes := #[] }] 49 2 #[1106, 1108, 575, 1110, 1112] #[{ accessFlags := 18, nameIndex := 13, descriptorIndex := 14, attributes := #[] }, { accessFlags := 18, nameIndex := 17, descriptorIndex := 18, attributes := #[] }, { accessFlags := 2, nameIndex := 21, descriptorIndex := 22, attributes := #[] }, { accessFlags := 2, nameIndex := 25, descriptorIndex := 26, attributes := #[] }, { accessFlags := 26, nameIndex := 1116, descriptorIndex := 1117, attributes := #[] }, { accessFlags := 24, nameIndex := 40, descriptorIndex := 26, attributes := #[] }, { accessFlags := 26, nameIndex := 1101, descriptorIndex := 1102, attributes := #[] }, { accessFlags := 26, nameIndex := 1121, descriptorIndex := 1122, attributes := #[] }, { accessFlags := 25, nameIndex := 599, descriptorIndex := 600, attributes := #[] }, { accessFlags := 24, nameIndex := 1125, descriptorIndex := 18, attributes := #[] }, { accessFlags := 24, nameIndex := 1127, descriptorIndex := 18, attributes := #[] }])
  fields := #[{ name := "value", type := (.array .byte), accessFlags := 18, slot := 0, constantValue := 0 }, { name := "coder", type := .byte, accessFlags := 18, slot := 1, constantValue := 0 }, { name := "hash", type := .int, accessFlags := 2, slot := 2, constantValue := 0 }, { name := "hashIsZero", type := .boolean, accessFlags := 2, slot := 3, constantValue := 0 }, { name := "serialVersionUID", type := .long, accessFlags := 26, slot := 0, constantValue := 0 }, { name := "COMPACT_STRINGS", type := .boolean, accessFlags := 24, slot := 1, constantValue := 0 }, { name := "serialPersistentFields", type := (.array (.object "java/io/ObjectStreamField")), accessFlags := 26, slot := 2, constantValue := 0 }, { name := "REPL", type := .char, accessFlags := 26, slot := 3, constantValue := 0 }, { name := "CASE_INSENSITIVE_ORDER", type := (.object "java/util/Comparator"), accessFlags := 25, slot := 4, constantValue := 0 }, { name := "LATIN1", type := .byte, accessFlags := 24, slot := 5, constantValue := 0 }, { name := "UTF16", type := .byte, accessFlags := 24, slot := 6, constantValue := 0 }]
  methods := #[k7m0, k7m1, k7m2, k7m3]
  instanceTypes := #[(.array .byte), .byte, .int, .boolean]
  staticTypes := #[.long, .boolean, (.array (.object "java/io/ObjectStreamField")), .char, (.object "java/util/Comparator"), .byte, .byte]
  resolved := Array.replicate 1451 none
  statics := some 0 }

def pool8 : Array CpInfo := pool [(1, .methodref 2 3), (0, .class_ 4), (0, .nameAndType 5 6), (0, u "java/lang/Object"), (0, u "<init>"), (0, u "()V"), (0, .fieldref 8 9), (0, .class_ 10), (0, .nameAndType 11 12), (0, u "java/lang/Throwable"), (0, u "cause"), (0, u "Ljava/lang/Throwable;"), (0, .fieldref 8 14), (0, .nameAndType 15 16), (0, u "UNASSIGNED_STACK"), (0, u "[Ljava/lang/StackTraceElement;"), (0, .fieldref 8 18), (0, .nameAndType 19 16), (0, u "stackTrace"), (0, .fieldref 8 21), (0, .nameAndType 22 23), (0, u "SUPPRESSED_SENTINEL"), (0, u "Ljava/util/List;"), (0, .fieldref 8 25), (0, .nameAndType 26 23), (0, u "suppressedExceptions"), (4, .fieldref 8 32), (0, .nameAndType 33 34), (0, u "detailMessage"), (0, u "Ljava/lang/String;"), (3, u "()Ljava/lang/String;"), (2, u "getMessage"), (51, .class_ 94), (0, u "java/lang/Throwable$WrappedPrintStream"), (6, .class_ 103), (1, u "java/lang/Throwable$PrintStreamOrWriter"), (61, u "$assertionsDisabled"), (0, u "Z"), (26, .class_ 194), (0, u "java/lang/Throwable$WrappedPrintWriter"), (5, u "backtrace"), (0, u "Ljava/lang/Object;"), (9, u "depth"), (0, u "I"), (56, .class_ 271), (1, u "java/lang/Throwable$SentinelHolder"), (32, u "EMPTY_THROWABLE_ARRAY"), (0, u "[Ljava/lang/Throwable;"), (12, .class_ 319), (0, u "java/io/Serializable"), (0, u "serialVersionUID"), (0, u "J"), (5, u "NULL_CAUSE_MESSAGE"), (0, u "SELF_SUPPRESSION_MESSAGE"), (0, u "CAUSE_CAPTION"), (0, u "SUPPRESSED_CAPTION"), (9, u "(Ljava/lang/String;Ljava/lang/Throwable;ZZ)V")] 63

def k8m0 : Method := { name := "<init>", desc := "()V", sig := { parameters := [], returnType := none }, accessFlags := 1, code := none }
def k8c1 : Code := { maxStack := 2, maxLocals := 5, code := jdk_78_method_5_code, exceptionTable := #[], attributes := #[] }
def k8m1 : Method := { name := "<init>", desc := "(Ljava/lang/String;Ljava/lang/Throwable;ZZ)V", sig := { parameters := [(.object "java/lang/String"), (.object "java/lang/Throwable"), .boolean, .boolean], returnType := none }, accessFlags := 4, code := some k8c1 }
def k8c2 : Code := { maxStack := 1, maxLocals := 1, code := jdk_78_method_6_code, exceptionTable := #[], attributes := #[] }
def k8m2 : Method := { name := "getMessage", desc := "()Ljava/lang/String;", sig := { parameters := [], returnType := some (.object "java/lang/String") }, accessFlags := 1, code := some k8c2 }
/-- java/lang/Throwable -/
def k8 : Class := { plain "java/lang/Throwable" (some 0) with
  accessFlags := 33
  interfaces := #[2]
  cf := some (fileOf pool8 8 #[.nestMembers #[193, 93, 101, 269]] #[{ accessFlags := 1, nameIndex := 5, descriptorIndex := 6, attributes := #[] }, { accessFlags := 4, nameIndex := 5, descriptorIndex := 340, attributes := #[] }, { accessFlags := 1, nameIndex := 41, descriptorIndex := 38, attributes := #[] }] 33 2 #[318] #[{ accessFlags := 26, nameIndex := 320, descriptorIndex := 321, attributes := #[] }, { accessFlags := 130, nameIndex := 200, descriptorIndex := 201, attributes := #[] }, { accessFlags := 2, nameIndex := 33, descriptorIndex := 34, attributes := #[] }, { accessFlags := 26, nameIndex := 15, descriptorIndex := 16, attributes := #[] }, { accessFlags := 2, nameIndex := 11, descriptorIndex := 12, attributes := #[] }, { accessFlags := 2, nameIndex := 19, descriptorIndex := 16, attributes := #[] }, { accessFlags := 130, nameIndex := 211, descriptorIndex := 212, attributes := #[] }, { accessFlags := 26, nameIndex := 22, descriptorIndex := 23, attributes := #[] }, { accessFlags := 2, nameIndex := 26, descriptorIndex := 23, attributes := #[] }, { accessFlags := 26, nameIndex := 327, descriptorIndex := 34, attributes := #[] }, { accessFlags := 26, nameIndex := 328, descriptorIndex := 34, attributes := #[] }, { accessFlags := 26, nameIndex := 329, descriptorIndex := 34, attributes := #[] }, { accessFlags := 26, nameIndex := 330, descriptorIndex := 34, attributes := #[] }, { accessFlags := 26, nameIndex := 304, descriptorIndex := 305, attributes := #[] }, { accessFlags := 4120, nameIndex := 165, descriptorIndex := 166, attributes := #[] }])
  fields := #[{ name := "serialVersionUID", type := .long, accessFlags := 26, slot := 0, constantValue := 0 }, { name := "backtrace", type := (.object "java/lang/Object"), accessFlags := 130, slot := 0, constantValue := 0 }, { name := "detailMessage", type := (.object "java/lang/String"), accessFlags := 2, slot := 1, constantValue := 0 }, { name := "UNASSIGNED_STACK", type := (.array (.object "java/lang/StackTraceElement")), accessFlags := 26, slot := 1, constantValue := 0 }, { name := "cause", type := (.object "java/lang/Throwable"), accessFlags := 2, slot := 2, constantValue := 0 }, { name := "stackTrace", type := (.array (.object "java/lang/StackTraceElement")), accessFlags := 2, slot := 3, constantValue := 0 }, { name := "depth", type := .int, accessFlags := 130, slot := 4, constantValue := 0 }, { name := "SUPPRESSED_SENTINEL", type := (.object "java/util/List"), accessFlags := 26, slot := 2, constantValue := 0 }, { name := "suppressedExceptions", type := (.object "java/util/List"), accessFlags := 2, slot := 5, constantValue := 0 }, { name := "NULL_CAUSE_MESSAGE", type := (.object "java/lang/String"), accessFlags := 26, slot := 3, constantValue := 0 }, { name := "SELF_SUPPRESSION_MESSAGE", type := (.object "java/lang/String"), accessFlags := 26, slot := 4, constantValue := 0 }, { name := "CAUSE_CAPTION", type := (.object "java/lang/String"), accessFlags := 26, slot := 5, constantValue := 0 }, { name := "SUPPRESSED_CAPTION", type := (.object "java/lang/String"), accessFlags := 26, slot := 6, constantValue := 0 }, { name := "EMPTY_THROWABLE_ARRAY", type := (.array (.object "java/lang/Throwable")), accessFlags := 26, slot := 7, constantValue := 0 }, { name := "$assertionsDisabled", type := .boolean, accessFlags := 4120, slot := 8, constantValue := 0 }]
  methods := #[k8m0, k8m1, k8m2]
  instanceTypes := #[(.object "java/lang/Object"), (.object "java/lang/String"), (.object "java/lang/Throwable"), (.array (.object "java/lang/StackTraceElement")), .int, (.object "java/util/List")]
  staticTypes := #[.long, (.array (.object "java/lang/StackTraceElement")), (.object "java/util/List"), (.object "java/lang/String"), (.object "java/lang/String"), (.object "java/lang/String"), (.object "java/lang/String"), (.array (.object "java/lang/Throwable")), .boolean]
  resolved := Array.replicate 404 none
  statics := some 1 }

def pool9 : Array CpInfo := pool [(2, .class_ 4), (1, u "java/lang/Throwable"), (0, u "<init>"), (0, u "()V"), (9, .methodref 2 17), (0, .nameAndType 5 18), (0, u "(Ljava/lang/String;Ljava/lang/Throwable;ZZ)V"), (0, .class_ 20), (0, u "java/lang/Exception"), (0, u "serialVersionUID"), (0, u "J")] 17

def k9m0 : Method := { name := "<init>", desc := "()V", sig := { parameters := [], returnType := none }, accessFlags := 1, code := none }
def k9c1 : Code := { maxStack := 5, maxLocals := 5, code := jdk_59_method_5_code, exceptionTable := #[], attributes := #[] }
def k9m1 : Method := { name := "<init>", desc := "(Ljava/lang/String;Ljava/lang/Throwable;ZZ)V", sig := { parameters := [(.object "java/lang/String"), (.object "java/lang/Throwable"), .boolean, .boolean], returnType := none }, accessFlags := 4, code := some k9c1 }
/-- java/lang/Exception -/
def k9 : Class := { plain "java/lang/Exception" (some 8) with
  accessFlags := 33
  interfaces := #[]
  cf := some (fileOf pool9 19 #[] #[{ accessFlags := 1, nameIndex := 5, descriptorIndex := 6, attributes := #[] }, { accessFlags := 4, nameIndex := 5, descriptorIndex := 18, attributes := #[] }] 33 2 #[] #[{ accessFlags := 24, nameIndex := 21, descriptorIndex := 22, attributes := #[] }])
  fields := #[{ name := "serialVersionUID", type := .long, accessFlags := 24, slot := 0, constantValue := 0 }]
  methods := #[k9m0, k9m1]
  instanceTypes := #[(.object "java/lang/Object"), (.object "java/lang/String"), (.object "java/lang/Throwable"), (.array (.object "java/lang/StackTraceElement")), .int, (.object "java/util/List")]
  staticTypes := #[.long]
  resolved := Array.replicate 40 none
  statics := none }

def pool10 : Array CpInfo := pool [(2, .class_ 4), (1, u "java/lang/Exception"), (0, u "<init>"), (0, u "()V"), (9, .methodref 2 17), (0, .nameAndType 5 18), (0, u "(Ljava/lang/String;Ljava/lang/Throwable;ZZ)V"), (0, .class_ 20), (0, u "java/lang/RuntimeException"), (0, u "serialVersionUID"), (0, u "J")] 17

def k10m0 : Method := { name := "<init>", desc := "()V", sig := { parameters := [], returnType := none }, accessFlags := 1, code := none }
def k10c1 : Code := { maxStack := 5, maxLocals := 5, code := jdk_58_method_5_code, exceptionTable := #[], attributes := #[] }
def k10m1 : Method := { name := "<init>", desc := "(Ljava/lang/String;Ljava/lang/Throwable;ZZ)V", sig := { parameters := [(.object "java/lang/String"), (.object "java/lang/Throwable"), .boolean, .boolean], returnType := none }, accessFlags := 4, code := some k10c1 }
/-- java/lang/RuntimeException -/
def k10 : Class := { plain "java/lang/RuntimeException" (some 9) with
  accessFlags := 33
  interfaces := #[]
  cf := some (fileOf pool10 19 #[] #[{ accessFlags := 1, nameIndex := 5, descriptorIndex := 6, attributes := #[] }, { accessFlags := 4, nameIndex := 5, descriptorIndex := 18, attributes := #[] }] 33 2 #[] #[{ accessFlags := 24, nameIndex := 21, descriptorIndex := 22, attributes := #[] }])
  fields := #[{ name := "serialVersionUID", type := .long, accessFlags := 24, slot := 0, constantValue := 0 }]
  methods := #[k10m0, k10m1]
  instanceTypes := #[(.object "java/lang/Object"), (.object "java/lang/String"), (.object "java/lang/Throwable"), (.array (.object "java/lang/StackTraceElement")), .int, (.object "java/util/List")]
  staticTypes := #[.long]
  resolved := Array.replicate 40 none
  statics := none }

def pool11 : Array CpInfo := pool [(1, .methodref 2 3), (0, .class_ 4), (0, .nameAndType 5 6), (0, u "java/lang/RuntimeException"), (0, u "<init>"), (0, u "(Ljava/lang/String;Ljava/lang/Throwable;ZZ)V"), (0, .fieldref 8 9), (0, .class_ 10), (0, .nameAndType 11 12), (0, u "com/example/metaloom/metaloom/store/Rejection"), (0, u "reason"), (0, u "Lcom/example/metaloom/metaloom/store/Rejection$Reason;"), (0, .fieldref 8 14), (0, .nameAndType 15 16), (0, u "position"), (0, u "Ljava/util/OptionalInt;"), (0, .methodref 18 19), (0, .class_ 20), (0, .nameAndType 21 22), (0, u "java/util/OptionalInt"), (0, u "empty"), (0, u "()Ljava/util/OptionalInt;"), (0, .methodref 8 24), (0, .nameAndType 5 25), (0, u "(Lcom/example/metaloom/metaloom/store/Rejection$Reason;Ljava/lang/String;Ljava/util/OptionalInt;)V"), (1, .class_ 29), (1, u "com/example/metaloom/metaloom/store/Rejection$Reason"), (1, .methodref 8 32), (0, .nameAndType 5 33), (0, u "(Lcom/example/metaloom/metaloom/store/Rejection$Reason;Ljava/lang/String;)V"), (7, .fieldref 27 42), (0, .nameAndType 43 12), (0, u "CONFLICT"), (0, u "serialVersionUID"), (0, u "J"), (6, u "(Ljava/lang/String;)Lcom/example/metaloom/metaloom/store/Rejection;"), (3, u "conflict"), (0, u "()Lcom/example/metaloom/metaloom/store/Rejection$Reason;")] 5

def k11c0 : Code := { maxStack := 5, maxLocals := 4, code := prog_21_method_1_code, exceptionTable := #[], attributes := #[] }
def k11m0 : Method := { name := "<init>", desc := "(Lcom/example/metaloom/metaloom/store/Rejection$Reason;Ljava/lang/String;Ljava/util/OptionalInt;)V", sig := { parameters := [(.object "com/example/metaloom/metaloom/store/Rejection$Reason"), (.object "java/lang/String"), (.object "java/util/OptionalInt")], returnType := none }, accessFlags := 2, code := some k11c0 }
def k11c1 : Code := { maxStack := 4, maxLocals := 3, code := prog_21_method_2_code, exceptionTable := #[], attributes := #[] }
def k11m1 : Method := { name := "<init>", desc := "(Lcom/example/metaloom/metaloom/store/Rejection$Reason;Ljava/lang/String;)V", sig := { parameters := [(.object "com/example/metaloom/metaloom/store/Rejection$Reason"), (.object "java/lang/String")], returnType := none }, accessFlags := 2, code := some k11c1 }
def k11c2 : Code := { maxStack := 4, maxLocals := 1, code := prog_21_method_6_code, exceptionTable := #[], attributes := #[] }
def k11m2 : Method := { name := "conflict", desc := "(Ljava/lang/String;)Lcom/example/metaloom/metaloom/store/Rejection;", sig := { parameters := [(.object "java/lang/String")], returnType := some (.object "com/example/metaloom/metaloom/store/Rejection") }, accessFlags := 9, code := some k11c2 }
def k11c3 : Code := { maxStack := 1, maxLocals := 1, code := prog_21_method_7_code, exceptionTable := #[], attributes := #[] }
def k11m3 : Method := { name := "reason", desc := "()Lcom/example/metaloom/metaloom/store/Rejection$Reason;", sig := { parameters := [], returnType := some (.object "com/example/metaloom/metaloom/store/Rejection$Reason") }, accessFlags := 1, code := some k11c3 }
def k11c4 : Code := { maxStack := 1, maxLocals := 1, code := prog_21_method_8_code, exceptionTable := #[], attributes := #[] }
def k11m4 : Method := { name := "position", desc := "()Ljava/util/OptionalInt;", sig := { parameters := [], returnType := some (.object "java/util/OptionalInt") }, accessFlags := 1, code := some k11c4 }
/-- com/example/metaloom/metaloom/store/Rejection -/
def k11 : Class := { plain "com/example/metaloom/metaloom/store/Rejection" (some 10) with
  accessFlags := 49
  interfaces := #[]
  cf := some (fileOf pool11 8 #[.nestMembers #[27]] #[{ accessFlags := 2, nameIndex := 5, descriptorIndex := 25, attributes := #[] }, { accessFlags := 2, nameIndex := 5, descriptorIndex := 33, attributes := #[] }, { accessFlags := 9, nameIndex := 56, descriptorIndex := 52, attributes := #[] }, { accessFlags := 1, nameIndex := 11, descriptorIndex := 57, attributes := #[] }, { accessFlags := 1, nameIndex := 15, descriptorIndex := 22, attributes := #[] }] 49 2 #[] #[{ accessFlags := 26, nameIndex := 44, descriptorIndex := 45, attributes := #[] }, { accessFlags := 18, nameIndex := 11, descriptorIndex := 12, attributes := #[] }, { accessFlags := 18, nameIndex := 15, descriptorIndex := 16, attributes := #[] }])
  fields := #[{ name := "serialVersionUID", type := .long, accessFlags := 26, slot := 0, constantValue := 0 }, { name := "reason", type := (.object "com/example/metaloom/metaloom/store/Rejection$Reason"), accessFlags := 18, slot := 6, constantValue := 0 }, { name := "position", type := (.object "java/util/OptionalInt"), accessFlags := 18, slot := 7, constantValue := 0 }]
  methods := #[k11m0, k11m1, k11m2, k11m3, k11m4]
  instanceTypes := #[(.object "java/lang/Object"), (.object "java/lang/String"), (.object "java/lang/Throwable"), (.array (.object "java/lang/StackTraceElement")), .int, (.object "java/util/List"), (.object "com/example/metaloom/metaloom/store/Rejection$Reason"), (.object "java/util/OptionalInt")]
  staticTypes := #[.long]
  resolved := Array.replicate 63 none
  statics := none }

def pool12 : Array CpInfo := pool [(2, .class_ 4), (1, u "java/lang/Enum"), (0, u "name"), (0, u "Ljava/lang/String;"), (2, u "ordinal"), (0, u "I"), (1, .class_ 14), (1, u "java/lang/Object"), (4, u "hash"), (86, .class_ 108), (1, u "java/lang/Enum$EnumDesc"), (2, .class_ 112), (0, u "java/lang/constant/Constable"), (0, .class_ 114), (0, u "java/lang/Comparable"), (0, .class_ 116), (0, u "java/io/Serializable")] 87

/-- java/lang/Enum -/
def k12 : Class := { plain "java/lang/Enum" (some 0) with
  accessFlags := 1057
  interfaces := #[5, 3, 2]
  cf := some (fileOf pool12 2 #[.nestMembers #[106]] #[] 1057 12 #[111, 113, 115] #[{ accessFlags := 18, nameIndex := 5, descriptorIndex := 6, attributes := #[] }, { accessFlags := 18, nameIndex := 9, descriptorIndex := 10, attributes := #[] }, { accessFlags := 2, nameIndex := 19, descriptorIndex := 10, attributes := #[] }])
  fields := #[{ name := "name", type := (.object "java/lang/String"), accessFlags := 18, slot := 0, constantValue := 0 }, { name := "ordinal", type := .int, accessFlags := 18, slot := 1, constantValue := 0 }, { name := "hash", type := .int, accessFlags := 2, slot := 2, constantValue := 0 }]
  methods := #[]
  instanceTypes := #[(.object "java/lang/String"), .int, .int]
  staticTypes := #[]
  resolved := Array.replicate 204 none
  statics := none }

def pool13 : Array CpInfo := pool [(1, .class_ 2), (0, u "com/example/metaloom/metaloom/store/Rejection$Reason"), (2, u "INVALID"), (0, u "Lcom/example/metaloom/metaloom/store/Rejection$Reason;"), (2, u "NOT_FOUND"), (2, u "CONFLICT"), (2, u "$VALUES"), (0, u "[Lcom/example/metaloom/metaloom/store/Rejection$Reason;"), (6, .class_ 25), (1, u "java/lang/Enum"), (26, .class_ 53), (0, u "com/example/metaloom/metaloom/store/Rejection")] 2

/-- com/example/metaloom/metaloom/store/Rejection$Reason -/
def k13 : Class := { plain "com/example/metaloom/metaloom/store/Rejection$Reason" (some 12) with
  accessFlags := 16433
  interfaces := #[]
  cf := some (fileOf pool13 1 #[.nestHost 52] #[] 16433 23 #[] #[{ accessFlags := 16409, nameIndex := 5, descriptorIndex := 6, attributes := #[] }, { accessFlags := 16409, nameIndex := 9, descriptorIndex := 6, attributes := #[] }, { accessFlags := 16409, nameIndex := 12, descriptorIndex := 6, attributes := #[] }, { accessFlags := 4122, nameIndex := 15, descriptorIndex := 16, attributes := #[] }])
  fields := #[{ name := "INVALID", type := (.object "com/example/metaloom/metaloom/store/Rejection$Reason"), accessFlags := 16409, slot := 0, constantValue := 0 }, { name := "NOT_FOUND", type := (.object "com/example/metaloom/metaloom/store/Rejection$Reason"), accessFlags := 16409, slot := 1, constantValue := 0 }, { name := "CONFLICT", type := (.object "com/example/metaloom/metaloom/store/Rejection$Reason"), accessFlags := 16409, slot := 2, constantValue := 0 }, { name := "$VALUES", type := (.array (.object "com/example/metaloom/metaloom/store/Rejection$Reason")), accessFlags := 4122, slot := 3, constantValue := 0 }]
  methods := #[]
  instanceTypes := #[(.object "java/lang/String"), .int, .int]
  staticTypes := #[(.object "com/example/metaloom/metaloom/store/Rejection$Reason"), (.object "com/example/metaloom/metaloom/store/Rejection$Reason"), (.object "com/example/metaloom/metaloom/store/Rejection$Reason"), (.array (.object "com/example/metaloom/metaloom/store/Rejection$Reason"))]
  resolved := Array.replicate 56 none
  statics := some 2 }

def pool14 : Array CpInfo := pool [(2, .class_ 4), (1, u "java/lang/Object"), (0, u "<init>"), (0, u "()V"), (0, .fieldref 8 9), (0, .class_ 10), (0, .nameAndType 11 12), (0, u "java/util/OptionalInt"), (0, u "isPresent"), (0, u "Z"), (2, u "value"), (0, u "I"), (0, .fieldref 8 18), (0, .nameAndType 19 20), (0, u "EMPTY"), (0, u "Ljava/util/OptionalInt;"), (28, u "empty"), (46, u "()Ljava/util/OptionalInt;"), (2, u "()Z")] 36

def k14m0 : Method := { name := "<init>", desc := "()V", sig := { parameters := [], returnType := none }, accessFlags := 2, code := none }
def k14c1 : Code := { maxStack := 1, maxLocals := 0, code := jdk_2649_method_2_code, exceptionTable := #[], attributes := #[] }
def k14m1 : Method := { name := "empty", desc := "()Ljava/util/OptionalInt;", sig := { parameters := [], returnType := some (.object "java/util/OptionalInt") }, accessFlags := 9, code := some k14c1 }
def k14c2 : Code := { maxStack := 1, maxLocals := 1, code := jdk_2649_method_6_code, exceptionTable := #[], attributes := #[] }
def k14m2 : Method := { name := "isPresent", desc := "()Z", sig := { parameters := [], returnType := some .boolean }, accessFlags := 1, code := some k14c2 }
/-- java/util/OptionalInt -/
def k14 : Class := { plain "java/util/OptionalInt" (some 0) with
  accessFlags := 49
  interfaces := #[]
  cf := some (fileOf pool14 8 #[] #[{ accessFlags := 2, nameIndex := 5, descriptorIndex := 6, attributes := #[] }, { accessFlags := 9, nameIndex := 49, descriptorIndex := 96, attributes := #[] }, { accessFlags := 1, nameIndex := 11, descriptorIndex := 99, attributes := #[] }] 49 2 #[] #[{ accessFlags := 26, nameIndex := 19, descriptorIndex := 20, attributes := #[] }, { accessFlags := 18, nameIndex := 11, descriptorIndex := 12, attributes := #[] }, { accessFlags := 18, nameIndex := 15, descriptorIndex := 16, attributes := #[] }])
  fields := #[{ name := "EMPTY", type := (.object "java/util/OptionalInt"), accessFlags := 26, slot := 0, constantValue := 0 }, { name := "isPresent", type := .boolean, accessFlags := 18, slot := 0, constantValue := 0 }, { name := "value", type := .int, accessFlags := 18, slot := 1, constantValue := 0 }]
  methods := #[k14m0, k14m1, k14m2]
  instanceTypes := #[.boolean, .int]
  staticTypes := #[(.object "java/util/OptionalInt")]
  resolved := Array.replicate 136 none
  statics := some 3 }

def pool15 : Array CpInfo := pool [(6, .class_ 8), (1, u "java/lang/Object"), (0, u "<init>"), (0, u "()V"), (1, .class_ 14), (1, u "java/lang/StringUTF16"), (31, u "$assertionsDisabled"), (0, u "Z"), (13, u "HI_BYTE_SHIFT"), (0, u "I"), (2, u "LO_BYTE_SHIFT"), (49, .methodref 12 116), (0, .nameAndType 117 118), (0, u "compress"), (0, u "([CI[BII)I"), (3, u "([CII)[B"), (138, u "coderFromArrayLen"), (0, u "([BI)B"), (106, .class_ 371), (1, u "java/lang/StringUTF16$LinesSpliterator"), (58, u "MAX_LENGTH"), (196, .class_ 628), (0, u "java/lang/StringUTF16$CodePointsSpliterator"), (0, .class_ 630), (0, u "java/lang/StringUTF16$CharsSpliterator")] 4

def k15m0 : Method := { name := "<init>", desc := "()V", sig := { parameters := [], returnType := none }, accessFlags := 0, code := none }
def k15c1 : Code := { maxStack := 2, maxLocals := 2, code := jdk_52_method_15_code, exceptionTable := #[], attributes := #[] }
def k15m1 : Method := { name := "coderFromArrayLen", desc := "([BI)B", sig := { parameters := [(.array .byte), .int], returnType := some .byte }, accessFlags := 8, code := some k15c1 }
def k15c2 : Code := { maxStack := 5, maxLocals := 6, code := jdk_52_method_16_code, exceptionTable := #[], attributes := #[] }
def k15m2 : Method := { name := "compress", desc := "([CII)[B", sig := { parameters := [(.array .char), .int, .int], returnType := some (.array .byte) }, accessFlags := 9, code := some k15c2 }
def k15c3 : Code := { maxStack := 3, maxLocals := 7, code := jdk_52_method_21_code, exceptionTable := #[], attributes := #[] }
def k15m3 : Method := { name := "compress", desc := "([CI[BII)I", sig := { parameters := [(.array .char), .int, (.array .byte), .int, .int], returnType := some .int }, accessFlags := 9, code := some k15c3 }
/-- java/lang/StringUTF16 -/
def k15 : Class := { plain "java/lang/StringUTF16" (some 0) with
  accessFlags := 48
  interfaces := #[]
  cf := some (fileOf pool15 12 #[.nestMembers #[627, 629, 369]] #[{ accessFlags := 0, nameIndex := 9, descriptorIndex := 10, attributes := #[] }, { accessFlags := 8, nameIndex := 261, descriptorIndex := 262, attributes := #[] }, { accessFlags := 9, nameIndex := 117, descriptorIndex := 122, attributes := #[] }, { accessFlags := 9, nameIndex := 117, descriptorIndex := 118, attributes := #[] }] 48 6 #[] #[{ accessFlags := 26, nameIndex := 61, descriptorIndex := 62, attributes := #[] }, { accessFlags := 26, nameIndex := 65, descriptorIndex := 62, attributes := #[] }, { accessFlags := 24, nameIndex := 430, descriptorIndex := 62, attributes := #[] }, { accessFlags := 4120, nameIndex := 46, descriptorIndex := 47, attributes := #[] }])
  fields := #[{ name := "HI_BYTE_SHIFT", type := .int, accessFlags := 26, slot := 0, constantValue := 0 }, { name := "LO_BYTE_SHIFT", type := .int, accessFlags := 26, slot := 1, constantValue := 0 }, { name := "MAX_LENGTH", type := .int, accessFlags := 24, slot := 2, constantValue := 0 }, { name := "$assertionsDisabled", type := .boolean, accessFlags := 4120, slot := 3, constantValue := 0 }]
  methods := #[k15m0, k15m1, k15m2, k15m3]
  instanceTypes := #[]
  staticTypes := #[.int, .int, .int, .boolean]
  resolved := Array.replicate 635 none
  statics := none }

def pool16 : Array CpInfo := pool [(2, .class_ 4), (1, u "java/lang/Object"), (0, u "<init>"), (0, u "()V"), (12, .class_ 20), (0, u "java/util/Collections"), (63, u "r"), (0, u "Ljava/util/Random;"), (80, .class_ 167), (0, u "java/util/Collections$UnmodifiableCollection"), (6, .class_ 175), (0, u "java/util/Collections$UnmodifiableSequencedCollection"), (6, .class_ 183), (0, u "java/util/Collections$UnmodifiableSet"), (6, .class_ 191), (0, u "java/util/Collections$UnmodifiableSequencedSet"), (6, .class_ 199), (0, u "java/util/Collections$UnmodifiableSortedSet"), (6, .class_ 207), (0, u "java/util/Collections$UnmodifiableNavigableSet"), (4, .class_ 213), (0, u "java/util/Collections$UnmodifiableList"), (1, .class_ 216), (0, u "java/util/Collections$UnmodifiableRandomAccessList"), (6, .class_ 224), (0, u "java/util/Collections$UnmodifiableMap"), (6, .class_ 232), (0, u "java/util/Collections$UnmodifiableSequencedMap"), (4, .class_ 238), (0, u "java/util/Collections$UnmodifiableSortedMap"), (6, .class_ 246), (0, u "java/util/Collections$UnmodifiableNavigableMap"), (3, .class_ 251), (0, u "java/util/Collections$SynchronizedCollection"), (4, .class_ 257), (0, u "java/util/Collections$SynchronizedSet"), (4, .class_ 263), (0, u "java/util/Collections$SynchronizedSortedSet"), (1, .class_ 266), (0, u "java/util/Collections$SynchronizedNavigableSet"), (1, .class_ 269), (0, u "java/util/Collections$SynchronizedRandomAccessList"), (1, .class_ 272), (0, u "java/util/Collections$SynchronizedList"), (5, .class_ 279), (0, u "java/util/Collections$SynchronizedMap"), (1, .class_ 282), (0, u "java/util/Collections$SynchronizedSortedMap"), (1, .class_ 285), (0, u "java/util/Collections$SynchronizedNavigableMap"), (1, .class_ 288), (0, u "java/util/Collections$CheckedCollection"), (11, .class_ 301), (0, u "java/util/Collections$CheckedQueue"), (3, .class_ 306), (0, u "java/util/Collections$CheckedSet"), (3, .class_ 311), (0, u "java/util/Collections$CheckedSortedSet"), (3, .class_ 316), (0, u "java/util/Collections$CheckedNavigableSet"), (3, .class_ 321), (0, u "java/util/Collections$CheckedRandomAccessList"), (3, .class_ 326), (0, u "java/util/Collections$CheckedList"), (1, .class_ 329), (0, u "java/util/Collections$CheckedMap"), (3, .class_ 334), (0, u "java/util/Collections$CheckedSortedMap"), (3, .class_ 339), (0, u "java/util/Collections$CheckedNavigableMap"), (4, .class_ 346), (1, u "java/util/Collections$EmptyIterator"), (3, .class_ 352), (1, u "java/util/Collections$EmptyListIterator"), (2, .class_ 357), (1, u "java/util/Collections$EmptyEnumeration"), (4, u "EMPTY_SET"), (0, u "Ljava/util/Set;"), (6, u "EMPTY_LIST"), (0, u "Ljava/util/List;"), (2, u "EMPTY_MAP"), (0, u "Ljava/util/Map;"), (4, .class_ 381), (0, u "java/util/Collections$SingletonSet"), (2, .class_ 385), (0, u "java/util/Collections$1"), (1, .class_ 388), (0, u "java/util/Collections$2"), (1, .class_ 391), (0, u "java/util/Collections$SingletonList"), (1, .class_ 394), (0, u "java/util/Collections$SingletonMap"), (22, .class_ 418), (0, u "java/util/Collections$CopiesList"), (4, .class_ 425), (1, u "java/util/Collections$ReverseComparator"), (8, .class_ 435), (0, u "java/util/Collections$ReverseComparator2"), (6, .class_ 443), (0, u "java/util/Collections$3"), (25, .class_ 470), (0, u "java/util/Collections$SetFromMap"), (2, .class_ 474), (0, u "java/util/Collections$SequencedSetFromMap"), (3, .class_ 479), (0, u "java/util/Collections$AsLIFOQueue"), (11, .class_ 492), (0, u "java/util/Collections$EmptySet"), (1, .class_ 495), (0, u "java/util/Collections$EmptyList"), (1, .class_ 498), (0, u "java/util/Collections$EmptyMap"), (1, u "BINARYSEARCH_THRESHOLD"), (0, u "I"), (2, u "REVERSE_THRESHOLD"), (1, u "SHUFFLE_THRESHOLD"), (1, u "FILL_THRESHOLD"), (1, u "ROTATE_THRESHOLD"), (1, u "COPY_THRESHOLD"), (1, u "REPLACEALL_THRESHOLD"), (1, u "INDEXOFSUBLIST_THRESHOLD"), (333, .class_ 851), (0, u "java/util/Collections$CheckedMap$CheckedEntrySet"), (0, .class_ 853), (0, u "java/util/Collections$CheckedMap$CheckedEntrySet$CheckedEntry"), (0, .class_ 855), (0, u "java/util/Collections$CheckedMap$CheckedEntrySet$1"), (0, .class_ 857), (0, u "java/util/Collections$CheckedList$1"), (0, .class_ 859), (0, u "java/util/Collections$CheckedCollection$1"), (0, .class_ 861), (0, u "java/util/Collections$UnmodifiableNavigableMap$EmptyNavigableMap"), (0, .class_ 863), (0, u "java/util/Collections$UnmodifiableMap$UnmodifiableEntrySet"), (0, .class_ 865), (0, u "java/util/Collections$UnmodifiableMap$UnmodifiableEntrySet$UnmodifiableEntry"), (0, .class_ 867), (0, u "java/util/Collections$UnmodifiableMap$UnmodifiableEntrySet$UnmodifiableEntrySetSpliterator"), (0, .class_ 869), (0, u "java/util/Collections$UnmodifiableMap$UnmodifiableEntrySet$1"), (0, .class_ 871), (0, u "java/util/Collections$UnmodifiableList$1"), (0, .class_ 873), (0, u "java/util/Collections$UnmodifiableNavigableSet$EmptyNavigableSet"), (0, .class_ 875), (0, u "java/util/Collections$UnmodifiableCollection$1")] 57

def k16m0 : Method := { name := "<init>", desc := "()V", sig := { parameters := [], returnType := none }, accessFlags := 2, code := none }
/-- java/util/Collections -/
def k16 : Class := { plain "java/util/Collections" (some 0) with
  accessFlags := 33
  interfaces := #[]
  cf := some (fileOf pool16 19 #[.nestMembers #[478, 473, 469, 434, 423, 417, 393, 390, 380, 497, 494, 491, 355, 350, 344, 338, 333, 328, 850, 852, 854, 320, 325, 856, 315, 310, 305, 300, 287, 858, 284, 281, 278, 268, 271, 265, 262, 256, 250, 245, 860, 237, 231, 223, 862, 864, 866, 868, 215, 212, 870, 206, 872, 198, 190, 182, 174, 166, 874, 442, 387, 384]] #[{ accessFlags := 2, nameIndex := 5, descriptorIndex := 6, attributes := #[] }] 33 2 #[] #[{ accessFlags := 26, nameIndex := 500, descriptorIndex := 501, attributes := #[] }, { accessFlags := 26, nameIndex := 504, descriptorIndex := 501, attributes := #[] }, { accessFlags := 26, nameIndex := 506, descriptorIndex := 501, attributes := #[] }, { accessFlags := 26, nameIndex := 508, descriptorIndex := 501, attributes := #[] }, { accessFlags := 26, nameIndex := 510, descriptorIndex := 501, attributes := #[] }, { accessFlags := 26, nameIndex := 512, descriptorIndex := 501, attributes := #[] }, { accessFlags := 26, nameIndex := 514, descriptorIndex := 501, attributes := #[] }, { accessFlags := 26, nameIndex := 516, descriptorIndex := 501, attributes := #[] }, { accessFlags := 10, nameIndex := 84, descriptorIndex := 85, attributes := #[] }, { accessFlags := 25, nameIndex := 362, descriptorIndex := 363, attributes := #[] }, { accessFlags := 25, nameIndex := 370, descriptorIndex := 371, attributes := #[] }, { accessFlags := 25, nameIndex := 374, descriptorIndex := 375, attributes := #[] }])
  fields := #[{ name := "BINARYSEARCH_THRESHOLD", type := .int, accessFlags := 26, slot := 0, constantValue := 0 }, { name := "REVERSE_THRESHOLD", type := .int, accessFlags := 26, slot := 1, constantValue := 0 }, { name := "SHUFFLE_THRESHOLD", type := .int, accessFlags := 26, slot := 2, constantValue := 0 }, { name := "FILL_THRESHOLD", type := .int, accessFlags := 26, slot := 3, constantValue := 0 }, { name := "ROTATE_THRESHOLD", type := .int, accessFlags := 26, slot := 4, constantValue := 0 }, { name := "COPY_THRESHOLD", type := .int, accessFlags := 26, slot := 5, constantValue := 0 }, { name := "REPLACEALL_THRESHOLD", type := .int, accessFlags := 26, slot := 6, constantValue := 0 }, { name := "INDEXOFSUBLIST_THRESHOLD", type := .int, accessFlags := 26, slot := 7, constantValue := 0 }, { name := "r", type := (.object "java/util/Random"), accessFlags := 10, slot := 8, constantValue := 0 }, { name := "EMPTY_SET", type := (.object "java/util/Set"), accessFlags := 25, slot := 9, constantValue := 0 }, { name := "EMPTY_LIST", type := (.object "java/util/List"), accessFlags := 25, slot := 10, constantValue := 0 }, { name := "EMPTY_MAP", type := (.object "java/util/Map"), accessFlags := 25, slot := 11, constantValue := 0 }]
  methods := #[k16m0]
  instanceTypes := #[]
  staticTypes := #[.int, .int, .int, .int, .int, .int, .int, .int, (.object "java/util/Random"), (.object "java/util/Set"), (.object "java/util/List"), (.object "java/util/Map")]
  resolved := Array.replicate 933 none
  statics := some 4 }

def pool17 : Array CpInfo := pool [(4, .class_ 6), (1, u "java/lang/Object"), (0, u "<init>"), (0, u "()V"), (5, .class_ 16), (1, u "java/lang/StringLatin1"), (104, u "$assertionsDisabled"), (0, u "Z"), (98, .class_ 223), (1, u "java/lang/StringLatin1$LinesSpliterator"), (166, .class_ 391), (0, u "java/lang/StringLatin1$CharsSpliterator")] 3

def k17m0 : Method := { name := "<init>", desc := "()V", sig := { parameters := [], returnType := none }, accessFlags := 0, code := none }
/-- java/lang/StringLatin1 -/
def k17 : Class := { plain "java/lang/StringLatin1" (some 0) with
  accessFlags := 48
  interfaces := #[]
  cf := some (fileOf pool17 14 #[.nestMembers #[390, 221]] #[{ accessFlags := 0, nameIndex := 7, descriptorIndex := 8, attributes := #[] }] 48 4 #[] #[{ accessFlags := 4120, nameIndex := 121, descriptorIndex := 122, attributes := #[] }])
  fields := #[{ name := "$assertionsDisabled", type := .boolean, accessFlags := 4120, slot := 0, constantValue := 0 }]
  methods := #[k17m0]
  instanceTypes := #[]
  staticTypes := #[.boolean]
  resolved := Array.replicate 395 none
  statics := none }

def pool18 : Array CpInfo := pool [(2, .class_ 4), (1, u "java/lang/Object"), (0, u "<init>"), (0, u "()V"), (17, .class_ 26), (1, u "jdk/internal/util/Preconditions"), (28, .class_ 56), (0, u "jdk/internal/util/Preconditions$4"), (57, .class_ 115), (0, u "jdk/internal/util/Preconditions$1"), (7, u "SIOOBE_FORMATTER"), (0, u "Ljava/util/function/BiFunction;"), (0, .class_ 126), (0, u "jdk/internal/util/Preconditions$2"), (3, u "AIOOBE_FORMATTER"), (0, .class_ 132), (0, u "jdk/internal/util/Preconditions$3"), (3, u "IOOBE_FORMATTER")] 57

def k18m0 : Method := { name := "<init>", desc := "()V", sig := { parameters := [], returnType := none }, accessFlags := 1, code := none }
/-- jdk/internal/util/Preconditions -/
def k18 : Class := { plain "jdk/internal/util/Preconditions" (some 0) with
  accessFlags := 33
  interfaces := #[]
  cf := some (fileOf pool18 24 #[.nestMembers #[55, 131, 125, 114]] #[{ accessFlags := 1, nameIndex := 5, descriptorIndex := 6, attributes := #[] }] 33 2 #[] #[{ accessFlags := 25, nameIndex := 123, descriptorIndex := 124, attributes := #[] }, { accessFlags := 25, nameIndex := 130, descriptorIndex := 124, attributes := #[] }, { accessFlags := 25, nameIndex := 136, descriptorIndex := 124, attributes := #[] }])
  fields := #[{ name := "SIOOBE_FORMATTER", type := (.object "java/util/function/BiFunction"), accessFlags := 25, slot := 0, constantValue := 0 }, { name := "AIOOBE_FORMATTER", type := (.object "java/util/function/BiFunction"), accessFlags := 25, slot := 1, constantValue := 0 }, { name := "IOOBE_FORMATTER", type := (.object "java/util/function/BiFunction"), accessFlags := 25, slot := 2, constantValue := 0 }]
  methods := #[k18m0]
  instanceTypes := #[]
  staticTypes := #[(.object "java/util/function/BiFunction"), (.object "java/util/function/BiFunction"), (.object "java/util/function/BiFunction")]
  resolved := Array.replicate 194 none
  statics := some 5 }

def pool19 : Array CpInfo := pool [(9, u "<init>"), (6, .class_ 18), (1, u "java/lang/Object"), (0, u "()V"), (1, .class_ 23), (1, u "jdk/internal/util/ArraysSupport"), (0, u "LOG2_ARRAY_LONG_INDEX_SCALE"), (0, u "I"), (2, u "U"), (0, u "Ljdk/internal/misc/Unsafe;"), (8, u "BIG_ENDIAN"), (0, u "Z"), (8, u "LOG2_BYTE_BIT_SIZE"), (4, u "LOG2_ARRAY_INT_INDEX_SCALE"), (54, u "JLA"), (0, u "Ljdk/internal/access/JavaLangAccess;"), (11, u "LOG2_ARRAY_BOOLEAN_INDEX_SCALE"), (9, u "LOG2_ARRAY_BYTE_INDEX_SCALE"), (5, u "LOG2_ARRAY_CHAR_INDEX_SCALE"), (5, u "LOG2_ARRAY_SHORT_INDEX_SCALE"), (18, u "LOG2_ARRAY_FLOAT_INDEX_SCALE"), (24, u "LOG2_ARRAY_DOUBLE_INDEX_SCALE"), (89, u "T_BOOLEAN"), (2, u "T_CHAR"), (1, u "T_FLOAT"), (1, u "T_DOUBLE"), (1, u "T_BYTE"), (1, u "T_SHORT"), (1, u "T_INT"), (1, u "T_LONG"), (1, u "SOFT_MAX_ARRAY_LENGTH")] 83

def k19m0 : Method := { name := "<init>", desc := "()V", sig := { parameters := [], returnType := none }, accessFlags := 2, code := none }
/-- jdk/internal/util/ArraysSupport -/
def k19 : Class := { plain "jdk/internal/util/ArraysSupport" (some 0) with
  accessFlags := 33
  interfaces := #[]
  cf := some (fileOf pool19 21 #[] #[{ accessFlags := 2, nameIndex := 9, descriptorIndex := 19, attributes := #[] }] 33 16 #[] #[{ accessFlags := 24, nameIndex := 28, descriptorIndex := 29, attributes := #[] }, { accessFlags := 26, nameIndex := 38, descriptorIndex := 39, attributes := #[] }, { accessFlags := 25, nameIndex := 121, descriptorIndex := 25, attributes := #[] }, { accessFlags := 25, nameIndex := 131, descriptorIndex := 25, attributes := #[] }, { accessFlags := 25, nameIndex := 137, descriptorIndex := 25, attributes := #[] }, { accessFlags := 25, nameIndex := 143, descriptorIndex := 25, attributes := #[] }, { accessFlags := 25, nameIndex := 53, descriptorIndex := 25, attributes := #[] }, { accessFlags := 25, nameIndex := 24, descriptorIndex := 25, attributes := #[] }, { accessFlags := 25, nameIndex := 162, descriptorIndex := 25, attributes := #[] }, { accessFlags := 25, nameIndex := 187, descriptorIndex := 25, attributes := #[] }, { accessFlags := 26, nameIndex := 48, descriptorIndex := 25, attributes := #[] }, { accessFlags := 25, nameIndex := 277, descriptorIndex := 25, attributes := #[] }, { accessFlags := 25, nameIndex := 280, descriptorIndex := 25, attributes := #[] }, { accessFlags := 25, nameIndex := 282, descriptorIndex := 25, attributes := #[] }, { accessFlags := 25, nameIndex := 284, descriptorIndex := 25, attributes := #[] }, { accessFlags := 25, nameIndex := 286, descriptorIndex := 25, attributes := #[] }, { accessFlags := 25, nameIndex := 288, descriptorIndex := 25, attributes := #[] }, { accessFlags := 25, nameIndex := 290, descriptorIndex := 25, attributes := #[] }, { accessFlags := 25, nameIndex := 292, descriptorIndex := 25, attributes := #[] }, { accessFlags := 26, nameIndex := 108, descriptorIndex := 109, attributes := #[] }, { accessFlags := 25, nameIndex := 294, descriptorIndex := 25, attributes := #[] }])
  fields := #[{ name := "U", type := (.object "jdk/internal/misc/Unsafe"), accessFlags := 24, slot := 0, constantValue := 0 }, { name := "BIG_ENDIAN", type := .boolean, accessFlags := 26, slot := 1, constantValue := 0 }, { name := "LOG2_ARRAY_BOOLEAN_INDEX_SCALE", type := .int, accessFlags := 25, slot := 2, constantValue := 0 }, { name := "LOG2_ARRAY_BYTE_INDEX_SCALE", type := .int, accessFlags := 25, slot := 3, constantValue := 0 }, { name := "LOG2_ARRAY_CHAR_INDEX_SCALE", type := .int, accessFlags := 25, slot := 4, constantValue := 0 }, { name := "LOG2_ARRAY_SHORT_INDEX_SCALE", type := .int, accessFlags := 25, slot := 5, constantValue := 0 }, { name := "LOG2_ARRAY_INT_INDEX_SCALE", type := .int, accessFlags := 25, slot := 6, constantValue := 0 }, { name := "LOG2_ARRAY_LONG_INDEX_SCALE", type := .int, accessFlags := 25, slot := 7, constantValue := 0 }, { name := "LOG2_ARRAY_FLOAT_INDEX_SCALE", type := .int, accessFlags := 25, slot := 8, constantValue := 0 }, { name := "LOG2_ARRAY_DOUBLE_INDEX_SCALE", type := .int, accessFlags := 25, slot := 9, constantValue := 0 }, { name := "LOG2_BYTE_BIT_SIZE", type := .int, accessFlags := 26, slot := 10, constantValue := 0 }, { name := "T_BOOLEAN", type := .int, accessFlags := 25, slot := 11, constantValue := 0 }, { name := "T_CHAR", type := .int, accessFlags := 25, slot := 12, constantValue := 0 }, { name := "T_FLOAT", type := .int, accessFlags := 25, slot := 13, constantValue := 0 }, { name := "T_DOUBLE", type := .int, accessFlags := 25, slot := 14, constantValue := 0 }, { name := "T_BYTE", type := .int, accessFlags := 25, slot := 15, constantValue := 0 }, { name := "T_SHORT", type := .int, accessFlags := 25, slot := 16, constantValue := 0 }, { name := "T_INT", type := .int, accessFlags := 25, slot := 17, constantValue := 0 }, { name := "T_LONG", type := .int, accessFlags := 25, slot := 18, constantValue := 0 }, { name := "JLA", type := (.object "jdk/internal/access/JavaLangAccess"), accessFlags := 26, slot := 19, constantValue := 0 }, { name := "SOFT_MAX_ARRAY_LENGTH", type := .int, accessFlags := 25, slot := 20, constantValue := 0 }]
  methods := #[k19m0]
  instanceTypes := #[]
  staticTypes := #[(.object "jdk/internal/misc/Unsafe"), .boolean, .int, .int, .int, .int, .int, .int, .int, .int, .int, .int, .int, .int, .int, .int, .int, .int, .int, (.object "jdk/internal/access/JavaLangAccess"), .int]
  resolved := Array.replicate 378 none
  statics := none }

def pool20 : Array CpInfo := pool [(8, .class_ 10), (1, u "java/lang/Iterable"), (24, .class_ 36), (0, u "java/lang/Object")] 25

/-- java/lang/Iterable -/
def k20 : Class := { plain "java/lang/Iterable" (some 0) with
  accessFlags := 1537
  interfaces := #[]
  cf := some (fileOf pool20 8 #[] #[] 1537 35 #[] #[])
  fields := #[]
  methods := #[]
  instanceTypes := #[]
  staticTypes := #[]
  resolved := Array.replicate 62 none
  statics := none }

def pool21 : Array CpInfo := pool [(10, .class_ 12), (1, u "java/util/Collection"), (47, .class_ 61), (0, u "java/lang/Object"), (0, .class_ 63), (0, u "java/lang/Iterable")] 51

/-- java/util/Collection -/
def k21 : Class := { plain "java/util/Collection" (some 0) with
  accessFlags := 1537
  interfaces := #[20]
  cf := some (fileOf pool21 10 #[] #[] 1537 60 #[62] #[])
  fields := #[]
  methods := #[]
  instanceTypes := #[]
  staticTypes := #[]
  resolved := Array.replicate 115 none
  statics := none }

def pool22 : Array CpInfo := pool [(2, .class_ 4), (1, u "java/lang/Object"), (0, u "<init>"), (0, u "()V"), (1, .class_ 10), (1, u "java/util/AbstractCollection"), (66, .class_ 78), (0, u "java/util/Collection")] 81

def k22m0 : Method := { name := "<init>", desc := "()V", sig := { parameters := [], returnType := none }, accessFlags := 4, code := none }
/-- java/util/AbstractCollection -/
def k22 : Class := { plain "java/util/AbstractCollection" (some 0) with
  accessFlags := 1057
  interfaces := #[21]
  cf := some (fileOf pool22 8 #[] #[{ accessFlags := 4, nameIndex := 5, descriptorIndex := 6, attributes := #[] }] 1057 2 #[77] #[])
  fields := #[]
  methods := #[k22m0]
  instanceTypes := #[]
  staticTypes := #[]
  resolved := Array.replicate 160 none
  statics := none }

def pool23 : Array CpInfo := pool [(8, .class_ 10), (1, u "java/util/SequencedCollection"), (15, .class_ 27), (0, u "java/lang/Object"), (0, .class_ 29), (0, u "java/util/Collection")] 27

/-- java/util/SequencedCollection -/
def k23 : Class := { plain "java/util/SequencedCollection" (some 0) with
  accessFlags := 1537
  interfaces := #[21]
  cf := some (fileOf pool23 8 #[] #[] 1537 26 #[28] #[])
  fields := #[]
  methods := #[]
  instanceTypes := #[]
  staticTypes := #[]
  resolved := Array.replicate 57 none
  statics := none }

def pool24 : Array CpInfo := pool [(8, .class_ 10), (1, u "java/util/List"), (92, .class_ 104), (0, u "java/lang/Object"), (15, .class_ 121), (0, u "java/util/SequencedCollection")] 129

/-- java/util/List -/
def k24 : Class := { plain "java/util/List" (some 0) with
  accessFlags := 1537
  interfaces := #[23]
  cf := some (fileOf pool24 8 #[] #[] 1537 103 #[120] #[])
  fields := #[]
  methods := #[]
  instanceTypes := #[]
  staticTypes := #[]
  resolved := Array.replicate 251 none
  statics := none }

def pool25 : Array CpInfo := pool [(2, .class_ 4), (1, u "java/util/AbstractCollection"), (0, u "<init>"), (0, u "()V"), (1, .class_ 10), (1, u "java/util/AbstractList"), (0, u "modCount"), (0, u "I"), (64, .class_ 78), (0, u "java/util/AbstractList$Itr"), (3, .class_ 83), (0, u "java/util/AbstractList$ListItr"), (9, .class_ 94), (0, u "java/util/AbstractList$RandomAccessSubList"), (3, .class_ 99), (0, u "java/util/AbstractList$SubList"), (33, .class_ 134), (0, u "java/util/List"), (73, .class_ 209), (0, u "java/util/AbstractList$SubList$1"), (0, .class_ 211), (0, u "java/util/AbstractList$RandomAccessSpliterator")] 6

def k25m0 : Method := { name := "<init>", desc := "()V", sig := { parameters := [], returnType := none }, accessFlags := 4, code := none }
/-- java/util/AbstractList -/
def k25 : Class := { plain "java/util/AbstractList" (some 22) with
  accessFlags := 1057
  interfaces := #[24]
  cf := some (fileOf pool25 8 #[.nestMembers #[93, 98, 208, 210, 82, 77]] #[{ accessFlags := 4, nameIndex := 5, descriptorIndex := 6, attributes := #[] }] 1057 2 #[133] #[{ accessFlags := 132, nameIndex := 11, descriptorIndex := 12, attributes := #[] }])
  fields := #[{ name := "modCount", type := .int, accessFlags := 132, slot := 0, constantValue := 0 }]
  methods := #[k25m0]
  instanceTypes := #[.int]
  staticTypes := #[]
  resolved := Array.replicate 218 none
  statics := none }

def pool26 : Array CpInfo := pool [(1, .class_ 2), (0, u "java/util/RandomAccess"), (0, .class_ 4), (0, u "java/lang/Object")] 2

/-- java/util/RandomAccess -/
def k26 : Class := { plain "java/util/RandomAccess" (some 0) with
  accessFlags := 1537
  interfaces := #[]
  cf := some (fileOf pool26 1 #[] #[] 1537 3 #[] #[])
  fields := #[]
  methods := #[]
  instanceTypes := #[]
  staticTypes := #[]
  resolved := Array.replicate 7 none
  statics := none }

def pool27 : Array CpInfo := pool [(2, .class_ 4), (1, u "java/util/AbstractList"), (0, u "<init>"), (0, u "()V"), (1, .class_ 10), (1, u "java/util/Collections"), (54, .class_ 66), (0, u "java/util/Collections$EmptyList"), (0, .class_ 68), (0, u "java/util/RandomAccess"), (0, .class_ 70), (0, u "java/io/Serializable"), (0, u "serialVersionUID"), (0, u "J")] 77

def k27m0 : Method := { name := "<init>", desc := "()V", sig := { parameters := [], returnType := none }, accessFlags := 2, code := none }
/-- java/util/Collections$EmptyList -/
def k27 : Class := { plain "java/util/Collections$EmptyList" (some 25) with
  accessFlags := 32
  interfaces := #[26, 2]
  cf := some (fileOf pool27 65 #[.nestHost 8] #[{ accessFlags := 2, nameIndex := 5, descriptorIndex := 6, attributes := #[] }] 32 2 #[67, 69] #[{ accessFlags := 26, nameIndex := 71, descriptorIndex := 72, attributes := #[] }])
  fields := #[{ name := "serialVersionUID", type := .long, accessFlags := 26, slot := 0, constantValue := 0 }]
  methods := #[k27m0]
  instanceTypes := #[.int]
  staticTypes := #[.long]
  resolved := Array.replicate 150 none
  statics := none }

def pool28 : Array CpInfo := pool [(2, .class_ 4), (1, u "java/lang/StackTraceElement"), (0, u "<init>"), (2, .class_ 10), (1, u "java/lang/Object"), (0, u "()V"), (2, u "format"), (0, u "B"), (2, u "classLoaderName"), (0, u "Ljava/lang/String;"), (2, u "moduleName"), (2, u "moduleVersion"), (12, u "declaringClass"), (4, u "methodName"), (2, u "fileName"), (2, u "lineNumber"), (0, u "I"), (65, u "declaringClassObject"), (0, u "Ljava/lang/Class;"), (33, .class_ 153), (1, u "java/lang/StackTraceElement$HashedModules"), (17, .class_ 172), (0, u "java/io/Serializable"), (0, u "NATIVE_METHOD"), (1, u "UNKNOWN_SOURCE"), (2, u "BUILTIN_CLASS_LOADER"), (1, u "JDK_NON_UPGRADEABLE_MODULE"), (1, u "serialVersionUID"), (0, u "J")] 51

def k28m0 : Method := { name := "<init>", desc := "()V", sig := { parameters := [], returnType := none }, accessFlags := 2, code := none }
/-- java/lang/StackTraceElement -/
def k28 : Class := { plain "java/lang/StackTraceElement" (some 0) with
  accessFlags := 49
  interfaces := #[2]
  cf := some (fileOf pool28 2 #[.nestMembers #[151]] #[{ accessFlags := 2, nameIndex := 5, descriptorIndex := 11, attributes := #[] }] 49 8 #[171] #[{ accessFlags := 26, nameIndex := 173, descriptorIndex := 19, attributes := #[] }, { accessFlags := 26, nameIndex := 175, descriptorIndex := 19, attributes := #[] }, { accessFlags := 130, nameIndex := 116, descriptorIndex := 117, attributes := #[] }, { accessFlags := 2, nameIndex := 18, descriptorIndex := 19, attributes := #[] }, { accessFlags := 2, nameIndex := 22, descriptorIndex := 19, attributes := #[] }, { accessFlags := 2, nameIndex := 25, descriptorIndex := 19, attributes := #[] }, { accessFlags := 2, nameIndex := 38, descriptorIndex := 19, attributes := #[] }, { accessFlags := 2, nameIndex := 43, descriptorIndex := 19, attributes := #[] }, { accessFlags := 2, nameIndex := 46, descriptorIndex := 19, attributes := #[] }, { accessFlags := 2, nameIndex := 49, descriptorIndex := 50, attributes := #[] }, { accessFlags := 2, nameIndex := 14, descriptorIndex := 15, attributes := #[] }, { accessFlags := 26, nameIndex := 178, descriptorIndex := 15, attributes := #[] }, { accessFlags := 26, nameIndex := 180, descriptorIndex := 15, attributes := #[] }, { accessFlags := 26, nameIndex := 182, descriptorIndex := 183, attributes := #[] }])
  fields := #[{ name := "NATIVE_METHOD", type := (.object "java/lang/String"), accessFlags := 26, slot := 0, constantValue := 0 }, { name := "UNKNOWN_SOURCE", type := (.object "java/lang/String"), accessFlags := 26, slot := 1, constantValue := 0 }, { name := "declaringClassObject", type := (.object "java/lang/Class"), accessFlags := 130, slot := 0, constantValue := 0 }, { name := "classLoaderName", type := (.object "java/lang/String"), accessFlags := 2, slot := 1, constantValue := 0 }, { name := "moduleName", type := (.object "java/lang/String"), accessFlags := 2, slot := 2, constantValue := 0 }, { name := "moduleVersion", type := (.object "java/lang/String"), accessFlags := 2, slot := 3, constantValue := 0 }, { name := "declaringClass", type := (.object "java/lang/String"), accessFlags := 2, slot := 4, constantValue := 0 }, { name := "methodName", type := (.object "java/lang/String"), accessFlags := 2, slot := 5, constantValue := 0 }, { name := "fileName", type := (.object "java/lang/String"), accessFlags := 2, slot := 6, constantValue := 0 }, { name := "lineNumber", type := .int, accessFlags := 2, slot := 7, constantValue := 0 }, { name := "format", type := .byte, accessFlags := 2, slot := 8, constantValue := 0 }, { name := "BUILTIN_CLASS_LOADER", type := .byte, accessFlags := 26, slot := 2, constantValue := 0 }, { name := "JDK_NON_UPGRADEABLE_MODULE", type := .byte, accessFlags := 26, slot := 3, constantValue := 0 }, { name := "serialVersionUID", type := .long, accessFlags := 26, slot := 4, constantValue := 0 }]
  methods := #[k28m0]
  instanceTypes := #[(.object "java/lang/Class"), (.object "java/lang/String"), (.object "java/lang/String"), (.object "java/lang/String"), (.object "java/lang/String"), (.object "java/lang/String"), (.object "java/lang/String"), .int, .byte]
  staticTypes := #[(.object "java/lang/String"), (.object "java/lang/String"), .byte, .byte, .long]
  resolved := Array.replicate 235 none
  statics := none }

def pool29 : Array CpInfo := pool [(1, u "java/lang/Cloneable"), (0, .class_ 1), (0, u "java/lang/Object"), (0, .class_ 3)] 3

/-- java/lang/Cloneable -/
def k29 : Class := { plain "java/lang/Cloneable" (some 0) with
  accessFlags := 1537
  interfaces := #[]
  cf := some (fileOf pool29 2 #[] #[] 1537 4 #[] #[])
  fields := #[]
  methods := #[]
  instanceTypes := #[]
  staticTypes := #[]
  resolved := Array.replicate 8 none
  statics := none }

/-- the primitive byte -/
def k30 : Class := { plain "byte" none with kind := .primitive 'B', accessFlags := 0x411 }
/-- [B -/
def k31 : Class := { plain "[B" (some 0) with kind := .array 30 .byte, interfaces := #[29, 2], accessFlags := 1041 }

/-- the primitive char -/
def k32 : Class := { plain "char" none with kind := .primitive 'C', accessFlags := 0x411 }
/-- [C -/
def k33 : Class := { plain "[C" (some 0) with kind := .array 32 .char, interfaces := #[29, 2], accessFlags := 1041 }

/-- the primitive int -/
def k34 : Class := { plain "int" none with kind := .primitive 'I', accessFlags := 0x411 }
/-- [I -/
def k35 : Class := { plain "[I" (some 0) with kind := .array 34 .int, interfaces := #[29, 2], accessFlags := 1041 }

/-- [Ljava/lang/StackTraceElement; -/
def k36 : Class := { plain "[Ljava/lang/StackTraceElement;" (some 0) with kind := .array 28 (.object "java/lang/StackTraceElement"), interfaces := #[29, 2], accessFlags := 1041 }

/-- [Ljava/lang/Throwable; -/
def k37 : Class := { plain "[Ljava/lang/Throwable;" (some 0) with kind := .array 8 (.object "java/lang/Throwable"), interfaces := #[29, 2], accessFlags := 1041 }

def heap : Heap := #[{ cls := 7, slots := #[.long 0, .int 1, .null, .int 0, .null, .int 0, .int 0], vm := .statics 7 },
  { cls := 8, slots := #[.long 0, .ref 8, .ref 9, .null, .null, .null, .null, .ref 10, .int 1], vm := .statics 8 },
  { cls := 13, slots := #[.null, .null, .ref 6, .null], vm := .statics 13 },
  { cls := 14, slots := #[.ref 7], vm := .statics 14 },
  { cls := 16, slots := #[.int 0, .int 0, .int 0, .int 0, .int 0, .int 0, .int 0, .int 0, .null, .null, .ref 9, .null], vm := .statics 16 },
  { cls := 18, slots := #[.null, .null, .null], vm := .statics 18 },
  { cls := 13, slots := #[.null, .int 0, .int 0], vm := .none },
  { cls := 14, slots := #[.int 0, .int 0], vm := .none },
  { cls := 36, slots := #[], vm := .none },
  { cls := 27, slots := #[.int 0], vm := .none },
  { cls := 37, slots := #[], vm := .none }]
def classes : Array Class := #[k0, k1, k2, k3, k4, k5, k6, k7, k8, k9, k10, k11, k12, k13, k14, k15, k16, k17, k18, k19, k20, k21, k22, k23, k24, k25, k26, k27, k28, k29, k30, k31, k32, k33, k34, k35, k36, k37]
def interned : List (Array UInt16 × Addr) := []
def slotsUsed : Nat := 42
def theMethod : MethodId := ⟨1, 1⟩
def args0 : Array Value := #[.int 2, .int 65, .int 66, .int 67]
def aboutOver (below : List Frame) : State where
  vm := { classes := classes, interned := interned.toArray }
  heap := heap
  slotsUsed := slotsUsed
  threads := #[{ frames := .invoking theMethod args0 :: below }]
def below0 : List Frame := [.native { method := ⟨0, 0⟩, args := #[] }]
def about1 : State := aboutOver below0
def p0 : Program := .bare "" "" ""
def e0 : Env := launch0.env 0 0 0
theorem w_frames : about1.frames = Frame.invoking theMethod args0 :: below0 := rfl
set_option maxRecDepth 65536 in
theorem w_args : argsFit about1.vm theMethod args0 = true := by decide +kernel
set_option maxRecDepth 65536 in
theorem w_heap : heapFits about1 = true := by decide +kernel
set_option maxRecDepth 65536 in
theorem w_runnable : about1.curStatus? = some .runnable := by decide +kernel
set_option maxRecDepth 65536 in
theorem w_alone : about1.alone = true := by decide +kernel
set_option maxRecDepth 65536 in
theorem w_named : about1.methodNamed? x = some theMethod := by decide +kernel
set_option maxRecDepth 65536 in
theorem w_hears : about1.hears theMethod below0 = true := by decide +kernel
set_option maxRecDepth 65536 in
theorem w_ripe : about1.ripe theMethod args0 below0 = true := by decide +kernel
theorem w_running : about1.status = .running := rfl
set_option maxRecDepth 65536 in
theorem w_room : about1.hasRoom e0.platform room_1 = true :=
  launch0.hasRoom_least _ room_1 (by decide +kernel) (by decide +kernel) (by decide +kernel) (by decide +kernel) (by decide +kernel) (by decide +kernel)
theorem allAtoms_all (ts : List Jvm.Cond) (a : Array Jvm.Value) (st : Jvm.State) : (allAtoms ts).before a st = ts.all (fun c => c.before a st) := by
  induction ts with
  | nil => rfl
  | cons c t ih =>
    show (Jvm.Cond.and c (allAtoms t)).before a st = _
    rw [Jvm.Cond.before_and, ih, List.all_cons]
def words1 : List Jvm.Cond := Jvm.Cond.code x code maxLocals ret :: tables_1
/-- a 'code' word, met by the world's own term for the bytes: nothing is compared byte by byte -/
theorem code_word {y : MethodName} {bytes : ByteArray} {mx : Nat} {rt : Option FieldType} {a : Array Value} {s : State} {m : MethodId} {meth : Method} {c : Code} (h1 : s.methodNamed? y = some m) (h2 : s.vm.method? m = some meth) (h3 : meth.code = some c) (h4 : c.code = bytes)
    (h5 : (c.maxLocals == mx && c.exceptionTable.isEmpty && decide (c.maxStack ≤ mostOperands) && decide (meth.sig.returnType = rt) && !meth.locks && decide (parseMethodDescriptor y.desc = some meth.sig)) = true) : (Jvm.Cond.code y bytes mx rt).before a s = true := by
  simp only [Bool.and_eq_true, beq_iff_eq, Bool.not_eq_true', decide_eq_true_eq] at h5
  obtain ⟨⟨⟨⟨⟨g1, g2⟩, g3⟩, g4⟩, g5⟩, g6⟩ := h5
  simp [Cond.before, Cond.holds, Cond.value, h1, h2, h3, h4, g1, g2, g3, g4, g5, g6]
def isCode : Jvm.Cond → Bool
  | .code _ _ _ _ => true
  | _ => false
theorem all_split {L : List Jvm.Cond} {P : Jvm.Cond → Bool} (h1 : L.all (fun c => isCode c || P c) = true) (h2 : ∀ c ∈ L.filter isCode, P c = true) : L.all P = true := by
  refine List.all_eq_true.mpr fun c hc => ?_
  have h := List.all_eq_true.mp h1 c hc
  rcases Bool.eq_false_or_eq_true (isCode c) with hi | hi
  · exact h2 c (List.mem_filter.mpr ⟨hc, hi⟩)
  · simpa [hi] using h
set_option maxRecDepth 65536 in
theorem w_c0 : (Jvm.Cond.code x code maxLocals ret).before args0 about1 = true := code_word (m := ⟨1, 1⟩) (meth := k1m1) (c := k1c1) (by decide +kernel) rfl rfl rfl (by decide +kernel)
set_option maxRecDepth 65536 in
theorem w_c1 : (Jvm.Cond.code ({ cls := "java/lang/String", name := "<init>", desc := "([C)V" } : Jvm.MethodName) jdk_42_method_3_code (2 : Nat) (Option.none : Option Jvm.ClassFile.FieldType)).before args0 about1 = true := code_word (m := ⟨7, 1⟩) (meth := k7m1) (c := k7c1) (by decide +kernel) rfl rfl rfl (by decide +kernel)
set_option maxRecDepth 65536 in
theorem w_c2 : (Jvm.Cond.code ({ cls := "java/lang/String", name := "<init>", desc := "([CIILjava/lang/Void;)V" } : Jvm.MethodName) jdk_42_method_149_code (6 : Nat) (Option.none : Option Jvm.ClassFile.FieldType)).before args0 about1 = true := code_word (m := ⟨7, 3⟩) (meth := k7m3) (c := k7c3) (by decide +kernel) rfl rfl rfl (by decide +kernel)
set_option maxRecDepth 65536 in
theorem w_c3 : (Jvm.Cond.code ({ cls := "java/lang/Object", name := "<init>", desc := "()V" } : Jvm.MethodName) object_method_1_code (1 : Nat) (Option.none : Option Jvm.ClassFile.FieldType)).before args0 about1 = true := code_word (m := ⟨0, 0⟩) (meth := k0m0) (c := k0c0) (by decide +kernel) rfl rfl rfl (by decide +kernel)
set_option maxRecDepth 65536 in
theorem w_c4 : (Jvm.Cond.code ({ cls := "com/example/metaloom/metaloom/store/Rejection", name := "conflict", desc := "(Ljava/lang/String;)Lcom/example/metaloom/metaloom/store/Rejection;" } : Jvm.MethodName) prog_21_method_6_code (1 : Nat) (Option.some (Jvm.ClassFile.FieldType.object "com/example/metaloom/metaloom/store/Rejection"))).before args0 about1 = true := code_word (m := ⟨11, 2⟩) (meth := k11m2) (c := k11c2) (by decide +kernel) rfl rfl rfl (by decide +kernel)
set_option maxRecDepth 65536 in
theorem w_c5 : (Jvm.Cond.code ({ cls := "com/example/metaloom/metaloom/store/Rejection", name := "<init>", desc := "(Lcom/example/metaloom/metaloom/store/Rejection$Reason;Ljava/lang/String;)V" } : Jvm.MethodName) prog_21_method_2_code (3 : Nat) (Option.none : Option Jvm.ClassFile.FieldType)).before args0 about1 = true := code_word (m := ⟨11, 1⟩) (meth := k11m1) (c := k11c1) (by decide +kernel) rfl rfl rfl (by decide +kernel)
set_option maxRecDepth 65536 in
theorem w_c6 : (Jvm.Cond.code ({ cls := "java/util/OptionalInt", name := "empty", desc := "()Ljava/util/OptionalInt;" } : Jvm.MethodName) jdk_2649_method_2_code (0 : Nat) (Option.some (Jvm.ClassFile.FieldType.object "java/util/OptionalInt"))).before args0 about1 = true := code_word (m := ⟨14, 1⟩) (meth := k14m1) (c := k14c1) (by decide +kernel) rfl rfl rfl (by decide +kernel)
set_option maxRecDepth 65536 in
theorem w_c7 : (Jvm.Cond.code ({ cls := "com/example/metaloom/metaloom/store/Rejection", name := "<init>", desc := "(Lcom/example/metaloom/metaloom/store/Rejection$Reason;Ljava/lang/String;Ljava/util/OptionalInt;)V" } : Jvm.MethodName) prog_21_method_1_code (4 : Nat) (Option.none : Option Jvm.ClassFile.FieldType)).before args0 about1 = true := code_word (m := ⟨11, 0⟩) (meth := k11m0) (c := k11c0) (by decide +kernel) rfl rfl rfl (by decide +kernel)
set_option maxRecDepth 65536 in
theorem w_c8 : (Jvm.Cond.code ({ cls := "java/lang/RuntimeException", name := "<init>", desc := "(Ljava/lang/String;Ljava/lang/Throwable;ZZ)V" } : Jvm.MethodName) jdk_58_method_5_code (5 : Nat) (Option.none : Option Jvm.ClassFile.FieldType)).before args0 about1 = true := code_word (m := ⟨10, 1⟩) (meth := k10m1) (c := k10c1) (by decide +kernel) rfl rfl rfl (by decide +kernel)
set_option maxRecDepth 65536 in
theorem w_c9 : (Jvm.Cond.code ({ cls := "java/lang/Exception", name := "<init>", desc := "(Ljava/lang/String;Ljava/lang/Throwable;ZZ)V" } : Jvm.MethodName) jdk_59_method_5_code (5 : Nat) (Option.none : Option Jvm.ClassFile.FieldType)).before args0 about1 = true := code_word (m := ⟨9, 1⟩) (meth := k9m1) (c := k9c1) (by decide +kernel) rfl rfl rfl (by decide +kernel)
set_option maxRecDepth 65536 in
theorem w_c10 : (Jvm.Cond.code ({ cls := "java/lang/Throwable", name := "<init>", desc := "(Ljava/lang/String;Ljava/lang/Throwable;ZZ)V" } : Jvm.MethodName) jdk_78_method_5_code (5 : Nat) (Option.none : Option Jvm.ClassFile.FieldType)).before args0 about1 = true := code_word (m := ⟨8, 1⟩) (meth := k8m1) (c := k8c1) (by decide +kernel) rfl rfl rfl (by decide +kernel)
set_option maxRecDepth 65536 in
theorem w_c11 : (Jvm.Cond.code ({ cls := "com/example/metaloom/metaloom/store/Rejection", name := "reason", desc := "()Lcom/example/metaloom/metaloom/store/Rejection$Reason;" } : Jvm.MethodName) prog_21_method_7_code (1 : Nat) (Option.some (Jvm.ClassFile.FieldType.object "com/example/metaloom/metaloom/store/Rejection$Reason"))).before args0 about1 = true := code_word (m := ⟨11, 3⟩) (meth := k11m3) (c := k11c3) (by decide +kernel) rfl rfl rfl (by decide +kernel)
set_option maxRecDepth 65536 in
theorem w_c12 : (Jvm.Cond.code ({ cls := "java/lang/Throwable", name := "getMessage", desc := "()Ljava/lang/String;" } : Jvm.MethodName) jdk_78_method_6_code (1 : Nat) (Option.some (Jvm.ClassFile.FieldType.object "java/lang/String"))).before args0 about1 = true := code_word (m := ⟨8, 2⟩) (meth := k8m2) (c := k8c2) (by decide +kernel) rfl rfl rfl (by decide +kernel)
set_option maxRecDepth 65536 in
theorem w_c13 : (Jvm.Cond.code ({ cls := "java/lang/String", name := "equals", desc := "(Ljava/lang/Object;)Z" } : Jvm.MethodName) jdk_42_method_66_code (3 : Nat) (Option.some Jvm.ClassFile.FieldType.boolean)).before args0 about1 = true := code_word (m := ⟨7, 2⟩) (meth := k7m2) (c := k7c2) (by decide +kernel) rfl rfl rfl (by decide +kernel)
set_option maxRecDepth 65536 in
theorem w_c14 : (Jvm.Cond.code ({ cls := "com/example/metaloom/metaloom/store/Rejection", name := "position", desc := "()Ljava/util/OptionalInt;" } : Jvm.MethodName) prog_21_method_8_code (1 : Nat) (Option.some (Jvm.ClassFile.FieldType.object "java/util/OptionalInt"))).before args0 about1 = true := code_word (m := ⟨11, 4⟩) (meth := k11m4) (c := k11c4) (by decide +kernel) rfl rfl rfl (by decide +kernel)
set_option maxRecDepth 65536 in
theorem w_c15 : (Jvm.Cond.code ({ cls := "java/util/OptionalInt", name := "isPresent", desc := "()Z" } : Jvm.MethodName) jdk_2649_method_6_code (1 : Nat) (Option.some Jvm.ClassFile.FieldType.boolean)).before args0 about1 = true := code_word (m := ⟨14, 2⟩) (meth := k14m2) (c := k14c2) (by decide +kernel) rfl rfl rfl (by decide +kernel)
set_option maxRecDepth 65536 in
theorem w_c16 : (Jvm.Cond.code ({ cls := "java/lang/StringUTF16", name := "compress", desc := "([CII)[B" } : Jvm.MethodName) jdk_52_method_16_code (6 : Nat) (Option.some (Jvm.ClassFile.FieldType.array Jvm.ClassFile.FieldType.byte))).before args0 about1 = true := code_word (m := ⟨15, 2⟩) (meth := k15m2) (c := k15c2) (by decide +kernel) rfl rfl rfl (by decide +kernel)
set_option maxRecDepth 65536 in
theorem w_c17 : (Jvm.Cond.code ({ cls := "java/lang/StringUTF16", name := "compress", desc := "([CI[BII)I" } : Jvm.MethodName) jdk_52_method_21_code (7 : Nat) (Option.some Jvm.ClassFile.FieldType.int)).before args0 about1 = true := code_word (m := ⟨15, 3⟩) (meth := k15m3) (c := k15c3) (by decide +kernel) rfl rfl rfl (by decide +kernel)
set_option maxRecDepth 65536 in
theorem w_c18 : (Jvm.Cond.code ({ cls := "java/lang/StringUTF16", name := "coderFromArrayLen", desc := "([BI)B" } : Jvm.MethodName) jdk_52_method_15_code (2 : Nat) (Option.some Jvm.ClassFile.FieldType.byte)).before args0 about1 = true := code_word (m := ⟨15, 1⟩) (meth := k15m1) (c := k15c1) (by decide +kernel) rfl rfl rfl (by decide +kernel)
def codes1 : List Jvm.Cond := [Jvm.Cond.code x code maxLocals ret, Jvm.Cond.code ({ cls := "java/lang/String", name := "<init>", desc := "([C)V" } : Jvm.MethodName) jdk_42_method_3_code (2 : Nat) (Option.none : Option Jvm.ClassFile.FieldType), Jvm.Cond.code ({ cls := "java/lang/String", name := "<init>", desc := "([CIILjava/lang/Void;)V" } : Jvm.MethodName) jdk_42_method_149_code (6 : Nat) (Option.none : Option Jvm.ClassFile.FieldType), Jvm.Cond.code ({ cls := "java/lang/Object", name := "<init>", desc := "()V" } : Jvm.MethodName) object_method_1_code (1 : Nat) (Option.none : Option Jvm.ClassFile.FieldType), Jvm.Cond.code ({ cls := "com/example/metaloom/metaloom/store/Rejection", name := "conflict", desc := "(Ljava/lang/String;)Lcom/example/metaloom/metaloom/store/Rejection;" } : Jvm.MethodName) prog_21_method_6_code (1 : Nat) (Option.some (Jvm.ClassFile.FieldType.object "com/example/metaloom/metaloom/store/Rejection")), Jvm.Cond.code ({ cls := "com/example/metaloom/metaloom/store/Rejection", name := "<init>", desc := "(Lcom/example/metaloom/metaloom/store/Rejection$Reason;Ljava/lang/String;)V" } : Jvm.MethodName) prog_21_method_2_code (3 : Nat) (Option.none : Option Jvm.ClassFile.FieldType), Jvm.Cond.code ({ cls := "java/util/OptionalInt", name := "empty", desc := "()Ljava/util/OptionalInt;" } : Jvm.MethodName) jdk_2649_method_2_code (0 : Nat) (Option.some (Jvm.ClassFile.FieldType.object "java/util/OptionalInt")), Jvm.Cond.code ({ cls := "com/example/metaloom/metaloom/store/Rejection", name := "<init>", desc := "(Lcom/example/metaloom/metaloom/store/Rejection$Reason;Ljava/lang/String;Ljava/util/OptionalInt;)V" } : Jvm.MethodName) prog_21_method_1_code (4 : Nat) (Option.none : Option Jvm.ClassFile.FieldType), Jvm.Cond.code ({ cls := "java/lang/RuntimeException", name := "<init>", desc := "(Ljava/lang/String;Ljava/lang/Throwable;ZZ)V" } : Jvm.MethodName) jdk_58_method_5_code (5 : Nat) (Option.none : Option Jvm.ClassFile.FieldType), Jvm.Cond.code ({ cls := "java/lang/Exception", name := "<init>", desc := "(Ljava/lang/String;Ljava/lang/Throwable;ZZ)V" } : Jvm.MethodName) jdk_59_method_5_code (5 : Nat) (Option.none : Option Jvm.ClassFile.FieldType), Jvm.Cond.code ({ cls := "java/lang/Throwable", name := "<init>", desc := "(Ljava/lang/String;Ljava/lang/Throwable;ZZ)V" } : Jvm.MethodName) jdk_78_method_5_code (5 : Nat) (Option.none : Option Jvm.ClassFile.FieldType), Jvm.Cond.code ({ cls := "com/example/metaloom/metaloom/store/Rejection", name := "reason", desc := "()Lcom/example/metaloom/metaloom/store/Rejection$Reason;" } : Jvm.MethodName) prog_21_method_7_code (1 : Nat) (Option.some (Jvm.ClassFile.FieldType.object "com/example/metaloom/metaloom/store/Rejection$Reason")), Jvm.Cond.code ({ cls := "java/lang/Throwable", name := "getMessage", desc := "()Ljava/lang/String;" } : Jvm.MethodName) jdk_78_method_6_code (1 : Nat) (Option.some (Jvm.ClassFile.FieldType.object "java/lang/String")), Jvm.Cond.code ({ cls := "java/lang/String", name := "equals", desc := "(Ljava/lang/Object;)Z" } : Jvm.MethodName) jdk_42_method_66_code (3 : Nat) (Option.some Jvm.ClassFile.FieldType.boolean), Jvm.Cond.code ({ cls := "com/example/metaloom/metaloom/store/Rejection", name := "position", desc := "()Ljava/util/OptionalInt;" } : Jvm.MethodName) prog_21_method_8_code (1 : Nat) (Option.some (Jvm.ClassFile.FieldType.object "java/util/OptionalInt")), Jvm.Cond.code ({ cls := "java/util/OptionalInt", name := "isPresent", desc := "()Z" } : Jvm.MethodName) jdk_2649_method_6_code (1 : Nat) (Option.some Jvm.ClassFile.FieldType.boolean), Jvm.Cond.code ({ cls := "java/lang/StringUTF16", name := "compress", desc := "([CII)[B" } : Jvm.MethodName) jdk_52_method_16_code (6 : Nat) (Option.some (Jvm.ClassFile.FieldType.array Jvm.ClassFile.FieldType.byte)), Jvm.Cond.code ({ cls := "java/lang/StringUTF16", name := "compress", desc := "([CI[BII)I" } : Jvm.MethodName) jdk_52_method_21_code (7 : Nat) (Option.some Jvm.ClassFile.FieldType.int), Jvm.Cond.code ({ cls := "java/lang/StringUTF16", name := "coderFromArrayLen", desc := "([BI)B" } : Jvm.MethodName) jdk_52_method_15_code (2 : Nat) (Option.some Jvm.ClassFile.FieldType.byte)]
set_option maxRecDepth 65536 in
theorem codes_eq : words1.filter isCode = codes1 := rfl
theorem w_codes : ∀ c ∈ words1.filter isCode, c.before args0 about1 = true := by
  rw [codes_eq]
  intro c hc
  simp only [codes1, List.mem_cons, List.not_mem_nil, or_false] at hc
  rcases hc with rfl | rfl | rfl | rfl | rfl | rfl | rfl | rfl | rfl | rfl | rfl | rfl | rfl | rfl | rfl | rfl | rfl | rfl | rfl
  · exact w_c0
  · exact w_c1
  · exact w_c2
  · exact w_c3
  · exact w_c4
  · exact w_c5
  · exact w_c6
  · exact w_c7
  · exact w_c8
  · exact w_c9
  · exact w_c10
  · exact w_c11
  · exact w_c12
  · exact w_c13
  · exact w_c14
  · exact w_c15
  · exact w_c16
  · exact w_c17
  · exact w_c18
set_option maxRecDepth 65536 in
theorem w_t1 : (words1.take 24).all (fun c => isCode c || c.before args0 about1) = true := by decide +kernel
set_option maxRecDepth 65536 in
theorem w_t2 : ((words1.drop 24).take 24).all (fun c => isCode c || c.before args0 about1) = true := by decide +kernel
set_option maxRecDepth 65536 in
theorem w_t3 : (((words1.drop 24).drop 24).take 24).all (fun c => isCode c || c.before args0 about1) = true := by decide +kernel
set_option maxRecDepth 65536 in
theorem w_t4 : ((((words1.drop 24).drop 24).drop 24).take 24).all (fun c => isCode c || c.before args0 about1) = true := by decide +kernel
set_option maxRecDepth 65536 in
theorem w_t5 : ((((words1.drop 24).drop 24).drop 24).drop 24).all (fun c => isCode c || c.before args0 about1) = true := by decide +kernel
theorem w_tables : (allAtoms (Jvm.Cond.code x code maxLocals ret :: tables_1)).before args0 about1 = true := by
  rw [allAtoms_all]
  show words1.all (fun c => c.before args0 about1) = true
  refine all_split ?_ w_codes
  rw [← List.take_append_drop 24 words1, List.all_append, w_t1, ← List.take_append_drop 24 (words1.drop 24), List.all_append, w_t2, ← List.take_append_drop 24 ((words1.drop 24).drop 24), List.all_append, w_t3, ← List.take_append_drop 24 (((words1.drop 24).drop 24).drop 24), List.all_append, w_t4, w_t5]
  rfl
set_option maxRecDepth 65536 in
theorem w_rest : rest_1_c.before args0 about1 = true := by decide +kernel
set_option maxRecDepth 65536 in
theorem w_case : (Jvm.Cond.and given_1 narrow_1).before args0 about1 = true := by decide +kernel
set_option maxRecDepth 65536 in
theorem w_consts : constsHeld consts_1 about1 := Jvm.Lit.constsHeldB_iff.mp (by decide +kernel)
theorem w_applies : (headSpec (Jvm.Cond.code x code maxLocals ret :: tables_1) room_1).applies x e0.platform about1 = true :=
  (Spec.applies_iff w_frames).mpr ⟨w_running, w_runnable, w_alone, w_named, w_hears, w_ripe, w_room, w_tables⟩
theorem atStart : AtStart classFile x code maxLocals ret World_1 tables_1 room_1 Calls_1 rest_1 Pre_1 launch0 p0 e0 about1 theMethod args0 below0 :=
  ⟨lists_1, trivial, launch0.admits_env _ _ _, launch0.least_env, fairChoices_fair.cas, fairChoices_fair.clock, w_frames, w_args, w_heap, w_applies, ⟨w_consts, trivial⟩, w_rest, w_case⟩
end start1
theorem witness_1 : WitnessClaimed_1 := ⟨start1.p0, start1.e0, start1.about1, start1.theMethod, start1.args0, start1.below0, start1.atStart⟩
end Jvm.Pilot.@@N@@
