import JvmDerived
import JvmDerived.Pilot.@@N@@Statement
import JvmDerived.Pilot.@@N@@Code
set_option linter.unusedVariables false
set_option linter.unusedSimpArgs false
@@BLOCK:NumsL.lean.txt@@
namespace Jvm.RoadKit
open Sem ClassFile Op Lib Jvm.Stand Jvm.Free Jvm.LawKit
section New
variable {p : Program} {l : Launch} {e : Env} {R : Room} {s : State} {m : MethodId} {args : Array Value} {below : List Frame} {meth : Method} {c : Code} {T : State} {locs : List Loc} {cells slots : Nat}
theorem retI (X : Stand p l e R s m args below meth c T locs cells slots) (hx : p.tables.exec = Jvm.exec) {pc : Nat} {Ls : Array Slot} {z : Int32} {rest : List Value} (hret : meth.sig.returnType = some .int) (hd : decode c.code pc = .ok (.ireturn, 1)) {fs : List Frame}
    (hl : ∀ (f : JFrame) (acts : List Action), f.method = m → f.locked = none → f.entered = [] → (doReturn e (T.setTop f) acts (some (.int z))).1 = T.setFrames fs) : Steps p.tables e below (T.setTop (mkF m pc Ls (.int z :: rest))) (T.setFrames fs) := by
  have hm' : T.vm.method? m = some meth := X.method'
  have hn : narrow .int (.int z) = .int z := rfl
  show Steps p.tables e below (T.setTop { method := m, pc := pc, locals := Ls, stack := _ :: rest, locked := none }) _
  jvm_step X.here [X.here.top, hx, hd, hm', hret, hn]
  first | (intro acts; rw [hl _ acts rfl rfl rfl]) | rw [hl _ _ rfl rfl rfl]
  exact Steps.refl _
end New
end Jvm.RoadKit
namespace Jvm.Pilot.@@N@@
open Jvm Jvm.ClassFile Sem Op Lib Jvm.Free Jvm.Stand Jvm.LawKit Jvm.RoadKit Bundle Jvm.Pilot.@@N@@.Jvm.D
theorem Wd {Z : State} {a0 : Array Value} {d : Jvm.Cond} (hw : ∀ d ∈ tables_1, d.before a0 Z = true) (i : Nat) (h : tables_1[i]? = some d) : d.before a0 Z = true := hw _ (List.mem_of_getElem? h)
theorem own_sz {Z : State} {n0 : Nat} {h : Heap} (O : Old Z n0 h) : n0 ≤ h.size := O.1 ▸ O.2.1
theorem own_neArv {Z : State} {h : Heap} {a b : Addr} {k k' : ClassId} {ty ty' : FieldType} {z z' : Int32} {vs vs' : List Value} {d d' : Value} (F : Arv Z h a k ty z vs d) (G : Arv Z h b k' ty' z' vs' d') (hn : ty ≠ ty') : a ≠ b := fun q => by
  subst q
  obtain ⟨c1, ⟨e1, ⟨-, k1, hk1, cp1, hd1⟩, -⟩, -⟩ := F
  obtain ⟨c2, ⟨e2, ⟨-, k2, hk2, cp2, hd2⟩, -⟩, -⟩ := G
  cases e1.symm.trans e2
  cases hk1.symm.trans hk2
  rw [hd1] at hd2
  injection hd2 with _ h2
  exact hn h2
theorem own_fi {args : Array Value} {s : State} {t : Term} {a : Addr} {C n d : String} {k : Int32} (ht : t.eval args s none [] s = some (.ref a)) (h : (Jvm.Cond.eq (Jvm.Term.field t C n d) (Jvm.Term.int k)).value args s none s [] = some true) : s.fieldOf? a C n d = some (.int k) := by
  have e := fld_at (C := C) (n := n) (dd := d) ht
  obtain ⟨v, w, h1, h2, h3, h4⟩ := cmp_v (Or.inl h)
  cases (Term.int_eval k).symm.trans h2
  obtain ⟨z, rfl⟩ := h4
  rw [← e, h1]
  simp only [Cond.value, h1, Term.int_eval] at h
  simpa using h
theorem own_len {args : Array Value} {s : State} {t : Term} {a : Addr} {cl : Cell} {ty : FieldType} {z : Int32} (A : Arr s s.heap a cl ty) (ev : t.eval args s none [] s = some (.ref a)) (h : (Jvm.Cond.eq (Jvm.Term.length t) (Jvm.Term.int z)).value args s none s [] = some true) : cl.slots.size < 2 ^ 31 ∧ cl.slots.size.toInt32 = z := by
  have e := Cond.eq_int (beq_iff_eq.mpr h) (Term.int_eval z)
  have hA : s.arrayAt? a = some cl := IntBox.arrayAt_of A.1 A.2.1 A.2.2
  by_cases q : cl.slots.size < 2 ^ 31
  · refine ⟨q, ?_⟩
    have r := len_f ev hA q
    rw [r] at e
    injection e with e
    injection e
  · exfalso
    simp [Term.eval, ev, hA] at e
    omega
theorem own_eli {args : Array Value} {s : State} {t : Term} {a : Addr} {cl : Cell} {j k : Int32} (hc : s.heap[a]? = some cl) (ev : t.eval args s none [] s = some (.ref a)) (h : (Jvm.Cond.eq (Jvm.Term.elem t (Jvm.Term.int j)) (Jvm.Term.int k)).value args s none s [] = some true) : cl.slots[j.toNatClampNeg]? = some (.int k) :=
  (elem_in (Cond.eq_int (beq_iff_eq.mpr h) (Term.int_eval k)) ev (Term.int_eval j) hc).2
theorem own_elr {args : Array Value} {s : State} {t u : Term} {a b : Addr} {cl : Cell} {j : Int32} (hc : s.heap[a]? = some cl) (ev : t.eval args s none [] s = some (.ref a)) (eu : u.eval args s none [] s = some (.ref b)) (h : (Jvm.Cond.eq (Jvm.Term.elem t (Jvm.Term.int j)) u).value args s none s [] = some true) : cl.slots[j.toNatClampNeg]? = some (.ref b) := by
  obtain ⟨v, w, h1, h2, h3, h4⟩ := cmp_v (Or.inl h)
  cases eu.symm.trans h2
  have hv : v = .ref b := gotT (eq_R h1 h2 h4.2 rfl) h
  rw [hv] at h1
  exact (elem_in h1 ev (Term.int_eval j) hc).2
theorem own_shr0 (x : Int32) : x >>> ((0 : Int32) &&& 31) = x := by
  have h : ((0 : Int32) &&& 31) = 0 := by decide
  rw [h]
  apply Int32.toBitVec_inj.mp
  simp
theorem own_b2 (x : Int32) : (x.toInt8.toInt32).toInt8.toInt32 = x.toInt8.toInt32 := by
  have h : x.toInt8.toInt32.toInt8 = x.toInt8 := by
    apply Int8.toInt_inj.mp
    rw [Int32.toInt_toInt8, Int8.toInt_toInt32]
    have h2 := x.toInt8.toInt_lt; have h3 := x.toInt8.le_toInt
    rw [Int.bmod_eq_of_le] <;> omega
  rw [h]
theorem own_nari2c (x : Int32) : nar .char (x.toUInt32.toUInt16.toUInt32.toInt32) = x.toUInt32.toUInt16.toUInt32.toInt32 := by
  show (x.toUInt32.toUInt16.toUInt32.toInt32).toUInt32.toUInt16.toUInt32.toInt32 = _
  rw [UInt32.toUInt32_toInt32, UInt16.toUInt16_toUInt32]
theorem own_nar255 (x : Int32) : nar .char (x &&& (255 : Int32)) = x &&& (255 : Int32) := i2c_mask x
theorem own_and255 (x : Int32) : ¬ ((255 : Int32) < x &&& (255 : Int32)) ∧ ¬ (x &&& (255 : Int32) < (0 : Int32)) := by
  have e := Jvm.Kit.i32_mask x 255 (k := 8) (by decide) (by decide)
  have h1 := Int.emod_nonneg x.toInt (show (2 : Int) ^ 8 ≠ 0 by decide)
  have h2 := Int.emod_lt_of_pos x.toInt (show (0 : Int) < 2 ^ 8 by decide)
  have e1 : (255 : Int32).toInt = 255 := rfl
  have e0 : (0 : Int32).toInt = 0 := rfl
  constructor <;> rw [Int32.lt_iff_toInt_lt] <;> omega
theorem own_bq {c l : Int32} (h1 : ¬ ((255 : Int32) < c)) (h2 : ¬ (c < (0 : Int32))) (hl0 : 0 ≤ l.toInt) (hl1 : l.toInt < 128) (e : c.toInt8.toInt32 = l) : c = l := by
  have e2 := congrArg Int32.toInt e
  rw [Int8.toInt_toInt32, Int32.toInt_toInt8] at e2
  rw [Int32.lt_iff_toInt_lt] at h1 h2
  have q1 : (255 : Int32).toInt = 255 := rfl
  have q0 : (0 : Int32).toInt = 0 := rfl
  apply Int32.toInt_inj.mp
  simp only [Int.bmod_def] at e2
  omega
theorem own_n7 (x : Int32) : (x &&& (32767 : Int32)) % (7 : Int32) = 0 ∨ (x &&& (32767 : Int32)) % (7 : Int32) = 1 ∨ (x &&& (32767 : Int32)) % (7 : Int32) = 2 ∨ (x &&& (32767 : Int32)) % (7 : Int32) = 3 ∨ (x &&& (32767 : Int32)) % (7 : Int32) = 4 ∨ (x &&& (32767 : Int32)) % (7 : Int32) = 5 ∨ (x &&& (32767 : Int32)) % (7 : Int32) = 6 := by
  have e := Jvm.Kit.i32_mask x 32767 (k := 15) (by decide) (by decide)
  have h1 := Int.emod_nonneg x.toInt (show (2 : Int) ^ 15 ≠ 0 by decide)
  have h6 : ((x &&& (32767 : Int32)) % (7 : Int32)).toInt = (x &&& (32767 : Int32)).toInt.tmod 7 := Int32.toInt_mod _ _
  have h7 : 0 ≤ (x &&& (32767 : Int32)).toInt := by omega
  rw [Int.tmod_eq_emod_of_nonneg h7] at h6
  have h8 := Int.emod_nonneg (x &&& (32767 : Int32)).toInt (show (7 : Int) ≠ 0 by decide)
  have h9 := Int.emod_lt_of_pos (x &&& (32767 : Int32)).toInt (show (0 : Int) < 7 by decide)
  generalize (x &&& (32767 : Int32)) % (7 : Int32) = y at *
  have k0 : (0 : Int32).toInt = 0 := rfl
  have k1 : (1 : Int32).toInt = 1 := rfl
  have k2 : (2 : Int32).toInt = 2 := rfl
  have k3 : (3 : Int32).toInt = 3 := rfl
  have k4 : (4 : Int32).toInt = 4 := rfl
  have k5 : (5 : Int32).toInt = 5 := rfl
  have k6 : (6 : Int32).toInt = 6 := rfl
  simp only [← Int32.toInt_inj, k0, k1, k2, k3, k4, k5, k6]
  omega
/-- a String's bytes don't begin with the text -/
def Rfs (nl : Int32) (vs : List Value) : Prop := (nl - (5 : Int32)) < (0 : Int32) ∨ (¬ ((nl - (5 : Int32)) < (0 : Int32)) ∧ ∃ d0 d1 d2 d3 d4 : Int32, vs.getD (0 : Int32).toNatClampNeg (.int 0) = .int (d0.toInt8.toInt32) ∧ (0 : Int32) < nl ∧ ¬ ((255 : Int32) < d0) ∧ ¬ (d0 < (0 : Int32)) ∧ vs.getD (1 : Int32).toNatClampNeg (.int 0) = .int (d1.toInt8.toInt32) ∧ (1 : Int32) < nl ∧ ¬ ((255 : Int32) < d1) ∧ ¬ (d1 < (0 : Int32)) ∧ vs.getD (2 : Int32).toNatClampNeg (.int 0) = .int (d2.toInt8.toInt32) ∧ (2 : Int32) < nl ∧ ¬ ((255 : Int32) < d2) ∧ ¬ (d2 < (0 : Int32)) ∧ vs.getD (3 : Int32).toNatClampNeg (.int 0) = .int (d3.toInt8.toInt32) ∧ (3 : Int32) < nl ∧ ¬ ((255 : Int32) < d3) ∧ ¬ (d3 < (0 : Int32)) ∧ vs.getD (4 : Int32).toNatClampNeg (.int 0) = .int (d4.toInt8.toInt32) ∧ (4 : Int32) < nl ∧ ¬ ((255 : Int32) < d4) ∧ ¬ (d4 < (0 : Int32)) ∧ (¬ (d0 = (106 : Int32) ∧ d1 = (97 : Int32) ∧ d2 = (118 : Int32) ∧ d3 = (97 : Int32) ∧ d4 = (46 : Int32))))
def EL1 : List (String × Nat) := [("com/example/loomwire/loomwire/bundle/JavaPackages", 9), ("com/example/loomwire/loomwire/bundle/JavaPackagesRefusePinLaw", 18), ("com/example/loomwire/loomwire/bundle/JavaPackagesRefusePinLaw", 20), ("java/lang/String", 7)]
theorem own_EW {Z : State} {a0 : Array Value} (hw : ∀ d ∈ tables_1, d.before a0 Z = true) : EW Z a0 EL1 := (EW.cons (Wd hw 38 rfl) (by decide) (EW.cons (Wd hw 60 rfl) (by decide) (EW.cons (Wd hw 30 rfl) (by decide) (EW.cons (Wd hw 22 rfl) (by decide) EW.nil))))
theorem own_wS {Z : State} {a0 : Array Value} (hw : ∀ d ∈ tables_1, d.before a0 Z = true) : ∀ a ∈ Bundle.stringAtoms, a.before a0 Z = true := fun d hd => by
  simp only [Bundle.stringAtoms, List.mem_cons, List.not_mem_nil, or_false] at hd
  rcases hd with rfl | rfl | rfl | rfl | rfl | rfl | rfl
  · exact (Wd hw 11 rfl)
  · exact (Wd hw 10 rfl)
  · exact (Wd hw 23 rfl)
  · exact (Wd hw 24 rfl)
  · exact (Wd hw 25 rfl)
  · exact (Wd hw 26 rfl)
  · exact (Wd hw 27 rfl)
theorem own_safeS {Z : State} {EL : List (String × Nat)} {vm : Vm} {h : Heap} {a : Addr} (hal : Z.vm.Alike vm) (H : CHv Z EL vm h) (F : Fld Z h a "java/lang/String" "value" "[B" .null) (E : Exa Z h a "java/lang/String") : Safe Z EL vm h a := fun ⟨p, hp, u, a', hb, q, hq, S, hy⟩ => by
  obtain ⟨cS, ⟨⟨s1, s2, s3, ⟨cv, kv, iv, s4, s4'⟩, -, s6, -, s8, -, s10, s11, -⟩, hfS, hcS⟩, ⟨kS, k1, k2, k3⟩, -⟩ := S
  obtain ⟨cell, cf, k, i, f, f1, f2, f3, f4, f5, f6, f7⟩ := F
  rcases hy with rfl | rfl
  · cases s1.symm.trans f1
    obtain ⟨kv', z4⟩ := ff_back (U := Wst Z vm h) hal s4
    cases z4.symm.trans f2
    cases s8.symm.trans f7
  · obtain ⟨c2, k2', e1, e2, e3, e4, e5⟩ := E
    cases s10.symm.trans e1
    obtain ⟨hst, k9, hk9, comp, hkind9⟩ := s11
    obtain ⟨kz', hkz', ekz⟩ := hal.2.2 _ _ e3
    have h9 : k9 = kz' := Option.some.inj (hk9.symm.trans hkz')
    have hfS' : vm.findClass "java/lang/String" = some cS := hfS
    rw [hal.findClass] at hfS'
    have hc : q.SA.cls = cS := Option.some.inj (e2.symm.trans hfS')
    have h8 : kz' = kS := Option.some.inj (hkz'.symm.trans (hc ▸ k1))
    rw [h9, h8, k2] at hkind9
    cases hkind9
def GF (Z : State) (cS : Int32) : Prop := Sta Z Z.heap "java/lang/String" "COMPACT_STRINGS" "Z" (.int cS) ∧ ¬ (cS = (0 : Int32))
theorem d17_0 : decode jdk_52_method_21_code 0 = .ok (.iconst 0, 1) := by decide +kernel
theorem d17_1 : decode jdk_52_method_21_code 1 = .ok (.istore 5, 2) := by decide +kernel
theorem d17_3 : decode jdk_52_method_21_code 3 = .ok (.iload 5, 2) := by decide +kernel
theorem d17_5 : decode jdk_52_method_21_code 5 = .ok (.iload 4, 2) := by decide +kernel
theorem d17_7 : decode jdk_52_method_21_code 7 = .ok (.if_icmp .ge 37, 3) := by decide +kernel
theorem d17_10 : decode jdk_52_method_21_code 10 = .ok (.aload_n 0, 1) := by decide +kernel
theorem d17_11 : decode jdk_52_method_21_code 11 = .ok (.iload_n 1, 1) := by decide +kernel
theorem d17_12 : decode jdk_52_method_21_code 12 = .ok (.caload, 1) := by decide +kernel
theorem d17_13 : decode jdk_52_method_21_code 13 = .ok (.istore 6, 2) := by decide +kernel
theorem d17_15 : decode jdk_52_method_21_code 15 = .ok (.iload 6, 2) := by decide +kernel
theorem d17_17 : decode jdk_52_method_21_code 17 = .ok (.sipush 255, 3) := by decide +kernel
theorem d17_20 : decode jdk_52_method_21_code 20 = .ok (.if_icmp .le 6, 3) := by decide +kernel
theorem d17_26 : decode jdk_52_method_21_code 26 = .ok (.aload_n 2, 1) := by decide +kernel
theorem d17_27 : decode jdk_52_method_21_code 27 = .ok (.iload_n 3, 1) := by decide +kernel
theorem d17_28 : decode jdk_52_method_21_code 28 = .ok (.iload 6, 2) := by decide +kernel
theorem d17_30 : decode jdk_52_method_21_code 30 = .ok (.i2b, 1) := by decide +kernel
theorem d17_31 : decode jdk_52_method_21_code 31 = .ok (.bastore, 1) := by decide +kernel
theorem d17_32 : decode jdk_52_method_21_code 32 = .ok (.iinc 1 1, 3) := by decide +kernel
theorem d17_35 : decode jdk_52_method_21_code 35 = .ok (.iinc 3 1, 3) := by decide +kernel
theorem d17_38 : decode jdk_52_method_21_code 38 = .ok (.iinc 5 1, 3) := by decide +kernel
theorem d17_41 : decode jdk_52_method_21_code 41 = .ok (.goto (-38), 3) := by decide +kernel
theorem d17_44 : decode jdk_52_method_21_code 44 = .ok (.iload 4, 2) := by decide +kernel
theorem d17_46 : decode jdk_52_method_21_code 46 = .ok (.ireturn, 1) := by decide +kernel
theorem pn : plainName "java/lang/StringUTF16" = true := by first | (simp [plainName, overriddenIn]; done) | decide +kernel
abbrev MN_0 : MethodName := ⟨"java/lang/StringUTF16", "compress", "([CI[BII)I"⟩
theorem ef_rmC2_1 (m : MethodId) (a0c : Addr) (a2b : Addr) : entryFrame m #[(.ref a0c), (.int 0), (.ref a2b), (.int 0), (.int 1)] 7 = mkF m 0 #[.val (.ref a0c), .val (.int 0), .val (.ref a2b), .val (.int 0), .val (.int 1), .unset, .unset] [] := by first | (simp [entryFrame, mkF, argsToLocals, Value.category]; done) | rfl
def Q_rmC2_1 (n0 : Nat) (Z : State) (cS : Int32) (a0c : Addr) (a2b : Addr) (k0 : ClassId) (k2 : ClassId) (c0 : Int32) (h0 : Heap) (v : Option Value) (h : Heap) (L : List Loc) : Prop := v = some (.int 1) ∧ Fr n0 L ∧ Keep h0 h [a2b] ∧ (Arv Z h a2b k2 .byte (1 : Int32) [(.int (c0.toInt8.toInt32))] (.int 0))
set_option maxRecDepth 65536 in
set_option maxHeartbeats 40000000 in
theorem rmC2_1 (l : Launch) (Z : State) (a0 : Array Value) (hw : ∀ d ∈ tables_1, d.before a0 Z = true) (ws : List Jvm.Cond) (cS : Int32) (a0c : Addr) (a2b : Addr) (k0 : ClassId) (k2 : ClassId) (c0 : Int32) (h0 : Heap) (n0 : Nat) (O0 : Old Z n0 h0) (GL : GF Z cS) (V_a0c : Arv Z h0 a0c k0 .char (1 : Int32) [(.int c0)] (.int 0)) (V_a2b : Arv Z h0 a2b k2 .byte (1 : Int32) [(.int 0)] (.int 0)) (g_a2b : n0 ≤ a2b) (hc0 : ¬ ((255 : Int32) < c0)) :
    MetFree l MN_0 (head1 (Jvm.Cond.code MN_0 jdk_52_method_21_code 7 (some .int) :: ws) ({ frames := 0, cells := 0, slots := 0, locals := 0 } : Room)) (fun a U => a = #[(.ref a0c), (.int 0), (.ref a2b), (.int 0), (.int 1)] ∧ Z.Warmed39 U.vm ∧ U.heap = h0) (fun _ _ _ _ _ => True) (fun _ U o U' => ∃ v L, o = .returned v ∧ Q_rmC2_1 n0 Z cS a0c a2b k0 k2 c0 h0 v U'.heap L ∧ FrameEnd U o U' L ({ frames := 0, cells := 0, slots := 0, locals := 0 } : Room).cells ({ frames := 0, cells := 0, slots := 0, locals := 0 } : Room).slots) := by
  refine MetFree.of_bodySF (plainFor_of_name pn) hisR ?_
  intro p e s m args below meth c s₁ Bd hml0 hP hK
  obtain ⟨rfl, hZ, hh⟩ := hP
  have hx := Bd.exec
  have hby := Bd.bytes
  have hml : c.maxLocals = 7 := hml0
  have hown : s.vm.findClass "java/lang/StringUTF16" = some m.cls := findClass_of_methodNamed Bd.named
  have hnm := (name_of_methodNamed Bd.named Bd.method).1
  have X0 : Stand p l e ({ frames := 0, cells := 0, slots := 0, locals := 0 } : Room) s m #[(.ref a0c), (.int 0), (.ref a2b), (.int 0), (.int 1)] below meth c s₁ [] 0 0 := Stand.of_body Bd
  have e0 : s₁.heap = h0 := by rw [← hh, Bd.state]; rfl
  have N0 := Fr.nil n0
  have pre0 : ∀ t, Steps p.tables e below (s₁.setTop (mkF m 0 #[.val (.ref a0c), .val (.int 0), .val (.ref a2b), .val (.int 0), .val (.int 1), .unset, .unset] [])) t → Steps p.tables e below (s₁.setTop (entryFrame m #[(.ref a0c), (.int 0), (.ref a2b), (.int 0), (.int 1)] 7)) t := fun t k => castTop (ef_rmC2_1 m a0c a2b) k
  have GL' := GL
  obtain ⟨GCS, GCP⟩ := GL'
  obtain ⟨cl1, Ar1, -, S1, N1_, H1, G1⟩ := id (V_a0c)
  have hin1 : ¬ ((0 : Int32) < 0 ∨ cl1.slots.size ≤ ((0 : Int32)).toNatClampNeg) := inb_of S1 ⟨(by decide), (by decide)⟩
  have hat1 : cl1.slots[((0 : Int32)).toNatClampNeg]? = some (.int c0) := H1.at hin1 rfl
  obtain ⟨cl2, Ar2, q2, S2, N2_, H2, G2⟩ := id (V_a2b)
  have hin2 : ¬ ((0 : Int32) < 0 ∨ cl2.slots.size ≤ ((0 : Int32)).toNatClampNeg) := inb_of S2 ⟨(by decide), (by decide)⟩
  obtain ⟨T2, h2, X2, e2, W2, st2⟩ := stB X0 hx hZ e0 Ar2 (j := (0 : Int32)) hin2 (g := (mkF m 31 #[.val (.ref a0c), .val (.int 0), .val (.ref a2b), .val (.int 0), .val (.int 1), .val (.int 0), .val (.int c0)] [(.int (c0.toInt8.toInt32)), (.int 0), (.ref a2b)])) rfl rfl (hb hby d17_31)
  have K2 : Keep h0 h2 [a2b] := (Keep.refl h0 [a2b]).wr W2 (Or.inl (List.mem_of_getElem? (i := 0) rfl))
  have O2 := O0.wr W2 g_a2b
  have N2 := Fr.snoc X2 N0 g_a2b
  have V2' : Arv Z h2 a2b k2 .byte (1 : Int32) [(.int ((c0.toInt8.toInt32)).toInt8.toInt32)] (.int 0) := Arv.set Ar2 q2 S2 N2_ H2 G2 (fits_nar_byte _) W2 0 rfl (Nat.le_of_ble_eq_true rfl)
  have V2 : Arv Z h2 a2b k2 .byte (1 : Int32) [(.int (c0.toInt8.toInt32))] (.int 0) := by
    rw [own_b2 c0] at V2'
    exact V2'
  obtain ⟨fs, hr, hrun, hended, hW, hsame⟩ := X2.leave (v := some (.int 1)) (fun h => by rw [Bd.returns] at h; cases h)
  refine ⟨_, _, pre0 _ ?_, hrun, hended, _, _, rfl, ?_, ⟨_, rfl⟩, hW, hsame.mono (by decide) (by decide)⟩
  · show Steps p.tables e below (s₁.setTop (mkF m 0 #[.val (.ref a0c), .val (.int 0), .val (.ref a2b), .val (.int 0), .val (.int 1), .unset, .unset] [])) _
    refine XS.iconst X0.here hx rfl (hb hby d17_0) ?_
    refine XS.istore X0.here hx rfl (hb hby d17_1) rfl (l' := #[.val (.ref a0c), .val (.int 0), .val (.ref a2b), .val (.int 0), .val (.int 1), .val (.int 0), .unset]) rfl ?_
    refine XS.iload X0.here hx rfl (hb hby d17_3) rfl ?_
    refine XS.iload X0.here hx rfl (hb hby d17_5) rfl ?_
    show Steps p.tables e below (s₁.setTop (mkF m 7 #[.val (.ref a0c), .val (.int 0), .val (.ref a2b), .val (.int 0), .val (.int 1), .val (.int 0), .unset] [(.int 1), (.int 0)])) _
    refine XS.icmpNo X0.here hx rfl (hb hby d17_7) rfl (tlt (by decide : (0 : Int32) < (1 : Int32))).2.1 ?_
    refine XS.aloadN X0.here hx rfl (hb hby d17_10) rfl rfl ?_
    refine XS.iloadN X0.here hx rfl (hb hby d17_11) rfl ?_
    show Steps p.tables e below (s₁.setTop (mkF m 12 #[.val (.ref a0c), .val (.int 0), .val (.ref a2b), .val (.int 0), .val (.int 1), .val (.int 0), .unset] [(.int 0), (.ref a0c)])) _
    refine X0.caload hx (j := (0 : Int32)) (v := (.int c0)) (by rw [e0]; exact Ar1.1) (State.isArrayOf_alike hZ.alike Ar1.2.1) Ar1.2.2 hin1 hat1 (g := (mkF m 12 #[.val (.ref a0c), .val (.int 0), .val (.ref a2b), .val (.int 0), .val (.int 1), .val (.int 0), .unset] [(.int 0), (.ref a0c)])) rfl rfl (hb hby d17_12) _ ?_
    show Steps p.tables e below (s₁.setTop (mkF m 13 #[.val (.ref a0c), .val (.int 0), .val (.ref a2b), .val (.int 0), .val (.int 1), .val (.int 0), .unset] [(.int c0)])) _
    refine XS.istore X0.here hx rfl (hb hby d17_13) rfl (l' := #[.val (.ref a0c), .val (.int 0), .val (.ref a2b), .val (.int 0), .val (.int 1), .val (.int 0), .val (.int c0)]) rfl ?_
    refine XS.iload X0.here hx rfl (hb hby d17_15) rfl ?_
    refine XS.sipush X0.here hx rfl (hb hby d17_17) ?_
    refine XS.icmpYes X0.here hx rfl (pc0 := 20) (pc' := 26) rfl (hb hby d17_20) rfl (flt hc0).2.2.2 (by decide) (by decide) ?_
    show Steps p.tables e below (s₁.setTop (mkF m 26 #[.val (.ref a0c), .val (.int 0), .val (.ref a2b), .val (.int 0), .val (.int 1), .val (.int 0), .val (.int c0)] [])) _
    refine XS.aloadN X0.here hx rfl (hb hby d17_26) rfl rfl ?_
    refine XS.iloadN X0.here hx rfl (hb hby d17_27) rfl ?_
    refine XS.iload X0.here hx rfl (hb hby d17_28) rfl ?_
    refine XS.i2b X0.here hx rfl (hb hby d17_30) rfl ?_
    show Steps p.tables e below (s₁.setTop (mkF m 31 #[.val (.ref a0c), .val (.int 0), .val (.ref a2b), .val (.int 0), .val (.int 1), .val (.int 0), .val (.int c0)] [(.int (c0.toInt8.toInt32)), (.int 0), (.ref a2b)])) _
    refine st2 _ ?_
    show Steps p.tables e below (T2.setTop (mkF m 32 #[.val (.ref a0c), .val (.int 0), .val (.ref a2b), .val (.int 0), .val (.int 1), .val (.int 0), .val (.int c0)] [])) _
    refine XS.iinc X2.here hx rfl (hb hby d17_32) rfl (l' := #[.val (.ref a0c), .val (.int 1), .val (.ref a2b), .val (.int 0), .val (.int 1), .val (.int 0), .val (.int c0)]) rfl ?_
    refine XS.iinc X2.here hx rfl (hb hby d17_35) rfl (l' := #[.val (.ref a0c), .val (.int 1), .val (.ref a2b), .val (.int 1), .val (.int 1), .val (.int 0), .val (.int c0)]) rfl ?_
    refine XS.iinc X2.here hx rfl (hb hby d17_38) rfl (l' := #[.val (.ref a0c), .val (.int 1), .val (.ref a2b), .val (.int 1), .val (.int 1), .val (.int 1), .val (.int c0)]) rfl ?_
    refine XS.goto X2.here hx rfl (pc0 := 41) (pc' := 3) rfl (hb hby d17_41) (by decide) (by decide) ?_
    show Steps p.tables e below (T2.setTop (mkF m 3 #[.val (.ref a0c), .val (.int 1), .val (.ref a2b), .val (.int 1), .val (.int 1), .val (.int 1), .val (.int c0)] [])) _
    refine XS.iload X2.here hx rfl (hb hby d17_3) rfl ?_
    refine XS.iload X2.here hx rfl (hb hby d17_5) rfl ?_
    refine XS.icmpYes X2.here hx rfl (pc0 := 7) (pc' := 44) rfl (hb hby d17_7) rfl (flt (by decide : ¬ ((1 : Int32) < (1 : Int32)))).2.1 (by decide) (by decide) ?_
    refine XS.iload X2.here hx rfl (hb hby d17_44) rfl ?_
    show Steps p.tables e below (T2.setTop (mkF m 46 #[.val (.ref a0c), .val (.int 1), .val (.ref a2b), .val (.int 1), .val (.int 1), .val (.int 1), .val (.int c0)] [(.int 1)])) _
    exact retI X2 hx Bd.returns (hb hby d17_46) hr
  · show Q_rmC2_1 n0 Z cS a0c a2b k0 k2 c0 h0 _ T2.heap _
    rw [e2]
    exact ⟨rfl, N2, K2, V2⟩
theorem d16_0 : decode jdk_52_method_16_code 0 = .ok (.iload_n 2, 1) := by decide +kernel
theorem d16_1 : decode jdk_52_method_16_code 1 = .ok (.newarray .byte, 2) := by decide +kernel
theorem d16_3 : decode jdk_52_method_16_code 3 = .ok (.astore_n 3, 1) := by decide +kernel
theorem d16_4 : decode jdk_52_method_16_code 4 = .ok (.aload_n 0, 1) := by decide +kernel
theorem d16_5 : decode jdk_52_method_16_code 5 = .ok (.iload_n 1, 1) := by decide +kernel
theorem d16_6 : decode jdk_52_method_16_code 6 = .ok (.aload_n 3, 1) := by decide +kernel
theorem d16_7 : decode jdk_52_method_16_code 7 = .ok (.iconst 0, 1) := by decide +kernel
theorem d16_8 : decode jdk_52_method_16_code 8 = .ok (.iload_n 2, 1) := by decide +kernel
theorem d16_9 : decode jdk_52_method_16_code 9 = .ok (.invokestatic 115, 3) := by decide +kernel
theorem pd : parseMethodDescriptor "([CI[BII)I" = some ⟨[(.array .char), .int, (.array .byte), .int, .int], some .int⟩ := by decide +kernel
theorem d16_12 : decode jdk_52_method_16_code 12 = .ok (.istore 4, 2) := by decide +kernel
theorem d16_14 : decode jdk_52_method_16_code 14 = .ok (.iload 4, 2) := by decide +kernel
theorem d16_16 : decode jdk_52_method_16_code 16 = .ok (.iload_n 2, 1) := by decide +kernel
theorem d16_17 : decode jdk_52_method_16_code 17 = .ok (.if_icmp .eq 40, 3) := by decide +kernel
theorem d16_57 : decode jdk_52_method_16_code 57 = .ok (.aload_n 3, 1) := by decide +kernel
theorem d16_58 : decode jdk_52_method_16_code 58 = .ok (.areturn, 1) := by decide +kernel
abbrev MN_1 : MethodName := ⟨"java/lang/StringUTF16", "compress", "([CII)[B"⟩
theorem ef_rmC1_1 (m : MethodId) (a0c : Addr) : entryFrame m #[(.ref a0c), (.int 0), (.int 1)] 6 = mkF m 0 #[.val (.ref a0c), .val (.int 0), .val (.int 1), .unset, .unset, .unset] [] := by first | (simp [entryFrame, mkF, argsToLocals, Value.category]; done) | rfl
def Q_rmC1_1 (n0 : Nat) (Z : State) (cS : Int32) (a0c : Addr) (k0 : ClassId) (c0 : Int32) (h0 : Heap) (v : Option Value) (h : Heap) (L : List Loc) : Prop := ∃ b : Addr, ∃ kb : ClassId, v = some (.ref b) ∧ Fr n0 L ∧ Keep h0 h [] ∧ (h0.size ≤ b) ∧ (Exa Z h b "[B") ∧ (Arv Z h b kb .byte (1 : Int32) [(.int (c0.toInt8.toInt32))] (.int 0))
set_option maxRecDepth 65536 in
set_option maxHeartbeats 40000000 in
theorem rmC1_1 (l : Launch) (Z : State) (a0 : Array Value) (hw : ∀ d ∈ tables_1, d.before a0 Z = true) (ws : List Jvm.Cond) (cS : Int32) (a0c : Addr) (k0 : ClassId) (c0 : Int32) (h0 : Heap) (n0 : Nat) (O0 : Old Z n0 h0) (GL : GF Z cS) (V_a0c : Arv Z h0 a0c k0 .char (1 : Int32) [(.int c0)] (.int 0)) (hc0 : ¬ ((255 : Int32) < c0)) :
    MetFree l MN_1 (head1 (Jvm.Cond.code MN_1 jdk_52_method_16_code 6 (some (.array .byte)) :: ws) ({ frames := 1, cells := 1, slots := 1, locals := 18 } : Room)) (fun a U => a = #[(.ref a0c), (.int 0), (.int 1)] ∧ Z.Warmed39 U.vm ∧ U.heap = h0) (fun _ _ _ _ _ => True) (fun _ U o U' => ∃ v L, o = .returned v ∧ Q_rmC1_1 n0 Z cS a0c k0 c0 h0 v U'.heap L ∧ FrameEnd U o U' L ({ frames := 1, cells := 1, slots := 1, locals := 18 } : Room).cells ({ frames := 1, cells := 1, slots := 1, locals := 18 } : Room).slots) := by
  refine MetFree.of_bodySF (plainFor_of_name pn) hisR ?_
  intro p e s m args below meth c s₁ Bd hml0 hP hK
  obtain ⟨rfl, hZ, hh⟩ := hP
  have hx := Bd.exec
  have hby := Bd.bytes
  have hml : c.maxLocals = 6 := hml0
  have hown : s.vm.findClass "java/lang/StringUTF16" = some m.cls := findClass_of_methodNamed Bd.named
  have hnm := (name_of_methodNamed Bd.named Bd.method).1
  have X0 : Stand p l e ({ frames := 1, cells := 1, slots := 1, locals := 18 } : Room) s m #[(.ref a0c), (.int 0), (.int 1)] below meth c s₁ [] 0 0 := Stand.of_body Bd
  have e0 : s₁.heap = h0 := by rw [← hh, Bd.state]; rfl
  have N0 := Fr.nil n0
  have pre0 : ∀ t, Steps p.tables e below (s₁.setTop (mkF m 0 #[.val (.ref a0c), .val (.int 0), .val (.int 1), .unset, .unset, .unset] [])) t → Steps p.tables e below (s₁.setTop (entryFrame m #[(.ref a0c), (.int 0), (.int 1)] 6)) t := fun t k => castTop (ef_rmC1_1 m a0c) k
  have GL' := GL
  obtain ⟨GCS, GCP⟩ := GL'
  obtain ⟨T1, h1, k1, X1, e1, E1, A1, A1', st1⟩ := newPE X0 hx hZ (Wd hw 23 rfl) e0 (g := (mkF m 1 #[.val (.ref a0c), .val (.int 0), .val (.int 1), .unset, .unset, .unset] [(.int 1)])) rfl (hb hby d16_1) rfl (by decide) (cap := 1) (by decide) (by decide) (by decide) (by decide) (ad := "[B") rfl
  obtain ⟨b1, g1⟩ : ∃ z, z = h0.size := ⟨_, rfl⟩
  rw [← g1] at A1 A1' st1
  have g_b1 : n0 ≤ b1 := Nat.le_trans (own_sz O0) (Nat.le_of_eq g1.symm)
  have sz_b1 : h0.size ≤ b1 := Nat.le_trans (Keep.refl h0 []).1 (Nat.le_of_eq g1.symm)
  have K1 : Keep h0 h1 [] := (Keep.refl h0 []).ext E1
  have O1 := O0.ext E1
  have V_b1 : Arv Z h1 b1 k1 .byte (1 : Int32) [(.int 0)] (.int 0) := (Arv.new A1 (by decide)).pad (pad_rep [] (.int 0) 1)
  obtain ⟨_, _, ⟨T2, L2, k2, n2⟩, -, X2, ⟨Lc2, hQ2, l2, y2, z2⟩, st2⟩ := Jvm.LawKit.callS X1 hx (y := MN_0) hown (mvT hZ (Wd hw 79 rfl)) (mvT hZ (Wd hw 80 rfl)) (mvT hZ (Wd hw 77 rfl)) (mvT hZ (Wd hw 81 rfl)) (by decide) (backOf (W := 0) (rmC2_1 l Z a0 hw [] cS (a0c) (b1) (k0) (k1) (c0) (h1) n0 O1 GL (V_a0c.ext E1) V_b1 g_b1 hc0) hZ (Wd hw 81 rfl) (Wd hw 77 rfl) (by decide) (by decide)) (g := (mkF m 9 #[.val (.ref a0c), .val (.int 0), .val (.int 1), .val (.ref b1), .unset, .unset] [(.int 1), (.int 0), (.ref b1), (.int 0), (.ref a0c)])) rfl (by rw [hml]; rfl) (argsL := [(.ref a0c), (.int 0), (.ref b1), (.int 0), (.int 1)]) (rest := []) (lenOf pd rfl) rfl (by show 2 * 0 + _ ≤ _; exact Nat.le_of_eq rfl) (hb hby d16_9) (fun _ _ => ⟨rfl, e1, (by decide : 1 + 0 ≤ _), (by decide : 1 + 0 ≤ _)⟩)
  dsimp only [Pt.U, Pt.locs, Pt.cells, Pt.slots] at X2 l2 y2 z2 st2 hQ2
  subst l2 y2 z2
  obtain ⟨rfl, N2q, Kc2, P2_0⟩ := hQ2
  have K2 : Keep h0 T2.heap [] := K1.trans Kc2 (allS (Or.inr sz_b1) all0)
  have O2 := O1.keep Kc2 (allS g_b1 all0)
  have N2 := Fr.app N0 N2q
  obtain ⟨fs, hr, hrun, hended, hW, hsame⟩ := X2.leave (v := some (.ref b1)) (fun h => by rw [Bd.returns] at h; cases h)
  refine ⟨_, _, pre0 _ ?_, hrun, hended, _, _, rfl, ?_, ⟨_, rfl⟩, hW, hsame.mono (by decide) (by decide)⟩
  · show Steps p.tables e below (s₁.setTop (mkF m 0 #[.val (.ref a0c), .val (.int 0), .val (.int 1), .unset, .unset, .unset] [])) _
    refine XS.iloadN X0.here hx rfl (hb hby d16_0) rfl ?_
    show Steps p.tables e below (s₁.setTop (mkF m 1 #[.val (.ref a0c), .val (.int 0), .val (.int 1), .unset, .unset, .unset] [(.int 1)])) _
    refine st1 _ ?_
    show Steps p.tables e below (T1.setTop (mkF m 3 #[.val (.ref a0c), .val (.int 0), .val (.int 1), .unset, .unset, .unset] [(.ref b1)])) _
    refine XS.astoreN X1.here hx rfl (hb hby d16_3) rfl rfl (l' := #[.val (.ref a0c), .val (.int 0), .val (.int 1), .val (.ref b1), .unset, .unset]) rfl ?_
    refine XS.aloadN X1.here hx rfl (hb hby d16_4) rfl rfl ?_
    refine XS.iloadN X1.here hx rfl (hb hby d16_5) rfl ?_
    refine XS.aloadN X1.here hx rfl (hb hby d16_6) rfl rfl ?_
    show Steps p.tables e below (T1.setTop (mkF m 7 #[.val (.ref a0c), .val (.int 0), .val (.int 1), .val (.ref b1), .unset, .unset] [(.ref b1), (.int 0), (.ref a0c)])) _
    refine XS.iconst X1.here hx rfl (hb hby d16_7) ?_
    refine XS.iloadN X1.here hx rfl (hb hby d16_8) rfl ?_
    show Steps p.tables e below (T1.setTop (mkF m 9 #[.val (.ref a0c), .val (.int 0), .val (.int 1), .val (.ref b1), .unset, .unset] [(.int 1), (.int 0), (.ref b1), (.int 0), (.ref a0c)])) _
    refine st2 _ ?_
    show Steps p.tables e below (T2.setTop (mkF m 12 #[.val (.ref a0c), .val (.int 0), .val (.int 1), .val (.ref b1), .unset, .unset] [(.int 1)])) _
    refine XS.istore X2.here hx rfl (hb hby d16_12) rfl (l' := #[.val (.ref a0c), .val (.int 0), .val (.int 1), .val (.ref b1), .val (.int 1), .unset]) rfl ?_
    refine XS.iload X2.here hx rfl (hb hby d16_14) rfl ?_
    refine XS.iloadN X2.here hx rfl (hb hby d16_16) rfl ?_
    refine XS.icmpYes X2.here hx rfl (pc0 := 17) (pc' := 57) rfl (hb hby d16_17) rfl (teq (by decide : (1 : Int32) = (1 : Int32))).1 (by decide) (by decide) ?_
    show Steps p.tables e below (T2.setTop (mkF m 57 #[.val (.ref a0c), .val (.int 0), .val (.int 1), .val (.ref b1), .val (.int 1), .unset] [])) _
    refine XS.aloadN X2.here hx rfl (hb hby d16_57) rfl rfl ?_
    show Steps p.tables e below (T2.setTop (mkF m 58 #[.val (.ref a0c), .val (.int 0), .val (.int 1), .val (.ref b1), .val (.int 1), .unset] [(.ref b1)])) _
    jvm_step X2.here [X2.here.top, hx, (hb hby d16_58), X2.method', Bd.returns, Value.isRef, FieldType.isReference]
    first | (intro acts; rw [hr _ acts rfl rfl rfl]) | rw [hr _ _ rfl rfl rfl]
    exact Steps.refl _
  · show Q_rmC1_1 n0 Z cS a0c k0 c0 h0 _ T2.heap _
    exact ⟨b1, k1, rfl, N2, K2, sz_b1, (A1'.keep Kc2), P2_0⟩
theorem ef_rmC2_2 (m : MethodId) (a0c : Addr) (a2b : Addr) : entryFrame m #[(.ref a0c), (.int 0), (.ref a2b), (.int 0), (.int 2)] 7 = mkF m 0 #[.val (.ref a0c), .val (.int 0), .val (.ref a2b), .val (.int 0), .val (.int 2), .unset, .unset] [] := by first | (simp [entryFrame, mkF, argsToLocals, Value.category]; done) | rfl
def Q_rmC2_2 (n0 : Nat) (Z : State) (cS : Int32) (a0c : Addr) (a2b : Addr) (k0 : ClassId) (k2 : ClassId) (c0 : Int32) (c1 : Int32) (h0 : Heap) (v : Option Value) (h : Heap) (L : List Loc) : Prop := v = some (.int 2) ∧ Fr n0 L ∧ Keep h0 h [a2b] ∧ (Arv Z h a2b k2 .byte (2 : Int32) [(.int (c0.toInt8.toInt32)), (.int (c1.toInt8.toInt32))] (.int 0))
set_option maxRecDepth 65536 in
set_option maxHeartbeats 40000000 in
theorem rmC2_2 (l : Launch) (Z : State) (a0 : Array Value) (hw : ∀ d ∈ tables_1, d.before a0 Z = true) (ws : List Jvm.Cond) (cS : Int32) (a0c : Addr) (a2b : Addr) (k0 : ClassId) (k2 : ClassId) (c0 : Int32) (c1 : Int32) (h0 : Heap) (n0 : Nat) (O0 : Old Z n0 h0) (GL : GF Z cS) (V_a0c : Arv Z h0 a0c k0 .char (2 : Int32) [(.int c0), (.int c1)] (.int 0)) (V_a2b : Arv Z h0 a2b k2 .byte (2 : Int32) [(.int 0), (.int 0)] (.int 0)) (g_a2b : n0 ≤ a2b) (hc0 : ¬ ((255 : Int32) < c0)) (hc1 : ¬ ((255 : Int32) < c1)) :
    MetFree l MN_0 (head1 (Jvm.Cond.code MN_0 jdk_52_method_21_code 7 (some .int) :: ws) ({ frames := 0, cells := 0, slots := 0, locals := 0 } : Room)) (fun a U => a = #[(.ref a0c), (.int 0), (.ref a2b), (.int 0), (.int 2)] ∧ Z.Warmed39 U.vm ∧ U.heap = h0) (fun _ _ _ _ _ => True) (fun _ U o U' => ∃ v L, o = .returned v ∧ Q_rmC2_2 n0 Z cS a0c a2b k0 k2 c0 c1 h0 v U'.heap L ∧ FrameEnd U o U' L ({ frames := 0, cells := 0, slots := 0, locals := 0 } : Room).cells ({ frames := 0, cells := 0, slots := 0, locals := 0 } : Room).slots) := by
  refine MetFree.of_bodySF (plainFor_of_name pn) hisR ?_
  intro p e s m args below meth c s₁ Bd hml0 hP hK
  obtain ⟨rfl, hZ, hh⟩ := hP
  have hx := Bd.exec
  have hby := Bd.bytes
  have hml : c.maxLocals = 7 := hml0
  have hown : s.vm.findClass "java/lang/StringUTF16" = some m.cls := findClass_of_methodNamed Bd.named
  have hnm := (name_of_methodNamed Bd.named Bd.method).1
  have X0 : Stand p l e ({ frames := 0, cells := 0, slots := 0, locals := 0 } : Room) s m #[(.ref a0c), (.int 0), (.ref a2b), (.int 0), (.int 2)] below meth c s₁ [] 0 0 := Stand.of_body Bd
  have e0 : s₁.heap = h0 := by rw [← hh, Bd.state]; rfl
  have N0 := Fr.nil n0
  have pre0 : ∀ t, Steps p.tables e below (s₁.setTop (mkF m 0 #[.val (.ref a0c), .val (.int 0), .val (.ref a2b), .val (.int 0), .val (.int 2), .unset, .unset] [])) t → Steps p.tables e below (s₁.setTop (entryFrame m #[(.ref a0c), (.int 0), (.ref a2b), (.int 0), (.int 2)] 7)) t := fun t k => castTop (ef_rmC2_2 m a0c a2b) k
  have GL' := GL
  obtain ⟨GCS, GCP⟩ := GL'
  obtain ⟨cl1, Ar1, -, S1, N1_, H1, G1⟩ := id (V_a0c)
  have hin1 : ¬ ((0 : Int32) < 0 ∨ cl1.slots.size ≤ ((0 : Int32)).toNatClampNeg) := inb_of S1 ⟨(by decide), (by decide)⟩
  have hat1 : cl1.slots[((0 : Int32)).toNatClampNeg]? = some (.int c0) := H1.at hin1 rfl
  obtain ⟨cl2, Ar2, q2, S2, N2_, H2, G2⟩ := id (V_a2b)
  have hin2 : ¬ ((0 : Int32) < 0 ∨ cl2.slots.size ≤ ((0 : Int32)).toNatClampNeg) := inb_of S2 ⟨(by decide), (by decide)⟩
  obtain ⟨T2, h2, X2, e2, W2, st2⟩ := stB X0 hx hZ e0 Ar2 (j := (0 : Int32)) hin2 (g := (mkF m 31 #[.val (.ref a0c), .val (.int 0), .val (.ref a2b), .val (.int 0), .val (.int 2), .val (.int 0), .val (.int c0)] [(.int (c0.toInt8.toInt32)), (.int 0), (.ref a2b)])) rfl rfl (hb hby d17_31)
  have K2 : Keep h0 h2 [a2b] := (Keep.refl h0 [a2b]).wr W2 (Or.inl (List.mem_of_getElem? (i := 0) rfl))
  have O2 := O0.wr W2 g_a2b
  have N2 := Fr.snoc X2 N0 g_a2b
  have V2' : Arv Z h2 a2b k2 .byte (2 : Int32) [(.int ((c0.toInt8.toInt32)).toInt8.toInt32), (.int 0)] (.int 0) := Arv.set Ar2 q2 S2 N2_ H2 G2 (fits_nar_byte _) W2 0 rfl (Nat.le_of_ble_eq_true rfl)
  have V2 : Arv Z h2 a2b k2 .byte (2 : Int32) [(.int (c0.toInt8.toInt32)), (.int 0)] (.int 0) := by
    rw [own_b2 c0] at V2'
    exact V2'
  obtain ⟨cl3, Ar3, -, S3, N3_, H3, G3⟩ := id ((V_a0c.other W2 (own_neArv V_a0c V_a2b (by decide))))
  have hin3 : ¬ ((1 : Int32) < 0 ∨ cl3.slots.size ≤ ((1 : Int32)).toNatClampNeg) := inb_of S3 ⟨(by decide), (by decide)⟩
  have hat3 : cl3.slots[((1 : Int32)).toNatClampNeg]? = some (.int c1) := H3.at hin3 rfl
  obtain ⟨cl4, Ar4, q4, S4, N4_, H4, G4⟩ := id (V2)
  have hin4 : ¬ ((1 : Int32) < 0 ∨ cl4.slots.size ≤ ((1 : Int32)).toNatClampNeg) := inb_of S4 ⟨(by decide), (by decide)⟩
  obtain ⟨T4, h4, X4, e4, W4, st4⟩ := stB X2 hx hZ e2 Ar4 (j := (1 : Int32)) hin4 (g := (mkF m 31 #[.val (.ref a0c), .val (.int 1), .val (.ref a2b), .val (.int 1), .val (.int 2), .val (.int 1), .val (.int c1)] [(.int (c1.toInt8.toInt32)), (.int 1), (.ref a2b)])) rfl rfl (hb hby d17_31)
  have K4 : Keep h0 h4 [a2b] := K2.wr W4 (Or.inl (List.mem_of_getElem? (i := 0) rfl))
  have O4 := O2.wr W4 g_a2b
  have N4 := Fr.snoc X4 N2 g_a2b
  have V4' : Arv Z h4 a2b k2 .byte (2 : Int32) [(.int (c0.toInt8.toInt32)), (.int ((c1.toInt8.toInt32)).toInt8.toInt32)] (.int 0) := Arv.set Ar4 q4 S4 N4_ H4 G4 (fits_nar_byte _) W4 1 rfl (Nat.le_of_ble_eq_true rfl)
  have V4 : Arv Z h4 a2b k2 .byte (2 : Int32) [(.int (c0.toInt8.toInt32)), (.int (c1.toInt8.toInt32))] (.int 0) := by
    rw [own_b2 c1] at V4'
    exact V4'
  obtain ⟨fs, hr, hrun, hended, hW, hsame⟩ := X4.leave (v := some (.int 2)) (fun h => by rw [Bd.returns] at h; cases h)
  refine ⟨_, _, pre0 _ ?_, hrun, hended, _, _, rfl, ?_, ⟨_, rfl⟩, hW, hsame.mono (by decide) (by decide)⟩
  · show Steps p.tables e below (s₁.setTop (mkF m 0 #[.val (.ref a0c), .val (.int 0), .val (.ref a2b), .val (.int 0), .val (.int 2), .unset, .unset] [])) _
    refine XS.iconst X0.here hx rfl (hb hby d17_0) ?_
    refine XS.istore X0.here hx rfl (hb hby d17_1) rfl (l' := #[.val (.ref a0c), .val (.int 0), .val (.ref a2b), .val (.int 0), .val (.int 2), .val (.int 0), .unset]) rfl ?_
    refine XS.iload X0.here hx rfl (hb hby d17_3) rfl ?_
    refine XS.iload X0.here hx rfl (hb hby d17_5) rfl ?_
    show Steps p.tables e below (s₁.setTop (mkF m 7 #[.val (.ref a0c), .val (.int 0), .val (.ref a2b), .val (.int 0), .val (.int 2), .val (.int 0), .unset] [(.int 2), (.int 0)])) _
    refine XS.icmpNo X0.here hx rfl (hb hby d17_7) rfl (tlt (by decide : (0 : Int32) < (2 : Int32))).2.1 ?_
    refine XS.aloadN X0.here hx rfl (hb hby d17_10) rfl rfl ?_
    refine XS.iloadN X0.here hx rfl (hb hby d17_11) rfl ?_
    show Steps p.tables e below (s₁.setTop (mkF m 12 #[.val (.ref a0c), .val (.int 0), .val (.ref a2b), .val (.int 0), .val (.int 2), .val (.int 0), .unset] [(.int 0), (.ref a0c)])) _
    refine X0.caload hx (j := (0 : Int32)) (v := (.int c0)) (by rw [e0]; exact Ar1.1) (State.isArrayOf_alike hZ.alike Ar1.2.1) Ar1.2.2 hin1 hat1 (g := (mkF m 12 #[.val (.ref a0c), .val (.int 0), .val (.ref a2b), .val (.int 0), .val (.int 2), .val (.int 0), .unset] [(.int 0), (.ref a0c)])) rfl rfl (hb hby d17_12) _ ?_
    show Steps p.tables e below (s₁.setTop (mkF m 13 #[.val (.ref a0c), .val (.int 0), .val (.ref a2b), .val (.int 0), .val (.int 2), .val (.int 0), .unset] [(.int c0)])) _
    refine XS.istore X0.here hx rfl (hb hby d17_13) rfl (l' := #[.val (.ref a0c), .val (.int 0), .val (.ref a2b), .val (.int 0), .val (.int 2), .val (.int 0), .val (.int c0)]) rfl ?_
    refine XS.iload X0.here hx rfl (hb hby d17_15) rfl ?_
    refine XS.sipush X0.here hx rfl (hb hby d17_17) ?_
    refine XS.icmpYes X0.here hx rfl (pc0 := 20) (pc' := 26) rfl (hb hby d17_20) rfl (flt hc0).2.2.2 (by decide) (by decide) ?_
    show Steps p.tables e below (s₁.setTop (mkF m 26 #[.val (.ref a0c), .val (.int 0), .val (.ref a2b), .val (.int 0), .val (.int 2), .val (.int 0), .val (.int c0)] [])) _
    refine XS.aloadN X0.here hx rfl (hb hby d17_26) rfl rfl ?_
    refine XS.iloadN X0.here hx rfl (hb hby d17_27) rfl ?_
    refine XS.iload X0.here hx rfl (hb hby d17_28) rfl ?_
    refine XS.i2b X0.here hx rfl (hb hby d17_30) rfl ?_
    show Steps p.tables e below (s₁.setTop (mkF m 31 #[.val (.ref a0c), .val (.int 0), .val (.ref a2b), .val (.int 0), .val (.int 2), .val (.int 0), .val (.int c0)] [(.int (c0.toInt8.toInt32)), (.int 0), (.ref a2b)])) _
    refine st2 _ ?_
    show Steps p.tables e below (T2.setTop (mkF m 32 #[.val (.ref a0c), .val (.int 0), .val (.ref a2b), .val (.int 0), .val (.int 2), .val (.int 0), .val (.int c0)] [])) _
    refine XS.iinc X2.here hx rfl (hb hby d17_32) rfl (l' := #[.val (.ref a0c), .val (.int 1), .val (.ref a2b), .val (.int 0), .val (.int 2), .val (.int 0), .val (.int c0)]) rfl ?_
    refine XS.iinc X2.here hx rfl (hb hby d17_35) rfl (l' := #[.val (.ref a0c), .val (.int 1), .val (.ref a2b), .val (.int 1), .val (.int 2), .val (.int 0), .val (.int c0)]) rfl ?_
    refine XS.iinc X2.here hx rfl (hb hby d17_38) rfl (l' := #[.val (.ref a0c), .val (.int 1), .val (.ref a2b), .val (.int 1), .val (.int 2), .val (.int 1), .val (.int c0)]) rfl ?_
    refine XS.goto X2.here hx rfl (pc0 := 41) (pc' := 3) rfl (hb hby d17_41) (by decide) (by decide) ?_
    show Steps p.tables e below (T2.setTop (mkF m 3 #[.val (.ref a0c), .val (.int 1), .val (.ref a2b), .val (.int 1), .val (.int 2), .val (.int 1), .val (.int c0)] [])) _
    refine XS.iload X2.here hx rfl (hb hby d17_3) rfl ?_
    refine XS.iload X2.here hx rfl (hb hby d17_5) rfl ?_
    refine XS.icmpNo X2.here hx rfl (hb hby d17_7) rfl (tlt (by decide : (1 : Int32) < (2 : Int32))).2.1 ?_
    refine XS.aloadN X2.here hx rfl (hb hby d17_10) rfl rfl ?_
    show Steps p.tables e below (T2.setTop (mkF m 11 #[.val (.ref a0c), .val (.int 1), .val (.ref a2b), .val (.int 1), .val (.int 2), .val (.int 1), .val (.int c0)] [(.ref a0c)])) _
    refine XS.iloadN X2.here hx rfl (hb hby d17_11) rfl ?_
    show Steps p.tables e below (T2.setTop (mkF m 12 #[.val (.ref a0c), .val (.int 1), .val (.ref a2b), .val (.int 1), .val (.int 2), .val (.int 1), .val (.int c0)] [(.int 1), (.ref a0c)])) _
    refine X2.caload hx (j := (1 : Int32)) (v := (.int c1)) (by rw [e2]; exact Ar3.1) (State.isArrayOf_alike hZ.alike Ar3.2.1) Ar3.2.2 hin3 hat3 (g := (mkF m 12 #[.val (.ref a0c), .val (.int 1), .val (.ref a2b), .val (.int 1), .val (.int 2), .val (.int 1), .val (.int c0)] [(.int 1), (.ref a0c)])) rfl rfl (hb hby d17_12) _ ?_
    show Steps p.tables e below (T2.setTop (mkF m 13 #[.val (.ref a0c), .val (.int 1), .val (.ref a2b), .val (.int 1), .val (.int 2), .val (.int 1), .val (.int c0)] [(.int c1)])) _
    refine XS.istore X2.here hx rfl (hb hby d17_13) rfl (l' := #[.val (.ref a0c), .val (.int 1), .val (.ref a2b), .val (.int 1), .val (.int 2), .val (.int 1), .val (.int c1)]) rfl ?_
    refine XS.iload X2.here hx rfl (hb hby d17_15) rfl ?_
    refine XS.sipush X2.here hx rfl (hb hby d17_17) ?_
    refine XS.icmpYes X2.here hx rfl (pc0 := 20) (pc' := 26) rfl (hb hby d17_20) rfl (flt hc1).2.2.2 (by decide) (by decide) ?_
    show Steps p.tables e below (T2.setTop (mkF m 26 #[.val (.ref a0c), .val (.int 1), .val (.ref a2b), .val (.int 1), .val (.int 2), .val (.int 1), .val (.int c1)] [])) _
    refine XS.aloadN X2.here hx rfl (hb hby d17_26) rfl rfl ?_
    refine XS.iloadN X2.here hx rfl (hb hby d17_27) rfl ?_
    refine XS.iload X2.here hx rfl (hb hby d17_28) rfl ?_
    refine XS.i2b X2.here hx rfl (hb hby d17_30) rfl ?_
    show Steps p.tables e below (T2.setTop (mkF m 31 #[.val (.ref a0c), .val (.int 1), .val (.ref a2b), .val (.int 1), .val (.int 2), .val (.int 1), .val (.int c1)] [(.int (c1.toInt8.toInt32)), (.int 1), (.ref a2b)])) _
    refine st4 _ ?_
    show Steps p.tables e below (T4.setTop (mkF m 32 #[.val (.ref a0c), .val (.int 1), .val (.ref a2b), .val (.int 1), .val (.int 2), .val (.int 1), .val (.int c1)] [])) _
    refine XS.iinc X4.here hx rfl (hb hby d17_32) rfl (l' := #[.val (.ref a0c), .val (.int 2), .val (.ref a2b), .val (.int 1), .val (.int 2), .val (.int 1), .val (.int c1)]) rfl ?_
    refine XS.iinc X4.here hx rfl (hb hby d17_35) rfl (l' := #[.val (.ref a0c), .val (.int 2), .val (.ref a2b), .val (.int 2), .val (.int 2), .val (.int 1), .val (.int c1)]) rfl ?_
    refine XS.iinc X4.here hx rfl (hb hby d17_38) rfl (l' := #[.val (.ref a0c), .val (.int 2), .val (.ref a2b), .val (.int 2), .val (.int 2), .val (.int 2), .val (.int c1)]) rfl ?_
    refine XS.goto X4.here hx rfl (pc0 := 41) (pc' := 3) rfl (hb hby d17_41) (by decide) (by decide) ?_
    show Steps p.tables e below (T4.setTop (mkF m 3 #[.val (.ref a0c), .val (.int 2), .val (.ref a2b), .val (.int 2), .val (.int 2), .val (.int 2), .val (.int c1)] [])) _
    refine XS.iload X4.here hx rfl (hb hby d17_3) rfl ?_
    refine XS.iload X4.here hx rfl (hb hby d17_5) rfl ?_
    refine XS.icmpYes X4.here hx rfl (pc0 := 7) (pc' := 44) rfl (hb hby d17_7) rfl (flt (by decide : ¬ ((2 : Int32) < (2 : Int32)))).2.1 (by decide) (by decide) ?_
    refine XS.iload X4.here hx rfl (hb hby d17_44) rfl ?_
    show Steps p.tables e below (T4.setTop (mkF m 46 #[.val (.ref a0c), .val (.int 2), .val (.ref a2b), .val (.int 2), .val (.int 2), .val (.int 2), .val (.int c1)] [(.int 2)])) _
    exact retI X4 hx Bd.returns (hb hby d17_46) hr
  · show Q_rmC2_2 n0 Z cS a0c a2b k0 k2 c0 c1 h0 _ T4.heap _
    rw [e4]
    exact ⟨rfl, N4, K4, V4⟩
theorem ef_rmC1_2 (m : MethodId) (a0c : Addr) : entryFrame m #[(.ref a0c), (.int 0), (.int 2)] 6 = mkF m 0 #[.val (.ref a0c), .val (.int 0), .val (.int 2), .unset, .unset, .unset] [] := by first | (simp [entryFrame, mkF, argsToLocals, Value.category]; done) | rfl
def Q_rmC1_2 (n0 : Nat) (Z : State) (cS : Int32) (a0c : Addr) (k0 : ClassId) (c0 : Int32) (c1 : Int32) (h0 : Heap) (v : Option Value) (h : Heap) (L : List Loc) : Prop := ∃ b : Addr, ∃ kb : ClassId, v = some (.ref b) ∧ Fr n0 L ∧ Keep h0 h [] ∧ (h0.size ≤ b) ∧ (Exa Z h b "[B") ∧ (Arv Z h b kb .byte (2 : Int32) [(.int (c0.toInt8.toInt32)), (.int (c1.toInt8.toInt32))] (.int 0))
set_option maxRecDepth 65536 in
set_option maxHeartbeats 40000000 in
theorem rmC1_2 (l : Launch) (Z : State) (a0 : Array Value) (hw : ∀ d ∈ tables_1, d.before a0 Z = true) (ws : List Jvm.Cond) (cS : Int32) (a0c : Addr) (k0 : ClassId) (c0 : Int32) (c1 : Int32) (h0 : Heap) (n0 : Nat) (O0 : Old Z n0 h0) (GL : GF Z cS) (V_a0c : Arv Z h0 a0c k0 .char (2 : Int32) [(.int c0), (.int c1)] (.int 0)) (hc0 : ¬ ((255 : Int32) < c0)) (hc1 : ¬ ((255 : Int32) < c1)) :
    MetFree l MN_1 (head1 (Jvm.Cond.code MN_1 jdk_52_method_16_code 6 (some (.array .byte)) :: ws) ({ frames := 1, cells := 1, slots := 2, locals := 18 } : Room)) (fun a U => a = #[(.ref a0c), (.int 0), (.int 2)] ∧ Z.Warmed39 U.vm ∧ U.heap = h0) (fun _ _ _ _ _ => True) (fun _ U o U' => ∃ v L, o = .returned v ∧ Q_rmC1_2 n0 Z cS a0c k0 c0 c1 h0 v U'.heap L ∧ FrameEnd U o U' L ({ frames := 1, cells := 1, slots := 2, locals := 18 } : Room).cells ({ frames := 1, cells := 1, slots := 2, locals := 18 } : Room).slots) := by
  refine MetFree.of_bodySF (plainFor_of_name pn) hisR ?_
  intro p e s m args below meth c s₁ Bd hml0 hP hK
  obtain ⟨rfl, hZ, hh⟩ := hP
  have hx := Bd.exec
  have hby := Bd.bytes
  have hml : c.maxLocals = 6 := hml0
  have hown : s.vm.findClass "java/lang/StringUTF16" = some m.cls := findClass_of_methodNamed Bd.named
  have hnm := (name_of_methodNamed Bd.named Bd.method).1
  have X0 : Stand p l e ({ frames := 1, cells := 1, slots := 2, locals := 18 } : Room) s m #[(.ref a0c), (.int 0), (.int 2)] below meth c s₁ [] 0 0 := Stand.of_body Bd
  have e0 : s₁.heap = h0 := by rw [← hh, Bd.state]; rfl
  have N0 := Fr.nil n0
  have pre0 : ∀ t, Steps p.tables e below (s₁.setTop (mkF m 0 #[.val (.ref a0c), .val (.int 0), .val (.int 2), .unset, .unset, .unset] [])) t → Steps p.tables e below (s₁.setTop (entryFrame m #[(.ref a0c), (.int 0), (.int 2)] 6)) t := fun t k => castTop (ef_rmC1_2 m a0c) k
  have GL' := GL
  obtain ⟨GCS, GCP⟩ := GL'
  obtain ⟨T1, h1, k1, X1, e1, E1, A1, A1', st1⟩ := newPE X0 hx hZ (Wd hw 23 rfl) e0 (g := (mkF m 1 #[.val (.ref a0c), .val (.int 0), .val (.int 2), .unset, .unset, .unset] [(.int 2)])) rfl (hb hby d16_1) rfl (by decide) (cap := 2) (by decide) (by decide) (by decide) (by decide) (ad := "[B") rfl
  obtain ⟨b1, g1⟩ : ∃ z, z = h0.size := ⟨_, rfl⟩
  rw [← g1] at A1 A1' st1
  have g_b1 : n0 ≤ b1 := Nat.le_trans (own_sz O0) (Nat.le_of_eq g1.symm)
  have sz_b1 : h0.size ≤ b1 := Nat.le_trans (Keep.refl h0 []).1 (Nat.le_of_eq g1.symm)
  have K1 : Keep h0 h1 [] := (Keep.refl h0 []).ext E1
  have O1 := O0.ext E1
  have V_b1 : Arv Z h1 b1 k1 .byte (2 : Int32) [(.int 0), (.int 0)] (.int 0) := (Arv.new A1 (by decide)).pad (pad_rep [] (.int 0) 2)
  obtain ⟨_, _, ⟨T2, L2, k2, n2⟩, -, X2, ⟨Lc2, hQ2, l2, y2, z2⟩, st2⟩ := Jvm.LawKit.callS X1 hx (y := MN_0) hown (mvT hZ (Wd hw 79 rfl)) (mvT hZ (Wd hw 80 rfl)) (mvT hZ (Wd hw 77 rfl)) (mvT hZ (Wd hw 81 rfl)) (by decide) (backOf (W := 0) (rmC2_2 l Z a0 hw [] cS (a0c) (b1) (k0) (k1) (c0) (c1) (h1) n0 O1 GL (V_a0c.ext E1) V_b1 g_b1 hc0 hc1) hZ (Wd hw 81 rfl) (Wd hw 77 rfl) (by decide) (by decide)) (g := (mkF m 9 #[.val (.ref a0c), .val (.int 0), .val (.int 2), .val (.ref b1), .unset, .unset] [(.int 2), (.int 0), (.ref b1), (.int 0), (.ref a0c)])) rfl (by rw [hml]; rfl) (argsL := [(.ref a0c), (.int 0), (.ref b1), (.int 0), (.int 2)]) (rest := []) (lenOf pd rfl) rfl (by show 2 * 0 + _ ≤ _; exact Nat.le_of_eq rfl) (hb hby d16_9) (fun _ _ => ⟨rfl, e1, (by decide : 1 + 0 ≤ _), (by decide : 2 + 0 ≤ _)⟩)
  dsimp only [Pt.U, Pt.locs, Pt.cells, Pt.slots] at X2 l2 y2 z2 st2 hQ2
  subst l2 y2 z2
  obtain ⟨rfl, N2q, Kc2, P2_0⟩ := hQ2
  have K2 : Keep h0 T2.heap [] := K1.trans Kc2 (allS (Or.inr sz_b1) all0)
  have O2 := O1.keep Kc2 (allS g_b1 all0)
  have N2 := Fr.app N0 N2q
  obtain ⟨fs, hr, hrun, hended, hW, hsame⟩ := X2.leave (v := some (.ref b1)) (fun h => by rw [Bd.returns] at h; cases h)
  refine ⟨_, _, pre0 _ ?_, hrun, hended, _, _, rfl, ?_, ⟨_, rfl⟩, hW, hsame.mono (by decide) (by decide)⟩
  · show Steps p.tables e below (s₁.setTop (mkF m 0 #[.val (.ref a0c), .val (.int 0), .val (.int 2), .unset, .unset, .unset] [])) _
    refine XS.iloadN X0.here hx rfl (hb hby d16_0) rfl ?_
    show Steps p.tables e below (s₁.setTop (mkF m 1 #[.val (.ref a0c), .val (.int 0), .val (.int 2), .unset, .unset, .unset] [(.int 2)])) _
    refine st1 _ ?_
    show Steps p.tables e below (T1.setTop (mkF m 3 #[.val (.ref a0c), .val (.int 0), .val (.int 2), .unset, .unset, .unset] [(.ref b1)])) _
    refine XS.astoreN X1.here hx rfl (hb hby d16_3) rfl rfl (l' := #[.val (.ref a0c), .val (.int 0), .val (.int 2), .val (.ref b1), .unset, .unset]) rfl ?_
    refine XS.aloadN X1.here hx rfl (hb hby d16_4) rfl rfl ?_
    refine XS.iloadN X1.here hx rfl (hb hby d16_5) rfl ?_
    refine XS.aloadN X1.here hx rfl (hb hby d16_6) rfl rfl ?_
    show Steps p.tables e below (T1.setTop (mkF m 7 #[.val (.ref a0c), .val (.int 0), .val (.int 2), .val (.ref b1), .unset, .unset] [(.ref b1), (.int 0), (.ref a0c)])) _
    refine XS.iconst X1.here hx rfl (hb hby d16_7) ?_
    refine XS.iloadN X1.here hx rfl (hb hby d16_8) rfl ?_
    show Steps p.tables e below (T1.setTop (mkF m 9 #[.val (.ref a0c), .val (.int 0), .val (.int 2), .val (.ref b1), .unset, .unset] [(.int 2), (.int 0), (.ref b1), (.int 0), (.ref a0c)])) _
    refine st2 _ ?_
    show Steps p.tables e below (T2.setTop (mkF m 12 #[.val (.ref a0c), .val (.int 0), .val (.int 2), .val (.ref b1), .unset, .unset] [(.int 2)])) _
    refine XS.istore X2.here hx rfl (hb hby d16_12) rfl (l' := #[.val (.ref a0c), .val (.int 0), .val (.int 2), .val (.ref b1), .val (.int 2), .unset]) rfl ?_
    refine XS.iload X2.here hx rfl (hb hby d16_14) rfl ?_
    refine XS.iloadN X2.here hx rfl (hb hby d16_16) rfl ?_
    refine XS.icmpYes X2.here hx rfl (pc0 := 17) (pc' := 57) rfl (hb hby d16_17) rfl (teq (by decide : (2 : Int32) = (2 : Int32))).1 (by decide) (by decide) ?_
    show Steps p.tables e below (T2.setTop (mkF m 57 #[.val (.ref a0c), .val (.int 0), .val (.int 2), .val (.ref b1), .val (.int 2), .unset] [])) _
    refine XS.aloadN X2.here hx rfl (hb hby d16_57) rfl rfl ?_
    show Steps p.tables e below (T2.setTop (mkF m 58 #[.val (.ref a0c), .val (.int 0), .val (.int 2), .val (.ref b1), .val (.int 2), .unset] [(.ref b1)])) _
    jvm_step X2.here [X2.here.top, hx, (hb hby d16_58), X2.method', Bd.returns, Value.isRef, FieldType.isReference]
    first | (intro acts; rw [hr _ acts rfl rfl rfl]) | rw [hr _ _ rfl rfl rfl]
    exact Steps.refl _
  · show Q_rmC1_2 n0 Z cS a0c k0 c0 c1 h0 _ T2.heap _
    exact ⟨b1, k1, rfl, N2, K2, sz_b1, (A1'.keep Kc2), P2_0⟩
theorem ef_rmC2_3 (m : MethodId) (a0c : Addr) (a2b : Addr) : entryFrame m #[(.ref a0c), (.int 0), (.ref a2b), (.int 0), (.int 3)] 7 = mkF m 0 #[.val (.ref a0c), .val (.int 0), .val (.ref a2b), .val (.int 0), .val (.int 3), .unset, .unset] [] := by first | (simp [entryFrame, mkF, argsToLocals, Value.category]; done) | rfl
def Q_rmC2_3 (n0 : Nat) (Z : State) (cS : Int32) (a0c : Addr) (a2b : Addr) (k0 : ClassId) (k2 : ClassId) (c0 : Int32) (c1 : Int32) (c2 : Int32) (h0 : Heap) (v : Option Value) (h : Heap) (L : List Loc) : Prop := v = some (.int 3) ∧ Fr n0 L ∧ Keep h0 h [a2b] ∧ (Arv Z h a2b k2 .byte (3 : Int32) [(.int (c0.toInt8.toInt32)), (.int (c1.toInt8.toInt32)), (.int (c2.toInt8.toInt32))] (.int 0))
set_option maxRecDepth 65536 in
set_option maxHeartbeats 40000000 in
theorem rmC2_3 (l : Launch) (Z : State) (a0 : Array Value) (hw : ∀ d ∈ tables_1, d.before a0 Z = true) (ws : List Jvm.Cond) (cS : Int32) (a0c : Addr) (a2b : Addr) (k0 : ClassId) (k2 : ClassId) (c0 : Int32) (c1 : Int32) (c2 : Int32) (h0 : Heap) (n0 : Nat) (O0 : Old Z n0 h0) (GL : GF Z cS) (V_a0c : Arv Z h0 a0c k0 .char (3 : Int32) [(.int c0), (.int c1), (.int c2)] (.int 0)) (V_a2b : Arv Z h0 a2b k2 .byte (3 : Int32) [(.int 0), (.int 0), (.int 0)] (.int 0)) (g_a2b : n0 ≤ a2b) (hc0 : ¬ ((255 : Int32) < c0)) (hc1 : ¬ ((255 : Int32) < c1)) (hc2 : ¬ ((255 : Int32) < c2)) :
    MetFree l MN_0 (head1 (Jvm.Cond.code MN_0 jdk_52_method_21_code 7 (some .int) :: ws) ({ frames := 0, cells := 0, slots := 0, locals := 0 } : Room)) (fun a U => a = #[(.ref a0c), (.int 0), (.ref a2b), (.int 0), (.int 3)] ∧ Z.Warmed39 U.vm ∧ U.heap = h0) (fun _ _ _ _ _ => True) (fun _ U o U' => ∃ v L, o = .returned v ∧ Q_rmC2_3 n0 Z cS a0c a2b k0 k2 c0 c1 c2 h0 v U'.heap L ∧ FrameEnd U o U' L ({ frames := 0, cells := 0, slots := 0, locals := 0 } : Room).cells ({ frames := 0, cells := 0, slots := 0, locals := 0 } : Room).slots) := by
  refine MetFree.of_bodySF (plainFor_of_name pn) hisR ?_
  intro p e s m args below meth c s₁ Bd hml0 hP hK
  obtain ⟨rfl, hZ, hh⟩ := hP
  have hx := Bd.exec
  have hby := Bd.bytes
  have hml : c.maxLocals = 7 := hml0
  have hown : s.vm.findClass "java/lang/StringUTF16" = some m.cls := findClass_of_methodNamed Bd.named
  have hnm := (name_of_methodNamed Bd.named Bd.method).1
  have X0 : Stand p l e ({ frames := 0, cells := 0, slots := 0, locals := 0 } : Room) s m #[(.ref a0c), (.int 0), (.ref a2b), (.int 0), (.int 3)] below meth c s₁ [] 0 0 := Stand.of_body Bd
  have e0 : s₁.heap = h0 := by rw [← hh, Bd.state]; rfl
  have N0 := Fr.nil n0
  have pre0 : ∀ t, Steps p.tables e below (s₁.setTop (mkF m 0 #[.val (.ref a0c), .val (.int 0), .val (.ref a2b), .val (.int 0), .val (.int 3), .unset, .unset] [])) t → Steps p.tables e below (s₁.setTop (entryFrame m #[(.ref a0c), (.int 0), (.ref a2b), (.int 0), (.int 3)] 7)) t := fun t k => castTop (ef_rmC2_3 m a0c a2b) k
  have GL' := GL
  obtain ⟨GCS, GCP⟩ := GL'
  obtain ⟨cl1, Ar1, -, S1, N1_, H1, G1⟩ := id (V_a0c)
  have hin1 : ¬ ((0 : Int32) < 0 ∨ cl1.slots.size ≤ ((0 : Int32)).toNatClampNeg) := inb_of S1 ⟨(by decide), (by decide)⟩
  have hat1 : cl1.slots[((0 : Int32)).toNatClampNeg]? = some (.int c0) := H1.at hin1 rfl
  obtain ⟨cl2, Ar2, q2, S2, N2_, H2, G2⟩ := id (V_a2b)
  have hin2 : ¬ ((0 : Int32) < 0 ∨ cl2.slots.size ≤ ((0 : Int32)).toNatClampNeg) := inb_of S2 ⟨(by decide), (by decide)⟩
  obtain ⟨T2, h2, X2, e2, W2, st2⟩ := stB X0 hx hZ e0 Ar2 (j := (0 : Int32)) hin2 (g := (mkF m 31 #[.val (.ref a0c), .val (.int 0), .val (.ref a2b), .val (.int 0), .val (.int 3), .val (.int 0), .val (.int c0)] [(.int (c0.toInt8.toInt32)), (.int 0), (.ref a2b)])) rfl rfl (hb hby d17_31)
  have K2 : Keep h0 h2 [a2b] := (Keep.refl h0 [a2b]).wr W2 (Or.inl (List.mem_of_getElem? (i := 0) rfl))
  have O2 := O0.wr W2 g_a2b
  have N2 := Fr.snoc X2 N0 g_a2b
  have V2' : Arv Z h2 a2b k2 .byte (3 : Int32) [(.int ((c0.toInt8.toInt32)).toInt8.toInt32), (.int 0), (.int 0)] (.int 0) := Arv.set Ar2 q2 S2 N2_ H2 G2 (fits_nar_byte _) W2 0 rfl (Nat.le_of_ble_eq_true rfl)
  have V2 : Arv Z h2 a2b k2 .byte (3 : Int32) [(.int (c0.toInt8.toInt32)), (.int 0), (.int 0)] (.int 0) := by
    rw [own_b2 c0] at V2'
    exact V2'
  obtain ⟨cl3, Ar3, -, S3, N3_, H3, G3⟩ := id ((V_a0c.other W2 (own_neArv V_a0c V_a2b (by decide))))
  have hin3 : ¬ ((1 : Int32) < 0 ∨ cl3.slots.size ≤ ((1 : Int32)).toNatClampNeg) := inb_of S3 ⟨(by decide), (by decide)⟩
  have hat3 : cl3.slots[((1 : Int32)).toNatClampNeg]? = some (.int c1) := H3.at hin3 rfl
  obtain ⟨cl4, Ar4, q4, S4, N4_, H4, G4⟩ := id (V2)
  have hin4 : ¬ ((1 : Int32) < 0 ∨ cl4.slots.size ≤ ((1 : Int32)).toNatClampNeg) := inb_of S4 ⟨(by decide), (by decide)⟩
  obtain ⟨T4, h4, X4, e4, W4, st4⟩ := stB X2 hx hZ e2 Ar4 (j := (1 : Int32)) hin4 (g := (mkF m 31 #[.val (.ref a0c), .val (.int 1), .val (.ref a2b), .val (.int 1), .val (.int 3), .val (.int 1), .val (.int c1)] [(.int (c1.toInt8.toInt32)), (.int 1), (.ref a2b)])) rfl rfl (hb hby d17_31)
  have K4 : Keep h0 h4 [a2b] := K2.wr W4 (Or.inl (List.mem_of_getElem? (i := 0) rfl))
  have O4 := O2.wr W4 g_a2b
  have N4 := Fr.snoc X4 N2 g_a2b
  have V4' : Arv Z h4 a2b k2 .byte (3 : Int32) [(.int (c0.toInt8.toInt32)), (.int ((c1.toInt8.toInt32)).toInt8.toInt32), (.int 0)] (.int 0) := Arv.set Ar4 q4 S4 N4_ H4 G4 (fits_nar_byte _) W4 1 rfl (Nat.le_of_ble_eq_true rfl)
  have V4 : Arv Z h4 a2b k2 .byte (3 : Int32) [(.int (c0.toInt8.toInt32)), (.int (c1.toInt8.toInt32)), (.int 0)] (.int 0) := by
    rw [own_b2 c1] at V4'
    exact V4'
  obtain ⟨cl5, Ar5, -, S5, N5_, H5, G5⟩ := id (((V_a0c.other W2 (own_neArv V_a0c V_a2b (by decide))).other W4 (own_neArv V_a0c V_a2b (by decide))))
  have hin5 : ¬ ((2 : Int32) < 0 ∨ cl5.slots.size ≤ ((2 : Int32)).toNatClampNeg) := inb_of S5 ⟨(by decide), (by decide)⟩
  have hat5 : cl5.slots[((2 : Int32)).toNatClampNeg]? = some (.int c2) := H5.at hin5 rfl
  obtain ⟨cl6, Ar6, q6, S6, N6_, H6, G6⟩ := id (V4)
  have hin6 : ¬ ((2 : Int32) < 0 ∨ cl6.slots.size ≤ ((2 : Int32)).toNatClampNeg) := inb_of S6 ⟨(by decide), (by decide)⟩
  obtain ⟨T6, h6, X6, e6, W6, st6⟩ := stB X4 hx hZ e4 Ar6 (j := (2 : Int32)) hin6 (g := (mkF m 31 #[.val (.ref a0c), .val (.int 2), .val (.ref a2b), .val (.int 2), .val (.int 3), .val (.int 2), .val (.int c2)] [(.int (c2.toInt8.toInt32)), (.int 2), (.ref a2b)])) rfl rfl (hb hby d17_31)
  have K6 : Keep h0 h6 [a2b] := K4.wr W6 (Or.inl (List.mem_of_getElem? (i := 0) rfl))
  have O6 := O4.wr W6 g_a2b
  have N6 := Fr.snoc X6 N4 g_a2b
  have V6' : Arv Z h6 a2b k2 .byte (3 : Int32) [(.int (c0.toInt8.toInt32)), (.int (c1.toInt8.toInt32)), (.int ((c2.toInt8.toInt32)).toInt8.toInt32)] (.int 0) := Arv.set Ar6 q6 S6 N6_ H6 G6 (fits_nar_byte _) W6 2 rfl (Nat.le_of_ble_eq_true rfl)
  have V6 : Arv Z h6 a2b k2 .byte (3 : Int32) [(.int (c0.toInt8.toInt32)), (.int (c1.toInt8.toInt32)), (.int (c2.toInt8.toInt32))] (.int 0) := by
    rw [own_b2 c2] at V6'
    exact V6'
  obtain ⟨fs, hr, hrun, hended, hW, hsame⟩ := X6.leave (v := some (.int 3)) (fun h => by rw [Bd.returns] at h; cases h)
  refine ⟨_, _, pre0 _ ?_, hrun, hended, _, _, rfl, ?_, ⟨_, rfl⟩, hW, hsame.mono (by decide) (by decide)⟩
  · show Steps p.tables e below (s₁.setTop (mkF m 0 #[.val (.ref a0c), .val (.int 0), .val (.ref a2b), .val (.int 0), .val (.int 3), .unset, .unset] [])) _
    refine XS.iconst X0.here hx rfl (hb hby d17_0) ?_
    refine XS.istore X0.here hx rfl (hb hby d17_1) rfl (l' := #[.val (.ref a0c), .val (.int 0), .val (.ref a2b), .val (.int 0), .val (.int 3), .val (.int 0), .unset]) rfl ?_
    refine XS.iload X0.here hx rfl (hb hby d17_3) rfl ?_
    refine XS.iload X0.here hx rfl (hb hby d17_5) rfl ?_
    show Steps p.tables e below (s₁.setTop (mkF m 7 #[.val (.ref a0c), .val (.int 0), .val (.ref a2b), .val (.int 0), .val (.int 3), .val (.int 0), .unset] [(.int 3), (.int 0)])) _
    refine XS.icmpNo X0.here hx rfl (hb hby d17_7) rfl (tlt (by decide : (0 : Int32) < (3 : Int32))).2.1 ?_
    refine XS.aloadN X0.here hx rfl (hb hby d17_10) rfl rfl ?_
    refine XS.iloadN X0.here hx rfl (hb hby d17_11) rfl ?_
    show Steps p.tables e below (s₁.setTop (mkF m 12 #[.val (.ref a0c), .val (.int 0), .val (.ref a2b), .val (.int 0), .val (.int 3), .val (.int 0), .unset] [(.int 0), (.ref a0c)])) _
    refine X0.caload hx (j := (0 : Int32)) (v := (.int c0)) (by rw [e0]; exact Ar1.1) (State.isArrayOf_alike hZ.alike Ar1.2.1) Ar1.2.2 hin1 hat1 (g := (mkF m 12 #[.val (.ref a0c), .val (.int 0), .val (.ref a2b), .val (.int 0), .val (.int 3), .val (.int 0), .unset] [(.int 0), (.ref a0c)])) rfl rfl (hb hby d17_12) _ ?_
    show Steps p.tables e below (s₁.setTop (mkF m 13 #[.val (.ref a0c), .val (.int 0), .val (.ref a2b), .val (.int 0), .val (.int 3), .val (.int 0), .unset] [(.int c0)])) _
    refine XS.istore X0.here hx rfl (hb hby d17_13) rfl (l' := #[.val (.ref a0c), .val (.int 0), .val (.ref a2b), .val (.int 0), .val (.int 3), .val (.int 0), .val (.int c0)]) rfl ?_
    refine XS.iload X0.here hx rfl (hb hby d17_15) rfl ?_
    refine XS.sipush X0.here hx rfl (hb hby d17_17) ?_
    refine XS.icmpYes X0.here hx rfl (pc0 := 20) (pc' := 26) rfl (hb hby d17_20) rfl (flt hc0).2.2.2 (by decide) (by decide) ?_
    show Steps p.tables e below (s₁.setTop (mkF m 26 #[.val (.ref a0c), .val (.int 0), .val (.ref a2b), .val (.int 0), .val (.int 3), .val (.int 0), .val (.int c0)] [])) _
    refine XS.aloadN X0.here hx rfl (hb hby d17_26) rfl rfl ?_
    refine XS.iloadN X0.here hx rfl (hb hby d17_27) rfl ?_
    refine XS.iload X0.here hx rfl (hb hby d17_28) rfl ?_
    refine XS.i2b X0.here hx rfl (hb hby d17_30) rfl ?_
    show Steps p.tables e below (s₁.setTop (mkF m 31 #[.val (.ref a0c), .val (.int 0), .val (.ref a2b), .val (.int 0), .val (.int 3), .val (.int 0), .val (.int c0)] [(.int (c0.toInt8.toInt32)), (.int 0), (.ref a2b)])) _
    refine st2 _ ?_
    show Steps p.tables e below (T2.setTop (mkF m 32 #[.val (.ref a0c), .val (.int 0), .val (.ref a2b), .val (.int 0), .val (.int 3), .val (.int 0), .val (.int c0)] [])) _
    refine XS.iinc X2.here hx rfl (hb hby d17_32) rfl (l' := #[.val (.ref a0c), .val (.int 1), .val (.ref a2b), .val (.int 0), .val (.int 3), .val (.int 0), .val (.int c0)]) rfl ?_
    refine XS.iinc X2.here hx rfl (hb hby d17_35) rfl (l' := #[.val (.ref a0c), .val (.int 1), .val (.ref a2b), .val (.int 1), .val (.int 3), .val (.int 0), .val (.int c0)]) rfl ?_
    refine XS.iinc X2.here hx rfl (hb hby d17_38) rfl (l' := #[.val (.ref a0c), .val (.int 1), .val (.ref a2b), .val (.int 1), .val (.int 3), .val (.int 1), .val (.int c0)]) rfl ?_
    refine XS.goto X2.here hx rfl (pc0 := 41) (pc' := 3) rfl (hb hby d17_41) (by decide) (by decide) ?_
    show Steps p.tables e below (T2.setTop (mkF m 3 #[.val (.ref a0c), .val (.int 1), .val (.ref a2b), .val (.int 1), .val (.int 3), .val (.int 1), .val (.int c0)] [])) _
    refine XS.iload X2.here hx rfl (hb hby d17_3) rfl ?_
    refine XS.iload X2.here hx rfl (hb hby d17_5) rfl ?_
    refine XS.icmpNo X2.here hx rfl (hb hby d17_7) rfl (tlt (by decide : (1 : Int32) < (3 : Int32))).2.1 ?_
    refine XS.aloadN X2.here hx rfl (hb hby d17_10) rfl rfl ?_
    show Steps p.tables e below (T2.setTop (mkF m 11 #[.val (.ref a0c), .val (.int 1), .val (.ref a2b), .val (.int 1), .val (.int 3), .val (.int 1), .val (.int c0)] [(.ref a0c)])) _
    refine XS.iloadN X2.here hx rfl (hb hby d17_11) rfl ?_
    show Steps p.tables e below (T2.setTop (mkF m 12 #[.val (.ref a0c), .val (.int 1), .val (.ref a2b), .val (.int 1), .val (.int 3), .val (.int 1), .val (.int c0)] [(.int 1), (.ref a0c)])) _
    refine X2.caload hx (j := (1 : Int32)) (v := (.int c1)) (by rw [e2]; exact Ar3.1) (State.isArrayOf_alike hZ.alike Ar3.2.1) Ar3.2.2 hin3 hat3 (g := (mkF m 12 #[.val (.ref a0c), .val (.int 1), .val (.ref a2b), .val (.int 1), .val (.int 3), .val (.int 1), .val (.int c0)] [(.int 1), (.ref a0c)])) rfl rfl (hb hby d17_12) _ ?_
    show Steps p.tables e below (T2.setTop (mkF m 13 #[.val (.ref a0c), .val (.int 1), .val (.ref a2b), .val (.int 1), .val (.int 3), .val (.int 1), .val (.int c0)] [(.int c1)])) _
    refine XS.istore X2.here hx rfl (hb hby d17_13) rfl (l' := #[.val (.ref a0c), .val (.int 1), .val (.ref a2b), .val (.int 1), .val (.int 3), .val (.int 1), .val (.int c1)]) rfl ?_
    refine XS.iload X2.here hx rfl (hb hby d17_15) rfl ?_
    refine XS.sipush X2.here hx rfl (hb hby d17_17) ?_
    refine XS.icmpYes X2.here hx rfl (pc0 := 20) (pc' := 26) rfl (hb hby d17_20) rfl (flt hc1).2.2.2 (by decide) (by decide) ?_
    show Steps p.tables e below (T2.setTop (mkF m 26 #[.val (.ref a0c), .val (.int 1), .val (.ref a2b), .val (.int 1), .val (.int 3), .val (.int 1), .val (.int c1)] [])) _
    refine XS.aloadN X2.here hx rfl (hb hby d17_26) rfl rfl ?_
    refine XS.iloadN X2.here hx rfl (hb hby d17_27) rfl ?_
    refine XS.iload X2.here hx rfl (hb hby d17_28) rfl ?_
    refine XS.i2b X2.here hx rfl (hb hby d17_30) rfl ?_
    show Steps p.tables e below (T2.setTop (mkF m 31 #[.val (.ref a0c), .val (.int 1), .val (.ref a2b), .val (.int 1), .val (.int 3), .val (.int 1), .val (.int c1)] [(.int (c1.toInt8.toInt32)), (.int 1), (.ref a2b)])) _
    refine st4 _ ?_
    show Steps p.tables e below (T4.setTop (mkF m 32 #[.val (.ref a0c), .val (.int 1), .val (.ref a2b), .val (.int 1), .val (.int 3), .val (.int 1), .val (.int c1)] [])) _
    refine XS.iinc X4.here hx rfl (hb hby d17_32) rfl (l' := #[.val (.ref a0c), .val (.int 2), .val (.ref a2b), .val (.int 1), .val (.int 3), .val (.int 1), .val (.int c1)]) rfl ?_
    refine XS.iinc X4.here hx rfl (hb hby d17_35) rfl (l' := #[.val (.ref a0c), .val (.int 2), .val (.ref a2b), .val (.int 2), .val (.int 3), .val (.int 1), .val (.int c1)]) rfl ?_
    refine XS.iinc X4.here hx rfl (hb hby d17_38) rfl (l' := #[.val (.ref a0c), .val (.int 2), .val (.ref a2b), .val (.int 2), .val (.int 3), .val (.int 2), .val (.int c1)]) rfl ?_
    refine XS.goto X4.here hx rfl (pc0 := 41) (pc' := 3) rfl (hb hby d17_41) (by decide) (by decide) ?_
    show Steps p.tables e below (T4.setTop (mkF m 3 #[.val (.ref a0c), .val (.int 2), .val (.ref a2b), .val (.int 2), .val (.int 3), .val (.int 2), .val (.int c1)] [])) _
    refine XS.iload X4.here hx rfl (hb hby d17_3) rfl ?_
    refine XS.iload X4.here hx rfl (hb hby d17_5) rfl ?_
    refine XS.icmpNo X4.here hx rfl (hb hby d17_7) rfl (tlt (by decide : (2 : Int32) < (3 : Int32))).2.1 ?_
    refine XS.aloadN X4.here hx rfl (hb hby d17_10) rfl rfl ?_
    show Steps p.tables e below (T4.setTop (mkF m 11 #[.val (.ref a0c), .val (.int 2), .val (.ref a2b), .val (.int 2), .val (.int 3), .val (.int 2), .val (.int c1)] [(.ref a0c)])) _
    refine XS.iloadN X4.here hx rfl (hb hby d17_11) rfl ?_
    show Steps p.tables e below (T4.setTop (mkF m 12 #[.val (.ref a0c), .val (.int 2), .val (.ref a2b), .val (.int 2), .val (.int 3), .val (.int 2), .val (.int c1)] [(.int 2), (.ref a0c)])) _
    refine X4.caload hx (j := (2 : Int32)) (v := (.int c2)) (by rw [e4]; exact Ar5.1) (State.isArrayOf_alike hZ.alike Ar5.2.1) Ar5.2.2 hin5 hat5 (g := (mkF m 12 #[.val (.ref a0c), .val (.int 2), .val (.ref a2b), .val (.int 2), .val (.int 3), .val (.int 2), .val (.int c1)] [(.int 2), (.ref a0c)])) rfl rfl (hb hby d17_12) _ ?_
    show Steps p.tables e below (T4.setTop (mkF m 13 #[.val (.ref a0c), .val (.int 2), .val (.ref a2b), .val (.int 2), .val (.int 3), .val (.int 2), .val (.int c1)] [(.int c2)])) _
    refine XS.istore X4.here hx rfl (hb hby d17_13) rfl (l' := #[.val (.ref a0c), .val (.int 2), .val (.ref a2b), .val (.int 2), .val (.int 3), .val (.int 2), .val (.int c2)]) rfl ?_
    refine XS.iload X4.here hx rfl (hb hby d17_15) rfl ?_
    refine XS.sipush X4.here hx rfl (hb hby d17_17) ?_
    refine XS.icmpYes X4.here hx rfl (pc0 := 20) (pc' := 26) rfl (hb hby d17_20) rfl (flt hc2).2.2.2 (by decide) (by decide) ?_
    show Steps p.tables e below (T4.setTop (mkF m 26 #[.val (.ref a0c), .val (.int 2), .val (.ref a2b), .val (.int 2), .val (.int 3), .val (.int 2), .val (.int c2)] [])) _
    refine XS.aloadN X4.here hx rfl (hb hby d17_26) rfl rfl ?_
    refine XS.iloadN X4.here hx rfl (hb hby d17_27) rfl ?_
    refine XS.iload X4.here hx rfl (hb hby d17_28) rfl ?_
    refine XS.i2b X4.here hx rfl (hb hby d17_30) rfl ?_
    show Steps p.tables e below (T4.setTop (mkF m 31 #[.val (.ref a0c), .val (.int 2), .val (.ref a2b), .val (.int 2), .val (.int 3), .val (.int 2), .val (.int c2)] [(.int (c2.toInt8.toInt32)), (.int 2), (.ref a2b)])) _
    refine st6 _ ?_
    show Steps p.tables e below (T6.setTop (mkF m 32 #[.val (.ref a0c), .val (.int 2), .val (.ref a2b), .val (.int 2), .val (.int 3), .val (.int 2), .val (.int c2)] [])) _
    refine XS.iinc X6.here hx rfl (hb hby d17_32) rfl (l' := #[.val (.ref a0c), .val (.int 3), .val (.ref a2b), .val (.int 2), .val (.int 3), .val (.int 2), .val (.int c2)]) rfl ?_
    refine XS.iinc X6.here hx rfl (hb hby d17_35) rfl (l' := #[.val (.ref a0c), .val (.int 3), .val (.ref a2b), .val (.int 3), .val (.int 3), .val (.int 2), .val (.int c2)]) rfl ?_
    refine XS.iinc X6.here hx rfl (hb hby d17_38) rfl (l' := #[.val (.ref a0c), .val (.int 3), .val (.ref a2b), .val (.int 3), .val (.int 3), .val (.int 3), .val (.int c2)]) rfl ?_
    refine XS.goto X6.here hx rfl (pc0 := 41) (pc' := 3) rfl (hb hby d17_41) (by decide) (by decide) ?_
    show Steps p.tables e below (T6.setTop (mkF m 3 #[.val (.ref a0c), .val (.int 3), .val (.ref a2b), .val (.int 3), .val (.int 3), .val (.int 3), .val (.int c2)] [])) _
    refine XS.iload X6.here hx rfl (hb hby d17_3) rfl ?_
    refine XS.iload X6.here hx rfl (hb hby d17_5) rfl ?_
    refine XS.icmpYes X6.here hx rfl (pc0 := 7) (pc' := 44) rfl (hb hby d17_7) rfl (flt (by decide : ¬ ((3 : Int32) < (3 : Int32)))).2.1 (by decide) (by decide) ?_
    refine XS.iload X6.here hx rfl (hb hby d17_44) rfl ?_
    show Steps p.tables e below (T6.setTop (mkF m 46 #[.val (.ref a0c), .val (.int 3), .val (.ref a2b), .val (.int 3), .val (.int 3), .val (.int 3), .val (.int c2)] [(.int 3)])) _
    exact retI X6 hx Bd.returns (hb hby d17_46) hr
  · show Q_rmC2_3 n0 Z cS a0c a2b k0 k2 c0 c1 c2 h0 _ T6.heap _
    rw [e6]
    exact ⟨rfl, N6, K6, V6⟩
theorem ef_rmC1_3 (m : MethodId) (a0c : Addr) : entryFrame m #[(.ref a0c), (.int 0), (.int 3)] 6 = mkF m 0 #[.val (.ref a0c), .val (.int 0), .val (.int 3), .unset, .unset, .unset] [] := by first | (simp [entryFrame, mkF, argsToLocals, Value.category]; done) | rfl
def Q_rmC1_3 (n0 : Nat) (Z : State) (cS : Int32) (a0c : Addr) (k0 : ClassId) (c0 : Int32) (c1 : Int32) (c2 : Int32) (h0 : Heap) (v : Option Value) (h : Heap) (L : List Loc) : Prop := ∃ b : Addr, ∃ kb : ClassId, v = some (.ref b) ∧ Fr n0 L ∧ Keep h0 h [] ∧ (h0.size ≤ b) ∧ (Exa Z h b "[B") ∧ (Arv Z h b kb .byte (3 : Int32) [(.int (c0.toInt8.toInt32)), (.int (c1.toInt8.toInt32)), (.int (c2.toInt8.toInt32))] (.int 0))
set_option maxRecDepth 65536 in
set_option maxHeartbeats 40000000 in
theorem rmC1_3 (l : Launch) (Z : State) (a0 : Array Value) (hw : ∀ d ∈ tables_1, d.before a0 Z = true) (ws : List Jvm.Cond) (cS : Int32) (a0c : Addr) (k0 : ClassId) (c0 : Int32) (c1 : Int32) (c2 : Int32) (h0 : Heap) (n0 : Nat) (O0 : Old Z n0 h0) (GL : GF Z cS) (V_a0c : Arv Z h0 a0c k0 .char (3 : Int32) [(.int c0), (.int c1), (.int c2)] (.int 0)) (hc0 : ¬ ((255 : Int32) < c0)) (hc1 : ¬ ((255 : Int32) < c1)) (hc2 : ¬ ((255 : Int32) < c2)) :
    MetFree l MN_1 (head1 (Jvm.Cond.code MN_1 jdk_52_method_16_code 6 (some (.array .byte)) :: ws) ({ frames := 1, cells := 1, slots := 3, locals := 18 } : Room)) (fun a U => a = #[(.ref a0c), (.int 0), (.int 3)] ∧ Z.Warmed39 U.vm ∧ U.heap = h0) (fun _ _ _ _ _ => True) (fun _ U o U' => ∃ v L, o = .returned v ∧ Q_rmC1_3 n0 Z cS a0c k0 c0 c1 c2 h0 v U'.heap L ∧ FrameEnd U o U' L ({ frames := 1, cells := 1, slots := 3, locals := 18 } : Room).cells ({ frames := 1, cells := 1, slots := 3, locals := 18 } : Room).slots) := by
  refine MetFree.of_bodySF (plainFor_of_name pn) hisR ?_
  intro p e s m args below meth c s₁ Bd hml0 hP hK
  obtain ⟨rfl, hZ, hh⟩ := hP
  have hx := Bd.exec
  have hby := Bd.bytes
  have hml : c.maxLocals = 6 := hml0
  have hown : s.vm.findClass "java/lang/StringUTF16" = some m.cls := findClass_of_methodNamed Bd.named
  have hnm := (name_of_methodNamed Bd.named Bd.method).1
  have X0 : Stand p l e ({ frames := 1, cells := 1, slots := 3, locals := 18 } : Room) s m #[(.ref a0c), (.int 0), (.int 3)] below meth c s₁ [] 0 0 := Stand.of_body Bd
  have e0 : s₁.heap = h0 := by rw [← hh, Bd.state]; rfl
  have N0 := Fr.nil n0
  have pre0 : ∀ t, Steps p.tables e below (s₁.setTop (mkF m 0 #[.val (.ref a0c), .val (.int 0), .val (.int 3), .unset, .unset, .unset] [])) t → Steps p.tables e below (s₁.setTop (entryFrame m #[(.ref a0c), (.int 0), (.int 3)] 6)) t := fun t k => castTop (ef_rmC1_3 m a0c) k
  have GL' := GL
  obtain ⟨GCS, GCP⟩ := GL'
  obtain ⟨T1, h1, k1, X1, e1, E1, A1, A1', st1⟩ := newPE X0 hx hZ (Wd hw 23 rfl) e0 (g := (mkF m 1 #[.val (.ref a0c), .val (.int 0), .val (.int 3), .unset, .unset, .unset] [(.int 3)])) rfl (hb hby d16_1) rfl (by decide) (cap := 3) (by decide) (by decide) (by decide) (by decide) (ad := "[B") rfl
  obtain ⟨b1, g1⟩ : ∃ z, z = h0.size := ⟨_, rfl⟩
  rw [← g1] at A1 A1' st1
  have g_b1 : n0 ≤ b1 := Nat.le_trans (own_sz O0) (Nat.le_of_eq g1.symm)
  have sz_b1 : h0.size ≤ b1 := Nat.le_trans (Keep.refl h0 []).1 (Nat.le_of_eq g1.symm)
  have K1 : Keep h0 h1 [] := (Keep.refl h0 []).ext E1
  have O1 := O0.ext E1
  have V_b1 : Arv Z h1 b1 k1 .byte (3 : Int32) [(.int 0), (.int 0), (.int 0)] (.int 0) := (Arv.new A1 (by decide)).pad (pad_rep [] (.int 0) 3)
  obtain ⟨_, _, ⟨T2, L2, k2, n2⟩, -, X2, ⟨Lc2, hQ2, l2, y2, z2⟩, st2⟩ := Jvm.LawKit.callS X1 hx (y := MN_0) hown (mvT hZ (Wd hw 79 rfl)) (mvT hZ (Wd hw 80 rfl)) (mvT hZ (Wd hw 77 rfl)) (mvT hZ (Wd hw 81 rfl)) (by decide) (backOf (W := 0) (rmC2_3 l Z a0 hw [] cS (a0c) (b1) (k0) (k1) (c0) (c1) (c2) (h1) n0 O1 GL (V_a0c.ext E1) V_b1 g_b1 hc0 hc1 hc2) hZ (Wd hw 81 rfl) (Wd hw 77 rfl) (by decide) (by decide)) (g := (mkF m 9 #[.val (.ref a0c), .val (.int 0), .val (.int 3), .val (.ref b1), .unset, .unset] [(.int 3), (.int 0), (.ref b1), (.int 0), (.ref a0c)])) rfl (by rw [hml]; rfl) (argsL := [(.ref a0c), (.int 0), (.ref b1), (.int 0), (.int 3)]) (rest := []) (lenOf pd rfl) rfl (by show 2 * 0 + _ ≤ _; exact Nat.le_of_eq rfl) (hb hby d16_9) (fun _ _ => ⟨rfl, e1, (by decide : 1 + 0 ≤ _), (by decide : 3 + 0 ≤ _)⟩)
  dsimp only [Pt.U, Pt.locs, Pt.cells, Pt.slots] at X2 l2 y2 z2 st2 hQ2
  subst l2 y2 z2
  obtain ⟨rfl, N2q, Kc2, P2_0⟩ := hQ2
  have K2 : Keep h0 T2.heap [] := K1.trans Kc2 (allS (Or.inr sz_b1) all0)
  have O2 := O1.keep Kc2 (allS g_b1 all0)
  have N2 := Fr.app N0 N2q
  obtain ⟨fs, hr, hrun, hended, hW, hsame⟩ := X2.leave (v := some (.ref b1)) (fun h => by rw [Bd.returns] at h; cases h)
  refine ⟨_, _, pre0 _ ?_, hrun, hended, _, _, rfl, ?_, ⟨_, rfl⟩, hW, hsame.mono (by decide) (by decide)⟩
  · show Steps p.tables e below (s₁.setTop (mkF m 0 #[.val (.ref a0c), .val (.int 0), .val (.int 3), .unset, .unset, .unset] [])) _
    refine XS.iloadN X0.here hx rfl (hb hby d16_0) rfl ?_
    show Steps p.tables e below (s₁.setTop (mkF m 1 #[.val (.ref a0c), .val (.int 0), .val (.int 3), .unset, .unset, .unset] [(.int 3)])) _
    refine st1 _ ?_
    show Steps p.tables e below (T1.setTop (mkF m 3 #[.val (.ref a0c), .val (.int 0), .val (.int 3), .unset, .unset, .unset] [(.ref b1)])) _
    refine XS.astoreN X1.here hx rfl (hb hby d16_3) rfl rfl (l' := #[.val (.ref a0c), .val (.int 0), .val (.int 3), .val (.ref b1), .unset, .unset]) rfl ?_
    refine XS.aloadN X1.here hx rfl (hb hby d16_4) rfl rfl ?_
    refine XS.iloadN X1.here hx rfl (hb hby d16_5) rfl ?_
    refine XS.aloadN X1.here hx rfl (hb hby d16_6) rfl rfl ?_
    show Steps p.tables e below (T1.setTop (mkF m 7 #[.val (.ref a0c), .val (.int 0), .val (.int 3), .val (.ref b1), .unset, .unset] [(.ref b1), (.int 0), (.ref a0c)])) _
    refine XS.iconst X1.here hx rfl (hb hby d16_7) ?_
    refine XS.iloadN X1.here hx rfl (hb hby d16_8) rfl ?_
    show Steps p.tables e below (T1.setTop (mkF m 9 #[.val (.ref a0c), .val (.int 0), .val (.int 3), .val (.ref b1), .unset, .unset] [(.int 3), (.int 0), (.ref b1), (.int 0), (.ref a0c)])) _
    refine st2 _ ?_
    show Steps p.tables e below (T2.setTop (mkF m 12 #[.val (.ref a0c), .val (.int 0), .val (.int 3), .val (.ref b1), .unset, .unset] [(.int 3)])) _
    refine XS.istore X2.here hx rfl (hb hby d16_12) rfl (l' := #[.val (.ref a0c), .val (.int 0), .val (.int 3), .val (.ref b1), .val (.int 3), .unset]) rfl ?_
    refine XS.iload X2.here hx rfl (hb hby d16_14) rfl ?_
    refine XS.iloadN X2.here hx rfl (hb hby d16_16) rfl ?_
    refine XS.icmpYes X2.here hx rfl (pc0 := 17) (pc' := 57) rfl (hb hby d16_17) rfl (teq (by decide : (3 : Int32) = (3 : Int32))).1 (by decide) (by decide) ?_
    show Steps p.tables e below (T2.setTop (mkF m 57 #[.val (.ref a0c), .val (.int 0), .val (.int 3), .val (.ref b1), .val (.int 3), .unset] [])) _
    refine XS.aloadN X2.here hx rfl (hb hby d16_57) rfl rfl ?_
    show Steps p.tables e below (T2.setTop (mkF m 58 #[.val (.ref a0c), .val (.int 0), .val (.int 3), .val (.ref b1), .val (.int 3), .unset] [(.ref b1)])) _
    jvm_step X2.here [X2.here.top, hx, (hb hby d16_58), X2.method', Bd.returns, Value.isRef, FieldType.isReference]
    first | (intro acts; rw [hr _ acts rfl rfl rfl]) | rw [hr _ _ rfl rfl rfl]
    exact Steps.refl _
  · show Q_rmC1_3 n0 Z cS a0c k0 c0 c1 c2 h0 _ T2.heap _
    exact ⟨b1, k1, rfl, N2, K2, sz_b1, (A1'.keep Kc2), P2_0⟩
theorem ef_rmC2_4 (m : MethodId) (a0c : Addr) (a2b : Addr) : entryFrame m #[(.ref a0c), (.int 0), (.ref a2b), (.int 0), (.int 4)] 7 = mkF m 0 #[.val (.ref a0c), .val (.int 0), .val (.ref a2b), .val (.int 0), .val (.int 4), .unset, .unset] [] := by first | (simp [entryFrame, mkF, argsToLocals, Value.category]; done) | rfl
def Q_rmC2_4 (n0 : Nat) (Z : State) (cS : Int32) (a0c : Addr) (a2b : Addr) (k0 : ClassId) (k2 : ClassId) (c0 : Int32) (c1 : Int32) (c2 : Int32) (c3 : Int32) (h0 : Heap) (v : Option Value) (h : Heap) (L : List Loc) : Prop := v = some (.int 4) ∧ Fr n0 L ∧ Keep h0 h [a2b] ∧ (Arv Z h a2b k2 .byte (4 : Int32) [(.int (c0.toInt8.toInt32)), (.int (c1.toInt8.toInt32)), (.int (c2.toInt8.toInt32)), (.int (c3.toInt8.toInt32))] (.int 0))
set_option maxRecDepth 65536 in
set_option maxHeartbeats 40000000 in
theorem rmC2_4 (l : Launch) (Z : State) (a0 : Array Value) (hw : ∀ d ∈ tables_1, d.before a0 Z = true) (ws : List Jvm.Cond) (cS : Int32) (a0c : Addr) (a2b : Addr) (k0 : ClassId) (k2 : ClassId) (c0 : Int32) (c1 : Int32) (c2 : Int32) (c3 : Int32) (h0 : Heap) (n0 : Nat) (O0 : Old Z n0 h0) (GL : GF Z cS) (V_a0c : Arv Z h0 a0c k0 .char (4 : Int32) [(.int c0), (.int c1), (.int c2), (.int c3)] (.int 0)) (V_a2b : Arv Z h0 a2b k2 .byte (4 : Int32) [(.int 0), (.int 0), (.int 0), (.int 0)] (.int 0)) (g_a2b : n0 ≤ a2b) (hc0 : ¬ ((255 : Int32) < c0)) (hc1 : ¬ ((255 : Int32) < c1)) (hc2 : ¬ ((255 : Int32) < c2)) (hc3 : ¬ ((255 : Int32) < c3)) :
    MetFree l MN_0 (head1 (Jvm.Cond.code MN_0 jdk_52_method_21_code 7 (some .int) :: ws) ({ frames := 0, cells := 0, slots := 0, locals := 0 } : Room)) (fun a U => a = #[(.ref a0c), (.int 0), (.ref a2b), (.int 0), (.int 4)] ∧ Z.Warmed39 U.vm ∧ U.heap = h0) (fun _ _ _ _ _ => True) (fun _ U o U' => ∃ v L, o = .returned v ∧ Q_rmC2_4 n0 Z cS a0c a2b k0 k2 c0 c1 c2 c3 h0 v U'.heap L ∧ FrameEnd U o U' L ({ frames := 0, cells := 0, slots := 0, locals := 0 } : Room).cells ({ frames := 0, cells := 0, slots := 0, locals := 0 } : Room).slots) := by
  refine MetFree.of_bodySF (plainFor_of_name pn) hisR ?_
  intro p e s m args below meth c s₁ Bd hml0 hP hK
  obtain ⟨rfl, hZ, hh⟩ := hP
  have hx := Bd.exec
  have hby := Bd.bytes
  have hml : c.maxLocals = 7 := hml0
  have hown : s.vm.findClass "java/lang/StringUTF16" = some m.cls := findClass_of_methodNamed Bd.named
  have hnm := (name_of_methodNamed Bd.named Bd.method).1
  have X0 : Stand p l e ({ frames := 0, cells := 0, slots := 0, locals := 0 } : Room) s m #[(.ref a0c), (.int 0), (.ref a2b), (.int 0), (.int 4)] below meth c s₁ [] 0 0 := Stand.of_body Bd
  have e0 : s₁.heap = h0 := by rw [← hh, Bd.state]; rfl
  have N0 := Fr.nil n0
  have pre0 : ∀ t, Steps p.tables e below (s₁.setTop (mkF m 0 #[.val (.ref a0c), .val (.int 0), .val (.ref a2b), .val (.int 0), .val (.int 4), .unset, .unset] [])) t → Steps p.tables e below (s₁.setTop (entryFrame m #[(.ref a0c), (.int 0), (.ref a2b), (.int 0), (.int 4)] 7)) t := fun t k => castTop (ef_rmC2_4 m a0c a2b) k
  have GL' := GL
  obtain ⟨GCS, GCP⟩ := GL'
  obtain ⟨cl1, Ar1, -, S1, N1_, H1, G1⟩ := id (V_a0c)
  have hin1 : ¬ ((0 : Int32) < 0 ∨ cl1.slots.size ≤ ((0 : Int32)).toNatClampNeg) := inb_of S1 ⟨(by decide), (by decide)⟩
  have hat1 : cl1.slots[((0 : Int32)).toNatClampNeg]? = some (.int c0) := H1.at hin1 rfl
  obtain ⟨cl2, Ar2, q2, S2, N2_, H2, G2⟩ := id (V_a2b)
  have hin2 : ¬ ((0 : Int32) < 0 ∨ cl2.slots.size ≤ ((0 : Int32)).toNatClampNeg) := inb_of S2 ⟨(by decide), (by decide)⟩
  obtain ⟨T2, h2, X2, e2, W2, st2⟩ := stB X0 hx hZ e0 Ar2 (j := (0 : Int32)) hin2 (g := (mkF m 31 #[.val (.ref a0c), .val (.int 0), .val (.ref a2b), .val (.int 0), .val (.int 4), .val (.int 0), .val (.int c0)] [(.int (c0.toInt8.toInt32)), (.int 0), (.ref a2b)])) rfl rfl (hb hby d17_31)
  have K2 : Keep h0 h2 [a2b] := (Keep.refl h0 [a2b]).wr W2 (Or.inl (List.mem_of_getElem? (i := 0) rfl))
  have O2 := O0.wr W2 g_a2b
  have N2 := Fr.snoc X2 N0 g_a2b
  have V2' : Arv Z h2 a2b k2 .byte (4 : Int32) [(.int ((c0.toInt8.toInt32)).toInt8.toInt32), (.int 0), (.int 0), (.int 0)] (.int 0) := Arv.set Ar2 q2 S2 N2_ H2 G2 (fits_nar_byte _) W2 0 rfl (Nat.le_of_ble_eq_true rfl)
  have V2 : Arv Z h2 a2b k2 .byte (4 : Int32) [(.int (c0.toInt8.toInt32)), (.int 0), (.int 0), (.int 0)] (.int 0) := by
    rw [own_b2 c0] at V2'
    exact V2'
  obtain ⟨cl3, Ar3, -, S3, N3_, H3, G3⟩ := id ((V_a0c.other W2 (own_neArv V_a0c V_a2b (by decide))))
  have hin3 : ¬ ((1 : Int32) < 0 ∨ cl3.slots.size ≤ ((1 : Int32)).toNatClampNeg) := inb_of S3 ⟨(by decide), (by decide)⟩
  have hat3 : cl3.slots[((1 : Int32)).toNatClampNeg]? = some (.int c1) := H3.at hin3 rfl
  obtain ⟨cl4, Ar4, q4, S4, N4_, H4, G4⟩ := id (V2)
  have hin4 : ¬ ((1 : Int32) < 0 ∨ cl4.slots.size ≤ ((1 : Int32)).toNatClampNeg) := inb_of S4 ⟨(by decide), (by decide)⟩
  obtain ⟨T4, h4, X4, e4, W4, st4⟩ := stB X2 hx hZ e2 Ar4 (j := (1 : Int32)) hin4 (g := (mkF m 31 #[.val (.ref a0c), .val (.int 1), .val (.ref a2b), .val (.int 1), .val (.int 4), .val (.int 1), .val (.int c1)] [(.int (c1.toInt8.toInt32)), (.int 1), (.ref a2b)])) rfl rfl (hb hby d17_31)
  have K4 : Keep h0 h4 [a2b] := K2.wr W4 (Or.inl (List.mem_of_getElem? (i := 0) rfl))
  have O4 := O2.wr W4 g_a2b
  have N4 := Fr.snoc X4 N2 g_a2b
  have V4' : Arv Z h4 a2b k2 .byte (4 : Int32) [(.int (c0.toInt8.toInt32)), (.int ((c1.toInt8.toInt32)).toInt8.toInt32), (.int 0), (.int 0)] (.int 0) := Arv.set Ar4 q4 S4 N4_ H4 G4 (fits_nar_byte _) W4 1 rfl (Nat.le_of_ble_eq_true rfl)
  have V4 : Arv Z h4 a2b k2 .byte (4 : Int32) [(.int (c0.toInt8.toInt32)), (.int (c1.toInt8.toInt32)), (.int 0), (.int 0)] (.int 0) := by
    rw [own_b2 c1] at V4'
    exact V4'
  obtain ⟨cl5, Ar5, -, S5, N5_, H5, G5⟩ := id (((V_a0c.other W2 (own_neArv V_a0c V_a2b (by decide))).other W4 (own_neArv V_a0c V_a2b (by decide))))
  have hin5 : ¬ ((2 : Int32) < 0 ∨ cl5.slots.size ≤ ((2 : Int32)).toNatClampNeg) := inb_of S5 ⟨(by decide), (by decide)⟩
  have hat5 : cl5.slots[((2 : Int32)).toNatClampNeg]? = some (.int c2) := H5.at hin5 rfl
  obtain ⟨cl6, Ar6, q6, S6, N6_, H6, G6⟩ := id (V4)
  have hin6 : ¬ ((2 : Int32) < 0 ∨ cl6.slots.size ≤ ((2 : Int32)).toNatClampNeg) := inb_of S6 ⟨(by decide), (by decide)⟩
  obtain ⟨T6, h6, X6, e6, W6, st6⟩ := stB X4 hx hZ e4 Ar6 (j := (2 : Int32)) hin6 (g := (mkF m 31 #[.val (.ref a0c), .val (.int 2), .val (.ref a2b), .val (.int 2), .val (.int 4), .val (.int 2), .val (.int c2)] [(.int (c2.toInt8.toInt32)), (.int 2), (.ref a2b)])) rfl rfl (hb hby d17_31)
  have K6 : Keep h0 h6 [a2b] := K4.wr W6 (Or.inl (List.mem_of_getElem? (i := 0) rfl))
  have O6 := O4.wr W6 g_a2b
  have N6 := Fr.snoc X6 N4 g_a2b
  have V6' : Arv Z h6 a2b k2 .byte (4 : Int32) [(.int (c0.toInt8.toInt32)), (.int (c1.toInt8.toInt32)), (.int ((c2.toInt8.toInt32)).toInt8.toInt32), (.int 0)] (.int 0) := Arv.set Ar6 q6 S6 N6_ H6 G6 (fits_nar_byte _) W6 2 rfl (Nat.le_of_ble_eq_true rfl)
  have V6 : Arv Z h6 a2b k2 .byte (4 : Int32) [(.int (c0.toInt8.toInt32)), (.int (c1.toInt8.toInt32)), (.int (c2.toInt8.toInt32)), (.int 0)] (.int 0) := by
    rw [own_b2 c2] at V6'
    exact V6'
  obtain ⟨cl7, Ar7, -, S7, N7_, H7, G7⟩ := id ((((V_a0c.other W2 (own_neArv V_a0c V_a2b (by decide))).other W4 (own_neArv V_a0c V_a2b (by decide))).other W6 (own_neArv V_a0c V_a2b (by decide))))
  have hin7 : ¬ ((3 : Int32) < 0 ∨ cl7.slots.size ≤ ((3 : Int32)).toNatClampNeg) := inb_of S7 ⟨(by decide), (by decide)⟩
  have hat7 : cl7.slots[((3 : Int32)).toNatClampNeg]? = some (.int c3) := H7.at hin7 rfl
  obtain ⟨cl8, Ar8, q8, S8, N8_, H8, G8⟩ := id (V6)
  have hin8 : ¬ ((3 : Int32) < 0 ∨ cl8.slots.size ≤ ((3 : Int32)).toNatClampNeg) := inb_of S8 ⟨(by decide), (by decide)⟩
  obtain ⟨T8, h8, X8, e8, W8, st8⟩ := stB X6 hx hZ e6 Ar8 (j := (3 : Int32)) hin8 (g := (mkF m 31 #[.val (.ref a0c), .val (.int 3), .val (.ref a2b), .val (.int 3), .val (.int 4), .val (.int 3), .val (.int c3)] [(.int (c3.toInt8.toInt32)), (.int 3), (.ref a2b)])) rfl rfl (hb hby d17_31)
  have K8 : Keep h0 h8 [a2b] := K6.wr W8 (Or.inl (List.mem_of_getElem? (i := 0) rfl))
  have O8 := O6.wr W8 g_a2b
  have N8 := Fr.snoc X8 N6 g_a2b
  have V8' : Arv Z h8 a2b k2 .byte (4 : Int32) [(.int (c0.toInt8.toInt32)), (.int (c1.toInt8.toInt32)), (.int (c2.toInt8.toInt32)), (.int ((c3.toInt8.toInt32)).toInt8.toInt32)] (.int 0) := Arv.set Ar8 q8 S8 N8_ H8 G8 (fits_nar_byte _) W8 3 rfl (Nat.le_of_ble_eq_true rfl)
  have V8 : Arv Z h8 a2b k2 .byte (4 : Int32) [(.int (c0.toInt8.toInt32)), (.int (c1.toInt8.toInt32)), (.int (c2.toInt8.toInt32)), (.int (c3.toInt8.toInt32))] (.int 0) := by
    rw [own_b2 c3] at V8'
    exact V8'
  obtain ⟨fs, hr, hrun, hended, hW, hsame⟩ := X8.leave (v := some (.int 4)) (fun h => by rw [Bd.returns] at h; cases h)
  refine ⟨_, _, pre0 _ ?_, hrun, hended, _, _, rfl, ?_, ⟨_, rfl⟩, hW, hsame.mono (by decide) (by decide)⟩
  · show Steps p.tables e below (s₁.setTop (mkF m 0 #[.val (.ref a0c), .val (.int 0), .val (.ref a2b), .val (.int 0), .val (.int 4), .unset, .unset] [])) _
    refine XS.iconst X0.here hx rfl (hb hby d17_0) ?_
    refine XS.istore X0.here hx rfl (hb hby d17_1) rfl (l' := #[.val (.ref a0c), .val (.int 0), .val (.ref a2b), .val (.int 0), .val (.int 4), .val (.int 0), .unset]) rfl ?_
    refine XS.iload X0.here hx rfl (hb hby d17_3) rfl ?_
    refine XS.iload X0.here hx rfl (hb hby d17_5) rfl ?_
    show Steps p.tables e below (s₁.setTop (mkF m 7 #[.val (.ref a0c), .val (.int 0), .val (.ref a2b), .val (.int 0), .val (.int 4), .val (.int 0), .unset] [(.int 4), (.int 0)])) _
    refine XS.icmpNo X0.here hx rfl (hb hby d17_7) rfl (tlt (by decide : (0 : Int32) < (4 : Int32))).2.1 ?_
    refine XS.aloadN X0.here hx rfl (hb hby d17_10) rfl rfl ?_
    refine XS.iloadN X0.here hx rfl (hb hby d17_11) rfl ?_
    show Steps p.tables e below (s₁.setTop (mkF m 12 #[.val (.ref a0c), .val (.int 0), .val (.ref a2b), .val (.int 0), .val (.int 4), .val (.int 0), .unset] [(.int 0), (.ref a0c)])) _
    refine X0.caload hx (j := (0 : Int32)) (v := (.int c0)) (by rw [e0]; exact Ar1.1) (State.isArrayOf_alike hZ.alike Ar1.2.1) Ar1.2.2 hin1 hat1 (g := (mkF m 12 #[.val (.ref a0c), .val (.int 0), .val (.ref a2b), .val (.int 0), .val (.int 4), .val (.int 0), .unset] [(.int 0), (.ref a0c)])) rfl rfl (hb hby d17_12) _ ?_
    show Steps p.tables e below (s₁.setTop (mkF m 13 #[.val (.ref a0c), .val (.int 0), .val (.ref a2b), .val (.int 0), .val (.int 4), .val (.int 0), .unset] [(.int c0)])) _
    refine XS.istore X0.here hx rfl (hb hby d17_13) rfl (l' := #[.val (.ref a0c), .val (.int 0), .val (.ref a2b), .val (.int 0), .val (.int 4), .val (.int 0), .val (.int c0)]) rfl ?_
    refine XS.iload X0.here hx rfl (hb hby d17_15) rfl ?_
    refine XS.sipush X0.here hx rfl (hb hby d17_17) ?_
    refine XS.icmpYes X0.here hx rfl (pc0 := 20) (pc' := 26) rfl (hb hby d17_20) rfl (flt hc0).2.2.2 (by decide) (by decide) ?_
    show Steps p.tables e below (s₁.setTop (mkF m 26 #[.val (.ref a0c), .val (.int 0), .val (.ref a2b), .val (.int 0), .val (.int 4), .val (.int 0), .val (.int c0)] [])) _
    refine XS.aloadN X0.here hx rfl (hb hby d17_26) rfl rfl ?_
    refine XS.iloadN X0.here hx rfl (hb hby d17_27) rfl ?_
    refine XS.iload X0.here hx rfl (hb hby d17_28) rfl ?_
    refine XS.i2b X0.here hx rfl (hb hby d17_30) rfl ?_
    show Steps p.tables e below (s₁.setTop (mkF m 31 #[.val (.ref a0c), .val (.int 0), .val (.ref a2b), .val (.int 0), .val (.int 4), .val (.int 0), .val (.int c0)] [(.int (c0.toInt8.toInt32)), (.int 0), (.ref a2b)])) _
    refine st2 _ ?_
    show Steps p.tables e below (T2.setTop (mkF m 32 #[.val (.ref a0c), .val (.int 0), .val (.ref a2b), .val (.int 0), .val (.int 4), .val (.int 0), .val (.int c0)] [])) _
    refine XS.iinc X2.here hx rfl (hb hby d17_32) rfl (l' := #[.val (.ref a0c), .val (.int 1), .val (.ref a2b), .val (.int 0), .val (.int 4), .val (.int 0), .val (.int c0)]) rfl ?_
    refine XS.iinc X2.here hx rfl (hb hby d17_35) rfl (l' := #[.val (.ref a0c), .val (.int 1), .val (.ref a2b), .val (.int 1), .val (.int 4), .val (.int 0), .val (.int c0)]) rfl ?_
    refine XS.iinc X2.here hx rfl (hb hby d17_38) rfl (l' := #[.val (.ref a0c), .val (.int 1), .val (.ref a2b), .val (.int 1), .val (.int 4), .val (.int 1), .val (.int c0)]) rfl ?_
    refine XS.goto X2.here hx rfl (pc0 := 41) (pc' := 3) rfl (hb hby d17_41) (by decide) (by decide) ?_
    show Steps p.tables e below (T2.setTop (mkF m 3 #[.val (.ref a0c), .val (.int 1), .val (.ref a2b), .val (.int 1), .val (.int 4), .val (.int 1), .val (.int c0)] [])) _
    refine XS.iload X2.here hx rfl (hb hby d17_3) rfl ?_
    refine XS.iload X2.here hx rfl (hb hby d17_5) rfl ?_
    refine XS.icmpNo X2.here hx rfl (hb hby d17_7) rfl (tlt (by decide : (1 : Int32) < (4 : Int32))).2.1 ?_
    refine XS.aloadN X2.here hx rfl (hb hby d17_10) rfl rfl ?_
    show Steps p.tables e below (T2.setTop (mkF m 11 #[.val (.ref a0c), .val (.int 1), .val (.ref a2b), .val (.int 1), .val (.int 4), .val (.int 1), .val (.int c0)] [(.ref a0c)])) _
    refine XS.iloadN X2.here hx rfl (hb hby d17_11) rfl ?_
    show Steps p.tables e below (T2.setTop (mkF m 12 #[.val (.ref a0c), .val (.int 1), .val (.ref a2b), .val (.int 1), .val (.int 4), .val (.int 1), .val (.int c0)] [(.int 1), (.ref a0c)])) _
    refine X2.caload hx (j := (1 : Int32)) (v := (.int c1)) (by rw [e2]; exact Ar3.1) (State.isArrayOf_alike hZ.alike Ar3.2.1) Ar3.2.2 hin3 hat3 (g := (mkF m 12 #[.val (.ref a0c), .val (.int 1), .val (.ref a2b), .val (.int 1), .val (.int 4), .val (.int 1), .val (.int c0)] [(.int 1), (.ref a0c)])) rfl rfl (hb hby d17_12) _ ?_
    show Steps p.tables e below (T2.setTop (mkF m 13 #[.val (.ref a0c), .val (.int 1), .val (.ref a2b), .val (.int 1), .val (.int 4), .val (.int 1), .val (.int c0)] [(.int c1)])) _
    refine XS.istore X2.here hx rfl (hb hby d17_13) rfl (l' := #[.val (.ref a0c), .val (.int 1), .val (.ref a2b), .val (.int 1), .val (.int 4), .val (.int 1), .val (.int c1)]) rfl ?_
    refine XS.iload X2.here hx rfl (hb hby d17_15) rfl ?_
    refine XS.sipush X2.here hx rfl (hb hby d17_17) ?_
    refine XS.icmpYes X2.here hx rfl (pc0 := 20) (pc' := 26) rfl (hb hby d17_20) rfl (flt hc1).2.2.2 (by decide) (by decide) ?_
    show Steps p.tables e below (T2.setTop (mkF m 26 #[.val (.ref a0c), .val (.int 1), .val (.ref a2b), .val (.int 1), .val (.int 4), .val (.int 1), .val (.int c1)] [])) _
    refine XS.aloadN X2.here hx rfl (hb hby d17_26) rfl rfl ?_
    refine XS.iloadN X2.here hx rfl (hb hby d17_27) rfl ?_
    refine XS.iload X2.here hx rfl (hb hby d17_28) rfl ?_
    refine XS.i2b X2.here hx rfl (hb hby d17_30) rfl ?_
    show Steps p.tables e below (T2.setTop (mkF m 31 #[.val (.ref a0c), .val (.int 1), .val (.ref a2b), .val (.int 1), .val (.int 4), .val (.int 1), .val (.int c1)] [(.int (c1.toInt8.toInt32)), (.int 1), (.ref a2b)])) _
    refine st4 _ ?_
    show Steps p.tables e below (T4.setTop (mkF m 32 #[.val (.ref a0c), .val (.int 1), .val (.ref a2b), .val (.int 1), .val (.int 4), .val (.int 1), .val (.int c1)] [])) _
    refine XS.iinc X4.here hx rfl (hb hby d17_32) rfl (l' := #[.val (.ref a0c), .val (.int 2), .val (.ref a2b), .val (.int 1), .val (.int 4), .val (.int 1), .val (.int c1)]) rfl ?_
    refine XS.iinc X4.here hx rfl (hb hby d17_35) rfl (l' := #[.val (.ref a0c), .val (.int 2), .val (.ref a2b), .val (.int 2), .val (.int 4), .val (.int 1), .val (.int c1)]) rfl ?_
    refine XS.iinc X4.here hx rfl (hb hby d17_38) rfl (l' := #[.val (.ref a0c), .val (.int 2), .val (.ref a2b), .val (.int 2), .val (.int 4), .val (.int 2), .val (.int c1)]) rfl ?_
    refine XS.goto X4.here hx rfl (pc0 := 41) (pc' := 3) rfl (hb hby d17_41) (by decide) (by decide) ?_
    show Steps p.tables e below (T4.setTop (mkF m 3 #[.val (.ref a0c), .val (.int 2), .val (.ref a2b), .val (.int 2), .val (.int 4), .val (.int 2), .val (.int c1)] [])) _
    refine XS.iload X4.here hx rfl (hb hby d17_3) rfl ?_
    refine XS.iload X4.here hx rfl (hb hby d17_5) rfl ?_
    refine XS.icmpNo X4.here hx rfl (hb hby d17_7) rfl (tlt (by decide : (2 : Int32) < (4 : Int32))).2.1 ?_
    refine XS.aloadN X4.here hx rfl (hb hby d17_10) rfl rfl ?_
    show Steps p.tables e below (T4.setTop (mkF m 11 #[.val (.ref a0c), .val (.int 2), .val (.ref a2b), .val (.int 2), .val (.int 4), .val (.int 2), .val (.int c1)] [(.ref a0c)])) _
    refine XS.iloadN X4.here hx rfl (hb hby d17_11) rfl ?_
    show Steps p.tables e below (T4.setTop (mkF m 12 #[.val (.ref a0c), .val (.int 2), .val (.ref a2b), .val (.int 2), .val (.int 4), .val (.int 2), .val (.int c1)] [(.int 2), (.ref a0c)])) _
    refine X4.caload hx (j := (2 : Int32)) (v := (.int c2)) (by rw [e4]; exact Ar5.1) (State.isArrayOf_alike hZ.alike Ar5.2.1) Ar5.2.2 hin5 hat5 (g := (mkF m 12 #[.val (.ref a0c), .val (.int 2), .val (.ref a2b), .val (.int 2), .val (.int 4), .val (.int 2), .val (.int c1)] [(.int 2), (.ref a0c)])) rfl rfl (hb hby d17_12) _ ?_
    show Steps p.tables e below (T4.setTop (mkF m 13 #[.val (.ref a0c), .val (.int 2), .val (.ref a2b), .val (.int 2), .val (.int 4), .val (.int 2), .val (.int c1)] [(.int c2)])) _
    refine XS.istore X4.here hx rfl (hb hby d17_13) rfl (l' := #[.val (.ref a0c), .val (.int 2), .val (.ref a2b), .val (.int 2), .val (.int 4), .val (.int 2), .val (.int c2)]) rfl ?_
    refine XS.iload X4.here hx rfl (hb hby d17_15) rfl ?_
    refine XS.sipush X4.here hx rfl (hb hby d17_17) ?_
    refine XS.icmpYes X4.here hx rfl (pc0 := 20) (pc' := 26) rfl (hb hby d17_20) rfl (flt hc2).2.2.2 (by decide) (by decide) ?_
    show Steps p.tables e below (T4.setTop (mkF m 26 #[.val (.ref a0c), .val (.int 2), .val (.ref a2b), .val (.int 2), .val (.int 4), .val (.int 2), .val (.int c2)] [])) _
    refine XS.aloadN X4.here hx rfl (hb hby d17_26) rfl rfl ?_
    refine XS.iloadN X4.here hx rfl (hb hby d17_27) rfl ?_
    refine XS.iload X4.here hx rfl (hb hby d17_28) rfl ?_
    refine XS.i2b X4.here hx rfl (hb hby d17_30) rfl ?_
    show Steps p.tables e below (T4.setTop (mkF m 31 #[.val (.ref a0c), .val (.int 2), .val (.ref a2b), .val (.int 2), .val (.int 4), .val (.int 2), .val (.int c2)] [(.int (c2.toInt8.toInt32)), (.int 2), (.ref a2b)])) _
    refine st6 _ ?_
    show Steps p.tables e below (T6.setTop (mkF m 32 #[.val (.ref a0c), .val (.int 2), .val (.ref a2b), .val (.int 2), .val (.int 4), .val (.int 2), .val (.int c2)] [])) _
    refine XS.iinc X6.here hx rfl (hb hby d17_32) rfl (l' := #[.val (.ref a0c), .val (.int 3), .val (.ref a2b), .val (.int 2), .val (.int 4), .val (.int 2), .val (.int c2)]) rfl ?_
    refine XS.iinc X6.here hx rfl (hb hby d17_35) rfl (l' := #[.val (.ref a0c), .val (.int 3), .val (.ref a2b), .val (.int 3), .val (.int 4), .val (.int 2), .val (.int c2)]) rfl ?_
    refine XS.iinc X6.here hx rfl (hb hby d17_38) rfl (l' := #[.val (.ref a0c), .val (.int 3), .val (.ref a2b), .val (.int 3), .val (.int 4), .val (.int 3), .val (.int c2)]) rfl ?_
    refine XS.goto X6.here hx rfl (pc0 := 41) (pc' := 3) rfl (hb hby d17_41) (by decide) (by decide) ?_
    show Steps p.tables e below (T6.setTop (mkF m 3 #[.val (.ref a0c), .val (.int 3), .val (.ref a2b), .val (.int 3), .val (.int 4), .val (.int 3), .val (.int c2)] [])) _
    refine XS.iload X6.here hx rfl (hb hby d17_3) rfl ?_
    refine XS.iload X6.here hx rfl (hb hby d17_5) rfl ?_
    refine XS.icmpNo X6.here hx rfl (hb hby d17_7) rfl (tlt (by decide : (3 : Int32) < (4 : Int32))).2.1 ?_
    refine XS.aloadN X6.here hx rfl (hb hby d17_10) rfl rfl ?_
    show Steps p.tables e below (T6.setTop (mkF m 11 #[.val (.ref a0c), .val (.int 3), .val (.ref a2b), .val (.int 3), .val (.int 4), .val (.int 3), .val (.int c2)] [(.ref a0c)])) _
    refine XS.iloadN X6.here hx rfl (hb hby d17_11) rfl ?_
    show Steps p.tables e below (T6.setTop (mkF m 12 #[.val (.ref a0c), .val (.int 3), .val (.ref a2b), .val (.int 3), .val (.int 4), .val (.int 3), .val (.int c2)] [(.int 3), (.ref a0c)])) _
    refine X6.caload hx (j := (3 : Int32)) (v := (.int c3)) (by rw [e6]; exact Ar7.1) (State.isArrayOf_alike hZ.alike Ar7.2.1) Ar7.2.2 hin7 hat7 (g := (mkF m 12 #[.val (.ref a0c), .val (.int 3), .val (.ref a2b), .val (.int 3), .val (.int 4), .val (.int 3), .val (.int c2)] [(.int 3), (.ref a0c)])) rfl rfl (hb hby d17_12) _ ?_
    show Steps p.tables e below (T6.setTop (mkF m 13 #[.val (.ref a0c), .val (.int 3), .val (.ref a2b), .val (.int 3), .val (.int 4), .val (.int 3), .val (.int c2)] [(.int c3)])) _
    refine XS.istore X6.here hx rfl (hb hby d17_13) rfl (l' := #[.val (.ref a0c), .val (.int 3), .val (.ref a2b), .val (.int 3), .val (.int 4), .val (.int 3), .val (.int c3)]) rfl ?_
    refine XS.iload X6.here hx rfl (hb hby d17_15) rfl ?_
    refine XS.sipush X6.here hx rfl (hb hby d17_17) ?_
    refine XS.icmpYes X6.here hx rfl (pc0 := 20) (pc' := 26) rfl (hb hby d17_20) rfl (flt hc3).2.2.2 (by decide) (by decide) ?_
    show Steps p.tables e below (T6.setTop (mkF m 26 #[.val (.ref a0c), .val (.int 3), .val (.ref a2b), .val (.int 3), .val (.int 4), .val (.int 3), .val (.int c3)] [])) _
    refine XS.aloadN X6.here hx rfl (hb hby d17_26) rfl rfl ?_
    refine XS.iloadN X6.here hx rfl (hb hby d17_27) rfl ?_
    refine XS.iload X6.here hx rfl (hb hby d17_28) rfl ?_
    refine XS.i2b X6.here hx rfl (hb hby d17_30) rfl ?_
    show Steps p.tables e below (T6.setTop (mkF m 31 #[.val (.ref a0c), .val (.int 3), .val (.ref a2b), .val (.int 3), .val (.int 4), .val (.int 3), .val (.int c3)] [(.int (c3.toInt8.toInt32)), (.int 3), (.ref a2b)])) _
    refine st8 _ ?_
    show Steps p.tables e below (T8.setTop (mkF m 32 #[.val (.ref a0c), .val (.int 3), .val (.ref a2b), .val (.int 3), .val (.int 4), .val (.int 3), .val (.int c3)] [])) _
    refine XS.iinc X8.here hx rfl (hb hby d17_32) rfl (l' := #[.val (.ref a0c), .val (.int 4), .val (.ref a2b), .val (.int 3), .val (.int 4), .val (.int 3), .val (.int c3)]) rfl ?_
    refine XS.iinc X8.here hx rfl (hb hby d17_35) rfl (l' := #[.val (.ref a0c), .val (.int 4), .val (.ref a2b), .val (.int 4), .val (.int 4), .val (.int 3), .val (.int c3)]) rfl ?_
    refine XS.iinc X8.here hx rfl (hb hby d17_38) rfl (l' := #[.val (.ref a0c), .val (.int 4), .val (.ref a2b), .val (.int 4), .val (.int 4), .val (.int 4), .val (.int c3)]) rfl ?_
    refine XS.goto X8.here hx rfl (pc0 := 41) (pc' := 3) rfl (hb hby d17_41) (by decide) (by decide) ?_
    show Steps p.tables e below (T8.setTop (mkF m 3 #[.val (.ref a0c), .val (.int 4), .val (.ref a2b), .val (.int 4), .val (.int 4), .val (.int 4), .val (.int c3)] [])) _
    refine XS.iload X8.here hx rfl (hb hby d17_3) rfl ?_
    refine XS.iload X8.here hx rfl (hb hby d17_5) rfl ?_
    refine XS.icmpYes X8.here hx rfl (pc0 := 7) (pc' := 44) rfl (hb hby d17_7) rfl (flt (by decide : ¬ ((4 : Int32) < (4 : Int32)))).2.1 (by decide) (by decide) ?_
    refine XS.iload X8.here hx rfl (hb hby d17_44) rfl ?_
    show Steps p.tables e below (T8.setTop (mkF m 46 #[.val (.ref a0c), .val (.int 4), .val (.ref a2b), .val (.int 4), .val (.int 4), .val (.int 4), .val (.int c3)] [(.int 4)])) _
    exact retI X8 hx Bd.returns (hb hby d17_46) hr
  · show Q_rmC2_4 n0 Z cS a0c a2b k0 k2 c0 c1 c2 c3 h0 _ T8.heap _
    rw [e8]
    exact ⟨rfl, N8, K8, V8⟩
theorem ef_rmC1_4 (m : MethodId) (a0c : Addr) : entryFrame m #[(.ref a0c), (.int 0), (.int 4)] 6 = mkF m 0 #[.val (.ref a0c), .val (.int 0), .val (.int 4), .unset, .unset, .unset] [] := by first | (simp [entryFrame, mkF, argsToLocals, Value.category]; done) | rfl
def Q_rmC1_4 (n0 : Nat) (Z : State) (cS : Int32) (a0c : Addr) (k0 : ClassId) (c0 : Int32) (c1 : Int32) (c2 : Int32) (c3 : Int32) (h0 : Heap) (v : Option Value) (h : Heap) (L : List Loc) : Prop := ∃ b : Addr, ∃ kb : ClassId, v = some (.ref b) ∧ Fr n0 L ∧ Keep h0 h [] ∧ (h0.size ≤ b) ∧ (Exa Z h b "[B") ∧ (Arv Z h b kb .byte (4 : Int32) [(.int (c0.toInt8.toInt32)), (.int (c1.toInt8.toInt32)), (.int (c2.toInt8.toInt32)), (.int (c3.toInt8.toInt32))] (.int 0))
set_option maxRecDepth 65536 in
set_option maxHeartbeats 40000000 in
theorem rmC1_4 (l : Launch) (Z : State) (a0 : Array Value) (hw : ∀ d ∈ tables_1, d.before a0 Z = true) (ws : List Jvm.Cond) (cS : Int32) (a0c : Addr) (k0 : ClassId) (c0 : Int32) (c1 : Int32) (c2 : Int32) (c3 : Int32) (h0 : Heap) (n0 : Nat) (O0 : Old Z n0 h0) (GL : GF Z cS) (V_a0c : Arv Z h0 a0c k0 .char (4 : Int32) [(.int c0), (.int c1), (.int c2), (.int c3)] (.int 0)) (hc0 : ¬ ((255 : Int32) < c0)) (hc1 : ¬ ((255 : Int32) < c1)) (hc2 : ¬ ((255 : Int32) < c2)) (hc3 : ¬ ((255 : Int32) < c3)) :
    MetFree l MN_1 (head1 (Jvm.Cond.code MN_1 jdk_52_method_16_code 6 (some (.array .byte)) :: ws) ({ frames := 1, cells := 1, slots := 4, locals := 18 } : Room)) (fun a U => a = #[(.ref a0c), (.int 0), (.int 4)] ∧ Z.Warmed39 U.vm ∧ U.heap = h0) (fun _ _ _ _ _ => True) (fun _ U o U' => ∃ v L, o = .returned v ∧ Q_rmC1_4 n0 Z cS a0c k0 c0 c1 c2 c3 h0 v U'.heap L ∧ FrameEnd U o U' L ({ frames := 1, cells := 1, slots := 4, locals := 18 } : Room).cells ({ frames := 1, cells := 1, slots := 4, locals := 18 } : Room).slots) := by
  refine MetFree.of_bodySF (plainFor_of_name pn) hisR ?_
  intro p e s m args below meth c s₁ Bd hml0 hP hK
  obtain ⟨rfl, hZ, hh⟩ := hP
  have hx := Bd.exec
  have hby := Bd.bytes
  have hml : c.maxLocals = 6 := hml0
  have hown : s.vm.findClass "java/lang/StringUTF16" = some m.cls := findClass_of_methodNamed Bd.named
  have hnm := (name_of_methodNamed Bd.named Bd.method).1
  have X0 : Stand p l e ({ frames := 1, cells := 1, slots := 4, locals := 18 } : Room) s m #[(.ref a0c), (.int 0), (.int 4)] below meth c s₁ [] 0 0 := Stand.of_body Bd
  have e0 : s₁.heap = h0 := by rw [← hh, Bd.state]; rfl
  have N0 := Fr.nil n0
  have pre0 : ∀ t, Steps p.tables e below (s₁.setTop (mkF m 0 #[.val (.ref a0c), .val (.int 0), .val (.int 4), .unset, .unset, .unset] [])) t → Steps p.tables e below (s₁.setTop (entryFrame m #[(.ref a0c), (.int 0), (.int 4)] 6)) t := fun t k => castTop (ef_rmC1_4 m a0c) k
  have GL' := GL
  obtain ⟨GCS, GCP⟩ := GL'
  obtain ⟨T1, h1, k1, X1, e1, E1, A1, A1', st1⟩ := newPE X0 hx hZ (Wd hw 23 rfl) e0 (g := (mkF m 1 #[.val (.ref a0c), .val (.int 0), .val (.int 4), .unset, .unset, .unset] [(.int 4)])) rfl (hb hby d16_1) rfl (by decide) (cap := 4) (by decide) (by decide) (by decide) (by decide) (ad := "[B") rfl
  obtain ⟨b1, g1⟩ : ∃ z, z = h0.size := ⟨_, rfl⟩
  rw [← g1] at A1 A1' st1
  have g_b1 : n0 ≤ b1 := Nat.le_trans (own_sz O0) (Nat.le_of_eq g1.symm)
  have sz_b1 : h0.size ≤ b1 := Nat.le_trans (Keep.refl h0 []).1 (Nat.le_of_eq g1.symm)
  have K1 : Keep h0 h1 [] := (Keep.refl h0 []).ext E1
  have O1 := O0.ext E1
  have V_b1 : Arv Z h1 b1 k1 .byte (4 : Int32) [(.int 0), (.int 0), (.int 0), (.int 0)] (.int 0) := (Arv.new A1 (by decide)).pad (pad_rep [] (.int 0) 4)
  obtain ⟨_, _, ⟨T2, L2, k2, n2⟩, -, X2, ⟨Lc2, hQ2, l2, y2, z2⟩, st2⟩ := Jvm.LawKit.callS X1 hx (y := MN_0) hown (mvT hZ (Wd hw 79 rfl)) (mvT hZ (Wd hw 80 rfl)) (mvT hZ (Wd hw 77 rfl)) (mvT hZ (Wd hw 81 rfl)) (by decide) (backOf (W := 0) (rmC2_4 l Z a0 hw [] cS (a0c) (b1) (k0) (k1) (c0) (c1) (c2) (c3) (h1) n0 O1 GL (V_a0c.ext E1) V_b1 g_b1 hc0 hc1 hc2 hc3) hZ (Wd hw 81 rfl) (Wd hw 77 rfl) (by decide) (by decide)) (g := (mkF m 9 #[.val (.ref a0c), .val (.int 0), .val (.int 4), .val (.ref b1), .unset, .unset] [(.int 4), (.int 0), (.ref b1), (.int 0), (.ref a0c)])) rfl (by rw [hml]; rfl) (argsL := [(.ref a0c), (.int 0), (.ref b1), (.int 0), (.int 4)]) (rest := []) (lenOf pd rfl) rfl (by show 2 * 0 + _ ≤ _; exact Nat.le_of_eq rfl) (hb hby d16_9) (fun _ _ => ⟨rfl, e1, (by decide : 1 + 0 ≤ _), (by decide : 4 + 0 ≤ _)⟩)
  dsimp only [Pt.U, Pt.locs, Pt.cells, Pt.slots] at X2 l2 y2 z2 st2 hQ2
  subst l2 y2 z2
  obtain ⟨rfl, N2q, Kc2, P2_0⟩ := hQ2
  have K2 : Keep h0 T2.heap [] := K1.trans Kc2 (allS (Or.inr sz_b1) all0)
  have O2 := O1.keep Kc2 (allS g_b1 all0)
  have N2 := Fr.app N0 N2q
  obtain ⟨fs, hr, hrun, hended, hW, hsame⟩ := X2.leave (v := some (.ref b1)) (fun h => by rw [Bd.returns] at h; cases h)
  refine ⟨_, _, pre0 _ ?_, hrun, hended, _, _, rfl, ?_, ⟨_, rfl⟩, hW, hsame.mono (by decide) (by decide)⟩
  · show Steps p.tables e below (s₁.setTop (mkF m 0 #[.val (.ref a0c), .val (.int 0), .val (.int 4), .unset, .unset, .unset] [])) _
    refine XS.iloadN X0.here hx rfl (hb hby d16_0) rfl ?_
    show Steps p.tables e below (s₁.setTop (mkF m 1 #[.val (.ref a0c), .val (.int 0), .val (.int 4), .unset, .unset, .unset] [(.int 4)])) _
    refine st1 _ ?_
    show Steps p.tables e below (T1.setTop (mkF m 3 #[.val (.ref a0c), .val (.int 0), .val (.int 4), .unset, .unset, .unset] [(.ref b1)])) _
    refine XS.astoreN X1.here hx rfl (hb hby d16_3) rfl rfl (l' := #[.val (.ref a0c), .val (.int 0), .val (.int 4), .val (.ref b1), .unset, .unset]) rfl ?_
    refine XS.aloadN X1.here hx rfl (hb hby d16_4) rfl rfl ?_
    refine XS.iloadN X1.here hx rfl (hb hby d16_5) rfl ?_
    refine XS.aloadN X1.here hx rfl (hb hby d16_6) rfl rfl ?_
    show Steps p.tables e below (T1.setTop (mkF m 7 #[.val (.ref a0c), .val (.int 0), .val (.int 4), .val (.ref b1), .unset, .unset] [(.ref b1), (.int 0), (.ref a0c)])) _
    refine XS.iconst X1.here hx rfl (hb hby d16_7) ?_
    refine XS.iloadN X1.here hx rfl (hb hby d16_8) rfl ?_
    show Steps p.tables e below (T1.setTop (mkF m 9 #[.val (.ref a0c), .val (.int 0), .val (.int 4), .val (.ref b1), .unset, .unset] [(.int 4), (.int 0), (.ref b1), (.int 0), (.ref a0c)])) _
    refine st2 _ ?_
    show Steps p.tables e below (T2.setTop (mkF m 12 #[.val (.ref a0c), .val (.int 0), .val (.int 4), .val (.ref b1), .unset, .unset] [(.int 4)])) _
    refine XS.istore X2.here hx rfl (hb hby d16_12) rfl (l' := #[.val (.ref a0c), .val (.int 0), .val (.int 4), .val (.ref b1), .val (.int 4), .unset]) rfl ?_
    refine XS.iload X2.here hx rfl (hb hby d16_14) rfl ?_
    refine XS.iloadN X2.here hx rfl (hb hby d16_16) rfl ?_
    refine XS.icmpYes X2.here hx rfl (pc0 := 17) (pc' := 57) rfl (hb hby d16_17) rfl (teq (by decide : (4 : Int32) = (4 : Int32))).1 (by decide) (by decide) ?_
    show Steps p.tables e below (T2.setTop (mkF m 57 #[.val (.ref a0c), .val (.int 0), .val (.int 4), .val (.ref b1), .val (.int 4), .unset] [])) _
    refine XS.aloadN X2.here hx rfl (hb hby d16_57) rfl rfl ?_
    show Steps p.tables e below (T2.setTop (mkF m 58 #[.val (.ref a0c), .val (.int 0), .val (.int 4), .val (.ref b1), .val (.int 4), .unset] [(.ref b1)])) _
    jvm_step X2.here [X2.here.top, hx, (hb hby d16_58), X2.method', Bd.returns, Value.isRef, FieldType.isReference]
    first | (intro acts; rw [hr _ acts rfl rfl rfl]) | rw [hr _ _ rfl rfl rfl]
    exact Steps.refl _
  · show Q_rmC1_4 n0 Z cS a0c k0 c0 c1 c2 c3 h0 _ T2.heap _
    exact ⟨b1, k1, rfl, N2, K2, sz_b1, (A1'.keep Kc2), P2_0⟩
theorem ef_rmC2_5 (m : MethodId) (a0c : Addr) (a2b : Addr) : entryFrame m #[(.ref a0c), (.int 0), (.ref a2b), (.int 0), (.int 5)] 7 = mkF m 0 #[.val (.ref a0c), .val (.int 0), .val (.ref a2b), .val (.int 0), .val (.int 5), .unset, .unset] [] := by first | (simp [entryFrame, mkF, argsToLocals, Value.category]; done) | rfl
def Q_rmC2_5 (n0 : Nat) (Z : State) (cS : Int32) (a0c : Addr) (a2b : Addr) (k0 : ClassId) (k2 : ClassId) (c0 : Int32) (c1 : Int32) (c2 : Int32) (c3 : Int32) (c4 : Int32) (h0 : Heap) (v : Option Value) (h : Heap) (L : List Loc) : Prop := v = some (.int 5) ∧ Fr n0 L ∧ Keep h0 h [a2b] ∧ (Arv Z h a2b k2 .byte (5 : Int32) [(.int (c0.toInt8.toInt32)), (.int (c1.toInt8.toInt32)), (.int (c2.toInt8.toInt32)), (.int (c3.toInt8.toInt32)), (.int (c4.toInt8.toInt32))] (.int 0))
set_option maxRecDepth 65536 in
set_option maxHeartbeats 40000000 in
theorem rmC2_5 (l : Launch) (Z : State) (a0 : Array Value) (hw : ∀ d ∈ tables_1, d.before a0 Z = true) (ws : List Jvm.Cond) (cS : Int32) (a0c : Addr) (a2b : Addr) (k0 : ClassId) (k2 : ClassId) (c0 : Int32) (c1 : Int32) (c2 : Int32) (c3 : Int32) (c4 : Int32) (h0 : Heap) (n0 : Nat) (O0 : Old Z n0 h0) (GL : GF Z cS) (V_a0c : Arv Z h0 a0c k0 .char (5 : Int32) [(.int c0), (.int c1), (.int c2), (.int c3), (.int c4)] (.int 0)) (V_a2b : Arv Z h0 a2b k2 .byte (5 : Int32) [(.int 0), (.int 0), (.int 0), (.int 0), (.int 0)] (.int 0)) (g_a2b : n0 ≤ a2b) (hc0 : ¬ ((255 : Int32) < c0)) (hc1 : ¬ ((255 : Int32) < c1)) (hc2 : ¬ ((255 : Int32) < c2)) (hc3 : ¬ ((255 : Int32) < c3)) (hc4 : ¬ ((255 : Int32) < c4)) :
    MetFree l MN_0 (head1 (Jvm.Cond.code MN_0 jdk_52_method_21_code 7 (some .int) :: ws) ({ frames := 0, cells := 0, slots := 0, locals := 0 } : Room)) (fun a U => a = #[(.ref a0c), (.int 0), (.ref a2b), (.int 0), (.int 5)] ∧ Z.Warmed39 U.vm ∧ U.heap = h0) (fun _ _ _ _ _ => True) (fun _ U o U' => ∃ v L, o = .returned v ∧ Q_rmC2_5 n0 Z cS a0c a2b k0 k2 c0 c1 c2 c3 c4 h0 v U'.heap L ∧ FrameEnd U o U' L ({ frames := 0, cells := 0, slots := 0, locals := 0 } : Room).cells ({ frames := 0, cells := 0, slots := 0, locals := 0 } : Room).slots) := by
  refine MetFree.of_bodySF (plainFor_of_name pn) hisR ?_
  intro p e s m args below meth c s₁ Bd hml0 hP hK
  obtain ⟨rfl, hZ, hh⟩ := hP
  have hx := Bd.exec
  have hby := Bd.bytes
  have hml : c.maxLocals = 7 := hml0
  have hown : s.vm.findClass "java/lang/StringUTF16" = some m.cls := findClass_of_methodNamed Bd.named
  have hnm := (name_of_methodNamed Bd.named Bd.method).1
  have X0 : Stand p l e ({ frames := 0, cells := 0, slots := 0, locals := 0 } : Room) s m #[(.ref a0c), (.int 0), (.ref a2b), (.int 0), (.int 5)] below meth c s₁ [] 0 0 := Stand.of_body Bd
  have e0 : s₁.heap = h0 := by rw [← hh, Bd.state]; rfl
  have N0 := Fr.nil n0
  have pre0 : ∀ t, Steps p.tables e below (s₁.setTop (mkF m 0 #[.val (.ref a0c), .val (.int 0), .val (.ref a2b), .val (.int 0), .val (.int 5), .unset, .unset] [])) t → Steps p.tables e below (s₁.setTop (entryFrame m #[(.ref a0c), (.int 0), (.ref a2b), (.int 0), (.int 5)] 7)) t := fun t k => castTop (ef_rmC2_5 m a0c a2b) k
  have GL' := GL
  obtain ⟨GCS, GCP⟩ := GL'
  obtain ⟨cl1, Ar1, -, S1, N1_, H1, G1⟩ := id (V_a0c)
  have hin1 : ¬ ((0 : Int32) < 0 ∨ cl1.slots.size ≤ ((0 : Int32)).toNatClampNeg) := inb_of S1 ⟨(by decide), (by decide)⟩
  have hat1 : cl1.slots[((0 : Int32)).toNatClampNeg]? = some (.int c0) := H1.at hin1 rfl
  obtain ⟨cl2, Ar2, q2, S2, N2_, H2, G2⟩ := id (V_a2b)
  have hin2 : ¬ ((0 : Int32) < 0 ∨ cl2.slots.size ≤ ((0 : Int32)).toNatClampNeg) := inb_of S2 ⟨(by decide), (by decide)⟩
  obtain ⟨T2, h2, X2, e2, W2, st2⟩ := stB X0 hx hZ e0 Ar2 (j := (0 : Int32)) hin2 (g := (mkF m 31 #[.val (.ref a0c), .val (.int 0), .val (.ref a2b), .val (.int 0), .val (.int 5), .val (.int 0), .val (.int c0)] [(.int (c0.toInt8.toInt32)), (.int 0), (.ref a2b)])) rfl rfl (hb hby d17_31)
  have K2 : Keep h0 h2 [a2b] := (Keep.refl h0 [a2b]).wr W2 (Or.inl (List.mem_of_getElem? (i := 0) rfl))
  have O2 := O0.wr W2 g_a2b
  have N2 := Fr.snoc X2 N0 g_a2b
  have V2' : Arv Z h2 a2b k2 .byte (5 : Int32) [(.int ((c0.toInt8.toInt32)).toInt8.toInt32), (.int 0), (.int 0), (.int 0), (.int 0)] (.int 0) := Arv.set Ar2 q2 S2 N2_ H2 G2 (fits_nar_byte _) W2 0 rfl (Nat.le_of_ble_eq_true rfl)
  have V2 : Arv Z h2 a2b k2 .byte (5 : Int32) [(.int (c0.toInt8.toInt32)), (.int 0), (.int 0), (.int 0), (.int 0)] (.int 0) := by
    rw [own_b2 c0] at V2'
    exact V2'
  obtain ⟨cl3, Ar3, -, S3, N3_, H3, G3⟩ := id ((V_a0c.other W2 (own_neArv V_a0c V_a2b (by decide))))
  have hin3 : ¬ ((1 : Int32) < 0 ∨ cl3.slots.size ≤ ((1 : Int32)).toNatClampNeg) := inb_of S3 ⟨(by decide), (by decide)⟩
  have hat3 : cl3.slots[((1 : Int32)).toNatClampNeg]? = some (.int c1) := H3.at hin3 rfl
  obtain ⟨cl4, Ar4, q4, S4, N4_, H4, G4⟩ := id (V2)
  have hin4 : ¬ ((1 : Int32) < 0 ∨ cl4.slots.size ≤ ((1 : Int32)).toNatClampNeg) := inb_of S4 ⟨(by decide), (by decide)⟩
  obtain ⟨T4, h4, X4, e4, W4, st4⟩ := stB X2 hx hZ e2 Ar4 (j := (1 : Int32)) hin4 (g := (mkF m 31 #[.val (.ref a0c), .val (.int 1), .val (.ref a2b), .val (.int 1), .val (.int 5), .val (.int 1), .val (.int c1)] [(.int (c1.toInt8.toInt32)), (.int 1), (.ref a2b)])) rfl rfl (hb hby d17_31)
  have K4 : Keep h0 h4 [a2b] := K2.wr W4 (Or.inl (List.mem_of_getElem? (i := 0) rfl))
  have O4 := O2.wr W4 g_a2b
  have N4 := Fr.snoc X4 N2 g_a2b
  have V4' : Arv Z h4 a2b k2 .byte (5 : Int32) [(.int (c0.toInt8.toInt32)), (.int ((c1.toInt8.toInt32)).toInt8.toInt32), (.int 0), (.int 0), (.int 0)] (.int 0) := Arv.set Ar4 q4 S4 N4_ H4 G4 (fits_nar_byte _) W4 1 rfl (Nat.le_of_ble_eq_true rfl)
  have V4 : Arv Z h4 a2b k2 .byte (5 : Int32) [(.int (c0.toInt8.toInt32)), (.int (c1.toInt8.toInt32)), (.int 0), (.int 0), (.int 0)] (.int 0) := by
    rw [own_b2 c1] at V4'
    exact V4'
  obtain ⟨cl5, Ar5, -, S5, N5_, H5, G5⟩ := id (((V_a0c.other W2 (own_neArv V_a0c V_a2b (by decide))).other W4 (own_neArv V_a0c V_a2b (by decide))))
  have hin5 : ¬ ((2 : Int32) < 0 ∨ cl5.slots.size ≤ ((2 : Int32)).toNatClampNeg) := inb_of S5 ⟨(by decide), (by decide)⟩
  have hat5 : cl5.slots[((2 : Int32)).toNatClampNeg]? = some (.int c2) := H5.at hin5 rfl
  obtain ⟨cl6, Ar6, q6, S6, N6_, H6, G6⟩ := id (V4)
  have hin6 : ¬ ((2 : Int32) < 0 ∨ cl6.slots.size ≤ ((2 : Int32)).toNatClampNeg) := inb_of S6 ⟨(by decide), (by decide)⟩
  obtain ⟨T6, h6, X6, e6, W6, st6⟩ := stB X4 hx hZ e4 Ar6 (j := (2 : Int32)) hin6 (g := (mkF m 31 #[.val (.ref a0c), .val (.int 2), .val (.ref a2b), .val (.int 2), .val (.int 5), .val (.int 2), .val (.int c2)] [(.int (c2.toInt8.toInt32)), (.int 2), (.ref a2b)])) rfl rfl (hb hby d17_31)
  have K6 : Keep h0 h6 [a2b] := K4.wr W6 (Or.inl (List.mem_of_getElem? (i := 0) rfl))
  have O6 := O4.wr W6 g_a2b
  have N6 := Fr.snoc X6 N4 g_a2b
  have V6' : Arv Z h6 a2b k2 .byte (5 : Int32) [(.int (c0.toInt8.toInt32)), (.int (c1.toInt8.toInt32)), (.int ((c2.toInt8.toInt32)).toInt8.toInt32), (.int 0), (.int 0)] (.int 0) := Arv.set Ar6 q6 S6 N6_ H6 G6 (fits_nar_byte _) W6 2 rfl (Nat.le_of_ble_eq_true rfl)
  have V6 : Arv Z h6 a2b k2 .byte (5 : Int32) [(.int (c0.toInt8.toInt32)), (.int (c1.toInt8.toInt32)), (.int (c2.toInt8.toInt32)), (.int 0), (.int 0)] (.int 0) := by
    rw [own_b2 c2] at V6'
    exact V6'
  obtain ⟨cl7, Ar7, -, S7, N7_, H7, G7⟩ := id ((((V_a0c.other W2 (own_neArv V_a0c V_a2b (by decide))).other W4 (own_neArv V_a0c V_a2b (by decide))).other W6 (own_neArv V_a0c V_a2b (by decide))))
  have hin7 : ¬ ((3 : Int32) < 0 ∨ cl7.slots.size ≤ ((3 : Int32)).toNatClampNeg) := inb_of S7 ⟨(by decide), (by decide)⟩
  have hat7 : cl7.slots[((3 : Int32)).toNatClampNeg]? = some (.int c3) := H7.at hin7 rfl
  obtain ⟨cl8, Ar8, q8, S8, N8_, H8, G8⟩ := id (V6)
  have hin8 : ¬ ((3 : Int32) < 0 ∨ cl8.slots.size ≤ ((3 : Int32)).toNatClampNeg) := inb_of S8 ⟨(by decide), (by decide)⟩
  obtain ⟨T8, h8, X8, e8, W8, st8⟩ := stB X6 hx hZ e6 Ar8 (j := (3 : Int32)) hin8 (g := (mkF m 31 #[.val (.ref a0c), .val (.int 3), .val (.ref a2b), .val (.int 3), .val (.int 5), .val (.int 3), .val (.int c3)] [(.int (c3.toInt8.toInt32)), (.int 3), (.ref a2b)])) rfl rfl (hb hby d17_31)
  have K8 : Keep h0 h8 [a2b] := K6.wr W8 (Or.inl (List.mem_of_getElem? (i := 0) rfl))
  have O8 := O6.wr W8 g_a2b
  have N8 := Fr.snoc X8 N6 g_a2b
  have V8' : Arv Z h8 a2b k2 .byte (5 : Int32) [(.int (c0.toInt8.toInt32)), (.int (c1.toInt8.toInt32)), (.int (c2.toInt8.toInt32)), (.int ((c3.toInt8.toInt32)).toInt8.toInt32), (.int 0)] (.int 0) := Arv.set Ar8 q8 S8 N8_ H8 G8 (fits_nar_byte _) W8 3 rfl (Nat.le_of_ble_eq_true rfl)
  have V8 : Arv Z h8 a2b k2 .byte (5 : Int32) [(.int (c0.toInt8.toInt32)), (.int (c1.toInt8.toInt32)), (.int (c2.toInt8.toInt32)), (.int (c3.toInt8.toInt32)), (.int 0)] (.int 0) := by
    rw [own_b2 c3] at V8'
    exact V8'
  obtain ⟨cl9, Ar9, -, S9, N9_, H9, G9⟩ := id (((((V_a0c.other W2 (own_neArv V_a0c V_a2b (by decide))).other W4 (own_neArv V_a0c V_a2b (by decide))).other W6 (own_neArv V_a0c V_a2b (by decide))).other W8 (own_neArv V_a0c V_a2b (by decide))))
  have hin9 : ¬ ((4 : Int32) < 0 ∨ cl9.slots.size ≤ ((4 : Int32)).toNatClampNeg) := inb_of S9 ⟨(by decide), (by decide)⟩
  have hat9 : cl9.slots[((4 : Int32)).toNatClampNeg]? = some (.int c4) := H9.at hin9 rfl
  obtain ⟨cl10, Ar10, q10, S10, N10_, H10, G10⟩ := id (V8)
  have hin10 : ¬ ((4 : Int32) < 0 ∨ cl10.slots.size ≤ ((4 : Int32)).toNatClampNeg) := inb_of S10 ⟨(by decide), (by decide)⟩
  obtain ⟨T10, h10, X10, e10, W10, st10⟩ := stB X8 hx hZ e8 Ar10 (j := (4 : Int32)) hin10 (g := (mkF m 31 #[.val (.ref a0c), .val (.int 4), .val (.ref a2b), .val (.int 4), .val (.int 5), .val (.int 4), .val (.int c4)] [(.int (c4.toInt8.toInt32)), (.int 4), (.ref a2b)])) rfl rfl (hb hby d17_31)
  have K10 : Keep h0 h10 [a2b] := K8.wr W10 (Or.inl (List.mem_of_getElem? (i := 0) rfl))
  have O10 := O8.wr W10 g_a2b
  have N10 := Fr.snoc X10 N8 g_a2b
  have V10' : Arv Z h10 a2b k2 .byte (5 : Int32) [(.int (c0.toInt8.toInt32)), (.int (c1.toInt8.toInt32)), (.int (c2.toInt8.toInt32)), (.int (c3.toInt8.toInt32)), (.int ((c4.toInt8.toInt32)).toInt8.toInt32)] (.int 0) := Arv.set Ar10 q10 S10 N10_ H10 G10 (fits_nar_byte _) W10 4 rfl (Nat.le_of_ble_eq_true rfl)
  have V10 : Arv Z h10 a2b k2 .byte (5 : Int32) [(.int (c0.toInt8.toInt32)), (.int (c1.toInt8.toInt32)), (.int (c2.toInt8.toInt32)), (.int (c3.toInt8.toInt32)), (.int (c4.toInt8.toInt32))] (.int 0) := by
    rw [own_b2 c4] at V10'
    exact V10'
  obtain ⟨fs, hr, hrun, hended, hW, hsame⟩ := X10.leave (v := some (.int 5)) (fun h => by rw [Bd.returns] at h; cases h)
  refine ⟨_, _, pre0 _ ?_, hrun, hended, _, _, rfl, ?_, ⟨_, rfl⟩, hW, hsame.mono (by decide) (by decide)⟩
  · show Steps p.tables e below (s₁.setTop (mkF m 0 #[.val (.ref a0c), .val (.int 0), .val (.ref a2b), .val (.int 0), .val (.int 5), .unset, .unset] [])) _
    refine XS.iconst X0.here hx rfl (hb hby d17_0) ?_
    refine XS.istore X0.here hx rfl (hb hby d17_1) rfl (l' := #[.val (.ref a0c), .val (.int 0), .val (.ref a2b), .val (.int 0), .val (.int 5), .val (.int 0), .unset]) rfl ?_
    refine XS.iload X0.here hx rfl (hb hby d17_3) rfl ?_
    refine XS.iload X0.here hx rfl (hb hby d17_5) rfl ?_
    show Steps p.tables e below (s₁.setTop (mkF m 7 #[.val (.ref a0c), .val (.int 0), .val (.ref a2b), .val (.int 0), .val (.int 5), .val (.int 0), .unset] [(.int 5), (.int 0)])) _
    refine XS.icmpNo X0.here hx rfl (hb hby d17_7) rfl (tlt (by decide : (0 : Int32) < (5 : Int32))).2.1 ?_
    refine XS.aloadN X0.here hx rfl (hb hby d17_10) rfl rfl ?_
    refine XS.iloadN X0.here hx rfl (hb hby d17_11) rfl ?_
    show Steps p.tables e below (s₁.setTop (mkF m 12 #[.val (.ref a0c), .val (.int 0), .val (.ref a2b), .val (.int 0), .val (.int 5), .val (.int 0), .unset] [(.int 0), (.ref a0c)])) _
    refine X0.caload hx (j := (0 : Int32)) (v := (.int c0)) (by rw [e0]; exact Ar1.1) (State.isArrayOf_alike hZ.alike Ar1.2.1) Ar1.2.2 hin1 hat1 (g := (mkF m 12 #[.val (.ref a0c), .val (.int 0), .val (.ref a2b), .val (.int 0), .val (.int 5), .val (.int 0), .unset] [(.int 0), (.ref a0c)])) rfl rfl (hb hby d17_12) _ ?_
    show Steps p.tables e below (s₁.setTop (mkF m 13 #[.val (.ref a0c), .val (.int 0), .val (.ref a2b), .val (.int 0), .val (.int 5), .val (.int 0), .unset] [(.int c0)])) _
    refine XS.istore X0.here hx rfl (hb hby d17_13) rfl (l' := #[.val (.ref a0c), .val (.int 0), .val (.ref a2b), .val (.int 0), .val (.int 5), .val (.int 0), .val (.int c0)]) rfl ?_
    refine XS.iload X0.here hx rfl (hb hby d17_15) rfl ?_
    refine XS.sipush X0.here hx rfl (hb hby d17_17) ?_
    refine XS.icmpYes X0.here hx rfl (pc0 := 20) (pc' := 26) rfl (hb hby d17_20) rfl (flt hc0).2.2.2 (by decide) (by decide) ?_
    show Steps p.tables e below (s₁.setTop (mkF m 26 #[.val (.ref a0c), .val (.int 0), .val (.ref a2b), .val (.int 0), .val (.int 5), .val (.int 0), .val (.int c0)] [])) _
    refine XS.aloadN X0.here hx rfl (hb hby d17_26) rfl rfl ?_
    refine XS.iloadN X0.here hx rfl (hb hby d17_27) rfl ?_
    refine XS.iload X0.here hx rfl (hb hby d17_28) rfl ?_
    refine XS.i2b X0.here hx rfl (hb hby d17_30) rfl ?_
    show Steps p.tables e below (s₁.setTop (mkF m 31 #[.val (.ref a0c), .val (.int 0), .val (.ref a2b), .val (.int 0), .val (.int 5), .val (.int 0), .val (.int c0)] [(.int (c0.toInt8.toInt32)), (.int 0), (.ref a2b)])) _
    refine st2 _ ?_
    show Steps p.tables e below (T2.setTop (mkF m 32 #[.val (.ref a0c), .val (.int 0), .val (.ref a2b), .val (.int 0), .val (.int 5), .val (.int 0), .val (.int c0)] [])) _
    refine XS.iinc X2.here hx rfl (hb hby d17_32) rfl (l' := #[.val (.ref a0c), .val (.int 1), .val (.ref a2b), .val (.int 0), .val (.int 5), .val (.int 0), .val (.int c0)]) rfl ?_
    refine XS.iinc X2.here hx rfl (hb hby d17_35) rfl (l' := #[.val (.ref a0c), .val (.int 1), .val (.ref a2b), .val (.int 1), .val (.int 5), .val (.int 0), .val (.int c0)]) rfl ?_
    refine XS.iinc X2.here hx rfl (hb hby d17_38) rfl (l' := #[.val (.ref a0c), .val (.int 1), .val (.ref a2b), .val (.int 1), .val (.int 5), .val (.int 1), .val (.int c0)]) rfl ?_
    refine XS.goto X2.here hx rfl (pc0 := 41) (pc' := 3) rfl (hb hby d17_41) (by decide) (by decide) ?_
    show Steps p.tables e below (T2.setTop (mkF m 3 #[.val (.ref a0c), .val (.int 1), .val (.ref a2b), .val (.int 1), .val (.int 5), .val (.int 1), .val (.int c0)] [])) _
    refine XS.iload X2.here hx rfl (hb hby d17_3) rfl ?_
    refine XS.iload X2.here hx rfl (hb hby d17_5) rfl ?_
    refine XS.icmpNo X2.here hx rfl (hb hby d17_7) rfl (tlt (by decide : (1 : Int32) < (5 : Int32))).2.1 ?_
    refine XS.aloadN X2.here hx rfl (hb hby d17_10) rfl rfl ?_
    show Steps p.tables e below (T2.setTop (mkF m 11 #[.val (.ref a0c), .val (.int 1), .val (.ref a2b), .val (.int 1), .val (.int 5), .val (.int 1), .val (.int c0)] [(.ref a0c)])) _
    refine XS.iloadN X2.here hx rfl (hb hby d17_11) rfl ?_
    show Steps p.tables e below (T2.setTop (mkF m 12 #[.val (.ref a0c), .val (.int 1), .val (.ref a2b), .val (.int 1), .val (.int 5), .val (.int 1), .val (.int c0)] [(.int 1), (.ref a0c)])) _
    refine X2.caload hx (j := (1 : Int32)) (v := (.int c1)) (by rw [e2]; exact Ar3.1) (State.isArrayOf_alike hZ.alike Ar3.2.1) Ar3.2.2 hin3 hat3 (g := (mkF m 12 #[.val (.ref a0c), .val (.int 1), .val (.ref a2b), .val (.int 1), .val (.int 5), .val (.int 1), .val (.int c0)] [(.int 1), (.ref a0c)])) rfl rfl (hb hby d17_12) _ ?_
    show Steps p.tables e below (T2.setTop (mkF m 13 #[.val (.ref a0c), .val (.int 1), .val (.ref a2b), .val (.int 1), .val (.int 5), .val (.int 1), .val (.int c0)] [(.int c1)])) _
    refine XS.istore X2.here hx rfl (hb hby d17_13) rfl (l' := #[.val (.ref a0c), .val (.int 1), .val (.ref a2b), .val (.int 1), .val (.int 5), .val (.int 1), .val (.int c1)]) rfl ?_
    refine XS.iload X2.here hx rfl (hb hby d17_15) rfl ?_
    refine XS.sipush X2.here hx rfl (hb hby d17_17) ?_
    refine XS.icmpYes X2.here hx rfl (pc0 := 20) (pc' := 26) rfl (hb hby d17_20) rfl (flt hc1).2.2.2 (by decide) (by decide) ?_
    show Steps p.tables e below (T2.setTop (mkF m 26 #[.val (.ref a0c), .val (.int 1), .val (.ref a2b), .val (.int 1), .val (.int 5), .val (.int 1), .val (.int c1)] [])) _
    refine XS.aloadN X2.here hx rfl (hb hby d17_26) rfl rfl ?_
    refine XS.iloadN X2.here hx rfl (hb hby d17_27) rfl ?_
    refine XS.iload X2.here hx rfl (hb hby d17_28) rfl ?_
    refine XS.i2b X2.here hx rfl (hb hby d17_30) rfl ?_
    show Steps p.tables e below (T2.setTop (mkF m 31 #[.val (.ref a0c), .val (.int 1), .val (.ref a2b), .val (.int 1), .val (.int 5), .val (.int 1), .val (.int c1)] [(.int (c1.toInt8.toInt32)), (.int 1), (.ref a2b)])) _
    refine st4 _ ?_
    show Steps p.tables e below (T4.setTop (mkF m 32 #[.val (.ref a0c), .val (.int 1), .val (.ref a2b), .val (.int 1), .val (.int 5), .val (.int 1), .val (.int c1)] [])) _
    refine XS.iinc X4.here hx rfl (hb hby d17_32) rfl (l' := #[.val (.ref a0c), .val (.int 2), .val (.ref a2b), .val (.int 1), .val (.int 5), .val (.int 1), .val (.int c1)]) rfl ?_
    refine XS.iinc X4.here hx rfl (hb hby d17_35) rfl (l' := #[.val (.ref a0c), .val (.int 2), .val (.ref a2b), .val (.int 2), .val (.int 5), .val (.int 1), .val (.int c1)]) rfl ?_
    refine XS.iinc X4.here hx rfl (hb hby d17_38) rfl (l' := #[.val (.ref a0c), .val (.int 2), .val (.ref a2b), .val (.int 2), .val (.int 5), .val (.int 2), .val (.int c1)]) rfl ?_
    refine XS.goto X4.here hx rfl (pc0 := 41) (pc' := 3) rfl (hb hby d17_41) (by decide) (by decide) ?_
    show Steps p.tables e below (T4.setTop (mkF m 3 #[.val (.ref a0c), .val (.int 2), .val (.ref a2b), .val (.int 2), .val (.int 5), .val (.int 2), .val (.int c1)] [])) _
    refine XS.iload X4.here hx rfl (hb hby d17_3) rfl ?_
    refine XS.iload X4.here hx rfl (hb hby d17_5) rfl ?_
    refine XS.icmpNo X4.here hx rfl (hb hby d17_7) rfl (tlt (by decide : (2 : Int32) < (5 : Int32))).2.1 ?_
    refine XS.aloadN X4.here hx rfl (hb hby d17_10) rfl rfl ?_
    show Steps p.tables e below (T4.setTop (mkF m 11 #[.val (.ref a0c), .val (.int 2), .val (.ref a2b), .val (.int 2), .val (.int 5), .val (.int 2), .val (.int c1)] [(.ref a0c)])) _
    refine XS.iloadN X4.here hx rfl (hb hby d17_11) rfl ?_
    show Steps p.tables e below (T4.setTop (mkF m 12 #[.val (.ref a0c), .val (.int 2), .val (.ref a2b), .val (.int 2), .val (.int 5), .val (.int 2), .val (.int c1)] [(.int 2), (.ref a0c)])) _
    refine X4.caload hx (j := (2 : Int32)) (v := (.int c2)) (by rw [e4]; exact Ar5.1) (State.isArrayOf_alike hZ.alike Ar5.2.1) Ar5.2.2 hin5 hat5 (g := (mkF m 12 #[.val (.ref a0c), .val (.int 2), .val (.ref a2b), .val (.int 2), .val (.int 5), .val (.int 2), .val (.int c1)] [(.int 2), (.ref a0c)])) rfl rfl (hb hby d17_12) _ ?_
    show Steps p.tables e below (T4.setTop (mkF m 13 #[.val (.ref a0c), .val (.int 2), .val (.ref a2b), .val (.int 2), .val (.int 5), .val (.int 2), .val (.int c1)] [(.int c2)])) _
    refine XS.istore X4.here hx rfl (hb hby d17_13) rfl (l' := #[.val (.ref a0c), .val (.int 2), .val (.ref a2b), .val (.int 2), .val (.int 5), .val (.int 2), .val (.int c2)]) rfl ?_
    refine XS.iload X4.here hx rfl (hb hby d17_15) rfl ?_
    refine XS.sipush X4.here hx rfl (hb hby d17_17) ?_
    refine XS.icmpYes X4.here hx rfl (pc0 := 20) (pc' := 26) rfl (hb hby d17_20) rfl (flt hc2).2.2.2 (by decide) (by decide) ?_
    show Steps p.tables e below (T4.setTop (mkF m 26 #[.val (.ref a0c), .val (.int 2), .val (.ref a2b), .val (.int 2), .val (.int 5), .val (.int 2), .val (.int c2)] [])) _
    refine XS.aloadN X4.here hx rfl (hb hby d17_26) rfl rfl ?_
    refine XS.iloadN X4.here hx rfl (hb hby d17_27) rfl ?_
    refine XS.iload X4.here hx rfl (hb hby d17_28) rfl ?_
    refine XS.i2b X4.here hx rfl (hb hby d17_30) rfl ?_
    show Steps p.tables e below (T4.setTop (mkF m 31 #[.val (.ref a0c), .val (.int 2), .val (.ref a2b), .val (.int 2), .val (.int 5), .val (.int 2), .val (.int c2)] [(.int (c2.toInt8.toInt32)), (.int 2), (.ref a2b)])) _
    refine st6 _ ?_
    show Steps p.tables e below (T6.setTop (mkF m 32 #[.val (.ref a0c), .val (.int 2), .val (.ref a2b), .val (.int 2), .val (.int 5), .val (.int 2), .val (.int c2)] [])) _
    refine XS.iinc X6.here hx rfl (hb hby d17_32) rfl (l' := #[.val (.ref a0c), .val (.int 3), .val (.ref a2b), .val (.int 2), .val (.int 5), .val (.int 2), .val (.int c2)]) rfl ?_
    refine XS.iinc X6.here hx rfl (hb hby d17_35) rfl (l' := #[.val (.ref a0c), .val (.int 3), .val (.ref a2b), .val (.int 3), .val (.int 5), .val (.int 2), .val (.int c2)]) rfl ?_
    refine XS.iinc X6.here hx rfl (hb hby d17_38) rfl (l' := #[.val (.ref a0c), .val (.int 3), .val (.ref a2b), .val (.int 3), .val (.int 5), .val (.int 3), .val (.int c2)]) rfl ?_
    refine XS.goto X6.here hx rfl (pc0 := 41) (pc' := 3) rfl (hb hby d17_41) (by decide) (by decide) ?_
    show Steps p.tables e below (T6.setTop (mkF m 3 #[.val (.ref a0c), .val (.int 3), .val (.ref a2b), .val (.int 3), .val (.int 5), .val (.int 3), .val (.int c2)] [])) _
    refine XS.iload X6.here hx rfl (hb hby d17_3) rfl ?_
    refine XS.iload X6.here hx rfl (hb hby d17_5) rfl ?_
    refine XS.icmpNo X6.here hx rfl (hb hby d17_7) rfl (tlt (by decide : (3 : Int32) < (5 : Int32))).2.1 ?_
    refine XS.aloadN X6.here hx rfl (hb hby d17_10) rfl rfl ?_
    show Steps p.tables e below (T6.setTop (mkF m 11 #[.val (.ref a0c), .val (.int 3), .val (.ref a2b), .val (.int 3), .val (.int 5), .val (.int 3), .val (.int c2)] [(.ref a0c)])) _
    refine XS.iloadN X6.here hx rfl (hb hby d17_11) rfl ?_
    show Steps p.tables e below (T6.setTop (mkF m 12 #[.val (.ref a0c), .val (.int 3), .val (.ref a2b), .val (.int 3), .val (.int 5), .val (.int 3), .val (.int c2)] [(.int 3), (.ref a0c)])) _
    refine X6.caload hx (j := (3 : Int32)) (v := (.int c3)) (by rw [e6]; exact Ar7.1) (State.isArrayOf_alike hZ.alike Ar7.2.1) Ar7.2.2 hin7 hat7 (g := (mkF m 12 #[.val (.ref a0c), .val (.int 3), .val (.ref a2b), .val (.int 3), .val (.int 5), .val (.int 3), .val (.int c2)] [(.int 3), (.ref a0c)])) rfl rfl (hb hby d17_12) _ ?_
    show Steps p.tables e below (T6.setTop (mkF m 13 #[.val (.ref a0c), .val (.int 3), .val (.ref a2b), .val (.int 3), .val (.int 5), .val (.int 3), .val (.int c2)] [(.int c3)])) _
    refine XS.istore X6.here hx rfl (hb hby d17_13) rfl (l' := #[.val (.ref a0c), .val (.int 3), .val (.ref a2b), .val (.int 3), .val (.int 5), .val (.int 3), .val (.int c3)]) rfl ?_
    refine XS.iload X6.here hx rfl (hb hby d17_15) rfl ?_
    refine XS.sipush X6.here hx rfl (hb hby d17_17) ?_
    refine XS.icmpYes X6.here hx rfl (pc0 := 20) (pc' := 26) rfl (hb hby d17_20) rfl (flt hc3).2.2.2 (by decide) (by decide) ?_
    show Steps p.tables e below (T6.setTop (mkF m 26 #[.val (.ref a0c), .val (.int 3), .val (.ref a2b), .val (.int 3), .val (.int 5), .val (.int 3), .val (.int c3)] [])) _
    refine XS.aloadN X6.here hx rfl (hb hby d17_26) rfl rfl ?_
    refine XS.iloadN X6.here hx rfl (hb hby d17_27) rfl ?_
    refine XS.iload X6.here hx rfl (hb hby d17_28) rfl ?_
    refine XS.i2b X6.here hx rfl (hb hby d17_30) rfl ?_
    show Steps p.tables e below (T6.setTop (mkF m 31 #[.val (.ref a0c), .val (.int 3), .val (.ref a2b), .val (.int 3), .val (.int 5), .val (.int 3), .val (.int c3)] [(.int (c3.toInt8.toInt32)), (.int 3), (.ref a2b)])) _
    refine st8 _ ?_
    show Steps p.tables e below (T8.setTop (mkF m 32 #[.val (.ref a0c), .val (.int 3), .val (.ref a2b), .val (.int 3), .val (.int 5), .val (.int 3), .val (.int c3)] [])) _
    refine XS.iinc X8.here hx rfl (hb hby d17_32) rfl (l' := #[.val (.ref a0c), .val (.int 4), .val (.ref a2b), .val (.int 3), .val (.int 5), .val (.int 3), .val (.int c3)]) rfl ?_
    refine XS.iinc X8.here hx rfl (hb hby d17_35) rfl (l' := #[.val (.ref a0c), .val (.int 4), .val (.ref a2b), .val (.int 4), .val (.int 5), .val (.int 3), .val (.int c3)]) rfl ?_
    refine XS.iinc X8.here hx rfl (hb hby d17_38) rfl (l' := #[.val (.ref a0c), .val (.int 4), .val (.ref a2b), .val (.int 4), .val (.int 5), .val (.int 4), .val (.int c3)]) rfl ?_
    refine XS.goto X8.here hx rfl (pc0 := 41) (pc' := 3) rfl (hb hby d17_41) (by decide) (by decide) ?_
    show Steps p.tables e below (T8.setTop (mkF m 3 #[.val (.ref a0c), .val (.int 4), .val (.ref a2b), .val (.int 4), .val (.int 5), .val (.int 4), .val (.int c3)] [])) _
    refine XS.iload X8.here hx rfl (hb hby d17_3) rfl ?_
    refine XS.iload X8.here hx rfl (hb hby d17_5) rfl ?_
    refine XS.icmpNo X8.here hx rfl (hb hby d17_7) rfl (tlt (by decide : (4 : Int32) < (5 : Int32))).2.1 ?_
    refine XS.aloadN X8.here hx rfl (hb hby d17_10) rfl rfl ?_
    show Steps p.tables e below (T8.setTop (mkF m 11 #[.val (.ref a0c), .val (.int 4), .val (.ref a2b), .val (.int 4), .val (.int 5), .val (.int 4), .val (.int c3)] [(.ref a0c)])) _
    refine XS.iloadN X8.here hx rfl (hb hby d17_11) rfl ?_
    show Steps p.tables e below (T8.setTop (mkF m 12 #[.val (.ref a0c), .val (.int 4), .val (.ref a2b), .val (.int 4), .val (.int 5), .val (.int 4), .val (.int c3)] [(.int 4), (.ref a0c)])) _
    refine X8.caload hx (j := (4 : Int32)) (v := (.int c4)) (by rw [e8]; exact Ar9.1) (State.isArrayOf_alike hZ.alike Ar9.2.1) Ar9.2.2 hin9 hat9 (g := (mkF m 12 #[.val (.ref a0c), .val (.int 4), .val (.ref a2b), .val (.int 4), .val (.int 5), .val (.int 4), .val (.int c3)] [(.int 4), (.ref a0c)])) rfl rfl (hb hby d17_12) _ ?_
    show Steps p.tables e below (T8.setTop (mkF m 13 #[.val (.ref a0c), .val (.int 4), .val (.ref a2b), .val (.int 4), .val (.int 5), .val (.int 4), .val (.int c3)] [(.int c4)])) _
    refine XS.istore X8.here hx rfl (hb hby d17_13) rfl (l' := #[.val (.ref a0c), .val (.int 4), .val (.ref a2b), .val (.int 4), .val (.int 5), .val (.int 4), .val (.int c4)]) rfl ?_
    refine XS.iload X8.here hx rfl (hb hby d17_15) rfl ?_
    refine XS.sipush X8.here hx rfl (hb hby d17_17) ?_
    refine XS.icmpYes X8.here hx rfl (pc0 := 20) (pc' := 26) rfl (hb hby d17_20) rfl (flt hc4).2.2.2 (by decide) (by decide) ?_
    show Steps p.tables e below (T8.setTop (mkF m 26 #[.val (.ref a0c), .val (.int 4), .val (.ref a2b), .val (.int 4), .val (.int 5), .val (.int 4), .val (.int c4)] [])) _
    refine XS.aloadN X8.here hx rfl (hb hby d17_26) rfl rfl ?_
    refine XS.iloadN X8.here hx rfl (hb hby d17_27) rfl ?_
    refine XS.iload X8.here hx rfl (hb hby d17_28) rfl ?_
    refine XS.i2b X8.here hx rfl (hb hby d17_30) rfl ?_
    show Steps p.tables e below (T8.setTop (mkF m 31 #[.val (.ref a0c), .val (.int 4), .val (.ref a2b), .val (.int 4), .val (.int 5), .val (.int 4), .val (.int c4)] [(.int (c4.toInt8.toInt32)), (.int 4), (.ref a2b)])) _
    refine st10 _ ?_
    show Steps p.tables e below (T10.setTop (mkF m 32 #[.val (.ref a0c), .val (.int 4), .val (.ref a2b), .val (.int 4), .val (.int 5), .val (.int 4), .val (.int c4)] [])) _
    refine XS.iinc X10.here hx rfl (hb hby d17_32) rfl (l' := #[.val (.ref a0c), .val (.int 5), .val (.ref a2b), .val (.int 4), .val (.int 5), .val (.int 4), .val (.int c4)]) rfl ?_
    refine XS.iinc X10.here hx rfl (hb hby d17_35) rfl (l' := #[.val (.ref a0c), .val (.int 5), .val (.ref a2b), .val (.int 5), .val (.int 5), .val (.int 4), .val (.int c4)]) rfl ?_
    refine XS.iinc X10.here hx rfl (hb hby d17_38) rfl (l' := #[.val (.ref a0c), .val (.int 5), .val (.ref a2b), .val (.int 5), .val (.int 5), .val (.int 5), .val (.int c4)]) rfl ?_
    refine XS.goto X10.here hx rfl (pc0 := 41) (pc' := 3) rfl (hb hby d17_41) (by decide) (by decide) ?_
    show Steps p.tables e below (T10.setTop (mkF m 3 #[.val (.ref a0c), .val (.int 5), .val (.ref a2b), .val (.int 5), .val (.int 5), .val (.int 5), .val (.int c4)] [])) _
    refine XS.iload X10.here hx rfl (hb hby d17_3) rfl ?_
    refine XS.iload X10.here hx rfl (hb hby d17_5) rfl ?_
    refine XS.icmpYes X10.here hx rfl (pc0 := 7) (pc' := 44) rfl (hb hby d17_7) rfl (flt (by decide : ¬ ((5 : Int32) < (5 : Int32)))).2.1 (by decide) (by decide) ?_
    refine XS.iload X10.here hx rfl (hb hby d17_44) rfl ?_
    show Steps p.tables e below (T10.setTop (mkF m 46 #[.val (.ref a0c), .val (.int 5), .val (.ref a2b), .val (.int 5), .val (.int 5), .val (.int 5), .val (.int c4)] [(.int 5)])) _
    exact retI X10 hx Bd.returns (hb hby d17_46) hr
  · show Q_rmC2_5 n0 Z cS a0c a2b k0 k2 c0 c1 c2 c3 c4 h0 _ T10.heap _
    rw [e10]
    exact ⟨rfl, N10, K10, V10⟩
theorem ef_rmC1_5 (m : MethodId) (a0c : Addr) : entryFrame m #[(.ref a0c), (.int 0), (.int 5)] 6 = mkF m 0 #[.val (.ref a0c), .val (.int 0), .val (.int 5), .unset, .unset, .unset] [] := by first | (simp [entryFrame, mkF, argsToLocals, Value.category]; done) | rfl
def Q_rmC1_5 (n0 : Nat) (Z : State) (cS : Int32) (a0c : Addr) (k0 : ClassId) (c0 : Int32) (c1 : Int32) (c2 : Int32) (c3 : Int32) (c4 : Int32) (h0 : Heap) (v : Option Value) (h : Heap) (L : List Loc) : Prop := ∃ b : Addr, ∃ kb : ClassId, v = some (.ref b) ∧ Fr n0 L ∧ Keep h0 h [] ∧ (h0.size ≤ b) ∧ (Exa Z h b "[B") ∧ (Arv Z h b kb .byte (5 : Int32) [(.int (c0.toInt8.toInt32)), (.int (c1.toInt8.toInt32)), (.int (c2.toInt8.toInt32)), (.int (c3.toInt8.toInt32)), (.int (c4.toInt8.toInt32))] (.int 0))
set_option maxRecDepth 65536 in
set_option maxHeartbeats 40000000 in
theorem rmC1_5 (l : Launch) (Z : State) (a0 : Array Value) (hw : ∀ d ∈ tables_1, d.before a0 Z = true) (ws : List Jvm.Cond) (cS : Int32) (a0c : Addr) (k0 : ClassId) (c0 : Int32) (c1 : Int32) (c2 : Int32) (c3 : Int32) (c4 : Int32) (h0 : Heap) (n0 : Nat) (O0 : Old Z n0 h0) (GL : GF Z cS) (V_a0c : Arv Z h0 a0c k0 .char (5 : Int32) [(.int c0), (.int c1), (.int c2), (.int c3), (.int c4)] (.int 0)) (hc0 : ¬ ((255 : Int32) < c0)) (hc1 : ¬ ((255 : Int32) < c1)) (hc2 : ¬ ((255 : Int32) < c2)) (hc3 : ¬ ((255 : Int32) < c3)) (hc4 : ¬ ((255 : Int32) < c4)) :
    MetFree l MN_1 (head1 (Jvm.Cond.code MN_1 jdk_52_method_16_code 6 (some (.array .byte)) :: ws) ({ frames := 1, cells := 1, slots := 5, locals := 18 } : Room)) (fun a U => a = #[(.ref a0c), (.int 0), (.int 5)] ∧ Z.Warmed39 U.vm ∧ U.heap = h0) (fun _ _ _ _ _ => True) (fun _ U o U' => ∃ v L, o = .returned v ∧ Q_rmC1_5 n0 Z cS a0c k0 c0 c1 c2 c3 c4 h0 v U'.heap L ∧ FrameEnd U o U' L ({ frames := 1, cells := 1, slots := 5, locals := 18 } : Room).cells ({ frames := 1, cells := 1, slots := 5, locals := 18 } : Room).slots) := by
  refine MetFree.of_bodySF (plainFor_of_name pn) hisR ?_
  intro p e s m args below meth c s₁ Bd hml0 hP hK
  obtain ⟨rfl, hZ, hh⟩ := hP
  have hx := Bd.exec
  have hby := Bd.bytes
  have hml : c.maxLocals = 6 := hml0
  have hown : s.vm.findClass "java/lang/StringUTF16" = some m.cls := findClass_of_methodNamed Bd.named
  have hnm := (name_of_methodNamed Bd.named Bd.method).1
  have X0 : Stand p l e ({ frames := 1, cells := 1, slots := 5, locals := 18 } : Room) s m #[(.ref a0c), (.int 0), (.int 5)] below meth c s₁ [] 0 0 := Stand.of_body Bd
  have e0 : s₁.heap = h0 := by rw [← hh, Bd.state]; rfl
  have N0 := Fr.nil n0
  have pre0 : ∀ t, Steps p.tables e below (s₁.setTop (mkF m 0 #[.val (.ref a0c), .val (.int 0), .val (.int 5), .unset, .unset, .unset] [])) t → Steps p.tables e below (s₁.setTop (entryFrame m #[(.ref a0c), (.int 0), (.int 5)] 6)) t := fun t k => castTop (ef_rmC1_5 m a0c) k
  have GL' := GL
  obtain ⟨GCS, GCP⟩ := GL'
  obtain ⟨T1, h1, k1, X1, e1, E1, A1, A1', st1⟩ := newPE X0 hx hZ (Wd hw 23 rfl) e0 (g := (mkF m 1 #[.val (.ref a0c), .val (.int 0), .val (.int 5), .unset, .unset, .unset] [(.int 5)])) rfl (hb hby d16_1) rfl (by decide) (cap := 5) (by decide) (by decide) (by decide) (by decide) (ad := "[B") rfl
  obtain ⟨b1, g1⟩ : ∃ z, z = h0.size := ⟨_, rfl⟩
  rw [← g1] at A1 A1' st1
  have g_b1 : n0 ≤ b1 := Nat.le_trans (own_sz O0) (Nat.le_of_eq g1.symm)
  have sz_b1 : h0.size ≤ b1 := Nat.le_trans (Keep.refl h0 []).1 (Nat.le_of_eq g1.symm)
  have K1 : Keep h0 h1 [] := (Keep.refl h0 []).ext E1
  have O1 := O0.ext E1
  have V_b1 : Arv Z h1 b1 k1 .byte (5 : Int32) [(.int 0), (.int 0), (.int 0), (.int 0), (.int 0)] (.int 0) := (Arv.new A1 (by decide)).pad (pad_rep [] (.int 0) 5)
  obtain ⟨_, _, ⟨T2, L2, k2, n2⟩, -, X2, ⟨Lc2, hQ2, l2, y2, z2⟩, st2⟩ := Jvm.LawKit.callS X1 hx (y := MN_0) hown (mvT hZ (Wd hw 79 rfl)) (mvT hZ (Wd hw 80 rfl)) (mvT hZ (Wd hw 77 rfl)) (mvT hZ (Wd hw 81 rfl)) (by decide) (backOf (W := 0) (rmC2_5 l Z a0 hw [] cS (a0c) (b1) (k0) (k1) (c0) (c1) (c2) (c3) (c4) (h1) n0 O1 GL (V_a0c.ext E1) V_b1 g_b1 hc0 hc1 hc2 hc3 hc4) hZ (Wd hw 81 rfl) (Wd hw 77 rfl) (by decide) (by decide)) (g := (mkF m 9 #[.val (.ref a0c), .val (.int 0), .val (.int 5), .val (.ref b1), .unset, .unset] [(.int 5), (.int 0), (.ref b1), (.int 0), (.ref a0c)])) rfl (by rw [hml]; rfl) (argsL := [(.ref a0c), (.int 0), (.ref b1), (.int 0), (.int 5)]) (rest := []) (lenOf pd rfl) rfl (by show 2 * 0 + _ ≤ _; exact Nat.le_of_eq rfl) (hb hby d16_9) (fun _ _ => ⟨rfl, e1, (by decide : 1 + 0 ≤ _), (by decide : 5 + 0 ≤ _)⟩)
  dsimp only [Pt.U, Pt.locs, Pt.cells, Pt.slots] at X2 l2 y2 z2 st2 hQ2
  subst l2 y2 z2
  obtain ⟨rfl, N2q, Kc2, P2_0⟩ := hQ2
  have K2 : Keep h0 T2.heap [] := K1.trans Kc2 (allS (Or.inr sz_b1) all0)
  have O2 := O1.keep Kc2 (allS g_b1 all0)
  have N2 := Fr.app N0 N2q
  obtain ⟨fs, hr, hrun, hended, hW, hsame⟩ := X2.leave (v := some (.ref b1)) (fun h => by rw [Bd.returns] at h; cases h)
  refine ⟨_, _, pre0 _ ?_, hrun, hended, _, _, rfl, ?_, ⟨_, rfl⟩, hW, hsame.mono (by decide) (by decide)⟩
  · show Steps p.tables e below (s₁.setTop (mkF m 0 #[.val (.ref a0c), .val (.int 0), .val (.int 5), .unset, .unset, .unset] [])) _
    refine XS.iloadN X0.here hx rfl (hb hby d16_0) rfl ?_
    show Steps p.tables e below (s₁.setTop (mkF m 1 #[.val (.ref a0c), .val (.int 0), .val (.int 5), .unset, .unset, .unset] [(.int 5)])) _
    refine st1 _ ?_
    show Steps p.tables e below (T1.setTop (mkF m 3 #[.val (.ref a0c), .val (.int 0), .val (.int 5), .unset, .unset, .unset] [(.ref b1)])) _
    refine XS.astoreN X1.here hx rfl (hb hby d16_3) rfl rfl (l' := #[.val (.ref a0c), .val (.int 0), .val (.int 5), .val (.ref b1), .unset, .unset]) rfl ?_
    refine XS.aloadN X1.here hx rfl (hb hby d16_4) rfl rfl ?_
    refine XS.iloadN X1.here hx rfl (hb hby d16_5) rfl ?_
    refine XS.aloadN X1.here hx rfl (hb hby d16_6) rfl rfl ?_
    show Steps p.tables e below (T1.setTop (mkF m 7 #[.val (.ref a0c), .val (.int 0), .val (.int 5), .val (.ref b1), .unset, .unset] [(.ref b1), (.int 0), (.ref a0c)])) _
    refine XS.iconst X1.here hx rfl (hb hby d16_7) ?_
    refine XS.iloadN X1.here hx rfl (hb hby d16_8) rfl ?_
    show Steps p.tables e below (T1.setTop (mkF m 9 #[.val (.ref a0c), .val (.int 0), .val (.int 5), .val (.ref b1), .unset, .unset] [(.int 5), (.int 0), (.ref b1), (.int 0), (.ref a0c)])) _
    refine st2 _ ?_
    show Steps p.tables e below (T2.setTop (mkF m 12 #[.val (.ref a0c), .val (.int 0), .val (.int 5), .val (.ref b1), .unset, .unset] [(.int 5)])) _
    refine XS.istore X2.here hx rfl (hb hby d16_12) rfl (l' := #[.val (.ref a0c), .val (.int 0), .val (.int 5), .val (.ref b1), .val (.int 5), .unset]) rfl ?_
    refine XS.iload X2.here hx rfl (hb hby d16_14) rfl ?_
    refine XS.iloadN X2.here hx rfl (hb hby d16_16) rfl ?_
    refine XS.icmpYes X2.here hx rfl (pc0 := 17) (pc' := 57) rfl (hb hby d16_17) rfl (teq (by decide : (5 : Int32) = (5 : Int32))).1 (by decide) (by decide) ?_
    show Steps p.tables e below (T2.setTop (mkF m 57 #[.val (.ref a0c), .val (.int 0), .val (.int 5), .val (.ref b1), .val (.int 5), .unset] [])) _
    refine XS.aloadN X2.here hx rfl (hb hby d16_57) rfl rfl ?_
    show Steps p.tables e below (T2.setTop (mkF m 58 #[.val (.ref a0c), .val (.int 0), .val (.int 5), .val (.ref b1), .val (.int 5), .unset] [(.ref b1)])) _
    jvm_step X2.here [X2.here.top, hx, (hb hby d16_58), X2.method', Bd.returns, Value.isRef, FieldType.isReference]
    first | (intro acts; rw [hr _ acts rfl rfl rfl]) | rw [hr _ _ rfl rfl rfl]
    exact Steps.refl _
  · show Q_rmC1_5 n0 Z cS a0c k0 c0 c1 c2 c3 c4 h0 _ T2.heap _
    exact ⟨b1, k1, rfl, N2, K2, sz_b1, (A1'.keep Kc2), P2_0⟩
theorem ef_rmC2_6 (m : MethodId) (a0c : Addr) (a2b : Addr) : entryFrame m #[(.ref a0c), (.int 0), (.ref a2b), (.int 0), (.int 6)] 7 = mkF m 0 #[.val (.ref a0c), .val (.int 0), .val (.ref a2b), .val (.int 0), .val (.int 6), .unset, .unset] [] := by first | (simp [entryFrame, mkF, argsToLocals, Value.category]; done) | rfl
def Q_rmC2_6 (n0 : Nat) (Z : State) (cS : Int32) (a0c : Addr) (a2b : Addr) (k0 : ClassId) (k2 : ClassId) (c0 : Int32) (c1 : Int32) (c2 : Int32) (c3 : Int32) (c4 : Int32) (c5 : Int32) (h0 : Heap) (v : Option Value) (h : Heap) (L : List Loc) : Prop := v = some (.int 6) ∧ Fr n0 L ∧ Keep h0 h [a2b] ∧ (Arv Z h a2b k2 .byte (6 : Int32) [(.int (c0.toInt8.toInt32)), (.int (c1.toInt8.toInt32)), (.int (c2.toInt8.toInt32)), (.int (c3.toInt8.toInt32)), (.int (c4.toInt8.toInt32)), (.int (c5.toInt8.toInt32))] (.int 0))
set_option maxRecDepth 65536 in
set_option maxHeartbeats 40000000 in
theorem rmC2_6 (l : Launch) (Z : State) (a0 : Array Value) (hw : ∀ d ∈ tables_1, d.before a0 Z = true) (ws : List Jvm.Cond) (cS : Int32) (a0c : Addr) (a2b : Addr) (k0 : ClassId) (k2 : ClassId) (c0 : Int32) (c1 : Int32) (c2 : Int32) (c3 : Int32) (c4 : Int32) (c5 : Int32) (h0 : Heap) (n0 : Nat) (O0 : Old Z n0 h0) (GL : GF Z cS) (V_a0c : Arv Z h0 a0c k0 .char (6 : Int32) [(.int c0), (.int c1), (.int c2), (.int c3), (.int c4), (.int c5)] (.int 0)) (V_a2b : Arv Z h0 a2b k2 .byte (6 : Int32) [(.int 0), (.int 0), (.int 0), (.int 0), (.int 0), (.int 0)] (.int 0)) (g_a2b : n0 ≤ a2b) (hc0 : ¬ ((255 : Int32) < c0)) (hc1 : ¬ ((255 : Int32) < c1)) (hc2 : ¬ ((255 : Int32) < c2)) (hc3 : ¬ ((255 : Int32) < c3)) (hc4 : ¬ ((255 : Int32) < c4)) (hc5 : ¬ ((255 : Int32) < c5)) :
    MetFree l MN_0 (head1 (Jvm.Cond.code MN_0 jdk_52_method_21_code 7 (some .int) :: ws) ({ frames := 0, cells := 0, slots := 0, locals := 0 } : Room)) (fun a U => a = #[(.ref a0c), (.int 0), (.ref a2b), (.int 0), (.int 6)] ∧ Z.Warmed39 U.vm ∧ U.heap = h0) (fun _ _ _ _ _ => True) (fun _ U o U' => ∃ v L, o = .returned v ∧ Q_rmC2_6 n0 Z cS a0c a2b k0 k2 c0 c1 c2 c3 c4 c5 h0 v U'.heap L ∧ FrameEnd U o U' L ({ frames := 0, cells := 0, slots := 0, locals := 0 } : Room).cells ({ frames := 0, cells := 0, slots := 0, locals := 0 } : Room).slots) := by
  refine MetFree.of_bodySF (plainFor_of_name pn) hisR ?_
  intro p e s m args below meth c s₁ Bd hml0 hP hK
  obtain ⟨rfl, hZ, hh⟩ := hP
  have hx := Bd.exec
  have hby := Bd.bytes
  have hml : c.maxLocals = 7 := hml0
  have hown : s.vm.findClass "java/lang/StringUTF16" = some m.cls := findClass_of_methodNamed Bd.named
  have hnm := (name_of_methodNamed Bd.named Bd.method).1
  have X0 : Stand p l e ({ frames := 0, cells := 0, slots := 0, locals := 0 } : Room) s m #[(.ref a0c), (.int 0), (.ref a2b), (.int 0), (.int 6)] below meth c s₁ [] 0 0 := Stand.of_body Bd
  have e0 : s₁.heap = h0 := by rw [← hh, Bd.state]; rfl
  have N0 := Fr.nil n0
  have pre0 : ∀ t, Steps p.tables e below (s₁.setTop (mkF m 0 #[.val (.ref a0c), .val (.int 0), .val (.ref a2b), .val (.int 0), .val (.int 6), .unset, .unset] [])) t → Steps p.tables e below (s₁.setTop (entryFrame m #[(.ref a0c), (.int 0), (.ref a2b), (.int 0), (.int 6)] 7)) t := fun t k => castTop (ef_rmC2_6 m a0c a2b) k
  have GL' := GL
  obtain ⟨GCS, GCP⟩ := GL'
  obtain ⟨cl1, Ar1, -, S1, N1_, H1, G1⟩ := id (V_a0c)
  have hin1 : ¬ ((0 : Int32) < 0 ∨ cl1.slots.size ≤ ((0 : Int32)).toNatClampNeg) := inb_of S1 ⟨(by decide), (by decide)⟩
  have hat1 : cl1.slots[((0 : Int32)).toNatClampNeg]? = some (.int c0) := H1.at hin1 rfl
  obtain ⟨cl2, Ar2, q2, S2, N2_, H2, G2⟩ := id (V_a2b)
  have hin2 : ¬ ((0 : Int32) < 0 ∨ cl2.slots.size ≤ ((0 : Int32)).toNatClampNeg) := inb_of S2 ⟨(by decide), (by decide)⟩
  obtain ⟨T2, h2, X2, e2, W2, st2⟩ := stB X0 hx hZ e0 Ar2 (j := (0 : Int32)) hin2 (g := (mkF m 31 #[.val (.ref a0c), .val (.int 0), .val (.ref a2b), .val (.int 0), .val (.int 6), .val (.int 0), .val (.int c0)] [(.int (c0.toInt8.toInt32)), (.int 0), (.ref a2b)])) rfl rfl (hb hby d17_31)
  have K2 : Keep h0 h2 [a2b] := (Keep.refl h0 [a2b]).wr W2 (Or.inl (List.mem_of_getElem? (i := 0) rfl))
  have O2 := O0.wr W2 g_a2b
  have N2 := Fr.snoc X2 N0 g_a2b
  have V2' : Arv Z h2 a2b k2 .byte (6 : Int32) [(.int ((c0.toInt8.toInt32)).toInt8.toInt32), (.int 0), (.int 0), (.int 0), (.int 0), (.int 0)] (.int 0) := Arv.set Ar2 q2 S2 N2_ H2 G2 (fits_nar_byte _) W2 0 rfl (Nat.le_of_ble_eq_true rfl)
  have V2 : Arv Z h2 a2b k2 .byte (6 : Int32) [(.int (c0.toInt8.toInt32)), (.int 0), (.int 0), (.int 0), (.int 0), (.int 0)] (.int 0) := by
    rw [own_b2 c0] at V2'
    exact V2'
  obtain ⟨cl3, Ar3, -, S3, N3_, H3, G3⟩ := id ((V_a0c.other W2 (own_neArv V_a0c V_a2b (by decide))))
  have hin3 : ¬ ((1 : Int32) < 0 ∨ cl3.slots.size ≤ ((1 : Int32)).toNatClampNeg) := inb_of S3 ⟨(by decide), (by decide)⟩
  have hat3 : cl3.slots[((1 : Int32)).toNatClampNeg]? = some (.int c1) := H3.at hin3 rfl
  obtain ⟨cl4, Ar4, q4, S4, N4_, H4, G4⟩ := id (V2)
  have hin4 : ¬ ((1 : Int32) < 0 ∨ cl4.slots.size ≤ ((1 : Int32)).toNatClampNeg) := inb_of S4 ⟨(by decide), (by decide)⟩
  obtain ⟨T4, h4, X4, e4, W4, st4⟩ := stB X2 hx hZ e2 Ar4 (j := (1 : Int32)) hin4 (g := (mkF m 31 #[.val (.ref a0c), .val (.int 1), .val (.ref a2b), .val (.int 1), .val (.int 6), .val (.int 1), .val (.int c1)] [(.int (c1.toInt8.toInt32)), (.int 1), (.ref a2b)])) rfl rfl (hb hby d17_31)
  have K4 : Keep h0 h4 [a2b] := K2.wr W4 (Or.inl (List.mem_of_getElem? (i := 0) rfl))
  have O4 := O2.wr W4 g_a2b
  have N4 := Fr.snoc X4 N2 g_a2b
  have V4' : Arv Z h4 a2b k2 .byte (6 : Int32) [(.int (c0.toInt8.toInt32)), (.int ((c1.toInt8.toInt32)).toInt8.toInt32), (.int 0), (.int 0), (.int 0), (.int 0)] (.int 0) := Arv.set Ar4 q4 S4 N4_ H4 G4 (fits_nar_byte _) W4 1 rfl (Nat.le_of_ble_eq_true rfl)
  have V4 : Arv Z h4 a2b k2 .byte (6 : Int32) [(.int (c0.toInt8.toInt32)), (.int (c1.toInt8.toInt32)), (.int 0), (.int 0), (.int 0), (.int 0)] (.int 0) := by
    rw [own_b2 c1] at V4'
    exact V4'
  obtain ⟨cl5, Ar5, -, S5, N5_, H5, G5⟩ := id (((V_a0c.other W2 (own_neArv V_a0c V_a2b (by decide))).other W4 (own_neArv V_a0c V_a2b (by decide))))
  have hin5 : ¬ ((2 : Int32) < 0 ∨ cl5.slots.size ≤ ((2 : Int32)).toNatClampNeg) := inb_of S5 ⟨(by decide), (by decide)⟩
  have hat5 : cl5.slots[((2 : Int32)).toNatClampNeg]? = some (.int c2) := H5.at hin5 rfl
  obtain ⟨cl6, Ar6, q6, S6, N6_, H6, G6⟩ := id (V4)
  have hin6 : ¬ ((2 : Int32) < 0 ∨ cl6.slots.size ≤ ((2 : Int32)).toNatClampNeg) := inb_of S6 ⟨(by decide), (by decide)⟩
  obtain ⟨T6, h6, X6, e6, W6, st6⟩ := stB X4 hx hZ e4 Ar6 (j := (2 : Int32)) hin6 (g := (mkF m 31 #[.val (.ref a0c), .val (.int 2), .val (.ref a2b), .val (.int 2), .val (.int 6), .val (.int 2), .val (.int c2)] [(.int (c2.toInt8.toInt32)), (.int 2), (.ref a2b)])) rfl rfl (hb hby d17_31)
  have K6 : Keep h0 h6 [a2b] := K4.wr W6 (Or.inl (List.mem_of_getElem? (i := 0) rfl))
  have O6 := O4.wr W6 g_a2b
  have N6 := Fr.snoc X6 N4 g_a2b
  have V6' : Arv Z h6 a2b k2 .byte (6 : Int32) [(.int (c0.toInt8.toInt32)), (.int (c1.toInt8.toInt32)), (.int ((c2.toInt8.toInt32)).toInt8.toInt32), (.int 0), (.int 0), (.int 0)] (.int 0) := Arv.set Ar6 q6 S6 N6_ H6 G6 (fits_nar_byte _) W6 2 rfl (Nat.le_of_ble_eq_true rfl)
  have V6 : Arv Z h6 a2b k2 .byte (6 : Int32) [(.int (c0.toInt8.toInt32)), (.int (c1.toInt8.toInt32)), (.int (c2.toInt8.toInt32)), (.int 0), (.int 0), (.int 0)] (.int 0) := by
    rw [own_b2 c2] at V6'
    exact V6'
  obtain ⟨cl7, Ar7, -, S7, N7_, H7, G7⟩ := id ((((V_a0c.other W2 (own_neArv V_a0c V_a2b (by decide))).other W4 (own_neArv V_a0c V_a2b (by decide))).other W6 (own_neArv V_a0c V_a2b (by decide))))
  have hin7 : ¬ ((3 : Int32) < 0 ∨ cl7.slots.size ≤ ((3 : Int32)).toNatClampNeg) := inb_of S7 ⟨(by decide), (by decide)⟩
  have hat7 : cl7.slots[((3 : Int32)).toNatClampNeg]? = some (.int c3) := H7.at hin7 rfl
  obtain ⟨cl8, Ar8, q8, S8, N8_, H8, G8⟩ := id (V6)
  have hin8 : ¬ ((3 : Int32) < 0 ∨ cl8.slots.size ≤ ((3 : Int32)).toNatClampNeg) := inb_of S8 ⟨(by decide), (by decide)⟩
  obtain ⟨T8, h8, X8, e8, W8, st8⟩ := stB X6 hx hZ e6 Ar8 (j := (3 : Int32)) hin8 (g := (mkF m 31 #[.val (.ref a0c), .val (.int 3), .val (.ref a2b), .val (.int 3), .val (.int 6), .val (.int 3), .val (.int c3)] [(.int (c3.toInt8.toInt32)), (.int 3), (.ref a2b)])) rfl rfl (hb hby d17_31)
  have K8 : Keep h0 h8 [a2b] := K6.wr W8 (Or.inl (List.mem_of_getElem? (i := 0) rfl))
  have O8 := O6.wr W8 g_a2b
  have N8 := Fr.snoc X8 N6 g_a2b
  have V8' : Arv Z h8 a2b k2 .byte (6 : Int32) [(.int (c0.toInt8.toInt32)), (.int (c1.toInt8.toInt32)), (.int (c2.toInt8.toInt32)), (.int ((c3.toInt8.toInt32)).toInt8.toInt32), (.int 0), (.int 0)] (.int 0) := Arv.set Ar8 q8 S8 N8_ H8 G8 (fits_nar_byte _) W8 3 rfl (Nat.le_of_ble_eq_true rfl)
  have V8 : Arv Z h8 a2b k2 .byte (6 : Int32) [(.int (c0.toInt8.toInt32)), (.int (c1.toInt8.toInt32)), (.int (c2.toInt8.toInt32)), (.int (c3.toInt8.toInt32)), (.int 0), (.int 0)] (.int 0) := by
    rw [own_b2 c3] at V8'
    exact V8'
  obtain ⟨cl9, Ar9, -, S9, N9_, H9, G9⟩ := id (((((V_a0c.other W2 (own_neArv V_a0c V_a2b (by decide))).other W4 (own_neArv V_a0c V_a2b (by decide))).other W6 (own_neArv V_a0c V_a2b (by decide))).other W8 (own_neArv V_a0c V_a2b (by decide))))
  have hin9 : ¬ ((4 : Int32) < 0 ∨ cl9.slots.size ≤ ((4 : Int32)).toNatClampNeg) := inb_of S9 ⟨(by decide), (by decide)⟩
  have hat9 : cl9.slots[((4 : Int32)).toNatClampNeg]? = some (.int c4) := H9.at hin9 rfl
  obtain ⟨cl10, Ar10, q10, S10, N10_, H10, G10⟩ := id (V8)
  have hin10 : ¬ ((4 : Int32) < 0 ∨ cl10.slots.size ≤ ((4 : Int32)).toNatClampNeg) := inb_of S10 ⟨(by decide), (by decide)⟩
  obtain ⟨T10, h10, X10, e10, W10, st10⟩ := stB X8 hx hZ e8 Ar10 (j := (4 : Int32)) hin10 (g := (mkF m 31 #[.val (.ref a0c), .val (.int 4), .val (.ref a2b), .val (.int 4), .val (.int 6), .val (.int 4), .val (.int c4)] [(.int (c4.toInt8.toInt32)), (.int 4), (.ref a2b)])) rfl rfl (hb hby d17_31)
  have K10 : Keep h0 h10 [a2b] := K8.wr W10 (Or.inl (List.mem_of_getElem? (i := 0) rfl))
  have O10 := O8.wr W10 g_a2b
  have N10 := Fr.snoc X10 N8 g_a2b
  have V10' : Arv Z h10 a2b k2 .byte (6 : Int32) [(.int (c0.toInt8.toInt32)), (.int (c1.toInt8.toInt32)), (.int (c2.toInt8.toInt32)), (.int (c3.toInt8.toInt32)), (.int ((c4.toInt8.toInt32)).toInt8.toInt32), (.int 0)] (.int 0) := Arv.set Ar10 q10 S10 N10_ H10 G10 (fits_nar_byte _) W10 4 rfl (Nat.le_of_ble_eq_true rfl)
  have V10 : Arv Z h10 a2b k2 .byte (6 : Int32) [(.int (c0.toInt8.toInt32)), (.int (c1.toInt8.toInt32)), (.int (c2.toInt8.toInt32)), (.int (c3.toInt8.toInt32)), (.int (c4.toInt8.toInt32)), (.int 0)] (.int 0) := by
    rw [own_b2 c4] at V10'
    exact V10'
  obtain ⟨cl11, Ar11, -, S11, N11_, H11, G11⟩ := id ((((((V_a0c.other W2 (own_neArv V_a0c V_a2b (by decide))).other W4 (own_neArv V_a0c V_a2b (by decide))).other W6 (own_neArv V_a0c V_a2b (by decide))).other W8 (own_neArv V_a0c V_a2b (by decide))).other W10 (own_neArv V_a0c V_a2b (by decide))))
  have hin11 : ¬ ((5 : Int32) < 0 ∨ cl11.slots.size ≤ ((5 : Int32)).toNatClampNeg) := inb_of S11 ⟨(by decide), (by decide)⟩
  have hat11 : cl11.slots[((5 : Int32)).toNatClampNeg]? = some (.int c5) := H11.at hin11 rfl
  obtain ⟨cl12, Ar12, q12, S12, N12_, H12, G12⟩ := id (V10)
  have hin12 : ¬ ((5 : Int32) < 0 ∨ cl12.slots.size ≤ ((5 : Int32)).toNatClampNeg) := inb_of S12 ⟨(by decide), (by decide)⟩
  obtain ⟨T12, h12, X12, e12, W12, st12⟩ := stB X10 hx hZ e10 Ar12 (j := (5 : Int32)) hin12 (g := (mkF m 31 #[.val (.ref a0c), .val (.int 5), .val (.ref a2b), .val (.int 5), .val (.int 6), .val (.int 5), .val (.int c5)] [(.int (c5.toInt8.toInt32)), (.int 5), (.ref a2b)])) rfl rfl (hb hby d17_31)
  have K12 : Keep h0 h12 [a2b] := K10.wr W12 (Or.inl (List.mem_of_getElem? (i := 0) rfl))
  have O12 := O10.wr W12 g_a2b
  have N12 := Fr.snoc X12 N10 g_a2b
  have V12' : Arv Z h12 a2b k2 .byte (6 : Int32) [(.int (c0.toInt8.toInt32)), (.int (c1.toInt8.toInt32)), (.int (c2.toInt8.toInt32)), (.int (c3.toInt8.toInt32)), (.int (c4.toInt8.toInt32)), (.int ((c5.toInt8.toInt32)).toInt8.toInt32)] (.int 0) := Arv.set Ar12 q12 S12 N12_ H12 G12 (fits_nar_byte _) W12 5 rfl (Nat.le_of_ble_eq_true rfl)
  have V12 : Arv Z h12 a2b k2 .byte (6 : Int32) [(.int (c0.toInt8.toInt32)), (.int (c1.toInt8.toInt32)), (.int (c2.toInt8.toInt32)), (.int (c3.toInt8.toInt32)), (.int (c4.toInt8.toInt32)), (.int (c5.toInt8.toInt32))] (.int 0) := by
    rw [own_b2 c5] at V12'
    exact V12'
  obtain ⟨fs, hr, hrun, hended, hW, hsame⟩ := X12.leave (v := some (.int 6)) (fun h => by rw [Bd.returns] at h; cases h)
  refine ⟨_, _, pre0 _ ?_, hrun, hended, _, _, rfl, ?_, ⟨_, rfl⟩, hW, hsame.mono (by decide) (by decide)⟩
  · show Steps p.tables e below (s₁.setTop (mkF m 0 #[.val (.ref a0c), .val (.int 0), .val (.ref a2b), .val (.int 0), .val (.int 6), .unset, .unset] [])) _
    refine XS.iconst X0.here hx rfl (hb hby d17_0) ?_
    refine XS.istore X0.here hx rfl (hb hby d17_1) rfl (l' := #[.val (.ref a0c), .val (.int 0), .val (.ref a2b), .val (.int 0), .val (.int 6), .val (.int 0), .unset]) rfl ?_
    refine XS.iload X0.here hx rfl (hb hby d17_3) rfl ?_
    refine XS.iload X0.here hx rfl (hb hby d17_5) rfl ?_
    show Steps p.tables e below (s₁.setTop (mkF m 7 #[.val (.ref a0c), .val (.int 0), .val (.ref a2b), .val (.int 0), .val (.int 6), .val (.int 0), .unset] [(.int 6), (.int 0)])) _
    refine XS.icmpNo X0.here hx rfl (hb hby d17_7) rfl (tlt (by decide : (0 : Int32) < (6 : Int32))).2.1 ?_
    refine XS.aloadN X0.here hx rfl (hb hby d17_10) rfl rfl ?_
    refine XS.iloadN X0.here hx rfl (hb hby d17_11) rfl ?_
    show Steps p.tables e below (s₁.setTop (mkF m 12 #[.val (.ref a0c), .val (.int 0), .val (.ref a2b), .val (.int 0), .val (.int 6), .val (.int 0), .unset] [(.int 0), (.ref a0c)])) _
    refine X0.caload hx (j := (0 : Int32)) (v := (.int c0)) (by rw [e0]; exact Ar1.1) (State.isArrayOf_alike hZ.alike Ar1.2.1) Ar1.2.2 hin1 hat1 (g := (mkF m 12 #[.val (.ref a0c), .val (.int 0), .val (.ref a2b), .val (.int 0), .val (.int 6), .val (.int 0), .unset] [(.int 0), (.ref a0c)])) rfl rfl (hb hby d17_12) _ ?_
    show Steps p.tables e below (s₁.setTop (mkF m 13 #[.val (.ref a0c), .val (.int 0), .val (.ref a2b), .val (.int 0), .val (.int 6), .val (.int 0), .unset] [(.int c0)])) _
    refine XS.istore X0.here hx rfl (hb hby d17_13) rfl (l' := #[.val (.ref a0c), .val (.int 0), .val (.ref a2b), .val (.int 0), .val (.int 6), .val (.int 0), .val (.int c0)]) rfl ?_
    refine XS.iload X0.here hx rfl (hb hby d17_15) rfl ?_
    refine XS.sipush X0.here hx rfl (hb hby d17_17) ?_
    refine XS.icmpYes X0.here hx rfl (pc0 := 20) (pc' := 26) rfl (hb hby d17_20) rfl (flt hc0).2.2.2 (by decide) (by decide) ?_
    show Steps p.tables e below (s₁.setTop (mkF m 26 #[.val (.ref a0c), .val (.int 0), .val (.ref a2b), .val (.int 0), .val (.int 6), .val (.int 0), .val (.int c0)] [])) _
    refine XS.aloadN X0.here hx rfl (hb hby d17_26) rfl rfl ?_
    refine XS.iloadN X0.here hx rfl (hb hby d17_27) rfl ?_
    refine XS.iload X0.here hx rfl (hb hby d17_28) rfl ?_
    refine XS.i2b X0.here hx rfl (hb hby d17_30) rfl ?_
    show Steps p.tables e below (s₁.setTop (mkF m 31 #[.val (.ref a0c), .val (.int 0), .val (.ref a2b), .val (.int 0), .val (.int 6), .val (.int 0), .val (.int c0)] [(.int (c0.toInt8.toInt32)), (.int 0), (.ref a2b)])) _
    refine st2 _ ?_
    show Steps p.tables e below (T2.setTop (mkF m 32 #[.val (.ref a0c), .val (.int 0), .val (.ref a2b), .val (.int 0), .val (.int 6), .val (.int 0), .val (.int c0)] [])) _
    refine XS.iinc X2.here hx rfl (hb hby d17_32) rfl (l' := #[.val (.ref a0c), .val (.int 1), .val (.ref a2b), .val (.int 0), .val (.int 6), .val (.int 0), .val (.int c0)]) rfl ?_
    refine XS.iinc X2.here hx rfl (hb hby d17_35) rfl (l' := #[.val (.ref a0c), .val (.int 1), .val (.ref a2b), .val (.int 1), .val (.int 6), .val (.int 0), .val (.int c0)]) rfl ?_
    refine XS.iinc X2.here hx rfl (hb hby d17_38) rfl (l' := #[.val (.ref a0c), .val (.int 1), .val (.ref a2b), .val (.int 1), .val (.int 6), .val (.int 1), .val (.int c0)]) rfl ?_
    refine XS.goto X2.here hx rfl (pc0 := 41) (pc' := 3) rfl (hb hby d17_41) (by decide) (by decide) ?_
    show Steps p.tables e below (T2.setTop (mkF m 3 #[.val (.ref a0c), .val (.int 1), .val (.ref a2b), .val (.int 1), .val (.int 6), .val (.int 1), .val (.int c0)] [])) _
    refine XS.iload X2.here hx rfl (hb hby d17_3) rfl ?_
    refine XS.iload X2.here hx rfl (hb hby d17_5) rfl ?_
    refine XS.icmpNo X2.here hx rfl (hb hby d17_7) rfl (tlt (by decide : (1 : Int32) < (6 : Int32))).2.1 ?_
    refine XS.aloadN X2.here hx rfl (hb hby d17_10) rfl rfl ?_
    show Steps p.tables e below (T2.setTop (mkF m 11 #[.val (.ref a0c), .val (.int 1), .val (.ref a2b), .val (.int 1), .val (.int 6), .val (.int 1), .val (.int c0)] [(.ref a0c)])) _
    refine XS.iloadN X2.here hx rfl (hb hby d17_11) rfl ?_
    show Steps p.tables e below (T2.setTop (mkF m 12 #[.val (.ref a0c), .val (.int 1), .val (.ref a2b), .val (.int 1), .val (.int 6), .val (.int 1), .val (.int c0)] [(.int 1), (.ref a0c)])) _
    refine X2.caload hx (j := (1 : Int32)) (v := (.int c1)) (by rw [e2]; exact Ar3.1) (State.isArrayOf_alike hZ.alike Ar3.2.1) Ar3.2.2 hin3 hat3 (g := (mkF m 12 #[.val (.ref a0c), .val (.int 1), .val (.ref a2b), .val (.int 1), .val (.int 6), .val (.int 1), .val (.int c0)] [(.int 1), (.ref a0c)])) rfl rfl (hb hby d17_12) _ ?_
    show Steps p.tables e below (T2.setTop (mkF m 13 #[.val (.ref a0c), .val (.int 1), .val (.ref a2b), .val (.int 1), .val (.int 6), .val (.int 1), .val (.int c0)] [(.int c1)])) _
    refine XS.istore X2.here hx rfl (hb hby d17_13) rfl (l' := #[.val (.ref a0c), .val (.int 1), .val (.ref a2b), .val (.int 1), .val (.int 6), .val (.int 1), .val (.int c1)]) rfl ?_
    refine XS.iload X2.here hx rfl (hb hby d17_15) rfl ?_
    refine XS.sipush X2.here hx rfl (hb hby d17_17) ?_
    refine XS.icmpYes X2.here hx rfl (pc0 := 20) (pc' := 26) rfl (hb hby d17_20) rfl (flt hc1).2.2.2 (by decide) (by decide) ?_
    show Steps p.tables e below (T2.setTop (mkF m 26 #[.val (.ref a0c), .val (.int 1), .val (.ref a2b), .val (.int 1), .val (.int 6), .val (.int 1), .val (.int c1)] [])) _
    refine XS.aloadN X2.here hx rfl (hb hby d17_26) rfl rfl ?_
    refine XS.iloadN X2.here hx rfl (hb hby d17_27) rfl ?_
    refine XS.iload X2.here hx rfl (hb hby d17_28) rfl ?_
    refine XS.i2b X2.here hx rfl (hb hby d17_30) rfl ?_
    show Steps p.tables e below (T2.setTop (mkF m 31 #[.val (.ref a0c), .val (.int 1), .val (.ref a2b), .val (.int 1), .val (.int 6), .val (.int 1), .val (.int c1)] [(.int (c1.toInt8.toInt32)), (.int 1), (.ref a2b)])) _
    refine st4 _ ?_
    show Steps p.tables e below (T4.setTop (mkF m 32 #[.val (.ref a0c), .val (.int 1), .val (.ref a2b), .val (.int 1), .val (.int 6), .val (.int 1), .val (.int c1)] [])) _
    refine XS.iinc X4.here hx rfl (hb hby d17_32) rfl (l' := #[.val (.ref a0c), .val (.int 2), .val (.ref a2b), .val (.int 1), .val (.int 6), .val (.int 1), .val (.int c1)]) rfl ?_
    refine XS.iinc X4.here hx rfl (hb hby d17_35) rfl (l' := #[.val (.ref a0c), .val (.int 2), .val (.ref a2b), .val (.int 2), .val (.int 6), .val (.int 1), .val (.int c1)]) rfl ?_
    refine XS.iinc X4.here hx rfl (hb hby d17_38) rfl (l' := #[.val (.ref a0c), .val (.int 2), .val (.ref a2b), .val (.int 2), .val (.int 6), .val (.int 2), .val (.int c1)]) rfl ?_
    refine XS.goto X4.here hx rfl (pc0 := 41) (pc' := 3) rfl (hb hby d17_41) (by decide) (by decide) ?_
    show Steps p.tables e below (T4.setTop (mkF m 3 #[.val (.ref a0c), .val (.int 2), .val (.ref a2b), .val (.int 2), .val (.int 6), .val (.int 2), .val (.int c1)] [])) _
    refine XS.iload X4.here hx rfl (hb hby d17_3) rfl ?_
    refine XS.iload X4.here hx rfl (hb hby d17_5) rfl ?_
    refine XS.icmpNo X4.here hx rfl (hb hby d17_7) rfl (tlt (by decide : (2 : Int32) < (6 : Int32))).2.1 ?_
    refine XS.aloadN X4.here hx rfl (hb hby d17_10) rfl rfl ?_
    show Steps p.tables e below (T4.setTop (mkF m 11 #[.val (.ref a0c), .val (.int 2), .val (.ref a2b), .val (.int 2), .val (.int 6), .val (.int 2), .val (.int c1)] [(.ref a0c)])) _
    refine XS.iloadN X4.here hx rfl (hb hby d17_11) rfl ?_
    show Steps p.tables e below (T4.setTop (mkF m 12 #[.val (.ref a0c), .val (.int 2), .val (.ref a2b), .val (.int 2), .val (.int 6), .val (.int 2), .val (.int c1)] [(.int 2), (.ref a0c)])) _
    refine X4.caload hx (j := (2 : Int32)) (v := (.int c2)) (by rw [e4]; exact Ar5.1) (State.isArrayOf_alike hZ.alike Ar5.2.1) Ar5.2.2 hin5 hat5 (g := (mkF m 12 #[.val (.ref a0c), .val (.int 2), .val (.ref a2b), .val (.int 2), .val (.int 6), .val (.int 2), .val (.int c1)] [(.int 2), (.ref a0c)])) rfl rfl (hb hby d17_12) _ ?_
    show Steps p.tables e below (T4.setTop (mkF m 13 #[.val (.ref a0c), .val (.int 2), .val (.ref a2b), .val (.int 2), .val (.int 6), .val (.int 2), .val (.int c1)] [(.int c2)])) _
    refine XS.istore X4.here hx rfl (hb hby d17_13) rfl (l' := #[.val (.ref a0c), .val (.int 2), .val (.ref a2b), .val (.int 2), .val (.int 6), .val (.int 2), .val (.int c2)]) rfl ?_
    refine XS.iload X4.here hx rfl (hb hby d17_15) rfl ?_
    refine XS.sipush X4.here hx rfl (hb hby d17_17) ?_
    refine XS.icmpYes X4.here hx rfl (pc0 := 20) (pc' := 26) rfl (hb hby d17_20) rfl (flt hc2).2.2.2 (by decide) (by decide) ?_
    show Steps p.tables e below (T4.setTop (mkF m 26 #[.val (.ref a0c), .val (.int 2), .val (.ref a2b), .val (.int 2), .val (.int 6), .val (.int 2), .val (.int c2)] [])) _
    refine XS.aloadN X4.here hx rfl (hb hby d17_26) rfl rfl ?_
    refine XS.iloadN X4.here hx rfl (hb hby d17_27) rfl ?_
    refine XS.iload X4.here hx rfl (hb hby d17_28) rfl ?_
    refine XS.i2b X4.here hx rfl (hb hby d17_30) rfl ?_
    show Steps p.tables e below (T4.setTop (mkF m 31 #[.val (.ref a0c), .val (.int 2), .val (.ref a2b), .val (.int 2), .val (.int 6), .val (.int 2), .val (.int c2)] [(.int (c2.toInt8.toInt32)), (.int 2), (.ref a2b)])) _
    refine st6 _ ?_
    show Steps p.tables e below (T6.setTop (mkF m 32 #[.val (.ref a0c), .val (.int 2), .val (.ref a2b), .val (.int 2), .val (.int 6), .val (.int 2), .val (.int c2)] [])) _
    refine XS.iinc X6.here hx rfl (hb hby d17_32) rfl (l' := #[.val (.ref a0c), .val (.int 3), .val (.ref a2b), .val (.int 2), .val (.int 6), .val (.int 2), .val (.int c2)]) rfl ?_
    refine XS.iinc X6.here hx rfl (hb hby d17_35) rfl (l' := #[.val (.ref a0c), .val (.int 3), .val (.ref a2b), .val (.int 3), .val (.int 6), .val (.int 2), .val (.int c2)]) rfl ?_
    refine XS.iinc X6.here hx rfl (hb hby d17_38) rfl (l' := #[.val (.ref a0c), .val (.int 3), .val (.ref a2b), .val (.int 3), .val (.int 6), .val (.int 3), .val (.int c2)]) rfl ?_
    refine XS.goto X6.here hx rfl (pc0 := 41) (pc' := 3) rfl (hb hby d17_41) (by decide) (by decide) ?_
    show Steps p.tables e below (T6.setTop (mkF m 3 #[.val (.ref a0c), .val (.int 3), .val (.ref a2b), .val (.int 3), .val (.int 6), .val (.int 3), .val (.int c2)] [])) _
    refine XS.iload X6.here hx rfl (hb hby d17_3) rfl ?_
    refine XS.iload X6.here hx rfl (hb hby d17_5) rfl ?_
    refine XS.icmpNo X6.here hx rfl (hb hby d17_7) rfl (tlt (by decide : (3 : Int32) < (6 : Int32))).2.1 ?_
    refine XS.aloadN X6.here hx rfl (hb hby d17_10) rfl rfl ?_
    show Steps p.tables e below (T6.setTop (mkF m 11 #[.val (.ref a0c), .val (.int 3), .val (.ref a2b), .val (.int 3), .val (.int 6), .val (.int 3), .val (.int c2)] [(.ref a0c)])) _
    refine XS.iloadN X6.here hx rfl (hb hby d17_11) rfl ?_
    show Steps p.tables e below (T6.setTop (mkF m 12 #[.val (.ref a0c), .val (.int 3), .val (.ref a2b), .val (.int 3), .val (.int 6), .val (.int 3), .val (.int c2)] [(.int 3), (.ref a0c)])) _
    refine X6.caload hx (j := (3 : Int32)) (v := (.int c3)) (by rw [e6]; exact Ar7.1) (State.isArrayOf_alike hZ.alike Ar7.2.1) Ar7.2.2 hin7 hat7 (g := (mkF m 12 #[.val (.ref a0c), .val (.int 3), .val (.ref a2b), .val (.int 3), .val (.int 6), .val (.int 3), .val (.int c2)] [(.int 3), (.ref a0c)])) rfl rfl (hb hby d17_12) _ ?_
    show Steps p.tables e below (T6.setTop (mkF m 13 #[.val (.ref a0c), .val (.int 3), .val (.ref a2b), .val (.int 3), .val (.int 6), .val (.int 3), .val (.int c2)] [(.int c3)])) _
    refine XS.istore X6.here hx rfl (hb hby d17_13) rfl (l' := #[.val (.ref a0c), .val (.int 3), .val (.ref a2b), .val (.int 3), .val (.int 6), .val (.int 3), .val (.int c3)]) rfl ?_
    refine XS.iload X6.here hx rfl (hb hby d17_15) rfl ?_
    refine XS.sipush X6.here hx rfl (hb hby d17_17) ?_
    refine XS.icmpYes X6.here hx rfl (pc0 := 20) (pc' := 26) rfl (hb hby d17_20) rfl (flt hc3).2.2.2 (by decide) (by decide) ?_
    show Steps p.tables e below (T6.setTop (mkF m 26 #[.val (.ref a0c), .val (.int 3), .val (.ref a2b), .val (.int 3), .val (.int 6), .val (.int 3), .val (.int c3)] [])) _
    refine XS.aloadN X6.here hx rfl (hb hby d17_26) rfl rfl ?_
    refine XS.iloadN X6.here hx rfl (hb hby d17_27) rfl ?_
    refine XS.iload X6.here hx rfl (hb hby d17_28) rfl ?_
    refine XS.i2b X6.here hx rfl (hb hby d17_30) rfl ?_
    show Steps p.tables e below (T6.setTop (mkF m 31 #[.val (.ref a0c), .val (.int 3), .val (.ref a2b), .val (.int 3), .val (.int 6), .val (.int 3), .val (.int c3)] [(.int (c3.toInt8.toInt32)), (.int 3), (.ref a2b)])) _
    refine st8 _ ?_
    show Steps p.tables e below (T8.setTop (mkF m 32 #[.val (.ref a0c), .val (.int 3), .val (.ref a2b), .val (.int 3), .val (.int 6), .val (.int 3), .val (.int c3)] [])) _
    refine XS.iinc X8.here hx rfl (hb hby d17_32) rfl (l' := #[.val (.ref a0c), .val (.int 4), .val (.ref a2b), .val (.int 3), .val (.int 6), .val (.int 3), .val (.int c3)]) rfl ?_
    refine XS.iinc X8.here hx rfl (hb hby d17_35) rfl (l' := #[.val (.ref a0c), .val (.int 4), .val (.ref a2b), .val (.int 4), .val (.int 6), .val (.int 3), .val (.int c3)]) rfl ?_
    refine XS.iinc X8.here hx rfl (hb hby d17_38) rfl (l' := #[.val (.ref a0c), .val (.int 4), .val (.ref a2b), .val (.int 4), .val (.int 6), .val (.int 4), .val (.int c3)]) rfl ?_
    refine XS.goto X8.here hx rfl (pc0 := 41) (pc' := 3) rfl (hb hby d17_41) (by decide) (by decide) ?_
    show Steps p.tables e below (T8.setTop (mkF m 3 #[.val (.ref a0c), .val (.int 4), .val (.ref a2b), .val (.int 4), .val (.int 6), .val (.int 4), .val (.int c3)] [])) _
    refine XS.iload X8.here hx rfl (hb hby d17_3) rfl ?_
    refine XS.iload X8.here hx rfl (hb hby d17_5) rfl ?_
    refine XS.icmpNo X8.here hx rfl (hb hby d17_7) rfl (tlt (by decide : (4 : Int32) < (6 : Int32))).2.1 ?_
    refine XS.aloadN X8.here hx rfl (hb hby d17_10) rfl rfl ?_
    show Steps p.tables e below (T8.setTop (mkF m 11 #[.val (.ref a0c), .val (.int 4), .val (.ref a2b), .val (.int 4), .val (.int 6), .val (.int 4), .val (.int c3)] [(.ref a0c)])) _
    refine XS.iloadN X8.here hx rfl (hb hby d17_11) rfl ?_
    show Steps p.tables e below (T8.setTop (mkF m 12 #[.val (.ref a0c), .val (.int 4), .val (.ref a2b), .val (.int 4), .val (.int 6), .val (.int 4), .val (.int c3)] [(.int 4), (.ref a0c)])) _
    refine X8.caload hx (j := (4 : Int32)) (v := (.int c4)) (by rw [e8]; exact Ar9.1) (State.isArrayOf_alike hZ.alike Ar9.2.1) Ar9.2.2 hin9 hat9 (g := (mkF m 12 #[.val (.ref a0c), .val (.int 4), .val (.ref a2b), .val (.int 4), .val (.int 6), .val (.int 4), .val (.int c3)] [(.int 4), (.ref a0c)])) rfl rfl (hb hby d17_12) _ ?_
    show Steps p.tables e below (T8.setTop (mkF m 13 #[.val (.ref a0c), .val (.int 4), .val (.ref a2b), .val (.int 4), .val (.int 6), .val (.int 4), .val (.int c3)] [(.int c4)])) _
    refine XS.istore X8.here hx rfl (hb hby d17_13) rfl (l' := #[.val (.ref a0c), .val (.int 4), .val (.ref a2b), .val (.int 4), .val (.int 6), .val (.int 4), .val (.int c4)]) rfl ?_
    refine XS.iload X8.here hx rfl (hb hby d17_15) rfl ?_
    refine XS.sipush X8.here hx rfl (hb hby d17_17) ?_
    refine XS.icmpYes X8.here hx rfl (pc0 := 20) (pc' := 26) rfl (hb hby d17_20) rfl (flt hc4).2.2.2 (by decide) (by decide) ?_
    show Steps p.tables e below (T8.setTop (mkF m 26 #[.val (.ref a0c), .val (.int 4), .val (.ref a2b), .val (.int 4), .val (.int 6), .val (.int 4), .val (.int c4)] [])) _
    refine XS.aloadN X8.here hx rfl (hb hby d17_26) rfl rfl ?_
    refine XS.iloadN X8.here hx rfl (hb hby d17_27) rfl ?_
    refine XS.iload X8.here hx rfl (hb hby d17_28) rfl ?_
    refine XS.i2b X8.here hx rfl (hb hby d17_30) rfl ?_
    show Steps p.tables e below (T8.setTop (mkF m 31 #[.val (.ref a0c), .val (.int 4), .val (.ref a2b), .val (.int 4), .val (.int 6), .val (.int 4), .val (.int c4)] [(.int (c4.toInt8.toInt32)), (.int 4), (.ref a2b)])) _
    refine st10 _ ?_
    show Steps p.tables e below (T10.setTop (mkF m 32 #[.val (.ref a0c), .val (.int 4), .val (.ref a2b), .val (.int 4), .val (.int 6), .val (.int 4), .val (.int c4)] [])) _
    refine XS.iinc X10.here hx rfl (hb hby d17_32) rfl (l' := #[.val (.ref a0c), .val (.int 5), .val (.ref a2b), .val (.int 4), .val (.int 6), .val (.int 4), .val (.int c4)]) rfl ?_
    refine XS.iinc X10.here hx rfl (hb hby d17_35) rfl (l' := #[.val (.ref a0c), .val (.int 5), .val (.ref a2b), .val (.int 5), .val (.int 6), .val (.int 4), .val (.int c4)]) rfl ?_
    refine XS.iinc X10.here hx rfl (hb hby d17_38) rfl (l' := #[.val (.ref a0c), .val (.int 5), .val (.ref a2b), .val (.int 5), .val (.int 6), .val (.int 5), .val (.int c4)]) rfl ?_
    refine XS.goto X10.here hx rfl (pc0 := 41) (pc' := 3) rfl (hb hby d17_41) (by decide) (by decide) ?_
    show Steps p.tables e below (T10.setTop (mkF m 3 #[.val (.ref a0c), .val (.int 5), .val (.ref a2b), .val (.int 5), .val (.int 6), .val (.int 5), .val (.int c4)] [])) _
    refine XS.iload X10.here hx rfl (hb hby d17_3) rfl ?_
    refine XS.iload X10.here hx rfl (hb hby d17_5) rfl ?_
    refine XS.icmpNo X10.here hx rfl (hb hby d17_7) rfl (tlt (by decide : (5 : Int32) < (6 : Int32))).2.1 ?_
    refine XS.aloadN X10.here hx rfl (hb hby d17_10) rfl rfl ?_
    show Steps p.tables e below (T10.setTop (mkF m 11 #[.val (.ref a0c), .val (.int 5), .val (.ref a2b), .val (.int 5), .val (.int 6), .val (.int 5), .val (.int c4)] [(.ref a0c)])) _
    refine XS.iloadN X10.here hx rfl (hb hby d17_11) rfl ?_
    show Steps p.tables e below (T10.setTop (mkF m 12 #[.val (.ref a0c), .val (.int 5), .val (.ref a2b), .val (.int 5), .val (.int 6), .val (.int 5), .val (.int c4)] [(.int 5), (.ref a0c)])) _
    refine X10.caload hx (j := (5 : Int32)) (v := (.int c5)) (by rw [e10]; exact Ar11.1) (State.isArrayOf_alike hZ.alike Ar11.2.1) Ar11.2.2 hin11 hat11 (g := (mkF m 12 #[.val (.ref a0c), .val (.int 5), .val (.ref a2b), .val (.int 5), .val (.int 6), .val (.int 5), .val (.int c4)] [(.int 5), (.ref a0c)])) rfl rfl (hb hby d17_12) _ ?_
    show Steps p.tables e below (T10.setTop (mkF m 13 #[.val (.ref a0c), .val (.int 5), .val (.ref a2b), .val (.int 5), .val (.int 6), .val (.int 5), .val (.int c4)] [(.int c5)])) _
    refine XS.istore X10.here hx rfl (hb hby d17_13) rfl (l' := #[.val (.ref a0c), .val (.int 5), .val (.ref a2b), .val (.int 5), .val (.int 6), .val (.int 5), .val (.int c5)]) rfl ?_
    refine XS.iload X10.here hx rfl (hb hby d17_15) rfl ?_
    refine XS.sipush X10.here hx rfl (hb hby d17_17) ?_
    refine XS.icmpYes X10.here hx rfl (pc0 := 20) (pc' := 26) rfl (hb hby d17_20) rfl (flt hc5).2.2.2 (by decide) (by decide) ?_
    show Steps p.tables e below (T10.setTop (mkF m 26 #[.val (.ref a0c), .val (.int 5), .val (.ref a2b), .val (.int 5), .val (.int 6), .val (.int 5), .val (.int c5)] [])) _
    refine XS.aloadN X10.here hx rfl (hb hby d17_26) rfl rfl ?_
    refine XS.iloadN X10.here hx rfl (hb hby d17_27) rfl ?_
    refine XS.iload X10.here hx rfl (hb hby d17_28) rfl ?_
    refine XS.i2b X10.here hx rfl (hb hby d17_30) rfl ?_
    show Steps p.tables e below (T10.setTop (mkF m 31 #[.val (.ref a0c), .val (.int 5), .val (.ref a2b), .val (.int 5), .val (.int 6), .val (.int 5), .val (.int c5)] [(.int (c5.toInt8.toInt32)), (.int 5), (.ref a2b)])) _
    refine st12 _ ?_
    show Steps p.tables e below (T12.setTop (mkF m 32 #[.val (.ref a0c), .val (.int 5), .val (.ref a2b), .val (.int 5), .val (.int 6), .val (.int 5), .val (.int c5)] [])) _
    refine XS.iinc X12.here hx rfl (hb hby d17_32) rfl (l' := #[.val (.ref a0c), .val (.int 6), .val (.ref a2b), .val (.int 5), .val (.int 6), .val (.int 5), .val (.int c5)]) rfl ?_
    refine XS.iinc X12.here hx rfl (hb hby d17_35) rfl (l' := #[.val (.ref a0c), .val (.int 6), .val (.ref a2b), .val (.int 6), .val (.int 6), .val (.int 5), .val (.int c5)]) rfl ?_
    refine XS.iinc X12.here hx rfl (hb hby d17_38) rfl (l' := #[.val (.ref a0c), .val (.int 6), .val (.ref a2b), .val (.int 6), .val (.int 6), .val (.int 6), .val (.int c5)]) rfl ?_
    refine XS.goto X12.here hx rfl (pc0 := 41) (pc' := 3) rfl (hb hby d17_41) (by decide) (by decide) ?_
    show Steps p.tables e below (T12.setTop (mkF m 3 #[.val (.ref a0c), .val (.int 6), .val (.ref a2b), .val (.int 6), .val (.int 6), .val (.int 6), .val (.int c5)] [])) _
    refine XS.iload X12.here hx rfl (hb hby d17_3) rfl ?_
    refine XS.iload X12.here hx rfl (hb hby d17_5) rfl ?_
    refine XS.icmpYes X12.here hx rfl (pc0 := 7) (pc' := 44) rfl (hb hby d17_7) rfl (flt (by decide : ¬ ((6 : Int32) < (6 : Int32)))).2.1 (by decide) (by decide) ?_
    refine XS.iload X12.here hx rfl (hb hby d17_44) rfl ?_
    show Steps p.tables e below (T12.setTop (mkF m 46 #[.val (.ref a0c), .val (.int 6), .val (.ref a2b), .val (.int 6), .val (.int 6), .val (.int 6), .val (.int c5)] [(.int 6)])) _
    exact retI X12 hx Bd.returns (hb hby d17_46) hr
  · show Q_rmC2_6 n0 Z cS a0c a2b k0 k2 c0 c1 c2 c3 c4 c5 h0 _ T12.heap _
    rw [e12]
    exact ⟨rfl, N12, K12, V12⟩
theorem ef_rmC1_6 (m : MethodId) (a0c : Addr) : entryFrame m #[(.ref a0c), (.int 0), (.int 6)] 6 = mkF m 0 #[.val (.ref a0c), .val (.int 0), .val (.int 6), .unset, .unset, .unset] [] := by first | (simp [entryFrame, mkF, argsToLocals, Value.category]; done) | rfl
def Q_rmC1_6 (n0 : Nat) (Z : State) (cS : Int32) (a0c : Addr) (k0 : ClassId) (c0 : Int32) (c1 : Int32) (c2 : Int32) (c3 : Int32) (c4 : Int32) (c5 : Int32) (h0 : Heap) (v : Option Value) (h : Heap) (L : List Loc) : Prop := ∃ b : Addr, ∃ kb : ClassId, v = some (.ref b) ∧ Fr n0 L ∧ Keep h0 h [] ∧ (h0.size ≤ b) ∧ (Exa Z h b "[B") ∧ (Arv Z h b kb .byte (6 : Int32) [(.int (c0.toInt8.toInt32)), (.int (c1.toInt8.toInt32)), (.int (c2.toInt8.toInt32)), (.int (c3.toInt8.toInt32)), (.int (c4.toInt8.toInt32)), (.int (c5.toInt8.toInt32))] (.int 0))
set_option maxRecDepth 65536 in
set_option maxHeartbeats 40000000 in
theorem rmC1_6 (l : Launch) (Z : State) (a0 : Array Value) (hw : ∀ d ∈ tables_1, d.before a0 Z = true) (ws : List Jvm.Cond) (cS : Int32) (a0c : Addr) (k0 : ClassId) (c0 : Int32) (c1 : Int32) (c2 : Int32) (c3 : Int32) (c4 : Int32) (c5 : Int32) (h0 : Heap) (n0 : Nat) (O0 : Old Z n0 h0) (GL : GF Z cS) (V_a0c : Arv Z h0 a0c k0 .char (6 : Int32) [(.int c0), (.int c1), (.int c2), (.int c3), (.int c4), (.int c5)] (.int 0)) (hc0 : ¬ ((255 : Int32) < c0)) (hc1 : ¬ ((255 : Int32) < c1)) (hc2 : ¬ ((255 : Int32) < c2)) (hc3 : ¬ ((255 : Int32) < c3)) (hc4 : ¬ ((255 : Int32) < c4)) (hc5 : ¬ ((255 : Int32) < c5)) :
    MetFree l MN_1 (head1 (Jvm.Cond.code MN_1 jdk_52_method_16_code 6 (some (.array .byte)) :: ws) ({ frames := 1, cells := 1, slots := 6, locals := 18 } : Room)) (fun a U => a = #[(.ref a0c), (.int 0), (.int 6)] ∧ Z.Warmed39 U.vm ∧ U.heap = h0) (fun _ _ _ _ _ => True) (fun _ U o U' => ∃ v L, o = .returned v ∧ Q_rmC1_6 n0 Z cS a0c k0 c0 c1 c2 c3 c4 c5 h0 v U'.heap L ∧ FrameEnd U o U' L ({ frames := 1, cells := 1, slots := 6, locals := 18 } : Room).cells ({ frames := 1, cells := 1, slots := 6, locals := 18 } : Room).slots) := by
  refine MetFree.of_bodySF (plainFor_of_name pn) hisR ?_
  intro p e s m args below meth c s₁ Bd hml0 hP hK
  obtain ⟨rfl, hZ, hh⟩ := hP
  have hx := Bd.exec
  have hby := Bd.bytes
  have hml : c.maxLocals = 6 := hml0
  have hown : s.vm.findClass "java/lang/StringUTF16" = some m.cls := findClass_of_methodNamed Bd.named
  have hnm := (name_of_methodNamed Bd.named Bd.method).1
  have X0 : Stand p l e ({ frames := 1, cells := 1, slots := 6, locals := 18 } : Room) s m #[(.ref a0c), (.int 0), (.int 6)] below meth c s₁ [] 0 0 := Stand.of_body Bd
  have e0 : s₁.heap = h0 := by rw [← hh, Bd.state]; rfl
  have N0 := Fr.nil n0
  have pre0 : ∀ t, Steps p.tables e below (s₁.setTop (mkF m 0 #[.val (.ref a0c), .val (.int 0), .val (.int 6), .unset, .unset, .unset] [])) t → Steps p.tables e below (s₁.setTop (entryFrame m #[(.ref a0c), (.int 0), (.int 6)] 6)) t := fun t k => castTop (ef_rmC1_6 m a0c) k
  have GL' := GL
  obtain ⟨GCS, GCP⟩ := GL'
  obtain ⟨T1, h1, k1, X1, e1, E1, A1, A1', st1⟩ := newPE X0 hx hZ (Wd hw 23 rfl) e0 (g := (mkF m 1 #[.val (.ref a0c), .val (.int 0), .val (.int 6), .unset, .unset, .unset] [(.int 6)])) rfl (hb hby d16_1) rfl (by decide) (cap := 6) (by decide) (by decide) (by decide) (by decide) (ad := "[B") rfl
  obtain ⟨b1, g1⟩ : ∃ z, z = h0.size := ⟨_, rfl⟩
  rw [← g1] at A1 A1' st1
  have g_b1 : n0 ≤ b1 := Nat.le_trans (own_sz O0) (Nat.le_of_eq g1.symm)
  have sz_b1 : h0.size ≤ b1 := Nat.le_trans (Keep.refl h0 []).1 (Nat.le_of_eq g1.symm)
  have K1 : Keep h0 h1 [] := (Keep.refl h0 []).ext E1
  have O1 := O0.ext E1
  have V_b1 : Arv Z h1 b1 k1 .byte (6 : Int32) [(.int 0), (.int 0), (.int 0), (.int 0), (.int 0), (.int 0)] (.int 0) := (Arv.new A1 (by decide)).pad (pad_rep [] (.int 0) 6)
  obtain ⟨_, _, ⟨T2, L2, k2, n2⟩, -, X2, ⟨Lc2, hQ2, l2, y2, z2⟩, st2⟩ := Jvm.LawKit.callS X1 hx (y := MN_0) hown (mvT hZ (Wd hw 79 rfl)) (mvT hZ (Wd hw 80 rfl)) (mvT hZ (Wd hw 77 rfl)) (mvT hZ (Wd hw 81 rfl)) (by decide) (backOf (W := 0) (rmC2_6 l Z a0 hw [] cS (a0c) (b1) (k0) (k1) (c0) (c1) (c2) (c3) (c4) (c5) (h1) n0 O1 GL (V_a0c.ext E1) V_b1 g_b1 hc0 hc1 hc2 hc3 hc4 hc5) hZ (Wd hw 81 rfl) (Wd hw 77 rfl) (by decide) (by decide)) (g := (mkF m 9 #[.val (.ref a0c), .val (.int 0), .val (.int 6), .val (.ref b1), .unset, .unset] [(.int 6), (.int 0), (.ref b1), (.int 0), (.ref a0c)])) rfl (by rw [hml]; rfl) (argsL := [(.ref a0c), (.int 0), (.ref b1), (.int 0), (.int 6)]) (rest := []) (lenOf pd rfl) rfl (by show 2 * 0 + _ ≤ _; exact Nat.le_of_eq rfl) (hb hby d16_9) (fun _ _ => ⟨rfl, e1, (by decide : 1 + 0 ≤ _), (by decide : 6 + 0 ≤ _)⟩)
  dsimp only [Pt.U, Pt.locs, Pt.cells, Pt.slots] at X2 l2 y2 z2 st2 hQ2
  subst l2 y2 z2
  obtain ⟨rfl, N2q, Kc2, P2_0⟩ := hQ2
  have K2 : Keep h0 T2.heap [] := K1.trans Kc2 (allS (Or.inr sz_b1) all0)
  have O2 := O1.keep Kc2 (allS g_b1 all0)
  have N2 := Fr.app N0 N2q
  obtain ⟨fs, hr, hrun, hended, hW, hsame⟩ := X2.leave (v := some (.ref b1)) (fun h => by rw [Bd.returns] at h; cases h)
  refine ⟨_, _, pre0 _ ?_, hrun, hended, _, _, rfl, ?_, ⟨_, rfl⟩, hW, hsame.mono (by decide) (by decide)⟩
  · show Steps p.tables e below (s₁.setTop (mkF m 0 #[.val (.ref a0c), .val (.int 0), .val (.int 6), .unset, .unset, .unset] [])) _
    refine XS.iloadN X0.here hx rfl (hb hby d16_0) rfl ?_
    show Steps p.tables e below (s₁.setTop (mkF m 1 #[.val (.ref a0c), .val (.int 0), .val (.int 6), .unset, .unset, .unset] [(.int 6)])) _
    refine st1 _ ?_
    show Steps p.tables e below (T1.setTop (mkF m 3 #[.val (.ref a0c), .val (.int 0), .val (.int 6), .unset, .unset, .unset] [(.ref b1)])) _
    refine XS.astoreN X1.here hx rfl (hb hby d16_3) rfl rfl (l' := #[.val (.ref a0c), .val (.int 0), .val (.int 6), .val (.ref b1), .unset, .unset]) rfl ?_
    refine XS.aloadN X1.here hx rfl (hb hby d16_4) rfl rfl ?_
    refine XS.iloadN X1.here hx rfl (hb hby d16_5) rfl ?_
    refine XS.aloadN X1.here hx rfl (hb hby d16_6) rfl rfl ?_
    show Steps p.tables e below (T1.setTop (mkF m 7 #[.val (.ref a0c), .val (.int 0), .val (.int 6), .val (.ref b1), .unset, .unset] [(.ref b1), (.int 0), (.ref a0c)])) _
    refine XS.iconst X1.here hx rfl (hb hby d16_7) ?_
    refine XS.iloadN X1.here hx rfl (hb hby d16_8) rfl ?_
    show Steps p.tables e below (T1.setTop (mkF m 9 #[.val (.ref a0c), .val (.int 0), .val (.int 6), .val (.ref b1), .unset, .unset] [(.int 6), (.int 0), (.ref b1), (.int 0), (.ref a0c)])) _
    refine st2 _ ?_
    show Steps p.tables e below (T2.setTop (mkF m 12 #[.val (.ref a0c), .val (.int 0), .val (.int 6), .val (.ref b1), .unset, .unset] [(.int 6)])) _
    refine XS.istore X2.here hx rfl (hb hby d16_12) rfl (l' := #[.val (.ref a0c), .val (.int 0), .val (.int 6), .val (.ref b1), .val (.int 6), .unset]) rfl ?_
    refine XS.iload X2.here hx rfl (hb hby d16_14) rfl ?_
    refine XS.iloadN X2.here hx rfl (hb hby d16_16) rfl ?_
    refine XS.icmpYes X2.here hx rfl (pc0 := 17) (pc' := 57) rfl (hb hby d16_17) rfl (teq (by decide : (6 : Int32) = (6 : Int32))).1 (by decide) (by decide) ?_
    show Steps p.tables e below (T2.setTop (mkF m 57 #[.val (.ref a0c), .val (.int 0), .val (.int 6), .val (.ref b1), .val (.int 6), .unset] [])) _
    refine XS.aloadN X2.here hx rfl (hb hby d16_57) rfl rfl ?_
    show Steps p.tables e below (T2.setTop (mkF m 58 #[.val (.ref a0c), .val (.int 0), .val (.int 6), .val (.ref b1), .val (.int 6), .unset] [(.ref b1)])) _
    jvm_step X2.here [X2.here.top, hx, (hb hby d16_58), X2.method', Bd.returns, Value.isRef, FieldType.isReference]
    first | (intro acts; rw [hr _ acts rfl rfl rfl]) | rw [hr _ _ rfl rfl rfl]
    exact Steps.refl _
  · show Q_rmC1_6 n0 Z cS a0c k0 c0 c1 c2 c3 c4 c5 h0 _ T2.heap _
    exact ⟨b1, k1, rfl, N2, K2, sz_b1, (A1'.keep Kc2), P2_0⟩
theorem d18_0 : decode jdk_52_method_15_code 0 = .ok (.iload_n 1, 1) := by decide +kernel
theorem d18_1 : decode jdk_52_method_15_code 1 = .ok (.aload_n 0, 1) := by decide +kernel
theorem d18_2 : decode jdk_52_method_15_code 2 = .ok (.arraylength, 1) := by decide +kernel
theorem d18_3 : decode jdk_52_method_15_code 3 = .ok (.isub, 1) := by decide +kernel
theorem d18_4 : decode jdk_52_method_15_code 4 = .ok (.bipush 31, 2) := by decide +kernel
theorem d18_6 : decode jdk_52_method_15_code 6 = .ok (.iushr, 1) := by decide +kernel
theorem d18_7 : decode jdk_52_method_15_code 7 = .ok (.i2b, 1) := by decide +kernel
theorem d18_8 : decode jdk_52_method_15_code 8 = .ok (.ireturn, 1) := by decide +kernel
abbrev MN_2 : MethodName := ⟨"java/lang/StringUTF16", "coderFromArrayLen", "([BI)B"⟩
theorem ef_rmCfa1_1 (m : MethodId) (a0b : Addr) : entryFrame m #[(.ref a0b), (.int 1)] 2 = mkF m 0 #[.val (.ref a0b), .val (.int 1)] [] := by first | (simp [entryFrame, mkF, argsToLocals, Value.category]; done) | rfl
def Q_rmCfa1_1 (n0 : Nat) (Z : State) (cS : Int32) (a0b : Addr) (k0 : ClassId) (vs : List Value) (h0 : Heap) (v : Option Value) (h : Heap) (L : List Loc) : Prop := v = some (.int 0) ∧ Fr n0 L ∧ h = h0
set_option maxRecDepth 65536 in
set_option maxHeartbeats 40000000 in
theorem rmCfa1_1 (l : Launch) (Z : State) (a0 : Array Value) (hw : ∀ d ∈ tables_1, d.before a0 Z = true) (ws : List Jvm.Cond) (cS : Int32) (a0b : Addr) (k0 : ClassId) (vs : List Value) (h0 : Heap) (n0 : Nat) (O0 : Old Z n0 h0) (GL : GF Z cS) (V_a0b : Arv Z h0 a0b k0 .byte (1 : Int32) vs (.int 0)) :
    MetFree l MN_2 (head1 (Jvm.Cond.code MN_2 jdk_52_method_15_code 2 (some .byte) :: ws) ({ frames := 0, cells := 0, slots := 0, locals := 0 } : Room)) (fun a U => a = #[(.ref a0b), (.int 1)] ∧ Z.Warmed39 U.vm ∧ U.heap = h0) (fun _ _ _ _ _ => True) (fun _ U o U' => ∃ v L, o = .returned v ∧ Q_rmCfa1_1 n0 Z cS a0b k0 vs h0 v U'.heap L ∧ FrameEnd U o U' L ({ frames := 0, cells := 0, slots := 0, locals := 0 } : Room).cells ({ frames := 0, cells := 0, slots := 0, locals := 0 } : Room).slots) := by
  refine MetFree.of_bodySF (plainFor_of_name pn) hisR ?_
  intro p e s m args below meth c s₁ Bd hml0 hP hK
  obtain ⟨rfl, hZ, hh⟩ := hP
  have hx := Bd.exec
  have hby := Bd.bytes
  have hml : c.maxLocals = 2 := hml0
  have hown : s.vm.findClass "java/lang/StringUTF16" = some m.cls := findClass_of_methodNamed Bd.named
  have hnm := (name_of_methodNamed Bd.named Bd.method).1
  have X0 : Stand p l e ({ frames := 0, cells := 0, slots := 0, locals := 0 } : Room) s m #[(.ref a0b), (.int 1)] below meth c s₁ [] 0 0 := Stand.of_body Bd
  have e0 : s₁.heap = h0 := by rw [← hh, Bd.state]; rfl
  have N0 := Fr.nil n0
  have pre0 : ∀ t, Steps p.tables e below (s₁.setTop (mkF m 0 #[.val (.ref a0b), .val (.int 1)] [])) t → Steps p.tables e below (s₁.setTop (entryFrame m #[(.ref a0b), (.int 1)] 2)) t := fun t k => castTop (ef_rmCfa1_1 m a0b) k
  have GL' := GL
  obtain ⟨GCS, GCP⟩ := GL'
  obtain ⟨cl1, Ar1, -, S1, N1_, -, -⟩ := id (V_a0b)
  obtain ⟨fs, hr, hrun, hended, hW, hsame⟩ := X0.leave (v := some (.int 0)) (fun h => by rw [Bd.returns] at h; cases h)
  refine ⟨_, _, pre0 _ ?_, hrun, hended, _, _, rfl, ?_, ⟨_, rfl⟩, hW, hsame.mono (by decide) (by decide)⟩
  · show Steps p.tables e below (s₁.setTop (mkF m 0 #[.val (.ref a0b), .val (.int 1)] [])) _
    refine XS.iloadN X0.here hx rfl (hb hby d18_0) rfl ?_
    refine XS.aloadN X0.here hx rfl (hb hby d18_1) rfl rfl ?_
    show Steps p.tables e below (s₁.setTop (mkF m 2 #[.val (.ref a0b), .val (.int 1)] [(.ref a0b), (.int 1)])) _
    refine X0.arraylength hx (by rw [e0]; exact Ar1.1) (State.isArrayOf_alike hZ.alike Ar1.2.1) (g := (mkF m 2 #[.val (.ref a0b), .val (.int 1)] [(.ref a0b), (.int 1)])) rfl rfl (hb hby d18_2) _ ?_
    rw [len_of S1 N1_]
    show Steps p.tables e below (s₁.setTop (mkF m 3 #[.val (.ref a0b), .val (.int 1)] [(.int 1), (.int 1)])) _
    refine XS.isub X0.here hx rfl (hb hby d18_3) rfl ?_
    refine XS.bipush X0.here hx rfl (hb hby d18_4) ?_
    refine XS.iushr X0.here hx rfl (hb hby d18_6) rfl ?_
    refine XS.i2b X0.here hx rfl (hb hby d18_7) rfl ?_
    show Steps p.tables e below (s₁.setTop (mkF m 8 #[.val (.ref a0b), .val (.int 1)] [(.int 0)])) _
    exact retN X0 hx (t := .byte) Bd.returns (by simp) (hb hby d18_8) hr
  · show Q_rmCfa1_1 n0 Z cS a0b k0 vs h0 _ s₁.heap _
    rw [e0]
    exact ⟨rfl, N0, rfl⟩
theorem ef_rmCfa2_2 (m : MethodId) (a0b : Addr) : entryFrame m #[(.ref a0b), (.int 2)] 2 = mkF m 0 #[.val (.ref a0b), .val (.int 2)] [] := by first | (simp [entryFrame, mkF, argsToLocals, Value.category]; done) | rfl
def Q_rmCfa2_2 (n0 : Nat) (Z : State) (cS : Int32) (a0b : Addr) (k0 : ClassId) (vs : List Value) (h0 : Heap) (v : Option Value) (h : Heap) (L : List Loc) : Prop := v = some (.int 0) ∧ Fr n0 L ∧ h = h0
set_option maxRecDepth 65536 in
set_option maxHeartbeats 40000000 in
theorem rmCfa2_2 (l : Launch) (Z : State) (a0 : Array Value) (hw : ∀ d ∈ tables_1, d.before a0 Z = true) (ws : List Jvm.Cond) (cS : Int32) (a0b : Addr) (k0 : ClassId) (vs : List Value) (h0 : Heap) (n0 : Nat) (O0 : Old Z n0 h0) (GL : GF Z cS) (V_a0b : Arv Z h0 a0b k0 .byte (2 : Int32) vs (.int 0)) :
    MetFree l MN_2 (head1 (Jvm.Cond.code MN_2 jdk_52_method_15_code 2 (some .byte) :: ws) ({ frames := 0, cells := 0, slots := 0, locals := 0 } : Room)) (fun a U => a = #[(.ref a0b), (.int 2)] ∧ Z.Warmed39 U.vm ∧ U.heap = h0) (fun _ _ _ _ _ => True) (fun _ U o U' => ∃ v L, o = .returned v ∧ Q_rmCfa2_2 n0 Z cS a0b k0 vs h0 v U'.heap L ∧ FrameEnd U o U' L ({ frames := 0, cells := 0, slots := 0, locals := 0 } : Room).cells ({ frames := 0, cells := 0, slots := 0, locals := 0 } : Room).slots) := by
  refine MetFree.of_bodySF (plainFor_of_name pn) hisR ?_
  intro p e s m args below meth c s₁ Bd hml0 hP hK
  obtain ⟨rfl, hZ, hh⟩ := hP
  have hx := Bd.exec
  have hby := Bd.bytes
  have hml : c.maxLocals = 2 := hml0
  have hown : s.vm.findClass "java/lang/StringUTF16" = some m.cls := findClass_of_methodNamed Bd.named
  have hnm := (name_of_methodNamed Bd.named Bd.method).1
  have X0 : Stand p l e ({ frames := 0, cells := 0, slots := 0, locals := 0 } : Room) s m #[(.ref a0b), (.int 2)] below meth c s₁ [] 0 0 := Stand.of_body Bd
  have e0 : s₁.heap = h0 := by rw [← hh, Bd.state]; rfl
  have N0 := Fr.nil n0
  have pre0 : ∀ t, Steps p.tables e below (s₁.setTop (mkF m 0 #[.val (.ref a0b), .val (.int 2)] [])) t → Steps p.tables e below (s₁.setTop (entryFrame m #[(.ref a0b), (.int 2)] 2)) t := fun t k => castTop (ef_rmCfa2_2 m a0b) k
  have GL' := GL
  obtain ⟨GCS, GCP⟩ := GL'
  obtain ⟨cl1, Ar1, -, S1, N1_, -, -⟩ := id (V_a0b)
  obtain ⟨fs, hr, hrun, hended, hW, hsame⟩ := X0.leave (v := some (.int 0)) (fun h => by rw [Bd.returns] at h; cases h)
  refine ⟨_, _, pre0 _ ?_, hrun, hended, _, _, rfl, ?_, ⟨_, rfl⟩, hW, hsame.mono (by decide) (by decide)⟩
  · show Steps p.tables e below (s₁.setTop (mkF m 0 #[.val (.ref a0b), .val (.int 2)] [])) _
    refine XS.iloadN X0.here hx rfl (hb hby d18_0) rfl ?_
    refine XS.aloadN X0.here hx rfl (hb hby d18_1) rfl rfl ?_
    show Steps p.tables e below (s₁.setTop (mkF m 2 #[.val (.ref a0b), .val (.int 2)] [(.ref a0b), (.int 2)])) _
    refine X0.arraylength hx (by rw [e0]; exact Ar1.1) (State.isArrayOf_alike hZ.alike Ar1.2.1) (g := (mkF m 2 #[.val (.ref a0b), .val (.int 2)] [(.ref a0b), (.int 2)])) rfl rfl (hb hby d18_2) _ ?_
    rw [len_of S1 N1_]
    show Steps p.tables e below (s₁.setTop (mkF m 3 #[.val (.ref a0b), .val (.int 2)] [(.int 2), (.int 2)])) _
    refine XS.isub X0.here hx rfl (hb hby d18_3) rfl ?_
    refine XS.bipush X0.here hx rfl (hb hby d18_4) ?_
    refine XS.iushr X0.here hx rfl (hb hby d18_6) rfl ?_
    refine XS.i2b X0.here hx rfl (hb hby d18_7) rfl ?_
    show Steps p.tables e below (s₁.setTop (mkF m 8 #[.val (.ref a0b), .val (.int 2)] [(.int 0)])) _
    exact retN X0 hx (t := .byte) Bd.returns (by simp) (hb hby d18_8) hr
  · show Q_rmCfa2_2 n0 Z cS a0b k0 vs h0 _ s₁.heap _
    rw [e0]
    exact ⟨rfl, N0, rfl⟩
theorem ef_rmCfa3_3 (m : MethodId) (a0b : Addr) : entryFrame m #[(.ref a0b), (.int 3)] 2 = mkF m 0 #[.val (.ref a0b), .val (.int 3)] [] := by first | (simp [entryFrame, mkF, argsToLocals, Value.category]; done) | rfl
def Q_rmCfa3_3 (n0 : Nat) (Z : State) (cS : Int32) (a0b : Addr) (k0 : ClassId) (vs : List Value) (h0 : Heap) (v : Option Value) (h : Heap) (L : List Loc) : Prop := v = some (.int 0) ∧ Fr n0 L ∧ h = h0
set_option maxRecDepth 65536 in
set_option maxHeartbeats 40000000 in
theorem rmCfa3_3 (l : Launch) (Z : State) (a0 : Array Value) (hw : ∀ d ∈ tables_1, d.before a0 Z = true) (ws : List Jvm.Cond) (cS : Int32) (a0b : Addr) (k0 : ClassId) (vs : List Value) (h0 : Heap) (n0 : Nat) (O0 : Old Z n0 h0) (GL : GF Z cS) (V_a0b : Arv Z h0 a0b k0 .byte (3 : Int32) vs (.int 0)) :
    MetFree l MN_2 (head1 (Jvm.Cond.code MN_2 jdk_52_method_15_code 2 (some .byte) :: ws) ({ frames := 0, cells := 0, slots := 0, locals := 0 } : Room)) (fun a U => a = #[(.ref a0b), (.int 3)] ∧ Z.Warmed39 U.vm ∧ U.heap = h0) (fun _ _ _ _ _ => True) (fun _ U o U' => ∃ v L, o = .returned v ∧ Q_rmCfa3_3 n0 Z cS a0b k0 vs h0 v U'.heap L ∧ FrameEnd U o U' L ({ frames := 0, cells := 0, slots := 0, locals := 0 } : Room).cells ({ frames := 0, cells := 0, slots := 0, locals := 0 } : Room).slots) := by
  refine MetFree.of_bodySF (plainFor_of_name pn) hisR ?_
  intro p e s m args below meth c s₁ Bd hml0 hP hK
  obtain ⟨rfl, hZ, hh⟩ := hP
  have hx := Bd.exec
  have hby := Bd.bytes
  have hml : c.maxLocals = 2 := hml0
  have hown : s.vm.findClass "java/lang/StringUTF16" = some m.cls := findClass_of_methodNamed Bd.named
  have hnm := (name_of_methodNamed Bd.named Bd.method).1
  have X0 : Stand p l e ({ frames := 0, cells := 0, slots := 0, locals := 0 } : Room) s m #[(.ref a0b), (.int 3)] below meth c s₁ [] 0 0 := Stand.of_body Bd
  have e0 : s₁.heap = h0 := by rw [← hh, Bd.state]; rfl
  have N0 := Fr.nil n0
  have pre0 : ∀ t, Steps p.tables e below (s₁.setTop (mkF m 0 #[.val (.ref a0b), .val (.int 3)] [])) t → Steps p.tables e below (s₁.setTop (entryFrame m #[(.ref a0b), (.int 3)] 2)) t := fun t k => castTop (ef_rmCfa3_3 m a0b) k
  have GL' := GL
  obtain ⟨GCS, GCP⟩ := GL'
  obtain ⟨cl1, Ar1, -, S1, N1_, -, -⟩ := id (V_a0b)
  obtain ⟨fs, hr, hrun, hended, hW, hsame⟩ := X0.leave (v := some (.int 0)) (fun h => by rw [Bd.returns] at h; cases h)
  refine ⟨_, _, pre0 _ ?_, hrun, hended, _, _, rfl, ?_, ⟨_, rfl⟩, hW, hsame.mono (by decide) (by decide)⟩
  · show Steps p.tables e below (s₁.setTop (mkF m 0 #[.val (.ref a0b), .val (.int 3)] [])) _
    refine XS.iloadN X0.here hx rfl (hb hby d18_0) rfl ?_
    refine XS.aloadN X0.here hx rfl (hb hby d18_1) rfl rfl ?_
    show Steps p.tables e below (s₁.setTop (mkF m 2 #[.val (.ref a0b), .val (.int 3)] [(.ref a0b), (.int 3)])) _
    refine X0.arraylength hx (by rw [e0]; exact Ar1.1) (State.isArrayOf_alike hZ.alike Ar1.2.1) (g := (mkF m 2 #[.val (.ref a0b), .val (.int 3)] [(.ref a0b), (.int 3)])) rfl rfl (hb hby d18_2) _ ?_
    rw [len_of S1 N1_]
    show Steps p.tables e below (s₁.setTop (mkF m 3 #[.val (.ref a0b), .val (.int 3)] [(.int 3), (.int 3)])) _
    refine XS.isub X0.here hx rfl (hb hby d18_3) rfl ?_
    refine XS.bipush X0.here hx rfl (hb hby d18_4) ?_
    refine XS.iushr X0.here hx rfl (hb hby d18_6) rfl ?_
    refine XS.i2b X0.here hx rfl (hb hby d18_7) rfl ?_
    show Steps p.tables e below (s₁.setTop (mkF m 8 #[.val (.ref a0b), .val (.int 3)] [(.int 0)])) _
    exact retN X0 hx (t := .byte) Bd.returns (by simp) (hb hby d18_8) hr
  · show Q_rmCfa3_3 n0 Z cS a0b k0 vs h0 _ s₁.heap _
    rw [e0]
    exact ⟨rfl, N0, rfl⟩
theorem ef_rmCfa4_4 (m : MethodId) (a0b : Addr) : entryFrame m #[(.ref a0b), (.int 4)] 2 = mkF m 0 #[.val (.ref a0b), .val (.int 4)] [] := by first | (simp [entryFrame, mkF, argsToLocals, Value.category]; done) | rfl
def Q_rmCfa4_4 (n0 : Nat) (Z : State) (cS : Int32) (a0b : Addr) (k0 : ClassId) (vs : List Value) (h0 : Heap) (v : Option Value) (h : Heap) (L : List Loc) : Prop := v = some (.int 0) ∧ Fr n0 L ∧ h = h0
set_option maxRecDepth 65536 in
set_option maxHeartbeats 40000000 in
theorem rmCfa4_4 (l : Launch) (Z : State) (a0 : Array Value) (hw : ∀ d ∈ tables_1, d.before a0 Z = true) (ws : List Jvm.Cond) (cS : Int32) (a0b : Addr) (k0 : ClassId) (vs : List Value) (h0 : Heap) (n0 : Nat) (O0 : Old Z n0 h0) (GL : GF Z cS) (V_a0b : Arv Z h0 a0b k0 .byte (4 : Int32) vs (.int 0)) :
    MetFree l MN_2 (head1 (Jvm.Cond.code MN_2 jdk_52_method_15_code 2 (some .byte) :: ws) ({ frames := 0, cells := 0, slots := 0, locals := 0 } : Room)) (fun a U => a = #[(.ref a0b), (.int 4)] ∧ Z.Warmed39 U.vm ∧ U.heap = h0) (fun _ _ _ _ _ => True) (fun _ U o U' => ∃ v L, o = .returned v ∧ Q_rmCfa4_4 n0 Z cS a0b k0 vs h0 v U'.heap L ∧ FrameEnd U o U' L ({ frames := 0, cells := 0, slots := 0, locals := 0 } : Room).cells ({ frames := 0, cells := 0, slots := 0, locals := 0 } : Room).slots) := by
  refine MetFree.of_bodySF (plainFor_of_name pn) hisR ?_
  intro p e s m args below meth c s₁ Bd hml0 hP hK
  obtain ⟨rfl, hZ, hh⟩ := hP
  have hx := Bd.exec
  have hby := Bd.bytes
  have hml : c.maxLocals = 2 := hml0
  have hown : s.vm.findClass "java/lang/StringUTF16" = some m.cls := findClass_of_methodNamed Bd.named
  have hnm := (name_of_methodNamed Bd.named Bd.method).1
  have X0 : Stand p l e ({ frames := 0, cells := 0, slots := 0, locals := 0 } : Room) s m #[(.ref a0b), (.int 4)] below meth c s₁ [] 0 0 := Stand.of_body Bd
  have e0 : s₁.heap = h0 := by rw [← hh, Bd.state]; rfl
  have N0 := Fr.nil n0
  have pre0 : ∀ t, Steps p.tables e below (s₁.setTop (mkF m 0 #[.val (.ref a0b), .val (.int 4)] [])) t → Steps p.tables e below (s₁.setTop (entryFrame m #[(.ref a0b), (.int 4)] 2)) t := fun t k => castTop (ef_rmCfa4_4 m a0b) k
  have GL' := GL
  obtain ⟨GCS, GCP⟩ := GL'
  obtain ⟨cl1, Ar1, -, S1, N1_, -, -⟩ := id (V_a0b)
  obtain ⟨fs, hr, hrun, hended, hW, hsame⟩ := X0.leave (v := some (.int 0)) (fun h => by rw [Bd.returns] at h; cases h)
  refine ⟨_, _, pre0 _ ?_, hrun, hended, _, _, rfl, ?_, ⟨_, rfl⟩, hW, hsame.mono (by decide) (by decide)⟩
  · show Steps p.tables e below (s₁.setTop (mkF m 0 #[.val (.ref a0b), .val (.int 4)] [])) _
    refine XS.iloadN X0.here hx rfl (hb hby d18_0) rfl ?_
    refine XS.aloadN X0.here hx rfl (hb hby d18_1) rfl rfl ?_
    show Steps p.tables e below (s₁.setTop (mkF m 2 #[.val (.ref a0b), .val (.int 4)] [(.ref a0b), (.int 4)])) _
    refine X0.arraylength hx (by rw [e0]; exact Ar1.1) (State.isArrayOf_alike hZ.alike Ar1.2.1) (g := (mkF m 2 #[.val (.ref a0b), .val (.int 4)] [(.ref a0b), (.int 4)])) rfl rfl (hb hby d18_2) _ ?_
    rw [len_of S1 N1_]
    show Steps p.tables e below (s₁.setTop (mkF m 3 #[.val (.ref a0b), .val (.int 4)] [(.int 4), (.int 4)])) _
    refine XS.isub X0.here hx rfl (hb hby d18_3) rfl ?_
    refine XS.bipush X0.here hx rfl (hb hby d18_4) ?_
    refine XS.iushr X0.here hx rfl (hb hby d18_6) rfl ?_
    refine XS.i2b X0.here hx rfl (hb hby d18_7) rfl ?_
    show Steps p.tables e below (s₁.setTop (mkF m 8 #[.val (.ref a0b), .val (.int 4)] [(.int 0)])) _
    exact retN X0 hx (t := .byte) Bd.returns (by simp) (hb hby d18_8) hr
  · show Q_rmCfa4_4 n0 Z cS a0b k0 vs h0 _ s₁.heap _
    rw [e0]
    exact ⟨rfl, N0, rfl⟩
theorem ef_rmCfa5_5 (m : MethodId) (a0b : Addr) : entryFrame m #[(.ref a0b), (.int 5)] 2 = mkF m 0 #[.val (.ref a0b), .val (.int 5)] [] := by first | (simp [entryFrame, mkF, argsToLocals, Value.category]; done) | rfl
def Q_rmCfa5_5 (n0 : Nat) (Z : State) (cS : Int32) (a0b : Addr) (k0 : ClassId) (vs : List Value) (h0 : Heap) (v : Option Value) (h : Heap) (L : List Loc) : Prop := v = some (.int 0) ∧ Fr n0 L ∧ h = h0
set_option maxRecDepth 65536 in
set_option maxHeartbeats 40000000 in
theorem rmCfa5_5 (l : Launch) (Z : State) (a0 : Array Value) (hw : ∀ d ∈ tables_1, d.before a0 Z = true) (ws : List Jvm.Cond) (cS : Int32) (a0b : Addr) (k0 : ClassId) (vs : List Value) (h0 : Heap) (n0 : Nat) (O0 : Old Z n0 h0) (GL : GF Z cS) (V_a0b : Arv Z h0 a0b k0 .byte (5 : Int32) vs (.int 0)) :
    MetFree l MN_2 (head1 (Jvm.Cond.code MN_2 jdk_52_method_15_code 2 (some .byte) :: ws) ({ frames := 0, cells := 0, slots := 0, locals := 0 } : Room)) (fun a U => a = #[(.ref a0b), (.int 5)] ∧ Z.Warmed39 U.vm ∧ U.heap = h0) (fun _ _ _ _ _ => True) (fun _ U o U' => ∃ v L, o = .returned v ∧ Q_rmCfa5_5 n0 Z cS a0b k0 vs h0 v U'.heap L ∧ FrameEnd U o U' L ({ frames := 0, cells := 0, slots := 0, locals := 0 } : Room).cells ({ frames := 0, cells := 0, slots := 0, locals := 0 } : Room).slots) := by
  refine MetFree.of_bodySF (plainFor_of_name pn) hisR ?_
  intro p e s m args below meth c s₁ Bd hml0 hP hK
  obtain ⟨rfl, hZ, hh⟩ := hP
  have hx := Bd.exec
  have hby := Bd.bytes
  have hml : c.maxLocals = 2 := hml0
  have hown : s.vm.findClass "java/lang/StringUTF16" = some m.cls := findClass_of_methodNamed Bd.named
  have hnm := (name_of_methodNamed Bd.named Bd.method).1
  have X0 : Stand p l e ({ frames := 0, cells := 0, slots := 0, locals := 0 } : Room) s m #[(.ref a0b), (.int 5)] below meth c s₁ [] 0 0 := Stand.of_body Bd
  have e0 : s₁.heap = h0 := by rw [← hh, Bd.state]; rfl
  have N0 := Fr.nil n0
  have pre0 : ∀ t, Steps p.tables e below (s₁.setTop (mkF m 0 #[.val (.ref a0b), .val (.int 5)] [])) t → Steps p.tables e below (s₁.setTop (entryFrame m #[(.ref a0b), (.int 5)] 2)) t := fun t k => castTop (ef_rmCfa5_5 m a0b) k
  have GL' := GL
  obtain ⟨GCS, GCP⟩ := GL'
  obtain ⟨cl1, Ar1, -, S1, N1_, -, -⟩ := id (V_a0b)
  obtain ⟨fs, hr, hrun, hended, hW, hsame⟩ := X0.leave (v := some (.int 0)) (fun h => by rw [Bd.returns] at h; cases h)
  refine ⟨_, _, pre0 _ ?_, hrun, hended, _, _, rfl, ?_, ⟨_, rfl⟩, hW, hsame.mono (by decide) (by decide)⟩
  · show Steps p.tables e below (s₁.setTop (mkF m 0 #[.val (.ref a0b), .val (.int 5)] [])) _
    refine XS.iloadN X0.here hx rfl (hb hby d18_0) rfl ?_
    refine XS.aloadN X0.here hx rfl (hb hby d18_1) rfl rfl ?_
    show Steps p.tables e below (s₁.setTop (mkF m 2 #[.val (.ref a0b), .val (.int 5)] [(.ref a0b), (.int 5)])) _
    refine X0.arraylength hx (by rw [e0]; exact Ar1.1) (State.isArrayOf_alike hZ.alike Ar1.2.1) (g := (mkF m 2 #[.val (.ref a0b), .val (.int 5)] [(.ref a0b), (.int 5)])) rfl rfl (hb hby d18_2) _ ?_
    rw [len_of S1 N1_]
    show Steps p.tables e below (s₁.setTop (mkF m 3 #[.val (.ref a0b), .val (.int 5)] [(.int 5), (.int 5)])) _
    refine XS.isub X0.here hx rfl (hb hby d18_3) rfl ?_
    refine XS.bipush X0.here hx rfl (hb hby d18_4) ?_
    refine XS.iushr X0.here hx rfl (hb hby d18_6) rfl ?_
    refine XS.i2b X0.here hx rfl (hb hby d18_7) rfl ?_
    show Steps p.tables e below (s₁.setTop (mkF m 8 #[.val (.ref a0b), .val (.int 5)] [(.int 0)])) _
    exact retN X0 hx (t := .byte) Bd.returns (by simp) (hb hby d18_8) hr
  · show Q_rmCfa5_5 n0 Z cS a0b k0 vs h0 _ s₁.heap _
    rw [e0]
    exact ⟨rfl, N0, rfl⟩
theorem ef_rmCfa6_6 (m : MethodId) (a0b : Addr) : entryFrame m #[(.ref a0b), (.int 6)] 2 = mkF m 0 #[.val (.ref a0b), .val (.int 6)] [] := by first | (simp [entryFrame, mkF, argsToLocals, Value.category]; done) | rfl
def Q_rmCfa6_6 (n0 : Nat) (Z : State) (cS : Int32) (a0b : Addr) (k0 : ClassId) (vs : List Value) (h0 : Heap) (v : Option Value) (h : Heap) (L : List Loc) : Prop := v = some (.int 0) ∧ Fr n0 L ∧ h = h0
set_option maxRecDepth 65536 in
set_option maxHeartbeats 40000000 in
theorem rmCfa6_6 (l : Launch) (Z : State) (a0 : Array Value) (hw : ∀ d ∈ tables_1, d.before a0 Z = true) (ws : List Jvm.Cond) (cS : Int32) (a0b : Addr) (k0 : ClassId) (vs : List Value) (h0 : Heap) (n0 : Nat) (O0 : Old Z n0 h0) (GL : GF Z cS) (V_a0b : Arv Z h0 a0b k0 .byte (6 : Int32) vs (.int 0)) :
    MetFree l MN_2 (head1 (Jvm.Cond.code MN_2 jdk_52_method_15_code 2 (some .byte) :: ws) ({ frames := 0, cells := 0, slots := 0, locals := 0 } : Room)) (fun a U => a = #[(.ref a0b), (.int 6)] ∧ Z.Warmed39 U.vm ∧ U.heap = h0) (fun _ _ _ _ _ => True) (fun _ U o U' => ∃ v L, o = .returned v ∧ Q_rmCfa6_6 n0 Z cS a0b k0 vs h0 v U'.heap L ∧ FrameEnd U o U' L ({ frames := 0, cells := 0, slots := 0, locals := 0 } : Room).cells ({ frames := 0, cells := 0, slots := 0, locals := 0 } : Room).slots) := by
  refine MetFree.of_bodySF (plainFor_of_name pn) hisR ?_
  intro p e s m args below meth c s₁ Bd hml0 hP hK
  obtain ⟨rfl, hZ, hh⟩ := hP
  have hx := Bd.exec
  have hby := Bd.bytes
  have hml : c.maxLocals = 2 := hml0
  have hown : s.vm.findClass "java/lang/StringUTF16" = some m.cls := findClass_of_methodNamed Bd.named
  have hnm := (name_of_methodNamed Bd.named Bd.method).1
  have X0 : Stand p l e ({ frames := 0, cells := 0, slots := 0, locals := 0 } : Room) s m #[(.ref a0b), (.int 6)] below meth c s₁ [] 0 0 := Stand.of_body Bd
  have e0 : s₁.heap = h0 := by rw [← hh, Bd.state]; rfl
  have N0 := Fr.nil n0
  have pre0 : ∀ t, Steps p.tables e below (s₁.setTop (mkF m 0 #[.val (.ref a0b), .val (.int 6)] [])) t → Steps p.tables e below (s₁.setTop (entryFrame m #[(.ref a0b), (.int 6)] 2)) t := fun t k => castTop (ef_rmCfa6_6 m a0b) k
  have GL' := GL
  obtain ⟨GCS, GCP⟩ := GL'
  obtain ⟨cl1, Ar1, -, S1, N1_, -, -⟩ := id (V_a0b)
  obtain ⟨fs, hr, hrun, hended, hW, hsame⟩ := X0.leave (v := some (.int 0)) (fun h => by rw [Bd.returns] at h; cases h)
  refine ⟨_, _, pre0 _ ?_, hrun, hended, _, _, rfl, ?_, ⟨_, rfl⟩, hW, hsame.mono (by decide) (by decide)⟩
  · show Steps p.tables e below (s₁.setTop (mkF m 0 #[.val (.ref a0b), .val (.int 6)] [])) _
    refine XS.iloadN X0.here hx rfl (hb hby d18_0) rfl ?_
    refine XS.aloadN X0.here hx rfl (hb hby d18_1) rfl rfl ?_
    show Steps p.tables e below (s₁.setTop (mkF m 2 #[.val (.ref a0b), .val (.int 6)] [(.ref a0b), (.int 6)])) _
    refine X0.arraylength hx (by rw [e0]; exact Ar1.1) (State.isArrayOf_alike hZ.alike Ar1.2.1) (g := (mkF m 2 #[.val (.ref a0b), .val (.int 6)] [(.ref a0b), (.int 6)])) rfl rfl (hb hby d18_2) _ ?_
    rw [len_of S1 N1_]
    show Steps p.tables e below (s₁.setTop (mkF m 3 #[.val (.ref a0b), .val (.int 6)] [(.int 6), (.int 6)])) _
    refine XS.isub X0.here hx rfl (hb hby d18_3) rfl ?_
    refine XS.bipush X0.here hx rfl (hb hby d18_4) ?_
    refine XS.iushr X0.here hx rfl (hb hby d18_6) rfl ?_
    refine XS.i2b X0.here hx rfl (hb hby d18_7) rfl ?_
    show Steps p.tables e below (s₁.setTop (mkF m 8 #[.val (.ref a0b), .val (.int 6)] [(.int 0)])) _
    exact retN X0 hx (t := .byte) Bd.returns (by simp) (hb hby d18_8) hr
  · show Q_rmCfa6_6 n0 Z cS a0b k0 vs h0 _ s₁.heap _
    rw [e0]
    exact ⟨rfl, N0, rfl⟩
theorem d4_0 : decode jdk_42_method_149_code 0 = .ok (.aload_n 0, 1) := by decide +kernel
theorem d4_1 : decode jdk_42_method_149_code 1 = .ok (.invokespecial 1, 3) := by decide +kernel
theorem d4_4 : decode jdk_42_method_149_code 4 = .ok (.iload_n 3, 1) := by decide +kernel
theorem d4_5 : decode jdk_42_method_149_code 5 = .ok (.ifCond .ne 22, 3) := by decide +kernel
theorem d4_8 : decode jdk_42_method_149_code 8 = .ok (.aload_n 0, 1) := by decide +kernel
theorem d4_9 : decode jdk_42_method_149_code 9 = .ok (.ldc 7, 2) := by decide +kernel
theorem d4_11 : decode jdk_42_method_149_code 11 = .ok (.getfield 9, 3) := by decide +kernel
theorem d4_14 : decode jdk_42_method_149_code 14 = .ok (.putfield 9, 3) := by decide +kernel
theorem d4_17 : decode jdk_42_method_149_code 17 = .ok (.aload_n 0, 1) := by decide +kernel
theorem d4_18 : decode jdk_42_method_149_code 18 = .ok (.ldc 7, 2) := by decide +kernel
theorem d4_20 : decode jdk_42_method_149_code 20 = .ok (.getfield 15, 3) := by decide +kernel
theorem d4_23 : decode jdk_42_method_149_code 23 = .ok (.putfield 15, 3) := by decide +kernel
theorem d4_26 : decode jdk_42_method_149_code 26 = .ok (.return_, 1) := by decide +kernel
theorem pnv1 : plainName "java/lang/String" = true := by first | (simp [plainName, overriddenIn]; done) | decide +kernel
abbrev MN_3 : MethodName := ⟨"java/lang/String", "<init>", "([CIILjava/lang/Void;)V"⟩
theorem ef_rmIv_0 (m : MethodId) (a0s : Addr) (a1c : Addr) : entryFrame m #[(.ref a0s), (.ref a1c), (.int 0), (.int 0), .null] 6 = mkF m 0 #[.val (.ref a0s), .val (.ref a1c), .val (.int 0), .val (.int 0), .val .null, .unset] [] := by first | (simp [entryFrame, mkF, argsToLocals, Value.category]; done) | rfl
def Q_rmIv_0 (n0 : Nat) (Z : State) (cS : Int32) (a0s : Addr) (a1c : Addr) (h0 : Heap) (v : Option Value) (h : Heap) (L : List Loc) : Prop := ∃ b : Addr, ∃ kb : ClassId, v = none ∧ Fr n0 L ∧ Keep h0 h [a0s] ∧ (Exa Z h a0s "java/lang/String") ∧ (Fld Z h a0s "java/lang/String" "value" "[B" (.ref b)) ∧ (Fld Z h a0s "java/lang/String" "coder" "B" (.int 0)) ∧ (Arv Z h b kb .byte (0 : Int32) [] (.int 0))
set_option maxRecDepth 65536 in
set_option maxHeartbeats 40000000 in
theorem rmIv_0 (l : Launch) (Z : State) (a0 : Array Value) (hw : ∀ d ∈ tables_1, d.before a0 Z = true) (ws : List Jvm.Cond) (cS : Int32) (a0s : Addr) (a1c : Addr) (h0 : Heap) (n0 : Nat) (O0 : Old Z n0 h0) (GL : GF Z cS) (E_a0s : Exa Z h0 a0s "java/lang/String") (F_value_a0s : Fld Z h0 a0s "java/lang/String" "value" "[B" .null) (F_coder_a0s : Fld Z h0 a0s "java/lang/String" "coder" "B" (.int 0)) (g_a0s : n0 ≤ a0s) :
    MetFree l MN_3 (head1 (Jvm.Cond.code MN_3 jdk_42_method_149_code 6 none :: ws) ({ frames := 1, cells := 4, slots := 8, locals := 12 } : Room)) (fun a U => a = #[(.ref a0s), (.ref a1c), (.int 0), (.int 0), .null] ∧ Z.Warmed39 U.vm ∧ U.heap = h0 ∧ CHv Z EL1 U.vm h0) (fun _ _ _ _ _ => True) (fun _ U o U' => ∃ v L, o = .returned v ∧ Q_rmIv_0 n0 Z cS a0s a1c h0 v U'.heap L ∧ CHr Z EL1 U.vm U.heap U'.vm U'.heap ∧ ReturnedEndW U o U' L ({ frames := 1, cells := 4, slots := 8, locals := 12 } : Room).cells ({ frames := 1, cells := 4, slots := 8, locals := 12 } : Room).slots) := by
  refine MetFree.of_bodySF (plainFor_of_name pnv1) hisR ?_
  intro p e s m args below meth c s₁ Bd hml0 hP hK
  obtain ⟨rfl, hZ, hh, H0⟩ := hP
  have hx := Bd.exec
  have hby := Bd.bytes
  have hml : c.maxLocals = 6 := hml0
  have hown : s.vm.findClass "java/lang/String" = some m.cls := findClass_of_methodNamed Bd.named
  have hnm := (name_of_methodNamed Bd.named Bd.method).1
  have X0 : Stand p l e ({ frames := 1, cells := 4, slots := 8, locals := 12 } : Room) s m #[(.ref a0s), (.ref a1c), (.int 0), (.int 0), .null] below meth c s₁ [] 0 0 := Stand.of_body Bd
  have e0 : s₁.heap = h0 := by rw [← hh, Bd.state]; rfl
  have N0 := Fr.nil n0
  have pre0 : ∀ t, Steps p.tables e below (s₁.setTop (mkF m 0 #[.val (.ref a0s), .val (.ref a1c), .val (.int 0), .val (.int 0), .val .null, .unset] [])) t → Steps p.tables e below (s₁.setTop (entryFrame m #[(.ref a0s), (.ref a1c), (.int 0), (.int 0), .null] 6)) t := fun t k => castTop (ef_rmIv_0 m a0s a1c) k
  have X0w : Stand p l e ({ frames := 1, cells := 4, slots := 8, locals := 12 } : Room) (s.setVm s.vm) m #[(.ref a0s), (.ref a1c), (.int 0), (.int 0), .null] below meth c s₁ [] 0 0 := X0
  have R0 : CHr Z EL1 s.vm h0 s.vm h0 := CHr.refl H0
  have hS0 : s.Since s.vm h0.size := (State.WarmedH.refl s).since _
  have GL' := GL
  obtain ⟨GCS, GCP⟩ := GL'
  obtain ⟨T1, X1, e1, st1⟩ := initO X0w hx hZ hown (Wd hw 19 rfl) (Wd hw 20 rfl) (Wd hw 21 rfl) e0 (g := (mkF m 1 #[.val (.ref a0s), .val (.ref a1c), .val (.int 0), .val (.int 0), .val .null, .unset] [(.ref a0s)])) rfl (by rw [hml]; rfl) rfl (hb hby d4_1) (by decide) (W := 0) (by show 2 * 0 + _ ≤ _; exact Nat.le_of_eq rfl) (by decide)
  obtain ⟨a2, T2, h2, k12, b2, kc2, X2, e2, E2, hS2, hk2, hZ2, hown2, A2, Fc2, Fv2, V2, la2, lb2, Rs2, Li2, nel2, st2⟩ := ldcCH X1 hx hZ hown (Wd hw 22 rfl) (own_wS hw) e1 hS0 (Nat.le_refl _) (own_EW hw) (List.mem_of_getElem? (i := 3) rfl) H0 (vs := []) (z := (0 : Int32)) ⟨by decide, by decide⟩ (by decide) rfl (g := (mkF m 9 #[.val (.ref a0s), .val (.ref a1c), .val (.int 0), .val (.int 0), .val .null, .unset] [(.ref a0s)])) rfl (hb hby d4_9) (n := 0) (by decide) (by decide) (by decide) (by decide)
  have H_3 := Rs2.1
  have R_3 := R0.trans Rs2
  have K2 : Keep h0 h2 [a0s] := (Keep.refl h0 [a0s]).ext E2
  have O2 := O0.ext E2
  obtain ⟨T4, X4, e4, st4⟩ := getF X2 hx hZ2 hown2 (host := "") (Or.inl (Wd hw 28 rfl)) Via.refl e2 Fv2 (g := (mkF m 11 #[.val (.ref a0s), .val (.ref a1c), .val (.int 0), .val (.int 0), .val .null, .unset] [(.ref a2), (.ref a0s)])) rfl rfl (hb hby d4_11)
  obtain ⟨T5, h5, X5, e5, W5, st5⟩ := putF X4 hx hZ2 hown2 (host := "") (Or.inl (Wd hw 28 rfl)) Via.refl e4 (F_value_a0s.ext E2) (E_a0s.ext E2) (Or.inr ⟨(Wd hw 24 rfl), rfl, hnm⟩) (Wd hw 10 rfl) (ty := (.array .byte)) (by decide) rfl rfl (g := (mkF m 14 #[.val (.ref a0s), .val (.ref a1c), .val (.int 0), .val (.int 0), .val .null, .unset] [(.ref b2), (.ref a0s)])) rfl rfl (hb hby d4_14)
  have Fw5 := (F_value_a0s.ext E2).same W5
  have Sf7 : Safe Z EL1 T2.vm h2 a0s := (CHr.safe Rs2 E_a0s.lt (own_safeS hZ.alike H0 F_value_a0s E_a0s))
  have H_6 := H_3.wr W5 Sf7
  have R_6 := R_3.trans (CHr.wr W5 Sf7 H_3)
  have K5 : Keep h0 h5 [a0s] := K2.wr W5 (Or.inl (List.mem_of_getElem? (i := 0) rfl))
  have O5 := O2.wr W5 g_a0s
  have N5 := Fr.snoc X5 N0 g_a0s
  obtain ⟨a8, T8, h8, k18, b8, kc8, X8, e8, E8, hS8, hk8, hZ8, hown8, A8, Fc8, Fv8, V8, la8, lb8, Rs8, Li8, nel8, st8⟩ := ldcCH X5 hx hZ2 hown2 (Wd hw 22 rfl) (own_wS hw) e5 hS2 (Nat.le_trans hk2 (Keep.of_wr W5).1) (own_EW hw) (List.mem_of_getElem? (i := 3) rfl) H_6 (vs := []) (z := (0 : Int32)) ⟨by decide, by decide⟩ (by decide) rfl (g := (mkF m 18 #[.val (.ref a0s), .val (.ref a1c), .val (.int 0), .val (.int 0), .val .null, .unset] [(.ref a0s)])) rfl (hb hby d4_18) (n := 0) (by decide) (by decide) (by decide) (by decide)
  have H_9 := Rs8.1
  have R_9 := R_6.trans Rs8
  have K8 : Keep h0 h8 [a0s] := K5.ext E8
  have O8 := O5.ext E8
  obtain ⟨T10, X10, e10, st10⟩ := getF X8 hx hZ8 hown8 (host := "") (Or.inl (Wd hw 29 rfl)) Via.refl e8 Fc8 (g := (mkF m 20 #[.val (.ref a0s), .val (.ref a1c), .val (.int 0), .val (.int 0), .val .null, .unset] [(.ref a8), (.ref a0s)])) rfl rfl (hb hby d4_20)
  obtain ⟨T11, h11, X11, e11, W11, st11⟩ := putFN X10 hx hZ8 hown8 (Wd hw 29 rfl) Via.refl e10 (((F_coder_a0s.ext E2).other W5 (Or.inr (slot_ne (a0 := a0) (Or.inr (Wd hw 25 rfl)) (Or.inr (Wd hw 24 rfl)) (by decide) (t := .byte) (t' := (.array .byte)) (by decide) (by decide)))).ext E8) (((E_a0s.ext E2).wr W5).ext E8) (Or.inr ⟨(Wd hw 25 rfl), rfl, hnm⟩) (Wd hw 10 rfl) (ty := .byte) (v' := (.int 0)) (by decide) rfl (by decide) (g := (mkF m 23 #[.val (.ref a0s), .val (.ref a1c), .val (.int 0), .val (.int 0), .val .null, .unset] [(.int 0), (.ref a0s)])) rfl rfl (hb hby d4_23)
  have Fw11 := (((F_coder_a0s.ext E2).other W5 (Or.inr (slot_ne (a0 := a0) (Or.inr (Wd hw 25 rfl)) (Or.inr (Wd hw 24 rfl)) (by decide) (t := .byte) (t' := (.array .byte)) (by decide) (by decide)))).ext E8).same W11
  have Sf13 : Safe Z EL1 T8.vm h8 a0s := (CHr.safe Rs8 (Nat.lt_of_lt_of_le E_a0s.lt (Nat.le_trans E2.1 (Keep.of_wr W5).1)) (Safe.wr W5 Sf7 H_3 Sf7))
  have H_12 := H_9.wr W11 Sf13
  have R_12 := R_9.trans (CHr.wr W11 Sf13 H_9)
  have K11 : Keep h0 h11 [a0s] := K8.wr W11 (Or.inl (List.mem_of_getElem? (i := 0) rfl))
  have O11 := O8.wr W11 g_a0s
  have N11 := Fr.snoc X11 N5 g_a0s
  obtain ⟨fs, hr, hrun, hended, hRW⟩ := X11.leaveW hS8 (by rw [e11]; exact (Nat.le_trans hk8 (Keep.of_wr W11).1)) (v := none) (fun _ => rfl)
  have hCR : CHr Z EL1 s.vm s.heap T11.vm T11.heap := by
    rw [hh, e11]
    exact R_12.trans (CHv.at X11 hZ8 (own_EW hw) H_12)
  refine ⟨_, _, pre0 _ ?_, hrun, hended, _, _, rfl, ?_, hCR, hRW.1, hRW.2.1, hRW.2.2.1, hRW.2.2.2.mono (by decide) (by decide)⟩
  · show Steps p.tables e below (s₁.setTop (mkF m 0 #[.val (.ref a0s), .val (.ref a1c), .val (.int 0), .val (.int 0), .val .null, .unset] [])) _
    refine XS.aloadN X0w.here hx rfl (hb hby d4_0) rfl rfl ?_
    show Steps p.tables e below (s₁.setTop (mkF m 1 #[.val (.ref a0s), .val (.ref a1c), .val (.int 0), .val (.int 0), .val .null, .unset] [(.ref a0s)])) _
    refine st1 _ ?_
    show Steps p.tables e below (T1.setTop (mkF m 4 #[.val (.ref a0s), .val (.ref a1c), .val (.int 0), .val (.int 0), .val .null, .unset] [])) _
    refine XS.iloadN X1.here hx rfl (hb hby d4_4) rfl ?_
    refine XS.ifNo X1.here hx rfl (hb hby d4_5) rfl ((if0 _ _).trans (teq (by decide : (0 : Int32) = (0 : Int32))).2) ?_
    refine XS.aloadN X1.here hx rfl (hb hby d4_8) rfl rfl ?_
    show Steps p.tables e below (T1.setTop (mkF m 9 #[.val (.ref a0s), .val (.ref a1c), .val (.int 0), .val (.int 0), .val .null, .unset] [(.ref a0s)])) _
    refine st2 _ ?_
    show Steps p.tables e below (T2.setTop (mkF m 11 #[.val (.ref a0s), .val (.ref a1c), .val (.int 0), .val (.int 0), .val .null, .unset] [(.ref a2), (.ref a0s)])) _
    refine st4 _ ?_
    show Steps p.tables e below (T4.setTop (mkF m 14 #[.val (.ref a0s), .val (.ref a1c), .val (.int 0), .val (.int 0), .val .null, .unset] [(.ref b2), (.ref a0s)])) _
    refine st5 _ ?_
    show Steps p.tables e below (T5.setTop (mkF m 17 #[.val (.ref a0s), .val (.ref a1c), .val (.int 0), .val (.int 0), .val .null, .unset] [])) _
    refine XS.aloadN X5.here hx rfl (hb hby d4_17) rfl rfl ?_
    show Steps p.tables e below (T5.setTop (mkF m 18 #[.val (.ref a0s), .val (.ref a1c), .val (.int 0), .val (.int 0), .val .null, .unset] [(.ref a0s)])) _
    refine st8 _ ?_
    show Steps p.tables e below (T8.setTop (mkF m 20 #[.val (.ref a0s), .val (.ref a1c), .val (.int 0), .val (.int 0), .val .null, .unset] [(.ref a8), (.ref a0s)])) _
    refine st10 _ ?_
    show Steps p.tables e below (T10.setTop (mkF m 23 #[.val (.ref a0s), .val (.ref a1c), .val (.int 0), .val (.int 0), .val .null, .unset] [(.int 0), (.ref a0s)])) _
    refine st11 _ ?_
    show Steps p.tables e below (T11.setTop (mkF m 26 #[.val (.ref a0s), .val (.ref a1c), .val (.int 0), .val (.int 0), .val .null, .unset] [])) _
    exact X11.returnOut hx Bd.returns (hb hby d4_26) hr
  · show Q_rmIv_0 n0 Z cS a0s a1c h0 _ T11.heap _
    rw [e11]
    exact ⟨b2, kc2, rfl, N11, K11, ((((E_a0s.ext E2).wr W5).ext E8).wr W11), ((Fw5.ext E8).other W11 (Or.inr (slot_ne (a0 := a0) (Or.inr (Wd hw 24 rfl)) (Or.inr (Wd hw 25 rfl)) (by decide) (t := (.array .byte)) (t' := .byte) (by decide) (by decide)))), Fw11, (((V2.other W5 (Ne.symm (nel2 a0s Sf7).2)).ext E8).other W11 (Ne.symm (nel2 a0s Sf7).2))⟩
theorem d4_27 : decode jdk_42_method_149_code 27 = .ok (.getstatic 38, 3) := by decide +kernel
theorem d4_30 : decode jdk_42_method_149_code 30 = .ok (.ifCond .eq 28, 3) := by decide +kernel
theorem d4_33 : decode jdk_42_method_149_code 33 = .ok (.aload_n 1, 1) := by decide +kernel
theorem d4_34 : decode jdk_42_method_149_code 34 = .ok (.iload_n 2, 1) := by decide +kernel
theorem d4_35 : decode jdk_42_method_149_code 35 = .ok (.iload_n 3, 1) := by decide +kernel
theorem d4_36 : decode jdk_42_method_149_code 36 = .ok (.invokestatic 177, 3) := by decide +kernel
theorem pdv1 : parseMethodDescriptor "([CII)[B" = some ⟨[(.array .char), .int, .int], some (.array .byte)⟩ := by decide +kernel
theorem d4_39 : decode jdk_42_method_149_code 39 = .ok (.astore 5, 2) := by decide +kernel
theorem d4_41 : decode jdk_42_method_149_code 41 = .ok (.aload_n 0, 1) := by decide +kernel
theorem d4_42 : decode jdk_42_method_149_code 42 = .ok (.aload 5, 2) := by decide +kernel
theorem d4_44 : decode jdk_42_method_149_code 44 = .ok (.iload_n 3, 1) := by decide +kernel
theorem d4_45 : decode jdk_42_method_149_code 45 = .ok (.invokestatic 47, 3) := by decide +kernel
theorem pdv2 : parseMethodDescriptor "([BI)B" = some ⟨[(.array .byte), .int], some .byte⟩ := by decide +kernel
theorem d4_48 : decode jdk_42_method_149_code 48 = .ok (.putfield 15, 3) := by decide +kernel
theorem d4_51 : decode jdk_42_method_149_code 51 = .ok (.aload_n 0, 1) := by decide +kernel
theorem d4_52 : decode jdk_42_method_149_code 52 = .ok (.aload 5, 2) := by decide +kernel
theorem d4_54 : decode jdk_42_method_149_code 54 = .ok (.putfield 9, 3) := by decide +kernel
theorem d4_57 : decode jdk_42_method_149_code 57 = .ok (.return_, 1) := by decide +kernel
theorem ef_rmIv_1 (m : MethodId) (a0s : Addr) (a1c : Addr) : entryFrame m #[(.ref a0s), (.ref a1c), (.int 0), (.int 1), .null] 6 = mkF m 0 #[.val (.ref a0s), .val (.ref a1c), .val (.int 0), .val (.int 1), .val .null, .unset] [] := by first | (simp [entryFrame, mkF, argsToLocals, Value.category]; done) | rfl
def Q_rmIv_1 (n0 : Nat) (Z : State) (cS : Int32) (a0s : Addr) (a1c : Addr) (k1 : ClassId) (c0 : Int32) (h0 : Heap) (v : Option Value) (h : Heap) (L : List Loc) : Prop := ∃ b : Addr, ∃ kb : ClassId, v = none ∧ Fr n0 L ∧ Keep h0 h [a0s] ∧ (h0.size ≤ b) ∧ (Exa Z h b "[B") ∧ (Exa Z h a0s "java/lang/String") ∧ (Fld Z h a0s "java/lang/String" "value" "[B" (.ref b)) ∧ (Fld Z h a0s "java/lang/String" "coder" "B" (.int 0)) ∧ (Arv Z h b kb .byte (1 : Int32) [(.int (c0.toInt8.toInt32))] (.int 0))
set_option maxRecDepth 65536 in
set_option maxHeartbeats 40000000 in
theorem rmIv_1 (l : Launch) (Z : State) (a0 : Array Value) (hw : ∀ d ∈ tables_1, d.before a0 Z = true) (ws : List Jvm.Cond) (cS : Int32) (a0s : Addr) (a1c : Addr) (k1 : ClassId) (c0 : Int32) (h0 : Heap) (n0 : Nat) (O0 : Old Z n0 h0) (GL : GF Z cS) (E_a0s : Exa Z h0 a0s "java/lang/String") (F_value_a0s : Fld Z h0 a0s "java/lang/String" "value" "[B" .null) (F_coder_a0s : Fld Z h0 a0s "java/lang/String" "coder" "B" (.int 0)) (g_a0s : n0 ≤ a0s) (V_a1c : Arv Z h0 a1c k1 .char (1 : Int32) [(.int c0)] (.int 0)) (hc0 : ¬ ((255 : Int32) < c0)) :
    MetFree l MN_3 (head1 (Jvm.Cond.code MN_3 jdk_42_method_149_code 6 none :: ws) ({ frames := 2, cells := 1, slots := 1, locals := 35 } : Room)) (fun a U => a = #[(.ref a0s), (.ref a1c), (.int 0), (.int 1), .null] ∧ Z.Warmed39 U.vm ∧ U.heap = h0) (fun _ _ _ _ _ => True) (fun _ U o U' => ∃ v L, o = .returned v ∧ Q_rmIv_1 n0 Z cS a0s a1c k1 c0 h0 v U'.heap L ∧ FrameEnd U o U' L ({ frames := 2, cells := 1, slots := 1, locals := 35 } : Room).cells ({ frames := 2, cells := 1, slots := 1, locals := 35 } : Room).slots) := by
  refine MetFree.of_bodySF (plainFor_of_name pnv1) hisR ?_
  intro p e s m args below meth c s₁ Bd hml0 hP hK
  obtain ⟨rfl, hZ, hh⟩ := hP
  have hx := Bd.exec
  have hby := Bd.bytes
  have hml : c.maxLocals = 6 := hml0
  have hown : s.vm.findClass "java/lang/String" = some m.cls := findClass_of_methodNamed Bd.named
  have hnm := (name_of_methodNamed Bd.named Bd.method).1
  have X0 : Stand p l e ({ frames := 2, cells := 1, slots := 1, locals := 35 } : Room) s m #[(.ref a0s), (.ref a1c), (.int 0), (.int 1), .null] below meth c s₁ [] 0 0 := Stand.of_body Bd
  have e0 : s₁.heap = h0 := by rw [← hh, Bd.state]; rfl
  have N0 := Fr.nil n0
  have pre0 : ∀ t, Steps p.tables e below (s₁.setTop (mkF m 0 #[.val (.ref a0s), .val (.ref a1c), .val (.int 0), .val (.int 1), .val .null, .unset] [])) t → Steps p.tables e below (s₁.setTop (entryFrame m #[(.ref a0s), (.ref a1c), (.int 0), (.int 1), .null] 6)) t := fun t k => castTop (ef_rmIv_1 m a0s a1c) k
  have GL' := GL
  obtain ⟨GCS, GCP⟩ := GL'
  obtain ⟨T1, X1, e1, st1⟩ := initO X0 hx hZ hown (Wd hw 19 rfl) (Wd hw 20 rfl) (Wd hw 21 rfl) e0 (g := (mkF m 1 #[.val (.ref a0s), .val (.ref a1c), .val (.int 0), .val (.int 1), .val .null, .unset] [(.ref a0s)])) rfl (by rw [hml]; rfl) rfl (hb hby d4_1) (by decide) (W := 0) (by show 2 * 0 + _ ≤ _; exact Nat.le_of_eq rfl) (by decide)
  obtain ⟨T2, X2, e2, st2⟩ := getS2 X1 hx hZ hown (host := "") (Or.inl (Wd hw 59 rfl)) Via.refl e1 (GCS.ext O0.2) (g := (mkF m 27 #[.val (.ref a0s), .val (.ref a1c), .val (.int 0), .val (.int 1), .val .null, .unset] [])) rfl (hb hby d4_27)
  obtain ⟨_, _, ⟨T3, L3, k3, n3⟩, -, X3, ⟨Lc3, hQ3, l3, y3, z3⟩, st3⟩ := Jvm.LawKit.callS X2 hx (y := MN_1) hown (mvT hZ (Wd hw 75 rfl)) (mvT hZ (Wd hw 76 rfl)) (mvT hZ (Wd hw 77 rfl)) (mvT hZ (Wd hw 78 rfl)) (by decide) (backOf (W := 0) (rmC1_1 l Z a0 hw [] cS (a1c) (k1) (c0) (h0) n0 O0 GL V_a1c hc0) hZ (Wd hw 78 rfl) (Wd hw 77 rfl) (by decide) (by decide)) (g := (mkF m 36 #[.val (.ref a0s), .val (.ref a1c), .val (.int 0), .val (.int 1), .val .null, .unset] [(.int 1), (.int 0), (.ref a1c)])) rfl (by rw [hml]; rfl) (argsL := [(.ref a1c), (.int 0), (.int 1)]) (rest := []) (lenOf pdv1 rfl) rfl (by show 2 * 0 + _ ≤ _; exact Nat.le_of_eq rfl) (hb hby d4_36) (fun _ _ => ⟨rfl, e2, (by decide : 0 + 1 ≤ _), (by decide : 0 + 1 ≤ _)⟩)
  dsimp only [Pt.U, Pt.locs, Pt.cells, Pt.slots] at X3 l3 y3 z3 st3 hQ3
  subst l3 y3 z3
  obtain ⟨b_3, kb_3, rfl, N3q, Kc3, P3_0, P3_1, P3_2⟩ := hQ3
  have K3 : Keep h0 T3.heap [a0s] := (Keep.refl h0 [a0s]).trans Kc3 all0
  have O3 := O0.keep Kc3 all0
  have g_b_3 : n0 ≤ b_3 := Nat.le_trans (own_sz O0) P3_0
  have sz_b_3 : h0.size ≤ b_3 := Nat.le_trans (Keep.refl h0 [a0s]).1 P3_0
  have N3 := Fr.app N0 N3q
  obtain ⟨_, _, ⟨T4, L4, k4, n4⟩, -, X4, ⟨Lc4, hQ4, l4, y4, z4⟩, st4⟩ := Jvm.LawKit.callS X3 hx (y := MN_2) hown (mvT hZ (Wd hw 82 rfl)) (mvT hZ (Wd hw 83 rfl)) (mvT hZ (Wd hw 77 rfl)) (mvT hZ (Wd hw 84 rfl)) (by decide) (backOf (W := 1) (rmCfa1_1 l Z a0 hw [] cS (b_3) (kb_3) ([(.int (c0.toInt8.toInt32))]) (T3.heap) n0 O3 GL P3_2) hZ (Wd hw 84 rfl) (Wd hw 77 rfl) (by decide) (by decide)) (g := (mkF m 45 #[.val (.ref a0s), .val (.ref a1c), .val (.int 0), .val (.int 1), .val .null, .val (.ref b_3)] [(.int 1), (.ref b_3), (.ref a0s)])) rfl (by rw [hml]; rfl) (argsL := [(.ref b_3), (.int 1)]) (rest := [(.ref a0s)]) (lenOf pdv2 rfl) rfl (by show 2 * 0 + _ ≤ _; exact Nat.le_of_eq rfl) (hb hby d4_45) (fun _ _ => ⟨rfl, rfl, (by decide : 1 + 0 ≤ _), (by decide : 1 + 0 ≤ _)⟩)
  dsimp only [Pt.U, Pt.locs, Pt.cells, Pt.slots] at X4 l4 y4 z4 st4 hQ4
  subst l4 y4 z4
  obtain ⟨rfl, N4q, e4⟩ := hQ4
  have N4 := Fr.app N3 N4q
  obtain ⟨T5, h5, X5, e5, W5, st5⟩ := putFN X4 hx hZ hown (Wd hw 29 rfl) Via.refl e4 (F_coder_a0s.keep Kc3 nin0) (E_a0s.keep Kc3) (Or.inr ⟨(Wd hw 25 rfl), rfl, hnm⟩) (Wd hw 10 rfl) (ty := .byte) (v' := (.int 0)) (by decide) rfl (by decide) (g := (mkF m 48 #[.val (.ref a0s), .val (.ref a1c), .val (.int 0), .val (.int 1), .val .null, .val (.ref b_3)] [(.int 0), (.ref a0s)])) rfl rfl (hb hby d4_48)
  have Fw5 := (F_coder_a0s.keep Kc3 nin0).same W5
  have K5 : Keep h0 h5 [a0s] := K3.wr W5 (Or.inl (List.mem_of_getElem? (i := 0) rfl))
  have O5 := O3.wr W5 g_a0s
  have N5 := Fr.snoc X5 N4 g_a0s
  obtain ⟨T6, h6, X6, e6, W6, st6⟩ := putF X5 hx hZ hown (host := "") (Or.inl (Wd hw 28 rfl)) Via.refl e5 ((F_value_a0s.keep Kc3 nin0).other W5 (Or.inr (slot_ne (a0 := a0) (Or.inr (Wd hw 24 rfl)) (Or.inr (Wd hw 25 rfl)) (by decide) (t := (.array .byte)) (t' := .byte) (by decide) (by decide)))) ((E_a0s.keep Kc3).wr W5) (Or.inr ⟨(Wd hw 24 rfl), rfl, hnm⟩) (Wd hw 10 rfl) (ty := (.array .byte)) (by decide) rfl rfl (g := (mkF m 54 #[.val (.ref a0s), .val (.ref a1c), .val (.int 0), .val (.int 1), .val .null, .val (.ref b_3)] [(.ref b_3), (.ref a0s)])) rfl rfl (hb hby d4_54)
  have Fw6 := ((F_value_a0s.keep Kc3 nin0).other W5 (Or.inr (slot_ne (a0 := a0) (Or.inr (Wd hw 24 rfl)) (Or.inr (Wd hw 25 rfl)) (by decide) (t := (.array .byte)) (t' := .byte) (by decide) (by decide)))).same W6
  have K6 : Keep h0 h6 [a0s] := K5.wr W6 (Or.inl (List.mem_of_getElem? (i := 0) rfl))
  have O6 := O5.wr W6 g_a0s
  have N6 := Fr.snoc X6 N5 g_a0s
  obtain ⟨fs, hr, hrun, hended, hW, hsame⟩ := X6.leave (v := none) (fun _ => rfl)
  refine ⟨_, _, pre0 _ ?_, hrun, hended, _, _, rfl, ?_, ⟨_, rfl⟩, hW, hsame.mono (by decide) (by decide)⟩
  · show Steps p.tables e below (s₁.setTop (mkF m 0 #[.val (.ref a0s), .val (.ref a1c), .val (.int 0), .val (.int 1), .val .null, .unset] [])) _
    refine XS.aloadN X0.here hx rfl (hb hby d4_0) rfl rfl ?_
    show Steps p.tables e below (s₁.setTop (mkF m 1 #[.val (.ref a0s), .val (.ref a1c), .val (.int 0), .val (.int 1), .val .null, .unset] [(.ref a0s)])) _
    refine st1 _ ?_
    show Steps p.tables e below (T1.setTop (mkF m 4 #[.val (.ref a0s), .val (.ref a1c), .val (.int 0), .val (.int 1), .val .null, .unset] [])) _
    refine XS.iloadN X1.here hx rfl (hb hby d4_4) rfl ?_
    refine XS.ifYes X1.here hx rfl (pc0 := 5) (pc' := 27) rfl (hb hby d4_5) rfl ((if0 _ _).trans (feq (by decide : ¬ ((1 : Int32) = (0 : Int32)))).2) (by decide) (by decide) ?_
    show Steps p.tables e below (T1.setTop (mkF m 27 #[.val (.ref a0s), .val (.ref a1c), .val (.int 0), .val (.int 1), .val .null, .unset] [])) _
    refine st2 _ ?_
    show Steps p.tables e below (T2.setTop (mkF m 30 #[.val (.ref a0s), .val (.ref a1c), .val (.int 0), .val (.int 1), .val .null, .unset] [(.int cS)])) _
    refine XS.ifNo X2.here hx rfl (hb hby d4_30) rfl ((if0 _ _).trans (feq GCP).1) ?_
    refine XS.aloadN X2.here hx rfl (hb hby d4_33) rfl rfl ?_
    refine XS.iloadN X2.here hx rfl (hb hby d4_34) rfl ?_
    refine XS.iloadN X2.here hx rfl (hb hby d4_35) rfl ?_
    show Steps p.tables e below (T2.setTop (mkF m 36 #[.val (.ref a0s), .val (.ref a1c), .val (.int 0), .val (.int 1), .val .null, .unset] [(.int 1), (.int 0), (.ref a1c)])) _
    refine st3 _ ?_
    show Steps p.tables e below (T3.setTop (mkF m 39 #[.val (.ref a0s), .val (.ref a1c), .val (.int 0), .val (.int 1), .val .null, .unset] [(.ref b_3)])) _
    refine XS.astore X3.here hx rfl (hb hby d4_39) rfl rfl (l' := #[.val (.ref a0s), .val (.ref a1c), .val (.int 0), .val (.int 1), .val .null, .val (.ref b_3)]) rfl ?_
    refine XS.aloadN X3.here hx rfl (hb hby d4_41) rfl rfl ?_
    refine XS.aload X3.here hx rfl (hb hby d4_42) rfl rfl ?_
    refine XS.iloadN X3.here hx rfl (hb hby d4_44) rfl ?_
    show Steps p.tables e below (T3.setTop (mkF m 45 #[.val (.ref a0s), .val (.ref a1c), .val (.int 0), .val (.int 1), .val .null, .val (.ref b_3)] [(.int 1), (.ref b_3), (.ref a0s)])) _
    refine st4 _ ?_
    show Steps p.tables e below (T4.setTop (mkF m 48 #[.val (.ref a0s), .val (.ref a1c), .val (.int 0), .val (.int 1), .val .null, .val (.ref b_3)] [(.int 0), (.ref a0s)])) _
    refine st5 _ ?_
    show Steps p.tables e below (T5.setTop (mkF m 51 #[.val (.ref a0s), .val (.ref a1c), .val (.int 0), .val (.int 1), .val .null, .val (.ref b_3)] [])) _
    refine XS.aloadN X5.here hx rfl (hb hby d4_51) rfl rfl ?_
    refine XS.aload X5.here hx rfl (hb hby d4_52) rfl rfl ?_
    show Steps p.tables e below (T5.setTop (mkF m 54 #[.val (.ref a0s), .val (.ref a1c), .val (.int 0), .val (.int 1), .val .null, .val (.ref b_3)] [(.ref b_3), (.ref a0s)])) _
    refine st6 _ ?_
    show Steps p.tables e below (T6.setTop (mkF m 57 #[.val (.ref a0s), .val (.ref a1c), .val (.int 0), .val (.int 1), .val .null, .val (.ref b_3)] [])) _
    exact X6.returnOut hx Bd.returns (hb hby d4_57) hr
  · show Q_rmIv_1 n0 Z cS a0s a1c k1 c0 h0 _ T6.heap _
    rw [e6]
    exact ⟨b_3, kb_3, rfl, N6, K6, sz_b_3, ((P3_1.wr W5).wr W6), (((E_a0s.keep Kc3).wr W5).wr W6), Fw6, (Fw5.other W6 (Or.inr (slot_ne (a0 := a0) (Or.inr (Wd hw 25 rfl)) (Or.inr (Wd hw 24 rfl)) (by decide) (t := .byte) (t' := (.array .byte)) (by decide) (by decide)))), ((P3_2.other W5 (Ne.symm (Nat.ne_of_lt (Nat.lt_of_lt_of_le E_a0s.lt P3_0)))).other W6 (Ne.symm (Nat.ne_of_lt (Nat.lt_of_lt_of_le E_a0s.lt P3_0))))⟩
theorem ef_rmIv_2 (m : MethodId) (a0s : Addr) (a1c : Addr) : entryFrame m #[(.ref a0s), (.ref a1c), (.int 0), (.int 2), .null] 6 = mkF m 0 #[.val (.ref a0s), .val (.ref a1c), .val (.int 0), .val (.int 2), .val .null, .unset] [] := by first | (simp [entryFrame, mkF, argsToLocals, Value.category]; done) | rfl
def Q_rmIv_2 (n0 : Nat) (Z : State) (cS : Int32) (a0s : Addr) (a1c : Addr) (k1 : ClassId) (c0 : Int32) (c1 : Int32) (h0 : Heap) (v : Option Value) (h : Heap) (L : List Loc) : Prop := ∃ b : Addr, ∃ kb : ClassId, v = none ∧ Fr n0 L ∧ Keep h0 h [a0s] ∧ (h0.size ≤ b) ∧ (Exa Z h b "[B") ∧ (Exa Z h a0s "java/lang/String") ∧ (Fld Z h a0s "java/lang/String" "value" "[B" (.ref b)) ∧ (Fld Z h a0s "java/lang/String" "coder" "B" (.int 0)) ∧ (Arv Z h b kb .byte (2 : Int32) [(.int (c0.toInt8.toInt32)), (.int (c1.toInt8.toInt32))] (.int 0))
set_option maxRecDepth 65536 in
set_option maxHeartbeats 40000000 in
theorem rmIv_2 (l : Launch) (Z : State) (a0 : Array Value) (hw : ∀ d ∈ tables_1, d.before a0 Z = true) (ws : List Jvm.Cond) (cS : Int32) (a0s : Addr) (a1c : Addr) (k1 : ClassId) (c0 : Int32) (c1 : Int32) (h0 : Heap) (n0 : Nat) (O0 : Old Z n0 h0) (GL : GF Z cS) (E_a0s : Exa Z h0 a0s "java/lang/String") (F_value_a0s : Fld Z h0 a0s "java/lang/String" "value" "[B" .null) (F_coder_a0s : Fld Z h0 a0s "java/lang/String" "coder" "B" (.int 0)) (g_a0s : n0 ≤ a0s) (V_a1c : Arv Z h0 a1c k1 .char (2 : Int32) [(.int c0), (.int c1)] (.int 0)) (hc0 : ¬ ((255 : Int32) < c0)) (hc1 : ¬ ((255 : Int32) < c1)) :
    MetFree l MN_3 (head1 (Jvm.Cond.code MN_3 jdk_42_method_149_code 6 none :: ws) ({ frames := 2, cells := 1, slots := 2, locals := 35 } : Room)) (fun a U => a = #[(.ref a0s), (.ref a1c), (.int 0), (.int 2), .null] ∧ Z.Warmed39 U.vm ∧ U.heap = h0) (fun _ _ _ _ _ => True) (fun _ U o U' => ∃ v L, o = .returned v ∧ Q_rmIv_2 n0 Z cS a0s a1c k1 c0 c1 h0 v U'.heap L ∧ FrameEnd U o U' L ({ frames := 2, cells := 1, slots := 2, locals := 35 } : Room).cells ({ frames := 2, cells := 1, slots := 2, locals := 35 } : Room).slots) := by
  refine MetFree.of_bodySF (plainFor_of_name pnv1) hisR ?_
  intro p e s m args below meth c s₁ Bd hml0 hP hK
  obtain ⟨rfl, hZ, hh⟩ := hP
  have hx := Bd.exec
  have hby := Bd.bytes
  have hml : c.maxLocals = 6 := hml0
  have hown : s.vm.findClass "java/lang/String" = some m.cls := findClass_of_methodNamed Bd.named
  have hnm := (name_of_methodNamed Bd.named Bd.method).1
  have X0 : Stand p l e ({ frames := 2, cells := 1, slots := 2, locals := 35 } : Room) s m #[(.ref a0s), (.ref a1c), (.int 0), (.int 2), .null] below meth c s₁ [] 0 0 := Stand.of_body Bd
  have e0 : s₁.heap = h0 := by rw [← hh, Bd.state]; rfl
  have N0 := Fr.nil n0
  have pre0 : ∀ t, Steps p.tables e below (s₁.setTop (mkF m 0 #[.val (.ref a0s), .val (.ref a1c), .val (.int 0), .val (.int 2), .val .null, .unset] [])) t → Steps p.tables e below (s₁.setTop (entryFrame m #[(.ref a0s), (.ref a1c), (.int 0), (.int 2), .null] 6)) t := fun t k => castTop (ef_rmIv_2 m a0s a1c) k
  have GL' := GL
  obtain ⟨GCS, GCP⟩ := GL'
  obtain ⟨T1, X1, e1, st1⟩ := initO X0 hx hZ hown (Wd hw 19 rfl) (Wd hw 20 rfl) (Wd hw 21 rfl) e0 (g := (mkF m 1 #[.val (.ref a0s), .val (.ref a1c), .val (.int 0), .val (.int 2), .val .null, .unset] [(.ref a0s)])) rfl (by rw [hml]; rfl) rfl (hb hby d4_1) (by decide) (W := 0) (by show 2 * 0 + _ ≤ _; exact Nat.le_of_eq rfl) (by decide)
  obtain ⟨T2, X2, e2, st2⟩ := getS2 X1 hx hZ hown (host := "") (Or.inl (Wd hw 59 rfl)) Via.refl e1 (GCS.ext O0.2) (g := (mkF m 27 #[.val (.ref a0s), .val (.ref a1c), .val (.int 0), .val (.int 2), .val .null, .unset] [])) rfl (hb hby d4_27)
  obtain ⟨_, _, ⟨T3, L3, k3, n3⟩, -, X3, ⟨Lc3, hQ3, l3, y3, z3⟩, st3⟩ := Jvm.LawKit.callS X2 hx (y := MN_1) hown (mvT hZ (Wd hw 75 rfl)) (mvT hZ (Wd hw 76 rfl)) (mvT hZ (Wd hw 77 rfl)) (mvT hZ (Wd hw 78 rfl)) (by decide) (backOf (W := 0) (rmC1_2 l Z a0 hw [] cS (a1c) (k1) (c0) (c1) (h0) n0 O0 GL V_a1c hc0 hc1) hZ (Wd hw 78 rfl) (Wd hw 77 rfl) (by decide) (by decide)) (g := (mkF m 36 #[.val (.ref a0s), .val (.ref a1c), .val (.int 0), .val (.int 2), .val .null, .unset] [(.int 2), (.int 0), (.ref a1c)])) rfl (by rw [hml]; rfl) (argsL := [(.ref a1c), (.int 0), (.int 2)]) (rest := []) (lenOf pdv1 rfl) rfl (by show 2 * 0 + _ ≤ _; exact Nat.le_of_eq rfl) (hb hby d4_36) (fun _ _ => ⟨rfl, e2, (by decide : 0 + 1 ≤ _), (by decide : 0 + 2 ≤ _)⟩)
  dsimp only [Pt.U, Pt.locs, Pt.cells, Pt.slots] at X3 l3 y3 z3 st3 hQ3
  subst l3 y3 z3
  obtain ⟨b_3, kb_3, rfl, N3q, Kc3, P3_0, P3_1, P3_2⟩ := hQ3
  have K3 : Keep h0 T3.heap [a0s] := (Keep.refl h0 [a0s]).trans Kc3 all0
  have O3 := O0.keep Kc3 all0
  have g_b_3 : n0 ≤ b_3 := Nat.le_trans (own_sz O0) P3_0
  have sz_b_3 : h0.size ≤ b_3 := Nat.le_trans (Keep.refl h0 [a0s]).1 P3_0
  have N3 := Fr.app N0 N3q
  obtain ⟨_, _, ⟨T4, L4, k4, n4⟩, -, X4, ⟨Lc4, hQ4, l4, y4, z4⟩, st4⟩ := Jvm.LawKit.callS X3 hx (y := MN_2) hown (mvT hZ (Wd hw 82 rfl)) (mvT hZ (Wd hw 83 rfl)) (mvT hZ (Wd hw 77 rfl)) (mvT hZ (Wd hw 84 rfl)) (by decide) (backOf (W := 1) (rmCfa2_2 l Z a0 hw [] cS (b_3) (kb_3) ([(.int (c0.toInt8.toInt32)), (.int (c1.toInt8.toInt32))]) (T3.heap) n0 O3 GL P3_2) hZ (Wd hw 84 rfl) (Wd hw 77 rfl) (by decide) (by decide)) (g := (mkF m 45 #[.val (.ref a0s), .val (.ref a1c), .val (.int 0), .val (.int 2), .val .null, .val (.ref b_3)] [(.int 2), (.ref b_3), (.ref a0s)])) rfl (by rw [hml]; rfl) (argsL := [(.ref b_3), (.int 2)]) (rest := [(.ref a0s)]) (lenOf pdv2 rfl) rfl (by show 2 * 0 + _ ≤ _; exact Nat.le_of_eq rfl) (hb hby d4_45) (fun _ _ => ⟨rfl, rfl, (by decide : 1 + 0 ≤ _), (by decide : 2 + 0 ≤ _)⟩)
  dsimp only [Pt.U, Pt.locs, Pt.cells, Pt.slots] at X4 l4 y4 z4 st4 hQ4
  subst l4 y4 z4
  obtain ⟨rfl, N4q, e4⟩ := hQ4
  have N4 := Fr.app N3 N4q
  obtain ⟨T5, h5, X5, e5, W5, st5⟩ := putFN X4 hx hZ hown (Wd hw 29 rfl) Via.refl e4 (F_coder_a0s.keep Kc3 nin0) (E_a0s.keep Kc3) (Or.inr ⟨(Wd hw 25 rfl), rfl, hnm⟩) (Wd hw 10 rfl) (ty := .byte) (v' := (.int 0)) (by decide) rfl (by decide) (g := (mkF m 48 #[.val (.ref a0s), .val (.ref a1c), .val (.int 0), .val (.int 2), .val .null, .val (.ref b_3)] [(.int 0), (.ref a0s)])) rfl rfl (hb hby d4_48)
  have Fw5 := (F_coder_a0s.keep Kc3 nin0).same W5
  have K5 : Keep h0 h5 [a0s] := K3.wr W5 (Or.inl (List.mem_of_getElem? (i := 0) rfl))
  have O5 := O3.wr W5 g_a0s
  have N5 := Fr.snoc X5 N4 g_a0s
  obtain ⟨T6, h6, X6, e6, W6, st6⟩ := putF X5 hx hZ hown (host := "") (Or.inl (Wd hw 28 rfl)) Via.refl e5 ((F_value_a0s.keep Kc3 nin0).other W5 (Or.inr (slot_ne (a0 := a0) (Or.inr (Wd hw 24 rfl)) (Or.inr (Wd hw 25 rfl)) (by decide) (t := (.array .byte)) (t' := .byte) (by decide) (by decide)))) ((E_a0s.keep Kc3).wr W5) (Or.inr ⟨(Wd hw 24 rfl), rfl, hnm⟩) (Wd hw 10 rfl) (ty := (.array .byte)) (by decide) rfl rfl (g := (mkF m 54 #[.val (.ref a0s), .val (.ref a1c), .val (.int 0), .val (.int 2), .val .null, .val (.ref b_3)] [(.ref b_3), (.ref a0s)])) rfl rfl (hb hby d4_54)
  have Fw6 := ((F_value_a0s.keep Kc3 nin0).other W5 (Or.inr (slot_ne (a0 := a0) (Or.inr (Wd hw 24 rfl)) (Or.inr (Wd hw 25 rfl)) (by decide) (t := (.array .byte)) (t' := .byte) (by decide) (by decide)))).same W6
  have K6 : Keep h0 h6 [a0s] := K5.wr W6 (Or.inl (List.mem_of_getElem? (i := 0) rfl))
  have O6 := O5.wr W6 g_a0s
  have N6 := Fr.snoc X6 N5 g_a0s
  obtain ⟨fs, hr, hrun, hended, hW, hsame⟩ := X6.leave (v := none) (fun _ => rfl)
  refine ⟨_, _, pre0 _ ?_, hrun, hended, _, _, rfl, ?_, ⟨_, rfl⟩, hW, hsame.mono (by decide) (by decide)⟩
  · show Steps p.tables e below (s₁.setTop (mkF m 0 #[.val (.ref a0s), .val (.ref a1c), .val (.int 0), .val (.int 2), .val .null, .unset] [])) _
    refine XS.aloadN X0.here hx rfl (hb hby d4_0) rfl rfl ?_
    show Steps p.tables e below (s₁.setTop (mkF m 1 #[.val (.ref a0s), .val (.ref a1c), .val (.int 0), .val (.int 2), .val .null, .unset] [(.ref a0s)])) _
    refine st1 _ ?_
    show Steps p.tables e below (T1.setTop (mkF m 4 #[.val (.ref a0s), .val (.ref a1c), .val (.int 0), .val (.int 2), .val .null, .unset] [])) _
    refine XS.iloadN X1.here hx rfl (hb hby d4_4) rfl ?_
    refine XS.ifYes X1.here hx rfl (pc0 := 5) (pc' := 27) rfl (hb hby d4_5) rfl ((if0 _ _).trans (feq (by decide : ¬ ((2 : Int32) = (0 : Int32)))).2) (by decide) (by decide) ?_
    show Steps p.tables e below (T1.setTop (mkF m 27 #[.val (.ref a0s), .val (.ref a1c), .val (.int 0), .val (.int 2), .val .null, .unset] [])) _
    refine st2 _ ?_
    show Steps p.tables e below (T2.setTop (mkF m 30 #[.val (.ref a0s), .val (.ref a1c), .val (.int 0), .val (.int 2), .val .null, .unset] [(.int cS)])) _
    refine XS.ifNo X2.here hx rfl (hb hby d4_30) rfl ((if0 _ _).trans (feq GCP).1) ?_
    refine XS.aloadN X2.here hx rfl (hb hby d4_33) rfl rfl ?_
    refine XS.iloadN X2.here hx rfl (hb hby d4_34) rfl ?_
    refine XS.iloadN X2.here hx rfl (hb hby d4_35) rfl ?_
    show Steps p.tables e below (T2.setTop (mkF m 36 #[.val (.ref a0s), .val (.ref a1c), .val (.int 0), .val (.int 2), .val .null, .unset] [(.int 2), (.int 0), (.ref a1c)])) _
    refine st3 _ ?_
    show Steps p.tables e below (T3.setTop (mkF m 39 #[.val (.ref a0s), .val (.ref a1c), .val (.int 0), .val (.int 2), .val .null, .unset] [(.ref b_3)])) _
    refine XS.astore X3.here hx rfl (hb hby d4_39) rfl rfl (l' := #[.val (.ref a0s), .val (.ref a1c), .val (.int 0), .val (.int 2), .val .null, .val (.ref b_3)]) rfl ?_
    refine XS.aloadN X3.here hx rfl (hb hby d4_41) rfl rfl ?_
    refine XS.aload X3.here hx rfl (hb hby d4_42) rfl rfl ?_
    refine XS.iloadN X3.here hx rfl (hb hby d4_44) rfl ?_
    show Steps p.tables e below (T3.setTop (mkF m 45 #[.val (.ref a0s), .val (.ref a1c), .val (.int 0), .val (.int 2), .val .null, .val (.ref b_3)] [(.int 2), (.ref b_3), (.ref a0s)])) _
    refine st4 _ ?_
    show Steps p.tables e below (T4.setTop (mkF m 48 #[.val (.ref a0s), .val (.ref a1c), .val (.int 0), .val (.int 2), .val .null, .val (.ref b_3)] [(.int 0), (.ref a0s)])) _
    refine st5 _ ?_
    show Steps p.tables e below (T5.setTop (mkF m 51 #[.val (.ref a0s), .val (.ref a1c), .val (.int 0), .val (.int 2), .val .null, .val (.ref b_3)] [])) _
    refine XS.aloadN X5.here hx rfl (hb hby d4_51) rfl rfl ?_
    refine XS.aload X5.here hx rfl (hb hby d4_52) rfl rfl ?_
    show Steps p.tables e below (T5.setTop (mkF m 54 #[.val (.ref a0s), .val (.ref a1c), .val (.int 0), .val (.int 2), .val .null, .val (.ref b_3)] [(.ref b_3), (.ref a0s)])) _
    refine st6 _ ?_
    show Steps p.tables e below (T6.setTop (mkF m 57 #[.val (.ref a0s), .val (.ref a1c), .val (.int 0), .val (.int 2), .val .null, .val (.ref b_3)] [])) _
    exact X6.returnOut hx Bd.returns (hb hby d4_57) hr
  · show Q_rmIv_2 n0 Z cS a0s a1c k1 c0 c1 h0 _ T6.heap _
    rw [e6]
    exact ⟨b_3, kb_3, rfl, N6, K6, sz_b_3, ((P3_1.wr W5).wr W6), (((E_a0s.keep Kc3).wr W5).wr W6), Fw6, (Fw5.other W6 (Or.inr (slot_ne (a0 := a0) (Or.inr (Wd hw 25 rfl)) (Or.inr (Wd hw 24 rfl)) (by decide) (t := .byte) (t' := (.array .byte)) (by decide) (by decide)))), ((P3_2.other W5 (Ne.symm (Nat.ne_of_lt (Nat.lt_of_lt_of_le E_a0s.lt P3_0)))).other W6 (Ne.symm (Nat.ne_of_lt (Nat.lt_of_lt_of_le E_a0s.lt P3_0))))⟩
theorem ef_rmIv_3 (m : MethodId) (a0s : Addr) (a1c : Addr) : entryFrame m #[(.ref a0s), (.ref a1c), (.int 0), (.int 3), .null] 6 = mkF m 0 #[.val (.ref a0s), .val (.ref a1c), .val (.int 0), .val (.int 3), .val .null, .unset] [] := by first | (simp [entryFrame, mkF, argsToLocals, Value.category]; done) | rfl
def Q_rmIv_3 (n0 : Nat) (Z : State) (cS : Int32) (a0s : Addr) (a1c : Addr) (k1 : ClassId) (c0 : Int32) (c1 : Int32) (c2 : Int32) (h0 : Heap) (v : Option Value) (h : Heap) (L : List Loc) : Prop := ∃ b : Addr, ∃ kb : ClassId, v = none ∧ Fr n0 L ∧ Keep h0 h [a0s] ∧ (h0.size ≤ b) ∧ (Exa Z h b "[B") ∧ (Exa Z h a0s "java/lang/String") ∧ (Fld Z h a0s "java/lang/String" "value" "[B" (.ref b)) ∧ (Fld Z h a0s "java/lang/String" "coder" "B" (.int 0)) ∧ (Arv Z h b kb .byte (3 : Int32) [(.int (c0.toInt8.toInt32)), (.int (c1.toInt8.toInt32)), (.int (c2.toInt8.toInt32))] (.int 0))
set_option maxRecDepth 65536 in
set_option maxHeartbeats 40000000 in
theorem rmIv_3 (l : Launch) (Z : State) (a0 : Array Value) (hw : ∀ d ∈ tables_1, d.before a0 Z = true) (ws : List Jvm.Cond) (cS : Int32) (a0s : Addr) (a1c : Addr) (k1 : ClassId) (c0 : Int32) (c1 : Int32) (c2 : Int32) (h0 : Heap) (n0 : Nat) (O0 : Old Z n0 h0) (GL : GF Z cS) (E_a0s : Exa Z h0 a0s "java/lang/String") (F_value_a0s : Fld Z h0 a0s "java/lang/String" "value" "[B" .null) (F_coder_a0s : Fld Z h0 a0s "java/lang/String" "coder" "B" (.int 0)) (g_a0s : n0 ≤ a0s) (V_a1c : Arv Z h0 a1c k1 .char (3 : Int32) [(.int c0), (.int c1), (.int c2)] (.int 0)) (hc0 : ¬ ((255 : Int32) < c0)) (hc1 : ¬ ((255 : Int32) < c1)) (hc2 : ¬ ((255 : Int32) < c2)) :
    MetFree l MN_3 (head1 (Jvm.Cond.code MN_3 jdk_42_method_149_code 6 none :: ws) ({ frames := 2, cells := 1, slots := 3, locals := 35 } : Room)) (fun a U => a = #[(.ref a0s), (.ref a1c), (.int 0), (.int 3), .null] ∧ Z.Warmed39 U.vm ∧ U.heap = h0) (fun _ _ _ _ _ => True) (fun _ U o U' => ∃ v L, o = .returned v ∧ Q_rmIv_3 n0 Z cS a0s a1c k1 c0 c1 c2 h0 v U'.heap L ∧ FrameEnd U o U' L ({ frames := 2, cells := 1, slots := 3, locals := 35 } : Room).cells ({ frames := 2, cells := 1, slots := 3, locals := 35 } : Room).slots) := by
  refine MetFree.of_bodySF (plainFor_of_name pnv1) hisR ?_
  intro p e s m args below meth c s₁ Bd hml0 hP hK
  obtain ⟨rfl, hZ, hh⟩ := hP
  have hx := Bd.exec
  have hby := Bd.bytes
  have hml : c.maxLocals = 6 := hml0
  have hown : s.vm.findClass "java/lang/String" = some m.cls := findClass_of_methodNamed Bd.named
  have hnm := (name_of_methodNamed Bd.named Bd.method).1
  have X0 : Stand p l e ({ frames := 2, cells := 1, slots := 3, locals := 35 } : Room) s m #[(.ref a0s), (.ref a1c), (.int 0), (.int 3), .null] below meth c s₁ [] 0 0 := Stand.of_body Bd
  have e0 : s₁.heap = h0 := by rw [← hh, Bd.state]; rfl
  have N0 := Fr.nil n0
  have pre0 : ∀ t, Steps p.tables e below (s₁.setTop (mkF m 0 #[.val (.ref a0s), .val (.ref a1c), .val (.int 0), .val (.int 3), .val .null, .unset] [])) t → Steps p.tables e below (s₁.setTop (entryFrame m #[(.ref a0s), (.ref a1c), (.int 0), (.int 3), .null] 6)) t := fun t k => castTop (ef_rmIv_3 m a0s a1c) k
  have GL' := GL
  obtain ⟨GCS, GCP⟩ := GL'
  obtain ⟨T1, X1, e1, st1⟩ := initO X0 hx hZ hown (Wd hw 19 rfl) (Wd hw 20 rfl) (Wd hw 21 rfl) e0 (g := (mkF m 1 #[.val (.ref a0s), .val (.ref a1c), .val (.int 0), .val (.int 3), .val .null, .unset] [(.ref a0s)])) rfl (by rw [hml]; rfl) rfl (hb hby d4_1) (by decide) (W := 0) (by show 2 * 0 + _ ≤ _; exact Nat.le_of_eq rfl) (by decide)
  obtain ⟨T2, X2, e2, st2⟩ := getS2 X1 hx hZ hown (host := "") (Or.inl (Wd hw 59 rfl)) Via.refl e1 (GCS.ext O0.2) (g := (mkF m 27 #[.val (.ref a0s), .val (.ref a1c), .val (.int 0), .val (.int 3), .val .null, .unset] [])) rfl (hb hby d4_27)
  obtain ⟨_, _, ⟨T3, L3, k3, n3⟩, -, X3, ⟨Lc3, hQ3, l3, y3, z3⟩, st3⟩ := Jvm.LawKit.callS X2 hx (y := MN_1) hown (mvT hZ (Wd hw 75 rfl)) (mvT hZ (Wd hw 76 rfl)) (mvT hZ (Wd hw 77 rfl)) (mvT hZ (Wd hw 78 rfl)) (by decide) (backOf (W := 0) (rmC1_3 l Z a0 hw [] cS (a1c) (k1) (c0) (c1) (c2) (h0) n0 O0 GL V_a1c hc0 hc1 hc2) hZ (Wd hw 78 rfl) (Wd hw 77 rfl) (by decide) (by decide)) (g := (mkF m 36 #[.val (.ref a0s), .val (.ref a1c), .val (.int 0), .val (.int 3), .val .null, .unset] [(.int 3), (.int 0), (.ref a1c)])) rfl (by rw [hml]; rfl) (argsL := [(.ref a1c), (.int 0), (.int 3)]) (rest := []) (lenOf pdv1 rfl) rfl (by show 2 * 0 + _ ≤ _; exact Nat.le_of_eq rfl) (hb hby d4_36) (fun _ _ => ⟨rfl, e2, (by decide : 0 + 1 ≤ _), (by decide : 0 + 3 ≤ _)⟩)
  dsimp only [Pt.U, Pt.locs, Pt.cells, Pt.slots] at X3 l3 y3 z3 st3 hQ3
  subst l3 y3 z3
  obtain ⟨b_3, kb_3, rfl, N3q, Kc3, P3_0, P3_1, P3_2⟩ := hQ3
  have K3 : Keep h0 T3.heap [a0s] := (Keep.refl h0 [a0s]).trans Kc3 all0
  have O3 := O0.keep Kc3 all0
  have g_b_3 : n0 ≤ b_3 := Nat.le_trans (own_sz O0) P3_0
  have sz_b_3 : h0.size ≤ b_3 := Nat.le_trans (Keep.refl h0 [a0s]).1 P3_0
  have N3 := Fr.app N0 N3q
  obtain ⟨_, _, ⟨T4, L4, k4, n4⟩, -, X4, ⟨Lc4, hQ4, l4, y4, z4⟩, st4⟩ := Jvm.LawKit.callS X3 hx (y := MN_2) hown (mvT hZ (Wd hw 82 rfl)) (mvT hZ (Wd hw 83 rfl)) (mvT hZ (Wd hw 77 rfl)) (mvT hZ (Wd hw 84 rfl)) (by decide) (backOf (W := 1) (rmCfa3_3 l Z a0 hw [] cS (b_3) (kb_3) ([(.int (c0.toInt8.toInt32)), (.int (c1.toInt8.toInt32)), (.int (c2.toInt8.toInt32))]) (T3.heap) n0 O3 GL P3_2) hZ (Wd hw 84 rfl) (Wd hw 77 rfl) (by decide) (by decide)) (g := (mkF m 45 #[.val (.ref a0s), .val (.ref a1c), .val (.int 0), .val (.int 3), .val .null, .val (.ref b_3)] [(.int 3), (.ref b_3), (.ref a0s)])) rfl (by rw [hml]; rfl) (argsL := [(.ref b_3), (.int 3)]) (rest := [(.ref a0s)]) (lenOf pdv2 rfl) rfl (by show 2 * 0 + _ ≤ _; exact Nat.le_of_eq rfl) (hb hby d4_45) (fun _ _ => ⟨rfl, rfl, (by decide : 1 + 0 ≤ _), (by decide : 3 + 0 ≤ _)⟩)
  dsimp only [Pt.U, Pt.locs, Pt.cells, Pt.slots] at X4 l4 y4 z4 st4 hQ4
  subst l4 y4 z4
  obtain ⟨rfl, N4q, e4⟩ := hQ4
  have N4 := Fr.app N3 N4q
  obtain ⟨T5, h5, X5, e5, W5, st5⟩ := putFN X4 hx hZ hown (Wd hw 29 rfl) Via.refl e4 (F_coder_a0s.keep Kc3 nin0) (E_a0s.keep Kc3) (Or.inr ⟨(Wd hw 25 rfl), rfl, hnm⟩) (Wd hw 10 rfl) (ty := .byte) (v' := (.int 0)) (by decide) rfl (by decide) (g := (mkF m 48 #[.val (.ref a0s), .val (.ref a1c), .val (.int 0), .val (.int 3), .val .null, .val (.ref b_3)] [(.int 0), (.ref a0s)])) rfl rfl (hb hby d4_48)
  have Fw5 := (F_coder_a0s.keep Kc3 nin0).same W5
  have K5 : Keep h0 h5 [a0s] := K3.wr W5 (Or.inl (List.mem_of_getElem? (i := 0) rfl))
  have O5 := O3.wr W5 g_a0s
  have N5 := Fr.snoc X5 N4 g_a0s
  obtain ⟨T6, h6, X6, e6, W6, st6⟩ := putF X5 hx hZ hown (host := "") (Or.inl (Wd hw 28 rfl)) Via.refl e5 ((F_value_a0s.keep Kc3 nin0).other W5 (Or.inr (slot_ne (a0 := a0) (Or.inr (Wd hw 24 rfl)) (Or.inr (Wd hw 25 rfl)) (by decide) (t := (.array .byte)) (t' := .byte) (by decide) (by decide)))) ((E_a0s.keep Kc3).wr W5) (Or.inr ⟨(Wd hw 24 rfl), rfl, hnm⟩) (Wd hw 10 rfl) (ty := (.array .byte)) (by decide) rfl rfl (g := (mkF m 54 #[.val (.ref a0s), .val (.ref a1c), .val (.int 0), .val (.int 3), .val .null, .val (.ref b_3)] [(.ref b_3), (.ref a0s)])) rfl rfl (hb hby d4_54)
  have Fw6 := ((F_value_a0s.keep Kc3 nin0).other W5 (Or.inr (slot_ne (a0 := a0) (Or.inr (Wd hw 24 rfl)) (Or.inr (Wd hw 25 rfl)) (by decide) (t := (.array .byte)) (t' := .byte) (by decide) (by decide)))).same W6
  have K6 : Keep h0 h6 [a0s] := K5.wr W6 (Or.inl (List.mem_of_getElem? (i := 0) rfl))
  have O6 := O5.wr W6 g_a0s
  have N6 := Fr.snoc X6 N5 g_a0s
  obtain ⟨fs, hr, hrun, hended, hW, hsame⟩ := X6.leave (v := none) (fun _ => rfl)
  refine ⟨_, _, pre0 _ ?_, hrun, hended, _, _, rfl, ?_, ⟨_, rfl⟩, hW, hsame.mono (by decide) (by decide)⟩
  · show Steps p.tables e below (s₁.setTop (mkF m 0 #[.val (.ref a0s), .val (.ref a1c), .val (.int 0), .val (.int 3), .val .null, .unset] [])) _
    refine XS.aloadN X0.here hx rfl (hb hby d4_0) rfl rfl ?_
    show Steps p.tables e below (s₁.setTop (mkF m 1 #[.val (.ref a0s), .val (.ref a1c), .val (.int 0), .val (.int 3), .val .null, .unset] [(.ref a0s)])) _
    refine st1 _ ?_
    show Steps p.tables e below (T1.setTop (mkF m 4 #[.val (.ref a0s), .val (.ref a1c), .val (.int 0), .val (.int 3), .val .null, .unset] [])) _
    refine XS.iloadN X1.here hx rfl (hb hby d4_4) rfl ?_
    refine XS.ifYes X1.here hx rfl (pc0 := 5) (pc' := 27) rfl (hb hby d4_5) rfl ((if0 _ _).trans (feq (by decide : ¬ ((3 : Int32) = (0 : Int32)))).2) (by decide) (by decide) ?_
    show Steps p.tables e below (T1.setTop (mkF m 27 #[.val (.ref a0s), .val (.ref a1c), .val (.int 0), .val (.int 3), .val .null, .unset] [])) _
    refine st2 _ ?_
    show Steps p.tables e below (T2.setTop (mkF m 30 #[.val (.ref a0s), .val (.ref a1c), .val (.int 0), .val (.int 3), .val .null, .unset] [(.int cS)])) _
    refine XS.ifNo X2.here hx rfl (hb hby d4_30) rfl ((if0 _ _).trans (feq GCP).1) ?_
    refine XS.aloadN X2.here hx rfl (hb hby d4_33) rfl rfl ?_
    refine XS.iloadN X2.here hx rfl (hb hby d4_34) rfl ?_
    refine XS.iloadN X2.here hx rfl (hb hby d4_35) rfl ?_
    show Steps p.tables e below (T2.setTop (mkF m 36 #[.val (.ref a0s), .val (.ref a1c), .val (.int 0), .val (.int 3), .val .null, .unset] [(.int 3), (.int 0), (.ref a1c)])) _
    refine st3 _ ?_
    show Steps p.tables e below (T3.setTop (mkF m 39 #[.val (.ref a0s), .val (.ref a1c), .val (.int 0), .val (.int 3), .val .null, .unset] [(.ref b_3)])) _
    refine XS.astore X3.here hx rfl (hb hby d4_39) rfl rfl (l' := #[.val (.ref a0s), .val (.ref a1c), .val (.int 0), .val (.int 3), .val .null, .val (.ref b_3)]) rfl ?_
    refine XS.aloadN X3.here hx rfl (hb hby d4_41) rfl rfl ?_
    refine XS.aload X3.here hx rfl (hb hby d4_42) rfl rfl ?_
    refine XS.iloadN X3.here hx rfl (hb hby d4_44) rfl ?_
    show Steps p.tables e below (T3.setTop (mkF m 45 #[.val (.ref a0s), .val (.ref a1c), .val (.int 0), .val (.int 3), .val .null, .val (.ref b_3)] [(.int 3), (.ref b_3), (.ref a0s)])) _
    refine st4 _ ?_
    show Steps p.tables e below (T4.setTop (mkF m 48 #[.val (.ref a0s), .val (.ref a1c), .val (.int 0), .val (.int 3), .val .null, .val (.ref b_3)] [(.int 0), (.ref a0s)])) _
    refine st5 _ ?_
    show Steps p.tables e below (T5.setTop (mkF m 51 #[.val (.ref a0s), .val (.ref a1c), .val (.int 0), .val (.int 3), .val .null, .val (.ref b_3)] [])) _
    refine XS.aloadN X5.here hx rfl (hb hby d4_51) rfl rfl ?_
    refine XS.aload X5.here hx rfl (hb hby d4_52) rfl rfl ?_
    show Steps p.tables e below (T5.setTop (mkF m 54 #[.val (.ref a0s), .val (.ref a1c), .val (.int 0), .val (.int 3), .val .null, .val (.ref b_3)] [(.ref b_3), (.ref a0s)])) _
    refine st6 _ ?_
    show Steps p.tables e below (T6.setTop (mkF m 57 #[.val (.ref a0s), .val (.ref a1c), .val (.int 0), .val (.int 3), .val .null, .val (.ref b_3)] [])) _
    exact X6.returnOut hx Bd.returns (hb hby d4_57) hr
  · show Q_rmIv_3 n0 Z cS a0s a1c k1 c0 c1 c2 h0 _ T6.heap _
    rw [e6]
    exact ⟨b_3, kb_3, rfl, N6, K6, sz_b_3, ((P3_1.wr W5).wr W6), (((E_a0s.keep Kc3).wr W5).wr W6), Fw6, (Fw5.other W6 (Or.inr (slot_ne (a0 := a0) (Or.inr (Wd hw 25 rfl)) (Or.inr (Wd hw 24 rfl)) (by decide) (t := .byte) (t' := (.array .byte)) (by decide) (by decide)))), ((P3_2.other W5 (Ne.symm (Nat.ne_of_lt (Nat.lt_of_lt_of_le E_a0s.lt P3_0)))).other W6 (Ne.symm (Nat.ne_of_lt (Nat.lt_of_lt_of_le E_a0s.lt P3_0))))⟩
theorem ef_rmIv_4 (m : MethodId) (a0s : Addr) (a1c : Addr) : entryFrame m #[(.ref a0s), (.ref a1c), (.int 0), (.int 4), .null] 6 = mkF m 0 #[.val (.ref a0s), .val (.ref a1c), .val (.int 0), .val (.int 4), .val .null, .unset] [] := by first | (simp [entryFrame, mkF, argsToLocals, Value.category]; done) | rfl
def Q_rmIv_4 (n0 : Nat) (Z : State) (cS : Int32) (a0s : Addr) (a1c : Addr) (k1 : ClassId) (c0 : Int32) (c1 : Int32) (c2 : Int32) (c3 : Int32) (h0 : Heap) (v : Option Value) (h : Heap) (L : List Loc) : Prop := ∃ b : Addr, ∃ kb : ClassId, v = none ∧ Fr n0 L ∧ Keep h0 h [a0s] ∧ (h0.size ≤ b) ∧ (Exa Z h b "[B") ∧ (Exa Z h a0s "java/lang/String") ∧ (Fld Z h a0s "java/lang/String" "value" "[B" (.ref b)) ∧ (Fld Z h a0s "java/lang/String" "coder" "B" (.int 0)) ∧ (Arv Z h b kb .byte (4 : Int32) [(.int (c0.toInt8.toInt32)), (.int (c1.toInt8.toInt32)), (.int (c2.toInt8.toInt32)), (.int (c3.toInt8.toInt32))] (.int 0))
set_option maxRecDepth 65536 in
set_option maxHeartbeats 40000000 in
theorem rmIv_4 (l : Launch) (Z : State) (a0 : Array Value) (hw : ∀ d ∈ tables_1, d.before a0 Z = true) (ws : List Jvm.Cond) (cS : Int32) (a0s : Addr) (a1c : Addr) (k1 : ClassId) (c0 : Int32) (c1 : Int32) (c2 : Int32) (c3 : Int32) (h0 : Heap) (n0 : Nat) (O0 : Old Z n0 h0) (GL : GF Z cS) (E_a0s : Exa Z h0 a0s "java/lang/String") (F_value_a0s : Fld Z h0 a0s "java/lang/String" "value" "[B" .null) (F_coder_a0s : Fld Z h0 a0s "java/lang/String" "coder" "B" (.int 0)) (g_a0s : n0 ≤ a0s) (V_a1c : Arv Z h0 a1c k1 .char (4 : Int32) [(.int c0), (.int c1), (.int c2), (.int c3)] (.int 0)) (hc0 : ¬ ((255 : Int32) < c0)) (hc1 : ¬ ((255 : Int32) < c1)) (hc2 : ¬ ((255 : Int32) < c2)) (hc3 : ¬ ((255 : Int32) < c3)) :
    MetFree l MN_3 (head1 (Jvm.Cond.code MN_3 jdk_42_method_149_code 6 none :: ws) ({ frames := 2, cells := 1, slots := 4, locals := 35 } : Room)) (fun a U => a = #[(.ref a0s), (.ref a1c), (.int 0), (.int 4), .null] ∧ Z.Warmed39 U.vm ∧ U.heap = h0) (fun _ _ _ _ _ => True) (fun _ U o U' => ∃ v L, o = .returned v ∧ Q_rmIv_4 n0 Z cS a0s a1c k1 c0 c1 c2 c3 h0 v U'.heap L ∧ FrameEnd U o U' L ({ frames := 2, cells := 1, slots := 4, locals := 35 } : Room).cells ({ frames := 2, cells := 1, slots := 4, locals := 35 } : Room).slots) := by
  refine MetFree.of_bodySF (plainFor_of_name pnv1) hisR ?_
  intro p e s m args below meth c s₁ Bd hml0 hP hK
  obtain ⟨rfl, hZ, hh⟩ := hP
  have hx := Bd.exec
  have hby := Bd.bytes
  have hml : c.maxLocals = 6 := hml0
  have hown : s.vm.findClass "java/lang/String" = some m.cls := findClass_of_methodNamed Bd.named
  have hnm := (name_of_methodNamed Bd.named Bd.method).1
  have X0 : Stand p l e ({ frames := 2, cells := 1, slots := 4, locals := 35 } : Room) s m #[(.ref a0s), (.ref a1c), (.int 0), (.int 4), .null] below meth c s₁ [] 0 0 := Stand.of_body Bd
  have e0 : s₁.heap = h0 := by rw [← hh, Bd.state]; rfl
  have N0 := Fr.nil n0
  have pre0 : ∀ t, Steps p.tables e below (s₁.setTop (mkF m 0 #[.val (.ref a0s), .val (.ref a1c), .val (.int 0), .val (.int 4), .val .null, .unset] [])) t → Steps p.tables e below (s₁.setTop (entryFrame m #[(.ref a0s), (.ref a1c), (.int 0), (.int 4), .null] 6)) t := fun t k => castTop (ef_rmIv_4 m a0s a1c) k
  have GL' := GL
  obtain ⟨GCS, GCP⟩ := GL'
  obtain ⟨T1, X1, e1, st1⟩ := initO X0 hx hZ hown (Wd hw 19 rfl) (Wd hw 20 rfl) (Wd hw 21 rfl) e0 (g := (mkF m 1 #[.val (.ref a0s), .val (.ref a1c), .val (.int 0), .val (.int 4), .val .null, .unset] [(.ref a0s)])) rfl (by rw [hml]; rfl) rfl (hb hby d4_1) (by decide) (W := 0) (by show 2 * 0 + _ ≤ _; exact Nat.le_of_eq rfl) (by decide)
  obtain ⟨T2, X2, e2, st2⟩ := getS2 X1 hx hZ hown (host := "") (Or.inl (Wd hw 59 rfl)) Via.refl e1 (GCS.ext O0.2) (g := (mkF m 27 #[.val (.ref a0s), .val (.ref a1c), .val (.int 0), .val (.int 4), .val .null, .unset] [])) rfl (hb hby d4_27)
  obtain ⟨_, _, ⟨T3, L3, k3, n3⟩, -, X3, ⟨Lc3, hQ3, l3, y3, z3⟩, st3⟩ := Jvm.LawKit.callS X2 hx (y := MN_1) hown (mvT hZ (Wd hw 75 rfl)) (mvT hZ (Wd hw 76 rfl)) (mvT hZ (Wd hw 77 rfl)) (mvT hZ (Wd hw 78 rfl)) (by decide) (backOf (W := 0) (rmC1_4 l Z a0 hw [] cS (a1c) (k1) (c0) (c1) (c2) (c3) (h0) n0 O0 GL V_a1c hc0 hc1 hc2 hc3) hZ (Wd hw 78 rfl) (Wd hw 77 rfl) (by decide) (by decide)) (g := (mkF m 36 #[.val (.ref a0s), .val (.ref a1c), .val (.int 0), .val (.int 4), .val .null, .unset] [(.int 4), (.int 0), (.ref a1c)])) rfl (by rw [hml]; rfl) (argsL := [(.ref a1c), (.int 0), (.int 4)]) (rest := []) (lenOf pdv1 rfl) rfl (by show 2 * 0 + _ ≤ _; exact Nat.le_of_eq rfl) (hb hby d4_36) (fun _ _ => ⟨rfl, e2, (by decide : 0 + 1 ≤ _), (by decide : 0 + 4 ≤ _)⟩)
  dsimp only [Pt.U, Pt.locs, Pt.cells, Pt.slots] at X3 l3 y3 z3 st3 hQ3
  subst l3 y3 z3
  obtain ⟨b_3, kb_3, rfl, N3q, Kc3, P3_0, P3_1, P3_2⟩ := hQ3
  have K3 : Keep h0 T3.heap [a0s] := (Keep.refl h0 [a0s]).trans Kc3 all0
  have O3 := O0.keep Kc3 all0
  have g_b_3 : n0 ≤ b_3 := Nat.le_trans (own_sz O0) P3_0
  have sz_b_3 : h0.size ≤ b_3 := Nat.le_trans (Keep.refl h0 [a0s]).1 P3_0
  have N3 := Fr.app N0 N3q
  obtain ⟨_, _, ⟨T4, L4, k4, n4⟩, -, X4, ⟨Lc4, hQ4, l4, y4, z4⟩, st4⟩ := Jvm.LawKit.callS X3 hx (y := MN_2) hown (mvT hZ (Wd hw 82 rfl)) (mvT hZ (Wd hw 83 rfl)) (mvT hZ (Wd hw 77 rfl)) (mvT hZ (Wd hw 84 rfl)) (by decide) (backOf (W := 1) (rmCfa4_4 l Z a0 hw [] cS (b_3) (kb_3) ([(.int (c0.toInt8.toInt32)), (.int (c1.toInt8.toInt32)), (.int (c2.toInt8.toInt32)), (.int (c3.toInt8.toInt32))]) (T3.heap) n0 O3 GL P3_2) hZ (Wd hw 84 rfl) (Wd hw 77 rfl) (by decide) (by decide)) (g := (mkF m 45 #[.val (.ref a0s), .val (.ref a1c), .val (.int 0), .val (.int 4), .val .null, .val (.ref b_3)] [(.int 4), (.ref b_3), (.ref a0s)])) rfl (by rw [hml]; rfl) (argsL := [(.ref b_3), (.int 4)]) (rest := [(.ref a0s)]) (lenOf pdv2 rfl) rfl (by show 2 * 0 + _ ≤ _; exact Nat.le_of_eq rfl) (hb hby d4_45) (fun _ _ => ⟨rfl, rfl, (by decide : 1 + 0 ≤ _), (by decide : 4 + 0 ≤ _)⟩)
  dsimp only [Pt.U, Pt.locs, Pt.cells, Pt.slots] at X4 l4 y4 z4 st4 hQ4
  subst l4 y4 z4
  obtain ⟨rfl, N4q, e4⟩ := hQ4
  have N4 := Fr.app N3 N4q
  obtain ⟨T5, h5, X5, e5, W5, st5⟩ := putFN X4 hx hZ hown (Wd hw 29 rfl) Via.refl e4 (F_coder_a0s.keep Kc3 nin0) (E_a0s.keep Kc3) (Or.inr ⟨(Wd hw 25 rfl), rfl, hnm⟩) (Wd hw 10 rfl) (ty := .byte) (v' := (.int 0)) (by decide) rfl (by decide) (g := (mkF m 48 #[.val (.ref a0s), .val (.ref a1c), .val (.int 0), .val (.int 4), .val .null, .val (.ref b_3)] [(.int 0), (.ref a0s)])) rfl rfl (hb hby d4_48)
  have Fw5 := (F_coder_a0s.keep Kc3 nin0).same W5
  have K5 : Keep h0 h5 [a0s] := K3.wr W5 (Or.inl (List.mem_of_getElem? (i := 0) rfl))
  have O5 := O3.wr W5 g_a0s
  have N5 := Fr.snoc X5 N4 g_a0s
  obtain ⟨T6, h6, X6, e6, W6, st6⟩ := putF X5 hx hZ hown (host := "") (Or.inl (Wd hw 28 rfl)) Via.refl e5 ((F_value_a0s.keep Kc3 nin0).other W5 (Or.inr (slot_ne (a0 := a0) (Or.inr (Wd hw 24 rfl)) (Or.inr (Wd hw 25 rfl)) (by decide) (t := (.array .byte)) (t' := .byte) (by decide) (by decide)))) ((E_a0s.keep Kc3).wr W5) (Or.inr ⟨(Wd hw 24 rfl), rfl, hnm⟩) (Wd hw 10 rfl) (ty := (.array .byte)) (by decide) rfl rfl (g := (mkF m 54 #[.val (.ref a0s), .val (.ref a1c), .val (.int 0), .val (.int 4), .val .null, .val (.ref b_3)] [(.ref b_3), (.ref a0s)])) rfl rfl (hb hby d4_54)
  have Fw6 := ((F_value_a0s.keep Kc3 nin0).other W5 (Or.inr (slot_ne (a0 := a0) (Or.inr (Wd hw 24 rfl)) (Or.inr (Wd hw 25 rfl)) (by decide) (t := (.array .byte)) (t' := .byte) (by decide) (by decide)))).same W6
  have K6 : Keep h0 h6 [a0s] := K5.wr W6 (Or.inl (List.mem_of_getElem? (i := 0) rfl))
  have O6 := O5.wr W6 g_a0s
  have N6 := Fr.snoc X6 N5 g_a0s
  obtain ⟨fs, hr, hrun, hended, hW, hsame⟩ := X6.leave (v := none) (fun _ => rfl)
  refine ⟨_, _, pre0 _ ?_, hrun, hended, _, _, rfl, ?_, ⟨_, rfl⟩, hW, hsame.mono (by decide) (by decide)⟩
  · show Steps p.tables e below (s₁.setTop (mkF m 0 #[.val (.ref a0s), .val (.ref a1c), .val (.int 0), .val (.int 4), .val .null, .unset] [])) _
    refine XS.aloadN X0.here hx rfl (hb hby d4_0) rfl rfl ?_
    show Steps p.tables e below (s₁.setTop (mkF m 1 #[.val (.ref a0s), .val (.ref a1c), .val (.int 0), .val (.int 4), .val .null, .unset] [(.ref a0s)])) _
    refine st1 _ ?_
    show Steps p.tables e below (T1.setTop (mkF m 4 #[.val (.ref a0s), .val (.ref a1c), .val (.int 0), .val (.int 4), .val .null, .unset] [])) _
    refine XS.iloadN X1.here hx rfl (hb hby d4_4) rfl ?_
    refine XS.ifYes X1.here hx rfl (pc0 := 5) (pc' := 27) rfl (hb hby d4_5) rfl ((if0 _ _).trans (feq (by decide : ¬ ((4 : Int32) = (0 : Int32)))).2) (by decide) (by decide) ?_
    show Steps p.tables e below (T1.setTop (mkF m 27 #[.val (.ref a0s), .val (.ref a1c), .val (.int 0), .val (.int 4), .val .null, .unset] [])) _
    refine st2 _ ?_
    show Steps p.tables e below (T2.setTop (mkF m 30 #[.val (.ref a0s), .val (.ref a1c), .val (.int 0), .val (.int 4), .val .null, .unset] [(.int cS)])) _
    refine XS.ifNo X2.here hx rfl (hb hby d4_30) rfl ((if0 _ _).trans (feq GCP).1) ?_
    refine XS.aloadN X2.here hx rfl (hb hby d4_33) rfl rfl ?_
    refine XS.iloadN X2.here hx rfl (hb hby d4_34) rfl ?_
    refine XS.iloadN X2.here hx rfl (hb hby d4_35) rfl ?_
    show Steps p.tables e below (T2.setTop (mkF m 36 #[.val (.ref a0s), .val (.ref a1c), .val (.int 0), .val (.int 4), .val .null, .unset] [(.int 4), (.int 0), (.ref a1c)])) _
    refine st3 _ ?_
    show Steps p.tables e below (T3.setTop (mkF m 39 #[.val (.ref a0s), .val (.ref a1c), .val (.int 0), .val (.int 4), .val .null, .unset] [(.ref b_3)])) _
    refine XS.astore X3.here hx rfl (hb hby d4_39) rfl rfl (l' := #[.val (.ref a0s), .val (.ref a1c), .val (.int 0), .val (.int 4), .val .null, .val (.ref b_3)]) rfl ?_
    refine XS.aloadN X3.here hx rfl (hb hby d4_41) rfl rfl ?_
    refine XS.aload X3.here hx rfl (hb hby d4_42) rfl rfl ?_
    refine XS.iloadN X3.here hx rfl (hb hby d4_44) rfl ?_
    show Steps p.tables e below (T3.setTop (mkF m 45 #[.val (.ref a0s), .val (.ref a1c), .val (.int 0), .val (.int 4), .val .null, .val (.ref b_3)] [(.int 4), (.ref b_3), (.ref a0s)])) _
    refine st4 _ ?_
    show Steps p.tables e below (T4.setTop (mkF m 48 #[.val (.ref a0s), .val (.ref a1c), .val (.int 0), .val (.int 4), .val .null, .val (.ref b_3)] [(.int 0), (.ref a0s)])) _
    refine st5 _ ?_
    show Steps p.tables e below (T5.setTop (mkF m 51 #[.val (.ref a0s), .val (.ref a1c), .val (.int 0), .val (.int 4), .val .null, .val (.ref b_3)] [])) _
    refine XS.aloadN X5.here hx rfl (hb hby d4_51) rfl rfl ?_
    refine XS.aload X5.here hx rfl (hb hby d4_52) rfl rfl ?_
    show Steps p.tables e below (T5.setTop (mkF m 54 #[.val (.ref a0s), .val (.ref a1c), .val (.int 0), .val (.int 4), .val .null, .val (.ref b_3)] [(.ref b_3), (.ref a0s)])) _
    refine st6 _ ?_
    show Steps p.tables e below (T6.setTop (mkF m 57 #[.val (.ref a0s), .val (.ref a1c), .val (.int 0), .val (.int 4), .val .null, .val (.ref b_3)] [])) _
    exact X6.returnOut hx Bd.returns (hb hby d4_57) hr
  · show Q_rmIv_4 n0 Z cS a0s a1c k1 c0 c1 c2 c3 h0 _ T6.heap _
    rw [e6]
    exact ⟨b_3, kb_3, rfl, N6, K6, sz_b_3, ((P3_1.wr W5).wr W6), (((E_a0s.keep Kc3).wr W5).wr W6), Fw6, (Fw5.other W6 (Or.inr (slot_ne (a0 := a0) (Or.inr (Wd hw 25 rfl)) (Or.inr (Wd hw 24 rfl)) (by decide) (t := .byte) (t' := (.array .byte)) (by decide) (by decide)))), ((P3_2.other W5 (Ne.symm (Nat.ne_of_lt (Nat.lt_of_lt_of_le E_a0s.lt P3_0)))).other W6 (Ne.symm (Nat.ne_of_lt (Nat.lt_of_lt_of_le E_a0s.lt P3_0))))⟩
theorem ef_rmIv_5 (m : MethodId) (a0s : Addr) (a1c : Addr) : entryFrame m #[(.ref a0s), (.ref a1c), (.int 0), (.int 5), .null] 6 = mkF m 0 #[.val (.ref a0s), .val (.ref a1c), .val (.int 0), .val (.int 5), .val .null, .unset] [] := by first | (simp [entryFrame, mkF, argsToLocals, Value.category]; done) | rfl
def Q_rmIv_5 (n0 : Nat) (Z : State) (cS : Int32) (a0s : Addr) (a1c : Addr) (k1 : ClassId) (c0 : Int32) (c1 : Int32) (c2 : Int32) (c3 : Int32) (c4 : Int32) (h0 : Heap) (v : Option Value) (h : Heap) (L : List Loc) : Prop := ∃ b : Addr, ∃ kb : ClassId, v = none ∧ Fr n0 L ∧ Keep h0 h [a0s] ∧ (h0.size ≤ b) ∧ (Exa Z h b "[B") ∧ (Exa Z h a0s "java/lang/String") ∧ (Fld Z h a0s "java/lang/String" "value" "[B" (.ref b)) ∧ (Fld Z h a0s "java/lang/String" "coder" "B" (.int 0)) ∧ (Arv Z h b kb .byte (5 : Int32) [(.int (c0.toInt8.toInt32)), (.int (c1.toInt8.toInt32)), (.int (c2.toInt8.toInt32)), (.int (c3.toInt8.toInt32)), (.int (c4.toInt8.toInt32))] (.int 0))
set_option maxRecDepth 65536 in
set_option maxHeartbeats 40000000 in
theorem rmIv_5 (l : Launch) (Z : State) (a0 : Array Value) (hw : ∀ d ∈ tables_1, d.before a0 Z = true) (ws : List Jvm.Cond) (cS : Int32) (a0s : Addr) (a1c : Addr) (k1 : ClassId) (c0 : Int32) (c1 : Int32) (c2 : Int32) (c3 : Int32) (c4 : Int32) (h0 : Heap) (n0 : Nat) (O0 : Old Z n0 h0) (GL : GF Z cS) (E_a0s : Exa Z h0 a0s "java/lang/String") (F_value_a0s : Fld Z h0 a0s "java/lang/String" "value" "[B" .null) (F_coder_a0s : Fld Z h0 a0s "java/lang/String" "coder" "B" (.int 0)) (g_a0s : n0 ≤ a0s) (V_a1c : Arv Z h0 a1c k1 .char (5 : Int32) [(.int c0), (.int c1), (.int c2), (.int c3), (.int c4)] (.int 0)) (hc0 : ¬ ((255 : Int32) < c0)) (hc1 : ¬ ((255 : Int32) < c1)) (hc2 : ¬ ((255 : Int32) < c2)) (hc3 : ¬ ((255 : Int32) < c3)) (hc4 : ¬ ((255 : Int32) < c4)) :
    MetFree l MN_3 (head1 (Jvm.Cond.code MN_3 jdk_42_method_149_code 6 none :: ws) ({ frames := 2, cells := 1, slots := 5, locals := 35 } : Room)) (fun a U => a = #[(.ref a0s), (.ref a1c), (.int 0), (.int 5), .null] ∧ Z.Warmed39 U.vm ∧ U.heap = h0) (fun _ _ _ _ _ => True) (fun _ U o U' => ∃ v L, o = .returned v ∧ Q_rmIv_5 n0 Z cS a0s a1c k1 c0 c1 c2 c3 c4 h0 v U'.heap L ∧ FrameEnd U o U' L ({ frames := 2, cells := 1, slots := 5, locals := 35 } : Room).cells ({ frames := 2, cells := 1, slots := 5, locals := 35 } : Room).slots) := by
  refine MetFree.of_bodySF (plainFor_of_name pnv1) hisR ?_
  intro p e s m args below meth c s₁ Bd hml0 hP hK
  obtain ⟨rfl, hZ, hh⟩ := hP
  have hx := Bd.exec
  have hby := Bd.bytes
  have hml : c.maxLocals = 6 := hml0
  have hown : s.vm.findClass "java/lang/String" = some m.cls := findClass_of_methodNamed Bd.named
  have hnm := (name_of_methodNamed Bd.named Bd.method).1
  have X0 : Stand p l e ({ frames := 2, cells := 1, slots := 5, locals := 35 } : Room) s m #[(.ref a0s), (.ref a1c), (.int 0), (.int 5), .null] below meth c s₁ [] 0 0 := Stand.of_body Bd
  have e0 : s₁.heap = h0 := by rw [← hh, Bd.state]; rfl
  have N0 := Fr.nil n0
  have pre0 : ∀ t, Steps p.tables e below (s₁.setTop (mkF m 0 #[.val (.ref a0s), .val (.ref a1c), .val (.int 0), .val (.int 5), .val .null, .unset] [])) t → Steps p.tables e below (s₁.setTop (entryFrame m #[(.ref a0s), (.ref a1c), (.int 0), (.int 5), .null] 6)) t := fun t k => castTop (ef_rmIv_5 m a0s a1c) k
  have GL' := GL
  obtain ⟨GCS, GCP⟩ := GL'
  obtain ⟨T1, X1, e1, st1⟩ := initO X0 hx hZ hown (Wd hw 19 rfl) (Wd hw 20 rfl) (Wd hw 21 rfl) e0 (g := (mkF m 1 #[.val (.ref a0s), .val (.ref a1c), .val (.int 0), .val (.int 5), .val .null, .unset] [(.ref a0s)])) rfl (by rw [hml]; rfl) rfl (hb hby d4_1) (by decide) (W := 0) (by show 2 * 0 + _ ≤ _; exact Nat.le_of_eq rfl) (by decide)
  obtain ⟨T2, X2, e2, st2⟩ := getS2 X1 hx hZ hown (host := "") (Or.inl (Wd hw 59 rfl)) Via.refl e1 (GCS.ext O0.2) (g := (mkF m 27 #[.val (.ref a0s), .val (.ref a1c), .val (.int 0), .val (.int 5), .val .null, .unset] [])) rfl (hb hby d4_27)
  obtain ⟨_, _, ⟨T3, L3, k3, n3⟩, -, X3, ⟨Lc3, hQ3, l3, y3, z3⟩, st3⟩ := Jvm.LawKit.callS X2 hx (y := MN_1) hown (mvT hZ (Wd hw 75 rfl)) (mvT hZ (Wd hw 76 rfl)) (mvT hZ (Wd hw 77 rfl)) (mvT hZ (Wd hw 78 rfl)) (by decide) (backOf (W := 0) (rmC1_5 l Z a0 hw [] cS (a1c) (k1) (c0) (c1) (c2) (c3) (c4) (h0) n0 O0 GL V_a1c hc0 hc1 hc2 hc3 hc4) hZ (Wd hw 78 rfl) (Wd hw 77 rfl) (by decide) (by decide)) (g := (mkF m 36 #[.val (.ref a0s), .val (.ref a1c), .val (.int 0), .val (.int 5), .val .null, .unset] [(.int 5), (.int 0), (.ref a1c)])) rfl (by rw [hml]; rfl) (argsL := [(.ref a1c), (.int 0), (.int 5)]) (rest := []) (lenOf pdv1 rfl) rfl (by show 2 * 0 + _ ≤ _; exact Nat.le_of_eq rfl) (hb hby d4_36) (fun _ _ => ⟨rfl, e2, (by decide : 0 + 1 ≤ _), (by decide : 0 + 5 ≤ _)⟩)
  dsimp only [Pt.U, Pt.locs, Pt.cells, Pt.slots] at X3 l3 y3 z3 st3 hQ3
  subst l3 y3 z3
  obtain ⟨b_3, kb_3, rfl, N3q, Kc3, P3_0, P3_1, P3_2⟩ := hQ3
  have K3 : Keep h0 T3.heap [a0s] := (Keep.refl h0 [a0s]).trans Kc3 all0
  have O3 := O0.keep Kc3 all0
  have g_b_3 : n0 ≤ b_3 := Nat.le_trans (own_sz O0) P3_0
  have sz_b_3 : h0.size ≤ b_3 := Nat.le_trans (Keep.refl h0 [a0s]).1 P3_0
  have N3 := Fr.app N0 N3q
  obtain ⟨_, _, ⟨T4, L4, k4, n4⟩, -, X4, ⟨Lc4, hQ4, l4, y4, z4⟩, st4⟩ := Jvm.LawKit.callS X3 hx (y := MN_2) hown (mvT hZ (Wd hw 82 rfl)) (mvT hZ (Wd hw 83 rfl)) (mvT hZ (Wd hw 77 rfl)) (mvT hZ (Wd hw 84 rfl)) (by decide) (backOf (W := 1) (rmCfa5_5 l Z a0 hw [] cS (b_3) (kb_3) ([(.int (c0.toInt8.toInt32)), (.int (c1.toInt8.toInt32)), (.int (c2.toInt8.toInt32)), (.int (c3.toInt8.toInt32)), (.int (c4.toInt8.toInt32))]) (T3.heap) n0 O3 GL P3_2) hZ (Wd hw 84 rfl) (Wd hw 77 rfl) (by decide) (by decide)) (g := (mkF m 45 #[.val (.ref a0s), .val (.ref a1c), .val (.int 0), .val (.int 5), .val .null, .val (.ref b_3)] [(.int 5), (.ref b_3), (.ref a0s)])) rfl (by rw [hml]; rfl) (argsL := [(.ref b_3), (.int 5)]) (rest := [(.ref a0s)]) (lenOf pdv2 rfl) rfl (by show 2 * 0 + _ ≤ _; exact Nat.le_of_eq rfl) (hb hby d4_45) (fun _ _ => ⟨rfl, rfl, (by decide : 1 + 0 ≤ _), (by decide : 5 + 0 ≤ _)⟩)
  dsimp only [Pt.U, Pt.locs, Pt.cells, Pt.slots] at X4 l4 y4 z4 st4 hQ4
  subst l4 y4 z4
  obtain ⟨rfl, N4q, e4⟩ := hQ4
  have N4 := Fr.app N3 N4q
  obtain ⟨T5, h5, X5, e5, W5, st5⟩ := putFN X4 hx hZ hown (Wd hw 29 rfl) Via.refl e4 (F_coder_a0s.keep Kc3 nin0) (E_a0s.keep Kc3) (Or.inr ⟨(Wd hw 25 rfl), rfl, hnm⟩) (Wd hw 10 rfl) (ty := .byte) (v' := (.int 0)) (by decide) rfl (by decide) (g := (mkF m 48 #[.val (.ref a0s), .val (.ref a1c), .val (.int 0), .val (.int 5), .val .null, .val (.ref b_3)] [(.int 0), (.ref a0s)])) rfl rfl (hb hby d4_48)
  have Fw5 := (F_coder_a0s.keep Kc3 nin0).same W5
  have K5 : Keep h0 h5 [a0s] := K3.wr W5 (Or.inl (List.mem_of_getElem? (i := 0) rfl))
  have O5 := O3.wr W5 g_a0s
  have N5 := Fr.snoc X5 N4 g_a0s
  obtain ⟨T6, h6, X6, e6, W6, st6⟩ := putF X5 hx hZ hown (host := "") (Or.inl (Wd hw 28 rfl)) Via.refl e5 ((F_value_a0s.keep Kc3 nin0).other W5 (Or.inr (slot_ne (a0 := a0) (Or.inr (Wd hw 24 rfl)) (Or.inr (Wd hw 25 rfl)) (by decide) (t := (.array .byte)) (t' := .byte) (by decide) (by decide)))) ((E_a0s.keep Kc3).wr W5) (Or.inr ⟨(Wd hw 24 rfl), rfl, hnm⟩) (Wd hw 10 rfl) (ty := (.array .byte)) (by decide) rfl rfl (g := (mkF m 54 #[.val (.ref a0s), .val (.ref a1c), .val (.int 0), .val (.int 5), .val .null, .val (.ref b_3)] [(.ref b_3), (.ref a0s)])) rfl rfl (hb hby d4_54)
  have Fw6 := ((F_value_a0s.keep Kc3 nin0).other W5 (Or.inr (slot_ne (a0 := a0) (Or.inr (Wd hw 24 rfl)) (Or.inr (Wd hw 25 rfl)) (by decide) (t := (.array .byte)) (t' := .byte) (by decide) (by decide)))).same W6
  have K6 : Keep h0 h6 [a0s] := K5.wr W6 (Or.inl (List.mem_of_getElem? (i := 0) rfl))
  have O6 := O5.wr W6 g_a0s
  have N6 := Fr.snoc X6 N5 g_a0s
  obtain ⟨fs, hr, hrun, hended, hW, hsame⟩ := X6.leave (v := none) (fun _ => rfl)
  refine ⟨_, _, pre0 _ ?_, hrun, hended, _, _, rfl, ?_, ⟨_, rfl⟩, hW, hsame.mono (by decide) (by decide)⟩
  · show Steps p.tables e below (s₁.setTop (mkF m 0 #[.val (.ref a0s), .val (.ref a1c), .val (.int 0), .val (.int 5), .val .null, .unset] [])) _
    refine XS.aloadN X0.here hx rfl (hb hby d4_0) rfl rfl ?_
    show Steps p.tables e below (s₁.setTop (mkF m 1 #[.val (.ref a0s), .val (.ref a1c), .val (.int 0), .val (.int 5), .val .null, .unset] [(.ref a0s)])) _
    refine st1 _ ?_
    show Steps p.tables e below (T1.setTop (mkF m 4 #[.val (.ref a0s), .val (.ref a1c), .val (.int 0), .val (.int 5), .val .null, .unset] [])) _
    refine XS.iloadN X1.here hx rfl (hb hby d4_4) rfl ?_
    refine XS.ifYes X1.here hx rfl (pc0 := 5) (pc' := 27) rfl (hb hby d4_5) rfl ((if0 _ _).trans (feq (by decide : ¬ ((5 : Int32) = (0 : Int32)))).2) (by decide) (by decide) ?_
    show Steps p.tables e below (T1.setTop (mkF m 27 #[.val (.ref a0s), .val (.ref a1c), .val (.int 0), .val (.int 5), .val .null, .unset] [])) _
    refine st2 _ ?_
    show Steps p.tables e below (T2.setTop (mkF m 30 #[.val (.ref a0s), .val (.ref a1c), .val (.int 0), .val (.int 5), .val .null, .unset] [(.int cS)])) _
    refine XS.ifNo X2.here hx rfl (hb hby d4_30) rfl ((if0 _ _).trans (feq GCP).1) ?_
    refine XS.aloadN X2.here hx rfl (hb hby d4_33) rfl rfl ?_
    refine XS.iloadN X2.here hx rfl (hb hby d4_34) rfl ?_
    refine XS.iloadN X2.here hx rfl (hb hby d4_35) rfl ?_
    show Steps p.tables e below (T2.setTop (mkF m 36 #[.val (.ref a0s), .val (.ref a1c), .val (.int 0), .val (.int 5), .val .null, .unset] [(.int 5), (.int 0), (.ref a1c)])) _
    refine st3 _ ?_
    show Steps p.tables e below (T3.setTop (mkF m 39 #[.val (.ref a0s), .val (.ref a1c), .val (.int 0), .val (.int 5), .val .null, .unset] [(.ref b_3)])) _
    refine XS.astore X3.here hx rfl (hb hby d4_39) rfl rfl (l' := #[.val (.ref a0s), .val (.ref a1c), .val (.int 0), .val (.int 5), .val .null, .val (.ref b_3)]) rfl ?_
    refine XS.aloadN X3.here hx rfl (hb hby d4_41) rfl rfl ?_
    refine XS.aload X3.here hx rfl (hb hby d4_42) rfl rfl ?_
    refine XS.iloadN X3.here hx rfl (hb hby d4_44) rfl ?_
    show Steps p.tables e below (T3.setTop (mkF m 45 #[.val (.ref a0s), .val (.ref a1c), .val (.int 0), .val (.int 5), .val .null, .val (.ref b_3)] [(.int 5), (.ref b_3), (.ref a0s)])) _
    refine st4 _ ?_
    show Steps p.tables e below (T4.setTop (mkF m 48 #[.val (.ref a0s), .val (.ref a1c), .val (.int 0), .val (.int 5), .val .null, .val (.ref b_3)] [(.int 0), (.ref a0s)])) _
    refine st5 _ ?_
    show Steps p.tables e below (T5.setTop (mkF m 51 #[.val (.ref a0s), .val (.ref a1c), .val (.int 0), .val (.int 5), .val .null, .val (.ref b_3)] [])) _
    refine XS.aloadN X5.here hx rfl (hb hby d4_51) rfl rfl ?_
    refine XS.aload X5.here hx rfl (hb hby d4_52) rfl rfl ?_
    show Steps p.tables e below (T5.setTop (mkF m 54 #[.val (.ref a0s), .val (.ref a1c), .val (.int 0), .val (.int 5), .val .null, .val (.ref b_3)] [(.ref b_3), (.ref a0s)])) _
    refine st6 _ ?_
    show Steps p.tables e below (T6.setTop (mkF m 57 #[.val (.ref a0s), .val (.ref a1c), .val (.int 0), .val (.int 5), .val .null, .val (.ref b_3)] [])) _
    exact X6.returnOut hx Bd.returns (hb hby d4_57) hr
  · show Q_rmIv_5 n0 Z cS a0s a1c k1 c0 c1 c2 c3 c4 h0 _ T6.heap _
    rw [e6]
    exact ⟨b_3, kb_3, rfl, N6, K6, sz_b_3, ((P3_1.wr W5).wr W6), (((E_a0s.keep Kc3).wr W5).wr W6), Fw6, (Fw5.other W6 (Or.inr (slot_ne (a0 := a0) (Or.inr (Wd hw 25 rfl)) (Or.inr (Wd hw 24 rfl)) (by decide) (t := .byte) (t' := (.array .byte)) (by decide) (by decide)))), ((P3_2.other W5 (Ne.symm (Nat.ne_of_lt (Nat.lt_of_lt_of_le E_a0s.lt P3_0)))).other W6 (Ne.symm (Nat.ne_of_lt (Nat.lt_of_lt_of_le E_a0s.lt P3_0))))⟩
theorem ef_rmIv_6 (m : MethodId) (a0s : Addr) (a1c : Addr) : entryFrame m #[(.ref a0s), (.ref a1c), (.int 0), (.int 6), .null] 6 = mkF m 0 #[.val (.ref a0s), .val (.ref a1c), .val (.int 0), .val (.int 6), .val .null, .unset] [] := by first | (simp [entryFrame, mkF, argsToLocals, Value.category]; done) | rfl
def Q_rmIv_6 (n0 : Nat) (Z : State) (cS : Int32) (a0s : Addr) (a1c : Addr) (k1 : ClassId) (c0 : Int32) (c1 : Int32) (c2 : Int32) (c3 : Int32) (c4 : Int32) (c5 : Int32) (h0 : Heap) (v : Option Value) (h : Heap) (L : List Loc) : Prop := ∃ b : Addr, ∃ kb : ClassId, v = none ∧ Fr n0 L ∧ Keep h0 h [a0s] ∧ (h0.size ≤ b) ∧ (Exa Z h b "[B") ∧ (Exa Z h a0s "java/lang/String") ∧ (Fld Z h a0s "java/lang/String" "value" "[B" (.ref b)) ∧ (Fld Z h a0s "java/lang/String" "coder" "B" (.int 0)) ∧ (Arv Z h b kb .byte (6 : Int32) [(.int (c0.toInt8.toInt32)), (.int (c1.toInt8.toInt32)), (.int (c2.toInt8.toInt32)), (.int (c3.toInt8.toInt32)), (.int (c4.toInt8.toInt32)), (.int (c5.toInt8.toInt32))] (.int 0))
set_option maxRecDepth 65536 in
set_option maxHeartbeats 40000000 in
theorem rmIv_6 (l : Launch) (Z : State) (a0 : Array Value) (hw : ∀ d ∈ tables_1, d.before a0 Z = true) (ws : List Jvm.Cond) (cS : Int32) (a0s : Addr) (a1c : Addr) (k1 : ClassId) (c0 : Int32) (c1 : Int32) (c2 : Int32) (c3 : Int32) (c4 : Int32) (c5 : Int32) (h0 : Heap) (n0 : Nat) (O0 : Old Z n0 h0) (GL : GF Z cS) (E_a0s : Exa Z h0 a0s "java/lang/String") (F_value_a0s : Fld Z h0 a0s "java/lang/String" "value" "[B" .null) (F_coder_a0s : Fld Z h0 a0s "java/lang/String" "coder" "B" (.int 0)) (g_a0s : n0 ≤ a0s) (V_a1c : Arv Z h0 a1c k1 .char (6 : Int32) [(.int c0), (.int c1), (.int c2), (.int c3), (.int c4), (.int c5)] (.int 0)) (hc0 : ¬ ((255 : Int32) < c0)) (hc1 : ¬ ((255 : Int32) < c1)) (hc2 : ¬ ((255 : Int32) < c2)) (hc3 : ¬ ((255 : Int32) < c3)) (hc4 : ¬ ((255 : Int32) < c4)) (hc5 : ¬ ((255 : Int32) < c5)) :
    MetFree l MN_3 (head1 (Jvm.Cond.code MN_3 jdk_42_method_149_code 6 none :: ws) ({ frames := 2, cells := 1, slots := 6, locals := 35 } : Room)) (fun a U => a = #[(.ref a0s), (.ref a1c), (.int 0), (.int 6), .null] ∧ Z.Warmed39 U.vm ∧ U.heap = h0) (fun _ _ _ _ _ => True) (fun _ U o U' => ∃ v L, o = .returned v ∧ Q_rmIv_6 n0 Z cS a0s a1c k1 c0 c1 c2 c3 c4 c5 h0 v U'.heap L ∧ FrameEnd U o U' L ({ frames := 2, cells := 1, slots := 6, locals := 35 } : Room).cells ({ frames := 2, cells := 1, slots := 6, locals := 35 } : Room).slots) := by
  refine MetFree.of_bodySF (plainFor_of_name pnv1) hisR ?_
  intro p e s m args below meth c s₁ Bd hml0 hP hK
  obtain ⟨rfl, hZ, hh⟩ := hP
  have hx := Bd.exec
  have hby := Bd.bytes
  have hml : c.maxLocals = 6 := hml0
  have hown : s.vm.findClass "java/lang/String" = some m.cls := findClass_of_methodNamed Bd.named
  have hnm := (name_of_methodNamed Bd.named Bd.method).1
  have X0 : Stand p l e ({ frames := 2, cells := 1, slots := 6, locals := 35 } : Room) s m #[(.ref a0s), (.ref a1c), (.int 0), (.int 6), .null] below meth c s₁ [] 0 0 := Stand.of_body Bd
  have e0 : s₁.heap = h0 := by rw [← hh, Bd.state]; rfl
  have N0 := Fr.nil n0
  have pre0 : ∀ t, Steps p.tables e below (s₁.setTop (mkF m 0 #[.val (.ref a0s), .val (.ref a1c), .val (.int 0), .val (.int 6), .val .null, .unset] [])) t → Steps p.tables e below (s₁.setTop (entryFrame m #[(.ref a0s), (.ref a1c), (.int 0), (.int 6), .null] 6)) t := fun t k => castTop (ef_rmIv_6 m a0s a1c) k
  have GL' := GL
  obtain ⟨GCS, GCP⟩ := GL'
  obtain ⟨T1, X1, e1, st1⟩ := initO X0 hx hZ hown (Wd hw 19 rfl) (Wd hw 20 rfl) (Wd hw 21 rfl) e0 (g := (mkF m 1 #[.val (.ref a0s), .val (.ref a1c), .val (.int 0), .val (.int 6), .val .null, .unset] [(.ref a0s)])) rfl (by rw [hml]; rfl) rfl (hb hby d4_1) (by decide) (W := 0) (by show 2 * 0 + _ ≤ _; exact Nat.le_of_eq rfl) (by decide)
  obtain ⟨T2, X2, e2, st2⟩ := getS2 X1 hx hZ hown (host := "") (Or.inl (Wd hw 59 rfl)) Via.refl e1 (GCS.ext O0.2) (g := (mkF m 27 #[.val (.ref a0s), .val (.ref a1c), .val (.int 0), .val (.int 6), .val .null, .unset] [])) rfl (hb hby d4_27)
  obtain ⟨_, _, ⟨T3, L3, k3, n3⟩, -, X3, ⟨Lc3, hQ3, l3, y3, z3⟩, st3⟩ := Jvm.LawKit.callS X2 hx (y := MN_1) hown (mvT hZ (Wd hw 75 rfl)) (mvT hZ (Wd hw 76 rfl)) (mvT hZ (Wd hw 77 rfl)) (mvT hZ (Wd hw 78 rfl)) (by decide) (backOf (W := 0) (rmC1_6 l Z a0 hw [] cS (a1c) (k1) (c0) (c1) (c2) (c3) (c4) (c5) (h0) n0 O0 GL V_a1c hc0 hc1 hc2 hc3 hc4 hc5) hZ (Wd hw 78 rfl) (Wd hw 77 rfl) (by decide) (by decide)) (g := (mkF m 36 #[.val (.ref a0s), .val (.ref a1c), .val (.int 0), .val (.int 6), .val .null, .unset] [(.int 6), (.int 0), (.ref a1c)])) rfl (by rw [hml]; rfl) (argsL := [(.ref a1c), (.int 0), (.int 6)]) (rest := []) (lenOf pdv1 rfl) rfl (by show 2 * 0 + _ ≤ _; exact Nat.le_of_eq rfl) (hb hby d4_36) (fun _ _ => ⟨rfl, e2, (by decide : 0 + 1 ≤ _), (by decide : 0 + 6 ≤ _)⟩)
  dsimp only [Pt.U, Pt.locs, Pt.cells, Pt.slots] at X3 l3 y3 z3 st3 hQ3
  subst l3 y3 z3
  obtain ⟨b_3, kb_3, rfl, N3q, Kc3, P3_0, P3_1, P3_2⟩ := hQ3
  have K3 : Keep h0 T3.heap [a0s] := (Keep.refl h0 [a0s]).trans Kc3 all0
  have O3 := O0.keep Kc3 all0
  have g_b_3 : n0 ≤ b_3 := Nat.le_trans (own_sz O0) P3_0
  have sz_b_3 : h0.size ≤ b_3 := Nat.le_trans (Keep.refl h0 [a0s]).1 P3_0
  have N3 := Fr.app N0 N3q
  obtain ⟨_, _, ⟨T4, L4, k4, n4⟩, -, X4, ⟨Lc4, hQ4, l4, y4, z4⟩, st4⟩ := Jvm.LawKit.callS X3 hx (y := MN_2) hown (mvT hZ (Wd hw 82 rfl)) (mvT hZ (Wd hw 83 rfl)) (mvT hZ (Wd hw 77 rfl)) (mvT hZ (Wd hw 84 rfl)) (by decide) (backOf (W := 1) (rmCfa6_6 l Z a0 hw [] cS (b_3) (kb_3) ([(.int (c0.toInt8.toInt32)), (.int (c1.toInt8.toInt32)), (.int (c2.toInt8.toInt32)), (.int (c3.toInt8.toInt32)), (.int (c4.toInt8.toInt32)), (.int (c5.toInt8.toInt32))]) (T3.heap) n0 O3 GL P3_2) hZ (Wd hw 84 rfl) (Wd hw 77 rfl) (by decide) (by decide)) (g := (mkF m 45 #[.val (.ref a0s), .val (.ref a1c), .val (.int 0), .val (.int 6), .val .null, .val (.ref b_3)] [(.int 6), (.ref b_3), (.ref a0s)])) rfl (by rw [hml]; rfl) (argsL := [(.ref b_3), (.int 6)]) (rest := [(.ref a0s)]) (lenOf pdv2 rfl) rfl (by show 2 * 0 + _ ≤ _; exact Nat.le_of_eq rfl) (hb hby d4_45) (fun _ _ => ⟨rfl, rfl, (by decide : 1 + 0 ≤ _), (by decide : 6 + 0 ≤ _)⟩)
  dsimp only [Pt.U, Pt.locs, Pt.cells, Pt.slots] at X4 l4 y4 z4 st4 hQ4
  subst l4 y4 z4
  obtain ⟨rfl, N4q, e4⟩ := hQ4
  have N4 := Fr.app N3 N4q
  obtain ⟨T5, h5, X5, e5, W5, st5⟩ := putFN X4 hx hZ hown (Wd hw 29 rfl) Via.refl e4 (F_coder_a0s.keep Kc3 nin0) (E_a0s.keep Kc3) (Or.inr ⟨(Wd hw 25 rfl), rfl, hnm⟩) (Wd hw 10 rfl) (ty := .byte) (v' := (.int 0)) (by decide) rfl (by decide) (g := (mkF m 48 #[.val (.ref a0s), .val (.ref a1c), .val (.int 0), .val (.int 6), .val .null, .val (.ref b_3)] [(.int 0), (.ref a0s)])) rfl rfl (hb hby d4_48)
  have Fw5 := (F_coder_a0s.keep Kc3 nin0).same W5
  have K5 : Keep h0 h5 [a0s] := K3.wr W5 (Or.inl (List.mem_of_getElem? (i := 0) rfl))
  have O5 := O3.wr W5 g_a0s
  have N5 := Fr.snoc X5 N4 g_a0s
  obtain ⟨T6, h6, X6, e6, W6, st6⟩ := putF X5 hx hZ hown (host := "") (Or.inl (Wd hw 28 rfl)) Via.refl e5 ((F_value_a0s.keep Kc3 nin0).other W5 (Or.inr (slot_ne (a0 := a0) (Or.inr (Wd hw 24 rfl)) (Or.inr (Wd hw 25 rfl)) (by decide) (t := (.array .byte)) (t' := .byte) (by decide) (by decide)))) ((E_a0s.keep Kc3).wr W5) (Or.inr ⟨(Wd hw 24 rfl), rfl, hnm⟩) (Wd hw 10 rfl) (ty := (.array .byte)) (by decide) rfl rfl (g := (mkF m 54 #[.val (.ref a0s), .val (.ref a1c), .val (.int 0), .val (.int 6), .val .null, .val (.ref b_3)] [(.ref b_3), (.ref a0s)])) rfl rfl (hb hby d4_54)
  have Fw6 := ((F_value_a0s.keep Kc3 nin0).other W5 (Or.inr (slot_ne (a0 := a0) (Or.inr (Wd hw 24 rfl)) (Or.inr (Wd hw 25 rfl)) (by decide) (t := (.array .byte)) (t' := .byte) (by decide) (by decide)))).same W6
  have K6 : Keep h0 h6 [a0s] := K5.wr W6 (Or.inl (List.mem_of_getElem? (i := 0) rfl))
  have O6 := O5.wr W6 g_a0s
  have N6 := Fr.snoc X6 N5 g_a0s
  obtain ⟨fs, hr, hrun, hended, hW, hsame⟩ := X6.leave (v := none) (fun _ => rfl)
  refine ⟨_, _, pre0 _ ?_, hrun, hended, _, _, rfl, ?_, ⟨_, rfl⟩, hW, hsame.mono (by decide) (by decide)⟩
  · show Steps p.tables e below (s₁.setTop (mkF m 0 #[.val (.ref a0s), .val (.ref a1c), .val (.int 0), .val (.int 6), .val .null, .unset] [])) _
    refine XS.aloadN X0.here hx rfl (hb hby d4_0) rfl rfl ?_
    show Steps p.tables e below (s₁.setTop (mkF m 1 #[.val (.ref a0s), .val (.ref a1c), .val (.int 0), .val (.int 6), .val .null, .unset] [(.ref a0s)])) _
    refine st1 _ ?_
    show Steps p.tables e below (T1.setTop (mkF m 4 #[.val (.ref a0s), .val (.ref a1c), .val (.int 0), .val (.int 6), .val .null, .unset] [])) _
    refine XS.iloadN X1.here hx rfl (hb hby d4_4) rfl ?_
    refine XS.ifYes X1.here hx rfl (pc0 := 5) (pc' := 27) rfl (hb hby d4_5) rfl ((if0 _ _).trans (feq (by decide : ¬ ((6 : Int32) = (0 : Int32)))).2) (by decide) (by decide) ?_
    show Steps p.tables e below (T1.setTop (mkF m 27 #[.val (.ref a0s), .val (.ref a1c), .val (.int 0), .val (.int 6), .val .null, .unset] [])) _
    refine st2 _ ?_
    show Steps p.tables e below (T2.setTop (mkF m 30 #[.val (.ref a0s), .val (.ref a1c), .val (.int 0), .val (.int 6), .val .null, .unset] [(.int cS)])) _
    refine XS.ifNo X2.here hx rfl (hb hby d4_30) rfl ((if0 _ _).trans (feq GCP).1) ?_
    refine XS.aloadN X2.here hx rfl (hb hby d4_33) rfl rfl ?_
    refine XS.iloadN X2.here hx rfl (hb hby d4_34) rfl ?_
    refine XS.iloadN X2.here hx rfl (hb hby d4_35) rfl ?_
    show Steps p.tables e below (T2.setTop (mkF m 36 #[.val (.ref a0s), .val (.ref a1c), .val (.int 0), .val (.int 6), .val .null, .unset] [(.int 6), (.int 0), (.ref a1c)])) _
    refine st3 _ ?_
    show Steps p.tables e below (T3.setTop (mkF m 39 #[.val (.ref a0s), .val (.ref a1c), .val (.int 0), .val (.int 6), .val .null, .unset] [(.ref b_3)])) _
    refine XS.astore X3.here hx rfl (hb hby d4_39) rfl rfl (l' := #[.val (.ref a0s), .val (.ref a1c), .val (.int 0), .val (.int 6), .val .null, .val (.ref b_3)]) rfl ?_
    refine XS.aloadN X3.here hx rfl (hb hby d4_41) rfl rfl ?_
    refine XS.aload X3.here hx rfl (hb hby d4_42) rfl rfl ?_
    refine XS.iloadN X3.here hx rfl (hb hby d4_44) rfl ?_
    show Steps p.tables e below (T3.setTop (mkF m 45 #[.val (.ref a0s), .val (.ref a1c), .val (.int 0), .val (.int 6), .val .null, .val (.ref b_3)] [(.int 6), (.ref b_3), (.ref a0s)])) _
    refine st4 _ ?_
    show Steps p.tables e below (T4.setTop (mkF m 48 #[.val (.ref a0s), .val (.ref a1c), .val (.int 0), .val (.int 6), .val .null, .val (.ref b_3)] [(.int 0), (.ref a0s)])) _
    refine st5 _ ?_
    show Steps p.tables e below (T5.setTop (mkF m 51 #[.val (.ref a0s), .val (.ref a1c), .val (.int 0), .val (.int 6), .val .null, .val (.ref b_3)] [])) _
    refine XS.aloadN X5.here hx rfl (hb hby d4_51) rfl rfl ?_
    refine XS.aload X5.here hx rfl (hb hby d4_52) rfl rfl ?_
    show Steps p.tables e below (T5.setTop (mkF m 54 #[.val (.ref a0s), .val (.ref a1c), .val (.int 0), .val (.int 6), .val .null, .val (.ref b_3)] [(.ref b_3), (.ref a0s)])) _
    refine st6 _ ?_
    show Steps p.tables e below (T6.setTop (mkF m 57 #[.val (.ref a0s), .val (.ref a1c), .val (.int 0), .val (.int 6), .val .null, .val (.ref b_3)] [])) _
    exact X6.returnOut hx Bd.returns (hb hby d4_57) hr
  · show Q_rmIv_6 n0 Z cS a0s a1c k1 c0 c1 c2 c3 c4 c5 h0 _ T6.heap _
    rw [e6]
    exact ⟨b_3, kb_3, rfl, N6, K6, sz_b_3, ((P3_1.wr W5).wr W6), (((E_a0s.keep Kc3).wr W5).wr W6), Fw6, (Fw5.other W6 (Or.inr (slot_ne (a0 := a0) (Or.inr (Wd hw 25 rfl)) (Or.inr (Wd hw 24 rfl)) (by decide) (t := .byte) (t' := (.array .byte)) (by decide) (by decide)))), ((P3_2.other W5 (Ne.symm (Nat.ne_of_lt (Nat.lt_of_lt_of_le E_a0s.lt P3_0)))).other W6 (Ne.symm (Nat.ne_of_lt (Nat.lt_of_lt_of_le E_a0s.lt P3_0))))⟩
theorem d3_0 : decode jdk_42_method_3_code 0 = .ok (.aload_n 0, 1) := by decide +kernel
theorem d3_1 : decode jdk_42_method_3_code 1 = .ok (.aload_n 1, 1) := by decide +kernel
theorem d3_2 : decode jdk_42_method_3_code 2 = .ok (.iconst 0, 1) := by decide +kernel
theorem d3_3 : decode jdk_42_method_3_code 3 = .ok (.aload_n 1, 1) := by decide +kernel
theorem d3_4 : decode jdk_42_method_3_code 4 = .ok (.arraylength, 1) := by decide +kernel
theorem d3_5 : decode jdk_42_method_3_code 5 = .ok (.aconst_null, 1) := by decide +kernel
theorem d3_6 : decode jdk_42_method_3_code 6 = .ok (.invokespecial 27, 3) := by decide +kernel
theorem pdv3 : parseMethodDescriptor "([CIILjava/lang/Void;)V" = some ⟨[(.array .char), .int, .int, (.object "java/lang/Void")], none⟩ := by decide +kernel
theorem d3_9 : decode jdk_42_method_3_code 9 = .ok (.return_, 1) := by decide +kernel
abbrev MN_4 : MethodName := ⟨"java/lang/String", "<init>", "([C)V"⟩
theorem ef_rmIc_0 (m : MethodId) (a0s : Addr) (a1c : Addr) : entryFrame m #[(.ref a0s), (.ref a1c)] 2 = mkF m 0 #[.val (.ref a0s), .val (.ref a1c)] [] := by first | (simp [entryFrame, mkF, argsToLocals, Value.category]; done) | rfl
def Q_rmIc_0 (n0 : Nat) (Z : State) (cS : Int32) (a0s : Addr) (a1c : Addr) (k1 : ClassId) (h0 : Heap) (v : Option Value) (h : Heap) (L : List Loc) : Prop := ∃ b : Addr, ∃ kb : ClassId, v = none ∧ Fr n0 L ∧ Keep h0 h [a0s] ∧ (Exa Z h a0s "java/lang/String") ∧ (Fld Z h a0s "java/lang/String" "value" "[B" (.ref b)) ∧ (Fld Z h a0s "java/lang/String" "coder" "B" (.int 0)) ∧ (Arv Z h b kb .byte (0 : Int32) [] (.int 0))
set_option maxRecDepth 65536 in
set_option maxHeartbeats 40000000 in
theorem rmIc_0 (l : Launch) (Z : State) (a0 : Array Value) (hw : ∀ d ∈ tables_1, d.before a0 Z = true) (ws : List Jvm.Cond) (cS : Int32) (a0s : Addr) (a1c : Addr) (k1 : ClassId) (h0 : Heap) (n0 : Nat) (O0 : Old Z n0 h0) (GL : GF Z cS) (E_a0s : Exa Z h0 a0s "java/lang/String") (F_value_a0s : Fld Z h0 a0s "java/lang/String" "value" "[B" .null) (F_coder_a0s : Fld Z h0 a0s "java/lang/String" "coder" "B" (.int 0)) (g_a0s : n0 ≤ a0s) (V_a1c : Arv Z h0 a1c k1 .char (0 : Int32) [] (.int 0)) :
    MetFree l MN_4 (head1 (Jvm.Cond.code MN_4 jdk_42_method_3_code 2 none :: ws) ({ frames := 2, cells := 4, slots := 8, locals := 29 } : Room)) (fun a U => a = #[(.ref a0s), (.ref a1c)] ∧ Z.Warmed39 U.vm ∧ U.heap = h0 ∧ CHv Z EL1 U.vm h0) (fun _ _ _ _ _ => True) (fun _ U o U' => ∃ v L, o = .returned v ∧ Q_rmIc_0 n0 Z cS a0s a1c k1 h0 v U'.heap L ∧ CHr Z EL1 U.vm U.heap U'.vm U'.heap ∧ ReturnedEndW U o U' L ({ frames := 2, cells := 4, slots := 8, locals := 29 } : Room).cells ({ frames := 2, cells := 4, slots := 8, locals := 29 } : Room).slots) := by
  refine MetFree.of_bodySF (plainFor_of_name pnv1) hisR ?_
  intro p e s m args below meth c s₁ Bd hml0 hP hK
  obtain ⟨rfl, hZ, hh, H0⟩ := hP
  have hx := Bd.exec
  have hby := Bd.bytes
  have hml : c.maxLocals = 2 := hml0
  have hown : s.vm.findClass "java/lang/String" = some m.cls := findClass_of_methodNamed Bd.named
  have hnm := (name_of_methodNamed Bd.named Bd.method).1
  have X0 : Stand p l e ({ frames := 2, cells := 4, slots := 8, locals := 29 } : Room) s m #[(.ref a0s), (.ref a1c)] below meth c s₁ [] 0 0 := Stand.of_body Bd
  have e0 : s₁.heap = h0 := by rw [← hh, Bd.state]; rfl
  have N0 := Fr.nil n0
  have pre0 : ∀ t, Steps p.tables e below (s₁.setTop (mkF m 0 #[.val (.ref a0s), .val (.ref a1c)] [])) t → Steps p.tables e below (s₁.setTop (entryFrame m #[(.ref a0s), (.ref a1c)] 2)) t := fun t k => castTop (ef_rmIc_0 m a0s a1c) k
  have X0w : Stand p l e ({ frames := 2, cells := 4, slots := 8, locals := 29 } : Room) (s.setVm s.vm) m #[(.ref a0s), (.ref a1c)] below meth c s₁ [] 0 0 := X0
  have R0 : CHr Z EL1 s.vm h0 s.vm h0 := CHr.refl H0
  have hS0 : s.Since s.vm h0.size := (State.WarmedH.refl s).since _
  have GL' := GL
  obtain ⟨GCS, GCP⟩ := GL'
  obtain ⟨cl1, Ar1, -, S1, N1_, -, -⟩ := id (V_a1c)
  obtain ⟨_, _, ⟨T2, L2, k2, n2⟩, -, X2', hS2', hg2, ⟨Lc2, hQ2, l2, y2, z2, Rs2⟩, st2⟩ := X0w.specialBackS hx (y := MN_3) rfl hown (mvT hZ (Wd hw 15 rfl)) (mvT hZ (Wd hw 16 rfl)) (mvT hZ (Wd hw 18 rfl)) (by decide) (backOfSH (W := 0) (rmIv_0 l Z a0 hw [] cS (a0s) (a1c) (h0) n0 O0 GL E_a0s F_value_a0s F_coder_a0s g_a0s) hZ (Wd hw 18 rfl) (Wd hw 11 rfl) (by decide) (by decide) (own_EW hw) H0) (g := (mkF m 6 #[.val (.ref a0s), .val (.ref a1c)] [.null, (.int 0), (.int 0), (.ref a1c), (.ref a0s)])) rfl (by rw [hml]; rfl) (Steps.refl _) (a := a0s) (argsL := [(.ref a1c), (.int 0), (.int 0), .null]) (rest := []) (lenOf pdv3 rfl) rfl (by show 2 * 0 + _ ≤ _; exact Nat.le_of_eq rfl) (hb hby d3_6) (fun _ _ => ⟨rfl, e0, (by decide : 0 + 4 ≤ _), (by decide : 0 + 8 ≤ _)⟩)
  dsimp only [Pt.U, Pt.locs, Pt.cells, Pt.slots] at X2' l2 y2 z2 st2 hQ2 hS2' hg2 Rs2
  subst l2 y2 z2
  obtain ⟨X2, hS2, hZ2, hown2⟩ := rebS hS0 (by rw [e0]; exact (Nat.le_refl _)) X2' hS2' hg2 hZ hown
  obtain ⟨b_2, kb_2, rfl, N2q, Kc2, P2_0, P2_1, P2_2, P2_3⟩ := hQ2
  have K2 : Keep h0 T2.heap [a0s] := (Keep.refl h0 [a0s]).trans Kc2 (allS (Or.inl (List.mem_of_getElem? (i := 0) rfl)) all0)
  have O2 := O0.keep Kc2 (allS g_a0s all0)
  have H_3 := Rs2.1
  have R_3 := R0.trans Rs2
  have N2 := Fr.app N0 N2q
  obtain ⟨fs, hr, hrun, hended, hRW⟩ := X2.leaveW hS2 (Nat.le_refl _) (v := none) (fun _ => rfl)
  have hCR : CHr Z EL1 s.vm s.heap T2.vm T2.heap := by
    rw [hh]
    exact R_3.trans (CHv.at X2 hZ2 (own_EW hw) H_3)
  refine ⟨_, _, pre0 _ ?_, hrun, hended, _, _, rfl, ?_, hCR, hRW.1, hRW.2.1, hRW.2.2.1, hRW.2.2.2.mono (by decide) (by decide)⟩
  · show Steps p.tables e below (s₁.setTop (mkF m 0 #[.val (.ref a0s), .val (.ref a1c)] [])) _
    refine XS.aloadN X0w.here hx rfl (hb hby d3_0) rfl rfl ?_
    refine XS.aloadN X0w.here hx rfl (hb hby d3_1) rfl rfl ?_
    refine XS.iconst X0w.here hx rfl (hb hby d3_2) ?_
    refine XS.aloadN X0w.here hx rfl (hb hby d3_3) rfl rfl ?_
    show Steps p.tables e below (s₁.setTop (mkF m 4 #[.val (.ref a0s), .val (.ref a1c)] [(.ref a1c), (.int 0), (.ref a1c), (.ref a0s)])) _
    refine X0w.arraylength hx (by rw [e0]; exact Ar1.1) (State.isArrayOf_alike hZ.alike Ar1.2.1) (g := (mkF m 4 #[.val (.ref a0s), .val (.ref a1c)] [(.ref a1c), (.int 0), (.ref a1c), (.ref a0s)])) rfl rfl (hb hby d3_4) _ ?_
    rw [len_of S1 N1_]
    show Steps p.tables e below (s₁.setTop (mkF m 5 #[.val (.ref a0s), .val (.ref a1c)] [(.int 0), (.int 0), (.ref a1c), (.ref a0s)])) _
    refine XS.aconstNull X0w.here hx rfl (hb hby d3_5) ?_
    show Steps p.tables e below (s₁.setTop (mkF m 6 #[.val (.ref a0s), .val (.ref a1c)] [.null, (.int 0), (.int 0), (.ref a1c), (.ref a0s)])) _
    refine st2.trans ?_
    show Steps p.tables e below (T2.setTop (mkF m 9 #[.val (.ref a0s), .val (.ref a1c)] [])) _
    exact X2.returnOut hx Bd.returns (hb hby d3_9) hr
  · show Q_rmIc_0 n0 Z cS a0s a1c k1 h0 _ T2.heap _
    exact ⟨b_2, kb_2, rfl, N2, K2, P2_0, P2_1, P2_2, P2_3⟩
def Q_rmIc_1 (n0 : Nat) (Z : State) (cS : Int32) (a0s : Addr) (a1c : Addr) (k1 : ClassId) (c0 : Int32) (h0 : Heap) (v : Option Value) (h : Heap) (L : List Loc) : Prop := ∃ b : Addr, ∃ kb : ClassId, v = none ∧ Fr n0 L ∧ Keep h0 h [a0s] ∧ (h0.size ≤ b) ∧ (Exa Z h b "[B") ∧ (Exa Z h a0s "java/lang/String") ∧ (Fld Z h a0s "java/lang/String" "value" "[B" (.ref b)) ∧ (Fld Z h a0s "java/lang/String" "coder" "B" (.int 0)) ∧ (Arv Z h b kb .byte (1 : Int32) [(.int (c0.toInt8.toInt32))] (.int 0))
set_option maxRecDepth 65536 in
set_option maxHeartbeats 40000000 in
theorem rmIc_1 (l : Launch) (Z : State) (a0 : Array Value) (hw : ∀ d ∈ tables_1, d.before a0 Z = true) (ws : List Jvm.Cond) (cS : Int32) (a0s : Addr) (a1c : Addr) (k1 : ClassId) (c0 : Int32) (h0 : Heap) (n0 : Nat) (O0 : Old Z n0 h0) (GL : GF Z cS) (E_a0s : Exa Z h0 a0s "java/lang/String") (F_value_a0s : Fld Z h0 a0s "java/lang/String" "value" "[B" .null) (F_coder_a0s : Fld Z h0 a0s "java/lang/String" "coder" "B" (.int 0)) (g_a0s : n0 ≤ a0s) (V_a1c : Arv Z h0 a1c k1 .char (1 : Int32) [(.int c0)] (.int 0)) (hc0 : ¬ ((255 : Int32) < c0)) :
    MetFree l MN_4 (head1 (Jvm.Cond.code MN_4 jdk_42_method_3_code 2 none :: ws) ({ frames := 3, cells := 1, slots := 1, locals := 52 } : Room)) (fun a U => a = #[(.ref a0s), (.ref a1c)] ∧ Z.Warmed39 U.vm ∧ U.heap = h0) (fun _ _ _ _ _ => True) (fun _ U o U' => ∃ v L, o = .returned v ∧ Q_rmIc_1 n0 Z cS a0s a1c k1 c0 h0 v U'.heap L ∧ FrameEnd U o U' L ({ frames := 3, cells := 1, slots := 1, locals := 52 } : Room).cells ({ frames := 3, cells := 1, slots := 1, locals := 52 } : Room).slots) := by
  refine MetFree.of_bodySF (plainFor_of_name pnv1) hisR ?_
  intro p e s m args below meth c s₁ Bd hml0 hP hK
  obtain ⟨rfl, hZ, hh⟩ := hP
  have hx := Bd.exec
  have hby := Bd.bytes
  have hml : c.maxLocals = 2 := hml0
  have hown : s.vm.findClass "java/lang/String" = some m.cls := findClass_of_methodNamed Bd.named
  have hnm := (name_of_methodNamed Bd.named Bd.method).1
  have X0 : Stand p l e ({ frames := 3, cells := 1, slots := 1, locals := 52 } : Room) s m #[(.ref a0s), (.ref a1c)] below meth c s₁ [] 0 0 := Stand.of_body Bd
  have e0 : s₁.heap = h0 := by rw [← hh, Bd.state]; rfl
  have N0 := Fr.nil n0
  have pre0 : ∀ t, Steps p.tables e below (s₁.setTop (mkF m 0 #[.val (.ref a0s), .val (.ref a1c)] [])) t → Steps p.tables e below (s₁.setTop (entryFrame m #[(.ref a0s), (.ref a1c)] 2)) t := fun t k => castTop (ef_rmIc_0 m a0s a1c) k
  have GL' := GL
  obtain ⟨GCS, GCP⟩ := GL'
  obtain ⟨cl1, Ar1, -, S1, N1_, -, -⟩ := id (V_a1c)
  obtain ⟨_, _, ⟨T2, L2, k2, n2⟩, -, X2, ⟨Lc2, hQ2, l2, y2, z2⟩, st2⟩ := X0.specialBack hx (y := MN_3) rfl hown (mvT hZ (Wd hw 15 rfl)) (mvT hZ (Wd hw 16 rfl)) (mvT hZ (Wd hw 18 rfl)) (by decide) (backOf (W := 0) (rmIv_1 l Z a0 hw [] cS (a0s) (a1c) (k1) (c0) (h0) n0 O0 GL E_a0s F_value_a0s F_coder_a0s g_a0s V_a1c hc0) hZ (Wd hw 18 rfl) (Wd hw 11 rfl) (by decide) (by decide)) (g := (mkF m 6 #[.val (.ref a0s), .val (.ref a1c)] [.null, (.int 1), (.int 0), (.ref a1c), (.ref a0s)])) rfl (by rw [hml]; rfl) (Steps.refl _) (a := a0s) (argsL := [(.ref a1c), (.int 0), (.int 1), .null]) (rest := []) (lenOf pdv3 rfl) rfl (by show 2 * 0 + _ ≤ _; exact Nat.le_of_eq rfl) (hb hby d3_6) (fun _ _ => ⟨rfl, e0, (by decide : 0 + 1 ≤ _), (by decide : 0 + 1 ≤ _)⟩)
  dsimp only [Pt.U, Pt.locs, Pt.cells, Pt.slots] at X2 l2 y2 z2 st2 hQ2
  subst l2 y2 z2
  obtain ⟨b_2, kb_2, rfl, N2q, Kc2, P2_0, P2_1, P2_2, P2_3, P2_4, P2_5⟩ := hQ2
  have K2 : Keep h0 T2.heap [a0s] := (Keep.refl h0 [a0s]).trans Kc2 (allS (Or.inl (List.mem_of_getElem? (i := 0) rfl)) all0)
  have O2 := O0.keep Kc2 (allS g_a0s all0)
  have g_b_2 : n0 ≤ b_2 := Nat.le_trans (own_sz O0) P2_0
  have sz_b_2 : h0.size ≤ b_2 := Nat.le_trans (Keep.refl h0 [a0s]).1 P2_0
  have N2 := Fr.app N0 N2q
  obtain ⟨fs, hr, hrun, hended, hW, hsame⟩ := X2.leave (v := none) (fun _ => rfl)
  refine ⟨_, _, pre0 _ ?_, hrun, hended, _, _, rfl, ?_, ⟨_, rfl⟩, hW, hsame.mono (by decide) (by decide)⟩
  · show Steps p.tables e below (s₁.setTop (mkF m 0 #[.val (.ref a0s), .val (.ref a1c)] [])) _
    refine XS.aloadN X0.here hx rfl (hb hby d3_0) rfl rfl ?_
    refine XS.aloadN X0.here hx rfl (hb hby d3_1) rfl rfl ?_
    refine XS.iconst X0.here hx rfl (hb hby d3_2) ?_
    refine XS.aloadN X0.here hx rfl (hb hby d3_3) rfl rfl ?_
    show Steps p.tables e below (s₁.setTop (mkF m 4 #[.val (.ref a0s), .val (.ref a1c)] [(.ref a1c), (.int 0), (.ref a1c), (.ref a0s)])) _
    refine X0.arraylength hx (by rw [e0]; exact Ar1.1) (State.isArrayOf_alike hZ.alike Ar1.2.1) (g := (mkF m 4 #[.val (.ref a0s), .val (.ref a1c)] [(.ref a1c), (.int 0), (.ref a1c), (.ref a0s)])) rfl rfl (hb hby d3_4) _ ?_
    rw [len_of S1 N1_]
    show Steps p.tables e below (s₁.setTop (mkF m 5 #[.val (.ref a0s), .val (.ref a1c)] [(.int 1), (.int 0), (.ref a1c), (.ref a0s)])) _
    refine XS.aconstNull X0.here hx rfl (hb hby d3_5) ?_
    show Steps p.tables e below (s₁.setTop (mkF m 6 #[.val (.ref a0s), .val (.ref a1c)] [.null, (.int 1), (.int 0), (.ref a1c), (.ref a0s)])) _
    refine st2.trans ?_
    show Steps p.tables e below (T2.setTop (mkF m 9 #[.val (.ref a0s), .val (.ref a1c)] [])) _
    exact X2.returnOut hx Bd.returns (hb hby d3_9) hr
  · show Q_rmIc_1 n0 Z cS a0s a1c k1 c0 h0 _ T2.heap _
    exact ⟨b_2, kb_2, rfl, N2, K2, sz_b_2, P2_1, P2_2, P2_3, P2_4, P2_5⟩
def Q_rmIc_2 (n0 : Nat) (Z : State) (cS : Int32) (a0s : Addr) (a1c : Addr) (k1 : ClassId) (c0 : Int32) (c1 : Int32) (h0 : Heap) (v : Option Value) (h : Heap) (L : List Loc) : Prop := ∃ b : Addr, ∃ kb : ClassId, v = none ∧ Fr n0 L ∧ Keep h0 h [a0s] ∧ (h0.size ≤ b) ∧ (Exa Z h b "[B") ∧ (Exa Z h a0s "java/lang/String") ∧ (Fld Z h a0s "java/lang/String" "value" "[B" (.ref b)) ∧ (Fld Z h a0s "java/lang/String" "coder" "B" (.int 0)) ∧ (Arv Z h b kb .byte (2 : Int32) [(.int (c0.toInt8.toInt32)), (.int (c1.toInt8.toInt32))] (.int 0))
set_option maxRecDepth 65536 in
set_option maxHeartbeats 40000000 in
theorem rmIc_2 (l : Launch) (Z : State) (a0 : Array Value) (hw : ∀ d ∈ tables_1, d.before a0 Z = true) (ws : List Jvm.Cond) (cS : Int32) (a0s : Addr) (a1c : Addr) (k1 : ClassId) (c0 : Int32) (c1 : Int32) (h0 : Heap) (n0 : Nat) (O0 : Old Z n0 h0) (GL : GF Z cS) (E_a0s : Exa Z h0 a0s "java/lang/String") (F_value_a0s : Fld Z h0 a0s "java/lang/String" "value" "[B" .null) (F_coder_a0s : Fld Z h0 a0s "java/lang/String" "coder" "B" (.int 0)) (g_a0s : n0 ≤ a0s) (V_a1c : Arv Z h0 a1c k1 .char (2 : Int32) [(.int c0), (.int c1)] (.int 0)) (hc0 : ¬ ((255 : Int32) < c0)) (hc1 : ¬ ((255 : Int32) < c1)) :
    MetFree l MN_4 (head1 (Jvm.Cond.code MN_4 jdk_42_method_3_code 2 none :: ws) ({ frames := 3, cells := 1, slots := 2, locals := 52 } : Room)) (fun a U => a = #[(.ref a0s), (.ref a1c)] ∧ Z.Warmed39 U.vm ∧ U.heap = h0) (fun _ _ _ _ _ => True) (fun _ U o U' => ∃ v L, o = .returned v ∧ Q_rmIc_2 n0 Z cS a0s a1c k1 c0 c1 h0 v U'.heap L ∧ FrameEnd U o U' L ({ frames := 3, cells := 1, slots := 2, locals := 52 } : Room).cells ({ frames := 3, cells := 1, slots := 2, locals := 52 } : Room).slots) := by
  refine MetFree.of_bodySF (plainFor_of_name pnv1) hisR ?_
  intro p e s m args below meth c s₁ Bd hml0 hP hK
  obtain ⟨rfl, hZ, hh⟩ := hP
  have hx := Bd.exec
  have hby := Bd.bytes
  have hml : c.maxLocals = 2 := hml0
  have hown : s.vm.findClass "java/lang/String" = some m.cls := findClass_of_methodNamed Bd.named
  have hnm := (name_of_methodNamed Bd.named Bd.method).1
  have X0 : Stand p l e ({ frames := 3, cells := 1, slots := 2, locals := 52 } : Room) s m #[(.ref a0s), (.ref a1c)] below meth c s₁ [] 0 0 := Stand.of_body Bd
  have e0 : s₁.heap = h0 := by rw [← hh, Bd.state]; rfl
  have N0 := Fr.nil n0
  have pre0 : ∀ t, Steps p.tables e below (s₁.setTop (mkF m 0 #[.val (.ref a0s), .val (.ref a1c)] [])) t → Steps p.tables e below (s₁.setTop (entryFrame m #[(.ref a0s), (.ref a1c)] 2)) t := fun t k => castTop (ef_rmIc_0 m a0s a1c) k
  have GL' := GL
  obtain ⟨GCS, GCP⟩ := GL'
  obtain ⟨cl1, Ar1, -, S1, N1_, -, -⟩ := id (V_a1c)
  obtain ⟨_, _, ⟨T2, L2, k2, n2⟩, -, X2, ⟨Lc2, hQ2, l2, y2, z2⟩, st2⟩ := X0.specialBack hx (y := MN_3) rfl hown (mvT hZ (Wd hw 15 rfl)) (mvT hZ (Wd hw 16 rfl)) (mvT hZ (Wd hw 18 rfl)) (by decide) (backOf (W := 0) (rmIv_2 l Z a0 hw [] cS (a0s) (a1c) (k1) (c0) (c1) (h0) n0 O0 GL E_a0s F_value_a0s F_coder_a0s g_a0s V_a1c hc0 hc1) hZ (Wd hw 18 rfl) (Wd hw 11 rfl) (by decide) (by decide)) (g := (mkF m 6 #[.val (.ref a0s), .val (.ref a1c)] [.null, (.int 2), (.int 0), (.ref a1c), (.ref a0s)])) rfl (by rw [hml]; rfl) (Steps.refl _) (a := a0s) (argsL := [(.ref a1c), (.int 0), (.int 2), .null]) (rest := []) (lenOf pdv3 rfl) rfl (by show 2 * 0 + _ ≤ _; exact Nat.le_of_eq rfl) (hb hby d3_6) (fun _ _ => ⟨rfl, e0, (by decide : 0 + 1 ≤ _), (by decide : 0 + 2 ≤ _)⟩)
  dsimp only [Pt.U, Pt.locs, Pt.cells, Pt.slots] at X2 l2 y2 z2 st2 hQ2
  subst l2 y2 z2
  obtain ⟨b_2, kb_2, rfl, N2q, Kc2, P2_0, P2_1, P2_2, P2_3, P2_4, P2_5⟩ := hQ2
  have K2 : Keep h0 T2.heap [a0s] := (Keep.refl h0 [a0s]).trans Kc2 (allS (Or.inl (List.mem_of_getElem? (i := 0) rfl)) all0)
  have O2 := O0.keep Kc2 (allS g_a0s all0)
  have g_b_2 : n0 ≤ b_2 := Nat.le_trans (own_sz O0) P2_0
  have sz_b_2 : h0.size ≤ b_2 := Nat.le_trans (Keep.refl h0 [a0s]).1 P2_0
  have N2 := Fr.app N0 N2q
  obtain ⟨fs, hr, hrun, hended, hW, hsame⟩ := X2.leave (v := none) (fun _ => rfl)
  refine ⟨_, _, pre0 _ ?_, hrun, hended, _, _, rfl, ?_, ⟨_, rfl⟩, hW, hsame.mono (by decide) (by decide)⟩
  · show Steps p.tables e below (s₁.setTop (mkF m 0 #[.val (.ref a0s), .val (.ref a1c)] [])) _
    refine XS.aloadN X0.here hx rfl (hb hby d3_0) rfl rfl ?_
    refine XS.aloadN X0.here hx rfl (hb hby d3_1) rfl rfl ?_
    refine XS.iconst X0.here hx rfl (hb hby d3_2) ?_
    refine XS.aloadN X0.here hx rfl (hb hby d3_3) rfl rfl ?_
    show Steps p.tables e below (s₁.setTop (mkF m 4 #[.val (.ref a0s), .val (.ref a1c)] [(.ref a1c), (.int 0), (.ref a1c), (.ref a0s)])) _
    refine X0.arraylength hx (by rw [e0]; exact Ar1.1) (State.isArrayOf_alike hZ.alike Ar1.2.1) (g := (mkF m 4 #[.val (.ref a0s), .val (.ref a1c)] [(.ref a1c), (.int 0), (.ref a1c), (.ref a0s)])) rfl rfl (hb hby d3_4) _ ?_
    rw [len_of S1 N1_]
    show Steps p.tables e below (s₁.setTop (mkF m 5 #[.val (.ref a0s), .val (.ref a1c)] [(.int 2), (.int 0), (.ref a1c), (.ref a0s)])) _
    refine XS.aconstNull X0.here hx rfl (hb hby d3_5) ?_
    show Steps p.tables e below (s₁.setTop (mkF m 6 #[.val (.ref a0s), .val (.ref a1c)] [.null, (.int 2), (.int 0), (.ref a1c), (.ref a0s)])) _
    refine st2.trans ?_
    show Steps p.tables e below (T2.setTop (mkF m 9 #[.val (.ref a0s), .val (.ref a1c)] [])) _
    exact X2.returnOut hx Bd.returns (hb hby d3_9) hr
  · show Q_rmIc_2 n0 Z cS a0s a1c k1 c0 c1 h0 _ T2.heap _
    exact ⟨b_2, kb_2, rfl, N2, K2, sz_b_2, P2_1, P2_2, P2_3, P2_4, P2_5⟩
def Q_rmIc_3 (n0 : Nat) (Z : State) (cS : Int32) (a0s : Addr) (a1c : Addr) (k1 : ClassId) (c0 : Int32) (c1 : Int32) (c2 : Int32) (h0 : Heap) (v : Option Value) (h : Heap) (L : List Loc) : Prop := ∃ b : Addr, ∃ kb : ClassId, v = none ∧ Fr n0 L ∧ Keep h0 h [a0s] ∧ (h0.size ≤ b) ∧ (Exa Z h b "[B") ∧ (Exa Z h a0s "java/lang/String") ∧ (Fld Z h a0s "java/lang/String" "value" "[B" (.ref b)) ∧ (Fld Z h a0s "java/lang/String" "coder" "B" (.int 0)) ∧ (Arv Z h b kb .byte (3 : Int32) [(.int (c0.toInt8.toInt32)), (.int (c1.toInt8.toInt32)), (.int (c2.toInt8.toInt32))] (.int 0))
set_option maxRecDepth 65536 in
set_option maxHeartbeats 40000000 in
theorem rmIc_3 (l : Launch) (Z : State) (a0 : Array Value) (hw : ∀ d ∈ tables_1, d.before a0 Z = true) (ws : List Jvm.Cond) (cS : Int32) (a0s : Addr) (a1c : Addr) (k1 : ClassId) (c0 : Int32) (c1 : Int32) (c2 : Int32) (h0 : Heap) (n0 : Nat) (O0 : Old Z n0 h0) (GL : GF Z cS) (E_a0s : Exa Z h0 a0s "java/lang/String") (F_value_a0s : Fld Z h0 a0s "java/lang/String" "value" "[B" .null) (F_coder_a0s : Fld Z h0 a0s "java/lang/String" "coder" "B" (.int 0)) (g_a0s : n0 ≤ a0s) (V_a1c : Arv Z h0 a1c k1 .char (3 : Int32) [(.int c0), (.int c1), (.int c2)] (.int 0)) (hc0 : ¬ ((255 : Int32) < c0)) (hc1 : ¬ ((255 : Int32) < c1)) (hc2 : ¬ ((255 : Int32) < c2)) :
    MetFree l MN_4 (head1 (Jvm.Cond.code MN_4 jdk_42_method_3_code 2 none :: ws) ({ frames := 3, cells := 1, slots := 3, locals := 52 } : Room)) (fun a U => a = #[(.ref a0s), (.ref a1c)] ∧ Z.Warmed39 U.vm ∧ U.heap = h0) (fun _ _ _ _ _ => True) (fun _ U o U' => ∃ v L, o = .returned v ∧ Q_rmIc_3 n0 Z cS a0s a1c k1 c0 c1 c2 h0 v U'.heap L ∧ FrameEnd U o U' L ({ frames := 3, cells := 1, slots := 3, locals := 52 } : Room).cells ({ frames := 3, cells := 1, slots := 3, locals := 52 } : Room).slots) := by
  refine MetFree.of_bodySF (plainFor_of_name pnv1) hisR ?_
  intro p e s m args below meth c s₁ Bd hml0 hP hK
  obtain ⟨rfl, hZ, hh⟩ := hP
  have hx := Bd.exec
  have hby := Bd.bytes
  have hml : c.maxLocals = 2 := hml0
  have hown : s.vm.findClass "java/lang/String" = some m.cls := findClass_of_methodNamed Bd.named
  have hnm := (name_of_methodNamed Bd.named Bd.method).1
  have X0 : Stand p l e ({ frames := 3, cells := 1, slots := 3, locals := 52 } : Room) s m #[(.ref a0s), (.ref a1c)] below meth c s₁ [] 0 0 := Stand.of_body Bd
  have e0 : s₁.heap = h0 := by rw [← hh, Bd.state]; rfl
  have N0 := Fr.nil n0
  have pre0 : ∀ t, Steps p.tables e below (s₁.setTop (mkF m 0 #[.val (.ref a0s), .val (.ref a1c)] [])) t → Steps p.tables e below (s₁.setTop (entryFrame m #[(.ref a0s), (.ref a1c)] 2)) t := fun t k => castTop (ef_rmIc_0 m a0s a1c) k
  have GL' := GL
  obtain ⟨GCS, GCP⟩ := GL'
  obtain ⟨cl1, Ar1, -, S1, N1_, -, -⟩ := id (V_a1c)
  obtain ⟨_, _, ⟨T2, L2, k2, n2⟩, -, X2, ⟨Lc2, hQ2, l2, y2, z2⟩, st2⟩ := X0.specialBack hx (y := MN_3) rfl hown (mvT hZ (Wd hw 15 rfl)) (mvT hZ (Wd hw 16 rfl)) (mvT hZ (Wd hw 18 rfl)) (by decide) (backOf (W := 0) (rmIv_3 l Z a0 hw [] cS (a0s) (a1c) (k1) (c0) (c1) (c2) (h0) n0 O0 GL E_a0s F_value_a0s F_coder_a0s g_a0s V_a1c hc0 hc1 hc2) hZ (Wd hw 18 rfl) (Wd hw 11 rfl) (by decide) (by decide)) (g := (mkF m 6 #[.val (.ref a0s), .val (.ref a1c)] [.null, (.int 3), (.int 0), (.ref a1c), (.ref a0s)])) rfl (by rw [hml]; rfl) (Steps.refl _) (a := a0s) (argsL := [(.ref a1c), (.int 0), (.int 3), .null]) (rest := []) (lenOf pdv3 rfl) rfl (by show 2 * 0 + _ ≤ _; exact Nat.le_of_eq rfl) (hb hby d3_6) (fun _ _ => ⟨rfl, e0, (by decide : 0 + 1 ≤ _), (by decide : 0 + 3 ≤ _)⟩)
  dsimp only [Pt.U, Pt.locs, Pt.cells, Pt.slots] at X2 l2 y2 z2 st2 hQ2
  subst l2 y2 z2
  obtain ⟨b_2, kb_2, rfl, N2q, Kc2, P2_0, P2_1, P2_2, P2_3, P2_4, P2_5⟩ := hQ2
  have K2 : Keep h0 T2.heap [a0s] := (Keep.refl h0 [a0s]).trans Kc2 (allS (Or.inl (List.mem_of_getElem? (i := 0) rfl)) all0)
  have O2 := O0.keep Kc2 (allS g_a0s all0)
  have g_b_2 : n0 ≤ b_2 := Nat.le_trans (own_sz O0) P2_0
  have sz_b_2 : h0.size ≤ b_2 := Nat.le_trans (Keep.refl h0 [a0s]).1 P2_0
  have N2 := Fr.app N0 N2q
  obtain ⟨fs, hr, hrun, hended, hW, hsame⟩ := X2.leave (v := none) (fun _ => rfl)
  refine ⟨_, _, pre0 _ ?_, hrun, hended, _, _, rfl, ?_, ⟨_, rfl⟩, hW, hsame.mono (by decide) (by decide)⟩
  · show Steps p.tables e below (s₁.setTop (mkF m 0 #[.val (.ref a0s), .val (.ref a1c)] [])) _
    refine XS.aloadN X0.here hx rfl (hb hby d3_0) rfl rfl ?_
    refine XS.aloadN X0.here hx rfl (hb hby d3_1) rfl rfl ?_
    refine XS.iconst X0.here hx rfl (hb hby d3_2) ?_
    refine XS.aloadN X0.here hx rfl (hb hby d3_3) rfl rfl ?_
    show Steps p.tables e below (s₁.setTop (mkF m 4 #[.val (.ref a0s), .val (.ref a1c)] [(.ref a1c), (.int 0), (.ref a1c), (.ref a0s)])) _
    refine X0.arraylength hx (by rw [e0]; exact Ar1.1) (State.isArrayOf_alike hZ.alike Ar1.2.1) (g := (mkF m 4 #[.val (.ref a0s), .val (.ref a1c)] [(.ref a1c), (.int 0), (.ref a1c), (.ref a0s)])) rfl rfl (hb hby d3_4) _ ?_
    rw [len_of S1 N1_]
    show Steps p.tables e below (s₁.setTop (mkF m 5 #[.val (.ref a0s), .val (.ref a1c)] [(.int 3), (.int 0), (.ref a1c), (.ref a0s)])) _
    refine XS.aconstNull X0.here hx rfl (hb hby d3_5) ?_
    show Steps p.tables e below (s₁.setTop (mkF m 6 #[.val (.ref a0s), .val (.ref a1c)] [.null, (.int 3), (.int 0), (.ref a1c), (.ref a0s)])) _
    refine st2.trans ?_
    show Steps p.tables e below (T2.setTop (mkF m 9 #[.val (.ref a0s), .val (.ref a1c)] [])) _
    exact X2.returnOut hx Bd.returns (hb hby d3_9) hr
  · show Q_rmIc_3 n0 Z cS a0s a1c k1 c0 c1 c2 h0 _ T2.heap _
    exact ⟨b_2, kb_2, rfl, N2, K2, sz_b_2, P2_1, P2_2, P2_3, P2_4, P2_5⟩
def Q_rmIc_4 (n0 : Nat) (Z : State) (cS : Int32) (a0s : Addr) (a1c : Addr) (k1 : ClassId) (c0 : Int32) (c1 : Int32) (c2 : Int32) (c3 : Int32) (h0 : Heap) (v : Option Value) (h : Heap) (L : List Loc) : Prop := ∃ b : Addr, ∃ kb : ClassId, v = none ∧ Fr n0 L ∧ Keep h0 h [a0s] ∧ (h0.size ≤ b) ∧ (Exa Z h b "[B") ∧ (Exa Z h a0s "java/lang/String") ∧ (Fld Z h a0s "java/lang/String" "value" "[B" (.ref b)) ∧ (Fld Z h a0s "java/lang/String" "coder" "B" (.int 0)) ∧ (Arv Z h b kb .byte (4 : Int32) [(.int (c0.toInt8.toInt32)), (.int (c1.toInt8.toInt32)), (.int (c2.toInt8.toInt32)), (.int (c3.toInt8.toInt32))] (.int 0))
set_option maxRecDepth 65536 in
set_option maxHeartbeats 40000000 in
theorem rmIc_4 (l : Launch) (Z : State) (a0 : Array Value) (hw : ∀ d ∈ tables_1, d.before a0 Z = true) (ws : List Jvm.Cond) (cS : Int32) (a0s : Addr) (a1c : Addr) (k1 : ClassId) (c0 : Int32) (c1 : Int32) (c2 : Int32) (c3 : Int32) (h0 : Heap) (n0 : Nat) (O0 : Old Z n0 h0) (GL : GF Z cS) (E_a0s : Exa Z h0 a0s "java/lang/String") (F_value_a0s : Fld Z h0 a0s "java/lang/String" "value" "[B" .null) (F_coder_a0s : Fld Z h0 a0s "java/lang/String" "coder" "B" (.int 0)) (g_a0s : n0 ≤ a0s) (V_a1c : Arv Z h0 a1c k1 .char (4 : Int32) [(.int c0), (.int c1), (.int c2), (.int c3)] (.int 0)) (hc0 : ¬ ((255 : Int32) < c0)) (hc1 : ¬ ((255 : Int32) < c1)) (hc2 : ¬ ((255 : Int32) < c2)) (hc3 : ¬ ((255 : Int32) < c3)) :
    MetFree l MN_4 (head1 (Jvm.Cond.code MN_4 jdk_42_method_3_code 2 none :: ws) ({ frames := 3, cells := 1, slots := 4, locals := 52 } : Room)) (fun a U => a = #[(.ref a0s), (.ref a1c)] ∧ Z.Warmed39 U.vm ∧ U.heap = h0) (fun _ _ _ _ _ => True) (fun _ U o U' => ∃ v L, o = .returned v ∧ Q_rmIc_4 n0 Z cS a0s a1c k1 c0 c1 c2 c3 h0 v U'.heap L ∧ FrameEnd U o U' L ({ frames := 3, cells := 1, slots := 4, locals := 52 } : Room).cells ({ frames := 3, cells := 1, slots := 4, locals := 52 } : Room).slots) := by
  refine MetFree.of_bodySF (plainFor_of_name pnv1) hisR ?_
  intro p e s m args below meth c s₁ Bd hml0 hP hK
  obtain ⟨rfl, hZ, hh⟩ := hP
  have hx := Bd.exec
  have hby := Bd.bytes
  have hml : c.maxLocals = 2 := hml0
  have hown : s.vm.findClass "java/lang/String" = some m.cls := findClass_of_methodNamed Bd.named
  have hnm := (name_of_methodNamed Bd.named Bd.method).1
  have X0 : Stand p l e ({ frames := 3, cells := 1, slots := 4, locals := 52 } : Room) s m #[(.ref a0s), (.ref a1c)] below meth c s₁ [] 0 0 := Stand.of_body Bd
  have e0 : s₁.heap = h0 := by rw [← hh, Bd.state]; rfl
  have N0 := Fr.nil n0
  have pre0 : ∀ t, Steps p.tables e below (s₁.setTop (mkF m 0 #[.val (.ref a0s), .val (.ref a1c)] [])) t → Steps p.tables e below (s₁.setTop (entryFrame m #[(.ref a0s), (.ref a1c)] 2)) t := fun t k => castTop (ef_rmIc_0 m a0s a1c) k
  have GL' := GL
  obtain ⟨GCS, GCP⟩ := GL'
  obtain ⟨cl1, Ar1, -, S1, N1_, -, -⟩ := id (V_a1c)
  obtain ⟨_, _, ⟨T2, L2, k2, n2⟩, -, X2, ⟨Lc2, hQ2, l2, y2, z2⟩, st2⟩ := X0.specialBack hx (y := MN_3) rfl hown (mvT hZ (Wd hw 15 rfl)) (mvT hZ (Wd hw 16 rfl)) (mvT hZ (Wd hw 18 rfl)) (by decide) (backOf (W := 0) (rmIv_4 l Z a0 hw [] cS (a0s) (a1c) (k1) (c0) (c1) (c2) (c3) (h0) n0 O0 GL E_a0s F_value_a0s F_coder_a0s g_a0s V_a1c hc0 hc1 hc2 hc3) hZ (Wd hw 18 rfl) (Wd hw 11 rfl) (by decide) (by decide)) (g := (mkF m 6 #[.val (.ref a0s), .val (.ref a1c)] [.null, (.int 4), (.int 0), (.ref a1c), (.ref a0s)])) rfl (by rw [hml]; rfl) (Steps.refl _) (a := a0s) (argsL := [(.ref a1c), (.int 0), (.int 4), .null]) (rest := []) (lenOf pdv3 rfl) rfl (by show 2 * 0 + _ ≤ _; exact Nat.le_of_eq rfl) (hb hby d3_6) (fun _ _ => ⟨rfl, e0, (by decide : 0 + 1 ≤ _), (by decide : 0 + 4 ≤ _)⟩)
  dsimp only [Pt.U, Pt.locs, Pt.cells, Pt.slots] at X2 l2 y2 z2 st2 hQ2
  subst l2 y2 z2
  obtain ⟨b_2, kb_2, rfl, N2q, Kc2, P2_0, P2_1, P2_2, P2_3, P2_4, P2_5⟩ := hQ2
  have K2 : Keep h0 T2.heap [a0s] := (Keep.refl h0 [a0s]).trans Kc2 (allS (Or.inl (List.mem_of_getElem? (i := 0) rfl)) all0)
  have O2 := O0.keep Kc2 (allS g_a0s all0)
  have g_b_2 : n0 ≤ b_2 := Nat.le_trans (own_sz O0) P2_0
  have sz_b_2 : h0.size ≤ b_2 := Nat.le_trans (Keep.refl h0 [a0s]).1 P2_0
  have N2 := Fr.app N0 N2q
  obtain ⟨fs, hr, hrun, hended, hW, hsame⟩ := X2.leave (v := none) (fun _ => rfl)
  refine ⟨_, _, pre0 _ ?_, hrun, hended, _, _, rfl, ?_, ⟨_, rfl⟩, hW, hsame.mono (by decide) (by decide)⟩
  · show Steps p.tables e below (s₁.setTop (mkF m 0 #[.val (.ref a0s), .val (.ref a1c)] [])) _
    refine XS.aloadN X0.here hx rfl (hb hby d3_0) rfl rfl ?_
    refine XS.aloadN X0.here hx rfl (hb hby d3_1) rfl rfl ?_
    refine XS.iconst X0.here hx rfl (hb hby d3_2) ?_
    refine XS.aloadN X0.here hx rfl (hb hby d3_3) rfl rfl ?_
    show Steps p.tables e below (s₁.setTop (mkF m 4 #[.val (.ref a0s), .val (.ref a1c)] [(.ref a1c), (.int 0), (.ref a1c), (.ref a0s)])) _
    refine X0.arraylength hx (by rw [e0]; exact Ar1.1) (State.isArrayOf_alike hZ.alike Ar1.2.1) (g := (mkF m 4 #[.val (.ref a0s), .val (.ref a1c)] [(.ref a1c), (.int 0), (.ref a1c), (.ref a0s)])) rfl rfl (hb hby d3_4) _ ?_
    rw [len_of S1 N1_]
    show Steps p.tables e below (s₁.setTop (mkF m 5 #[.val (.ref a0s), .val (.ref a1c)] [(.int 4), (.int 0), (.ref a1c), (.ref a0s)])) _
    refine XS.aconstNull X0.here hx rfl (hb hby d3_5) ?_
    show Steps p.tables e below (s₁.setTop (mkF m 6 #[.val (.ref a0s), .val (.ref a1c)] [.null, (.int 4), (.int 0), (.ref a1c), (.ref a0s)])) _
    refine st2.trans ?_
    show Steps p.tables e below (T2.setTop (mkF m 9 #[.val (.ref a0s), .val (.ref a1c)] [])) _
    exact X2.returnOut hx Bd.returns (hb hby d3_9) hr
  · show Q_rmIc_4 n0 Z cS a0s a1c k1 c0 c1 c2 c3 h0 _ T2.heap _
    exact ⟨b_2, kb_2, rfl, N2, K2, sz_b_2, P2_1, P2_2, P2_3, P2_4, P2_5⟩
def Q_rmIc_5 (n0 : Nat) (Z : State) (cS : Int32) (a0s : Addr) (a1c : Addr) (k1 : ClassId) (c0 : Int32) (c1 : Int32) (c2 : Int32) (c3 : Int32) (c4 : Int32) (h0 : Heap) (v : Option Value) (h : Heap) (L : List Loc) : Prop := ∃ b : Addr, ∃ kb : ClassId, v = none ∧ Fr n0 L ∧ Keep h0 h [a0s] ∧ (h0.size ≤ b) ∧ (Exa Z h b "[B") ∧ (Exa Z h a0s "java/lang/String") ∧ (Fld Z h a0s "java/lang/String" "value" "[B" (.ref b)) ∧ (Fld Z h a0s "java/lang/String" "coder" "B" (.int 0)) ∧ (Arv Z h b kb .byte (5 : Int32) [(.int (c0.toInt8.toInt32)), (.int (c1.toInt8.toInt32)), (.int (c2.toInt8.toInt32)), (.int (c3.toInt8.toInt32)), (.int (c4.toInt8.toInt32))] (.int 0))
set_option maxRecDepth 65536 in
set_option maxHeartbeats 40000000 in
theorem rmIc_5 (l : Launch) (Z : State) (a0 : Array Value) (hw : ∀ d ∈ tables_1, d.before a0 Z = true) (ws : List Jvm.Cond) (cS : Int32) (a0s : Addr) (a1c : Addr) (k1 : ClassId) (c0 : Int32) (c1 : Int32) (c2 : Int32) (c3 : Int32) (c4 : Int32) (h0 : Heap) (n0 : Nat) (O0 : Old Z n0 h0) (GL : GF Z cS) (E_a0s : Exa Z h0 a0s "java/lang/String") (F_value_a0s : Fld Z h0 a0s "java/lang/String" "value" "[B" .null) (F_coder_a0s : Fld Z h0 a0s "java/lang/String" "coder" "B" (.int 0)) (g_a0s : n0 ≤ a0s) (V_a1c : Arv Z h0 a1c k1 .char (5 : Int32) [(.int c0), (.int c1), (.int c2), (.int c3), (.int c4)] (.int 0)) (hc0 : ¬ ((255 : Int32) < c0)) (hc1 : ¬ ((255 : Int32) < c1)) (hc2 : ¬ ((255 : Int32) < c2)) (hc3 : ¬ ((255 : Int32) < c3)) (hc4 : ¬ ((255 : Int32) < c4)) :
    MetFree l MN_4 (head1 (Jvm.Cond.code MN_4 jdk_42_method_3_code 2 none :: ws) ({ frames := 3, cells := 1, slots := 5, locals := 52 } : Room)) (fun a U => a = #[(.ref a0s), (.ref a1c)] ∧ Z.Warmed39 U.vm ∧ U.heap = h0) (fun _ _ _ _ _ => True) (fun _ U o U' => ∃ v L, o = .returned v ∧ Q_rmIc_5 n0 Z cS a0s a1c k1 c0 c1 c2 c3 c4 h0 v U'.heap L ∧ FrameEnd U o U' L ({ frames := 3, cells := 1, slots := 5, locals := 52 } : Room).cells ({ frames := 3, cells := 1, slots := 5, locals := 52 } : Room).slots) := by
  refine MetFree.of_bodySF (plainFor_of_name pnv1) hisR ?_
  intro p e s m args below meth c s₁ Bd hml0 hP hK
  obtain ⟨rfl, hZ, hh⟩ := hP
  have hx := Bd.exec
  have hby := Bd.bytes
  have hml : c.maxLocals = 2 := hml0
  have hown : s.vm.findClass "java/lang/String" = some m.cls := findClass_of_methodNamed Bd.named
  have hnm := (name_of_methodNamed Bd.named Bd.method).1
  have X0 : Stand p l e ({ frames := 3, cells := 1, slots := 5, locals := 52 } : Room) s m #[(.ref a0s), (.ref a1c)] below meth c s₁ [] 0 0 := Stand.of_body Bd
  have e0 : s₁.heap = h0 := by rw [← hh, Bd.state]; rfl
  have N0 := Fr.nil n0
  have pre0 : ∀ t, Steps p.tables e below (s₁.setTop (mkF m 0 #[.val (.ref a0s), .val (.ref a1c)] [])) t → Steps p.tables e below (s₁.setTop (entryFrame m #[(.ref a0s), (.ref a1c)] 2)) t := fun t k => castTop (ef_rmIc_0 m a0s a1c) k
  have GL' := GL
  obtain ⟨GCS, GCP⟩ := GL'
  obtain ⟨cl1, Ar1, -, S1, N1_, -, -⟩ := id (V_a1c)
  obtain ⟨_, _, ⟨T2, L2, k2, n2⟩, -, X2, ⟨Lc2, hQ2, l2, y2, z2⟩, st2⟩ := X0.specialBack hx (y := MN_3) rfl hown (mvT hZ (Wd hw 15 rfl)) (mvT hZ (Wd hw 16 rfl)) (mvT hZ (Wd hw 18 rfl)) (by decide) (backOf (W := 0) (rmIv_5 l Z a0 hw [] cS (a0s) (a1c) (k1) (c0) (c1) (c2) (c3) (c4) (h0) n0 O0 GL E_a0s F_value_a0s F_coder_a0s g_a0s V_a1c hc0 hc1 hc2 hc3 hc4) hZ (Wd hw 18 rfl) (Wd hw 11 rfl) (by decide) (by decide)) (g := (mkF m 6 #[.val (.ref a0s), .val (.ref a1c)] [.null, (.int 5), (.int 0), (.ref a1c), (.ref a0s)])) rfl (by rw [hml]; rfl) (Steps.refl _) (a := a0s) (argsL := [(.ref a1c), (.int 0), (.int 5), .null]) (rest := []) (lenOf pdv3 rfl) rfl (by show 2 * 0 + _ ≤ _; exact Nat.le_of_eq rfl) (hb hby d3_6) (fun _ _ => ⟨rfl, e0, (by decide : 0 + 1 ≤ _), (by decide : 0 + 5 ≤ _)⟩)
  dsimp only [Pt.U, Pt.locs, Pt.cells, Pt.slots] at X2 l2 y2 z2 st2 hQ2
  subst l2 y2 z2
  obtain ⟨b_2, kb_2, rfl, N2q, Kc2, P2_0, P2_1, P2_2, P2_3, P2_4, P2_5⟩ := hQ2
  have K2 : Keep h0 T2.heap [a0s] := (Keep.refl h0 [a0s]).trans Kc2 (allS (Or.inl (List.mem_of_getElem? (i := 0) rfl)) all0)
  have O2 := O0.keep Kc2 (allS g_a0s all0)
  have g_b_2 : n0 ≤ b_2 := Nat.le_trans (own_sz O0) P2_0
  have sz_b_2 : h0.size ≤ b_2 := Nat.le_trans (Keep.refl h0 [a0s]).1 P2_0
  have N2 := Fr.app N0 N2q
  obtain ⟨fs, hr, hrun, hended, hW, hsame⟩ := X2.leave (v := none) (fun _ => rfl)
  refine ⟨_, _, pre0 _ ?_, hrun, hended, _, _, rfl, ?_, ⟨_, rfl⟩, hW, hsame.mono (by decide) (by decide)⟩
  · show Steps p.tables e below (s₁.setTop (mkF m 0 #[.val (.ref a0s), .val (.ref a1c)] [])) _
    refine XS.aloadN X0.here hx rfl (hb hby d3_0) rfl rfl ?_
    refine XS.aloadN X0.here hx rfl (hb hby d3_1) rfl rfl ?_
    refine XS.iconst X0.here hx rfl (hb hby d3_2) ?_
    refine XS.aloadN X0.here hx rfl (hb hby d3_3) rfl rfl ?_
    show Steps p.tables e below (s₁.setTop (mkF m 4 #[.val (.ref a0s), .val (.ref a1c)] [(.ref a1c), (.int 0), (.ref a1c), (.ref a0s)])) _
    refine X0.arraylength hx (by rw [e0]; exact Ar1.1) (State.isArrayOf_alike hZ.alike Ar1.2.1) (g := (mkF m 4 #[.val (.ref a0s), .val (.ref a1c)] [(.ref a1c), (.int 0), (.ref a1c), (.ref a0s)])) rfl rfl (hb hby d3_4) _ ?_
    rw [len_of S1 N1_]
    show Steps p.tables e below (s₁.setTop (mkF m 5 #[.val (.ref a0s), .val (.ref a1c)] [(.int 5), (.int 0), (.ref a1c), (.ref a0s)])) _
    refine XS.aconstNull X0.here hx rfl (hb hby d3_5) ?_
    show Steps p.tables e below (s₁.setTop (mkF m 6 #[.val (.ref a0s), .val (.ref a1c)] [.null, (.int 5), (.int 0), (.ref a1c), (.ref a0s)])) _
    refine st2.trans ?_
    show Steps p.tables e below (T2.setTop (mkF m 9 #[.val (.ref a0s), .val (.ref a1c)] [])) _
    exact X2.returnOut hx Bd.returns (hb hby d3_9) hr
  · show Q_rmIc_5 n0 Z cS a0s a1c k1 c0 c1 c2 c3 c4 h0 _ T2.heap _
    exact ⟨b_2, kb_2, rfl, N2, K2, sz_b_2, P2_1, P2_2, P2_3, P2_4, P2_5⟩
def Q_rmIc_6 (n0 : Nat) (Z : State) (cS : Int32) (a0s : Addr) (a1c : Addr) (k1 : ClassId) (c0 : Int32) (c1 : Int32) (c2 : Int32) (c3 : Int32) (c4 : Int32) (c5 : Int32) (h0 : Heap) (v : Option Value) (h : Heap) (L : List Loc) : Prop := ∃ b : Addr, ∃ kb : ClassId, v = none ∧ Fr n0 L ∧ Keep h0 h [a0s] ∧ (h0.size ≤ b) ∧ (Exa Z h b "[B") ∧ (Exa Z h a0s "java/lang/String") ∧ (Fld Z h a0s "java/lang/String" "value" "[B" (.ref b)) ∧ (Fld Z h a0s "java/lang/String" "coder" "B" (.int 0)) ∧ (Arv Z h b kb .byte (6 : Int32) [(.int (c0.toInt8.toInt32)), (.int (c1.toInt8.toInt32)), (.int (c2.toInt8.toInt32)), (.int (c3.toInt8.toInt32)), (.int (c4.toInt8.toInt32)), (.int (c5.toInt8.toInt32))] (.int 0))
set_option maxRecDepth 65536 in
set_option maxHeartbeats 40000000 in
theorem rmIc_6 (l : Launch) (Z : State) (a0 : Array Value) (hw : ∀ d ∈ tables_1, d.before a0 Z = true) (ws : List Jvm.Cond) (cS : Int32) (a0s : Addr) (a1c : Addr) (k1 : ClassId) (c0 : Int32) (c1 : Int32) (c2 : Int32) (c3 : Int32) (c4 : Int32) (c5 : Int32) (h0 : Heap) (n0 : Nat) (O0 : Old Z n0 h0) (GL : GF Z cS) (E_a0s : Exa Z h0 a0s "java/lang/String") (F_value_a0s : Fld Z h0 a0s "java/lang/String" "value" "[B" .null) (F_coder_a0s : Fld Z h0 a0s "java/lang/String" "coder" "B" (.int 0)) (g_a0s : n0 ≤ a0s) (V_a1c : Arv Z h0 a1c k1 .char (6 : Int32) [(.int c0), (.int c1), (.int c2), (.int c3), (.int c4), (.int c5)] (.int 0)) (hc0 : ¬ ((255 : Int32) < c0)) (hc1 : ¬ ((255 : Int32) < c1)) (hc2 : ¬ ((255 : Int32) < c2)) (hc3 : ¬ ((255 : Int32) < c3)) (hc4 : ¬ ((255 : Int32) < c4)) (hc5 : ¬ ((255 : Int32) < c5)) :
    MetFree l MN_4 (head1 (Jvm.Cond.code MN_4 jdk_42_method_3_code 2 none :: ws) ({ frames := 3, cells := 1, slots := 6, locals := 52 } : Room)) (fun a U => a = #[(.ref a0s), (.ref a1c)] ∧ Z.Warmed39 U.vm ∧ U.heap = h0) (fun _ _ _ _ _ => True) (fun _ U o U' => ∃ v L, o = .returned v ∧ Q_rmIc_6 n0 Z cS a0s a1c k1 c0 c1 c2 c3 c4 c5 h0 v U'.heap L ∧ FrameEnd U o U' L ({ frames := 3, cells := 1, slots := 6, locals := 52 } : Room).cells ({ frames := 3, cells := 1, slots := 6, locals := 52 } : Room).slots) := by
  refine MetFree.of_bodySF (plainFor_of_name pnv1) hisR ?_
  intro p e s m args below meth c s₁ Bd hml0 hP hK
  obtain ⟨rfl, hZ, hh⟩ := hP
  have hx := Bd.exec
  have hby := Bd.bytes
  have hml : c.maxLocals = 2 := hml0
  have hown : s.vm.findClass "java/lang/String" = some m.cls := findClass_of_methodNamed Bd.named
  have hnm := (name_of_methodNamed Bd.named Bd.method).1
  have X0 : Stand p l e ({ frames := 3, cells := 1, slots := 6, locals := 52 } : Room) s m #[(.ref a0s), (.ref a1c)] below meth c s₁ [] 0 0 := Stand.of_body Bd
  have e0 : s₁.heap = h0 := by rw [← hh, Bd.state]; rfl
  have N0 := Fr.nil n0
  have pre0 : ∀ t, Steps p.tables e below (s₁.setTop (mkF m 0 #[.val (.ref a0s), .val (.ref a1c)] [])) t → Steps p.tables e below (s₁.setTop (entryFrame m #[(.ref a0s), (.ref a1c)] 2)) t := fun t k => castTop (ef_rmIc_0 m a0s a1c) k
  have GL' := GL
  obtain ⟨GCS, GCP⟩ := GL'
  obtain ⟨cl1, Ar1, -, S1, N1_, -, -⟩ := id (V_a1c)
  obtain ⟨_, _, ⟨T2, L2, k2, n2⟩, -, X2, ⟨Lc2, hQ2, l2, y2, z2⟩, st2⟩ := X0.specialBack hx (y := MN_3) rfl hown (mvT hZ (Wd hw 15 rfl)) (mvT hZ (Wd hw 16 rfl)) (mvT hZ (Wd hw 18 rfl)) (by decide) (backOf (W := 0) (rmIv_6 l Z a0 hw [] cS (a0s) (a1c) (k1) (c0) (c1) (c2) (c3) (c4) (c5) (h0) n0 O0 GL E_a0s F_value_a0s F_coder_a0s g_a0s V_a1c hc0 hc1 hc2 hc3 hc4 hc5) hZ (Wd hw 18 rfl) (Wd hw 11 rfl) (by decide) (by decide)) (g := (mkF m 6 #[.val (.ref a0s), .val (.ref a1c)] [.null, (.int 6), (.int 0), (.ref a1c), (.ref a0s)])) rfl (by rw [hml]; rfl) (Steps.refl _) (a := a0s) (argsL := [(.ref a1c), (.int 0), (.int 6), .null]) (rest := []) (lenOf pdv3 rfl) rfl (by show 2 * 0 + _ ≤ _; exact Nat.le_of_eq rfl) (hb hby d3_6) (fun _ _ => ⟨rfl, e0, (by decide : 0 + 1 ≤ _), (by decide : 0 + 6 ≤ _)⟩)
  dsimp only [Pt.U, Pt.locs, Pt.cells, Pt.slots] at X2 l2 y2 z2 st2 hQ2
  subst l2 y2 z2
  obtain ⟨b_2, kb_2, rfl, N2q, Kc2, P2_0, P2_1, P2_2, P2_3, P2_4, P2_5⟩ := hQ2
  have K2 : Keep h0 T2.heap [a0s] := (Keep.refl h0 [a0s]).trans Kc2 (allS (Or.inl (List.mem_of_getElem? (i := 0) rfl)) all0)
  have O2 := O0.keep Kc2 (allS g_a0s all0)
  have g_b_2 : n0 ≤ b_2 := Nat.le_trans (own_sz O0) P2_0
  have sz_b_2 : h0.size ≤ b_2 := Nat.le_trans (Keep.refl h0 [a0s]).1 P2_0
  have N2 := Fr.app N0 N2q
  obtain ⟨fs, hr, hrun, hended, hW, hsame⟩ := X2.leave (v := none) (fun _ => rfl)
  refine ⟨_, _, pre0 _ ?_, hrun, hended, _, _, rfl, ?_, ⟨_, rfl⟩, hW, hsame.mono (by decide) (by decide)⟩
  · show Steps p.tables e below (s₁.setTop (mkF m 0 #[.val (.ref a0s), .val (.ref a1c)] [])) _
    refine XS.aloadN X0.here hx rfl (hb hby d3_0) rfl rfl ?_
    refine XS.aloadN X0.here hx rfl (hb hby d3_1) rfl rfl ?_
    refine XS.iconst X0.here hx rfl (hb hby d3_2) ?_
    refine XS.aloadN X0.here hx rfl (hb hby d3_3) rfl rfl ?_
    show Steps p.tables e below (s₁.setTop (mkF m 4 #[.val (.ref a0s), .val (.ref a1c)] [(.ref a1c), (.int 0), (.ref a1c), (.ref a0s)])) _
    refine X0.arraylength hx (by rw [e0]; exact Ar1.1) (State.isArrayOf_alike hZ.alike Ar1.2.1) (g := (mkF m 4 #[.val (.ref a0s), .val (.ref a1c)] [(.ref a1c), (.int 0), (.ref a1c), (.ref a0s)])) rfl rfl (hb hby d3_4) _ ?_
    rw [len_of S1 N1_]
    show Steps p.tables e below (s₁.setTop (mkF m 5 #[.val (.ref a0s), .val (.ref a1c)] [(.int 6), (.int 0), (.ref a1c), (.ref a0s)])) _
    refine XS.aconstNull X0.here hx rfl (hb hby d3_5) ?_
    show Steps p.tables e below (s₁.setTop (mkF m 6 #[.val (.ref a0s), .val (.ref a1c)] [.null, (.int 6), (.int 0), (.ref a1c), (.ref a0s)])) _
    refine st2.trans ?_
    show Steps p.tables e below (T2.setTop (mkF m 9 #[.val (.ref a0s), .val (.ref a1c)] [])) _
    exact X2.returnOut hx Bd.returns (hb hby d3_9) hr
  · show Q_rmIc_6 n0 Z cS a0s a1c k1 c0 c1 c2 c3 c4 c5 h0 _ T2.heap _
    exact ⟨b_2, kb_2, rfl, N2, K2, sz_b_2, P2_1, P2_2, P2_3, P2_4, P2_5⟩
theorem d11_0 : decode jdk_42_method_152_code 0 = .ok (.getstatic 38, 3) := by decide +kernel
theorem d11_3 : decode jdk_42_method_152_code 3 = .ok (.ifCond .eq 10, 3) := by decide +kernel
theorem d11_6 : decode jdk_42_method_152_code 6 = .ok (.aload_n 0, 1) := by decide +kernel
theorem d11_7 : decode jdk_42_method_152_code 7 = .ok (.getfield 15, 3) := by decide +kernel
theorem d11_10 : decode jdk_42_method_152_code 10 = .ok (.goto 4, 3) := by decide +kernel
theorem d11_14 : decode jdk_42_method_152_code 14 = .ok (.ireturn, 1) := by decide +kernel
abbrev MN_5 : MethodName := ⟨"java/lang/String", "coder", "()B"⟩
theorem ef_rmCod (m : MethodId) (a0s : Addr) : entryFrame m #[(.ref a0s)] 1 = mkF m 0 #[.val (.ref a0s)] [] := by first | (simp [entryFrame, mkF, argsToLocals, Value.category]; done) | rfl
def Q_rmCod (n0 : Nat) (Z : State) (cS : Int32) (a0s : Addr) (h0 : Heap) (v : Option Value) (h : Heap) (L : List Loc) : Prop := v = some (.int 0) ∧ Fr n0 L ∧ h = h0
set_option maxRecDepth 65536 in
set_option maxHeartbeats 40000000 in
theorem rmCod (l : Launch) (Z : State) (a0 : Array Value) (hw : ∀ d ∈ tables_1, d.before a0 Z = true) (ws : List Jvm.Cond) (cS : Int32) (a0s : Addr) (h0 : Heap) (n0 : Nat) (O0 : Old Z n0 h0) (GL : GF Z cS) (F_coder_a0s : Fld Z h0 a0s "java/lang/String" "coder" "B" (.int 0)) :
    MetFree l MN_5 (head1 (Jvm.Cond.code MN_5 jdk_42_method_152_code 1 (some .byte) :: ws) ({ frames := 0, cells := 0, slots := 0, locals := 0 } : Room)) (fun a U => a = #[(.ref a0s)] ∧ Z.Warmed39 U.vm ∧ U.heap = h0) (fun _ _ _ _ _ => True) (fun _ U o U' => ∃ v L, o = .returned v ∧ Q_rmCod n0 Z cS a0s h0 v U'.heap L ∧ FrameEnd U o U' L ({ frames := 0, cells := 0, slots := 0, locals := 0 } : Room).cells ({ frames := 0, cells := 0, slots := 0, locals := 0 } : Room).slots) := by
  refine MetFree.of_bodySF (plainFor_of_name pnv1) hisR ?_
  intro p e s m args below meth c s₁ Bd hml0 hP hK
  obtain ⟨rfl, hZ, hh⟩ := hP
  have hx := Bd.exec
  have hby := Bd.bytes
  have hml : c.maxLocals = 1 := hml0
  have hown : s.vm.findClass "java/lang/String" = some m.cls := findClass_of_methodNamed Bd.named
  have hnm := (name_of_methodNamed Bd.named Bd.method).1
  have X0 : Stand p l e ({ frames := 0, cells := 0, slots := 0, locals := 0 } : Room) s m #[(.ref a0s)] below meth c s₁ [] 0 0 := Stand.of_body Bd
  have e0 : s₁.heap = h0 := by rw [← hh, Bd.state]; rfl
  have N0 := Fr.nil n0
  have pre0 : ∀ t, Steps p.tables e below (s₁.setTop (mkF m 0 #[.val (.ref a0s)] [])) t → Steps p.tables e below (s₁.setTop (entryFrame m #[(.ref a0s)] 1)) t := fun t k => castTop (ef_rmCod m a0s) k
  have GL' := GL
  obtain ⟨GCS, GCP⟩ := GL'
  obtain ⟨T1, X1, e1, st1⟩ := getS2 X0 hx hZ hown (host := "") (Or.inl (Wd hw 59 rfl)) Via.refl e0 (GCS.ext O0.2) (g := (mkF m 0 #[.val (.ref a0s)] [])) rfl (hb hby d11_0)
  obtain ⟨T2, X2, e2, st2⟩ := getF X1 hx hZ hown (host := "") (Or.inl (Wd hw 29 rfl)) Via.refl e1 F_coder_a0s (g := (mkF m 7 #[.val (.ref a0s)] [(.ref a0s)])) rfl rfl (hb hby d11_7)
  obtain ⟨fs, hr, hrun, hended, hW, hsame⟩ := X2.leave (v := some (.int 0)) (fun h => by rw [Bd.returns] at h; cases h)
  refine ⟨_, _, pre0 _ ?_, hrun, hended, _, _, rfl, ?_, ⟨_, rfl⟩, hW, hsame.mono (by decide) (by decide)⟩
  · show Steps p.tables e below (s₁.setTop (mkF m 0 #[.val (.ref a0s)] [])) _
    refine st1 _ ?_
    show Steps p.tables e below (T1.setTop (mkF m 3 #[.val (.ref a0s)] [(.int cS)])) _
    refine XS.ifNo X1.here hx rfl (hb hby d11_3) rfl ((if0 _ _).trans (feq GCP).1) ?_
    refine XS.aloadN X1.here hx rfl (hb hby d11_6) rfl rfl ?_
    show Steps p.tables e below (T1.setTop (mkF m 7 #[.val (.ref a0s)] [(.ref a0s)])) _
    refine st2 _ ?_
    show Steps p.tables e below (T2.setTop (mkF m 10 #[.val (.ref a0s)] [(.int 0)])) _
    refine XS.goto X2.here hx rfl (pc0 := 10) (pc' := 14) rfl (hb hby d11_10) (by decide) (by decide) ?_
    show Steps p.tables e below (T2.setTop (mkF m 14 #[.val (.ref a0s)] [(.int 0)])) _
    exact retN X2 hx (t := .byte) Bd.returns (by simp) (hb hby d11_14) hr
  · show Q_rmCod n0 Z cS a0s h0 _ T2.heap _
    rw [e2]
    exact ⟨rfl, N0, rfl⟩
theorem d10_0 : decode jdk_42_method_54_code 0 = .ok (.aload_n 0, 1) := by decide +kernel
theorem d10_1 : decode jdk_42_method_54_code 1 = .ok (.getfield 9, 3) := by decide +kernel
theorem d10_4 : decode jdk_42_method_54_code 4 = .ok (.arraylength, 1) := by decide +kernel
theorem d10_5 : decode jdk_42_method_54_code 5 = .ok (.aload_n 0, 1) := by decide +kernel
theorem d10_6 : decode jdk_42_method_54_code 6 = .ok (.invokevirtual 335, 3) := by decide +kernel
theorem pdv4 : parseMethodDescriptor "()B" = some ⟨[], some .byte⟩ := by decide +kernel
theorem d10_9 : decode jdk_42_method_54_code 9 = .ok (.ishr, 1) := by decide +kernel
theorem d10_10 : decode jdk_42_method_54_code 10 = .ok (.ireturn, 1) := by decide +kernel
abbrev MN_6 : MethodName := ⟨"java/lang/String", "length", "()I"⟩
def Q_rmLen (n0 : Nat) (Z : State) (cS : Int32) (a0s : Addr) (av : Addr) (kv : ClassId) (nl : Int32) (vs : List Value) (h0 : Heap) (v : Option Value) (h : Heap) (L : List Loc) : Prop := v = some (.int nl) ∧ Fr n0 L ∧ h = h0
set_option maxRecDepth 65536 in
set_option maxHeartbeats 40000000 in
theorem rmLen (l : Launch) (Z : State) (a0 : Array Value) (hw : ∀ d ∈ tables_1, d.before a0 Z = true) (ws : List Jvm.Cond) (cS : Int32) (a0s : Addr) (av : Addr) (kv : ClassId) (nl : Int32) (vs : List Value) (h0 : Heap) (n0 : Nat) (O0 : Old Z n0 h0) (GL : GF Z cS) (E_a0s : Exa Z h0 a0s "java/lang/String") (F_value_a0s : Fld Z h0 a0s "java/lang/String" "value" "[B" (.ref av)) (F_coder_a0s : Fld Z h0 a0s "java/lang/String" "coder" "B" (.int 0)) (V_av : Arv Z h0 av kv .byte nl vs (.int 0)) :
    MetFree l MN_6 (head1 (Jvm.Cond.code MN_6 jdk_42_method_54_code 1 (some .int) :: ws) ({ frames := 1, cells := 0, slots := 0, locals := 13 } : Room)) (fun a U => a = #[(.ref a0s)] ∧ Z.Warmed39 U.vm ∧ U.heap = h0) (fun _ _ _ _ _ => True) (fun _ U o U' => ∃ v L, o = .returned v ∧ Q_rmLen n0 Z cS a0s av kv nl vs h0 v U'.heap L ∧ FrameEnd U o U' L ({ frames := 1, cells := 0, slots := 0, locals := 13 } : Room).cells ({ frames := 1, cells := 0, slots := 0, locals := 13 } : Room).slots) := by
  refine MetFree.of_bodySF (plainFor_of_name pnv1) hisR ?_
  intro p e s m args below meth c s₁ Bd hml0 hP hK
  obtain ⟨rfl, hZ, hh⟩ := hP
  have hx := Bd.exec
  have hby := Bd.bytes
  have hml : c.maxLocals = 1 := hml0
  have hown : s.vm.findClass "java/lang/String" = some m.cls := findClass_of_methodNamed Bd.named
  have hnm := (name_of_methodNamed Bd.named Bd.method).1
  have X0 : Stand p l e ({ frames := 1, cells := 0, slots := 0, locals := 13 } : Room) s m #[(.ref a0s)] below meth c s₁ [] 0 0 := Stand.of_body Bd
  have e0 : s₁.heap = h0 := by rw [← hh, Bd.state]; rfl
  have N0 := Fr.nil n0
  have pre0 : ∀ t, Steps p.tables e below (s₁.setTop (mkF m 0 #[.val (.ref a0s)] [])) t → Steps p.tables e below (s₁.setTop (entryFrame m #[(.ref a0s)] 1)) t := fun t k => castTop (ef_rmCod m a0s) k
  have GL' := GL
  obtain ⟨GCS, GCP⟩ := GL'
  obtain ⟨T1, X1, e1, st1⟩ := getF X0 hx hZ hown (host := "") (Or.inl (Wd hw 28 rfl)) Via.refl e0 F_value_a0s (g := (mkF m 1 #[.val (.ref a0s)] [(.ref a0s)])) rfl rfl (hb hby d10_1)
  obtain ⟨cl2, Ar2, -, S2, N2_, -, -⟩ := id (V_av)
  obtain ⟨cq3, kq3, q3a, q3b, q3c⟩ := isOf hZ e1 E_a0s
  obtain ⟨_, _, ⟨T3, L3, k3, n3⟩, -, X3, ⟨Lc3, hQ3, l3, y3, z3⟩, st3⟩ := X1.virtualBack hx (y := MN_5) (z := MN_5) hown (mvT hZ (Wd hw 54 rfl)) (mvT hZ (Wd hw 55 rfl)) (notFace_of_selects (args := #[]) (mvT hZ (Wd hw 57 rfl))) (mvT hZ (Wd hw 57 rfl)) (mvT hZ (Wd hw 56 rfl)) (by decide) (backOf (W := 1) (rmCod l Z a0 hw [] cS (a0s) (h0) n0 O0 GL F_coder_a0s) hZ (Wd hw 58 rfl) (Wd hw 11 rfl) (by decide) (by decide)) q3a q3c (g := (mkF m 6 #[.val (.ref a0s)] [(.ref a0s), (.int nl)])) rfl (by rw [hml]; rfl) (Steps.refl _) (argsL := []) (rest := [(.int nl)]) (lenOf pdv4 rfl) rfl (by show 2 * 0 + _ ≤ _; exact Nat.le_of_eq rfl) (hb hby d10_6) (fun _ _ => ⟨rfl, e1, (by decide : 0 + 0 ≤ _), (by decide : 0 + 0 ≤ _)⟩)
  dsimp only [Pt.U, Pt.locs, Pt.cells, Pt.slots] at X3 l3 y3 z3 st3 hQ3
  subst l3 y3 z3
  obtain ⟨rfl, N3q, e3⟩ := hQ3
  have N3 := Fr.app N0 N3q
  obtain ⟨fs, hr, hrun, hended, hW, hsame⟩ := X3.leave (v := some (.int nl)) (fun h => by rw [Bd.returns] at h; cases h)
  refine ⟨_, _, pre0 _ ?_, hrun, hended, _, _, rfl, ?_, ⟨_, rfl⟩, hW, hsame.mono (by decide) (by decide)⟩
  · show Steps p.tables e below (s₁.setTop (mkF m 0 #[.val (.ref a0s)] [])) _
    refine XS.aloadN X0.here hx rfl (hb hby d10_0) rfl rfl ?_
    show Steps p.tables e below (s₁.setTop (mkF m 1 #[.val (.ref a0s)] [(.ref a0s)])) _
    refine st1 _ ?_
    show Steps p.tables e below (T1.setTop (mkF m 4 #[.val (.ref a0s)] [(.ref av)])) _
    refine X1.arraylength hx (by rw [e1]; exact Ar2.1) (State.isArrayOf_alike hZ.alike Ar2.2.1) (g := (mkF m 4 #[.val (.ref a0s)] [(.ref av)])) rfl rfl (hb hby d10_4) _ ?_
    rw [len_of S2 N2_]
    show Steps p.tables e below (T1.setTop (mkF m 5 #[.val (.ref a0s)] [(.int nl)])) _
    refine XS.aloadN X1.here hx rfl (hb hby d10_5) rfl rfl ?_
    show Steps p.tables e below (T1.setTop (mkF m 6 #[.val (.ref a0s)] [(.ref a0s), (.int nl)])) _
    refine st3.trans ?_
    show Steps p.tables e below (T3.setTop (mkF m 9 #[.val (.ref a0s)] [(.int 0), (.int nl)])) _
    refine XS.ishr X3.here hx rfl (hb hby d10_9) rfl ?_
    rw [own_shr0 nl]
    show Steps p.tables e below (T3.setTop (mkF m 10 #[.val (.ref a0s)] [(.int nl)])) _
    exact retI X3 hx Bd.returns (hb hby d10_10) hr
  · show Q_rmLen n0 Z cS a0s av kv nl vs h0 _ T3.heap _
    rw [e3]
    exact ⟨rfl, N3, rfl⟩
theorem d1_0 : decode method_3_code 0 = .ok (.iload_n 1, 1) := by decide +kernel
theorem d1_1 : decode method_3_code 1 = .ok (.iload_n 2, 1) := by decide +kernel
theorem d1_2 : decode method_3_code 2 = .ok (.if_icmp .eq 10, 3) := by decide +kernel
theorem d1_12 : decode method_3_code 12 = .ok (.aload_n 0, 1) := by decide +kernel
theorem d1_13 : decode method_3_code 13 = .ok (.iload_n 1, 1) := by decide +kernel
theorem d1_14 : decode method_3_code 14 = .ok (.caload, 1) := by decide +kernel
theorem d1_15 : decode method_3_code 15 = .ok (.iload_n 3, 1) := by decide +kernel
theorem d1_16 : decode method_3_code 16 = .ok (.if_icmp .ne 10, 3) := by decide +kernel
theorem d1_19 : decode method_3_code 19 = .ok (.aload_n 0, 1) := by decide +kernel
theorem d1_20 : decode method_3_code 20 = .ok (.iload_n 1, 1) := by decide +kernel
theorem d1_21 : decode method_3_code 21 = .ok (.iload_n 3, 1) := by decide +kernel
theorem d1_22 : decode method_3_code 22 = .ok (.iconst 1, 1) := by decide +kernel
theorem d1_23 : decode method_3_code 23 = .ok (.iadd, 1) := by decide +kernel
theorem d1_24 : decode method_3_code 24 = .ok (.i2c, 1) := by decide +kernel
theorem d1_25 : decode method_3_code 25 = .ok (.castore, 1) := by decide +kernel
theorem d1_26 : decode method_3_code 26 = .ok (.return_, 1) := by decide +kernel
theorem d1_5 : decode method_3_code 5 = .ok (.aload_n 0, 1) := by decide +kernel
theorem d1_6 : decode method_3_code 6 = .ok (.iload_n 1, 1) := by decide +kernel
theorem d1_7 : decode method_3_code 7 = .ok (.iload_n 3, 1) := by decide +kernel
theorem d1_8 : decode method_3_code 8 = .ok (.castore, 1) := by decide +kernel
theorem d1_9 : decode method_3_code 9 = .ok (.goto 17, 3) := by decide +kernel
theorem pnv2 : plainName "com/example/loomwire/loomwire/bundle/JavaPackagesRefusePinLaw" = true := by first | (simp [plainName, overriddenIn]; done) | decide +kernel
abbrev MN_7 : MethodName := ⟨"com/example/loomwire/loomwire/bundle/JavaPackagesRefusePinLaw", "place", "([CIIC)V"⟩
theorem ef_rmPl0 (m : MethodId) (a0c : Addr) (p2 : Int32) : entryFrame m #[(.ref a0c), (.int 0), (.int p2), (.int 106)] 4 = mkF m 0 #[.val (.ref a0c), .val (.int 0), .val (.int p2), .val (.int 106)] [] := by first | (simp [entryFrame, mkF, argsToLocals, Value.category]; done) | rfl
def Q_rmPl0 (n0 : Nat) (Z : State) (cS : Int32) (a0c : Addr) (p2 : Int32) (k0 : ClassId) (s0 : Int32) (s1 : Int32) (s2 : Int32) (s3 : Int32) (s4 : Int32) (s5 : Int32) (h0 : Heap) (v : Option Value) (h : Heap) (L : List Loc) : Prop := ∃ cn : Int32, v = none ∧ Fr n0 L ∧ Keep h0 h [a0c] ∧ (Arv Z h a0c k0 .char (6 : Int32) [(.int cn), (.int s1), (.int s2), (.int s3), (.int s4), (.int s5)] (.int 0)) ∧ (¬ ((255 : Int32) < cn)) ∧ (¬ (cn < (0 : Int32))) ∧ (nar .char cn = cn)
set_option maxRecDepth 65536 in
set_option maxHeartbeats 40000000 in
theorem rmPl0 (l : Launch) (Z : State) (a0 : Array Value) (hw : ∀ d ∈ tables_1, d.before a0 Z = true) (ws : List Jvm.Cond) (cS : Int32) (a0c : Addr) (p2 : Int32) (k0 : ClassId) (s0 : Int32) (s1 : Int32) (s2 : Int32) (s3 : Int32) (s4 : Int32) (s5 : Int32) (h0 : Heap) (n0 : Nat) (O0 : Old Z n0 h0) (GL : GF Z cS) (V_a0c : Arv Z h0 a0c k0 .char (6 : Int32) [(.int s0), (.int s1), (.int s2), (.int s3), (.int s4), (.int s5)] (.int 0)) (g_a0c : n0 ≤ a0c) (hl : ¬ ((255 : Int32) < s0)) (hm : ¬ (s0 < (0 : Int32))) (hn : nar .char s0 = s0) :
    MetFree l MN_7 (head1 (Jvm.Cond.code MN_7 method_3_code 4 none :: ws) ({ frames := 0, cells := 0, slots := 0, locals := 0 } : Room)) (fun a U => a = #[(.ref a0c), (.int 0), (.int p2), (.int 106)] ∧ Z.Warmed39 U.vm ∧ U.heap = h0) (fun _ _ _ _ _ => True) (fun _ U o U' => ∃ v L, o = .returned v ∧ Q_rmPl0 n0 Z cS a0c p2 k0 s0 s1 s2 s3 s4 s5 h0 v U'.heap L ∧ FrameEnd U o U' L ({ frames := 0, cells := 0, slots := 0, locals := 0 } : Room).cells ({ frames := 0, cells := 0, slots := 0, locals := 0 } : Room).slots) := by
  refine MetFree.of_bodySF (plainFor_of_name pnv2) hisR ?_
  intro p e s m args below meth c s₁ Bd hml0 hP hK
  obtain ⟨rfl, hZ, hh⟩ := hP
  have hx := Bd.exec
  have hby := Bd.bytes
  have hml : c.maxLocals = 4 := hml0
  have hown : s.vm.findClass "com/example/loomwire/loomwire/bundle/JavaPackagesRefusePinLaw" = some m.cls := findClass_of_methodNamed Bd.named
  have hnm := (name_of_methodNamed Bd.named Bd.method).1
  have X0 : Stand p l e ({ frames := 0, cells := 0, slots := 0, locals := 0 } : Room) s m #[(.ref a0c), (.int 0), (.int p2), (.int 106)] below meth c s₁ [] 0 0 := Stand.of_body Bd
  have e0 : s₁.heap = h0 := by rw [← hh, Bd.state]; rfl
  have N0 := Fr.nil n0
  have pre0 : ∀ t, Steps p.tables e below (s₁.setTop (mkF m 0 #[.val (.ref a0c), .val (.int 0), .val (.int p2), .val (.int 106)] [])) t → Steps p.tables e below (s₁.setTop (entryFrame m #[(.ref a0c), (.int 0), (.int p2), (.int 106)] 4)) t := fun t k => castTop (ef_rmPl0 m a0c p2) k
  have GL' := GL
  obtain ⟨GCS, GCP⟩ := GL'
  have pre2 : ∀ t, Steps p.tables e below (s₁.setTop (mkF m 2 #[.val (.ref a0c), .val (.int 0), .val (.int p2), .val (.int 106)] [(.int p2), (.int 0)])) t → Steps p.tables e below (s₁.setTop (entryFrame m #[(.ref a0c), (.int 0), (.int p2), (.int 106)] 4)) t := fun t kt => by
    refine pre0 t ?_
    show Steps p.tables e below (s₁.setTop (mkF m 0 #[.val (.ref a0c), .val (.int 0), .val (.int p2), .val (.int 106)] [])) _
    refine XS.iloadN X0.here hx rfl (hb hby d1_0) rfl ?_
    refine XS.iloadN X0.here hx rfl (hb hby d1_1) rfl ?_
    exact kt
  by_cases hc2_1 : (0 : Int32) = p2
  · obtain ⟨cl3, Ar3, -, S3, N3_, H3, G3⟩ := id (V_a0c)
    have hin3 : ¬ ((0 : Int32) < 0 ∨ cl3.slots.size ≤ ((0 : Int32)).toNatClampNeg) := inb_of S3 ⟨(by decide), (by decide)⟩
    have hat3 : cl3.slots[((0 : Int32)).toNatClampNeg]? = some (.int s0) := H3.at hin3 rfl
    have pre5 : ∀ t, Steps p.tables e below (s₁.setTop (mkF m 16 #[.val (.ref a0c), .val (.int 0), .val (.int p2), .val (.int 106)] [(.int 106), (.int s0)])) t → Steps p.tables e below (s₁.setTop (entryFrame m #[(.ref a0c), (.int 0), (.int p2), (.int 106)] 4)) t := fun t kt => by
      refine pre2 t ?_
      show Steps p.tables e below (s₁.setTop (mkF m 2 #[.val (.ref a0c), .val (.int 0), .val (.int p2), .val (.int 106)] [(.int p2), (.int 0)])) _
      refine XS.icmpYes X0.here hx rfl (pc0 := 2) (pc' := 12) rfl (hb hby d1_2) rfl (teq hc2_1).1 (by decide) (by decide) ?_
      refine XS.aloadN X0.here hx rfl (hb hby d1_12) rfl rfl ?_
      refine XS.iloadN X0.here hx rfl (hb hby d1_13) rfl ?_
      show Steps p.tables e below (s₁.setTop (mkF m 14 #[.val (.ref a0c), .val (.int 0), .val (.int p2), .val (.int 106)] [(.int 0), (.ref a0c)])) _
      refine X0.caload hx (j := (0 : Int32)) (v := (.int s0)) (by rw [e0]; exact Ar3.1) (State.isArrayOf_alike hZ.alike Ar3.2.1) Ar3.2.2 hin3 hat3 (g := (mkF m 14 #[.val (.ref a0c), .val (.int 0), .val (.int p2), .val (.int 106)] [(.int 0), (.ref a0c)])) rfl rfl (hb hby d1_14) _ ?_
      show Steps p.tables e below (s₁.setTop (mkF m 15 #[.val (.ref a0c), .val (.int 0), .val (.int p2), .val (.int 106)] [(.int s0)])) _
      refine XS.iloadN X0.here hx rfl (hb hby d1_15) rfl ?_
      exact kt
    by_cases hc16_4 : s0 = (106 : Int32)
    · obtain ⟨cl6, Ar6, q6, S6, N6_, H6, G6⟩ := id (V_a0c)
      have hin6 : ¬ ((0 : Int32) < 0 ∨ cl6.slots.size ≤ ((0 : Int32)).toNatClampNeg) := inb_of S6 ⟨(by decide), (by decide)⟩
      obtain ⟨T6, h6, X6, e6, W6, st6⟩ := stC X0 hx hZ e0 Ar6 (j := (0 : Int32)) hin6 (g := (mkF m 25 #[.val (.ref a0c), .val (.int 0), .val (.int p2), .val (.int 106)] [(.int 107), (.int 0), (.ref a0c)])) rfl rfl (hb hby d1_25)
      have K6 : Keep h0 h6 [a0c] := (Keep.refl h0 [a0c]).wr W6 (Or.inl (List.mem_of_getElem? (i := 0) rfl))
      have O6 := O0.wr W6 g_a0c
      have N6 := Fr.snoc X6 N0 g_a0c
      have V6 : Arv Z h6 a0c k0 .char (6 : Int32) [(.int 107), (.int s1), (.int s2), (.int s3), (.int s4), (.int s5)] (.int 0) := Arv.set Ar6 q6 S6 N6_ H6 G6 (fits_nar_char _) W6 0 rfl (Nat.le_of_ble_eq_true rfl)
      have r1 : ¬ ((255 : Int32) < (107 : Int32)) := (by decide)
      have r2 : ¬ ((107 : Int32) < (0 : Int32)) := (by decide)
      have r3 : nar .char (107 : Int32) = (107 : Int32) := (by decide)
      obtain ⟨fs, hr, hrun, hended, hW, hsame⟩ := X6.leave (v := none) (fun _ => rfl)
      refine ⟨_, _, pre5 _ ?_, hrun, hended, _, _, rfl, ?_, ⟨_, rfl⟩, hW, hsame.mono (by decide) (by decide)⟩
      · show Steps p.tables e below (s₁.setTop (mkF m 16 #[.val (.ref a0c), .val (.int 0), .val (.int p2), .val (.int 106)] [(.int 106), (.int s0)])) _
        refine XS.icmpNo X0.here hx rfl (hb hby d1_16) rfl (teq hc16_4).2 ?_
        refine XS.aloadN X0.here hx rfl (hb hby d1_19) rfl rfl ?_
        refine XS.iloadN X0.here hx rfl (hb hby d1_20) rfl ?_
        refine XS.iloadN X0.here hx rfl (hb hby d1_21) rfl ?_
        show Steps p.tables e below (s₁.setTop (mkF m 22 #[.val (.ref a0c), .val (.int 0), .val (.int p2), .val (.int 106)] [(.int 106), (.int 0), (.ref a0c)])) _
        refine XS.iconst X0.here hx rfl (hb hby d1_22) ?_
        refine XS.iadd X0.here hx rfl (hb hby d1_23) rfl ?_
        refine XS.i2c X0.here hx rfl (hb hby d1_24) rfl ?_
        show Steps p.tables e below (s₁.setTop (mkF m 25 #[.val (.ref a0c), .val (.int 0), .val (.int p2), .val (.int 106)] [(.int 107), (.int 0), (.ref a0c)])) _
        refine st6 _ ?_
        show Steps p.tables e below (T6.setTop (mkF m 26 #[.val (.ref a0c), .val (.int 0), .val (.int p2), .val (.int 106)] [])) _
        exact X6.returnOut hx Bd.returns (hb hby d1_26) hr
      · show Q_rmPl0 n0 Z cS a0c p2 k0 s0 s1 s2 s3 s4 s5 h0 _ T6.heap _
        rw [e6]
        exact ⟨(107 : Int32), rfl, N6, K6, V6, r1, r2, r3⟩
    · obtain ⟨fs, hr, hrun, hended, hW, hsame⟩ := X0.leave (v := none) (fun _ => rfl)
      refine ⟨_, _, pre5 _ ?_, hrun, hended, _, _, rfl, ?_, ⟨_, rfl⟩, hW, hsame.mono (by decide) (by decide)⟩
      · show Steps p.tables e below (s₁.setTop (mkF m 16 #[.val (.ref a0c), .val (.int 0), .val (.int p2), .val (.int 106)] [(.int 106), (.int s0)])) _
        refine XS.icmpYes X0.here hx rfl (pc0 := 16) (pc' := 26) rfl (hb hby d1_16) rfl (feq hc16_4).2 (by decide) (by decide) ?_
        show Steps p.tables e below (s₁.setTop (mkF m 26 #[.val (.ref a0c), .val (.int 0), .val (.int p2), .val (.int 106)] [])) _
        exact X0.returnOut hx Bd.returns (hb hby d1_26) hr
      · show Q_rmPl0 n0 Z cS a0c p2 k0 s0 s1 s2 s3 s4 s5 h0 _ s₁.heap _
        rw [e0]
        exact ⟨s0, rfl, N0, (Keep.refl h0 [a0c]), V_a0c, hl, hm, hn⟩
  · obtain ⟨cl7, Ar7, q7, S7, N7_, H7, G7⟩ := id (V_a0c)
    have hin7 : ¬ ((0 : Int32) < 0 ∨ cl7.slots.size ≤ ((0 : Int32)).toNatClampNeg) := inb_of S7 ⟨(by decide), (by decide)⟩
    obtain ⟨T7, h7, X7, e7, W7, st7⟩ := stC X0 hx hZ e0 Ar7 (j := (0 : Int32)) hin7 (g := (mkF m 8 #[.val (.ref a0c), .val (.int 0), .val (.int p2), .val (.int 106)] [(.int 106), (.int 0), (.ref a0c)])) rfl rfl (hb hby d1_8)
    have K7 : Keep h0 h7 [a0c] := (Keep.refl h0 [a0c]).wr W7 (Or.inl (List.mem_of_getElem? (i := 0) rfl))
    have O7 := O0.wr W7 g_a0c
    have N7 := Fr.snoc X7 N0 g_a0c
    have V7 : Arv Z h7 a0c k0 .char (6 : Int32) [(.int 106), (.int s1), (.int s2), (.int s3), (.int s4), (.int s5)] (.int 0) := Arv.set Ar7 q7 S7 N7_ H7 G7 (fits_nar_char _) W7 0 rfl (Nat.le_of_ble_eq_true rfl)
    have r1 : ¬ ((255 : Int32) < (106 : Int32)) := (by decide)
    have r2 : ¬ ((106 : Int32) < (0 : Int32)) := (by decide)
    have r3 : nar .char (106 : Int32) = (106 : Int32) := (by decide)
    obtain ⟨fs, hr, hrun, hended, hW, hsame⟩ := X7.leave (v := none) (fun _ => rfl)
    refine ⟨_, _, pre2 _ ?_, hrun, hended, _, _, rfl, ?_, ⟨_, rfl⟩, hW, hsame.mono (by decide) (by decide)⟩
    · show Steps p.tables e below (s₁.setTop (mkF m 2 #[.val (.ref a0c), .val (.int 0), .val (.int p2), .val (.int 106)] [(.int p2), (.int 0)])) _
      refine XS.icmpNo X0.here hx rfl (hb hby d1_2) rfl (feq hc2_1).1 ?_
      refine XS.aloadN X0.here hx rfl (hb hby d1_5) rfl rfl ?_
      refine XS.iloadN X0.here hx rfl (hb hby d1_6) rfl ?_
      refine XS.iloadN X0.here hx rfl (hb hby d1_7) rfl ?_
      show Steps p.tables e below (s₁.setTop (mkF m 8 #[.val (.ref a0c), .val (.int 0), .val (.int p2), .val (.int 106)] [(.int 106), (.int 0), (.ref a0c)])) _
      refine st7 _ ?_
      show Steps p.tables e below (T7.setTop (mkF m 9 #[.val (.ref a0c), .val (.int 0), .val (.int p2), .val (.int 106)] [])) _
      refine XS.goto X7.here hx rfl (pc0 := 9) (pc' := 26) rfl (hb hby d1_9) (by decide) (by decide) ?_
      show Steps p.tables e below (T7.setTop (mkF m 26 #[.val (.ref a0c), .val (.int 0), .val (.int p2), .val (.int 106)] [])) _
      exact X7.returnOut hx Bd.returns (hb hby d1_26) hr
    · show Q_rmPl0 n0 Z cS a0c p2 k0 s0 s1 s2 s3 s4 s5 h0 _ T7.heap _
      rw [e7]
      exact ⟨(106 : Int32), rfl, N7, K7, V7, r1, r2, r3⟩
theorem ef_rmPl1 (m : MethodId) (a0c : Addr) (p2 : Int32) : entryFrame m #[(.ref a0c), (.int 1), (.int p2), (.int 97)] 4 = mkF m 0 #[.val (.ref a0c), .val (.int 1), .val (.int p2), .val (.int 97)] [] := by first | (simp [entryFrame, mkF, argsToLocals, Value.category]; done) | rfl
def Q_rmPl1 (n0 : Nat) (Z : State) (cS : Int32) (a0c : Addr) (p2 : Int32) (k0 : ClassId) (s0 : Int32) (s1 : Int32) (s2 : Int32) (s3 : Int32) (s4 : Int32) (s5 : Int32) (h0 : Heap) (v : Option Value) (h : Heap) (L : List Loc) : Prop := ∃ cn : Int32, v = none ∧ Fr n0 L ∧ Keep h0 h [a0c] ∧ (Arv Z h a0c k0 .char (6 : Int32) [(.int s0), (.int cn), (.int s2), (.int s3), (.int s4), (.int s5)] (.int 0)) ∧ (¬ ((255 : Int32) < cn)) ∧ (¬ (cn < (0 : Int32))) ∧ (nar .char cn = cn)
set_option maxRecDepth 65536 in
set_option maxHeartbeats 40000000 in
theorem rmPl1 (l : Launch) (Z : State) (a0 : Array Value) (hw : ∀ d ∈ tables_1, d.before a0 Z = true) (ws : List Jvm.Cond) (cS : Int32) (a0c : Addr) (p2 : Int32) (k0 : ClassId) (s0 : Int32) (s1 : Int32) (s2 : Int32) (s3 : Int32) (s4 : Int32) (s5 : Int32) (h0 : Heap) (n0 : Nat) (O0 : Old Z n0 h0) (GL : GF Z cS) (V_a0c : Arv Z h0 a0c k0 .char (6 : Int32) [(.int s0), (.int s1), (.int s2), (.int s3), (.int s4), (.int s5)] (.int 0)) (g_a0c : n0 ≤ a0c) (hl : ¬ ((255 : Int32) < s1)) (hm : ¬ (s1 < (0 : Int32))) (hn : nar .char s1 = s1) :
    MetFree l MN_7 (head1 (Jvm.Cond.code MN_7 method_3_code 4 none :: ws) ({ frames := 0, cells := 0, slots := 0, locals := 0 } : Room)) (fun a U => a = #[(.ref a0c), (.int 1), (.int p2), (.int 97)] ∧ Z.Warmed39 U.vm ∧ U.heap = h0) (fun _ _ _ _ _ => True) (fun _ U o U' => ∃ v L, o = .returned v ∧ Q_rmPl1 n0 Z cS a0c p2 k0 s0 s1 s2 s3 s4 s5 h0 v U'.heap L ∧ FrameEnd U o U' L ({ frames := 0, cells := 0, slots := 0, locals := 0 } : Room).cells ({ frames := 0, cells := 0, slots := 0, locals := 0 } : Room).slots) := by
  refine MetFree.of_bodySF (plainFor_of_name pnv2) hisR ?_
  intro p e s m args below meth c s₁ Bd hml0 hP hK
  obtain ⟨rfl, hZ, hh⟩ := hP
  have hx := Bd.exec
  have hby := Bd.bytes
  have hml : c.maxLocals = 4 := hml0
  have hown : s.vm.findClass "com/example/loomwire/loomwire/bundle/JavaPackagesRefusePinLaw" = some m.cls := findClass_of_methodNamed Bd.named
  have hnm := (name_of_methodNamed Bd.named Bd.method).1
  have X0 : Stand p l e ({ frames := 0, cells := 0, slots := 0, locals := 0 } : Room) s m #[(.ref a0c), (.int 1), (.int p2), (.int 97)] below meth c s₁ [] 0 0 := Stand.of_body Bd
  have e0 : s₁.heap = h0 := by rw [← hh, Bd.state]; rfl
  have N0 := Fr.nil n0
  have pre0 : ∀ t, Steps p.tables e below (s₁.setTop (mkF m 0 #[.val (.ref a0c), .val (.int 1), .val (.int p2), .val (.int 97)] [])) t → Steps p.tables e below (s₁.setTop (entryFrame m #[(.ref a0c), (.int 1), (.int p2), (.int 97)] 4)) t := fun t k => castTop (ef_rmPl1 m a0c p2) k
  have GL' := GL
  obtain ⟨GCS, GCP⟩ := GL'
  have pre2 : ∀ t, Steps p.tables e below (s₁.setTop (mkF m 2 #[.val (.ref a0c), .val (.int 1), .val (.int p2), .val (.int 97)] [(.int p2), (.int 1)])) t → Steps p.tables e below (s₁.setTop (entryFrame m #[(.ref a0c), (.int 1), (.int p2), (.int 97)] 4)) t := fun t kt => by
    refine pre0 t ?_
    show Steps p.tables e below (s₁.setTop (mkF m 0 #[.val (.ref a0c), .val (.int 1), .val (.int p2), .val (.int 97)] [])) _
    refine XS.iloadN X0.here hx rfl (hb hby d1_0) rfl ?_
    refine XS.iloadN X0.here hx rfl (hb hby d1_1) rfl ?_
    exact kt
  by_cases hc2_1 : (1 : Int32) = p2
  · obtain ⟨cl3, Ar3, -, S3, N3_, H3, G3⟩ := id (V_a0c)
    have hin3 : ¬ ((1 : Int32) < 0 ∨ cl3.slots.size ≤ ((1 : Int32)).toNatClampNeg) := inb_of S3 ⟨(by decide), (by decide)⟩
    have hat3 : cl3.slots[((1 : Int32)).toNatClampNeg]? = some (.int s1) := H3.at hin3 rfl
    have pre5 : ∀ t, Steps p.tables e below (s₁.setTop (mkF m 16 #[.val (.ref a0c), .val (.int 1), .val (.int p2), .val (.int 97)] [(.int 97), (.int s1)])) t → Steps p.tables e below (s₁.setTop (entryFrame m #[(.ref a0c), (.int 1), (.int p2), (.int 97)] 4)) t := fun t kt => by
      refine pre2 t ?_
      show Steps p.tables e below (s₁.setTop (mkF m 2 #[.val (.ref a0c), .val (.int 1), .val (.int p2), .val (.int 97)] [(.int p2), (.int 1)])) _
      refine XS.icmpYes X0.here hx rfl (pc0 := 2) (pc' := 12) rfl (hb hby d1_2) rfl (teq hc2_1).1 (by decide) (by decide) ?_
      refine XS.aloadN X0.here hx rfl (hb hby d1_12) rfl rfl ?_
      refine XS.iloadN X0.here hx rfl (hb hby d1_13) rfl ?_
      show Steps p.tables e below (s₁.setTop (mkF m 14 #[.val (.ref a0c), .val (.int 1), .val (.int p2), .val (.int 97)] [(.int 1), (.ref a0c)])) _
      refine X0.caload hx (j := (1 : Int32)) (v := (.int s1)) (by rw [e0]; exact Ar3.1) (State.isArrayOf_alike hZ.alike Ar3.2.1) Ar3.2.2 hin3 hat3 (g := (mkF m 14 #[.val (.ref a0c), .val (.int 1), .val (.int p2), .val (.int 97)] [(.int 1), (.ref a0c)])) rfl rfl (hb hby d1_14) _ ?_
      show Steps p.tables e below (s₁.setTop (mkF m 15 #[.val (.ref a0c), .val (.int 1), .val (.int p2), .val (.int 97)] [(.int s1)])) _
      refine XS.iloadN X0.here hx rfl (hb hby d1_15) rfl ?_
      exact kt
    by_cases hc16_4 : s1 = (97 : Int32)
    · obtain ⟨cl6, Ar6, q6, S6, N6_, H6, G6⟩ := id (V_a0c)
      have hin6 : ¬ ((1 : Int32) < 0 ∨ cl6.slots.size ≤ ((1 : Int32)).toNatClampNeg) := inb_of S6 ⟨(by decide), (by decide)⟩
      obtain ⟨T6, h6, X6, e6, W6, st6⟩ := stC X0 hx hZ e0 Ar6 (j := (1 : Int32)) hin6 (g := (mkF m 25 #[.val (.ref a0c), .val (.int 1), .val (.int p2), .val (.int 97)] [(.int 98), (.int 1), (.ref a0c)])) rfl rfl (hb hby d1_25)
      have K6 : Keep h0 h6 [a0c] := (Keep.refl h0 [a0c]).wr W6 (Or.inl (List.mem_of_getElem? (i := 0) rfl))
      have O6 := O0.wr W6 g_a0c
      have N6 := Fr.snoc X6 N0 g_a0c
      have V6 : Arv Z h6 a0c k0 .char (6 : Int32) [(.int s0), (.int 98), (.int s2), (.int s3), (.int s4), (.int s5)] (.int 0) := Arv.set Ar6 q6 S6 N6_ H6 G6 (fits_nar_char _) W6 1 rfl (Nat.le_of_ble_eq_true rfl)
      have r1 : ¬ ((255 : Int32) < (98 : Int32)) := (by decide)
      have r2 : ¬ ((98 : Int32) < (0 : Int32)) := (by decide)
      have r3 : nar .char (98 : Int32) = (98 : Int32) := (by decide)
      obtain ⟨fs, hr, hrun, hended, hW, hsame⟩ := X6.leave (v := none) (fun _ => rfl)
      refine ⟨_, _, pre5 _ ?_, hrun, hended, _, _, rfl, ?_, ⟨_, rfl⟩, hW, hsame.mono (by decide) (by decide)⟩
      · show Steps p.tables e below (s₁.setTop (mkF m 16 #[.val (.ref a0c), .val (.int 1), .val (.int p2), .val (.int 97)] [(.int 97), (.int s1)])) _
        refine XS.icmpNo X0.here hx rfl (hb hby d1_16) rfl (teq hc16_4).2 ?_
        refine XS.aloadN X0.here hx rfl (hb hby d1_19) rfl rfl ?_
        refine XS.iloadN X0.here hx rfl (hb hby d1_20) rfl ?_
        refine XS.iloadN X0.here hx rfl (hb hby d1_21) rfl ?_
        show Steps p.tables e below (s₁.setTop (mkF m 22 #[.val (.ref a0c), .val (.int 1), .val (.int p2), .val (.int 97)] [(.int 97), (.int 1), (.ref a0c)])) _
        refine XS.iconst X0.here hx rfl (hb hby d1_22) ?_
        refine XS.iadd X0.here hx rfl (hb hby d1_23) rfl ?_
        refine XS.i2c X0.here hx rfl (hb hby d1_24) rfl ?_
        show Steps p.tables e below (s₁.setTop (mkF m 25 #[.val (.ref a0c), .val (.int 1), .val (.int p2), .val (.int 97)] [(.int 98), (.int 1), (.ref a0c)])) _
        refine st6 _ ?_
        show Steps p.tables e below (T6.setTop (mkF m 26 #[.val (.ref a0c), .val (.int 1), .val (.int p2), .val (.int 97)] [])) _
        exact X6.returnOut hx Bd.returns (hb hby d1_26) hr
      · show Q_rmPl1 n0 Z cS a0c p2 k0 s0 s1 s2 s3 s4 s5 h0 _ T6.heap _
        rw [e6]
        exact ⟨(98 : Int32), rfl, N6, K6, V6, r1, r2, r3⟩
    · obtain ⟨fs, hr, hrun, hended, hW, hsame⟩ := X0.leave (v := none) (fun _ => rfl)
      refine ⟨_, _, pre5 _ ?_, hrun, hended, _, _, rfl, ?_, ⟨_, rfl⟩, hW, hsame.mono (by decide) (by decide)⟩
      · show Steps p.tables e below (s₁.setTop (mkF m 16 #[.val (.ref a0c), .val (.int 1), .val (.int p2), .val (.int 97)] [(.int 97), (.int s1)])) _
        refine XS.icmpYes X0.here hx rfl (pc0 := 16) (pc' := 26) rfl (hb hby d1_16) rfl (feq hc16_4).2 (by decide) (by decide) ?_
        show Steps p.tables e below (s₁.setTop (mkF m 26 #[.val (.ref a0c), .val (.int 1), .val (.int p2), .val (.int 97)] [])) _
        exact X0.returnOut hx Bd.returns (hb hby d1_26) hr
      · show Q_rmPl1 n0 Z cS a0c p2 k0 s0 s1 s2 s3 s4 s5 h0 _ s₁.heap _
        rw [e0]
        exact ⟨s1, rfl, N0, (Keep.refl h0 [a0c]), V_a0c, hl, hm, hn⟩
  · obtain ⟨cl7, Ar7, q7, S7, N7_, H7, G7⟩ := id (V_a0c)
    have hin7 : ¬ ((1 : Int32) < 0 ∨ cl7.slots.size ≤ ((1 : Int32)).toNatClampNeg) := inb_of S7 ⟨(by decide), (by decide)⟩
    obtain ⟨T7, h7, X7, e7, W7, st7⟩ := stC X0 hx hZ e0 Ar7 (j := (1 : Int32)) hin7 (g := (mkF m 8 #[.val (.ref a0c), .val (.int 1), .val (.int p2), .val (.int 97)] [(.int 97), (.int 1), (.ref a0c)])) rfl rfl (hb hby d1_8)
    have K7 : Keep h0 h7 [a0c] := (Keep.refl h0 [a0c]).wr W7 (Or.inl (List.mem_of_getElem? (i := 0) rfl))
    have O7 := O0.wr W7 g_a0c
    have N7 := Fr.snoc X7 N0 g_a0c
    have V7 : Arv Z h7 a0c k0 .char (6 : Int32) [(.int s0), (.int 97), (.int s2), (.int s3), (.int s4), (.int s5)] (.int 0) := Arv.set Ar7 q7 S7 N7_ H7 G7 (fits_nar_char _) W7 1 rfl (Nat.le_of_ble_eq_true rfl)
    have r1 : ¬ ((255 : Int32) < (97 : Int32)) := (by decide)
    have r2 : ¬ ((97 : Int32) < (0 : Int32)) := (by decide)
    have r3 : nar .char (97 : Int32) = (97 : Int32) := (by decide)
    obtain ⟨fs, hr, hrun, hended, hW, hsame⟩ := X7.leave (v := none) (fun _ => rfl)
    refine ⟨_, _, pre2 _ ?_, hrun, hended, _, _, rfl, ?_, ⟨_, rfl⟩, hW, hsame.mono (by decide) (by decide)⟩
    · show Steps p.tables e below (s₁.setTop (mkF m 2 #[.val (.ref a0c), .val (.int 1), .val (.int p2), .val (.int 97)] [(.int p2), (.int 1)])) _
      refine XS.icmpNo X0.here hx rfl (hb hby d1_2) rfl (feq hc2_1).1 ?_
      refine XS.aloadN X0.here hx rfl (hb hby d1_5) rfl rfl ?_
      refine XS.iloadN X0.here hx rfl (hb hby d1_6) rfl ?_
      refine XS.iloadN X0.here hx rfl (hb hby d1_7) rfl ?_
      show Steps p.tables e below (s₁.setTop (mkF m 8 #[.val (.ref a0c), .val (.int 1), .val (.int p2), .val (.int 97)] [(.int 97), (.int 1), (.ref a0c)])) _
      refine st7 _ ?_
      show Steps p.tables e below (T7.setTop (mkF m 9 #[.val (.ref a0c), .val (.int 1), .val (.int p2), .val (.int 97)] [])) _
      refine XS.goto X7.here hx rfl (pc0 := 9) (pc' := 26) rfl (hb hby d1_9) (by decide) (by decide) ?_
      show Steps p.tables e below (T7.setTop (mkF m 26 #[.val (.ref a0c), .val (.int 1), .val (.int p2), .val (.int 97)] [])) _
      exact X7.returnOut hx Bd.returns (hb hby d1_26) hr
    · show Q_rmPl1 n0 Z cS a0c p2 k0 s0 s1 s2 s3 s4 s5 h0 _ T7.heap _
      rw [e7]
      exact ⟨(97 : Int32), rfl, N7, K7, V7, r1, r2, r3⟩
theorem ef_rmPl2 (m : MethodId) (a0c : Addr) (p2 : Int32) : entryFrame m #[(.ref a0c), (.int 2), (.int p2), (.int 118)] 4 = mkF m 0 #[.val (.ref a0c), .val (.int 2), .val (.int p2), .val (.int 118)] [] := by first | (simp [entryFrame, mkF, argsToLocals, Value.category]; done) | rfl
def Q_rmPl2 (n0 : Nat) (Z : State) (cS : Int32) (a0c : Addr) (p2 : Int32) (k0 : ClassId) (s0 : Int32) (s1 : Int32) (s2 : Int32) (s3 : Int32) (s4 : Int32) (s5 : Int32) (h0 : Heap) (v : Option Value) (h : Heap) (L : List Loc) : Prop := ∃ cn : Int32, v = none ∧ Fr n0 L ∧ Keep h0 h [a0c] ∧ (Arv Z h a0c k0 .char (6 : Int32) [(.int s0), (.int s1), (.int cn), (.int s3), (.int s4), (.int s5)] (.int 0)) ∧ (¬ ((255 : Int32) < cn)) ∧ (¬ (cn < (0 : Int32))) ∧ (nar .char cn = cn)
set_option maxRecDepth 65536 in
set_option maxHeartbeats 40000000 in
theorem rmPl2 (l : Launch) (Z : State) (a0 : Array Value) (hw : ∀ d ∈ tables_1, d.before a0 Z = true) (ws : List Jvm.Cond) (cS : Int32) (a0c : Addr) (p2 : Int32) (k0 : ClassId) (s0 : Int32) (s1 : Int32) (s2 : Int32) (s3 : Int32) (s4 : Int32) (s5 : Int32) (h0 : Heap) (n0 : Nat) (O0 : Old Z n0 h0) (GL : GF Z cS) (V_a0c : Arv Z h0 a0c k0 .char (6 : Int32) [(.int s0), (.int s1), (.int s2), (.int s3), (.int s4), (.int s5)] (.int 0)) (g_a0c : n0 ≤ a0c) (hl : ¬ ((255 : Int32) < s2)) (hm : ¬ (s2 < (0 : Int32))) (hn : nar .char s2 = s2) :
    MetFree l MN_7 (head1 (Jvm.Cond.code MN_7 method_3_code 4 none :: ws) ({ frames := 0, cells := 0, slots := 0, locals := 0 } : Room)) (fun a U => a = #[(.ref a0c), (.int 2), (.int p2), (.int 118)] ∧ Z.Warmed39 U.vm ∧ U.heap = h0) (fun _ _ _ _ _ => True) (fun _ U o U' => ∃ v L, o = .returned v ∧ Q_rmPl2 n0 Z cS a0c p2 k0 s0 s1 s2 s3 s4 s5 h0 v U'.heap L ∧ FrameEnd U o U' L ({ frames := 0, cells := 0, slots := 0, locals := 0 } : Room).cells ({ frames := 0, cells := 0, slots := 0, locals := 0 } : Room).slots) := by
  refine MetFree.of_bodySF (plainFor_of_name pnv2) hisR ?_
  intro p e s m args below meth c s₁ Bd hml0 hP hK
  obtain ⟨rfl, hZ, hh⟩ := hP
  have hx := Bd.exec
  have hby := Bd.bytes
  have hml : c.maxLocals = 4 := hml0
  have hown : s.vm.findClass "com/example/loomwire/loomwire/bundle/JavaPackagesRefusePinLaw" = some m.cls := findClass_of_methodNamed Bd.named
  have hnm := (name_of_methodNamed Bd.named Bd.method).1
  have X0 : Stand p l e ({ frames := 0, cells := 0, slots := 0, locals := 0 } : Room) s m #[(.ref a0c), (.int 2), (.int p2), (.int 118)] below meth c s₁ [] 0 0 := Stand.of_body Bd
  have e0 : s₁.heap = h0 := by rw [← hh, Bd.state]; rfl
  have N0 := Fr.nil n0
  have pre0 : ∀ t, Steps p.tables e below (s₁.setTop (mkF m 0 #[.val (.ref a0c), .val (.int 2), .val (.int p2), .val (.int 118)] [])) t → Steps p.tables e below (s₁.setTop (entryFrame m #[(.ref a0c), (.int 2), (.int p2), (.int 118)] 4)) t := fun t k => castTop (ef_rmPl2 m a0c p2) k
  have GL' := GL
  obtain ⟨GCS, GCP⟩ := GL'
  have pre2 : ∀ t, Steps p.tables e below (s₁.setTop (mkF m 2 #[.val (.ref a0c), .val (.int 2), .val (.int p2), .val (.int 118)] [(.int p2), (.int 2)])) t → Steps p.tables e below (s₁.setTop (entryFrame m #[(.ref a0c), (.int 2), (.int p2), (.int 118)] 4)) t := fun t kt => by
    refine pre0 t ?_
    show Steps p.tables e below (s₁.setTop (mkF m 0 #[.val (.ref a0c), .val (.int 2), .val (.int p2), .val (.int 118)] [])) _
    refine XS.iloadN X0.here hx rfl (hb hby d1_0) rfl ?_
    refine XS.iloadN X0.here hx rfl (hb hby d1_1) rfl ?_
    exact kt
  by_cases hc2_1 : (2 : Int32) = p2
  · obtain ⟨cl3, Ar3, -, S3, N3_, H3, G3⟩ := id (V_a0c)
    have hin3 : ¬ ((2 : Int32) < 0 ∨ cl3.slots.size ≤ ((2 : Int32)).toNatClampNeg) := inb_of S3 ⟨(by decide), (by decide)⟩
    have hat3 : cl3.slots[((2 : Int32)).toNatClampNeg]? = some (.int s2) := H3.at hin3 rfl
    have pre5 : ∀ t, Steps p.tables e below (s₁.setTop (mkF m 16 #[.val (.ref a0c), .val (.int 2), .val (.int p2), .val (.int 118)] [(.int 118), (.int s2)])) t → Steps p.tables e below (s₁.setTop (entryFrame m #[(.ref a0c), (.int 2), (.int p2), (.int 118)] 4)) t := fun t kt => by
      refine pre2 t ?_
      show Steps p.tables e below (s₁.setTop (mkF m 2 #[.val (.ref a0c), .val (.int 2), .val (.int p2), .val (.int 118)] [(.int p2), (.int 2)])) _
      refine XS.icmpYes X0.here hx rfl (pc0 := 2) (pc' := 12) rfl (hb hby d1_2) rfl (teq hc2_1).1 (by decide) (by decide) ?_
      refine XS.aloadN X0.here hx rfl (hb hby d1_12) rfl rfl ?_
      refine XS.iloadN X0.here hx rfl (hb hby d1_13) rfl ?_
      show Steps p.tables e below (s₁.setTop (mkF m 14 #[.val (.ref a0c), .val (.int 2), .val (.int p2), .val (.int 118)] [(.int 2), (.ref a0c)])) _
      refine X0.caload hx (j := (2 : Int32)) (v := (.int s2)) (by rw [e0]; exact Ar3.1) (State.isArrayOf_alike hZ.alike Ar3.2.1) Ar3.2.2 hin3 hat3 (g := (mkF m 14 #[.val (.ref a0c), .val (.int 2), .val (.int p2), .val (.int 118)] [(.int 2), (.ref a0c)])) rfl rfl (hb hby d1_14) _ ?_
      show Steps p.tables e below (s₁.setTop (mkF m 15 #[.val (.ref a0c), .val (.int 2), .val (.int p2), .val (.int 118)] [(.int s2)])) _
      refine XS.iloadN X0.here hx rfl (hb hby d1_15) rfl ?_
      exact kt
    by_cases hc16_4 : s2 = (118 : Int32)
    · obtain ⟨cl6, Ar6, q6, S6, N6_, H6, G6⟩ := id (V_a0c)
      have hin6 : ¬ ((2 : Int32) < 0 ∨ cl6.slots.size ≤ ((2 : Int32)).toNatClampNeg) := inb_of S6 ⟨(by decide), (by decide)⟩
      obtain ⟨T6, h6, X6, e6, W6, st6⟩ := stC X0 hx hZ e0 Ar6 (j := (2 : Int32)) hin6 (g := (mkF m 25 #[.val (.ref a0c), .val (.int 2), .val (.int p2), .val (.int 118)] [(.int 119), (.int 2), (.ref a0c)])) rfl rfl (hb hby d1_25)
      have K6 : Keep h0 h6 [a0c] := (Keep.refl h0 [a0c]).wr W6 (Or.inl (List.mem_of_getElem? (i := 0) rfl))
      have O6 := O0.wr W6 g_a0c
      have N6 := Fr.snoc X6 N0 g_a0c
      have V6 : Arv Z h6 a0c k0 .char (6 : Int32) [(.int s0), (.int s1), (.int 119), (.int s3), (.int s4), (.int s5)] (.int 0) := Arv.set Ar6 q6 S6 N6_ H6 G6 (fits_nar_char _) W6 2 rfl (Nat.le_of_ble_eq_true rfl)
      have r1 : ¬ ((255 : Int32) < (119 : Int32)) := (by decide)
      have r2 : ¬ ((119 : Int32) < (0 : Int32)) := (by decide)
      have r3 : nar .char (119 : Int32) = (119 : Int32) := (by decide)
      obtain ⟨fs, hr, hrun, hended, hW, hsame⟩ := X6.leave (v := none) (fun _ => rfl)
      refine ⟨_, _, pre5 _ ?_, hrun, hended, _, _, rfl, ?_, ⟨_, rfl⟩, hW, hsame.mono (by decide) (by decide)⟩
      · show Steps p.tables e below (s₁.setTop (mkF m 16 #[.val (.ref a0c), .val (.int 2), .val (.int p2), .val (.int 118)] [(.int 118), (.int s2)])) _
        refine XS.icmpNo X0.here hx rfl (hb hby d1_16) rfl (teq hc16_4).2 ?_
        refine XS.aloadN X0.here hx rfl (hb hby d1_19) rfl rfl ?_
        refine XS.iloadN X0.here hx rfl (hb hby d1_20) rfl ?_
        refine XS.iloadN X0.here hx rfl (hb hby d1_21) rfl ?_
        show Steps p.tables e below (s₁.setTop (mkF m 22 #[.val (.ref a0c), .val (.int 2), .val (.int p2), .val (.int 118)] [(.int 118), (.int 2), (.ref a0c)])) _
        refine XS.iconst X0.here hx rfl (hb hby d1_22) ?_
        refine XS.iadd X0.here hx rfl (hb hby d1_23) rfl ?_
        refine XS.i2c X0.here hx rfl (hb hby d1_24) rfl ?_
        show Steps p.tables e below (s₁.setTop (mkF m 25 #[.val (.ref a0c), .val (.int 2), .val (.int p2), .val (.int 118)] [(.int 119), (.int 2), (.ref a0c)])) _
        refine st6 _ ?_
        show Steps p.tables e below (T6.setTop (mkF m 26 #[.val (.ref a0c), .val (.int 2), .val (.int p2), .val (.int 118)] [])) _
        exact X6.returnOut hx Bd.returns (hb hby d1_26) hr
      · show Q_rmPl2 n0 Z cS a0c p2 k0 s0 s1 s2 s3 s4 s5 h0 _ T6.heap _
        rw [e6]
        exact ⟨(119 : Int32), rfl, N6, K6, V6, r1, r2, r3⟩
    · obtain ⟨fs, hr, hrun, hended, hW, hsame⟩ := X0.leave (v := none) (fun _ => rfl)
      refine ⟨_, _, pre5 _ ?_, hrun, hended, _, _, rfl, ?_, ⟨_, rfl⟩, hW, hsame.mono (by decide) (by decide)⟩
      · show Steps p.tables e below (s₁.setTop (mkF m 16 #[.val (.ref a0c), .val (.int 2), .val (.int p2), .val (.int 118)] [(.int 118), (.int s2)])) _
        refine XS.icmpYes X0.here hx rfl (pc0 := 16) (pc' := 26) rfl (hb hby d1_16) rfl (feq hc16_4).2 (by decide) (by decide) ?_
        show Steps p.tables e below (s₁.setTop (mkF m 26 #[.val (.ref a0c), .val (.int 2), .val (.int p2), .val (.int 118)] [])) _
        exact X0.returnOut hx Bd.returns (hb hby d1_26) hr
      · show Q_rmPl2 n0 Z cS a0c p2 k0 s0 s1 s2 s3 s4 s5 h0 _ s₁.heap _
        rw [e0]
        exact ⟨s2, rfl, N0, (Keep.refl h0 [a0c]), V_a0c, hl, hm, hn⟩
  · obtain ⟨cl7, Ar7, q7, S7, N7_, H7, G7⟩ := id (V_a0c)
    have hin7 : ¬ ((2 : Int32) < 0 ∨ cl7.slots.size ≤ ((2 : Int32)).toNatClampNeg) := inb_of S7 ⟨(by decide), (by decide)⟩
    obtain ⟨T7, h7, X7, e7, W7, st7⟩ := stC X0 hx hZ e0 Ar7 (j := (2 : Int32)) hin7 (g := (mkF m 8 #[.val (.ref a0c), .val (.int 2), .val (.int p2), .val (.int 118)] [(.int 118), (.int 2), (.ref a0c)])) rfl rfl (hb hby d1_8)
    have K7 : Keep h0 h7 [a0c] := (Keep.refl h0 [a0c]).wr W7 (Or.inl (List.mem_of_getElem? (i := 0) rfl))
    have O7 := O0.wr W7 g_a0c
    have N7 := Fr.snoc X7 N0 g_a0c
    have V7 : Arv Z h7 a0c k0 .char (6 : Int32) [(.int s0), (.int s1), (.int 118), (.int s3), (.int s4), (.int s5)] (.int 0) := Arv.set Ar7 q7 S7 N7_ H7 G7 (fits_nar_char _) W7 2 rfl (Nat.le_of_ble_eq_true rfl)
    have r1 : ¬ ((255 : Int32) < (118 : Int32)) := (by decide)
    have r2 : ¬ ((118 : Int32) < (0 : Int32)) := (by decide)
    have r3 : nar .char (118 : Int32) = (118 : Int32) := (by decide)
    obtain ⟨fs, hr, hrun, hended, hW, hsame⟩ := X7.leave (v := none) (fun _ => rfl)
    refine ⟨_, _, pre2 _ ?_, hrun, hended, _, _, rfl, ?_, ⟨_, rfl⟩, hW, hsame.mono (by decide) (by decide)⟩
    · show Steps p.tables e below (s₁.setTop (mkF m 2 #[.val (.ref a0c), .val (.int 2), .val (.int p2), .val (.int 118)] [(.int p2), (.int 2)])) _
      refine XS.icmpNo X0.here hx rfl (hb hby d1_2) rfl (feq hc2_1).1 ?_
      refine XS.aloadN X0.here hx rfl (hb hby d1_5) rfl rfl ?_
      refine XS.iloadN X0.here hx rfl (hb hby d1_6) rfl ?_
      refine XS.iloadN X0.here hx rfl (hb hby d1_7) rfl ?_
      show Steps p.tables e below (s₁.setTop (mkF m 8 #[.val (.ref a0c), .val (.int 2), .val (.int p2), .val (.int 118)] [(.int 118), (.int 2), (.ref a0c)])) _
      refine st7 _ ?_
      show Steps p.tables e below (T7.setTop (mkF m 9 #[.val (.ref a0c), .val (.int 2), .val (.int p2), .val (.int 118)] [])) _
      refine XS.goto X7.here hx rfl (pc0 := 9) (pc' := 26) rfl (hb hby d1_9) (by decide) (by decide) ?_
      show Steps p.tables e below (T7.setTop (mkF m 26 #[.val (.ref a0c), .val (.int 2), .val (.int p2), .val (.int 118)] [])) _
      exact X7.returnOut hx Bd.returns (hb hby d1_26) hr
    · show Q_rmPl2 n0 Z cS a0c p2 k0 s0 s1 s2 s3 s4 s5 h0 _ T7.heap _
      rw [e7]
      exact ⟨(118 : Int32), rfl, N7, K7, V7, r1, r2, r3⟩
theorem ef_rmPl3 (m : MethodId) (a0c : Addr) (p2 : Int32) : entryFrame m #[(.ref a0c), (.int 3), (.int p2), (.int 97)] 4 = mkF m 0 #[.val (.ref a0c), .val (.int 3), .val (.int p2), .val (.int 97)] [] := by first | (simp [entryFrame, mkF, argsToLocals, Value.category]; done) | rfl
def Q_rmPl3 (n0 : Nat) (Z : State) (cS : Int32) (a0c : Addr) (p2 : Int32) (k0 : ClassId) (s0 : Int32) (s1 : Int32) (s2 : Int32) (s3 : Int32) (s4 : Int32) (s5 : Int32) (h0 : Heap) (v : Option Value) (h : Heap) (L : List Loc) : Prop := ∃ cn : Int32, v = none ∧ Fr n0 L ∧ Keep h0 h [a0c] ∧ (Arv Z h a0c k0 .char (6 : Int32) [(.int s0), (.int s1), (.int s2), (.int cn), (.int s4), (.int s5)] (.int 0)) ∧ (¬ ((255 : Int32) < cn)) ∧ (¬ (cn < (0 : Int32))) ∧ (nar .char cn = cn)
set_option maxRecDepth 65536 in
set_option maxHeartbeats 40000000 in
theorem rmPl3 (l : Launch) (Z : State) (a0 : Array Value) (hw : ∀ d ∈ tables_1, d.before a0 Z = true) (ws : List Jvm.Cond) (cS : Int32) (a0c : Addr) (p2 : Int32) (k0 : ClassId) (s0 : Int32) (s1 : Int32) (s2 : Int32) (s3 : Int32) (s4 : Int32) (s5 : Int32) (h0 : Heap) (n0 : Nat) (O0 : Old Z n0 h0) (GL : GF Z cS) (V_a0c : Arv Z h0 a0c k0 .char (6 : Int32) [(.int s0), (.int s1), (.int s2), (.int s3), (.int s4), (.int s5)] (.int 0)) (g_a0c : n0 ≤ a0c) (hl : ¬ ((255 : Int32) < s3)) (hm : ¬ (s3 < (0 : Int32))) (hn : nar .char s3 = s3) :
    MetFree l MN_7 (head1 (Jvm.Cond.code MN_7 method_3_code 4 none :: ws) ({ frames := 0, cells := 0, slots := 0, locals := 0 } : Room)) (fun a U => a = #[(.ref a0c), (.int 3), (.int p2), (.int 97)] ∧ Z.Warmed39 U.vm ∧ U.heap = h0) (fun _ _ _ _ _ => True) (fun _ U o U' => ∃ v L, o = .returned v ∧ Q_rmPl3 n0 Z cS a0c p2 k0 s0 s1 s2 s3 s4 s5 h0 v U'.heap L ∧ FrameEnd U o U' L ({ frames := 0, cells := 0, slots := 0, locals := 0 } : Room).cells ({ frames := 0, cells := 0, slots := 0, locals := 0 } : Room).slots) := by
  refine MetFree.of_bodySF (plainFor_of_name pnv2) hisR ?_
  intro p e s m args below meth c s₁ Bd hml0 hP hK
  obtain ⟨rfl, hZ, hh⟩ := hP
  have hx := Bd.exec
  have hby := Bd.bytes
  have hml : c.maxLocals = 4 := hml0
  have hown : s.vm.findClass "com/example/loomwire/loomwire/bundle/JavaPackagesRefusePinLaw" = some m.cls := findClass_of_methodNamed Bd.named
  have hnm := (name_of_methodNamed Bd.named Bd.method).1
  have X0 : Stand p l e ({ frames := 0, cells := 0, slots := 0, locals := 0 } : Room) s m #[(.ref a0c), (.int 3), (.int p2), (.int 97)] below meth c s₁ [] 0 0 := Stand.of_body Bd
  have e0 : s₁.heap = h0 := by rw [← hh, Bd.state]; rfl
  have N0 := Fr.nil n0
  have pre0 : ∀ t, Steps p.tables e below (s₁.setTop (mkF m 0 #[.val (.ref a0c), .val (.int 3), .val (.int p2), .val (.int 97)] [])) t → Steps p.tables e below (s₁.setTop (entryFrame m #[(.ref a0c), (.int 3), (.int p2), (.int 97)] 4)) t := fun t k => castTop (ef_rmPl3 m a0c p2) k
  have GL' := GL
  obtain ⟨GCS, GCP⟩ := GL'
  have pre2 : ∀ t, Steps p.tables e below (s₁.setTop (mkF m 2 #[.val (.ref a0c), .val (.int 3), .val (.int p2), .val (.int 97)] [(.int p2), (.int 3)])) t → Steps p.tables e below (s₁.setTop (entryFrame m #[(.ref a0c), (.int 3), (.int p2), (.int 97)] 4)) t := fun t kt => by
    refine pre0 t ?_
    show Steps p.tables e below (s₁.setTop (mkF m 0 #[.val (.ref a0c), .val (.int 3), .val (.int p2), .val (.int 97)] [])) _
    refine XS.iloadN X0.here hx rfl (hb hby d1_0) rfl ?_
    refine XS.iloadN X0.here hx rfl (hb hby d1_1) rfl ?_
    exact kt
  by_cases hc2_1 : (3 : Int32) = p2
  · obtain ⟨cl3, Ar3, -, S3, N3_, H3, G3⟩ := id (V_a0c)
    have hin3 : ¬ ((3 : Int32) < 0 ∨ cl3.slots.size ≤ ((3 : Int32)).toNatClampNeg) := inb_of S3 ⟨(by decide), (by decide)⟩
    have hat3 : cl3.slots[((3 : Int32)).toNatClampNeg]? = some (.int s3) := H3.at hin3 rfl
    have pre5 : ∀ t, Steps p.tables e below (s₁.setTop (mkF m 16 #[.val (.ref a0c), .val (.int 3), .val (.int p2), .val (.int 97)] [(.int 97), (.int s3)])) t → Steps p.tables e below (s₁.setTop (entryFrame m #[(.ref a0c), (.int 3), (.int p2), (.int 97)] 4)) t := fun t kt => by
      refine pre2 t ?_
      show Steps p.tables e below (s₁.setTop (mkF m 2 #[.val (.ref a0c), .val (.int 3), .val (.int p2), .val (.int 97)] [(.int p2), (.int 3)])) _
      refine XS.icmpYes X0.here hx rfl (pc0 := 2) (pc' := 12) rfl (hb hby d1_2) rfl (teq hc2_1).1 (by decide) (by decide) ?_
      refine XS.aloadN X0.here hx rfl (hb hby d1_12) rfl rfl ?_
      refine XS.iloadN X0.here hx rfl (hb hby d1_13) rfl ?_
      show Steps p.tables e below (s₁.setTop (mkF m 14 #[.val (.ref a0c), .val (.int 3), .val (.int p2), .val (.int 97)] [(.int 3), (.ref a0c)])) _
      refine X0.caload hx (j := (3 : Int32)) (v := (.int s3)) (by rw [e0]; exact Ar3.1) (State.isArrayOf_alike hZ.alike Ar3.2.1) Ar3.2.2 hin3 hat3 (g := (mkF m 14 #[.val (.ref a0c), .val (.int 3), .val (.int p2), .val (.int 97)] [(.int 3), (.ref a0c)])) rfl rfl (hb hby d1_14) _ ?_
      show Steps p.tables e below (s₁.setTop (mkF m 15 #[.val (.ref a0c), .val (.int 3), .val (.int p2), .val (.int 97)] [(.int s3)])) _
      refine XS.iloadN X0.here hx rfl (hb hby d1_15) rfl ?_
      exact kt
    by_cases hc16_4 : s3 = (97 : Int32)
    · obtain ⟨cl6, Ar6, q6, S6, N6_, H6, G6⟩ := id (V_a0c)
      have hin6 : ¬ ((3 : Int32) < 0 ∨ cl6.slots.size ≤ ((3 : Int32)).toNatClampNeg) := inb_of S6 ⟨(by decide), (by decide)⟩
      obtain ⟨T6, h6, X6, e6, W6, st6⟩ := stC X0 hx hZ e0 Ar6 (j := (3 : Int32)) hin6 (g := (mkF m 25 #[.val (.ref a0c), .val (.int 3), .val (.int p2), .val (.int 97)] [(.int 98), (.int 3), (.ref a0c)])) rfl rfl (hb hby d1_25)
      have K6 : Keep h0 h6 [a0c] := (Keep.refl h0 [a0c]).wr W6 (Or.inl (List.mem_of_getElem? (i := 0) rfl))
      have O6 := O0.wr W6 g_a0c
      have N6 := Fr.snoc X6 N0 g_a0c
      have V6 : Arv Z h6 a0c k0 .char (6 : Int32) [(.int s0), (.int s1), (.int s2), (.int 98), (.int s4), (.int s5)] (.int 0) := Arv.set Ar6 q6 S6 N6_ H6 G6 (fits_nar_char _) W6 3 rfl (Nat.le_of_ble_eq_true rfl)
      have r1 : ¬ ((255 : Int32) < (98 : Int32)) := (by decide)
      have r2 : ¬ ((98 : Int32) < (0 : Int32)) := (by decide)
      have r3 : nar .char (98 : Int32) = (98 : Int32) := (by decide)
      obtain ⟨fs, hr, hrun, hended, hW, hsame⟩ := X6.leave (v := none) (fun _ => rfl)
      refine ⟨_, _, pre5 _ ?_, hrun, hended, _, _, rfl, ?_, ⟨_, rfl⟩, hW, hsame.mono (by decide) (by decide)⟩
      · show Steps p.tables e below (s₁.setTop (mkF m 16 #[.val (.ref a0c), .val (.int 3), .val (.int p2), .val (.int 97)] [(.int 97), (.int s3)])) _
        refine XS.icmpNo X0.here hx rfl (hb hby d1_16) rfl (teq hc16_4).2 ?_
        refine XS.aloadN X0.here hx rfl (hb hby d1_19) rfl rfl ?_
        refine XS.iloadN X0.here hx rfl (hb hby d1_20) rfl ?_
        refine XS.iloadN X0.here hx rfl (hb hby d1_21) rfl ?_
        show Steps p.tables e below (s₁.setTop (mkF m 22 #[.val (.ref a0c), .val (.int 3), .val (.int p2), .val (.int 97)] [(.int 97), (.int 3), (.ref a0c)])) _
        refine XS.iconst X0.here hx rfl (hb hby d1_22) ?_
        refine XS.iadd X0.here hx rfl (hb hby d1_23) rfl ?_
        refine XS.i2c X0.here hx rfl (hb hby d1_24) rfl ?_
        show Steps p.tables e below (s₁.setTop (mkF m 25 #[.val (.ref a0c), .val (.int 3), .val (.int p2), .val (.int 97)] [(.int 98), (.int 3), (.ref a0c)])) _
        refine st6 _ ?_
        show Steps p.tables e below (T6.setTop (mkF m 26 #[.val (.ref a0c), .val (.int 3), .val (.int p2), .val (.int 97)] [])) _
        exact X6.returnOut hx Bd.returns (hb hby d1_26) hr
      · show Q_rmPl3 n0 Z cS a0c p2 k0 s0 s1 s2 s3 s4 s5 h0 _ T6.heap _
        rw [e6]
        exact ⟨(98 : Int32), rfl, N6, K6, V6, r1, r2, r3⟩
    · obtain ⟨fs, hr, hrun, hended, hW, hsame⟩ := X0.leave (v := none) (fun _ => rfl)
      refine ⟨_, _, pre5 _ ?_, hrun, hended, _, _, rfl, ?_, ⟨_, rfl⟩, hW, hsame.mono (by decide) (by decide)⟩
      · show Steps p.tables e below (s₁.setTop (mkF m 16 #[.val (.ref a0c), .val (.int 3), .val (.int p2), .val (.int 97)] [(.int 97), (.int s3)])) _
        refine XS.icmpYes X0.here hx rfl (pc0 := 16) (pc' := 26) rfl (hb hby d1_16) rfl (feq hc16_4).2 (by decide) (by decide) ?_
        show Steps p.tables e below (s₁.setTop (mkF m 26 #[.val (.ref a0c), .val (.int 3), .val (.int p2), .val (.int 97)] [])) _
        exact X0.returnOut hx Bd.returns (hb hby d1_26) hr
      · show Q_rmPl3 n0 Z cS a0c p2 k0 s0 s1 s2 s3 s4 s5 h0 _ s₁.heap _
        rw [e0]
        exact ⟨s3, rfl, N0, (Keep.refl h0 [a0c]), V_a0c, hl, hm, hn⟩
  · obtain ⟨cl7, Ar7, q7, S7, N7_, H7, G7⟩ := id (V_a0c)
    have hin7 : ¬ ((3 : Int32) < 0 ∨ cl7.slots.size ≤ ((3 : Int32)).toNatClampNeg) := inb_of S7 ⟨(by decide), (by decide)⟩
    obtain ⟨T7, h7, X7, e7, W7, st7⟩ := stC X0 hx hZ e0 Ar7 (j := (3 : Int32)) hin7 (g := (mkF m 8 #[.val (.ref a0c), .val (.int 3), .val (.int p2), .val (.int 97)] [(.int 97), (.int 3), (.ref a0c)])) rfl rfl (hb hby d1_8)
    have K7 : Keep h0 h7 [a0c] := (Keep.refl h0 [a0c]).wr W7 (Or.inl (List.mem_of_getElem? (i := 0) rfl))
    have O7 := O0.wr W7 g_a0c
    have N7 := Fr.snoc X7 N0 g_a0c
    have V7 : Arv Z h7 a0c k0 .char (6 : Int32) [(.int s0), (.int s1), (.int s2), (.int 97), (.int s4), (.int s5)] (.int 0) := Arv.set Ar7 q7 S7 N7_ H7 G7 (fits_nar_char _) W7 3 rfl (Nat.le_of_ble_eq_true rfl)
    have r1 : ¬ ((255 : Int32) < (97 : Int32)) := (by decide)
    have r2 : ¬ ((97 : Int32) < (0 : Int32)) := (by decide)
    have r3 : nar .char (97 : Int32) = (97 : Int32) := (by decide)
    obtain ⟨fs, hr, hrun, hended, hW, hsame⟩ := X7.leave (v := none) (fun _ => rfl)
    refine ⟨_, _, pre2 _ ?_, hrun, hended, _, _, rfl, ?_, ⟨_, rfl⟩, hW, hsame.mono (by decide) (by decide)⟩
    · show Steps p.tables e below (s₁.setTop (mkF m 2 #[.val (.ref a0c), .val (.int 3), .val (.int p2), .val (.int 97)] [(.int p2), (.int 3)])) _
      refine XS.icmpNo X0.here hx rfl (hb hby d1_2) rfl (feq hc2_1).1 ?_
      refine XS.aloadN X0.here hx rfl (hb hby d1_5) rfl rfl ?_
      refine XS.iloadN X0.here hx rfl (hb hby d1_6) rfl ?_
      refine XS.iloadN X0.here hx rfl (hb hby d1_7) rfl ?_
      show Steps p.tables e below (s₁.setTop (mkF m 8 #[.val (.ref a0c), .val (.int 3), .val (.int p2), .val (.int 97)] [(.int 97), (.int 3), (.ref a0c)])) _
      refine st7 _ ?_
      show Steps p.tables e below (T7.setTop (mkF m 9 #[.val (.ref a0c), .val (.int 3), .val (.int p2), .val (.int 97)] [])) _
      refine XS.goto X7.here hx rfl (pc0 := 9) (pc' := 26) rfl (hb hby d1_9) (by decide) (by decide) ?_
      show Steps p.tables e below (T7.setTop (mkF m 26 #[.val (.ref a0c), .val (.int 3), .val (.int p2), .val (.int 97)] [])) _
      exact X7.returnOut hx Bd.returns (hb hby d1_26) hr
    · show Q_rmPl3 n0 Z cS a0c p2 k0 s0 s1 s2 s3 s4 s5 h0 _ T7.heap _
      rw [e7]
      exact ⟨(97 : Int32), rfl, N7, K7, V7, r1, r2, r3⟩
theorem ef_rmPl4 (m : MethodId) (a0c : Addr) (p2 : Int32) : entryFrame m #[(.ref a0c), (.int 4), (.int p2), (.int 46)] 4 = mkF m 0 #[.val (.ref a0c), .val (.int 4), .val (.int p2), .val (.int 46)] [] := by first | (simp [entryFrame, mkF, argsToLocals, Value.category]; done) | rfl
def Q_rmPl4 (n0 : Nat) (Z : State) (cS : Int32) (a0c : Addr) (p2 : Int32) (k0 : ClassId) (s0 : Int32) (s1 : Int32) (s2 : Int32) (s3 : Int32) (s4 : Int32) (s5 : Int32) (h0 : Heap) (v : Option Value) (h : Heap) (L : List Loc) : Prop := ∃ cn : Int32, v = none ∧ Fr n0 L ∧ Keep h0 h [a0c] ∧ (Arv Z h a0c k0 .char (6 : Int32) [(.int s0), (.int s1), (.int s2), (.int s3), (.int cn), (.int s5)] (.int 0)) ∧ (¬ ((255 : Int32) < cn)) ∧ (¬ (cn < (0 : Int32))) ∧ (nar .char cn = cn)
set_option maxRecDepth 65536 in
set_option maxHeartbeats 40000000 in
theorem rmPl4 (l : Launch) (Z : State) (a0 : Array Value) (hw : ∀ d ∈ tables_1, d.before a0 Z = true) (ws : List Jvm.Cond) (cS : Int32) (a0c : Addr) (p2 : Int32) (k0 : ClassId) (s0 : Int32) (s1 : Int32) (s2 : Int32) (s3 : Int32) (s4 : Int32) (s5 : Int32) (h0 : Heap) (n0 : Nat) (O0 : Old Z n0 h0) (GL : GF Z cS) (V_a0c : Arv Z h0 a0c k0 .char (6 : Int32) [(.int s0), (.int s1), (.int s2), (.int s3), (.int s4), (.int s5)] (.int 0)) (g_a0c : n0 ≤ a0c) (hl : ¬ ((255 : Int32) < s4)) (hm : ¬ (s4 < (0 : Int32))) (hn : nar .char s4 = s4) :
    MetFree l MN_7 (head1 (Jvm.Cond.code MN_7 method_3_code 4 none :: ws) ({ frames := 0, cells := 0, slots := 0, locals := 0 } : Room)) (fun a U => a = #[(.ref a0c), (.int 4), (.int p2), (.int 46)] ∧ Z.Warmed39 U.vm ∧ U.heap = h0) (fun _ _ _ _ _ => True) (fun _ U o U' => ∃ v L, o = .returned v ∧ Q_rmPl4 n0 Z cS a0c p2 k0 s0 s1 s2 s3 s4 s5 h0 v U'.heap L ∧ FrameEnd U o U' L ({ frames := 0, cells := 0, slots := 0, locals := 0 } : Room).cells ({ frames := 0, cells := 0, slots := 0, locals := 0 } : Room).slots) := by
  refine MetFree.of_bodySF (plainFor_of_name pnv2) hisR ?_
  intro p e s m args below meth c s₁ Bd hml0 hP hK
  obtain ⟨rfl, hZ, hh⟩ := hP
  have hx := Bd.exec
  have hby := Bd.bytes
  have hml : c.maxLocals = 4 := hml0
  have hown : s.vm.findClass "com/example/loomwire/loomwire/bundle/JavaPackagesRefusePinLaw" = some m.cls := findClass_of_methodNamed Bd.named
  have hnm := (name_of_methodNamed Bd.named Bd.method).1
  have X0 : Stand p l e ({ frames := 0, cells := 0, slots := 0, locals := 0 } : Room) s m #[(.ref a0c), (.int 4), (.int p2), (.int 46)] below meth c s₁ [] 0 0 := Stand.of_body Bd
  have e0 : s₁.heap = h0 := by rw [← hh, Bd.state]; rfl
  have N0 := Fr.nil n0
  have pre0 : ∀ t, Steps p.tables e below (s₁.setTop (mkF m 0 #[.val (.ref a0c), .val (.int 4), .val (.int p2), .val (.int 46)] [])) t → Steps p.tables e below (s₁.setTop (entryFrame m #[(.ref a0c), (.int 4), (.int p2), (.int 46)] 4)) t := fun t k => castTop (ef_rmPl4 m a0c p2) k
  have GL' := GL
  obtain ⟨GCS, GCP⟩ := GL'
  have pre2 : ∀ t, Steps p.tables e below (s₁.setTop (mkF m 2 #[.val (.ref a0c), .val (.int 4), .val (.int p2), .val (.int 46)] [(.int p2), (.int 4)])) t → Steps p.tables e below (s₁.setTop (entryFrame m #[(.ref a0c), (.int 4), (.int p2), (.int 46)] 4)) t := fun t kt => by
    refine pre0 t ?_
    show Steps p.tables e below (s₁.setTop (mkF m 0 #[.val (.ref a0c), .val (.int 4), .val (.int p2), .val (.int 46)] [])) _
    refine XS.iloadN X0.here hx rfl (hb hby d1_0) rfl ?_
    refine XS.iloadN X0.here hx rfl (hb hby d1_1) rfl ?_
    exact kt
  by_cases hc2_1 : (4 : Int32) = p2
  · obtain ⟨cl3, Ar3, -, S3, N3_, H3, G3⟩ := id (V_a0c)
    have hin3 : ¬ ((4 : Int32) < 0 ∨ cl3.slots.size ≤ ((4 : Int32)).toNatClampNeg) := inb_of S3 ⟨(by decide), (by decide)⟩
    have hat3 : cl3.slots[((4 : Int32)).toNatClampNeg]? = some (.int s4) := H3.at hin3 rfl
    have pre5 : ∀ t, Steps p.tables e below (s₁.setTop (mkF m 16 #[.val (.ref a0c), .val (.int 4), .val (.int p2), .val (.int 46)] [(.int 46), (.int s4)])) t → Steps p.tables e below (s₁.setTop (entryFrame m #[(.ref a0c), (.int 4), (.int p2), (.int 46)] 4)) t := fun t kt => by
      refine pre2 t ?_
      show Steps p.tables e below (s₁.setTop (mkF m 2 #[.val (.ref a0c), .val (.int 4), .val (.int p2), .val (.int 46)] [(.int p2), (.int 4)])) _
      refine XS.icmpYes X0.here hx rfl (pc0 := 2) (pc' := 12) rfl (hb hby d1_2) rfl (teq hc2_1).1 (by decide) (by decide) ?_
      refine XS.aloadN X0.here hx rfl (hb hby d1_12) rfl rfl ?_
      refine XS.iloadN X0.here hx rfl (hb hby d1_13) rfl ?_
      show Steps p.tables e below (s₁.setTop (mkF m 14 #[.val (.ref a0c), .val (.int 4), .val (.int p2), .val (.int 46)] [(.int 4), (.ref a0c)])) _
      refine X0.caload hx (j := (4 : Int32)) (v := (.int s4)) (by rw [e0]; exact Ar3.1) (State.isArrayOf_alike hZ.alike Ar3.2.1) Ar3.2.2 hin3 hat3 (g := (mkF m 14 #[.val (.ref a0c), .val (.int 4), .val (.int p2), .val (.int 46)] [(.int 4), (.ref a0c)])) rfl rfl (hb hby d1_14) _ ?_
      show Steps p.tables e below (s₁.setTop (mkF m 15 #[.val (.ref a0c), .val (.int 4), .val (.int p2), .val (.int 46)] [(.int s4)])) _
      refine XS.iloadN X0.here hx rfl (hb hby d1_15) rfl ?_
      exact kt
    by_cases hc16_4 : s4 = (46 : Int32)
    · obtain ⟨cl6, Ar6, q6, S6, N6_, H6, G6⟩ := id (V_a0c)
      have hin6 : ¬ ((4 : Int32) < 0 ∨ cl6.slots.size ≤ ((4 : Int32)).toNatClampNeg) := inb_of S6 ⟨(by decide), (by decide)⟩
      obtain ⟨T6, h6, X6, e6, W6, st6⟩ := stC X0 hx hZ e0 Ar6 (j := (4 : Int32)) hin6 (g := (mkF m 25 #[.val (.ref a0c), .val (.int 4), .val (.int p2), .val (.int 46)] [(.int 47), (.int 4), (.ref a0c)])) rfl rfl (hb hby d1_25)
      have K6 : Keep h0 h6 [a0c] := (Keep.refl h0 [a0c]).wr W6 (Or.inl (List.mem_of_getElem? (i := 0) rfl))
      have O6 := O0.wr W6 g_a0c
      have N6 := Fr.snoc X6 N0 g_a0c
      have V6 : Arv Z h6 a0c k0 .char (6 : Int32) [(.int s0), (.int s1), (.int s2), (.int s3), (.int 47), (.int s5)] (.int 0) := Arv.set Ar6 q6 S6 N6_ H6 G6 (fits_nar_char _) W6 4 rfl (Nat.le_of_ble_eq_true rfl)
      have r1 : ¬ ((255 : Int32) < (47 : Int32)) := (by decide)
      have r2 : ¬ ((47 : Int32) < (0 : Int32)) := (by decide)
      have r3 : nar .char (47 : Int32) = (47 : Int32) := (by decide)
      obtain ⟨fs, hr, hrun, hended, hW, hsame⟩ := X6.leave (v := none) (fun _ => rfl)
      refine ⟨_, _, pre5 _ ?_, hrun, hended, _, _, rfl, ?_, ⟨_, rfl⟩, hW, hsame.mono (by decide) (by decide)⟩
      · show Steps p.tables e below (s₁.setTop (mkF m 16 #[.val (.ref a0c), .val (.int 4), .val (.int p2), .val (.int 46)] [(.int 46), (.int s4)])) _
        refine XS.icmpNo X0.here hx rfl (hb hby d1_16) rfl (teq hc16_4).2 ?_
        refine XS.aloadN X0.here hx rfl (hb hby d1_19) rfl rfl ?_
        refine XS.iloadN X0.here hx rfl (hb hby d1_20) rfl ?_
        refine XS.iloadN X0.here hx rfl (hb hby d1_21) rfl ?_
        show Steps p.tables e below (s₁.setTop (mkF m 22 #[.val (.ref a0c), .val (.int 4), .val (.int p2), .val (.int 46)] [(.int 46), (.int 4), (.ref a0c)])) _
        refine XS.iconst X0.here hx rfl (hb hby d1_22) ?_
        refine XS.iadd X0.here hx rfl (hb hby d1_23) rfl ?_
        refine XS.i2c X0.here hx rfl (hb hby d1_24) rfl ?_
        show Steps p.tables e below (s₁.setTop (mkF m 25 #[.val (.ref a0c), .val (.int 4), .val (.int p2), .val (.int 46)] [(.int 47), (.int 4), (.ref a0c)])) _
        refine st6 _ ?_
        show Steps p.tables e below (T6.setTop (mkF m 26 #[.val (.ref a0c), .val (.int 4), .val (.int p2), .val (.int 46)] [])) _
        exact X6.returnOut hx Bd.returns (hb hby d1_26) hr
      · show Q_rmPl4 n0 Z cS a0c p2 k0 s0 s1 s2 s3 s4 s5 h0 _ T6.heap _
        rw [e6]
        exact ⟨(47 : Int32), rfl, N6, K6, V6, r1, r2, r3⟩
    · obtain ⟨fs, hr, hrun, hended, hW, hsame⟩ := X0.leave (v := none) (fun _ => rfl)
      refine ⟨_, _, pre5 _ ?_, hrun, hended, _, _, rfl, ?_, ⟨_, rfl⟩, hW, hsame.mono (by decide) (by decide)⟩
      · show Steps p.tables e below (s₁.setTop (mkF m 16 #[.val (.ref a0c), .val (.int 4), .val (.int p2), .val (.int 46)] [(.int 46), (.int s4)])) _
        refine XS.icmpYes X0.here hx rfl (pc0 := 16) (pc' := 26) rfl (hb hby d1_16) rfl (feq hc16_4).2 (by decide) (by decide) ?_
        show Steps p.tables e below (s₁.setTop (mkF m 26 #[.val (.ref a0c), .val (.int 4), .val (.int p2), .val (.int 46)] [])) _
        exact X0.returnOut hx Bd.returns (hb hby d1_26) hr
      · show Q_rmPl4 n0 Z cS a0c p2 k0 s0 s1 s2 s3 s4 s5 h0 _ s₁.heap _
        rw [e0]
        exact ⟨s4, rfl, N0, (Keep.refl h0 [a0c]), V_a0c, hl, hm, hn⟩
  · obtain ⟨cl7, Ar7, q7, S7, N7_, H7, G7⟩ := id (V_a0c)
    have hin7 : ¬ ((4 : Int32) < 0 ∨ cl7.slots.size ≤ ((4 : Int32)).toNatClampNeg) := inb_of S7 ⟨(by decide), (by decide)⟩
    obtain ⟨T7, h7, X7, e7, W7, st7⟩ := stC X0 hx hZ e0 Ar7 (j := (4 : Int32)) hin7 (g := (mkF m 8 #[.val (.ref a0c), .val (.int 4), .val (.int p2), .val (.int 46)] [(.int 46), (.int 4), (.ref a0c)])) rfl rfl (hb hby d1_8)
    have K7 : Keep h0 h7 [a0c] := (Keep.refl h0 [a0c]).wr W7 (Or.inl (List.mem_of_getElem? (i := 0) rfl))
    have O7 := O0.wr W7 g_a0c
    have N7 := Fr.snoc X7 N0 g_a0c
    have V7 : Arv Z h7 a0c k0 .char (6 : Int32) [(.int s0), (.int s1), (.int s2), (.int s3), (.int 46), (.int s5)] (.int 0) := Arv.set Ar7 q7 S7 N7_ H7 G7 (fits_nar_char _) W7 4 rfl (Nat.le_of_ble_eq_true rfl)
    have r1 : ¬ ((255 : Int32) < (46 : Int32)) := (by decide)
    have r2 : ¬ ((46 : Int32) < (0 : Int32)) := (by decide)
    have r3 : nar .char (46 : Int32) = (46 : Int32) := (by decide)
    obtain ⟨fs, hr, hrun, hended, hW, hsame⟩ := X7.leave (v := none) (fun _ => rfl)
    refine ⟨_, _, pre2 _ ?_, hrun, hended, _, _, rfl, ?_, ⟨_, rfl⟩, hW, hsame.mono (by decide) (by decide)⟩
    · show Steps p.tables e below (s₁.setTop (mkF m 2 #[.val (.ref a0c), .val (.int 4), .val (.int p2), .val (.int 46)] [(.int p2), (.int 4)])) _
      refine XS.icmpNo X0.here hx rfl (hb hby d1_2) rfl (feq hc2_1).1 ?_
      refine XS.aloadN X0.here hx rfl (hb hby d1_5) rfl rfl ?_
      refine XS.iloadN X0.here hx rfl (hb hby d1_6) rfl ?_
      refine XS.iloadN X0.here hx rfl (hb hby d1_7) rfl ?_
      show Steps p.tables e below (s₁.setTop (mkF m 8 #[.val (.ref a0c), .val (.int 4), .val (.int p2), .val (.int 46)] [(.int 46), (.int 4), (.ref a0c)])) _
      refine st7 _ ?_
      show Steps p.tables e below (T7.setTop (mkF m 9 #[.val (.ref a0c), .val (.int 4), .val (.int p2), .val (.int 46)] [])) _
      refine XS.goto X7.here hx rfl (pc0 := 9) (pc' := 26) rfl (hb hby d1_9) (by decide) (by decide) ?_
      show Steps p.tables e below (T7.setTop (mkF m 26 #[.val (.ref a0c), .val (.int 4), .val (.int p2), .val (.int 46)] [])) _
      exact X7.returnOut hx Bd.returns (hb hby d1_26) hr
    · show Q_rmPl4 n0 Z cS a0c p2 k0 s0 s1 s2 s3 s4 s5 h0 _ T7.heap _
      rw [e7]
      exact ⟨(46 : Int32), rfl, N7, K7, V7, r1, r2, r3⟩
theorem d2_0 : decode method_4_code 0 = .ok (.iload_n 1, 1) := by decide +kernel
theorem d2_1 : decode method_4_code 1 = .ok (.ifCond .ne 14, 3) := by decide +kernel
theorem d2_4 : decode method_4_code 4 = .ok (.new 23, 3) := by decide +kernel
theorem d2_7 : decode method_4_code 7 = .ok (.dup, 1) := by decide +kernel
theorem d2_8 : decode method_4_code 8 = .ok (.iconst 0, 1) := by decide +kernel
theorem d2_9 : decode method_4_code 9 = .ok (.newarray .char, 2) := by decide +kernel
theorem d2_11 : decode method_4_code 11 = .ok (.invokespecial 34, 3) := by decide +kernel
theorem pdv5 : parseMethodDescriptor "([C)V" = some ⟨[(.array .char)], none⟩ := by decide +kernel
theorem d2_14 : decode method_4_code 14 = .ok (.areturn, 1) := by decide +kernel
theorem d2_15 : decode method_4_code 15 = .ok (.iload_n 1, 1) := by decide +kernel
theorem d2_16 : decode method_4_code 16 = .ok (.iconst 1, 1) := by decide +kernel
theorem d2_17 : decode method_4_code 17 = .ok (.if_icmp .ne 20, 3) := by decide +kernel
theorem d2_20 : decode method_4_code 20 = .ok (.new 23, 3) := by decide +kernel
theorem d2_23 : decode method_4_code 23 = .ok (.dup, 1) := by decide +kernel
theorem d2_24 : decode method_4_code 24 = .ok (.iconst 1, 1) := by decide +kernel
theorem d2_25 : decode method_4_code 25 = .ok (.newarray .char, 2) := by decide +kernel
theorem d2_27 : decode method_4_code 27 = .ok (.dup, 1) := by decide +kernel
theorem d2_28 : decode method_4_code 28 = .ok (.iconst 0, 1) := by decide +kernel
theorem d2_29 : decode method_4_code 29 = .ok (.aload_n 0, 1) := by decide +kernel
theorem d2_30 : decode method_4_code 30 = .ok (.iconst 0, 1) := by decide +kernel
theorem d2_31 : decode method_4_code 31 = .ok (.caload, 1) := by decide +kernel
theorem d2_32 : decode method_4_code 32 = .ok (.castore, 1) := by decide +kernel
theorem d2_33 : decode method_4_code 33 = .ok (.invokespecial 34, 3) := by decide +kernel
theorem d2_36 : decode method_4_code 36 = .ok (.areturn, 1) := by decide +kernel
theorem d2_37 : decode method_4_code 37 = .ok (.iload_n 1, 1) := by decide +kernel
theorem d2_38 : decode method_4_code 38 = .ok (.iconst 2, 1) := by decide +kernel
theorem d2_39 : decode method_4_code 39 = .ok (.if_icmp .ne 26, 3) := by decide +kernel
theorem d2_42 : decode method_4_code 42 = .ok (.new 23, 3) := by decide +kernel
theorem d2_45 : decode method_4_code 45 = .ok (.dup, 1) := by decide +kernel
theorem d2_46 : decode method_4_code 46 = .ok (.iconst 2, 1) := by decide +kernel
theorem d2_47 : decode method_4_code 47 = .ok (.newarray .char, 2) := by decide +kernel
theorem d2_49 : decode method_4_code 49 = .ok (.dup, 1) := by decide +kernel
theorem d2_50 : decode method_4_code 50 = .ok (.iconst 0, 1) := by decide +kernel
theorem d2_51 : decode method_4_code 51 = .ok (.aload_n 0, 1) := by decide +kernel
theorem d2_52 : decode method_4_code 52 = .ok (.iconst 0, 1) := by decide +kernel
theorem d2_53 : decode method_4_code 53 = .ok (.caload, 1) := by decide +kernel
theorem d2_54 : decode method_4_code 54 = .ok (.castore, 1) := by decide +kernel
theorem d2_55 : decode method_4_code 55 = .ok (.dup, 1) := by decide +kernel
theorem d2_56 : decode method_4_code 56 = .ok (.iconst 1, 1) := by decide +kernel
theorem d2_57 : decode method_4_code 57 = .ok (.aload_n 0, 1) := by decide +kernel
theorem d2_58 : decode method_4_code 58 = .ok (.iconst 1, 1) := by decide +kernel
theorem d2_59 : decode method_4_code 59 = .ok (.caload, 1) := by decide +kernel
theorem d2_60 : decode method_4_code 60 = .ok (.castore, 1) := by decide +kernel
theorem d2_61 : decode method_4_code 61 = .ok (.invokespecial 34, 3) := by decide +kernel
theorem d2_64 : decode method_4_code 64 = .ok (.areturn, 1) := by decide +kernel
theorem d2_65 : decode method_4_code 65 = .ok (.iload_n 1, 1) := by decide +kernel
theorem d2_66 : decode method_4_code 66 = .ok (.iconst 3, 1) := by decide +kernel
theorem d2_67 : decode method_4_code 67 = .ok (.if_icmp .ne 32, 3) := by decide +kernel
theorem d2_70 : decode method_4_code 70 = .ok (.new 23, 3) := by decide +kernel
theorem d2_73 : decode method_4_code 73 = .ok (.dup, 1) := by decide +kernel
theorem d2_74 : decode method_4_code 74 = .ok (.iconst 3, 1) := by decide +kernel
theorem d2_75 : decode method_4_code 75 = .ok (.newarray .char, 2) := by decide +kernel
theorem d2_77 : decode method_4_code 77 = .ok (.dup, 1) := by decide +kernel
theorem d2_78 : decode method_4_code 78 = .ok (.iconst 0, 1) := by decide +kernel
theorem d2_79 : decode method_4_code 79 = .ok (.aload_n 0, 1) := by decide +kernel
theorem d2_80 : decode method_4_code 80 = .ok (.iconst 0, 1) := by decide +kernel
theorem d2_81 : decode method_4_code 81 = .ok (.caload, 1) := by decide +kernel
theorem d2_82 : decode method_4_code 82 = .ok (.castore, 1) := by decide +kernel
theorem d2_83 : decode method_4_code 83 = .ok (.dup, 1) := by decide +kernel
theorem d2_84 : decode method_4_code 84 = .ok (.iconst 1, 1) := by decide +kernel
theorem d2_85 : decode method_4_code 85 = .ok (.aload_n 0, 1) := by decide +kernel
theorem d2_86 : decode method_4_code 86 = .ok (.iconst 1, 1) := by decide +kernel
theorem d2_87 : decode method_4_code 87 = .ok (.caload, 1) := by decide +kernel
theorem d2_88 : decode method_4_code 88 = .ok (.castore, 1) := by decide +kernel
theorem d2_89 : decode method_4_code 89 = .ok (.dup, 1) := by decide +kernel
theorem d2_90 : decode method_4_code 90 = .ok (.iconst 2, 1) := by decide +kernel
theorem d2_91 : decode method_4_code 91 = .ok (.aload_n 0, 1) := by decide +kernel
theorem d2_92 : decode method_4_code 92 = .ok (.iconst 2, 1) := by decide +kernel
theorem d2_93 : decode method_4_code 93 = .ok (.caload, 1) := by decide +kernel
theorem d2_94 : decode method_4_code 94 = .ok (.castore, 1) := by decide +kernel
theorem d2_95 : decode method_4_code 95 = .ok (.invokespecial 34, 3) := by decide +kernel
theorem d2_98 : decode method_4_code 98 = .ok (.areturn, 1) := by decide +kernel
theorem d2_99 : decode method_4_code 99 = .ok (.iload_n 1, 1) := by decide +kernel
theorem d2_100 : decode method_4_code 100 = .ok (.iconst 4, 1) := by decide +kernel
theorem d2_101 : decode method_4_code 101 = .ok (.if_icmp .ne 38, 3) := by decide +kernel
theorem d2_104 : decode method_4_code 104 = .ok (.new 23, 3) := by decide +kernel
theorem d2_107 : decode method_4_code 107 = .ok (.dup, 1) := by decide +kernel
theorem d2_108 : decode method_4_code 108 = .ok (.iconst 4, 1) := by decide +kernel
theorem d2_109 : decode method_4_code 109 = .ok (.newarray .char, 2) := by decide +kernel
theorem d2_111 : decode method_4_code 111 = .ok (.dup, 1) := by decide +kernel
theorem d2_112 : decode method_4_code 112 = .ok (.iconst 0, 1) := by decide +kernel
theorem d2_113 : decode method_4_code 113 = .ok (.aload_n 0, 1) := by decide +kernel
theorem d2_114 : decode method_4_code 114 = .ok (.iconst 0, 1) := by decide +kernel
theorem d2_115 : decode method_4_code 115 = .ok (.caload, 1) := by decide +kernel
theorem d2_116 : decode method_4_code 116 = .ok (.castore, 1) := by decide +kernel
theorem d2_117 : decode method_4_code 117 = .ok (.dup, 1) := by decide +kernel
theorem d2_118 : decode method_4_code 118 = .ok (.iconst 1, 1) := by decide +kernel
theorem d2_119 : decode method_4_code 119 = .ok (.aload_n 0, 1) := by decide +kernel
theorem d2_120 : decode method_4_code 120 = .ok (.iconst 1, 1) := by decide +kernel
theorem d2_121 : decode method_4_code 121 = .ok (.caload, 1) := by decide +kernel
theorem d2_122 : decode method_4_code 122 = .ok (.castore, 1) := by decide +kernel
theorem d2_123 : decode method_4_code 123 = .ok (.dup, 1) := by decide +kernel
theorem d2_124 : decode method_4_code 124 = .ok (.iconst 2, 1) := by decide +kernel
theorem d2_125 : decode method_4_code 125 = .ok (.aload_n 0, 1) := by decide +kernel
theorem d2_126 : decode method_4_code 126 = .ok (.iconst 2, 1) := by decide +kernel
theorem d2_127 : decode method_4_code 127 = .ok (.caload, 1) := by decide +kernel
theorem d2_128 : decode method_4_code 128 = .ok (.castore, 1) := by decide +kernel
theorem d2_129 : decode method_4_code 129 = .ok (.dup, 1) := by decide +kernel
theorem d2_130 : decode method_4_code 130 = .ok (.iconst 3, 1) := by decide +kernel
theorem d2_131 : decode method_4_code 131 = .ok (.aload_n 0, 1) := by decide +kernel
theorem d2_132 : decode method_4_code 132 = .ok (.iconst 3, 1) := by decide +kernel
theorem d2_133 : decode method_4_code 133 = .ok (.caload, 1) := by decide +kernel
theorem d2_134 : decode method_4_code 134 = .ok (.castore, 1) := by decide +kernel
theorem d2_135 : decode method_4_code 135 = .ok (.invokespecial 34, 3) := by decide +kernel
theorem d2_138 : decode method_4_code 138 = .ok (.areturn, 1) := by decide +kernel
theorem d2_139 : decode method_4_code 139 = .ok (.iload_n 1, 1) := by decide +kernel
theorem d2_140 : decode method_4_code 140 = .ok (.iconst 5, 1) := by decide +kernel
theorem d2_141 : decode method_4_code 141 = .ok (.if_icmp .ne 44, 3) := by decide +kernel
theorem d2_144 : decode method_4_code 144 = .ok (.new 23, 3) := by decide +kernel
theorem d2_147 : decode method_4_code 147 = .ok (.dup, 1) := by decide +kernel
theorem d2_148 : decode method_4_code 148 = .ok (.iconst 5, 1) := by decide +kernel
theorem d2_149 : decode method_4_code 149 = .ok (.newarray .char, 2) := by decide +kernel
theorem d2_151 : decode method_4_code 151 = .ok (.dup, 1) := by decide +kernel
theorem d2_152 : decode method_4_code 152 = .ok (.iconst 0, 1) := by decide +kernel
theorem d2_153 : decode method_4_code 153 = .ok (.aload_n 0, 1) := by decide +kernel
theorem d2_154 : decode method_4_code 154 = .ok (.iconst 0, 1) := by decide +kernel
theorem d2_155 : decode method_4_code 155 = .ok (.caload, 1) := by decide +kernel
theorem d2_156 : decode method_4_code 156 = .ok (.castore, 1) := by decide +kernel
theorem d2_157 : decode method_4_code 157 = .ok (.dup, 1) := by decide +kernel
theorem d2_158 : decode method_4_code 158 = .ok (.iconst 1, 1) := by decide +kernel
theorem d2_159 : decode method_4_code 159 = .ok (.aload_n 0, 1) := by decide +kernel
theorem d2_160 : decode method_4_code 160 = .ok (.iconst 1, 1) := by decide +kernel
theorem d2_161 : decode method_4_code 161 = .ok (.caload, 1) := by decide +kernel
theorem d2_162 : decode method_4_code 162 = .ok (.castore, 1) := by decide +kernel
theorem d2_163 : decode method_4_code 163 = .ok (.dup, 1) := by decide +kernel
theorem d2_164 : decode method_4_code 164 = .ok (.iconst 2, 1) := by decide +kernel
theorem d2_165 : decode method_4_code 165 = .ok (.aload_n 0, 1) := by decide +kernel
theorem d2_166 : decode method_4_code 166 = .ok (.iconst 2, 1) := by decide +kernel
theorem d2_167 : decode method_4_code 167 = .ok (.caload, 1) := by decide +kernel
theorem d2_168 : decode method_4_code 168 = .ok (.castore, 1) := by decide +kernel
theorem d2_169 : decode method_4_code 169 = .ok (.dup, 1) := by decide +kernel
theorem d2_170 : decode method_4_code 170 = .ok (.iconst 3, 1) := by decide +kernel
theorem d2_171 : decode method_4_code 171 = .ok (.aload_n 0, 1) := by decide +kernel
theorem d2_172 : decode method_4_code 172 = .ok (.iconst 3, 1) := by decide +kernel
theorem d2_173 : decode method_4_code 173 = .ok (.caload, 1) := by decide +kernel
theorem d2_174 : decode method_4_code 174 = .ok (.castore, 1) := by decide +kernel
theorem d2_175 : decode method_4_code 175 = .ok (.dup, 1) := by decide +kernel
theorem d2_176 : decode method_4_code 176 = .ok (.iconst 4, 1) := by decide +kernel
theorem d2_177 : decode method_4_code 177 = .ok (.aload_n 0, 1) := by decide +kernel
theorem d2_178 : decode method_4_code 178 = .ok (.iconst 4, 1) := by decide +kernel
theorem d2_179 : decode method_4_code 179 = .ok (.caload, 1) := by decide +kernel
theorem d2_180 : decode method_4_code 180 = .ok (.castore, 1) := by decide +kernel
theorem d2_181 : decode method_4_code 181 = .ok (.invokespecial 34, 3) := by decide +kernel
theorem d2_184 : decode method_4_code 184 = .ok (.areturn, 1) := by decide +kernel
theorem d2_185 : decode method_4_code 185 = .ok (.new 23, 3) := by decide +kernel
theorem d2_188 : decode method_4_code 188 = .ok (.dup, 1) := by decide +kernel
theorem d2_189 : decode method_4_code 189 = .ok (.aload_n 0, 1) := by decide +kernel
theorem d2_190 : decode method_4_code 190 = .ok (.invokespecial 34, 3) := by decide +kernel
theorem d2_193 : decode method_4_code 193 = .ok (.areturn, 1) := by decide +kernel
abbrev MN_8 : MethodName := ⟨"com/example/loomwire/loomwire/bundle/JavaPackagesRefusePinLaw", "take", "([CI)Ljava/lang/String;"⟩
theorem ef_rmTk (m : MethodId) (a0c : Addr) (p1 : Int32) : entryFrame m #[(.ref a0c), (.int p1)] 2 = mkF m 0 #[.val (.ref a0c), .val (.int p1)] [] := by first | (simp [entryFrame, mkF, argsToLocals, Value.category]; done) | rfl
def Q_rmTk (n0 : Nat) (Z : State) (cS : Int32) (a0c : Addr) (p1 : Int32) (k0 : ClassId) (s0 : Int32) (s1 : Int32) (s2 : Int32) (s3 : Int32) (s4 : Int32) (s5 : Int32) (h0 : Heap) (v : Option Value) (h : Heap) (L : List Loc) : Prop := ∃ b : Addr, ∃ bv : Addr, ∃ kb : ClassId, ∃ nl : Int32, ∃ vs : List Value, v = some (.ref b) ∧ Fr n0 L ∧ Keep h0 h [] ∧ (Exa Z h b "java/lang/String") ∧ (Fld Z h b "java/lang/String" "value" "[B" (.ref bv)) ∧ (Fld Z h b "java/lang/String" "coder" "B" (.int 0)) ∧ (Arv Z h bv kb .byte nl vs (.int 0)) ∧ (Rfs nl vs)
set_option maxRecDepth 65536 in
set_option maxHeartbeats 40000000 in
theorem rmTk (l : Launch) (Z : State) (a0 : Array Value) (hw : ∀ d ∈ tables_1, d.before a0 Z = true) (ws : List Jvm.Cond) (cS : Int32) (a0c : Addr) (p1 : Int32) (k0 : ClassId) (s0 : Int32) (s1 : Int32) (s2 : Int32) (s3 : Int32) (s4 : Int32) (s5 : Int32) (h0 : Heap) (n0 : Nat) (O0 : Old Z n0 h0) (GL : GF Z cS) (V_a0c : Arv Z h0 a0c k0 .char (6 : Int32) [(.int s0), (.int s1), (.int s2), (.int s3), (.int s4), (.int s5)] (.int 0)) (hl0 : ¬ ((255 : Int32) < s0)) (hl1 : ¬ ((255 : Int32) < s1)) (hl2 : ¬ ((255 : Int32) < s2)) (hl3 : ¬ ((255 : Int32) < s3)) (hl4 : ¬ ((255 : Int32) < s4)) (hl5 : ¬ ((255 : Int32) < s5)) (hm0 : ¬ (s0 < (0 : Int32))) (hm1 : ¬ (s1 < (0 : Int32))) (hm2 : ¬ (s2 < (0 : Int32))) (hm3 : ¬ (s3 < (0 : Int32))) (hm4 : ¬ (s4 < (0 : Int32))) (hm5 : ¬ (s5 < (0 : Int32))) (hn0 : nar .char s0 = s0) (hn1 : nar .char s1 = s1) (hn2 : nar .char s2 = s2) (hn3 : nar .char s3 = s3) (hn4 : nar .char s4 = s4) (hn5 : nar .char s5 = s5) (hn : p1 = 0 ∨ p1 = 1 ∨ p1 = 2 ∨ p1 = 3 ∨ p1 = 4 ∨ p1 = 5 ∨ p1 = 6) (hJ : ¬ (¬ (p1 < (5 : Int32)) ∧ s0 = (106 : Int32) ∧ s1 = (97 : Int32) ∧ s2 = (118 : Int32) ∧ s3 = (97 : Int32) ∧ s4 = (46 : Int32))) :
    MetFree l MN_8 (head1 (Jvm.Cond.code MN_8 method_4_code 2 (some (.object "java/lang/String")) :: ws) ({ frames := 4, cells := 6, slots := 14, locals := 66 } : Room)) (fun a U => a = #[(.ref a0c), (.int p1)] ∧ Z.Warmed39 U.vm ∧ U.heap = h0 ∧ CHv Z EL1 U.vm h0) (fun _ _ _ _ _ => True) (fun _ U o U' => ∃ v L, o = .returned v ∧ Q_rmTk n0 Z cS a0c p1 k0 s0 s1 s2 s3 s4 s5 h0 v U'.heap L ∧ CHr Z EL1 U.vm U.heap U'.vm U'.heap ∧ ReturnedEndW U o U' L ({ frames := 4, cells := 6, slots := 14, locals := 66 } : Room).cells ({ frames := 4, cells := 6, slots := 14, locals := 66 } : Room).slots) := by
  refine MetFree.of_bodySF (plainFor_of_name pnv2) hisR ?_
  intro p e s m args below meth c s₁ Bd hml0 hP hK
  obtain ⟨rfl, hZ, hh, H0⟩ := hP
  have hx := Bd.exec
  have hby := Bd.bytes
  have hml : c.maxLocals = 2 := hml0
  have hown : s.vm.findClass "com/example/loomwire/loomwire/bundle/JavaPackagesRefusePinLaw" = some m.cls := findClass_of_methodNamed Bd.named
  have hnm := (name_of_methodNamed Bd.named Bd.method).1
  have X0 : Stand p l e ({ frames := 4, cells := 6, slots := 14, locals := 66 } : Room) s m #[(.ref a0c), (.int p1)] below meth c s₁ [] 0 0 := Stand.of_body Bd
  have e0 : s₁.heap = h0 := by rw [← hh, Bd.state]; rfl
  have N0 := Fr.nil n0
  have pre0 : ∀ t, Steps p.tables e below (s₁.setTop (mkF m 0 #[.val (.ref a0c), .val (.int p1)] [])) t → Steps p.tables e below (s₁.setTop (entryFrame m #[(.ref a0c), (.int p1)] 2)) t := fun t k => castTop (ef_rmTk m a0c p1) k
  have X0w : Stand p l e ({ frames := 4, cells := 6, slots := 14, locals := 66 } : Room) (s.setVm s.vm) m #[(.ref a0c), (.int p1)] below meth c s₁ [] 0 0 := X0
  have R0 : CHr Z EL1 s.vm h0 s.vm h0 := CHr.refl H0
  have hS0 : s.Since s.vm h0.size := (State.WarmedH.refl s).since _
  have GL' := GL
  obtain ⟨GCS, GCP⟩ := GL'
  rcases hn with hN | hN | hN | hN | hN | hN | hN
  · obtain ⟨T1, h1, X1, e1, E1, A1, D1, -, st1⟩ := newO X0w hx hZ hown (Wd hw 9 rfl) (Wd hw 10 rfl) (Wd hw 11 rfl) e0 (g := (mkF m 4 #[.val (.ref a0c), .val (.int 0)] [])) rfl (hb hby d2_4) (by decide) (by decide)
    obtain ⟨b1, g1⟩ : ∃ z, z = h0.size := ⟨_, rfl⟩
    rw [← g1] at A1 D1 st1
    have g_b1 : n0 ≤ b1 := Nat.le_trans (own_sz O0) (Nat.le_of_eq g1.symm)
    have sz_b1 : h0.size ≤ b1 := Nat.le_trans (Keep.refl h0 []).1 (Nat.le_of_eq g1.symm)
    have H_2 := H0.ext E1
    have R_2 := R0.trans (CHr.ext E1 H0)
    have K1 : Keep h0 h1 [] := (Keep.refl h0 []).ext E1
    have O1 := O0.ext E1
    have F_value_b1 : Fld Z h1 b1 "java/lang/String" "value" "[B" .null := D1 (Or.inr (Wd hw 24 rfl)) (ty := (.array .byte)) (by decide)
    have F_coder_b1 : Fld Z h1 b1 "java/lang/String" "coder" "B" (.int 0) := D1 (Or.inr (Wd hw 25 rfl)) (ty := .byte) (by decide)
    obtain ⟨T3, h3, k3, X3, e3, E3, A3, A3', st3⟩ := newPE X1 hx hZ (Wd hw 0 rfl) e1 (g := (mkF m 9 #[.val (.ref a0c), .val (.int 0)] [(.int 0), (.ref b1), (.ref b1)])) rfl (hb hby d2_9) rfl (by decide) (cap := 0) (by decide) (by decide) (by decide) (by decide) (ad := "[C") rfl
    obtain ⟨b3, g3⟩ : ∃ z, z = h1.size := ⟨_, rfl⟩
    rw [← g3] at A3 A3' st3
    have g_b3 : n0 ≤ b3 := Nat.le_trans (own_sz O1) (Nat.le_of_eq g3.symm)
    have sz_b3 : h0.size ≤ b3 := Nat.le_trans K1.1 (Nat.le_of_eq g3.symm)
    have H_4 := H_2.ext E3
    have R_4 := R_2.trans (CHr.ext E3 H_2)
    have K3 : Keep h0 h3 [] := K1.ext E3
    have O3 := O1.ext E3
    have V_b3 : Arv Z h3 b3 k3 .char (0 : Int32) [] (.int 0) := Arv.new A3 (by decide)
    obtain ⟨_, _, ⟨T5, L5, k5, n5⟩, -, X5', hS5', hg5, ⟨Lc5, hQ5, l5, y5, z5, Rs5⟩, st5⟩ := X3.specialBackS hx (y := MN_4) rfl hown (mvT hZ (Wd hw 12 rfl)) (mvT hZ (Wd hw 13 rfl)) (mvT hZ (Wd hw 14 rfl)) (by decide) (backOfSH (W := 1) (rmIc_0 l Z a0 hw [] cS (b1) (b3) (k3) (h3) n0 O3 GL (A1.ext E3) (F_value_b1.ext E3) (F_coder_b1.ext E3) g_b1 V_b3) hZ (Wd hw 14 rfl) (Wd hw 11 rfl) (by decide) (by decide) (own_EW hw) H_4) (g := (mkF m 11 #[.val (.ref a0c), .val (.int 0)] [(.ref b3), (.ref b1), (.ref b1)])) rfl (by rw [hml]; rfl) (Steps.refl _) (a := b1) (argsL := [(.ref b3)]) (rest := [(.ref b1)]) (lenOf pdv5 rfl) rfl (by show 2 * 0 + _ ≤ _; exact Nat.le_of_eq rfl) (hb hby d2_11) (fun _ _ => ⟨rfl, e3, (by decide : 2 + 4 ≤ _), (by decide : 4 + 8 ≤ _)⟩)
    dsimp only [Pt.U, Pt.locs, Pt.cells, Pt.slots] at X5' l5 y5 z5 st5 hQ5 hS5' hg5 Rs5
    subst l5 y5 z5
    obtain ⟨X5, hS5, hZ5, hown5⟩ := rebS hS0 (by rw [e3]; exact (Nat.le_trans (Nat.le_trans (Nat.le_refl _) E1.1) E3.1)) X5' hS5' hg5 hZ hown
    obtain ⟨b_5, kb_5, rfl, N5q, Kc5, P5_0, P5_1, P5_2, P5_3⟩ := hQ5
    have K5 : Keep h0 T5.heap [] := K3.trans Kc5 (allS (Or.inr sz_b1) all0)
    have O5 := O3.keep Kc5 (allS g_b1 all0)
    have H_6 := Rs5.1
    have R_6 := R_4.trans Rs5
    have N5 := Fr.app N0 N5q
    have hR : Rfs (0 : Int32) [] := Or.inl (by decide)
    obtain ⟨fs, hr, hrun, hended, hRW⟩ := X5.leaveW hS5 (Nat.le_refl _) (v := some (.ref b1)) (fun h => by rw [Bd.returns] at h; cases h)
    have hCR : CHr Z EL1 s.vm s.heap T5.vm T5.heap := by
      rw [hh]
      exact R_6.trans (CHv.at X5 hZ5 (own_EW hw) H_6)
    refine ⟨_, _, pre0 _ ?_, hrun, hended, _, _, rfl, ?_, hCR, hRW.1, hRW.2.1, hRW.2.2.1, hRW.2.2.2.mono (by decide) (by decide)⟩
    · rw [hN]
      show Steps p.tables e below (s₁.setTop (mkF m 0 #[.val (.ref a0c), .val (.int 0)] [])) _
      refine XS.iloadN X0w.here hx rfl (hb hby d2_0) rfl ?_
      refine XS.ifNo X0w.here hx rfl (hb hby d2_1) rfl ((if0 _ _).trans (teq (by decide : (0 : Int32) = (0 : Int32))).2) ?_
      show Steps p.tables e below (s₁.setTop (mkF m 4 #[.val (.ref a0c), .val (.int 0)] [])) _
      refine st1 _ ?_
      show Steps p.tables e below (T1.setTop (mkF m 7 #[.val (.ref a0c), .val (.int 0)] [(.ref b1)])) _
      refine XS.dup X1.here hx rfl (hb hby d2_7) rfl rfl ?_
      refine XS.iconst X1.here hx rfl (hb hby d2_8) ?_
      show Steps p.tables e below (T1.setTop (mkF m 9 #[.val (.ref a0c), .val (.int 0)] [(.int 0), (.ref b1), (.ref b1)])) _
      refine st3 _ ?_
      show Steps p.tables e below (T3.setTop (mkF m 11 #[.val (.ref a0c), .val (.int 0)] [(.ref b3), (.ref b1), (.ref b1)])) _
      refine st5.trans ?_
      show Steps p.tables e below (T5.setTop (mkF m 14 #[.val (.ref a0c), .val (.int 0)] [(.ref b1)])) _
      jvm_step X5.here [X5.here.top, hx, (hb hby d2_14), X5.method', Bd.returns, Value.isRef, FieldType.isReference]
      first | (intro acts; rw [hr _ acts rfl rfl rfl]) | rw [hr _ _ rfl rfl rfl]
      exact Steps.refl _
    · show Q_rmTk n0 Z cS a0c p1 k0 s0 s1 s2 s3 s4 s5 h0 _ T5.heap _
      exact ⟨b1, b_5, kb_5, (0 : Int32), [], rfl, N5, K5, P5_0, P5_1, P5_2, P5_3, hR⟩
  · obtain ⟨T1, h1, X1, e1, E1, A1, D1, -, st1⟩ := newO X0w hx hZ hown (Wd hw 9 rfl) (Wd hw 10 rfl) (Wd hw 11 rfl) e0 (g := (mkF m 20 #[.val (.ref a0c), .val (.int 1)] [])) rfl (hb hby d2_20) (by decide) (by decide)
    obtain ⟨b1, g1⟩ : ∃ z, z = h0.size := ⟨_, rfl⟩
    rw [← g1] at A1 D1 st1
    have g_b1 : n0 ≤ b1 := Nat.le_trans (own_sz O0) (Nat.le_of_eq g1.symm)
    have sz_b1 : h0.size ≤ b1 := Nat.le_trans (Keep.refl h0 []).1 (Nat.le_of_eq g1.symm)
    have H_2 := H0.ext E1
    have R_2 := R0.trans (CHr.ext E1 H0)
    have K1 : Keep h0 h1 [] := (Keep.refl h0 []).ext E1
    have O1 := O0.ext E1
    have F_value_b1 : Fld Z h1 b1 "java/lang/String" "value" "[B" .null := D1 (Or.inr (Wd hw 24 rfl)) (ty := (.array .byte)) (by decide)
    have F_coder_b1 : Fld Z h1 b1 "java/lang/String" "coder" "B" (.int 0) := D1 (Or.inr (Wd hw 25 rfl)) (ty := .byte) (by decide)
    obtain ⟨T3, h3, k3, X3, e3, E3, A3, A3', st3⟩ := newPE X1 hx hZ (Wd hw 0 rfl) e1 (g := (mkF m 25 #[.val (.ref a0c), .val (.int 1)] [(.int 1), (.ref b1), (.ref b1)])) rfl (hb hby d2_25) rfl (by decide) (cap := 1) (by decide) (by decide) (by decide) (by decide) (ad := "[C") rfl
    obtain ⟨b3, g3⟩ : ∃ z, z = h1.size := ⟨_, rfl⟩
    rw [← g3] at A3 A3' st3
    have g_b3 : n0 ≤ b3 := Nat.le_trans (own_sz O1) (Nat.le_of_eq g3.symm)
    have sz_b3 : h0.size ≤ b3 := Nat.le_trans K1.1 (Nat.le_of_eq g3.symm)
    have H_4 := H_2.ext E3
    have R_4 := R_2.trans (CHr.ext E3 H_2)
    have K3 : Keep h0 h3 [] := K1.ext E3
    have O3 := O1.ext E3
    have V_b3 : Arv Z h3 b3 k3 .char (1 : Int32) [(.int 0)] (.int 0) := (Arv.new A3 (by decide)).pad (pad_rep [] (.int 0) 1)
    obtain ⟨cl5, Ar5, -, S5, N5_, H5, G5⟩ := id (((V_a0c.ext E1).ext E3))
    have hin5 : ¬ ((0 : Int32) < 0 ∨ cl5.slots.size ≤ ((0 : Int32)).toNatClampNeg) := inb_of S5 ⟨(by decide), (by decide)⟩
    have hat5 : cl5.slots[((0 : Int32)).toNatClampNeg]? = some (.int s0) := H5.at hin5 rfl
    obtain ⟨cl6, Ar6, q6, S6, N6_, H6, G6⟩ := id (V_b3)
    have hin6 : ¬ ((0 : Int32) < 0 ∨ cl6.slots.size ≤ ((0 : Int32)).toNatClampNeg) := inb_of S6 ⟨(by decide), (by decide)⟩
    obtain ⟨T6, h6, X6, e6, W6, st6⟩ := stC X3 hx hZ e3 Ar6 (j := (0 : Int32)) hin6 (g := (mkF m 32 #[.val (.ref a0c), .val (.int 1)] [(.int s0), (.int 0), (.ref b3), (.ref b3), (.ref b1), (.ref b1)])) rfl rfl (hb hby d2_32)
    have Sf8 : Safe Z EL1 s.vm h3 b3 := Safe.exa (EL := EL1) hZ.alike A3' (by decide) (by decide)
    have H_7 := H_4.wr W6 Sf8
    have R_7 := R_4.trans (CHr.wr W6 Sf8 H_4)
    have K6 : Keep h0 h6 [] := K3.wr W6 (Or.inr sz_b3)
    have O6 := O3.wr W6 g_b3
    have N6 := Fr.snoc X6 N0 g_b3
    have V6' : Arv Z h6 b3 k3 .char (1 : Int32) [(.int (nar .char s0))] (.int 0) := Arv.set Ar6 q6 S6 N6_ H6 G6 (fits_nar_char _) W6 0 rfl (Nat.le_of_ble_eq_true rfl)
    have V6 : Arv Z h6 b3 k3 .char (1 : Int32) [(.int s0)] (.int 0) := by
      rw [hn0] at V6'
      exact V6'
    obtain ⟨_, _, ⟨T9, L9, k9, n9⟩, -, X9, ⟨Lc9, hQ9, l9, y9, z9⟩, st9⟩ := X6.specialBack hx (y := MN_4) rfl hown (mvT hZ (Wd hw 12 rfl)) (mvT hZ (Wd hw 13 rfl)) (mvT hZ (Wd hw 14 rfl)) (by decide) (backOf (W := 1) (rmIc_1 l Z a0 hw [] cS (b1) (b3) (k3) (s0) (h6) n0 O6 GL ((A1.ext E3).wr W6) ((F_value_b1.ext E3).other W6 (Or.inl (Nat.ne_of_lt (Nat.lt_of_lt_of_le A1.lt (Nat.le_of_eq g3.symm))))) ((F_coder_b1.ext E3).other W6 (Or.inl (Nat.ne_of_lt (Nat.lt_of_lt_of_le A1.lt (Nat.le_of_eq g3.symm))))) g_b1 V6 hl0) hZ (Wd hw 14 rfl) (Wd hw 11 rfl) (by decide) (by decide)) (g := (mkF m 33 #[.val (.ref a0c), .val (.int 1)] [(.ref b3), (.ref b1), (.ref b1)])) rfl (by rw [hml]; rfl) (Steps.refl _) (a := b1) (argsL := [(.ref b3)]) (rest := [(.ref b1)]) (lenOf pdv5 rfl) rfl (by show 2 * 0 + _ ≤ _; exact Nat.le_of_eq rfl) (hb hby d2_33) (fun _ _ => ⟨rfl, e6, (by decide : 2 + 1 ≤ _), (by decide : 5 + 1 ≤ _)⟩)
    dsimp only [Pt.U, Pt.locs, Pt.cells, Pt.slots] at X9 l9 y9 z9 st9 hQ9
    subst l9 y9 z9
    obtain ⟨b_9, kb_9, rfl, N9q, Kc9, P9_0, P9_1, P9_2, P9_3, P9_4, P9_5⟩ := hQ9
    have K9 : Keep h0 T9.heap [] := K6.trans Kc9 (allS (Or.inr sz_b1) all0)
    have O9 := O6.keep Kc9 (allS g_b1 all0)
    have Sf11 : Safe Z EL1 s.vm h6 b1 := (Safe.wr W6 Sf8 H_4 (Safe.ext E3 H_2 (Safe.ext E1 H0 (Safe.new (Z := Z) (EL := EL1) (vm := s.vm) (Nat.le_of_eq g1.symm)))))
    have H_10 := H_7.keep Kc9 (sfS Sf11 sf0)
    have R_10 := R_7.trans (CHr.keep Kc9 (sfS Sf11 sf0) H_7)
    have g_b_9 : n0 ≤ b_9 := Nat.le_trans (own_sz O6) P9_0
    have sz_b_9 : h0.size ≤ b_9 := Nat.le_trans K6.1 P9_0
    have N9 := Fr.app N6 N9q
    have hR : Rfs (1 : Int32) [(.int (s0.toInt8.toInt32))] := Or.inl (by decide)
    obtain ⟨fs, hr, hrun, hended, hRW⟩ := X9.leaveW hS0 (Nat.le_trans (Nat.le_trans (Nat.le_trans (Nat.le_trans (Nat.le_refl _) E1.1) E3.1) (Keep.of_wr W6).1) Kc9.1) (v := some (.ref b1)) (fun h => by rw [Bd.returns] at h; cases h)
    have hCR : CHr Z EL1 s.vm s.heap T9.vm T9.heap := by
      rw [hh]
      exact R_10.trans (CHv.at X9 hZ (own_EW hw) H_10)
    refine ⟨_, _, pre0 _ ?_, hrun, hended, _, _, rfl, ?_, hCR, hRW.1, hRW.2.1, hRW.2.2.1, hRW.2.2.2.mono (by decide) (by decide)⟩
    · rw [hN]
      show Steps p.tables e below (s₁.setTop (mkF m 0 #[.val (.ref a0c), .val (.int 1)] [])) _
      refine XS.iloadN X0w.here hx rfl (hb hby d2_0) rfl ?_
      refine XS.ifYes X0w.here hx rfl (pc0 := 1) (pc' := 15) rfl (hb hby d2_1) rfl ((if0 _ _).trans (feq (by decide : ¬ ((1 : Int32) = (0 : Int32)))).2) (by decide) (by decide) ?_
      refine XS.iloadN X0w.here hx rfl (hb hby d2_15) rfl ?_
      refine XS.iconst X0w.here hx rfl (hb hby d2_16) ?_
      show Steps p.tables e below (s₁.setTop (mkF m 17 #[.val (.ref a0c), .val (.int 1)] [(.int 1), (.int 1)])) _
      refine XS.icmpNo X0w.here hx rfl (hb hby d2_17) rfl (teq (by decide : (1 : Int32) = (1 : Int32))).2 ?_
      show Steps p.tables e below (s₁.setTop (mkF m 20 #[.val (.ref a0c), .val (.int 1)] [])) _
      refine st1 _ ?_
      show Steps p.tables e below (T1.setTop (mkF m 23 #[.val (.ref a0c), .val (.int 1)] [(.ref b1)])) _
      refine XS.dup X1.here hx rfl (hb hby d2_23) rfl rfl ?_
      refine XS.iconst X1.here hx rfl (hb hby d2_24) ?_
      show Steps p.tables e below (T1.setTop (mkF m 25 #[.val (.ref a0c), .val (.int 1)] [(.int 1), (.ref b1), (.ref b1)])) _
      refine st3 _ ?_
      show Steps p.tables e below (T3.setTop (mkF m 27 #[.val (.ref a0c), .val (.int 1)] [(.ref b3), (.ref b1), (.ref b1)])) _
      refine XS.dup X3.here hx rfl (hb hby d2_27) rfl rfl ?_
      refine XS.iconst X3.here hx rfl (hb hby d2_28) ?_
      refine XS.aloadN X3.here hx rfl (hb hby d2_29) rfl rfl ?_
      refine XS.iconst X3.here hx rfl (hb hby d2_30) ?_
      show Steps p.tables e below (T3.setTop (mkF m 31 #[.val (.ref a0c), .val (.int 1)] [(.int 0), (.ref a0c), (.int 0), (.ref b3), (.ref b3), (.ref b1), (.ref b1)])) _
      refine X3.caload hx (j := (0 : Int32)) (v := (.int s0)) (by rw [e3]; exact Ar5.1) (State.isArrayOf_alike hZ.alike Ar5.2.1) Ar5.2.2 hin5 hat5 (g := (mkF m 31 #[.val (.ref a0c), .val (.int 1)] [(.int 0), (.ref a0c), (.int 0), (.ref b3), (.ref b3), (.ref b1), (.ref b1)])) rfl rfl (hb hby d2_31) _ ?_
      show Steps p.tables e below (T3.setTop (mkF m 32 #[.val (.ref a0c), .val (.int 1)] [(.int s0), (.int 0), (.ref b3), (.ref b3), (.ref b1), (.ref b1)])) _
      refine st6 _ ?_
      show Steps p.tables e below (T6.setTop (mkF m 33 #[.val (.ref a0c), .val (.int 1)] [(.ref b3), (.ref b1), (.ref b1)])) _
      refine st9.trans ?_
      show Steps p.tables e below (T9.setTop (mkF m 36 #[.val (.ref a0c), .val (.int 1)] [(.ref b1)])) _
      jvm_step X9.here [X9.here.top, hx, (hb hby d2_36), X9.method', Bd.returns, Value.isRef, FieldType.isReference]
      first | (intro acts; rw [hr _ acts rfl rfl rfl]) | rw [hr _ _ rfl rfl rfl]
      exact Steps.refl _
    · show Q_rmTk n0 Z cS a0c p1 k0 s0 s1 s2 s3 s4 s5 h0 _ T9.heap _
      exact ⟨b1, b_9, kb_9, (1 : Int32), [(.int (s0.toInt8.toInt32))], rfl, N9, K9, P9_2, P9_3, P9_4, P9_5, hR⟩
  · obtain ⟨T1, h1, X1, e1, E1, A1, D1, -, st1⟩ := newO X0w hx hZ hown (Wd hw 9 rfl) (Wd hw 10 rfl) (Wd hw 11 rfl) e0 (g := (mkF m 42 #[.val (.ref a0c), .val (.int 2)] [])) rfl (hb hby d2_42) (by decide) (by decide)
    obtain ⟨b1, g1⟩ : ∃ z, z = h0.size := ⟨_, rfl⟩
    rw [← g1] at A1 D1 st1
    have g_b1 : n0 ≤ b1 := Nat.le_trans (own_sz O0) (Nat.le_of_eq g1.symm)
    have sz_b1 : h0.size ≤ b1 := Nat.le_trans (Keep.refl h0 []).1 (Nat.le_of_eq g1.symm)
    have H_2 := H0.ext E1
    have R_2 := R0.trans (CHr.ext E1 H0)
    have K1 : Keep h0 h1 [] := (Keep.refl h0 []).ext E1
    have O1 := O0.ext E1
    have F_value_b1 : Fld Z h1 b1 "java/lang/String" "value" "[B" .null := D1 (Or.inr (Wd hw 24 rfl)) (ty := (.array .byte)) (by decide)
    have F_coder_b1 : Fld Z h1 b1 "java/lang/String" "coder" "B" (.int 0) := D1 (Or.inr (Wd hw 25 rfl)) (ty := .byte) (by decide)
    obtain ⟨T3, h3, k3, X3, e3, E3, A3, A3', st3⟩ := newPE X1 hx hZ (Wd hw 0 rfl) e1 (g := (mkF m 47 #[.val (.ref a0c), .val (.int 2)] [(.int 2), (.ref b1), (.ref b1)])) rfl (hb hby d2_47) rfl (by decide) (cap := 2) (by decide) (by decide) (by decide) (by decide) (ad := "[C") rfl
    obtain ⟨b3, g3⟩ : ∃ z, z = h1.size := ⟨_, rfl⟩
    rw [← g3] at A3 A3' st3
    have g_b3 : n0 ≤ b3 := Nat.le_trans (own_sz O1) (Nat.le_of_eq g3.symm)
    have sz_b3 : h0.size ≤ b3 := Nat.le_trans K1.1 (Nat.le_of_eq g3.symm)
    have H_4 := H_2.ext E3
    have R_4 := R_2.trans (CHr.ext E3 H_2)
    have K3 : Keep h0 h3 [] := K1.ext E3
    have O3 := O1.ext E3
    have V_b3 : Arv Z h3 b3 k3 .char (2 : Int32) [(.int 0), (.int 0)] (.int 0) := (Arv.new A3 (by decide)).pad (pad_rep [] (.int 0) 2)
    obtain ⟨cl5, Ar5, -, S5, N5_, H5, G5⟩ := id (((V_a0c.ext E1).ext E3))
    have hin5 : ¬ ((0 : Int32) < 0 ∨ cl5.slots.size ≤ ((0 : Int32)).toNatClampNeg) := inb_of S5 ⟨(by decide), (by decide)⟩
    have hat5 : cl5.slots[((0 : Int32)).toNatClampNeg]? = some (.int s0) := H5.at hin5 rfl
    obtain ⟨cl6, Ar6, q6, S6, N6_, H6, G6⟩ := id (V_b3)
    have hin6 : ¬ ((0 : Int32) < 0 ∨ cl6.slots.size ≤ ((0 : Int32)).toNatClampNeg) := inb_of S6 ⟨(by decide), (by decide)⟩
    obtain ⟨T6, h6, X6, e6, W6, st6⟩ := stC X3 hx hZ e3 Ar6 (j := (0 : Int32)) hin6 (g := (mkF m 54 #[.val (.ref a0c), .val (.int 2)] [(.int s0), (.int 0), (.ref b3), (.ref b3), (.ref b1), (.ref b1)])) rfl rfl (hb hby d2_54)
    have Sf8 : Safe Z EL1 s.vm h3 b3 := Safe.exa (EL := EL1) hZ.alike A3' (by decide) (by decide)
    have H_7 := H_4.wr W6 Sf8
    have R_7 := R_4.trans (CHr.wr W6 Sf8 H_4)
    have K6 : Keep h0 h6 [] := K3.wr W6 (Or.inr sz_b3)
    have O6 := O3.wr W6 g_b3
    have N6 := Fr.snoc X6 N0 g_b3
    have V6' : Arv Z h6 b3 k3 .char (2 : Int32) [(.int (nar .char s0)), (.int 0)] (.int 0) := Arv.set Ar6 q6 S6 N6_ H6 G6 (fits_nar_char _) W6 0 rfl (Nat.le_of_ble_eq_true rfl)
    have V6 : Arv Z h6 b3 k3 .char (2 : Int32) [(.int s0), (.int 0)] (.int 0) := by
      rw [hn0] at V6'
      exact V6'
    obtain ⟨cl9, Ar9, -, S9, N9_, H9, G9⟩ := id ((((V_a0c.ext E1).ext E3).other W6 (Nat.ne_of_lt (Nat.lt_of_lt_of_le (Nat.lt_of_lt_of_le V_a0c.lt E1.1) (Nat.le_of_eq g3.symm)))))
    have hin9 : ¬ ((1 : Int32) < 0 ∨ cl9.slots.size ≤ ((1 : Int32)).toNatClampNeg) := inb_of S9 ⟨(by decide), (by decide)⟩
    have hat9 : cl9.slots[((1 : Int32)).toNatClampNeg]? = some (.int s1) := H9.at hin9 rfl
    obtain ⟨cl10, Ar10, q10, S10, N10_, H10, G10⟩ := id (V6)
    have hin10 : ¬ ((1 : Int32) < 0 ∨ cl10.slots.size ≤ ((1 : Int32)).toNatClampNeg) := inb_of S10 ⟨(by decide), (by decide)⟩
    obtain ⟨T10, h10, X10, e10, W10, st10⟩ := stC X6 hx hZ e6 Ar10 (j := (1 : Int32)) hin10 (g := (mkF m 60 #[.val (.ref a0c), .val (.int 2)] [(.int s1), (.int 1), (.ref b3), (.ref b3), (.ref b1), (.ref b1)])) rfl rfl (hb hby d2_60)
    have Sf12 : Safe Z EL1 s.vm h6 b3 := Safe.exa (EL := EL1) hZ.alike (A3'.wr W6) (by decide) (by decide)
    have H_11 := H_7.wr W10 Sf12
    have R_11 := R_7.trans (CHr.wr W10 Sf12 H_7)
    have K10 : Keep h0 h10 [] := K6.wr W10 (Or.inr sz_b3)
    have O10 := O6.wr W10 g_b3
    have N10 := Fr.snoc X10 N6 g_b3
    have V10' : Arv Z h10 b3 k3 .char (2 : Int32) [(.int s0), (.int (nar .char s1))] (.int 0) := Arv.set Ar10 q10 S10 N10_ H10 G10 (fits_nar_char _) W10 1 rfl (Nat.le_of_ble_eq_true rfl)
    have V10 : Arv Z h10 b3 k3 .char (2 : Int32) [(.int s0), (.int s1)] (.int 0) := by
      rw [hn1] at V10'
      exact V10'
    obtain ⟨_, _, ⟨T13, L13, k13, n13⟩, -, X13, ⟨Lc13, hQ13, l13, y13, z13⟩, st13⟩ := X10.specialBack hx (y := MN_4) rfl hown (mvT hZ (Wd hw 12 rfl)) (mvT hZ (Wd hw 13 rfl)) (mvT hZ (Wd hw 14 rfl)) (by decide) (backOf (W := 1) (rmIc_2 l Z a0 hw [] cS (b1) (b3) (k3) (s0) (s1) (h10) n0 O10 GL (((A1.ext E3).wr W6).wr W10) (((F_value_b1.ext E3).other W6 (Or.inl (Nat.ne_of_lt (Nat.lt_of_lt_of_le A1.lt (Nat.le_of_eq g3.symm))))).other W10 (Or.inl (Nat.ne_of_lt (Nat.lt_of_lt_of_le A1.lt (Nat.le_of_eq g3.symm))))) (((F_coder_b1.ext E3).other W6 (Or.inl (Nat.ne_of_lt (Nat.lt_of_lt_of_le A1.lt (Nat.le_of_eq g3.symm))))).other W10 (Or.inl (Nat.ne_of_lt (Nat.lt_of_lt_of_le A1.lt (Nat.le_of_eq g3.symm))))) g_b1 V10 hl0 hl1) hZ (Wd hw 14 rfl) (Wd hw 11 rfl) (by decide) (by decide)) (g := (mkF m 61 #[.val (.ref a0c), .val (.int 2)] [(.ref b3), (.ref b1), (.ref b1)])) rfl (by rw [hml]; rfl) (Steps.refl _) (a := b1) (argsL := [(.ref b3)]) (rest := [(.ref b1)]) (lenOf pdv5 rfl) rfl (by show 2 * 0 + _ ≤ _; exact Nat.le_of_eq rfl) (hb hby d2_61) (fun _ _ => ⟨rfl, e10, (by decide : 2 + 1 ≤ _), (by decide : 6 + 2 ≤ _)⟩)
    dsimp only [Pt.U, Pt.locs, Pt.cells, Pt.slots] at X13 l13 y13 z13 st13 hQ13
    subst l13 y13 z13
    obtain ⟨b_13, kb_13, rfl, N13q, Kc13, P13_0, P13_1, P13_2, P13_3, P13_4, P13_5⟩ := hQ13
    have K13 : Keep h0 T13.heap [] := K10.trans Kc13 (allS (Or.inr sz_b1) all0)
    have O13 := O10.keep Kc13 (allS g_b1 all0)
    have Sf15 : Safe Z EL1 s.vm h10 b1 := (Safe.wr W10 Sf12 H_7 (Safe.wr W6 Sf8 H_4 (Safe.ext E3 H_2 (Safe.ext E1 H0 (Safe.new (Z := Z) (EL := EL1) (vm := s.vm) (Nat.le_of_eq g1.symm))))))
    have H_14 := H_11.keep Kc13 (sfS Sf15 sf0)
    have R_14 := R_11.trans (CHr.keep Kc13 (sfS Sf15 sf0) H_11)
    have g_b_13 : n0 ≤ b_13 := Nat.le_trans (own_sz O10) P13_0
    have sz_b_13 : h0.size ≤ b_13 := Nat.le_trans K10.1 P13_0
    have N13 := Fr.app N10 N13q
    have hR : Rfs (2 : Int32) [(.int (s0.toInt8.toInt32)), (.int (s1.toInt8.toInt32))] := Or.inl (by decide)
    obtain ⟨fs, hr, hrun, hended, hRW⟩ := X13.leaveW hS0 (Nat.le_trans (Nat.le_trans (Nat.le_trans (Nat.le_trans (Nat.le_trans (Nat.le_refl _) E1.1) E3.1) (Keep.of_wr W6).1) (Keep.of_wr W10).1) Kc13.1) (v := some (.ref b1)) (fun h => by rw [Bd.returns] at h; cases h)
    have hCR : CHr Z EL1 s.vm s.heap T13.vm T13.heap := by
      rw [hh]
      exact R_14.trans (CHv.at X13 hZ (own_EW hw) H_14)
    refine ⟨_, _, pre0 _ ?_, hrun, hended, _, _, rfl, ?_, hCR, hRW.1, hRW.2.1, hRW.2.2.1, hRW.2.2.2.mono (by decide) (by decide)⟩
    · rw [hN]
      show Steps p.tables e below (s₁.setTop (mkF m 0 #[.val (.ref a0c), .val (.int 2)] [])) _
      refine XS.iloadN X0w.here hx rfl (hb hby d2_0) rfl ?_
      refine XS.ifYes X0w.here hx rfl (pc0 := 1) (pc' := 15) rfl (hb hby d2_1) rfl ((if0 _ _).trans (feq (by decide : ¬ ((2 : Int32) = (0 : Int32)))).2) (by decide) (by decide) ?_
      refine XS.iloadN X0w.here hx rfl (hb hby d2_15) rfl ?_
      refine XS.iconst X0w.here hx rfl (hb hby d2_16) ?_
      show Steps p.tables e below (s₁.setTop (mkF m 17 #[.val (.ref a0c), .val (.int 2)] [(.int 1), (.int 2)])) _
      refine XS.icmpYes X0w.here hx rfl (pc0 := 17) (pc' := 37) rfl (hb hby d2_17) rfl (feq (by decide : ¬ ((2 : Int32) = (1 : Int32)))).2 (by decide) (by decide) ?_
      refine XS.iloadN X0w.here hx rfl (hb hby d2_37) rfl ?_
      refine XS.iconst X0w.here hx rfl (hb hby d2_38) ?_
      refine XS.icmpNo X0w.here hx rfl (hb hby d2_39) rfl (teq (by decide : (2 : Int32) = (2 : Int32))).2 ?_
      show Steps p.tables e below (s₁.setTop (mkF m 42 #[.val (.ref a0c), .val (.int 2)] [])) _
      refine st1 _ ?_
      show Steps p.tables e below (T1.setTop (mkF m 45 #[.val (.ref a0c), .val (.int 2)] [(.ref b1)])) _
      refine XS.dup X1.here hx rfl (hb hby d2_45) rfl rfl ?_
      refine XS.iconst X1.here hx rfl (hb hby d2_46) ?_
      show Steps p.tables e below (T1.setTop (mkF m 47 #[.val (.ref a0c), .val (.int 2)] [(.int 2), (.ref b1), (.ref b1)])) _
      refine st3 _ ?_
      show Steps p.tables e below (T3.setTop (mkF m 49 #[.val (.ref a0c), .val (.int 2)] [(.ref b3), (.ref b1), (.ref b1)])) _
      refine XS.dup X3.here hx rfl (hb hby d2_49) rfl rfl ?_
      refine XS.iconst X3.here hx rfl (hb hby d2_50) ?_
      refine XS.aloadN X3.here hx rfl (hb hby d2_51) rfl rfl ?_
      refine XS.iconst X3.here hx rfl (hb hby d2_52) ?_
      show Steps p.tables e below (T3.setTop (mkF m 53 #[.val (.ref a0c), .val (.int 2)] [(.int 0), (.ref a0c), (.int 0), (.ref b3), (.ref b3), (.ref b1), (.ref b1)])) _
      refine X3.caload hx (j := (0 : Int32)) (v := (.int s0)) (by rw [e3]; exact Ar5.1) (State.isArrayOf_alike hZ.alike Ar5.2.1) Ar5.2.2 hin5 hat5 (g := (mkF m 53 #[.val (.ref a0c), .val (.int 2)] [(.int 0), (.ref a0c), (.int 0), (.ref b3), (.ref b3), (.ref b1), (.ref b1)])) rfl rfl (hb hby d2_53) _ ?_
      show Steps p.tables e below (T3.setTop (mkF m 54 #[.val (.ref a0c), .val (.int 2)] [(.int s0), (.int 0), (.ref b3), (.ref b3), (.ref b1), (.ref b1)])) _
      refine st6 _ ?_
      show Steps p.tables e below (T6.setTop (mkF m 55 #[.val (.ref a0c), .val (.int 2)] [(.ref b3), (.ref b1), (.ref b1)])) _
      refine XS.dup X6.here hx rfl (hb hby d2_55) rfl rfl ?_
      refine XS.iconst X6.here hx rfl (hb hby d2_56) ?_
      refine XS.aloadN X6.here hx rfl (hb hby d2_57) rfl rfl ?_
      refine XS.iconst X6.here hx rfl (hb hby d2_58) ?_
      show Steps p.tables e below (T6.setTop (mkF m 59 #[.val (.ref a0c), .val (.int 2)] [(.int 1), (.ref a0c), (.int 1), (.ref b3), (.ref b3), (.ref b1), (.ref b1)])) _
      refine X6.caload hx (j := (1 : Int32)) (v := (.int s1)) (by rw [e6]; exact Ar9.1) (State.isArrayOf_alike hZ.alike Ar9.2.1) Ar9.2.2 hin9 hat9 (g := (mkF m 59 #[.val (.ref a0c), .val (.int 2)] [(.int 1), (.ref a0c), (.int 1), (.ref b3), (.ref b3), (.ref b1), (.ref b1)])) rfl rfl (hb hby d2_59) _ ?_
      show Steps p.tables e below (T6.setTop (mkF m 60 #[.val (.ref a0c), .val (.int 2)] [(.int s1), (.int 1), (.ref b3), (.ref b3), (.ref b1), (.ref b1)])) _
      refine st10 _ ?_
      show Steps p.tables e below (T10.setTop (mkF m 61 #[.val (.ref a0c), .val (.int 2)] [(.ref b3), (.ref b1), (.ref b1)])) _
      refine st13.trans ?_
      show Steps p.tables e below (T13.setTop (mkF m 64 #[.val (.ref a0c), .val (.int 2)] [(.ref b1)])) _
      jvm_step X13.here [X13.here.top, hx, (hb hby d2_64), X13.method', Bd.returns, Value.isRef, FieldType.isReference]
      first | (intro acts; rw [hr _ acts rfl rfl rfl]) | rw [hr _ _ rfl rfl rfl]
      exact Steps.refl _
    · show Q_rmTk n0 Z cS a0c p1 k0 s0 s1 s2 s3 s4 s5 h0 _ T13.heap _
      exact ⟨b1, b_13, kb_13, (2 : Int32), [(.int (s0.toInt8.toInt32)), (.int (s1.toInt8.toInt32))], rfl, N13, K13, P13_2, P13_3, P13_4, P13_5, hR⟩
  · obtain ⟨T1, h1, X1, e1, E1, A1, D1, -, st1⟩ := newO X0w hx hZ hown (Wd hw 9 rfl) (Wd hw 10 rfl) (Wd hw 11 rfl) e0 (g := (mkF m 70 #[.val (.ref a0c), .val (.int 3)] [])) rfl (hb hby d2_70) (by decide) (by decide)
    obtain ⟨b1, g1⟩ : ∃ z, z = h0.size := ⟨_, rfl⟩
    rw [← g1] at A1 D1 st1
    have g_b1 : n0 ≤ b1 := Nat.le_trans (own_sz O0) (Nat.le_of_eq g1.symm)
    have sz_b1 : h0.size ≤ b1 := Nat.le_trans (Keep.refl h0 []).1 (Nat.le_of_eq g1.symm)
    have H_2 := H0.ext E1
    have R_2 := R0.trans (CHr.ext E1 H0)
    have K1 : Keep h0 h1 [] := (Keep.refl h0 []).ext E1
    have O1 := O0.ext E1
    have F_value_b1 : Fld Z h1 b1 "java/lang/String" "value" "[B" .null := D1 (Or.inr (Wd hw 24 rfl)) (ty := (.array .byte)) (by decide)
    have F_coder_b1 : Fld Z h1 b1 "java/lang/String" "coder" "B" (.int 0) := D1 (Or.inr (Wd hw 25 rfl)) (ty := .byte) (by decide)
    obtain ⟨T3, h3, k3, X3, e3, E3, A3, A3', st3⟩ := newPE X1 hx hZ (Wd hw 0 rfl) e1 (g := (mkF m 75 #[.val (.ref a0c), .val (.int 3)] [(.int 3), (.ref b1), (.ref b1)])) rfl (hb hby d2_75) rfl (by decide) (cap := 3) (by decide) (by decide) (by decide) (by decide) (ad := "[C") rfl
    obtain ⟨b3, g3⟩ : ∃ z, z = h1.size := ⟨_, rfl⟩
    rw [← g3] at A3 A3' st3
    have g_b3 : n0 ≤ b3 := Nat.le_trans (own_sz O1) (Nat.le_of_eq g3.symm)
    have sz_b3 : h0.size ≤ b3 := Nat.le_trans K1.1 (Nat.le_of_eq g3.symm)
    have H_4 := H_2.ext E3
    have R_4 := R_2.trans (CHr.ext E3 H_2)
    have K3 : Keep h0 h3 [] := K1.ext E3
    have O3 := O1.ext E3
    have V_b3 : Arv Z h3 b3 k3 .char (3 : Int32) [(.int 0), (.int 0), (.int 0)] (.int 0) := (Arv.new A3 (by decide)).pad (pad_rep [] (.int 0) 3)
    obtain ⟨cl5, Ar5, -, S5, N5_, H5, G5⟩ := id (((V_a0c.ext E1).ext E3))
    have hin5 : ¬ ((0 : Int32) < 0 ∨ cl5.slots.size ≤ ((0 : Int32)).toNatClampNeg) := inb_of S5 ⟨(by decide), (by decide)⟩
    have hat5 : cl5.slots[((0 : Int32)).toNatClampNeg]? = some (.int s0) := H5.at hin5 rfl
    obtain ⟨cl6, Ar6, q6, S6, N6_, H6, G6⟩ := id (V_b3)
    have hin6 : ¬ ((0 : Int32) < 0 ∨ cl6.slots.size ≤ ((0 : Int32)).toNatClampNeg) := inb_of S6 ⟨(by decide), (by decide)⟩
    obtain ⟨T6, h6, X6, e6, W6, st6⟩ := stC X3 hx hZ e3 Ar6 (j := (0 : Int32)) hin6 (g := (mkF m 82 #[.val (.ref a0c), .val (.int 3)] [(.int s0), (.int 0), (.ref b3), (.ref b3), (.ref b1), (.ref b1)])) rfl rfl (hb hby d2_82)
    have Sf8 : Safe Z EL1 s.vm h3 b3 := Safe.exa (EL := EL1) hZ.alike A3' (by decide) (by decide)
    have H_7 := H_4.wr W6 Sf8
    have R_7 := R_4.trans (CHr.wr W6 Sf8 H_4)
    have K6 : Keep h0 h6 [] := K3.wr W6 (Or.inr sz_b3)
    have O6 := O3.wr W6 g_b3
    have N6 := Fr.snoc X6 N0 g_b3
    have V6' : Arv Z h6 b3 k3 .char (3 : Int32) [(.int (nar .char s0)), (.int 0), (.int 0)] (.int 0) := Arv.set Ar6 q6 S6 N6_ H6 G6 (fits_nar_char _) W6 0 rfl (Nat.le_of_ble_eq_true rfl)
    have V6 : Arv Z h6 b3 k3 .char (3 : Int32) [(.int s0), (.int 0), (.int 0)] (.int 0) := by
      rw [hn0] at V6'
      exact V6'
    obtain ⟨cl9, Ar9, -, S9, N9_, H9, G9⟩ := id ((((V_a0c.ext E1).ext E3).other W6 (Nat.ne_of_lt (Nat.lt_of_lt_of_le (Nat.lt_of_lt_of_le V_a0c.lt E1.1) (Nat.le_of_eq g3.symm)))))
    have hin9 : ¬ ((1 : Int32) < 0 ∨ cl9.slots.size ≤ ((1 : Int32)).toNatClampNeg) := inb_of S9 ⟨(by decide), (by decide)⟩
    have hat9 : cl9.slots[((1 : Int32)).toNatClampNeg]? = some (.int s1) := H9.at hin9 rfl
    obtain ⟨cl10, Ar10, q10, S10, N10_, H10, G10⟩ := id (V6)
    have hin10 : ¬ ((1 : Int32) < 0 ∨ cl10.slots.size ≤ ((1 : Int32)).toNatClampNeg) := inb_of S10 ⟨(by decide), (by decide)⟩
    obtain ⟨T10, h10, X10, e10, W10, st10⟩ := stC X6 hx hZ e6 Ar10 (j := (1 : Int32)) hin10 (g := (mkF m 88 #[.val (.ref a0c), .val (.int 3)] [(.int s1), (.int 1), (.ref b3), (.ref b3), (.ref b1), (.ref b1)])) rfl rfl (hb hby d2_88)
    have Sf12 : Safe Z EL1 s.vm h6 b3 := Safe.exa (EL := EL1) hZ.alike (A3'.wr W6) (by decide) (by decide)
    have H_11 := H_7.wr W10 Sf12
    have R_11 := R_7.trans (CHr.wr W10 Sf12 H_7)
    have K10 : Keep h0 h10 [] := K6.wr W10 (Or.inr sz_b3)
    have O10 := O6.wr W10 g_b3
    have N10 := Fr.snoc X10 N6 g_b3
    have V10' : Arv Z h10 b3 k3 .char (3 : Int32) [(.int s0), (.int (nar .char s1)), (.int 0)] (.int 0) := Arv.set Ar10 q10 S10 N10_ H10 G10 (fits_nar_char _) W10 1 rfl (Nat.le_of_ble_eq_true rfl)
    have V10 : Arv Z h10 b3 k3 .char (3 : Int32) [(.int s0), (.int s1), (.int 0)] (.int 0) := by
      rw [hn1] at V10'
      exact V10'
    obtain ⟨cl13, Ar13, -, S13, N13_, H13, G13⟩ := id (((((V_a0c.ext E1).ext E3).other W6 (Nat.ne_of_lt (Nat.lt_of_lt_of_le (Nat.lt_of_lt_of_le V_a0c.lt E1.1) (Nat.le_of_eq g3.symm)))).other W10 (Nat.ne_of_lt (Nat.lt_of_lt_of_le (Nat.lt_of_lt_of_le V_a0c.lt E1.1) (Nat.le_of_eq g3.symm)))))
    have hin13 : ¬ ((2 : Int32) < 0 ∨ cl13.slots.size ≤ ((2 : Int32)).toNatClampNeg) := inb_of S13 ⟨(by decide), (by decide)⟩
    have hat13 : cl13.slots[((2 : Int32)).toNatClampNeg]? = some (.int s2) := H13.at hin13 rfl
    obtain ⟨cl14, Ar14, q14, S14, N14_, H14, G14⟩ := id (V10)
    have hin14 : ¬ ((2 : Int32) < 0 ∨ cl14.slots.size ≤ ((2 : Int32)).toNatClampNeg) := inb_of S14 ⟨(by decide), (by decide)⟩
    obtain ⟨T14, h14, X14, e14, W14, st14⟩ := stC X10 hx hZ e10 Ar14 (j := (2 : Int32)) hin14 (g := (mkF m 94 #[.val (.ref a0c), .val (.int 3)] [(.int s2), (.int 2), (.ref b3), (.ref b3), (.ref b1), (.ref b1)])) rfl rfl (hb hby d2_94)
    have Sf16 : Safe Z EL1 s.vm h10 b3 := Safe.exa (EL := EL1) hZ.alike ((A3'.wr W6).wr W10) (by decide) (by decide)
    have H_15 := H_11.wr W14 Sf16
    have R_15 := R_11.trans (CHr.wr W14 Sf16 H_11)
    have K14 : Keep h0 h14 [] := K10.wr W14 (Or.inr sz_b3)
    have O14 := O10.wr W14 g_b3
    have N14 := Fr.snoc X14 N10 g_b3
    have V14' : Arv Z h14 b3 k3 .char (3 : Int32) [(.int s0), (.int s1), (.int (nar .char s2))] (.int 0) := Arv.set Ar14 q14 S14 N14_ H14 G14 (fits_nar_char _) W14 2 rfl (Nat.le_of_ble_eq_true rfl)
    have V14 : Arv Z h14 b3 k3 .char (3 : Int32) [(.int s0), (.int s1), (.int s2)] (.int 0) := by
      rw [hn2] at V14'
      exact V14'
    obtain ⟨_, _, ⟨T17, L17, k17, n17⟩, -, X17, ⟨Lc17, hQ17, l17, y17, z17⟩, st17⟩ := X14.specialBack hx (y := MN_4) rfl hown (mvT hZ (Wd hw 12 rfl)) (mvT hZ (Wd hw 13 rfl)) (mvT hZ (Wd hw 14 rfl)) (by decide) (backOf (W := 1) (rmIc_3 l Z a0 hw [] cS (b1) (b3) (k3) (s0) (s1) (s2) (h14) n0 O14 GL ((((A1.ext E3).wr W6).wr W10).wr W14) ((((F_value_b1.ext E3).other W6 (Or.inl (Nat.ne_of_lt (Nat.lt_of_lt_of_le A1.lt (Nat.le_of_eq g3.symm))))).other W10 (Or.inl (Nat.ne_of_lt (Nat.lt_of_lt_of_le A1.lt (Nat.le_of_eq g3.symm))))).other W14 (Or.inl (Nat.ne_of_lt (Nat.lt_of_lt_of_le A1.lt (Nat.le_of_eq g3.symm))))) ((((F_coder_b1.ext E3).other W6 (Or.inl (Nat.ne_of_lt (Nat.lt_of_lt_of_le A1.lt (Nat.le_of_eq g3.symm))))).other W10 (Or.inl (Nat.ne_of_lt (Nat.lt_of_lt_of_le A1.lt (Nat.le_of_eq g3.symm))))).other W14 (Or.inl (Nat.ne_of_lt (Nat.lt_of_lt_of_le A1.lt (Nat.le_of_eq g3.symm))))) g_b1 V14 hl0 hl1 hl2) hZ (Wd hw 14 rfl) (Wd hw 11 rfl) (by decide) (by decide)) (g := (mkF m 95 #[.val (.ref a0c), .val (.int 3)] [(.ref b3), (.ref b1), (.ref b1)])) rfl (by rw [hml]; rfl) (Steps.refl _) (a := b1) (argsL := [(.ref b3)]) (rest := [(.ref b1)]) (lenOf pdv5 rfl) rfl (by show 2 * 0 + _ ≤ _; exact Nat.le_of_eq rfl) (hb hby d2_95) (fun _ _ => ⟨rfl, e14, (by decide : 2 + 1 ≤ _), (by decide : 7 + 3 ≤ _)⟩)
    dsimp only [Pt.U, Pt.locs, Pt.cells, Pt.slots] at X17 l17 y17 z17 st17 hQ17
    subst l17 y17 z17
    obtain ⟨b_17, kb_17, rfl, N17q, Kc17, P17_0, P17_1, P17_2, P17_3, P17_4, P17_5⟩ := hQ17
    have K17 : Keep h0 T17.heap [] := K14.trans Kc17 (allS (Or.inr sz_b1) all0)
    have O17 := O14.keep Kc17 (allS g_b1 all0)
    have Sf19 : Safe Z EL1 s.vm h14 b1 := (Safe.wr W14 Sf16 H_11 (Safe.wr W10 Sf12 H_7 (Safe.wr W6 Sf8 H_4 (Safe.ext E3 H_2 (Safe.ext E1 H0 (Safe.new (Z := Z) (EL := EL1) (vm := s.vm) (Nat.le_of_eq g1.symm)))))))
    have H_18 := H_15.keep Kc17 (sfS Sf19 sf0)
    have R_18 := R_15.trans (CHr.keep Kc17 (sfS Sf19 sf0) H_15)
    have g_b_17 : n0 ≤ b_17 := Nat.le_trans (own_sz O14) P17_0
    have sz_b_17 : h0.size ≤ b_17 := Nat.le_trans K14.1 P17_0
    have N17 := Fr.app N14 N17q
    have hR : Rfs (3 : Int32) [(.int (s0.toInt8.toInt32)), (.int (s1.toInt8.toInt32)), (.int (s2.toInt8.toInt32))] := Or.inl (by decide)
    obtain ⟨fs, hr, hrun, hended, hRW⟩ := X17.leaveW hS0 (Nat.le_trans (Nat.le_trans (Nat.le_trans (Nat.le_trans (Nat.le_trans (Nat.le_trans (Nat.le_refl _) E1.1) E3.1) (Keep.of_wr W6).1) (Keep.of_wr W10).1) (Keep.of_wr W14).1) Kc17.1) (v := some (.ref b1)) (fun h => by rw [Bd.returns] at h; cases h)
    have hCR : CHr Z EL1 s.vm s.heap T17.vm T17.heap := by
      rw [hh]
      exact R_18.trans (CHv.at X17 hZ (own_EW hw) H_18)
    refine ⟨_, _, pre0 _ ?_, hrun, hended, _, _, rfl, ?_, hCR, hRW.1, hRW.2.1, hRW.2.2.1, hRW.2.2.2.mono (by decide) (by decide)⟩
    · rw [hN]
      show Steps p.tables e below (s₁.setTop (mkF m 0 #[.val (.ref a0c), .val (.int 3)] [])) _
      refine XS.iloadN X0w.here hx rfl (hb hby d2_0) rfl ?_
      refine XS.ifYes X0w.here hx rfl (pc0 := 1) (pc' := 15) rfl (hb hby d2_1) rfl ((if0 _ _).trans (feq (by decide : ¬ ((3 : Int32) = (0 : Int32)))).2) (by decide) (by decide) ?_
      refine XS.iloadN X0w.here hx rfl (hb hby d2_15) rfl ?_
      refine XS.iconst X0w.here hx rfl (hb hby d2_16) ?_
      show Steps p.tables e below (s₁.setTop (mkF m 17 #[.val (.ref a0c), .val (.int 3)] [(.int 1), (.int 3)])) _
      refine XS.icmpYes X0w.here hx rfl (pc0 := 17) (pc' := 37) rfl (hb hby d2_17) rfl (feq (by decide : ¬ ((3 : Int32) = (1 : Int32)))).2 (by decide) (by decide) ?_
      refine XS.iloadN X0w.here hx rfl (hb hby d2_37) rfl ?_
      refine XS.iconst X0w.here hx rfl (hb hby d2_38) ?_
      refine XS.icmpYes X0w.here hx rfl (pc0 := 39) (pc' := 65) rfl (hb hby d2_39) rfl (feq (by decide : ¬ ((3 : Int32) = (2 : Int32)))).2 (by decide) (by decide) ?_
      show Steps p.tables e below (s₁.setTop (mkF m 65 #[.val (.ref a0c), .val (.int 3)] [])) _
      refine XS.iloadN X0w.here hx rfl (hb hby d2_65) rfl ?_
      refine XS.iconst X0w.here hx rfl (hb hby d2_66) ?_
      refine XS.icmpNo X0w.here hx rfl (hb hby d2_67) rfl (teq (by decide : (3 : Int32) = (3 : Int32))).2 ?_
      show Steps p.tables e below (s₁.setTop (mkF m 70 #[.val (.ref a0c), .val (.int 3)] [])) _
      refine st1 _ ?_
      show Steps p.tables e below (T1.setTop (mkF m 73 #[.val (.ref a0c), .val (.int 3)] [(.ref b1)])) _
      refine XS.dup X1.here hx rfl (hb hby d2_73) rfl rfl ?_
      refine XS.iconst X1.here hx rfl (hb hby d2_74) ?_
      show Steps p.tables e below (T1.setTop (mkF m 75 #[.val (.ref a0c), .val (.int 3)] [(.int 3), (.ref b1), (.ref b1)])) _
      refine st3 _ ?_
      show Steps p.tables e below (T3.setTop (mkF m 77 #[.val (.ref a0c), .val (.int 3)] [(.ref b3), (.ref b1), (.ref b1)])) _
      refine XS.dup X3.here hx rfl (hb hby d2_77) rfl rfl ?_
      refine XS.iconst X3.here hx rfl (hb hby d2_78) ?_
      refine XS.aloadN X3.here hx rfl (hb hby d2_79) rfl rfl ?_
      refine XS.iconst X3.here hx rfl (hb hby d2_80) ?_
      show Steps p.tables e below (T3.setTop (mkF m 81 #[.val (.ref a0c), .val (.int 3)] [(.int 0), (.ref a0c), (.int 0), (.ref b3), (.ref b3), (.ref b1), (.ref b1)])) _
      refine X3.caload hx (j := (0 : Int32)) (v := (.int s0)) (by rw [e3]; exact Ar5.1) (State.isArrayOf_alike hZ.alike Ar5.2.1) Ar5.2.2 hin5 hat5 (g := (mkF m 81 #[.val (.ref a0c), .val (.int 3)] [(.int 0), (.ref a0c), (.int 0), (.ref b3), (.ref b3), (.ref b1), (.ref b1)])) rfl rfl (hb hby d2_81) _ ?_
      show Steps p.tables e below (T3.setTop (mkF m 82 #[.val (.ref a0c), .val (.int 3)] [(.int s0), (.int 0), (.ref b3), (.ref b3), (.ref b1), (.ref b1)])) _
      refine st6 _ ?_
      show Steps p.tables e below (T6.setTop (mkF m 83 #[.val (.ref a0c), .val (.int 3)] [(.ref b3), (.ref b1), (.ref b1)])) _
      refine XS.dup X6.here hx rfl (hb hby d2_83) rfl rfl ?_
      refine XS.iconst X6.here hx rfl (hb hby d2_84) ?_
      refine XS.aloadN X6.here hx rfl (hb hby d2_85) rfl rfl ?_
      refine XS.iconst X6.here hx rfl (hb hby d2_86) ?_
      show Steps p.tables e below (T6.setTop (mkF m 87 #[.val (.ref a0c), .val (.int 3)] [(.int 1), (.ref a0c), (.int 1), (.ref b3), (.ref b3), (.ref b1), (.ref b1)])) _
      refine X6.caload hx (j := (1 : Int32)) (v := (.int s1)) (by rw [e6]; exact Ar9.1) (State.isArrayOf_alike hZ.alike Ar9.2.1) Ar9.2.2 hin9 hat9 (g := (mkF m 87 #[.val (.ref a0c), .val (.int 3)] [(.int 1), (.ref a0c), (.int 1), (.ref b3), (.ref b3), (.ref b1), (.ref b1)])) rfl rfl (hb hby d2_87) _ ?_
      show Steps p.tables e below (T6.setTop (mkF m 88 #[.val (.ref a0c), .val (.int 3)] [(.int s1), (.int 1), (.ref b3), (.ref b3), (.ref b1), (.ref b1)])) _
      refine st10 _ ?_
      show Steps p.tables e below (T10.setTop (mkF m 89 #[.val (.ref a0c), .val (.int 3)] [(.ref b3), (.ref b1), (.ref b1)])) _
      refine XS.dup X10.here hx rfl (hb hby d2_89) rfl rfl ?_
      refine XS.iconst X10.here hx rfl (hb hby d2_90) ?_
      refine XS.aloadN X10.here hx rfl (hb hby d2_91) rfl rfl ?_
      refine XS.iconst X10.here hx rfl (hb hby d2_92) ?_
      show Steps p.tables e below (T10.setTop (mkF m 93 #[.val (.ref a0c), .val (.int 3)] [(.int 2), (.ref a0c), (.int 2), (.ref b3), (.ref b3), (.ref b1), (.ref b1)])) _
      refine X10.caload hx (j := (2 : Int32)) (v := (.int s2)) (by rw [e10]; exact Ar13.1) (State.isArrayOf_alike hZ.alike Ar13.2.1) Ar13.2.2 hin13 hat13 (g := (mkF m 93 #[.val (.ref a0c), .val (.int 3)] [(.int 2), (.ref a0c), (.int 2), (.ref b3), (.ref b3), (.ref b1), (.ref b1)])) rfl rfl (hb hby d2_93) _ ?_
      show Steps p.tables e below (T10.setTop (mkF m 94 #[.val (.ref a0c), .val (.int 3)] [(.int s2), (.int 2), (.ref b3), (.ref b3), (.ref b1), (.ref b1)])) _
      refine st14 _ ?_
      show Steps p.tables e below (T14.setTop (mkF m 95 #[.val (.ref a0c), .val (.int 3)] [(.ref b3), (.ref b1), (.ref b1)])) _
      refine st17.trans ?_
      show Steps p.tables e below (T17.setTop (mkF m 98 #[.val (.ref a0c), .val (.int 3)] [(.ref b1)])) _
      jvm_step X17.here [X17.here.top, hx, (hb hby d2_98), X17.method', Bd.returns, Value.isRef, FieldType.isReference]
      first | (intro acts; rw [hr _ acts rfl rfl rfl]) | rw [hr _ _ rfl rfl rfl]
      exact Steps.refl _
    · show Q_rmTk n0 Z cS a0c p1 k0 s0 s1 s2 s3 s4 s5 h0 _ T17.heap _
      exact ⟨b1, b_17, kb_17, (3 : Int32), [(.int (s0.toInt8.toInt32)), (.int (s1.toInt8.toInt32)), (.int (s2.toInt8.toInt32))], rfl, N17, K17, P17_2, P17_3, P17_4, P17_5, hR⟩
  · obtain ⟨T1, h1, X1, e1, E1, A1, D1, -, st1⟩ := newO X0w hx hZ hown (Wd hw 9 rfl) (Wd hw 10 rfl) (Wd hw 11 rfl) e0 (g := (mkF m 104 #[.val (.ref a0c), .val (.int 4)] [])) rfl (hb hby d2_104) (by decide) (by decide)
    obtain ⟨b1, g1⟩ : ∃ z, z = h0.size := ⟨_, rfl⟩
    rw [← g1] at A1 D1 st1
    have g_b1 : n0 ≤ b1 := Nat.le_trans (own_sz O0) (Nat.le_of_eq g1.symm)
    have sz_b1 : h0.size ≤ b1 := Nat.le_trans (Keep.refl h0 []).1 (Nat.le_of_eq g1.symm)
    have H_2 := H0.ext E1
    have R_2 := R0.trans (CHr.ext E1 H0)
    have K1 : Keep h0 h1 [] := (Keep.refl h0 []).ext E1
    have O1 := O0.ext E1
    have F_value_b1 : Fld Z h1 b1 "java/lang/String" "value" "[B" .null := D1 (Or.inr (Wd hw 24 rfl)) (ty := (.array .byte)) (by decide)
    have F_coder_b1 : Fld Z h1 b1 "java/lang/String" "coder" "B" (.int 0) := D1 (Or.inr (Wd hw 25 rfl)) (ty := .byte) (by decide)
    obtain ⟨T3, h3, k3, X3, e3, E3, A3, A3', st3⟩ := newPE X1 hx hZ (Wd hw 0 rfl) e1 (g := (mkF m 109 #[.val (.ref a0c), .val (.int 4)] [(.int 4), (.ref b1), (.ref b1)])) rfl (hb hby d2_109) rfl (by decide) (cap := 4) (by decide) (by decide) (by decide) (by decide) (ad := "[C") rfl
    obtain ⟨b3, g3⟩ : ∃ z, z = h1.size := ⟨_, rfl⟩
    rw [← g3] at A3 A3' st3
    have g_b3 : n0 ≤ b3 := Nat.le_trans (own_sz O1) (Nat.le_of_eq g3.symm)
    have sz_b3 : h0.size ≤ b3 := Nat.le_trans K1.1 (Nat.le_of_eq g3.symm)
    have H_4 := H_2.ext E3
    have R_4 := R_2.trans (CHr.ext E3 H_2)
    have K3 : Keep h0 h3 [] := K1.ext E3
    have O3 := O1.ext E3
    have V_b3 : Arv Z h3 b3 k3 .char (4 : Int32) [(.int 0), (.int 0), (.int 0), (.int 0)] (.int 0) := (Arv.new A3 (by decide)).pad (pad_rep [] (.int 0) 4)
    obtain ⟨cl5, Ar5, -, S5, N5_, H5, G5⟩ := id (((V_a0c.ext E1).ext E3))
    have hin5 : ¬ ((0 : Int32) < 0 ∨ cl5.slots.size ≤ ((0 : Int32)).toNatClampNeg) := inb_of S5 ⟨(by decide), (by decide)⟩
    have hat5 : cl5.slots[((0 : Int32)).toNatClampNeg]? = some (.int s0) := H5.at hin5 rfl
    obtain ⟨cl6, Ar6, q6, S6, N6_, H6, G6⟩ := id (V_b3)
    have hin6 : ¬ ((0 : Int32) < 0 ∨ cl6.slots.size ≤ ((0 : Int32)).toNatClampNeg) := inb_of S6 ⟨(by decide), (by decide)⟩
    obtain ⟨T6, h6, X6, e6, W6, st6⟩ := stC X3 hx hZ e3 Ar6 (j := (0 : Int32)) hin6 (g := (mkF m 116 #[.val (.ref a0c), .val (.int 4)] [(.int s0), (.int 0), (.ref b3), (.ref b3), (.ref b1), (.ref b1)])) rfl rfl (hb hby d2_116)
    have Sf8 : Safe Z EL1 s.vm h3 b3 := Safe.exa (EL := EL1) hZ.alike A3' (by decide) (by decide)
    have H_7 := H_4.wr W6 Sf8
    have R_7 := R_4.trans (CHr.wr W6 Sf8 H_4)
    have K6 : Keep h0 h6 [] := K3.wr W6 (Or.inr sz_b3)
    have O6 := O3.wr W6 g_b3
    have N6 := Fr.snoc X6 N0 g_b3
    have V6' : Arv Z h6 b3 k3 .char (4 : Int32) [(.int (nar .char s0)), (.int 0), (.int 0), (.int 0)] (.int 0) := Arv.set Ar6 q6 S6 N6_ H6 G6 (fits_nar_char _) W6 0 rfl (Nat.le_of_ble_eq_true rfl)
    have V6 : Arv Z h6 b3 k3 .char (4 : Int32) [(.int s0), (.int 0), (.int 0), (.int 0)] (.int 0) := by
      rw [hn0] at V6'
      exact V6'
    obtain ⟨cl9, Ar9, -, S9, N9_, H9, G9⟩ := id ((((V_a0c.ext E1).ext E3).other W6 (Nat.ne_of_lt (Nat.lt_of_lt_of_le (Nat.lt_of_lt_of_le V_a0c.lt E1.1) (Nat.le_of_eq g3.symm)))))
    have hin9 : ¬ ((1 : Int32) < 0 ∨ cl9.slots.size ≤ ((1 : Int32)).toNatClampNeg) := inb_of S9 ⟨(by decide), (by decide)⟩
    have hat9 : cl9.slots[((1 : Int32)).toNatClampNeg]? = some (.int s1) := H9.at hin9 rfl
    obtain ⟨cl10, Ar10, q10, S10, N10_, H10, G10⟩ := id (V6)
    have hin10 : ¬ ((1 : Int32) < 0 ∨ cl10.slots.size ≤ ((1 : Int32)).toNatClampNeg) := inb_of S10 ⟨(by decide), (by decide)⟩
    obtain ⟨T10, h10, X10, e10, W10, st10⟩ := stC X6 hx hZ e6 Ar10 (j := (1 : Int32)) hin10 (g := (mkF m 122 #[.val (.ref a0c), .val (.int 4)] [(.int s1), (.int 1), (.ref b3), (.ref b3), (.ref b1), (.ref b1)])) rfl rfl (hb hby d2_122)
    have Sf12 : Safe Z EL1 s.vm h6 b3 := Safe.exa (EL := EL1) hZ.alike (A3'.wr W6) (by decide) (by decide)
    have H_11 := H_7.wr W10 Sf12
    have R_11 := R_7.trans (CHr.wr W10 Sf12 H_7)
    have K10 : Keep h0 h10 [] := K6.wr W10 (Or.inr sz_b3)
    have O10 := O6.wr W10 g_b3
    have N10 := Fr.snoc X10 N6 g_b3
    have V10' : Arv Z h10 b3 k3 .char (4 : Int32) [(.int s0), (.int (nar .char s1)), (.int 0), (.int 0)] (.int 0) := Arv.set Ar10 q10 S10 N10_ H10 G10 (fits_nar_char _) W10 1 rfl (Nat.le_of_ble_eq_true rfl)
    have V10 : Arv Z h10 b3 k3 .char (4 : Int32) [(.int s0), (.int s1), (.int 0), (.int 0)] (.int 0) := by
      rw [hn1] at V10'
      exact V10'
    obtain ⟨cl13, Ar13, -, S13, N13_, H13, G13⟩ := id (((((V_a0c.ext E1).ext E3).other W6 (Nat.ne_of_lt (Nat.lt_of_lt_of_le (Nat.lt_of_lt_of_le V_a0c.lt E1.1) (Nat.le_of_eq g3.symm)))).other W10 (Nat.ne_of_lt (Nat.lt_of_lt_of_le (Nat.lt_of_lt_of_le V_a0c.lt E1.1) (Nat.le_of_eq g3.symm)))))
    have hin13 : ¬ ((2 : Int32) < 0 ∨ cl13.slots.size ≤ ((2 : Int32)).toNatClampNeg) := inb_of S13 ⟨(by decide), (by decide)⟩
    have hat13 : cl13.slots[((2 : Int32)).toNatClampNeg]? = some (.int s2) := H13.at hin13 rfl
    obtain ⟨cl14, Ar14, q14, S14, N14_, H14, G14⟩ := id (V10)
    have hin14 : ¬ ((2 : Int32) < 0 ∨ cl14.slots.size ≤ ((2 : Int32)).toNatClampNeg) := inb_of S14 ⟨(by decide), (by decide)⟩
    obtain ⟨T14, h14, X14, e14, W14, st14⟩ := stC X10 hx hZ e10 Ar14 (j := (2 : Int32)) hin14 (g := (mkF m 128 #[.val (.ref a0c), .val (.int 4)] [(.int s2), (.int 2), (.ref b3), (.ref b3), (.ref b1), (.ref b1)])) rfl rfl (hb hby d2_128)
    have Sf16 : Safe Z EL1 s.vm h10 b3 := Safe.exa (EL := EL1) hZ.alike ((A3'.wr W6).wr W10) (by decide) (by decide)
    have H_15 := H_11.wr W14 Sf16
    have R_15 := R_11.trans (CHr.wr W14 Sf16 H_11)
    have K14 : Keep h0 h14 [] := K10.wr W14 (Or.inr sz_b3)
    have O14 := O10.wr W14 g_b3
    have N14 := Fr.snoc X14 N10 g_b3
    have V14' : Arv Z h14 b3 k3 .char (4 : Int32) [(.int s0), (.int s1), (.int (nar .char s2)), (.int 0)] (.int 0) := Arv.set Ar14 q14 S14 N14_ H14 G14 (fits_nar_char _) W14 2 rfl (Nat.le_of_ble_eq_true rfl)
    have V14 : Arv Z h14 b3 k3 .char (4 : Int32) [(.int s0), (.int s1), (.int s2), (.int 0)] (.int 0) := by
      rw [hn2] at V14'
      exact V14'
    obtain ⟨cl17, Ar17, -, S17, N17_, H17, G17⟩ := id ((((((V_a0c.ext E1).ext E3).other W6 (Nat.ne_of_lt (Nat.lt_of_lt_of_le (Nat.lt_of_lt_of_le V_a0c.lt E1.1) (Nat.le_of_eq g3.symm)))).other W10 (Nat.ne_of_lt (Nat.lt_of_lt_of_le (Nat.lt_of_lt_of_le V_a0c.lt E1.1) (Nat.le_of_eq g3.symm)))).other W14 (Nat.ne_of_lt (Nat.lt_of_lt_of_le (Nat.lt_of_lt_of_le V_a0c.lt E1.1) (Nat.le_of_eq g3.symm)))))
    have hin17 : ¬ ((3 : Int32) < 0 ∨ cl17.slots.size ≤ ((3 : Int32)).toNatClampNeg) := inb_of S17 ⟨(by decide), (by decide)⟩
    have hat17 : cl17.slots[((3 : Int32)).toNatClampNeg]? = some (.int s3) := H17.at hin17 rfl
    obtain ⟨cl18, Ar18, q18, S18, N18_, H18, G18⟩ := id (V14)
    have hin18 : ¬ ((3 : Int32) < 0 ∨ cl18.slots.size ≤ ((3 : Int32)).toNatClampNeg) := inb_of S18 ⟨(by decide), (by decide)⟩
    obtain ⟨T18, h18, X18, e18, W18, st18⟩ := stC X14 hx hZ e14 Ar18 (j := (3 : Int32)) hin18 (g := (mkF m 134 #[.val (.ref a0c), .val (.int 4)] [(.int s3), (.int 3), (.ref b3), (.ref b3), (.ref b1), (.ref b1)])) rfl rfl (hb hby d2_134)
    have Sf20 : Safe Z EL1 s.vm h14 b3 := Safe.exa (EL := EL1) hZ.alike (((A3'.wr W6).wr W10).wr W14) (by decide) (by decide)
    have H_19 := H_15.wr W18 Sf20
    have R_19 := R_15.trans (CHr.wr W18 Sf20 H_15)
    have K18 : Keep h0 h18 [] := K14.wr W18 (Or.inr sz_b3)
    have O18 := O14.wr W18 g_b3
    have N18 := Fr.snoc X18 N14 g_b3
    have V18' : Arv Z h18 b3 k3 .char (4 : Int32) [(.int s0), (.int s1), (.int s2), (.int (nar .char s3))] (.int 0) := Arv.set Ar18 q18 S18 N18_ H18 G18 (fits_nar_char _) W18 3 rfl (Nat.le_of_ble_eq_true rfl)
    have V18 : Arv Z h18 b3 k3 .char (4 : Int32) [(.int s0), (.int s1), (.int s2), (.int s3)] (.int 0) := by
      rw [hn3] at V18'
      exact V18'
    obtain ⟨_, _, ⟨T21, L21, k21, n21⟩, -, X21, ⟨Lc21, hQ21, l21, y21, z21⟩, st21⟩ := X18.specialBack hx (y := MN_4) rfl hown (mvT hZ (Wd hw 12 rfl)) (mvT hZ (Wd hw 13 rfl)) (mvT hZ (Wd hw 14 rfl)) (by decide) (backOf (W := 1) (rmIc_4 l Z a0 hw [] cS (b1) (b3) (k3) (s0) (s1) (s2) (s3) (h18) n0 O18 GL (((((A1.ext E3).wr W6).wr W10).wr W14).wr W18) (((((F_value_b1.ext E3).other W6 (Or.inl (Nat.ne_of_lt (Nat.lt_of_lt_of_le A1.lt (Nat.le_of_eq g3.symm))))).other W10 (Or.inl (Nat.ne_of_lt (Nat.lt_of_lt_of_le A1.lt (Nat.le_of_eq g3.symm))))).other W14 (Or.inl (Nat.ne_of_lt (Nat.lt_of_lt_of_le A1.lt (Nat.le_of_eq g3.symm))))).other W18 (Or.inl (Nat.ne_of_lt (Nat.lt_of_lt_of_le A1.lt (Nat.le_of_eq g3.symm))))) (((((F_coder_b1.ext E3).other W6 (Or.inl (Nat.ne_of_lt (Nat.lt_of_lt_of_le A1.lt (Nat.le_of_eq g3.symm))))).other W10 (Or.inl (Nat.ne_of_lt (Nat.lt_of_lt_of_le A1.lt (Nat.le_of_eq g3.symm))))).other W14 (Or.inl (Nat.ne_of_lt (Nat.lt_of_lt_of_le A1.lt (Nat.le_of_eq g3.symm))))).other W18 (Or.inl (Nat.ne_of_lt (Nat.lt_of_lt_of_le A1.lt (Nat.le_of_eq g3.symm))))) g_b1 V18 hl0 hl1 hl2 hl3) hZ (Wd hw 14 rfl) (Wd hw 11 rfl) (by decide) (by decide)) (g := (mkF m 135 #[.val (.ref a0c), .val (.int 4)] [(.ref b3), (.ref b1), (.ref b1)])) rfl (by rw [hml]; rfl) (Steps.refl _) (a := b1) (argsL := [(.ref b3)]) (rest := [(.ref b1)]) (lenOf pdv5 rfl) rfl (by show 2 * 0 + _ ≤ _; exact Nat.le_of_eq rfl) (hb hby d2_135) (fun _ _ => ⟨rfl, e18, (by decide : 2 + 1 ≤ _), (by decide : 8 + 4 ≤ _)⟩)
    dsimp only [Pt.U, Pt.locs, Pt.cells, Pt.slots] at X21 l21 y21 z21 st21 hQ21
    subst l21 y21 z21
    obtain ⟨b_21, kb_21, rfl, N21q, Kc21, P21_0, P21_1, P21_2, P21_3, P21_4, P21_5⟩ := hQ21
    have K21 : Keep h0 T21.heap [] := K18.trans Kc21 (allS (Or.inr sz_b1) all0)
    have O21 := O18.keep Kc21 (allS g_b1 all0)
    have Sf23 : Safe Z EL1 s.vm h18 b1 := (Safe.wr W18 Sf20 H_15 (Safe.wr W14 Sf16 H_11 (Safe.wr W10 Sf12 H_7 (Safe.wr W6 Sf8 H_4 (Safe.ext E3 H_2 (Safe.ext E1 H0 (Safe.new (Z := Z) (EL := EL1) (vm := s.vm) (Nat.le_of_eq g1.symm))))))))
    have H_22 := H_19.keep Kc21 (sfS Sf23 sf0)
    have R_22 := R_19.trans (CHr.keep Kc21 (sfS Sf23 sf0) H_19)
    have g_b_21 : n0 ≤ b_21 := Nat.le_trans (own_sz O18) P21_0
    have sz_b_21 : h0.size ≤ b_21 := Nat.le_trans K18.1 P21_0
    have N21 := Fr.app N18 N21q
    have hR : Rfs (4 : Int32) [(.int (s0.toInt8.toInt32)), (.int (s1.toInt8.toInt32)), (.int (s2.toInt8.toInt32)), (.int (s3.toInt8.toInt32))] := Or.inl (by decide)
    obtain ⟨fs, hr, hrun, hended, hRW⟩ := X21.leaveW hS0 (Nat.le_trans (Nat.le_trans (Nat.le_trans (Nat.le_trans (Nat.le_trans (Nat.le_trans (Nat.le_trans (Nat.le_refl _) E1.1) E3.1) (Keep.of_wr W6).1) (Keep.of_wr W10).1) (Keep.of_wr W14).1) (Keep.of_wr W18).1) Kc21.1) (v := some (.ref b1)) (fun h => by rw [Bd.returns] at h; cases h)
    have hCR : CHr Z EL1 s.vm s.heap T21.vm T21.heap := by
      rw [hh]
      exact R_22.trans (CHv.at X21 hZ (own_EW hw) H_22)
    refine ⟨_, _, pre0 _ ?_, hrun, hended, _, _, rfl, ?_, hCR, hRW.1, hRW.2.1, hRW.2.2.1, hRW.2.2.2.mono (by decide) (by decide)⟩
    · rw [hN]
      show Steps p.tables e below (s₁.setTop (mkF m 0 #[.val (.ref a0c), .val (.int 4)] [])) _
      refine XS.iloadN X0w.here hx rfl (hb hby d2_0) rfl ?_
      refine XS.ifYes X0w.here hx rfl (pc0 := 1) (pc' := 15) rfl (hb hby d2_1) rfl ((if0 _ _).trans (feq (by decide : ¬ ((4 : Int32) = (0 : Int32)))).2) (by decide) (by decide) ?_
      refine XS.iloadN X0w.here hx rfl (hb hby d2_15) rfl ?_
      refine XS.iconst X0w.here hx rfl (hb hby d2_16) ?_
      show Steps p.tables e below (s₁.setTop (mkF m 17 #[.val (.ref a0c), .val (.int 4)] [(.int 1), (.int 4)])) _
      refine XS.icmpYes X0w.here hx rfl (pc0 := 17) (pc' := 37) rfl (hb hby d2_17) rfl (feq (by decide : ¬ ((4 : Int32) = (1 : Int32)))).2 (by decide) (by decide) ?_
      refine XS.iloadN X0w.here hx rfl (hb hby d2_37) rfl ?_
      refine XS.iconst X0w.here hx rfl (hb hby d2_38) ?_
      refine XS.icmpYes X0w.here hx rfl (pc0 := 39) (pc' := 65) rfl (hb hby d2_39) rfl (feq (by decide : ¬ ((4 : Int32) = (2 : Int32)))).2 (by decide) (by decide) ?_
      show Steps p.tables e below (s₁.setTop (mkF m 65 #[.val (.ref a0c), .val (.int 4)] [])) _
      refine XS.iloadN X0w.here hx rfl (hb hby d2_65) rfl ?_
      refine XS.iconst X0w.here hx rfl (hb hby d2_66) ?_
      refine XS.icmpYes X0w.here hx rfl (pc0 := 67) (pc' := 99) rfl (hb hby d2_67) rfl (feq (by decide : ¬ ((4 : Int32) = (3 : Int32)))).2 (by decide) (by decide) ?_
      refine XS.iloadN X0w.here hx rfl (hb hby d2_99) rfl ?_
      show Steps p.tables e below (s₁.setTop (mkF m 100 #[.val (.ref a0c), .val (.int 4)] [(.int 4)])) _
      refine XS.iconst X0w.here hx rfl (hb hby d2_100) ?_
      refine XS.icmpNo X0w.here hx rfl (hb hby d2_101) rfl (teq (by decide : (4 : Int32) = (4 : Int32))).2 ?_
      show Steps p.tables e below (s₁.setTop (mkF m 104 #[.val (.ref a0c), .val (.int 4)] [])) _
      refine st1 _ ?_
      show Steps p.tables e below (T1.setTop (mkF m 107 #[.val (.ref a0c), .val (.int 4)] [(.ref b1)])) _
      refine XS.dup X1.here hx rfl (hb hby d2_107) rfl rfl ?_
      refine XS.iconst X1.here hx rfl (hb hby d2_108) ?_
      show Steps p.tables e below (T1.setTop (mkF m 109 #[.val (.ref a0c), .val (.int 4)] [(.int 4), (.ref b1), (.ref b1)])) _
      refine st3 _ ?_
      show Steps p.tables e below (T3.setTop (mkF m 111 #[.val (.ref a0c), .val (.int 4)] [(.ref b3), (.ref b1), (.ref b1)])) _
      refine XS.dup X3.here hx rfl (hb hby d2_111) rfl rfl ?_
      refine XS.iconst X3.here hx rfl (hb hby d2_112) ?_
      refine XS.aloadN X3.here hx rfl (hb hby d2_113) rfl rfl ?_
      refine XS.iconst X3.here hx rfl (hb hby d2_114) ?_
      show Steps p.tables e below (T3.setTop (mkF m 115 #[.val (.ref a0c), .val (.int 4)] [(.int 0), (.ref a0c), (.int 0), (.ref b3), (.ref b3), (.ref b1), (.ref b1)])) _
      refine X3.caload hx (j := (0 : Int32)) (v := (.int s0)) (by rw [e3]; exact Ar5.1) (State.isArrayOf_alike hZ.alike Ar5.2.1) Ar5.2.2 hin5 hat5 (g := (mkF m 115 #[.val (.ref a0c), .val (.int 4)] [(.int 0), (.ref a0c), (.int 0), (.ref b3), (.ref b3), (.ref b1), (.ref b1)])) rfl rfl (hb hby d2_115) _ ?_
      show Steps p.tables e below (T3.setTop (mkF m 116 #[.val (.ref a0c), .val (.int 4)] [(.int s0), (.int 0), (.ref b3), (.ref b3), (.ref b1), (.ref b1)])) _
      refine st6 _ ?_
      show Steps p.tables e below (T6.setTop (mkF m 117 #[.val (.ref a0c), .val (.int 4)] [(.ref b3), (.ref b1), (.ref b1)])) _
      refine XS.dup X6.here hx rfl (hb hby d2_117) rfl rfl ?_
      refine XS.iconst X6.here hx rfl (hb hby d2_118) ?_
      refine XS.aloadN X6.here hx rfl (hb hby d2_119) rfl rfl ?_
      refine XS.iconst X6.here hx rfl (hb hby d2_120) ?_
      show Steps p.tables e below (T6.setTop (mkF m 121 #[.val (.ref a0c), .val (.int 4)] [(.int 1), (.ref a0c), (.int 1), (.ref b3), (.ref b3), (.ref b1), (.ref b1)])) _
      refine X6.caload hx (j := (1 : Int32)) (v := (.int s1)) (by rw [e6]; exact Ar9.1) (State.isArrayOf_alike hZ.alike Ar9.2.1) Ar9.2.2 hin9 hat9 (g := (mkF m 121 #[.val (.ref a0c), .val (.int 4)] [(.int 1), (.ref a0c), (.int 1), (.ref b3), (.ref b3), (.ref b1), (.ref b1)])) rfl rfl (hb hby d2_121) _ ?_
      show Steps p.tables e below (T6.setTop (mkF m 122 #[.val (.ref a0c), .val (.int 4)] [(.int s1), (.int 1), (.ref b3), (.ref b3), (.ref b1), (.ref b1)])) _
      refine st10 _ ?_
      show Steps p.tables e below (T10.setTop (mkF m 123 #[.val (.ref a0c), .val (.int 4)] [(.ref b3), (.ref b1), (.ref b1)])) _
      refine XS.dup X10.here hx rfl (hb hby d2_123) rfl rfl ?_
      refine XS.iconst X10.here hx rfl (hb hby d2_124) ?_
      refine XS.aloadN X10.here hx rfl (hb hby d2_125) rfl rfl ?_
      refine XS.iconst X10.here hx rfl (hb hby d2_126) ?_
      show Steps p.tables e below (T10.setTop (mkF m 127 #[.val (.ref a0c), .val (.int 4)] [(.int 2), (.ref a0c), (.int 2), (.ref b3), (.ref b3), (.ref b1), (.ref b1)])) _
      refine X10.caload hx (j := (2 : Int32)) (v := (.int s2)) (by rw [e10]; exact Ar13.1) (State.isArrayOf_alike hZ.alike Ar13.2.1) Ar13.2.2 hin13 hat13 (g := (mkF m 127 #[.val (.ref a0c), .val (.int 4)] [(.int 2), (.ref a0c), (.int 2), (.ref b3), (.ref b3), (.ref b1), (.ref b1)])) rfl rfl (hb hby d2_127) _ ?_
      show Steps p.tables e below (T10.setTop (mkF m 128 #[.val (.ref a0c), .val (.int 4)] [(.int s2), (.int 2), (.ref b3), (.ref b3), (.ref b1), (.ref b1)])) _
      refine st14 _ ?_
      show Steps p.tables e below (T14.setTop (mkF m 129 #[.val (.ref a0c), .val (.int 4)] [(.ref b3), (.ref b1), (.ref b1)])) _
      refine XS.dup X14.here hx rfl (hb hby d2_129) rfl rfl ?_
      refine XS.iconst X14.here hx rfl (hb hby d2_130) ?_
      refine XS.aloadN X14.here hx rfl (hb hby d2_131) rfl rfl ?_
      refine XS.iconst X14.here hx rfl (hb hby d2_132) ?_
      show Steps p.tables e below (T14.setTop (mkF m 133 #[.val (.ref a0c), .val (.int 4)] [(.int 3), (.ref a0c), (.int 3), (.ref b3), (.ref b3), (.ref b1), (.ref b1)])) _
      refine X14.caload hx (j := (3 : Int32)) (v := (.int s3)) (by rw [e14]; exact Ar17.1) (State.isArrayOf_alike hZ.alike Ar17.2.1) Ar17.2.2 hin17 hat17 (g := (mkF m 133 #[.val (.ref a0c), .val (.int 4)] [(.int 3), (.ref a0c), (.int 3), (.ref b3), (.ref b3), (.ref b1), (.ref b1)])) rfl rfl (hb hby d2_133) _ ?_
      show Steps p.tables e below (T14.setTop (mkF m 134 #[.val (.ref a0c), .val (.int 4)] [(.int s3), (.int 3), (.ref b3), (.ref b3), (.ref b1), (.ref b1)])) _
      refine st18 _ ?_
      show Steps p.tables e below (T18.setTop (mkF m 135 #[.val (.ref a0c), .val (.int 4)] [(.ref b3), (.ref b1), (.ref b1)])) _
      refine st21.trans ?_
      show Steps p.tables e below (T21.setTop (mkF m 138 #[.val (.ref a0c), .val (.int 4)] [(.ref b1)])) _
      jvm_step X21.here [X21.here.top, hx, (hb hby d2_138), X21.method', Bd.returns, Value.isRef, FieldType.isReference]
      first | (intro acts; rw [hr _ acts rfl rfl rfl]) | rw [hr _ _ rfl rfl rfl]
      exact Steps.refl _
    · show Q_rmTk n0 Z cS a0c p1 k0 s0 s1 s2 s3 s4 s5 h0 _ T21.heap _
      exact ⟨b1, b_21, kb_21, (4 : Int32), [(.int (s0.toInt8.toInt32)), (.int (s1.toInt8.toInt32)), (.int (s2.toInt8.toInt32)), (.int (s3.toInt8.toInt32))], rfl, N21, K21, P21_2, P21_3, P21_4, P21_5, hR⟩
  · obtain ⟨T1, h1, X1, e1, E1, A1, D1, -, st1⟩ := newO X0w hx hZ hown (Wd hw 9 rfl) (Wd hw 10 rfl) (Wd hw 11 rfl) e0 (g := (mkF m 144 #[.val (.ref a0c), .val (.int 5)] [])) rfl (hb hby d2_144) (by decide) (by decide)
    obtain ⟨b1, g1⟩ : ∃ z, z = h0.size := ⟨_, rfl⟩
    rw [← g1] at A1 D1 st1
    have g_b1 : n0 ≤ b1 := Nat.le_trans (own_sz O0) (Nat.le_of_eq g1.symm)
    have sz_b1 : h0.size ≤ b1 := Nat.le_trans (Keep.refl h0 []).1 (Nat.le_of_eq g1.symm)
    have H_2 := H0.ext E1
    have R_2 := R0.trans (CHr.ext E1 H0)
    have K1 : Keep h0 h1 [] := (Keep.refl h0 []).ext E1
    have O1 := O0.ext E1
    have F_value_b1 : Fld Z h1 b1 "java/lang/String" "value" "[B" .null := D1 (Or.inr (Wd hw 24 rfl)) (ty := (.array .byte)) (by decide)
    have F_coder_b1 : Fld Z h1 b1 "java/lang/String" "coder" "B" (.int 0) := D1 (Or.inr (Wd hw 25 rfl)) (ty := .byte) (by decide)
    obtain ⟨T3, h3, k3, X3, e3, E3, A3, A3', st3⟩ := newPE X1 hx hZ (Wd hw 0 rfl) e1 (g := (mkF m 149 #[.val (.ref a0c), .val (.int 5)] [(.int 5), (.ref b1), (.ref b1)])) rfl (hb hby d2_149) rfl (by decide) (cap := 5) (by decide) (by decide) (by decide) (by decide) (ad := "[C") rfl
    obtain ⟨b3, g3⟩ : ∃ z, z = h1.size := ⟨_, rfl⟩
    rw [← g3] at A3 A3' st3
    have g_b3 : n0 ≤ b3 := Nat.le_trans (own_sz O1) (Nat.le_of_eq g3.symm)
    have sz_b3 : h0.size ≤ b3 := Nat.le_trans K1.1 (Nat.le_of_eq g3.symm)
    have H_4 := H_2.ext E3
    have R_4 := R_2.trans (CHr.ext E3 H_2)
    have K3 : Keep h0 h3 [] := K1.ext E3
    have O3 := O1.ext E3
    have V_b3 : Arv Z h3 b3 k3 .char (5 : Int32) [(.int 0), (.int 0), (.int 0), (.int 0), (.int 0)] (.int 0) := (Arv.new A3 (by decide)).pad (pad_rep [] (.int 0) 5)
    obtain ⟨cl5, Ar5, -, S5, N5_, H5, G5⟩ := id (((V_a0c.ext E1).ext E3))
    have hin5 : ¬ ((0 : Int32) < 0 ∨ cl5.slots.size ≤ ((0 : Int32)).toNatClampNeg) := inb_of S5 ⟨(by decide), (by decide)⟩
    have hat5 : cl5.slots[((0 : Int32)).toNatClampNeg]? = some (.int s0) := H5.at hin5 rfl
    obtain ⟨cl6, Ar6, q6, S6, N6_, H6, G6⟩ := id (V_b3)
    have hin6 : ¬ ((0 : Int32) < 0 ∨ cl6.slots.size ≤ ((0 : Int32)).toNatClampNeg) := inb_of S6 ⟨(by decide), (by decide)⟩
    obtain ⟨T6, h6, X6, e6, W6, st6⟩ := stC X3 hx hZ e3 Ar6 (j := (0 : Int32)) hin6 (g := (mkF m 156 #[.val (.ref a0c), .val (.int 5)] [(.int s0), (.int 0), (.ref b3), (.ref b3), (.ref b1), (.ref b1)])) rfl rfl (hb hby d2_156)
    have Sf8 : Safe Z EL1 s.vm h3 b3 := Safe.exa (EL := EL1) hZ.alike A3' (by decide) (by decide)
    have H_7 := H_4.wr W6 Sf8
    have R_7 := R_4.trans (CHr.wr W6 Sf8 H_4)
    have K6 : Keep h0 h6 [] := K3.wr W6 (Or.inr sz_b3)
    have O6 := O3.wr W6 g_b3
    have N6 := Fr.snoc X6 N0 g_b3
    have V6' : Arv Z h6 b3 k3 .char (5 : Int32) [(.int (nar .char s0)), (.int 0), (.int 0), (.int 0), (.int 0)] (.int 0) := Arv.set Ar6 q6 S6 N6_ H6 G6 (fits_nar_char _) W6 0 rfl (Nat.le_of_ble_eq_true rfl)
    have V6 : Arv Z h6 b3 k3 .char (5 : Int32) [(.int s0), (.int 0), (.int 0), (.int 0), (.int 0)] (.int 0) := by
      rw [hn0] at V6'
      exact V6'
    obtain ⟨cl9, Ar9, -, S9, N9_, H9, G9⟩ := id ((((V_a0c.ext E1).ext E3).other W6 (Nat.ne_of_lt (Nat.lt_of_lt_of_le (Nat.lt_of_lt_of_le V_a0c.lt E1.1) (Nat.le_of_eq g3.symm)))))
    have hin9 : ¬ ((1 : Int32) < 0 ∨ cl9.slots.size ≤ ((1 : Int32)).toNatClampNeg) := inb_of S9 ⟨(by decide), (by decide)⟩
    have hat9 : cl9.slots[((1 : Int32)).toNatClampNeg]? = some (.int s1) := H9.at hin9 rfl
    obtain ⟨cl10, Ar10, q10, S10, N10_, H10, G10⟩ := id (V6)
    have hin10 : ¬ ((1 : Int32) < 0 ∨ cl10.slots.size ≤ ((1 : Int32)).toNatClampNeg) := inb_of S10 ⟨(by decide), (by decide)⟩
    obtain ⟨T10, h10, X10, e10, W10, st10⟩ := stC X6 hx hZ e6 Ar10 (j := (1 : Int32)) hin10 (g := (mkF m 162 #[.val (.ref a0c), .val (.int 5)] [(.int s1), (.int 1), (.ref b3), (.ref b3), (.ref b1), (.ref b1)])) rfl rfl (hb hby d2_162)
    have Sf12 : Safe Z EL1 s.vm h6 b3 := Safe.exa (EL := EL1) hZ.alike (A3'.wr W6) (by decide) (by decide)
    have H_11 := H_7.wr W10 Sf12
    have R_11 := R_7.trans (CHr.wr W10 Sf12 H_7)
    have K10 : Keep h0 h10 [] := K6.wr W10 (Or.inr sz_b3)
    have O10 := O6.wr W10 g_b3
    have N10 := Fr.snoc X10 N6 g_b3
    have V10' : Arv Z h10 b3 k3 .char (5 : Int32) [(.int s0), (.int (nar .char s1)), (.int 0), (.int 0), (.int 0)] (.int 0) := Arv.set Ar10 q10 S10 N10_ H10 G10 (fits_nar_char _) W10 1 rfl (Nat.le_of_ble_eq_true rfl)
    have V10 : Arv Z h10 b3 k3 .char (5 : Int32) [(.int s0), (.int s1), (.int 0), (.int 0), (.int 0)] (.int 0) := by
      rw [hn1] at V10'
      exact V10'
    obtain ⟨cl13, Ar13, -, S13, N13_, H13, G13⟩ := id (((((V_a0c.ext E1).ext E3).other W6 (Nat.ne_of_lt (Nat.lt_of_lt_of_le (Nat.lt_of_lt_of_le V_a0c.lt E1.1) (Nat.le_of_eq g3.symm)))).other W10 (Nat.ne_of_lt (Nat.lt_of_lt_of_le (Nat.lt_of_lt_of_le V_a0c.lt E1.1) (Nat.le_of_eq g3.symm)))))
    have hin13 : ¬ ((2 : Int32) < 0 ∨ cl13.slots.size ≤ ((2 : Int32)).toNatClampNeg) := inb_of S13 ⟨(by decide), (by decide)⟩
    have hat13 : cl13.slots[((2 : Int32)).toNatClampNeg]? = some (.int s2) := H13.at hin13 rfl
    obtain ⟨cl14, Ar14, q14, S14, N14_, H14, G14⟩ := id (V10)
    have hin14 : ¬ ((2 : Int32) < 0 ∨ cl14.slots.size ≤ ((2 : Int32)).toNatClampNeg) := inb_of S14 ⟨(by decide), (by decide)⟩
    obtain ⟨T14, h14, X14, e14, W14, st14⟩ := stC X10 hx hZ e10 Ar14 (j := (2 : Int32)) hin14 (g := (mkF m 168 #[.val (.ref a0c), .val (.int 5)] [(.int s2), (.int 2), (.ref b3), (.ref b3), (.ref b1), (.ref b1)])) rfl rfl (hb hby d2_168)
    have Sf16 : Safe Z EL1 s.vm h10 b3 := Safe.exa (EL := EL1) hZ.alike ((A3'.wr W6).wr W10) (by decide) (by decide)
    have H_15 := H_11.wr W14 Sf16
    have R_15 := R_11.trans (CHr.wr W14 Sf16 H_11)
    have K14 : Keep h0 h14 [] := K10.wr W14 (Or.inr sz_b3)
    have O14 := O10.wr W14 g_b3
    have N14 := Fr.snoc X14 N10 g_b3
    have V14' : Arv Z h14 b3 k3 .char (5 : Int32) [(.int s0), (.int s1), (.int (nar .char s2)), (.int 0), (.int 0)] (.int 0) := Arv.set Ar14 q14 S14 N14_ H14 G14 (fits_nar_char _) W14 2 rfl (Nat.le_of_ble_eq_true rfl)
    have V14 : Arv Z h14 b3 k3 .char (5 : Int32) [(.int s0), (.int s1), (.int s2), (.int 0), (.int 0)] (.int 0) := by
      rw [hn2] at V14'
      exact V14'
    obtain ⟨cl17, Ar17, -, S17, N17_, H17, G17⟩ := id ((((((V_a0c.ext E1).ext E3).other W6 (Nat.ne_of_lt (Nat.lt_of_lt_of_le (Nat.lt_of_lt_of_le V_a0c.lt E1.1) (Nat.le_of_eq g3.symm)))).other W10 (Nat.ne_of_lt (Nat.lt_of_lt_of_le (Nat.lt_of_lt_of_le V_a0c.lt E1.1) (Nat.le_of_eq g3.symm)))).other W14 (Nat.ne_of_lt (Nat.lt_of_lt_of_le (Nat.lt_of_lt_of_le V_a0c.lt E1.1) (Nat.le_of_eq g3.symm)))))
    have hin17 : ¬ ((3 : Int32) < 0 ∨ cl17.slots.size ≤ ((3 : Int32)).toNatClampNeg) := inb_of S17 ⟨(by decide), (by decide)⟩
    have hat17 : cl17.slots[((3 : Int32)).toNatClampNeg]? = some (.int s3) := H17.at hin17 rfl
    obtain ⟨cl18, Ar18, q18, S18, N18_, H18, G18⟩ := id (V14)
    have hin18 : ¬ ((3 : Int32) < 0 ∨ cl18.slots.size ≤ ((3 : Int32)).toNatClampNeg) := inb_of S18 ⟨(by decide), (by decide)⟩
    obtain ⟨T18, h18, X18, e18, W18, st18⟩ := stC X14 hx hZ e14 Ar18 (j := (3 : Int32)) hin18 (g := (mkF m 174 #[.val (.ref a0c), .val (.int 5)] [(.int s3), (.int 3), (.ref b3), (.ref b3), (.ref b1), (.ref b1)])) rfl rfl (hb hby d2_174)
    have Sf20 : Safe Z EL1 s.vm h14 b3 := Safe.exa (EL := EL1) hZ.alike (((A3'.wr W6).wr W10).wr W14) (by decide) (by decide)
    have H_19 := H_15.wr W18 Sf20
    have R_19 := R_15.trans (CHr.wr W18 Sf20 H_15)
    have K18 : Keep h0 h18 [] := K14.wr W18 (Or.inr sz_b3)
    have O18 := O14.wr W18 g_b3
    have N18 := Fr.snoc X18 N14 g_b3
    have V18' : Arv Z h18 b3 k3 .char (5 : Int32) [(.int s0), (.int s1), (.int s2), (.int (nar .char s3)), (.int 0)] (.int 0) := Arv.set Ar18 q18 S18 N18_ H18 G18 (fits_nar_char _) W18 3 rfl (Nat.le_of_ble_eq_true rfl)
    have V18 : Arv Z h18 b3 k3 .char (5 : Int32) [(.int s0), (.int s1), (.int s2), (.int s3), (.int 0)] (.int 0) := by
      rw [hn3] at V18'
      exact V18'
    obtain ⟨cl21, Ar21, -, S21, N21_, H21, G21⟩ := id (((((((V_a0c.ext E1).ext E3).other W6 (Nat.ne_of_lt (Nat.lt_of_lt_of_le (Nat.lt_of_lt_of_le V_a0c.lt E1.1) (Nat.le_of_eq g3.symm)))).other W10 (Nat.ne_of_lt (Nat.lt_of_lt_of_le (Nat.lt_of_lt_of_le V_a0c.lt E1.1) (Nat.le_of_eq g3.symm)))).other W14 (Nat.ne_of_lt (Nat.lt_of_lt_of_le (Nat.lt_of_lt_of_le V_a0c.lt E1.1) (Nat.le_of_eq g3.symm)))).other W18 (Nat.ne_of_lt (Nat.lt_of_lt_of_le (Nat.lt_of_lt_of_le V_a0c.lt E1.1) (Nat.le_of_eq g3.symm)))))
    have hin21 : ¬ ((4 : Int32) < 0 ∨ cl21.slots.size ≤ ((4 : Int32)).toNatClampNeg) := inb_of S21 ⟨(by decide), (by decide)⟩
    have hat21 : cl21.slots[((4 : Int32)).toNatClampNeg]? = some (.int s4) := H21.at hin21 rfl
    obtain ⟨cl22, Ar22, q22, S22, N22_, H22, G22⟩ := id (V18)
    have hin22 : ¬ ((4 : Int32) < 0 ∨ cl22.slots.size ≤ ((4 : Int32)).toNatClampNeg) := inb_of S22 ⟨(by decide), (by decide)⟩
    obtain ⟨T22, h22, X22, e22, W22, st22⟩ := stC X18 hx hZ e18 Ar22 (j := (4 : Int32)) hin22 (g := (mkF m 180 #[.val (.ref a0c), .val (.int 5)] [(.int s4), (.int 4), (.ref b3), (.ref b3), (.ref b1), (.ref b1)])) rfl rfl (hb hby d2_180)
    have Sf24 : Safe Z EL1 s.vm h18 b3 := Safe.exa (EL := EL1) hZ.alike ((((A3'.wr W6).wr W10).wr W14).wr W18) (by decide) (by decide)
    have H_23 := H_19.wr W22 Sf24
    have R_23 := R_19.trans (CHr.wr W22 Sf24 H_19)
    have K22 : Keep h0 h22 [] := K18.wr W22 (Or.inr sz_b3)
    have O22 := O18.wr W22 g_b3
    have N22 := Fr.snoc X22 N18 g_b3
    have V22' : Arv Z h22 b3 k3 .char (5 : Int32) [(.int s0), (.int s1), (.int s2), (.int s3), (.int (nar .char s4))] (.int 0) := Arv.set Ar22 q22 S22 N22_ H22 G22 (fits_nar_char _) W22 4 rfl (Nat.le_of_ble_eq_true rfl)
    have V22 : Arv Z h22 b3 k3 .char (5 : Int32) [(.int s0), (.int s1), (.int s2), (.int s3), (.int s4)] (.int 0) := by
      rw [hn4] at V22'
      exact V22'
    obtain ⟨_, _, ⟨T25, L25, k25, n25⟩, -, X25, ⟨Lc25, hQ25, l25, y25, z25⟩, st25⟩ := X22.specialBack hx (y := MN_4) rfl hown (mvT hZ (Wd hw 12 rfl)) (mvT hZ (Wd hw 13 rfl)) (mvT hZ (Wd hw 14 rfl)) (by decide) (backOf (W := 1) (rmIc_5 l Z a0 hw [] cS (b1) (b3) (k3) (s0) (s1) (s2) (s3) (s4) (h22) n0 O22 GL ((((((A1.ext E3).wr W6).wr W10).wr W14).wr W18).wr W22) ((((((F_value_b1.ext E3).other W6 (Or.inl (Nat.ne_of_lt (Nat.lt_of_lt_of_le A1.lt (Nat.le_of_eq g3.symm))))).other W10 (Or.inl (Nat.ne_of_lt (Nat.lt_of_lt_of_le A1.lt (Nat.le_of_eq g3.symm))))).other W14 (Or.inl (Nat.ne_of_lt (Nat.lt_of_lt_of_le A1.lt (Nat.le_of_eq g3.symm))))).other W18 (Or.inl (Nat.ne_of_lt (Nat.lt_of_lt_of_le A1.lt (Nat.le_of_eq g3.symm))))).other W22 (Or.inl (Nat.ne_of_lt (Nat.lt_of_lt_of_le A1.lt (Nat.le_of_eq g3.symm))))) ((((((F_coder_b1.ext E3).other W6 (Or.inl (Nat.ne_of_lt (Nat.lt_of_lt_of_le A1.lt (Nat.le_of_eq g3.symm))))).other W10 (Or.inl (Nat.ne_of_lt (Nat.lt_of_lt_of_le A1.lt (Nat.le_of_eq g3.symm))))).other W14 (Or.inl (Nat.ne_of_lt (Nat.lt_of_lt_of_le A1.lt (Nat.le_of_eq g3.symm))))).other W18 (Or.inl (Nat.ne_of_lt (Nat.lt_of_lt_of_le A1.lt (Nat.le_of_eq g3.symm))))).other W22 (Or.inl (Nat.ne_of_lt (Nat.lt_of_lt_of_le A1.lt (Nat.le_of_eq g3.symm))))) g_b1 V22 hl0 hl1 hl2 hl3 hl4) hZ (Wd hw 14 rfl) (Wd hw 11 rfl) (by decide) (by decide)) (g := (mkF m 181 #[.val (.ref a0c), .val (.int 5)] [(.ref b3), (.ref b1), (.ref b1)])) rfl (by rw [hml]; rfl) (Steps.refl _) (a := b1) (argsL := [(.ref b3)]) (rest := [(.ref b1)]) (lenOf pdv5 rfl) rfl (by show 2 * 0 + _ ≤ _; exact Nat.le_of_eq rfl) (hb hby d2_181) (fun _ _ => ⟨rfl, e22, (by decide : 2 + 1 ≤ _), (by decide : 9 + 5 ≤ _)⟩)
    dsimp only [Pt.U, Pt.locs, Pt.cells, Pt.slots] at X25 l25 y25 z25 st25 hQ25
    subst l25 y25 z25
    obtain ⟨b_25, kb_25, rfl, N25q, Kc25, P25_0, P25_1, P25_2, P25_3, P25_4, P25_5⟩ := hQ25
    have K25 : Keep h0 T25.heap [] := K22.trans Kc25 (allS (Or.inr sz_b1) all0)
    have O25 := O22.keep Kc25 (allS g_b1 all0)
    have Sf27 : Safe Z EL1 s.vm h22 b1 := (Safe.wr W22 Sf24 H_19 (Safe.wr W18 Sf20 H_15 (Safe.wr W14 Sf16 H_11 (Safe.wr W10 Sf12 H_7 (Safe.wr W6 Sf8 H_4 (Safe.ext E3 H_2 (Safe.ext E1 H0 (Safe.new (Z := Z) (EL := EL1) (vm := s.vm) (Nat.le_of_eq g1.symm)))))))))
    have H_26 := H_23.keep Kc25 (sfS Sf27 sf0)
    have R_26 := R_23.trans (CHr.keep Kc25 (sfS Sf27 sf0) H_23)
    have g_b_25 : n0 ≤ b_25 := Nat.le_trans (own_sz O22) P25_0
    have sz_b_25 : h0.size ≤ b_25 := Nat.le_trans K22.1 P25_0
    have N25 := Fr.app N22 N25q
    have hR : Rfs (5 : Int32) [(.int (s0.toInt8.toInt32)), (.int (s1.toInt8.toInt32)), (.int (s2.toInt8.toInt32)), (.int (s3.toInt8.toInt32)), (.int (s4.toInt8.toInt32))] := Or.inr ⟨by decide, s0, s1, s2, s3, s4, rfl, by decide, hl0, hm0, rfl, by decide, hl1, hm1, rfl, by decide, hl2, hm2, rfl, by decide, hl3, hm3, rfl, by decide, hl4, hm4, fun q => hJ ⟨by rw [hN]; decide, q⟩⟩
    obtain ⟨fs, hr, hrun, hended, hRW⟩ := X25.leaveW hS0 (Nat.le_trans (Nat.le_trans (Nat.le_trans (Nat.le_trans (Nat.le_trans (Nat.le_trans (Nat.le_trans (Nat.le_trans (Nat.le_refl _) E1.1) E3.1) (Keep.of_wr W6).1) (Keep.of_wr W10).1) (Keep.of_wr W14).1) (Keep.of_wr W18).1) (Keep.of_wr W22).1) Kc25.1) (v := some (.ref b1)) (fun h => by rw [Bd.returns] at h; cases h)
    have hCR : CHr Z EL1 s.vm s.heap T25.vm T25.heap := by
      rw [hh]
      exact R_26.trans (CHv.at X25 hZ (own_EW hw) H_26)
    refine ⟨_, _, pre0 _ ?_, hrun, hended, _, _, rfl, ?_, hCR, hRW.1, hRW.2.1, hRW.2.2.1, hRW.2.2.2.mono (by decide) (by decide)⟩
    · rw [hN]
      show Steps p.tables e below (s₁.setTop (mkF m 0 #[.val (.ref a0c), .val (.int 5)] [])) _
      refine XS.iloadN X0w.here hx rfl (hb hby d2_0) rfl ?_
      refine XS.ifYes X0w.here hx rfl (pc0 := 1) (pc' := 15) rfl (hb hby d2_1) rfl ((if0 _ _).trans (feq (by decide : ¬ ((5 : Int32) = (0 : Int32)))).2) (by decide) (by decide) ?_
      refine XS.iloadN X0w.here hx rfl (hb hby d2_15) rfl ?_
      refine XS.iconst X0w.here hx rfl (hb hby d2_16) ?_
      show Steps p.tables e below (s₁.setTop (mkF m 17 #[.val (.ref a0c), .val (.int 5)] [(.int 1), (.int 5)])) _
      refine XS.icmpYes X0w.here hx rfl (pc0 := 17) (pc' := 37) rfl (hb hby d2_17) rfl (feq (by decide : ¬ ((5 : Int32) = (1 : Int32)))).2 (by decide) (by decide) ?_
      refine XS.iloadN X0w.here hx rfl (hb hby d2_37) rfl ?_
      refine XS.iconst X0w.here hx rfl (hb hby d2_38) ?_
      refine XS.icmpYes X0w.here hx rfl (pc0 := 39) (pc' := 65) rfl (hb hby d2_39) rfl (feq (by decide : ¬ ((5 : Int32) = (2 : Int32)))).2 (by decide) (by decide) ?_
      show Steps p.tables e below (s₁.setTop (mkF m 65 #[.val (.ref a0c), .val (.int 5)] [])) _
      refine XS.iloadN X0w.here hx rfl (hb hby d2_65) rfl ?_
      refine XS.iconst X0w.here hx rfl (hb hby d2_66) ?_
      refine XS.icmpYes X0w.here hx rfl (pc0 := 67) (pc' := 99) rfl (hb hby d2_67) rfl (feq (by decide : ¬ ((5 : Int32) = (3 : Int32)))).2 (by decide) (by decide) ?_
      refine XS.iloadN X0w.here hx rfl (hb hby d2_99) rfl ?_
      show Steps p.tables e below (s₁.setTop (mkF m 100 #[.val (.ref a0c), .val (.int 5)] [(.int 5)])) _
      refine XS.iconst X0w.here hx rfl (hb hby d2_100) ?_
      refine XS.icmpYes X0w.here hx rfl (pc0 := 101) (pc' := 139) rfl (hb hby d2_101) rfl (feq (by decide : ¬ ((5 : Int32) = (4 : Int32)))).2 (by decide) (by decide) ?_
      refine XS.iloadN X0w.here hx rfl (hb hby d2_139) rfl ?_
      refine XS.iconst X0w.here hx rfl (hb hby d2_140) ?_
      show Steps p.tables e below (s₁.setTop (mkF m 141 #[.val (.ref a0c), .val (.int 5)] [(.int 5), (.int 5)])) _
      refine XS.icmpNo X0w.here hx rfl (hb hby d2_141) rfl (teq (by decide : (5 : Int32) = (5 : Int32))).2 ?_
      show Steps p.tables e below (s₁.setTop (mkF m 144 #[.val (.ref a0c), .val (.int 5)] [])) _
      refine st1 _ ?_
      show Steps p.tables e below (T1.setTop (mkF m 147 #[.val (.ref a0c), .val (.int 5)] [(.ref b1)])) _
      refine XS.dup X1.here hx rfl (hb hby d2_147) rfl rfl ?_
      refine XS.iconst X1.here hx rfl (hb hby d2_148) ?_
      show Steps p.tables e below (T1.setTop (mkF m 149 #[.val (.ref a0c), .val (.int 5)] [(.int 5), (.ref b1), (.ref b1)])) _
      refine st3 _ ?_
      show Steps p.tables e below (T3.setTop (mkF m 151 #[.val (.ref a0c), .val (.int 5)] [(.ref b3), (.ref b1), (.ref b1)])) _
      refine XS.dup X3.here hx rfl (hb hby d2_151) rfl rfl ?_
      refine XS.iconst X3.here hx rfl (hb hby d2_152) ?_
      refine XS.aloadN X3.here hx rfl (hb hby d2_153) rfl rfl ?_
      refine XS.iconst X3.here hx rfl (hb hby d2_154) ?_
      show Steps p.tables e below (T3.setTop (mkF m 155 #[.val (.ref a0c), .val (.int 5)] [(.int 0), (.ref a0c), (.int 0), (.ref b3), (.ref b3), (.ref b1), (.ref b1)])) _
      refine X3.caload hx (j := (0 : Int32)) (v := (.int s0)) (by rw [e3]; exact Ar5.1) (State.isArrayOf_alike hZ.alike Ar5.2.1) Ar5.2.2 hin5 hat5 (g := (mkF m 155 #[.val (.ref a0c), .val (.int 5)] [(.int 0), (.ref a0c), (.int 0), (.ref b3), (.ref b3), (.ref b1), (.ref b1)])) rfl rfl (hb hby d2_155) _ ?_
      show Steps p.tables e below (T3.setTop (mkF m 156 #[.val (.ref a0c), .val (.int 5)] [(.int s0), (.int 0), (.ref b3), (.ref b3), (.ref b1), (.ref b1)])) _
      refine st6 _ ?_
      show Steps p.tables e below (T6.setTop (mkF m 157 #[.val (.ref a0c), .val (.int 5)] [(.ref b3), (.ref b1), (.ref b1)])) _
      refine XS.dup X6.here hx rfl (hb hby d2_157) rfl rfl ?_
      refine XS.iconst X6.here hx rfl (hb hby d2_158) ?_
      refine XS.aloadN X6.here hx rfl (hb hby d2_159) rfl rfl ?_
      refine XS.iconst X6.here hx rfl (hb hby d2_160) ?_
      show Steps p.tables e below (T6.setTop (mkF m 161 #[.val (.ref a0c), .val (.int 5)] [(.int 1), (.ref a0c), (.int 1), (.ref b3), (.ref b3), (.ref b1), (.ref b1)])) _
      refine X6.caload hx (j := (1 : Int32)) (v := (.int s1)) (by rw [e6]; exact Ar9.1) (State.isArrayOf_alike hZ.alike Ar9.2.1) Ar9.2.2 hin9 hat9 (g := (mkF m 161 #[.val (.ref a0c), .val (.int 5)] [(.int 1), (.ref a0c), (.int 1), (.ref b3), (.ref b3), (.ref b1), (.ref b1)])) rfl rfl (hb hby d2_161) _ ?_
      show Steps p.tables e below (T6.setTop (mkF m 162 #[.val (.ref a0c), .val (.int 5)] [(.int s1), (.int 1), (.ref b3), (.ref b3), (.ref b1), (.ref b1)])) _
      refine st10 _ ?_
      show Steps p.tables e below (T10.setTop (mkF m 163 #[.val (.ref a0c), .val (.int 5)] [(.ref b3), (.ref b1), (.ref b1)])) _
      refine XS.dup X10.here hx rfl (hb hby d2_163) rfl rfl ?_
      refine XS.iconst X10.here hx rfl (hb hby d2_164) ?_
      refine XS.aloadN X10.here hx rfl (hb hby d2_165) rfl rfl ?_
      refine XS.iconst X10.here hx rfl (hb hby d2_166) ?_
      show Steps p.tables e below (T10.setTop (mkF m 167 #[.val (.ref a0c), .val (.int 5)] [(.int 2), (.ref a0c), (.int 2), (.ref b3), (.ref b3), (.ref b1), (.ref b1)])) _
      refine X10.caload hx (j := (2 : Int32)) (v := (.int s2)) (by rw [e10]; exact Ar13.1) (State.isArrayOf_alike hZ.alike Ar13.2.1) Ar13.2.2 hin13 hat13 (g := (mkF m 167 #[.val (.ref a0c), .val (.int 5)] [(.int 2), (.ref a0c), (.int 2), (.ref b3), (.ref b3), (.ref b1), (.ref b1)])) rfl rfl (hb hby d2_167) _ ?_
      show Steps p.tables e below (T10.setTop (mkF m 168 #[.val (.ref a0c), .val (.int 5)] [(.int s2), (.int 2), (.ref b3), (.ref b3), (.ref b1), (.ref b1)])) _
      refine st14 _ ?_
      show Steps p.tables e below (T14.setTop (mkF m 169 #[.val (.ref a0c), .val (.int 5)] [(.ref b3), (.ref b1), (.ref b1)])) _
      refine XS.dup X14.here hx rfl (hb hby d2_169) rfl rfl ?_
      refine XS.iconst X14.here hx rfl (hb hby d2_170) ?_
      refine XS.aloadN X14.here hx rfl (hb hby d2_171) rfl rfl ?_
      refine XS.iconst X14.here hx rfl (hb hby d2_172) ?_
      show Steps p.tables e below (T14.setTop (mkF m 173 #[.val (.ref a0c), .val (.int 5)] [(.int 3), (.ref a0c), (.int 3), (.ref b3), (.ref b3), (.ref b1), (.ref b1)])) _
      refine X14.caload hx (j := (3 : Int32)) (v := (.int s3)) (by rw [e14]; exact Ar17.1) (State.isArrayOf_alike hZ.alike Ar17.2.1) Ar17.2.2 hin17 hat17 (g := (mkF m 173 #[.val (.ref a0c), .val (.int 5)] [(.int 3), (.ref a0c), (.int 3), (.ref b3), (.ref b3), (.ref b1), (.ref b1)])) rfl rfl (hb hby d2_173) _ ?_
      show Steps p.tables e below (T14.setTop (mkF m 174 #[.val (.ref a0c), .val (.int 5)] [(.int s3), (.int 3), (.ref b3), (.ref b3), (.ref b1), (.ref b1)])) _
      refine st18 _ ?_
      show Steps p.tables e below (T18.setTop (mkF m 175 #[.val (.ref a0c), .val (.int 5)] [(.ref b3), (.ref b1), (.ref b1)])) _
      refine XS.dup X18.here hx rfl (hb hby d2_175) rfl rfl ?_
      refine XS.iconst X18.here hx rfl (hb hby d2_176) ?_
      refine XS.aloadN X18.here hx rfl (hb hby d2_177) rfl rfl ?_
      refine XS.iconst X18.here hx rfl (hb hby d2_178) ?_
      show Steps p.tables e below (T18.setTop (mkF m 179 #[.val (.ref a0c), .val (.int 5)] [(.int 4), (.ref a0c), (.int 4), (.ref b3), (.ref b3), (.ref b1), (.ref b1)])) _
      refine X18.caload hx (j := (4 : Int32)) (v := (.int s4)) (by rw [e18]; exact Ar21.1) (State.isArrayOf_alike hZ.alike Ar21.2.1) Ar21.2.2 hin21 hat21 (g := (mkF m 179 #[.val (.ref a0c), .val (.int 5)] [(.int 4), (.ref a0c), (.int 4), (.ref b3), (.ref b3), (.ref b1), (.ref b1)])) rfl rfl (hb hby d2_179) _ ?_
      show Steps p.tables e below (T18.setTop (mkF m 180 #[.val (.ref a0c), .val (.int 5)] [(.int s4), (.int 4), (.ref b3), (.ref b3), (.ref b1), (.ref b1)])) _
      refine st22 _ ?_
      show Steps p.tables e below (T22.setTop (mkF m 181 #[.val (.ref a0c), .val (.int 5)] [(.ref b3), (.ref b1), (.ref b1)])) _
      refine st25.trans ?_
      show Steps p.tables e below (T25.setTop (mkF m 184 #[.val (.ref a0c), .val (.int 5)] [(.ref b1)])) _
      jvm_step X25.here [X25.here.top, hx, (hb hby d2_184), X25.method', Bd.returns, Value.isRef, FieldType.isReference]
      first | (intro acts; rw [hr _ acts rfl rfl rfl]) | rw [hr _ _ rfl rfl rfl]
      exact Steps.refl _
    · show Q_rmTk n0 Z cS a0c p1 k0 s0 s1 s2 s3 s4 s5 h0 _ T25.heap _
      exact ⟨b1, b_25, kb_25, (5 : Int32), [(.int (s0.toInt8.toInt32)), (.int (s1.toInt8.toInt32)), (.int (s2.toInt8.toInt32)), (.int (s3.toInt8.toInt32)), (.int (s4.toInt8.toInt32))], rfl, N25, K25, P25_2, P25_3, P25_4, P25_5, hR⟩
  · obtain ⟨T1, h1, X1, e1, E1, A1, D1, -, st1⟩ := newO X0w hx hZ hown (Wd hw 9 rfl) (Wd hw 10 rfl) (Wd hw 11 rfl) e0 (g := (mkF m 185 #[.val (.ref a0c), .val (.int 6)] [])) rfl (hb hby d2_185) (by decide) (by decide)
    obtain ⟨b1, g1⟩ : ∃ z, z = h0.size := ⟨_, rfl⟩
    rw [← g1] at A1 D1 st1
    have g_b1 : n0 ≤ b1 := Nat.le_trans (own_sz O0) (Nat.le_of_eq g1.symm)
    have sz_b1 : h0.size ≤ b1 := Nat.le_trans (Keep.refl h0 []).1 (Nat.le_of_eq g1.symm)
    have H_2 := H0.ext E1
    have R_2 := R0.trans (CHr.ext E1 H0)
    have K1 : Keep h0 h1 [] := (Keep.refl h0 []).ext E1
    have O1 := O0.ext E1
    have F_value_b1 : Fld Z h1 b1 "java/lang/String" "value" "[B" .null := D1 (Or.inr (Wd hw 24 rfl)) (ty := (.array .byte)) (by decide)
    have F_coder_b1 : Fld Z h1 b1 "java/lang/String" "coder" "B" (.int 0) := D1 (Or.inr (Wd hw 25 rfl)) (ty := .byte) (by decide)
    obtain ⟨_, _, ⟨T3, L3, k3, n3⟩, -, X3, ⟨Lc3, hQ3, l3, y3, z3⟩, st3⟩ := X1.specialBack hx (y := MN_4) rfl hown (mvT hZ (Wd hw 12 rfl)) (mvT hZ (Wd hw 13 rfl)) (mvT hZ (Wd hw 14 rfl)) (by decide) (backOf (W := 1) (rmIc_6 l Z a0 hw [] cS (b1) (a0c) (k0) (s0) (s1) (s2) (s3) (s4) (s5) (h1) n0 O1 GL A1 F_value_b1 F_coder_b1 g_b1 (V_a0c.ext E1) hl0 hl1 hl2 hl3 hl4 hl5) hZ (Wd hw 14 rfl) (Wd hw 11 rfl) (by decide) (by decide)) (g := (mkF m 190 #[.val (.ref a0c), .val (.int 6)] [(.ref a0c), (.ref b1), (.ref b1)])) rfl (by rw [hml]; rfl) (Steps.refl _) (a := b1) (argsL := [(.ref a0c)]) (rest := [(.ref b1)]) (lenOf pdv5 rfl) rfl (by show 2 * 0 + _ ≤ _; exact Nat.le_of_eq rfl) (hb hby d2_190) (fun _ _ => ⟨rfl, e1, (by decide : 1 + 1 ≤ _), (by decide : 4 + 6 ≤ _)⟩)
    dsimp only [Pt.U, Pt.locs, Pt.cells, Pt.slots] at X3 l3 y3 z3 st3 hQ3
    subst l3 y3 z3
    obtain ⟨b_3, kb_3, rfl, N3q, Kc3, P3_0, P3_1, P3_2, P3_3, P3_4, P3_5⟩ := hQ3
    have K3 : Keep h0 T3.heap [] := K1.trans Kc3 (allS (Or.inr sz_b1) all0)
    have O3 := O1.keep Kc3 (allS g_b1 all0)
    have Sf5 : Safe Z EL1 s.vm h1 b1 := (Safe.ext E1 H0 (Safe.new (Z := Z) (EL := EL1) (vm := s.vm) (Nat.le_of_eq g1.symm)))
    have H_4 := H_2.keep Kc3 (sfS Sf5 sf0)
    have R_4 := R_2.trans (CHr.keep Kc3 (sfS Sf5 sf0) H_2)
    have g_b_3 : n0 ≤ b_3 := Nat.le_trans (own_sz O1) P3_0
    have sz_b_3 : h0.size ≤ b_3 := Nat.le_trans K1.1 P3_0
    have N3 := Fr.app N0 N3q
    have hR : Rfs (6 : Int32) [(.int (s0.toInt8.toInt32)), (.int (s1.toInt8.toInt32)), (.int (s2.toInt8.toInt32)), (.int (s3.toInt8.toInt32)), (.int (s4.toInt8.toInt32)), (.int (s5.toInt8.toInt32))] := Or.inr ⟨by decide, s0, s1, s2, s3, s4, rfl, by decide, hl0, hm0, rfl, by decide, hl1, hm1, rfl, by decide, hl2, hm2, rfl, by decide, hl3, hm3, rfl, by decide, hl4, hm4, fun q => hJ ⟨by rw [hN]; decide, q⟩⟩
    obtain ⟨fs, hr, hrun, hended, hRW⟩ := X3.leaveW hS0 (Nat.le_trans (Nat.le_trans (Nat.le_refl _) E1.1) Kc3.1) (v := some (.ref b1)) (fun h => by rw [Bd.returns] at h; cases h)
    have hCR : CHr Z EL1 s.vm s.heap T3.vm T3.heap := by
      rw [hh]
      exact R_4.trans (CHv.at X3 hZ (own_EW hw) H_4)
    refine ⟨_, _, pre0 _ ?_, hrun, hended, _, _, rfl, ?_, hCR, hRW.1, hRW.2.1, hRW.2.2.1, hRW.2.2.2.mono (by decide) (by decide)⟩
    · rw [hN]
      show Steps p.tables e below (s₁.setTop (mkF m 0 #[.val (.ref a0c), .val (.int 6)] [])) _
      refine XS.iloadN X0w.here hx rfl (hb hby d2_0) rfl ?_
      refine XS.ifYes X0w.here hx rfl (pc0 := 1) (pc' := 15) rfl (hb hby d2_1) rfl ((if0 _ _).trans (feq (by decide : ¬ ((6 : Int32) = (0 : Int32)))).2) (by decide) (by decide) ?_
      refine XS.iloadN X0w.here hx rfl (hb hby d2_15) rfl ?_
      refine XS.iconst X0w.here hx rfl (hb hby d2_16) ?_
      show Steps p.tables e below (s₁.setTop (mkF m 17 #[.val (.ref a0c), .val (.int 6)] [(.int 1), (.int 6)])) _
      refine XS.icmpYes X0w.here hx rfl (pc0 := 17) (pc' := 37) rfl (hb hby d2_17) rfl (feq (by decide : ¬ ((6 : Int32) = (1 : Int32)))).2 (by decide) (by decide) ?_
      refine XS.iloadN X0w.here hx rfl (hb hby d2_37) rfl ?_
      refine XS.iconst X0w.here hx rfl (hb hby d2_38) ?_
      refine XS.icmpYes X0w.here hx rfl (pc0 := 39) (pc' := 65) rfl (hb hby d2_39) rfl (feq (by decide : ¬ ((6 : Int32) = (2 : Int32)))).2 (by decide) (by decide) ?_
      show Steps p.tables e below (s₁.setTop (mkF m 65 #[.val (.ref a0c), .val (.int 6)] [])) _
      refine XS.iloadN X0w.here hx rfl (hb hby d2_65) rfl ?_
      refine XS.iconst X0w.here hx rfl (hb hby d2_66) ?_
      refine XS.icmpYes X0w.here hx rfl (pc0 := 67) (pc' := 99) rfl (hb hby d2_67) rfl (feq (by decide : ¬ ((6 : Int32) = (3 : Int32)))).2 (by decide) (by decide) ?_
      refine XS.iloadN X0w.here hx rfl (hb hby d2_99) rfl ?_
      show Steps p.tables e below (s₁.setTop (mkF m 100 #[.val (.ref a0c), .val (.int 6)] [(.int 6)])) _
      refine XS.iconst X0w.here hx rfl (hb hby d2_100) ?_
      refine XS.icmpYes X0w.here hx rfl (pc0 := 101) (pc' := 139) rfl (hb hby d2_101) rfl (feq (by decide : ¬ ((6 : Int32) = (4 : Int32)))).2 (by decide) (by decide) ?_
      refine XS.iloadN X0w.here hx rfl (hb hby d2_139) rfl ?_
      refine XS.iconst X0w.here hx rfl (hb hby d2_140) ?_
      show Steps p.tables e below (s₁.setTop (mkF m 141 #[.val (.ref a0c), .val (.int 6)] [(.int 5), (.int 6)])) _
      refine XS.icmpYes X0w.here hx rfl (pc0 := 141) (pc' := 185) rfl (hb hby d2_141) rfl (feq (by decide : ¬ ((6 : Int32) = (5 : Int32)))).2 (by decide) (by decide) ?_
      show Steps p.tables e below (s₁.setTop (mkF m 185 #[.val (.ref a0c), .val (.int 6)] [])) _
      refine st1 _ ?_
      show Steps p.tables e below (T1.setTop (mkF m 188 #[.val (.ref a0c), .val (.int 6)] [(.ref b1)])) _
      refine XS.dup X1.here hx rfl (hb hby d2_188) rfl rfl ?_
      refine XS.aloadN X1.here hx rfl (hb hby d2_189) rfl rfl ?_
      show Steps p.tables e below (T1.setTop (mkF m 190 #[.val (.ref a0c), .val (.int 6)] [(.ref a0c), (.ref b1), (.ref b1)])) _
      refine st3.trans ?_
      show Steps p.tables e below (T3.setTop (mkF m 193 #[.val (.ref a0c), .val (.int 6)] [(.ref b1)])) _
      jvm_step X3.here [X3.here.top, hx, (hb hby d2_193), X3.method', Bd.returns, Value.isRef, FieldType.isReference]
      first | (intro acts; rw [hr _ acts rfl rfl rfl]) | rw [hr _ _ rfl rfl rfl]
      exact Steps.refl _
    · show Q_rmTk n0 Z cS a0c p1 k0 s0 s1 s2 s3 s4 s5 h0 _ T3.heap _
      exact ⟨b1, b_3, kb_3, (6 : Int32), [(.int (s0.toInt8.toInt32)), (.int (s1.toInt8.toInt32)), (.int (s2.toInt8.toInt32)), (.int (s3.toInt8.toInt32)), (.int (s4.toInt8.toInt32)), (.int (s5.toInt8.toInt32))], rfl, N3, K3, P3_2, P3_3, P3_4, P3_5, hR⟩
theorem d19_0 : decode jdk_48_method_14_code 0 = .ok (.iconst 0, 1) := by decide +kernel
theorem d19_1 : decode jdk_48_method_14_code 1 = .ok (.istore 5, 2) := by decide +kernel
theorem d19_3 : decode jdk_48_method_14_code 3 = .ok (.iload 4, 2) := by decide +kernel
theorem d19_5 : decode jdk_48_method_14_code 5 = .ok (.bipush 7, 2) := by decide +kernel
theorem d19_7 : decode jdk_48_method_14_code 7 = .ok (.if_icmp .le 63, 3) := by decide +kernel
theorem d19_70 : decode jdk_48_method_14_code 70 = .ok (.iload 5, 2) := by decide +kernel
theorem d19_72 : decode jdk_48_method_14_code 72 = .ok (.iload 4, 2) := by decide +kernel
theorem d19_74 : decode jdk_48_method_14_code 74 = .ok (.if_icmp .ge 27, 3) := by decide +kernel
theorem d19_77 : decode jdk_48_method_14_code 77 = .ok (.aload_n 0, 1) := by decide +kernel
theorem d19_78 : decode jdk_48_method_14_code 78 = .ok (.iload_n 1, 1) := by decide +kernel
theorem d19_79 : decode jdk_48_method_14_code 79 = .ok (.iload 5, 2) := by decide +kernel
theorem d19_81 : decode jdk_48_method_14_code 81 = .ok (.iadd, 1) := by decide +kernel
theorem d19_82 : decode jdk_48_method_14_code 82 = .ok (.baload, 1) := by decide +kernel
theorem d19_83 : decode jdk_48_method_14_code 83 = .ok (.aload_n 2, 1) := by decide +kernel
theorem d19_84 : decode jdk_48_method_14_code 84 = .ok (.iload_n 3, 1) := by decide +kernel
theorem d19_85 : decode jdk_48_method_14_code 85 = .ok (.iload 5, 2) := by decide +kernel
theorem d19_87 : decode jdk_48_method_14_code 87 = .ok (.iadd, 1) := by decide +kernel
theorem d19_88 : decode jdk_48_method_14_code 88 = .ok (.baload, 1) := by decide +kernel
theorem d19_89 : decode jdk_48_method_14_code 89 = .ok (.if_icmp .eq 6, 3) := by decide +kernel
theorem d19_95 : decode jdk_48_method_14_code 95 = .ok (.iinc 5 1, 3) := by decide +kernel
theorem d19_98 : decode jdk_48_method_14_code 98 = .ok (.goto (-28), 3) := by decide +kernel
theorem d19_92 : decode jdk_48_method_14_code 92 = .ok (.iload 5, 2) := by decide +kernel
theorem d19_94 : decode jdk_48_method_14_code 94 = .ok (.ireturn, 1) := by decide +kernel
theorem pnv3 : plainName "jdk/internal/util/ArraysSupport" = true := by first | (simp [plainName, overriddenIn]; done) | decide +kernel
abbrev MN_9 : MethodName := ⟨"jdk/internal/util/ArraysSupport", "mismatch", "([BI[BII)I"⟩
theorem ef_rmMm (m : MethodId) (a0b : Addr) (a2b : Addr) : entryFrame m #[(.ref a0b), (.int 0), (.ref a2b), (.int 0), (.int 5)] 8 = mkF m 0 #[.val (.ref a0b), .val (.int 0), .val (.ref a2b), .val (.int 0), .val (.int 5), .unset, .unset, .unset] [] := by first | (simp [entryFrame, mkF, argsToLocals, Value.category]; done) | rfl
def Q_rmMm (n0 : Nat) (Z : State) (cS : Int32) (a0b : Addr) (a2b : Addr) (k0 : ClassId) (nl : Int32) (vs : List Value) (k2 : ClassId) (d0 : Int32) (d1 : Int32) (d2 : Int32) (d3 : Int32) (d4 : Int32) (h0 : Heap) (v : Option Value) (h : Heap) (L : List Loc) : Prop := ∃ r : Int32, v = some (.int r) ∧ Fr n0 L ∧ h = h0 ∧ (¬ (r < (0 : Int32)))
set_option maxRecDepth 65536 in
set_option maxHeartbeats 40000000 in
theorem rmMm (l : Launch) (Z : State) (a0 : Array Value) (hw : ∀ d ∈ tables_1, d.before a0 Z = true) (ws : List Jvm.Cond) (cS : Int32) (a0b : Addr) (a2b : Addr) (k0 : ClassId) (nl : Int32) (vs : List Value) (k2 : ClassId) (d0 : Int32) (d1 : Int32) (d2 : Int32) (d3 : Int32) (d4 : Int32) (h0 : Heap) (n0 : Nat) (O0 : Old Z n0 h0) (GL : GF Z cS) (V_a0b : Arv Z h0 a0b k0 .byte nl vs (.int 0)) (V_a2b : Arv Z h0 a2b k2 .byte (5 : Int32) [(.int 106), (.int 97), (.int 118), (.int 97), (.int 46)] (.int 0)) (gA0 : vs.getD (0 : Int32).toNatClampNeg (.int 0) = .int (d0.toInt8.toInt32)) (yA0 : (0 : Int32) < nl) (lA0 : ¬ ((255 : Int32) < d0)) (nA0 : ¬ (d0 < (0 : Int32))) (gA1 : vs.getD (1 : Int32).toNatClampNeg (.int 0) = .int (d1.toInt8.toInt32)) (yA1 : (1 : Int32) < nl) (lA1 : ¬ ((255 : Int32) < d1)) (nA1 : ¬ (d1 < (0 : Int32))) (gA2 : vs.getD (2 : Int32).toNatClampNeg (.int 0) = .int (d2.toInt8.toInt32)) (yA2 : (2 : Int32) < nl) (lA2 : ¬ ((255 : Int32) < d2)) (nA2 : ¬ (d2 < (0 : Int32))) (gA3 : vs.getD (3 : Int32).toNatClampNeg (.int 0) = .int (d3.toInt8.toInt32)) (yA3 : (3 : Int32) < nl) (lA3 : ¬ ((255 : Int32) < d3)) (nA3 : ¬ (d3 < (0 : Int32))) (gA4 : vs.getD (4 : Int32).toNatClampNeg (.int 0) = .int (d4.toInt8.toInt32)) (yA4 : (4 : Int32) < nl) (lA4 : ¬ ((255 : Int32) < d4)) (nA4 : ¬ (d4 < (0 : Int32))) (hA : ¬ (d0 = (106 : Int32) ∧ d1 = (97 : Int32) ∧ d2 = (118 : Int32) ∧ d3 = (97 : Int32) ∧ d4 = (46 : Int32))) :
    MetFree l MN_9 (head1 (Jvm.Cond.code MN_9 jdk_48_method_14_code 8 (some .int) :: ws) ({ frames := 0, cells := 0, slots := 0, locals := 0 } : Room)) (fun a U => a = #[(.ref a0b), (.int 0), (.ref a2b), (.int 0), (.int 5)] ∧ Z.Warmed39 U.vm ∧ U.heap = h0) (fun _ _ _ _ _ => True) (fun _ U o U' => ∃ v L, o = .returned v ∧ Q_rmMm n0 Z cS a0b a2b k0 nl vs k2 d0 d1 d2 d3 d4 h0 v U'.heap L ∧ FrameEnd U o U' L ({ frames := 0, cells := 0, slots := 0, locals := 0 } : Room).cells ({ frames := 0, cells := 0, slots := 0, locals := 0 } : Room).slots) := by
  refine MetFree.of_bodySF (plainFor_of_name pnv3) hisR ?_
  intro p e s m args below meth c s₁ Bd hml0 hP hK
  obtain ⟨rfl, hZ, hh⟩ := hP
  have hx := Bd.exec
  have hby := Bd.bytes
  have hml : c.maxLocals = 8 := hml0
  have hown : s.vm.findClass "jdk/internal/util/ArraysSupport" = some m.cls := findClass_of_methodNamed Bd.named
  have hnm := (name_of_methodNamed Bd.named Bd.method).1
  have X0 : Stand p l e ({ frames := 0, cells := 0, slots := 0, locals := 0 } : Room) s m #[(.ref a0b), (.int 0), (.ref a2b), (.int 0), (.int 5)] below meth c s₁ [] 0 0 := Stand.of_body Bd
  have e0 : s₁.heap = h0 := by rw [← hh, Bd.state]; rfl
  have N0 := Fr.nil n0
  have pre0 : ∀ t, Steps p.tables e below (s₁.setTop (mkF m 0 #[.val (.ref a0b), .val (.int 0), .val (.ref a2b), .val (.int 0), .val (.int 5), .unset, .unset, .unset] [])) t → Steps p.tables e below (s₁.setTop (entryFrame m #[(.ref a0b), (.int 0), (.ref a2b), (.int 0), (.int 5)] 8)) t := fun t k => castTop (ef_rmMm m a0b a2b) k
  have GL' := GL
  obtain ⟨GCS, GCP⟩ := GL'
  obtain ⟨cl1, Ar1, -, S1, N1_, H1, G1⟩ := id (V_a0b)
  have hin1 : ¬ ((0 : Int32) < 0 ∨ cl1.slots.size ≤ ((0 : Int32)).toNatClampNeg) := inb_of S1 ⟨(by decide), yA0⟩
  have hat1 : cl1.slots[((0 : Int32)).toNatClampNeg]? = some (.int (d0.toInt8.toInt32)) := H1.at hin1 gA0
  obtain ⟨cl2, Ar2, -, S2, N2_, H2, G2⟩ := id (V_a2b)
  have hin2 : ¬ ((0 : Int32) < 0 ∨ cl2.slots.size ≤ ((0 : Int32)).toNatClampNeg) := inb_of S2 ⟨(by decide), (by decide)⟩
  have hat2 : cl2.slots[((0 : Int32)).toNatClampNeg]? = some (.int 106) := H2.at hin2 rfl
  have pre3 : ∀ t, Steps p.tables e below (s₁.setTop (mkF m 89 #[.val (.ref a0b), .val (.int 0), .val (.ref a2b), .val (.int 0), .val (.int 5), .val (.int 0), .unset, .unset] [(.int 106), (.int (d0.toInt8.toInt32))])) t → Steps p.tables e below (s₁.setTop (entryFrame m #[(.ref a0b), (.int 0), (.ref a2b), (.int 0), (.int 5)] 8)) t := fun t kt => by
    refine pre0 t ?_
    show Steps p.tables e below (s₁.setTop (mkF m 0 #[.val (.ref a0b), .val (.int 0), .val (.ref a2b), .val (.int 0), .val (.int 5), .unset, .unset, .unset] [])) _
    refine XS.iconst X0.here hx rfl (hb hby d19_0) ?_
    refine XS.istore X0.here hx rfl (hb hby d19_1) rfl (l' := #[.val (.ref a0b), .val (.int 0), .val (.ref a2b), .val (.int 0), .val (.int 5), .val (.int 0), .unset, .unset]) rfl ?_
    refine XS.iload X0.here hx rfl (hb hby d19_3) rfl ?_
    refine XS.bipush X0.here hx rfl (hb hby d19_5) ?_
    show Steps p.tables e below (s₁.setTop (mkF m 7 #[.val (.ref a0b), .val (.int 0), .val (.ref a2b), .val (.int 0), .val (.int 5), .val (.int 0), .unset, .unset] [(.int 7), (.int 5)])) _
    refine XS.icmpYes X0.here hx rfl (pc0 := 7) (pc' := 70) rfl (hb hby d19_7) rfl (flt (by decide : ¬ ((7 : Int32) < (5 : Int32)))).2.2.2 (by decide) (by decide) ?_
    refine XS.iload X0.here hx rfl (hb hby d19_70) rfl ?_
    refine XS.iload X0.here hx rfl (hb hby d19_72) rfl ?_
    refine XS.icmpNo X0.here hx rfl (hb hby d19_74) rfl (tlt (by decide : (0 : Int32) < (5 : Int32))).2.1 ?_
    show Steps p.tables e below (s₁.setTop (mkF m 77 #[.val (.ref a0b), .val (.int 0), .val (.ref a2b), .val (.int 0), .val (.int 5), .val (.int 0), .unset, .unset] [])) _
    refine XS.aloadN X0.here hx rfl (hb hby d19_77) rfl rfl ?_
    refine XS.iloadN X0.here hx rfl (hb hby d19_78) rfl ?_
    refine XS.iload X0.here hx rfl (hb hby d19_79) rfl ?_
    refine XS.iadd X0.here hx rfl (hb hby d19_81) rfl ?_
    show Steps p.tables e below (s₁.setTop (mkF m 82 #[.val (.ref a0b), .val (.int 0), .val (.ref a2b), .val (.int 0), .val (.int 5), .val (.int 0), .unset, .unset] [(.int 0), (.ref a0b)])) _
    refine X0.baloadBytes hx (j := (0 : Int32)) (v := (.int (d0.toInt8.toInt32))) (by rw [e0]; exact Ar1.1) (State.isArrayOf_alike hZ.alike Ar1.2.1) Ar1.2.2 hin1 hat1 (g := (mkF m 82 #[.val (.ref a0b), .val (.int 0), .val (.ref a2b), .val (.int 0), .val (.int 5), .val (.int 0), .unset, .unset] [(.int 0), (.ref a0b)])) rfl rfl (hb hby d19_82) _ ?_
    show Steps p.tables e below (s₁.setTop (mkF m 83 #[.val (.ref a0b), .val (.int 0), .val (.ref a2b), .val (.int 0), .val (.int 5), .val (.int 0), .unset, .unset] [(.int (d0.toInt8.toInt32))])) _
    refine XS.aloadN X0.here hx rfl (hb hby d19_83) rfl rfl ?_
    refine XS.iloadN X0.here hx rfl (hb hby d19_84) rfl ?_
    refine XS.iload X0.here hx rfl (hb hby d19_85) rfl ?_
    refine XS.iadd X0.here hx rfl (hb hby d19_87) rfl ?_
    show Steps p.tables e below (s₁.setTop (mkF m 88 #[.val (.ref a0b), .val (.int 0), .val (.ref a2b), .val (.int 0), .val (.int 5), .val (.int 0), .unset, .unset] [(.int 0), (.ref a2b), (.int (d0.toInt8.toInt32))])) _
    refine X0.baloadBytes hx (j := (0 : Int32)) (v := (.int 106)) (by rw [e0]; exact Ar2.1) (State.isArrayOf_alike hZ.alike Ar2.2.1) Ar2.2.2 hin2 hat2 (g := (mkF m 88 #[.val (.ref a0b), .val (.int 0), .val (.ref a2b), .val (.int 0), .val (.int 5), .val (.int 0), .unset, .unset] [(.int 0), (.ref a2b), (.int (d0.toInt8.toInt32))])) rfl rfl (hb hby d19_88) _ ?_
    exact kt
  by_cases hf0 : (d0.toInt8.toInt32) = (106 : Int32)
  · obtain ⟨cl4, Ar4, -, S4, N4_, H4, G4⟩ := id (V_a0b)
    have hin4 : ¬ ((1 : Int32) < 0 ∨ cl4.slots.size ≤ ((1 : Int32)).toNatClampNeg) := inb_of S4 ⟨(by decide), yA1⟩
    have hat4 : cl4.slots[((1 : Int32)).toNatClampNeg]? = some (.int (d1.toInt8.toInt32)) := H4.at hin4 gA1
    obtain ⟨cl5, Ar5, -, S5, N5_, H5, G5⟩ := id (V_a2b)
    have hin5 : ¬ ((1 : Int32) < 0 ∨ cl5.slots.size ≤ ((1 : Int32)).toNatClampNeg) := inb_of S5 ⟨(by decide), (by decide)⟩
    have hat5 : cl5.slots[((1 : Int32)).toNatClampNeg]? = some (.int 97) := H5.at hin5 rfl
    have pre6 : ∀ t, Steps p.tables e below (s₁.setTop (mkF m 89 #[.val (.ref a0b), .val (.int 0), .val (.ref a2b), .val (.int 0), .val (.int 5), .val (.int 1), .unset, .unset] [(.int 97), (.int (d1.toInt8.toInt32))])) t → Steps p.tables e below (s₁.setTop (entryFrame m #[(.ref a0b), (.int 0), (.ref a2b), (.int 0), (.int 5)] 8)) t := fun t kt => by
      refine pre3 t ?_
      show Steps p.tables e below (s₁.setTop (mkF m 89 #[.val (.ref a0b), .val (.int 0), .val (.ref a2b), .val (.int 0), .val (.int 5), .val (.int 0), .unset, .unset] [(.int 106), (.int (d0.toInt8.toInt32))])) _
      refine XS.icmpYes X0.here hx rfl (pc0 := 89) (pc' := 95) rfl (hb hby d19_89) rfl (teq hf0).1 (by decide) (by decide) ?_
      refine XS.iinc X0.here hx rfl (hb hby d19_95) rfl (l' := #[.val (.ref a0b), .val (.int 0), .val (.ref a2b), .val (.int 0), .val (.int 5), .val (.int 1), .unset, .unset]) rfl ?_
      refine XS.goto X0.here hx rfl (pc0 := 98) (pc' := 70) rfl (hb hby d19_98) (by decide) (by decide) ?_
      refine XS.iload X0.here hx rfl (hb hby d19_70) rfl ?_
      show Steps p.tables e below (s₁.setTop (mkF m 72 #[.val (.ref a0b), .val (.int 0), .val (.ref a2b), .val (.int 0), .val (.int 5), .val (.int 1), .unset, .unset] [(.int 1)])) _
      refine XS.iload X0.here hx rfl (hb hby d19_72) rfl ?_
      refine XS.icmpNo X0.here hx rfl (hb hby d19_74) rfl (tlt (by decide : (1 : Int32) < (5 : Int32))).2.1 ?_
      refine XS.aloadN X0.here hx rfl (hb hby d19_77) rfl rfl ?_
      refine XS.iloadN X0.here hx rfl (hb hby d19_78) rfl ?_
      show Steps p.tables e below (s₁.setTop (mkF m 79 #[.val (.ref a0b), .val (.int 0), .val (.ref a2b), .val (.int 0), .val (.int 5), .val (.int 1), .unset, .unset] [(.int 0), (.ref a0b)])) _
      refine XS.iload X0.here hx rfl (hb hby d19_79) rfl ?_
      refine XS.iadd X0.here hx rfl (hb hby d19_81) rfl ?_
      show Steps p.tables e below (s₁.setTop (mkF m 82 #[.val (.ref a0b), .val (.int 0), .val (.ref a2b), .val (.int 0), .val (.int 5), .val (.int 1), .unset, .unset] [(.int 1), (.ref a0b)])) _
      refine X0.baloadBytes hx (j := (1 : Int32)) (v := (.int (d1.toInt8.toInt32))) (by rw [e0]; exact Ar4.1) (State.isArrayOf_alike hZ.alike Ar4.2.1) Ar4.2.2 hin4 hat4 (g := (mkF m 82 #[.val (.ref a0b), .val (.int 0), .val (.ref a2b), .val (.int 0), .val (.int 5), .val (.int 1), .unset, .unset] [(.int 1), (.ref a0b)])) rfl rfl (hb hby d19_82) _ ?_
      show Steps p.tables e below (s₁.setTop (mkF m 83 #[.val (.ref a0b), .val (.int 0), .val (.ref a2b), .val (.int 0), .val (.int 5), .val (.int 1), .unset, .unset] [(.int (d1.toInt8.toInt32))])) _
      refine XS.aloadN X0.here hx rfl (hb hby d19_83) rfl rfl ?_
      refine XS.iloadN X0.here hx rfl (hb hby d19_84) rfl ?_
      refine XS.iload X0.here hx rfl (hb hby d19_85) rfl ?_
      refine XS.iadd X0.here hx rfl (hb hby d19_87) rfl ?_
      show Steps p.tables e below (s₁.setTop (mkF m 88 #[.val (.ref a0b), .val (.int 0), .val (.ref a2b), .val (.int 0), .val (.int 5), .val (.int 1), .unset, .unset] [(.int 1), (.ref a2b), (.int (d1.toInt8.toInt32))])) _
      refine X0.baloadBytes hx (j := (1 : Int32)) (v := (.int 97)) (by rw [e0]; exact Ar5.1) (State.isArrayOf_alike hZ.alike Ar5.2.1) Ar5.2.2 hin5 hat5 (g := (mkF m 88 #[.val (.ref a0b), .val (.int 0), .val (.ref a2b), .val (.int 0), .val (.int 5), .val (.int 1), .unset, .unset] [(.int 1), (.ref a2b), (.int (d1.toInt8.toInt32))])) rfl rfl (hb hby d19_88) _ ?_
      exact kt
    by_cases hf1 : (d1.toInt8.toInt32) = (97 : Int32)
    · obtain ⟨cl7, Ar7, -, S7, N7_, H7, G7⟩ := id (V_a0b)
      have hin7 : ¬ ((2 : Int32) < 0 ∨ cl7.slots.size ≤ ((2 : Int32)).toNatClampNeg) := inb_of S7 ⟨(by decide), yA2⟩
      have hat7 : cl7.slots[((2 : Int32)).toNatClampNeg]? = some (.int (d2.toInt8.toInt32)) := H7.at hin7 gA2
      obtain ⟨cl8, Ar8, -, S8, N8_, H8, G8⟩ := id (V_a2b)
      have hin8 : ¬ ((2 : Int32) < 0 ∨ cl8.slots.size ≤ ((2 : Int32)).toNatClampNeg) := inb_of S8 ⟨(by decide), (by decide)⟩
      have hat8 : cl8.slots[((2 : Int32)).toNatClampNeg]? = some (.int 118) := H8.at hin8 rfl
      have pre9 : ∀ t, Steps p.tables e below (s₁.setTop (mkF m 89 #[.val (.ref a0b), .val (.int 0), .val (.ref a2b), .val (.int 0), .val (.int 5), .val (.int 2), .unset, .unset] [(.int 118), (.int (d2.toInt8.toInt32))])) t → Steps p.tables e below (s₁.setTop (entryFrame m #[(.ref a0b), (.int 0), (.ref a2b), (.int 0), (.int 5)] 8)) t := fun t kt => by
        refine pre6 t ?_
        show Steps p.tables e below (s₁.setTop (mkF m 89 #[.val (.ref a0b), .val (.int 0), .val (.ref a2b), .val (.int 0), .val (.int 5), .val (.int 1), .unset, .unset] [(.int 97), (.int (d1.toInt8.toInt32))])) _
        refine XS.icmpYes X0.here hx rfl (pc0 := 89) (pc' := 95) rfl (hb hby d19_89) rfl (teq hf1).1 (by decide) (by decide) ?_
        refine XS.iinc X0.here hx rfl (hb hby d19_95) rfl (l' := #[.val (.ref a0b), .val (.int 0), .val (.ref a2b), .val (.int 0), .val (.int 5), .val (.int 2), .unset, .unset]) rfl ?_
        refine XS.goto X0.here hx rfl (pc0 := 98) (pc' := 70) rfl (hb hby d19_98) (by decide) (by decide) ?_
        refine XS.iload X0.here hx rfl (hb hby d19_70) rfl ?_
        show Steps p.tables e below (s₁.setTop (mkF m 72 #[.val (.ref a0b), .val (.int 0), .val (.ref a2b), .val (.int 0), .val (.int 5), .val (.int 2), .unset, .unset] [(.int 2)])) _
        refine XS.iload X0.here hx rfl (hb hby d19_72) rfl ?_
        refine XS.icmpNo X0.here hx rfl (hb hby d19_74) rfl (tlt (by decide : (2 : Int32) < (5 : Int32))).2.1 ?_
        refine XS.aloadN X0.here hx rfl (hb hby d19_77) rfl rfl ?_
        refine XS.iloadN X0.here hx rfl (hb hby d19_78) rfl ?_
        show Steps p.tables e below (s₁.setTop (mkF m 79 #[.val (.ref a0b), .val (.int 0), .val (.ref a2b), .val (.int 0), .val (.int 5), .val (.int 2), .unset, .unset] [(.int 0), (.ref a0b)])) _
        refine XS.iload X0.here hx rfl (hb hby d19_79) rfl ?_
        refine XS.iadd X0.here hx rfl (hb hby d19_81) rfl ?_
        show Steps p.tables e below (s₁.setTop (mkF m 82 #[.val (.ref a0b), .val (.int 0), .val (.ref a2b), .val (.int 0), .val (.int 5), .val (.int 2), .unset, .unset] [(.int 2), (.ref a0b)])) _
        refine X0.baloadBytes hx (j := (2 : Int32)) (v := (.int (d2.toInt8.toInt32))) (by rw [e0]; exact Ar7.1) (State.isArrayOf_alike hZ.alike Ar7.2.1) Ar7.2.2 hin7 hat7 (g := (mkF m 82 #[.val (.ref a0b), .val (.int 0), .val (.ref a2b), .val (.int 0), .val (.int 5), .val (.int 2), .unset, .unset] [(.int 2), (.ref a0b)])) rfl rfl (hb hby d19_82) _ ?_
        show Steps p.tables e below (s₁.setTop (mkF m 83 #[.val (.ref a0b), .val (.int 0), .val (.ref a2b), .val (.int 0), .val (.int 5), .val (.int 2), .unset, .unset] [(.int (d2.toInt8.toInt32))])) _
        refine XS.aloadN X0.here hx rfl (hb hby d19_83) rfl rfl ?_
        refine XS.iloadN X0.here hx rfl (hb hby d19_84) rfl ?_
        refine XS.iload X0.here hx rfl (hb hby d19_85) rfl ?_
        refine XS.iadd X0.here hx rfl (hb hby d19_87) rfl ?_
        show Steps p.tables e below (s₁.setTop (mkF m 88 #[.val (.ref a0b), .val (.int 0), .val (.ref a2b), .val (.int 0), .val (.int 5), .val (.int 2), .unset, .unset] [(.int 2), (.ref a2b), (.int (d2.toInt8.toInt32))])) _
        refine X0.baloadBytes hx (j := (2 : Int32)) (v := (.int 118)) (by rw [e0]; exact Ar8.1) (State.isArrayOf_alike hZ.alike Ar8.2.1) Ar8.2.2 hin8 hat8 (g := (mkF m 88 #[.val (.ref a0b), .val (.int 0), .val (.ref a2b), .val (.int 0), .val (.int 5), .val (.int 2), .unset, .unset] [(.int 2), (.ref a2b), (.int (d2.toInt8.toInt32))])) rfl rfl (hb hby d19_88) _ ?_
        exact kt
      by_cases hf2 : (d2.toInt8.toInt32) = (118 : Int32)
      · obtain ⟨cl10, Ar10, -, S10, N10_, H10, G10⟩ := id (V_a0b)
        have hin10 : ¬ ((3 : Int32) < 0 ∨ cl10.slots.size ≤ ((3 : Int32)).toNatClampNeg) := inb_of S10 ⟨(by decide), yA3⟩
        have hat10 : cl10.slots[((3 : Int32)).toNatClampNeg]? = some (.int (d3.toInt8.toInt32)) := H10.at hin10 gA3
        obtain ⟨cl11, Ar11, -, S11, N11_, H11, G11⟩ := id (V_a2b)
        have hin11 : ¬ ((3 : Int32) < 0 ∨ cl11.slots.size ≤ ((3 : Int32)).toNatClampNeg) := inb_of S11 ⟨(by decide), (by decide)⟩
        have hat11 : cl11.slots[((3 : Int32)).toNatClampNeg]? = some (.int 97) := H11.at hin11 rfl
        have pre12 : ∀ t, Steps p.tables e below (s₁.setTop (mkF m 89 #[.val (.ref a0b), .val (.int 0), .val (.ref a2b), .val (.int 0), .val (.int 5), .val (.int 3), .unset, .unset] [(.int 97), (.int (d3.toInt8.toInt32))])) t → Steps p.tables e below (s₁.setTop (entryFrame m #[(.ref a0b), (.int 0), (.ref a2b), (.int 0), (.int 5)] 8)) t := fun t kt => by
          refine pre9 t ?_
          show Steps p.tables e below (s₁.setTop (mkF m 89 #[.val (.ref a0b), .val (.int 0), .val (.ref a2b), .val (.int 0), .val (.int 5), .val (.int 2), .unset, .unset] [(.int 118), (.int (d2.toInt8.toInt32))])) _
          refine XS.icmpYes X0.here hx rfl (pc0 := 89) (pc' := 95) rfl (hb hby d19_89) rfl (teq hf2).1 (by decide) (by decide) ?_
          refine XS.iinc X0.here hx rfl (hb hby d19_95) rfl (l' := #[.val (.ref a0b), .val (.int 0), .val (.ref a2b), .val (.int 0), .val (.int 5), .val (.int 3), .unset, .unset]) rfl ?_
          refine XS.goto X0.here hx rfl (pc0 := 98) (pc' := 70) rfl (hb hby d19_98) (by decide) (by decide) ?_
          refine XS.iload X0.here hx rfl (hb hby d19_70) rfl ?_
          show Steps p.tables e below (s₁.setTop (mkF m 72 #[.val (.ref a0b), .val (.int 0), .val (.ref a2b), .val (.int 0), .val (.int 5), .val (.int 3), .unset, .unset] [(.int 3)])) _
          refine XS.iload X0.here hx rfl (hb hby d19_72) rfl ?_
          refine XS.icmpNo X0.here hx rfl (hb hby d19_74) rfl (tlt (by decide : (3 : Int32) < (5 : Int32))).2.1 ?_
          refine XS.aloadN X0.here hx rfl (hb hby d19_77) rfl rfl ?_
          refine XS.iloadN X0.here hx rfl (hb hby d19_78) rfl ?_
          show Steps p.tables e below (s₁.setTop (mkF m 79 #[.val (.ref a0b), .val (.int 0), .val (.ref a2b), .val (.int 0), .val (.int 5), .val (.int 3), .unset, .unset] [(.int 0), (.ref a0b)])) _
          refine XS.iload X0.here hx rfl (hb hby d19_79) rfl ?_
          refine XS.iadd X0.here hx rfl (hb hby d19_81) rfl ?_
          show Steps p.tables e below (s₁.setTop (mkF m 82 #[.val (.ref a0b), .val (.int 0), .val (.ref a2b), .val (.int 0), .val (.int 5), .val (.int 3), .unset, .unset] [(.int 3), (.ref a0b)])) _
          refine X0.baloadBytes hx (j := (3 : Int32)) (v := (.int (d3.toInt8.toInt32))) (by rw [e0]; exact Ar10.1) (State.isArrayOf_alike hZ.alike Ar10.2.1) Ar10.2.2 hin10 hat10 (g := (mkF m 82 #[.val (.ref a0b), .val (.int 0), .val (.ref a2b), .val (.int 0), .val (.int 5), .val (.int 3), .unset, .unset] [(.int 3), (.ref a0b)])) rfl rfl (hb hby d19_82) _ ?_
          show Steps p.tables e below (s₁.setTop (mkF m 83 #[.val (.ref a0b), .val (.int 0), .val (.ref a2b), .val (.int 0), .val (.int 5), .val (.int 3), .unset, .unset] [(.int (d3.toInt8.toInt32))])) _
          refine XS.aloadN X0.here hx rfl (hb hby d19_83) rfl rfl ?_
          refine XS.iloadN X0.here hx rfl (hb hby d19_84) rfl ?_
          refine XS.iload X0.here hx rfl (hb hby d19_85) rfl ?_
          refine XS.iadd X0.here hx rfl (hb hby d19_87) rfl ?_
          show Steps p.tables e below (s₁.setTop (mkF m 88 #[.val (.ref a0b), .val (.int 0), .val (.ref a2b), .val (.int 0), .val (.int 5), .val (.int 3), .unset, .unset] [(.int 3), (.ref a2b), (.int (d3.toInt8.toInt32))])) _
          refine X0.baloadBytes hx (j := (3 : Int32)) (v := (.int 97)) (by rw [e0]; exact Ar11.1) (State.isArrayOf_alike hZ.alike Ar11.2.1) Ar11.2.2 hin11 hat11 (g := (mkF m 88 #[.val (.ref a0b), .val (.int 0), .val (.ref a2b), .val (.int 0), .val (.int 5), .val (.int 3), .unset, .unset] [(.int 3), (.ref a2b), (.int (d3.toInt8.toInt32))])) rfl rfl (hb hby d19_88) _ ?_
          exact kt
        by_cases hf3 : (d3.toInt8.toInt32) = (97 : Int32)
        · obtain ⟨cl13, Ar13, -, S13, N13_, H13, G13⟩ := id (V_a0b)
          have hin13 : ¬ ((4 : Int32) < 0 ∨ cl13.slots.size ≤ ((4 : Int32)).toNatClampNeg) := inb_of S13 ⟨(by decide), yA4⟩
          have hat13 : cl13.slots[((4 : Int32)).toNatClampNeg]? = some (.int (d4.toInt8.toInt32)) := H13.at hin13 gA4
          obtain ⟨cl14, Ar14, -, S14, N14_, H14, G14⟩ := id (V_a2b)
          have hin14 : ¬ ((4 : Int32) < 0 ∨ cl14.slots.size ≤ ((4 : Int32)).toNatClampNeg) := inb_of S14 ⟨(by decide), (by decide)⟩
          have hat14 : cl14.slots[((4 : Int32)).toNatClampNeg]? = some (.int 46) := H14.at hin14 rfl
          have pre15 : ∀ t, Steps p.tables e below (s₁.setTop (mkF m 89 #[.val (.ref a0b), .val (.int 0), .val (.ref a2b), .val (.int 0), .val (.int 5), .val (.int 4), .unset, .unset] [(.int 46), (.int (d4.toInt8.toInt32))])) t → Steps p.tables e below (s₁.setTop (entryFrame m #[(.ref a0b), (.int 0), (.ref a2b), (.int 0), (.int 5)] 8)) t := fun t kt => by
            refine pre12 t ?_
            show Steps p.tables e below (s₁.setTop (mkF m 89 #[.val (.ref a0b), .val (.int 0), .val (.ref a2b), .val (.int 0), .val (.int 5), .val (.int 3), .unset, .unset] [(.int 97), (.int (d3.toInt8.toInt32))])) _
            refine XS.icmpYes X0.here hx rfl (pc0 := 89) (pc' := 95) rfl (hb hby d19_89) rfl (teq hf3).1 (by decide) (by decide) ?_
            refine XS.iinc X0.here hx rfl (hb hby d19_95) rfl (l' := #[.val (.ref a0b), .val (.int 0), .val (.ref a2b), .val (.int 0), .val (.int 5), .val (.int 4), .unset, .unset]) rfl ?_
            refine XS.goto X0.here hx rfl (pc0 := 98) (pc' := 70) rfl (hb hby d19_98) (by decide) (by decide) ?_
            refine XS.iload X0.here hx rfl (hb hby d19_70) rfl ?_
            show Steps p.tables e below (s₁.setTop (mkF m 72 #[.val (.ref a0b), .val (.int 0), .val (.ref a2b), .val (.int 0), .val (.int 5), .val (.int 4), .unset, .unset] [(.int 4)])) _
            refine XS.iload X0.here hx rfl (hb hby d19_72) rfl ?_
            refine XS.icmpNo X0.here hx rfl (hb hby d19_74) rfl (tlt (by decide : (4 : Int32) < (5 : Int32))).2.1 ?_
            refine XS.aloadN X0.here hx rfl (hb hby d19_77) rfl rfl ?_
            refine XS.iloadN X0.here hx rfl (hb hby d19_78) rfl ?_
            show Steps p.tables e below (s₁.setTop (mkF m 79 #[.val (.ref a0b), .val (.int 0), .val (.ref a2b), .val (.int 0), .val (.int 5), .val (.int 4), .unset, .unset] [(.int 0), (.ref a0b)])) _
            refine XS.iload X0.here hx rfl (hb hby d19_79) rfl ?_
            refine XS.iadd X0.here hx rfl (hb hby d19_81) rfl ?_
            show Steps p.tables e below (s₁.setTop (mkF m 82 #[.val (.ref a0b), .val (.int 0), .val (.ref a2b), .val (.int 0), .val (.int 5), .val (.int 4), .unset, .unset] [(.int 4), (.ref a0b)])) _
            refine X0.baloadBytes hx (j := (4 : Int32)) (v := (.int (d4.toInt8.toInt32))) (by rw [e0]; exact Ar13.1) (State.isArrayOf_alike hZ.alike Ar13.2.1) Ar13.2.2 hin13 hat13 (g := (mkF m 82 #[.val (.ref a0b), .val (.int 0), .val (.ref a2b), .val (.int 0), .val (.int 5), .val (.int 4), .unset, .unset] [(.int 4), (.ref a0b)])) rfl rfl (hb hby d19_82) _ ?_
            show Steps p.tables e below (s₁.setTop (mkF m 83 #[.val (.ref a0b), .val (.int 0), .val (.ref a2b), .val (.int 0), .val (.int 5), .val (.int 4), .unset, .unset] [(.int (d4.toInt8.toInt32))])) _
            refine XS.aloadN X0.here hx rfl (hb hby d19_83) rfl rfl ?_
            refine XS.iloadN X0.here hx rfl (hb hby d19_84) rfl ?_
            refine XS.iload X0.here hx rfl (hb hby d19_85) rfl ?_
            refine XS.iadd X0.here hx rfl (hb hby d19_87) rfl ?_
            show Steps p.tables e below (s₁.setTop (mkF m 88 #[.val (.ref a0b), .val (.int 0), .val (.ref a2b), .val (.int 0), .val (.int 5), .val (.int 4), .unset, .unset] [(.int 4), (.ref a2b), (.int (d4.toInt8.toInt32))])) _
            refine X0.baloadBytes hx (j := (4 : Int32)) (v := (.int 46)) (by rw [e0]; exact Ar14.1) (State.isArrayOf_alike hZ.alike Ar14.2.1) Ar14.2.2 hin14 hat14 (g := (mkF m 88 #[.val (.ref a0b), .val (.int 0), .val (.ref a2b), .val (.int 0), .val (.int 5), .val (.int 4), .unset, .unset] [(.int 4), (.ref a2b), (.int (d4.toInt8.toInt32))])) rfl rfl (hb hby d19_88) _ ?_
            exact kt
          by_cases hf4 : (d4.toInt8.toInt32) = (46 : Int32)
          · exact absurd ⟨own_bq lA0 nA0 (by decide) (by decide) hf0, own_bq lA1 nA1 (by decide) (by decide) hf1, own_bq lA2 nA2 (by decide) (by decide) hf2, own_bq lA3 nA3 (by decide) (by decide) hf3, own_bq lA4 nA4 (by decide) (by decide) hf4⟩ hA
          · have hr0 : ¬ ((4 : Int32) < (0 : Int32)) := (by decide)
            obtain ⟨fs, hr, hrun, hended, hW, hsame⟩ := X0.leave (v := some (.int 4)) (fun h => by rw [Bd.returns] at h; cases h)
            refine ⟨_, _, pre15 _ ?_, hrun, hended, _, _, rfl, ?_, ⟨_, rfl⟩, hW, hsame.mono (by decide) (by decide)⟩
            · show Steps p.tables e below (s₁.setTop (mkF m 89 #[.val (.ref a0b), .val (.int 0), .val (.ref a2b), .val (.int 0), .val (.int 5), .val (.int 4), .unset, .unset] [(.int 46), (.int (d4.toInt8.toInt32))])) _
              refine XS.icmpNo X0.here hx rfl (hb hby d19_89) rfl (feq hf4).1 ?_
              refine XS.iload X0.here hx rfl (hb hby d19_92) rfl ?_
              show Steps p.tables e below (s₁.setTop (mkF m 94 #[.val (.ref a0b), .val (.int 0), .val (.ref a2b), .val (.int 0), .val (.int 5), .val (.int 4), .unset, .unset] [(.int 4)])) _
              exact retI X0 hx Bd.returns (hb hby d19_94) hr
            · show Q_rmMm n0 Z cS a0b a2b k0 nl vs k2 d0 d1 d2 d3 d4 h0 _ s₁.heap _
              rw [e0]
              exact ⟨(4 : Int32), rfl, N0, rfl, hr0⟩
        · have hr0 : ¬ ((3 : Int32) < (0 : Int32)) := (by decide)
          obtain ⟨fs, hr, hrun, hended, hW, hsame⟩ := X0.leave (v := some (.int 3)) (fun h => by rw [Bd.returns] at h; cases h)
          refine ⟨_, _, pre12 _ ?_, hrun, hended, _, _, rfl, ?_, ⟨_, rfl⟩, hW, hsame.mono (by decide) (by decide)⟩
          · show Steps p.tables e below (s₁.setTop (mkF m 89 #[.val (.ref a0b), .val (.int 0), .val (.ref a2b), .val (.int 0), .val (.int 5), .val (.int 3), .unset, .unset] [(.int 97), (.int (d3.toInt8.toInt32))])) _
            refine XS.icmpNo X0.here hx rfl (hb hby d19_89) rfl (feq hf3).1 ?_
            refine XS.iload X0.here hx rfl (hb hby d19_92) rfl ?_
            show Steps p.tables e below (s₁.setTop (mkF m 94 #[.val (.ref a0b), .val (.int 0), .val (.ref a2b), .val (.int 0), .val (.int 5), .val (.int 3), .unset, .unset] [(.int 3)])) _
            exact retI X0 hx Bd.returns (hb hby d19_94) hr
          · show Q_rmMm n0 Z cS a0b a2b k0 nl vs k2 d0 d1 d2 d3 d4 h0 _ s₁.heap _
            rw [e0]
            exact ⟨(3 : Int32), rfl, N0, rfl, hr0⟩
      · have hr0 : ¬ ((2 : Int32) < (0 : Int32)) := (by decide)
        obtain ⟨fs, hr, hrun, hended, hW, hsame⟩ := X0.leave (v := some (.int 2)) (fun h => by rw [Bd.returns] at h; cases h)
        refine ⟨_, _, pre9 _ ?_, hrun, hended, _, _, rfl, ?_, ⟨_, rfl⟩, hW, hsame.mono (by decide) (by decide)⟩
        · show Steps p.tables e below (s₁.setTop (mkF m 89 #[.val (.ref a0b), .val (.int 0), .val (.ref a2b), .val (.int 0), .val (.int 5), .val (.int 2), .unset, .unset] [(.int 118), (.int (d2.toInt8.toInt32))])) _
          refine XS.icmpNo X0.here hx rfl (hb hby d19_89) rfl (feq hf2).1 ?_
          refine XS.iload X0.here hx rfl (hb hby d19_92) rfl ?_
          show Steps p.tables e below (s₁.setTop (mkF m 94 #[.val (.ref a0b), .val (.int 0), .val (.ref a2b), .val (.int 0), .val (.int 5), .val (.int 2), .unset, .unset] [(.int 2)])) _
          exact retI X0 hx Bd.returns (hb hby d19_94) hr
        · show Q_rmMm n0 Z cS a0b a2b k0 nl vs k2 d0 d1 d2 d3 d4 h0 _ s₁.heap _
          rw [e0]
          exact ⟨(2 : Int32), rfl, N0, rfl, hr0⟩
    · have hr0 : ¬ ((1 : Int32) < (0 : Int32)) := (by decide)
      obtain ⟨fs, hr, hrun, hended, hW, hsame⟩ := X0.leave (v := some (.int 1)) (fun h => by rw [Bd.returns] at h; cases h)
      refine ⟨_, _, pre6 _ ?_, hrun, hended, _, _, rfl, ?_, ⟨_, rfl⟩, hW, hsame.mono (by decide) (by decide)⟩
      · show Steps p.tables e below (s₁.setTop (mkF m 89 #[.val (.ref a0b), .val (.int 0), .val (.ref a2b), .val (.int 0), .val (.int 5), .val (.int 1), .unset, .unset] [(.int 97), (.int (d1.toInt8.toInt32))])) _
        refine XS.icmpNo X0.here hx rfl (hb hby d19_89) rfl (feq hf1).1 ?_
        refine XS.iload X0.here hx rfl (hb hby d19_92) rfl ?_
        show Steps p.tables e below (s₁.setTop (mkF m 94 #[.val (.ref a0b), .val (.int 0), .val (.ref a2b), .val (.int 0), .val (.int 5), .val (.int 1), .unset, .unset] [(.int 1)])) _
        exact retI X0 hx Bd.returns (hb hby d19_94) hr
      · show Q_rmMm n0 Z cS a0b a2b k0 nl vs k2 d0 d1 d2 d3 d4 h0 _ s₁.heap _
        rw [e0]
        exact ⟨(1 : Int32), rfl, N0, rfl, hr0⟩
  · have hr0 : ¬ ((0 : Int32) < (0 : Int32)) := (by decide)
    obtain ⟨fs, hr, hrun, hended, hW, hsame⟩ := X0.leave (v := some (.int 0)) (fun h => by rw [Bd.returns] at h; cases h)
    refine ⟨_, _, pre3 _ ?_, hrun, hended, _, _, rfl, ?_, ⟨_, rfl⟩, hW, hsame.mono (by decide) (by decide)⟩
    · show Steps p.tables e below (s₁.setTop (mkF m 89 #[.val (.ref a0b), .val (.int 0), .val (.ref a2b), .val (.int 0), .val (.int 5), .val (.int 0), .unset, .unset] [(.int 106), (.int (d0.toInt8.toInt32))])) _
      refine XS.icmpNo X0.here hx rfl (hb hby d19_89) rfl (feq hf0).1 ?_
      refine XS.iload X0.here hx rfl (hb hby d19_92) rfl ?_
      show Steps p.tables e below (s₁.setTop (mkF m 94 #[.val (.ref a0b), .val (.int 0), .val (.ref a2b), .val (.int 0), .val (.int 5), .val (.int 0), .unset, .unset] [(.int 0)])) _
      exact retI X0 hx Bd.returns (hb hby d19_94) hr
    · show Q_rmMm n0 Z cS a0b a2b k0 nl vs k2 d0 d1 d2 d3 d4 h0 _ s₁.heap _
      rw [e0]
      exact ⟨(0 : Int32), rfl, N0, rfl, hr0⟩
theorem d9_0 : decode jdk_42_method_75_code 0 = .ok (.iload_n 2, 1) := by decide +kernel
theorem d9_1 : decode jdk_42_method_75_code 1 = .ok (.ifCond .lt 16, 3) := by decide +kernel
theorem d9_4 : decode jdk_42_method_75_code 4 = .ok (.iload_n 2, 1) := by decide +kernel
theorem d9_5 : decode jdk_42_method_75_code 5 = .ok (.aload_n 0, 1) := by decide +kernel
theorem d9_6 : decode jdk_42_method_75_code 6 = .ok (.invokevirtual 505, 3) := by decide +kernel
theorem pdv6 : parseMethodDescriptor "()I" = some ⟨[], some .int⟩ := by decide +kernel
theorem d9_9 : decode jdk_42_method_75_code 9 = .ok (.aload_n 1, 1) := by decide +kernel
theorem d9_10 : decode jdk_42_method_75_code 10 = .ok (.invokevirtual 505, 3) := by decide +kernel
theorem d9_13 : decode jdk_42_method_75_code 13 = .ok (.isub, 1) := by decide +kernel
theorem d9_14 : decode jdk_42_method_75_code 14 = .ok (.if_icmp .le 5, 3) := by decide +kernel
theorem d9_17 : decode jdk_42_method_75_code 17 = .ok (.iconst 0, 1) := by decide +kernel
theorem d9_18 : decode jdk_42_method_75_code 18 = .ok (.ireturn, 1) := by decide +kernel
abbrev MN_10 : MethodName := ⟨"java/lang/String", "startsWith", "(Ljava/lang/String;I)Z"⟩
theorem ef_rmS2sh (m : MethodId) (a0s : Addr) (a1s : Addr) : entryFrame m #[(.ref a0s), (.ref a1s), (.int 0)] 8 = mkF m 0 #[.val (.ref a0s), .val (.ref a1s), .val (.int 0), .unset, .unset, .unset, .unset, .unset] [] := by first | (simp [entryFrame, mkF, argsToLocals, Value.category]; done) | rfl
def Q_rmS2sh (n0 : Nat) (Z : State) (cS : Int32) (a0s : Addr) (a1s : Addr) (a0b : Addr) (k0 : ClassId) (nl : Int32) (vs : List Value) (a2b : Addr) (k2 : ClassId) (h0 : Heap) (v : Option Value) (h : Heap) (L : List Loc) : Prop := v = some (.int 0) ∧ Fr n0 L ∧ h = h0
set_option maxRecDepth 65536 in
set_option maxHeartbeats 40000000 in
theorem rmS2sh (l : Launch) (Z : State) (a0 : Array Value) (hw : ∀ d ∈ tables_1, d.before a0 Z = true) (ws : List Jvm.Cond) (cS : Int32) (a0s : Addr) (a1s : Addr) (a0b : Addr) (k0 : ClassId) (nl : Int32) (vs : List Value) (a2b : Addr) (k2 : ClassId) (h0 : Heap) (n0 : Nat) (O0 : Old Z n0 h0) (GL : GF Z cS) (E_a0s : Exa Z h0 a0s "java/lang/String") (F_value_a0s : Fld Z h0 a0s "java/lang/String" "value" "[B" (.ref a0b)) (F_coder_a0s : Fld Z h0 a0s "java/lang/String" "coder" "B" (.int 0)) (V_a0b : Arv Z h0 a0b k0 .byte nl vs (.int 0)) (E_a1s : Exa Z h0 a1s "java/lang/String") (F_value_a1s : Fld Z h0 a1s "java/lang/String" "value" "[B" (.ref a2b)) (F_coder_a1s : Fld Z h0 a1s "java/lang/String" "coder" "B" (.int 0)) (V_a2b : Arv Z h0 a2b k2 .byte (5 : Int32) [(.int 106), (.int 97), (.int 118), (.int 97), (.int 46)] (.int 0)) (hs : (nl - (5 : Int32)) < (0 : Int32)) :
    MetFree l MN_10 (head1 (Jvm.Cond.code MN_10 jdk_42_method_75_code 8 (some .boolean) :: ws) ({ frames := 2, cells := 0, slots := 0, locals := 27 } : Room)) (fun a U => a = #[(.ref a0s), (.ref a1s), (.int 0)] ∧ Z.Warmed39 U.vm ∧ U.heap = h0) (fun _ _ _ _ _ => True) (fun _ U o U' => ∃ v L, o = .returned v ∧ Q_rmS2sh n0 Z cS a0s a1s a0b k0 nl vs a2b k2 h0 v U'.heap L ∧ FrameEnd U o U' L ({ frames := 2, cells := 0, slots := 0, locals := 27 } : Room).cells ({ frames := 2, cells := 0, slots := 0, locals := 27 } : Room).slots) := by
  refine MetFree.of_bodySF (plainFor_of_name pnv1) hisR ?_
  intro p e s m args below meth c s₁ Bd hml0 hP hK
  obtain ⟨rfl, hZ, hh⟩ := hP
  have hx := Bd.exec
  have hby := Bd.bytes
  have hml : c.maxLocals = 8 := hml0
  have hown : s.vm.findClass "java/lang/String" = some m.cls := findClass_of_methodNamed Bd.named
  have hnm := (name_of_methodNamed Bd.named Bd.method).1
  have X0 : Stand p l e ({ frames := 2, cells := 0, slots := 0, locals := 27 } : Room) s m #[(.ref a0s), (.ref a1s), (.int 0)] below meth c s₁ [] 0 0 := Stand.of_body Bd
  have e0 : s₁.heap = h0 := by rw [← hh, Bd.state]; rfl
  have N0 := Fr.nil n0
  have pre0 : ∀ t, Steps p.tables e below (s₁.setTop (mkF m 0 #[.val (.ref a0s), .val (.ref a1s), .val (.int 0), .unset, .unset, .unset, .unset, .unset] [])) t → Steps p.tables e below (s₁.setTop (entryFrame m #[(.ref a0s), (.ref a1s), (.int 0)] 8)) t := fun t k => castTop (ef_rmS2sh m a0s a1s) k
  have GL' := GL
  obtain ⟨GCS, GCP⟩ := GL'
  obtain ⟨cq1, kq1, q1a, q1b, q1c⟩ := isOf hZ e0 E_a0s
  obtain ⟨_, _, ⟨T1, L1, k1, n1⟩, -, X1, ⟨Lc1, hQ1, l1, y1, z1⟩, st1⟩ := X0.virtualBack hx (y := MN_6) (z := MN_6) hown (mvT hZ (Wd hw 49 rfl)) (mvT hZ (Wd hw 50 rfl)) (notFace_of_selects (args := #[]) (mvT hZ (Wd hw 52 rfl))) (mvT hZ (Wd hw 52 rfl)) (mvT hZ (Wd hw 51 rfl)) (by decide) (backOf (W := 1) (rmLen l Z a0 hw [] cS (a0s) (a0b) (k0) (nl) (vs) (h0) n0 O0 GL E_a0s F_value_a0s F_coder_a0s V_a0b) hZ (Wd hw 53 rfl) (Wd hw 11 rfl) (by decide) (by decide)) q1a q1c (g := (mkF m 6 #[.val (.ref a0s), .val (.ref a1s), .val (.int 0), .unset, .unset, .unset, .unset, .unset] [(.ref a0s), (.int 0)])) rfl (by rw [hml]; rfl) (Steps.refl _) (argsL := []) (rest := [(.int 0)]) (lenOf pdv6 rfl) rfl (by show 2 * 0 + _ ≤ _; exact Nat.le_of_eq rfl) (hb hby d9_6) (fun _ _ => ⟨rfl, e0, (by decide : 0 + 0 ≤ _), (by decide : 0 + 0 ≤ _)⟩)
  dsimp only [Pt.U, Pt.locs, Pt.cells, Pt.slots] at X1 l1 y1 z1 st1 hQ1
  subst l1 y1 z1
  obtain ⟨rfl, N1q, e1⟩ := hQ1
  have N1 := Fr.app N0 N1q
  obtain ⟨cq2, kq2, q2a, q2b, q2c⟩ := isOf hZ e1 E_a1s
  obtain ⟨_, _, ⟨T2, L2, k2, n2⟩, -, X2, ⟨Lc2, hQ2, l2, y2, z2⟩, st2⟩ := X1.virtualBack hx (y := MN_6) (z := MN_6) hown (mvT hZ (Wd hw 49 rfl)) (mvT hZ (Wd hw 50 rfl)) (notFace_of_selects (args := #[]) (mvT hZ (Wd hw 52 rfl))) (mvT hZ (Wd hw 52 rfl)) (mvT hZ (Wd hw 51 rfl)) (by decide) (backOf (W := 2) (rmLen l Z a0 hw [] cS (a1s) (a2b) (k2) ((5 : Int32)) ([(.int 106), (.int 97), (.int 118), (.int 97), (.int 46)]) (h0) n0 O0 GL E_a1s F_value_a1s F_coder_a1s V_a2b) hZ (Wd hw 53 rfl) (Wd hw 11 rfl) (by decide) (by decide)) q2a q2c (g := (mkF m 10 #[.val (.ref a0s), .val (.ref a1s), .val (.int 0), .unset, .unset, .unset, .unset, .unset] [(.ref a1s), (.int nl), (.int 0)])) rfl (by rw [hml]; rfl) (Steps.refl _) (argsL := []) (rest := [(.int nl), (.int 0)]) (lenOf pdv6 rfl) rfl (by show 2 * 0 + _ ≤ _; exact Nat.le_of_eq rfl) (hb hby d9_10) (fun _ _ => ⟨rfl, e1, (by decide : 0 + 0 ≤ _), (by decide : 0 + 0 ≤ _)⟩)
  dsimp only [Pt.U, Pt.locs, Pt.cells, Pt.slots] at X2 l2 y2 z2 st2 hQ2
  subst l2 y2 z2
  obtain ⟨rfl, N2q, e2⟩ := hQ2
  have N2 := Fr.app N1 N2q
  obtain ⟨fs, hr, hrun, hended, hW, hsame⟩ := X2.leave (v := some (.int 0)) (fun h => by rw [Bd.returns] at h; cases h)
  refine ⟨_, _, pre0 _ ?_, hrun, hended, _, _, rfl, ?_, ⟨_, rfl⟩, hW, hsame.mono (by decide) (by decide)⟩
  · show Steps p.tables e below (s₁.setTop (mkF m 0 #[.val (.ref a0s), .val (.ref a1s), .val (.int 0), .unset, .unset, .unset, .unset, .unset] [])) _
    refine XS.iloadN X0.here hx rfl (hb hby d9_0) rfl ?_
    refine XS.ifNo X0.here hx rfl (hb hby d9_1) rfl ((if0 _ _).trans (flt (by decide : ¬ ((0 : Int32) < (0 : Int32)))).1) ?_
    refine XS.iloadN X0.here hx rfl (hb hby d9_4) rfl ?_
    refine XS.aloadN X0.here hx rfl (hb hby d9_5) rfl rfl ?_
    show Steps p.tables e below (s₁.setTop (mkF m 6 #[.val (.ref a0s), .val (.ref a1s), .val (.int 0), .unset, .unset, .unset, .unset, .unset] [(.ref a0s), (.int 0)])) _
    refine st1.trans ?_
    show Steps p.tables e below (T1.setTop (mkF m 9 #[.val (.ref a0s), .val (.ref a1s), .val (.int 0), .unset, .unset, .unset, .unset, .unset] [(.int nl), (.int 0)])) _
    refine XS.aloadN X1.here hx rfl (hb hby d9_9) rfl rfl ?_
    show Steps p.tables e below (T1.setTop (mkF m 10 #[.val (.ref a0s), .val (.ref a1s), .val (.int 0), .unset, .unset, .unset, .unset, .unset] [(.ref a1s), (.int nl), (.int 0)])) _
    refine st2.trans ?_
    show Steps p.tables e below (T2.setTop (mkF m 13 #[.val (.ref a0s), .val (.ref a1s), .val (.int 0), .unset, .unset, .unset, .unset, .unset] [(.int 5), (.int nl), (.int 0)])) _
    refine XS.isub X2.here hx rfl (hb hby d9_13) rfl ?_
    refine XS.icmpNo X2.here hx rfl (hb hby d9_14) rfl (tlt hs).2.2.2 ?_
    refine XS.iconst X2.here hx rfl (hb hby d9_17) ?_
    show Steps p.tables e below (T2.setTop (mkF m 18 #[.val (.ref a0s), .val (.ref a1s), .val (.int 0), .unset, .unset, .unset, .unset, .unset] [(.int 0)])) _
    exact retN X2 hx (t := .boolean) Bd.returns (by simp) (hb hby d9_18) hr
  · show Q_rmS2sh n0 Z cS a0s a1s a0b k0 nl vs a2b k2 h0 _ T2.heap _
    rw [e2]
    exact ⟨rfl, N2, rfl⟩
theorem d8_0 : decode jdk_42_method_76_code 0 = .ok (.aload_n 0, 1) := by decide +kernel
theorem d8_1 : decode jdk_42_method_76_code 1 = .ok (.aload_n 1, 1) := by decide +kernel
theorem d8_2 : decode jdk_42_method_76_code 2 = .ok (.iconst 0, 1) := by decide +kernel
theorem d8_3 : decode jdk_42_method_76_code 3 = .ok (.invokevirtual 624, 3) := by decide +kernel
theorem pdv7 : parseMethodDescriptor "(Ljava/lang/String;I)Z" = some ⟨[(.object "java/lang/String"), .int], some .boolean⟩ := by decide +kernel
theorem d8_6 : decode jdk_42_method_76_code 6 = .ok (.ireturn, 1) := by decide +kernel
abbrev MN_11 : MethodName := ⟨"java/lang/String", "startsWith", "(Ljava/lang/String;)Z"⟩
theorem ef_rmS1sh (m : MethodId) (a0s : Addr) (a1s : Addr) : entryFrame m #[(.ref a0s), (.ref a1s)] 2 = mkF m 0 #[.val (.ref a0s), .val (.ref a1s)] [] := by first | (simp [entryFrame, mkF, argsToLocals, Value.category]; done) | rfl
def Q_rmS1sh (n0 : Nat) (Z : State) (cS : Int32) (a0s : Addr) (a1s : Addr) (a0b : Addr) (k0 : ClassId) (nl : Int32) (vs : List Value) (a2b : Addr) (k2 : ClassId) (h0 : Heap) (v : Option Value) (h : Heap) (L : List Loc) : Prop := v = some (.int 0) ∧ Fr n0 L ∧ h = h0
set_option maxRecDepth 65536 in
set_option maxHeartbeats 40000000 in
theorem rmS1sh (l : Launch) (Z : State) (a0 : Array Value) (hw : ∀ d ∈ tables_1, d.before a0 Z = true) (ws : List Jvm.Cond) (cS : Int32) (a0s : Addr) (a1s : Addr) (a0b : Addr) (k0 : ClassId) (nl : Int32) (vs : List Value) (a2b : Addr) (k2 : ClassId) (h0 : Heap) (n0 : Nat) (O0 : Old Z n0 h0) (GL : GF Z cS) (E_a0s : Exa Z h0 a0s "java/lang/String") (F_value_a0s : Fld Z h0 a0s "java/lang/String" "value" "[B" (.ref a0b)) (F_coder_a0s : Fld Z h0 a0s "java/lang/String" "coder" "B" (.int 0)) (V_a0b : Arv Z h0 a0b k0 .byte nl vs (.int 0)) (E_a1s : Exa Z h0 a1s "java/lang/String") (F_value_a1s : Fld Z h0 a1s "java/lang/String" "value" "[B" (.ref a2b)) (F_coder_a1s : Fld Z h0 a1s "java/lang/String" "coder" "B" (.int 0)) (V_a2b : Arv Z h0 a2b k2 .byte (5 : Int32) [(.int 106), (.int 97), (.int 118), (.int 97), (.int 46)] (.int 0)) (hs : (nl - (5 : Int32)) < (0 : Int32)) :
    MetFree l MN_11 (head1 (Jvm.Cond.code MN_11 jdk_42_method_76_code 2 (some .boolean) :: ws) ({ frames := 3, cells := 0, slots := 0, locals := 46 } : Room)) (fun a U => a = #[(.ref a0s), (.ref a1s)] ∧ Z.Warmed39 U.vm ∧ U.heap = h0) (fun _ _ _ _ _ => True) (fun _ U o U' => ∃ v L, o = .returned v ∧ Q_rmS1sh n0 Z cS a0s a1s a0b k0 nl vs a2b k2 h0 v U'.heap L ∧ FrameEnd U o U' L ({ frames := 3, cells := 0, slots := 0, locals := 46 } : Room).cells ({ frames := 3, cells := 0, slots := 0, locals := 46 } : Room).slots) := by
  refine MetFree.of_bodySF (plainFor_of_name pnv1) hisR ?_
  intro p e s m args below meth c s₁ Bd hml0 hP hK
  obtain ⟨rfl, hZ, hh⟩ := hP
  have hx := Bd.exec
  have hby := Bd.bytes
  have hml : c.maxLocals = 2 := hml0
  have hown : s.vm.findClass "java/lang/String" = some m.cls := findClass_of_methodNamed Bd.named
  have hnm := (name_of_methodNamed Bd.named Bd.method).1
  have X0 : Stand p l e ({ frames := 3, cells := 0, slots := 0, locals := 46 } : Room) s m #[(.ref a0s), (.ref a1s)] below meth c s₁ [] 0 0 := Stand.of_body Bd
  have e0 : s₁.heap = h0 := by rw [← hh, Bd.state]; rfl
  have N0 := Fr.nil n0
  have pre0 : ∀ t, Steps p.tables e below (s₁.setTop (mkF m 0 #[.val (.ref a0s), .val (.ref a1s)] [])) t → Steps p.tables e below (s₁.setTop (entryFrame m #[(.ref a0s), (.ref a1s)] 2)) t := fun t k => castTop (ef_rmS1sh m a0s a1s) k
  have GL' := GL
  obtain ⟨GCS, GCP⟩ := GL'
  obtain ⟨cq1, kq1, q1a, q1b, q1c⟩ := isOf hZ e0 E_a0s
  obtain ⟨_, _, ⟨T1, L1, k1, n1⟩, -, X1, ⟨Lc1, hQ1, l1, y1, z1⟩, st1⟩ := X0.virtualBack hx (y := MN_10) (z := MN_10) hown (mvT hZ (Wd hw 44 rfl)) (mvT hZ (Wd hw 45 rfl)) (notFace_of_selects (args := #[]) (mvT hZ (Wd hw 47 rfl))) (mvT hZ (Wd hw 47 rfl)) (mvT hZ (Wd hw 46 rfl)) (by decide) (backOf (W := 0) (rmS2sh l Z a0 hw [] cS (a0s) (a1s) (a0b) (k0) (nl) (vs) (a2b) (k2) (h0) n0 O0 GL E_a0s F_value_a0s F_coder_a0s V_a0b E_a1s F_value_a1s F_coder_a1s V_a2b hs) hZ (Wd hw 48 rfl) (Wd hw 11 rfl) (by decide) (by decide)) q1a q1c (g := (mkF m 3 #[.val (.ref a0s), .val (.ref a1s)] [(.int 0), (.ref a1s), (.ref a0s)])) rfl (by rw [hml]; rfl) (Steps.refl _) (argsL := [(.ref a1s), (.int 0)]) (rest := []) (lenOf pdv7 rfl) rfl (by show 2 * 0 + _ ≤ _; exact Nat.le_of_eq rfl) (hb hby d8_3) (fun _ _ => ⟨rfl, e0, (by decide : 0 + 0 ≤ _), (by decide : 0 + 0 ≤ _)⟩)
  dsimp only [Pt.U, Pt.locs, Pt.cells, Pt.slots] at X1 l1 y1 z1 st1 hQ1
  subst l1 y1 z1
  obtain ⟨rfl, N1q, e1⟩ := hQ1
  have N1 := Fr.app N0 N1q
  obtain ⟨fs, hr, hrun, hended, hW, hsame⟩ := X1.leave (v := some (.int 0)) (fun h => by rw [Bd.returns] at h; cases h)
  refine ⟨_, _, pre0 _ ?_, hrun, hended, _, _, rfl, ?_, ⟨_, rfl⟩, hW, hsame.mono (by decide) (by decide)⟩
  · show Steps p.tables e below (s₁.setTop (mkF m 0 #[.val (.ref a0s), .val (.ref a1s)] [])) _
    refine XS.aloadN X0.here hx rfl (hb hby d8_0) rfl rfl ?_
    refine XS.aloadN X0.here hx rfl (hb hby d8_1) rfl rfl ?_
    refine XS.iconst X0.here hx rfl (hb hby d8_2) ?_
    show Steps p.tables e below (s₁.setTop (mkF m 3 #[.val (.ref a0s), .val (.ref a1s)] [(.int 0), (.ref a1s), (.ref a0s)])) _
    refine st1.trans ?_
    show Steps p.tables e below (T1.setTop (mkF m 6 #[.val (.ref a0s), .val (.ref a1s)] [(.int 0)])) _
    exact retN X1 hx (t := .boolean) Bd.returns (by simp) (hb hby d8_6) hr
  · show Q_rmS1sh n0 Z cS a0s a1s a0b k0 nl vs a2b k2 h0 _ T1.heap _
    rw [e1]
    exact ⟨rfl, N1, rfl⟩
theorem d9_19 : decode jdk_42_method_75_code 19 = .ok (.aload_n 0, 1) := by decide +kernel
theorem d9_20 : decode jdk_42_method_75_code 20 = .ok (.getfield 9, 3) := by decide +kernel
theorem d9_23 : decode jdk_42_method_75_code 23 = .ok (.astore_n 3, 1) := by decide +kernel
theorem d9_24 : decode jdk_42_method_75_code 24 = .ok (.aload_n 1, 1) := by decide +kernel
theorem d9_25 : decode jdk_42_method_75_code 25 = .ok (.getfield 9, 3) := by decide +kernel
theorem d9_28 : decode jdk_42_method_75_code 28 = .ok (.astore 4, 2) := by decide +kernel
theorem d9_30 : decode jdk_42_method_75_code 30 = .ok (.iconst 0, 1) := by decide +kernel
theorem d9_31 : decode jdk_42_method_75_code 31 = .ok (.istore 5, 2) := by decide +kernel
theorem d9_33 : decode jdk_42_method_75_code 33 = .ok (.aload 4, 2) := by decide +kernel
theorem d9_35 : decode jdk_42_method_75_code 35 = .ok (.arraylength, 1) := by decide +kernel
theorem d9_36 : decode jdk_42_method_75_code 36 = .ok (.istore 6, 2) := by decide +kernel
theorem d9_38 : decode jdk_42_method_75_code 38 = .ok (.aload_n 0, 1) := by decide +kernel
theorem d9_39 : decode jdk_42_method_75_code 39 = .ok (.invokevirtual 335, 3) := by decide +kernel
theorem d9_42 : decode jdk_42_method_75_code 42 = .ok (.istore 7, 2) := by decide +kernel
theorem d9_44 : decode jdk_42_method_75_code 44 = .ok (.iload 7, 2) := by decide +kernel
theorem d9_46 : decode jdk_42_method_75_code 46 = .ok (.aload_n 1, 1) := by decide +kernel
theorem d9_47 : decode jdk_42_method_75_code 47 = .ok (.invokevirtual 335, 3) := by decide +kernel
theorem d9_50 : decode jdk_42_method_75_code 50 = .ok (.if_icmp .ne 32, 3) := by decide +kernel
theorem d9_53 : decode jdk_42_method_75_code 53 = .ok (.iload 7, 2) := by decide +kernel
theorem d9_55 : decode jdk_42_method_75_code 55 = .ok (.iconst 1, 1) := by decide +kernel
theorem d9_56 : decode jdk_42_method_75_code 56 = .ok (.if_icmp .ne 7, 3) := by decide +kernel
theorem d9_63 : decode jdk_42_method_75_code 63 = .ok (.aload_n 3, 1) := by decide +kernel
theorem d9_64 : decode jdk_42_method_75_code 64 = .ok (.iload_n 2, 1) := by decide +kernel
theorem d9_65 : decode jdk_42_method_75_code 65 = .ok (.aload 4, 2) := by decide +kernel
theorem d9_67 : decode jdk_42_method_75_code 67 = .ok (.iconst 0, 1) := by decide +kernel
theorem d9_68 : decode jdk_42_method_75_code 68 = .ok (.iload 6, 2) := by decide +kernel
theorem d9_70 : decode jdk_42_method_75_code 70 = .ok (.invokestatic 607, 3) := by decide +kernel
theorem pdv8 : parseMethodDescriptor "([BI[BII)I" = some ⟨[(.array .byte), .int, (.array .byte), .int, .int], some .int⟩ := by decide +kernel
theorem d9_73 : decode jdk_42_method_75_code 73 = .ok (.ifCond .ge 7, 3) := by decide +kernel
theorem d9_80 : decode jdk_42_method_75_code 80 = .ok (.iconst 0, 1) := by decide +kernel
theorem d9_81 : decode jdk_42_method_75_code 81 = .ok (.ireturn, 1) := by decide +kernel
def Q_rmS2F (n0 : Nat) (Z : State) (cS : Int32) (a0s : Addr) (a1s : Addr) (a0b : Addr) (k0 : ClassId) (nl : Int32) (vs : List Value) (a2b : Addr) (k2 : ClassId) (d0 : Int32) (d1 : Int32) (d2 : Int32) (d3 : Int32) (d4 : Int32) (h0 : Heap) (v : Option Value) (h : Heap) (L : List Loc) : Prop := v = some (.int 0) ∧ Fr n0 L ∧ h = h0
set_option maxRecDepth 65536 in
set_option maxHeartbeats 40000000 in
theorem rmS2F (l : Launch) (Z : State) (a0 : Array Value) (hw : ∀ d ∈ tables_1, d.before a0 Z = true) (ws : List Jvm.Cond) (cS : Int32) (a0s : Addr) (a1s : Addr) (a0b : Addr) (k0 : ClassId) (nl : Int32) (vs : List Value) (a2b : Addr) (k2 : ClassId) (d0 : Int32) (d1 : Int32) (d2 : Int32) (d3 : Int32) (d4 : Int32) (h0 : Heap) (n0 : Nat) (O0 : Old Z n0 h0) (GL : GF Z cS) (E_a0s : Exa Z h0 a0s "java/lang/String") (F_value_a0s : Fld Z h0 a0s "java/lang/String" "value" "[B" (.ref a0b)) (F_coder_a0s : Fld Z h0 a0s "java/lang/String" "coder" "B" (.int 0)) (V_a0b : Arv Z h0 a0b k0 .byte nl vs (.int 0)) (E_a1s : Exa Z h0 a1s "java/lang/String") (F_value_a1s : Fld Z h0 a1s "java/lang/String" "value" "[B" (.ref a2b)) (F_coder_a1s : Fld Z h0 a1s "java/lang/String" "coder" "B" (.int 0)) (V_a2b : Arv Z h0 a2b k2 .byte (5 : Int32) [(.int 106), (.int 97), (.int 118), (.int 97), (.int 46)] (.int 0)) (hs : ¬ ((nl - (5 : Int32)) < (0 : Int32))) (gA0 : vs.getD (0 : Int32).toNatClampNeg (.int 0) = .int (d0.toInt8.toInt32)) (yA0 : (0 : Int32) < nl) (lA0 : ¬ ((255 : Int32) < d0)) (nA0 : ¬ (d0 < (0 : Int32))) (gA1 : vs.getD (1 : Int32).toNatClampNeg (.int 0) = .int (d1.toInt8.toInt32)) (yA1 : (1 : Int32) < nl) (lA1 : ¬ ((255 : Int32) < d1)) (nA1 : ¬ (d1 < (0 : Int32))) (gA2 : vs.getD (2 : Int32).toNatClampNeg (.int 0) = .int (d2.toInt8.toInt32)) (yA2 : (2 : Int32) < nl) (lA2 : ¬ ((255 : Int32) < d2)) (nA2 : ¬ (d2 < (0 : Int32))) (gA3 : vs.getD (3 : Int32).toNatClampNeg (.int 0) = .int (d3.toInt8.toInt32)) (yA3 : (3 : Int32) < nl) (lA3 : ¬ ((255 : Int32) < d3)) (nA3 : ¬ (d3 < (0 : Int32))) (gA4 : vs.getD (4 : Int32).toNatClampNeg (.int 0) = .int (d4.toInt8.toInt32)) (yA4 : (4 : Int32) < nl) (lA4 : ¬ ((255 : Int32) < d4)) (nA4 : ¬ (d4 < (0 : Int32))) (hA : ¬ (d0 = (106 : Int32) ∧ d1 = (97 : Int32) ∧ d2 = (118 : Int32) ∧ d3 = (97 : Int32) ∧ d4 = (46 : Int32))) :
    MetFree l MN_10 (head1 (Jvm.Cond.code MN_10 jdk_42_method_75_code 8 (some .boolean) :: ws) ({ frames := 2, cells := 0, slots := 0, locals := 27 } : Room)) (fun a U => a = #[(.ref a0s), (.ref a1s), (.int 0)] ∧ Z.Warmed39 U.vm ∧ U.heap = h0) (fun _ _ _ _ _ => True) (fun _ U o U' => ∃ v L, o = .returned v ∧ Q_rmS2F n0 Z cS a0s a1s a0b k0 nl vs a2b k2 d0 d1 d2 d3 d4 h0 v U'.heap L ∧ FrameEnd U o U' L ({ frames := 2, cells := 0, slots := 0, locals := 27 } : Room).cells ({ frames := 2, cells := 0, slots := 0, locals := 27 } : Room).slots) := by
  refine MetFree.of_bodySF (plainFor_of_name pnv1) hisR ?_
  intro p e s m args below meth c s₁ Bd hml0 hP hK
  obtain ⟨rfl, hZ, hh⟩ := hP
  have hx := Bd.exec
  have hby := Bd.bytes
  have hml : c.maxLocals = 8 := hml0
  have hown : s.vm.findClass "java/lang/String" = some m.cls := findClass_of_methodNamed Bd.named
  have hnm := (name_of_methodNamed Bd.named Bd.method).1
  have X0 : Stand p l e ({ frames := 2, cells := 0, slots := 0, locals := 27 } : Room) s m #[(.ref a0s), (.ref a1s), (.int 0)] below meth c s₁ [] 0 0 := Stand.of_body Bd
  have e0 : s₁.heap = h0 := by rw [← hh, Bd.state]; rfl
  have N0 := Fr.nil n0
  have pre0 : ∀ t, Steps p.tables e below (s₁.setTop (mkF m 0 #[.val (.ref a0s), .val (.ref a1s), .val (.int 0), .unset, .unset, .unset, .unset, .unset] [])) t → Steps p.tables e below (s₁.setTop (entryFrame m #[(.ref a0s), (.ref a1s), (.int 0)] 8)) t := fun t k => castTop (ef_rmS2sh m a0s a1s) k
  have GL' := GL
  obtain ⟨GCS, GCP⟩ := GL'
  obtain ⟨cq1, kq1, q1a, q1b, q1c⟩ := isOf hZ e0 E_a0s
  obtain ⟨_, _, ⟨T1, L1, k1, n1⟩, -, X1, ⟨Lc1, hQ1, l1, y1, z1⟩, st1⟩ := X0.virtualBack hx (y := MN_6) (z := MN_6) hown (mvT hZ (Wd hw 49 rfl)) (mvT hZ (Wd hw 50 rfl)) (notFace_of_selects (args := #[]) (mvT hZ (Wd hw 52 rfl))) (mvT hZ (Wd hw 52 rfl)) (mvT hZ (Wd hw 51 rfl)) (by decide) (backOf (W := 1) (rmLen l Z a0 hw [] cS (a0s) (a0b) (k0) (nl) (vs) (h0) n0 O0 GL E_a0s F_value_a0s F_coder_a0s V_a0b) hZ (Wd hw 53 rfl) (Wd hw 11 rfl) (by decide) (by decide)) q1a q1c (g := (mkF m 6 #[.val (.ref a0s), .val (.ref a1s), .val (.int 0), .unset, .unset, .unset, .unset, .unset] [(.ref a0s), (.int 0)])) rfl (by rw [hml]; rfl) (Steps.refl _) (argsL := []) (rest := [(.int 0)]) (lenOf pdv6 rfl) rfl (by show 2 * 0 + _ ≤ _; exact Nat.le_of_eq rfl) (hb hby d9_6) (fun _ _ => ⟨rfl, e0, (by decide : 0 + 0 ≤ _), (by decide : 0 + 0 ≤ _)⟩)
  dsimp only [Pt.U, Pt.locs, Pt.cells, Pt.slots] at X1 l1 y1 z1 st1 hQ1
  subst l1 y1 z1
  obtain ⟨rfl, N1q, e1⟩ := hQ1
  have N1 := Fr.app N0 N1q
  obtain ⟨cq2, kq2, q2a, q2b, q2c⟩ := isOf hZ e1 E_a1s
  obtain ⟨_, _, ⟨T2, L2, k2, n2⟩, -, X2, ⟨Lc2, hQ2, l2, y2, z2⟩, st2⟩ := X1.virtualBack hx (y := MN_6) (z := MN_6) hown (mvT hZ (Wd hw 49 rfl)) (mvT hZ (Wd hw 50 rfl)) (notFace_of_selects (args := #[]) (mvT hZ (Wd hw 52 rfl))) (mvT hZ (Wd hw 52 rfl)) (mvT hZ (Wd hw 51 rfl)) (by decide) (backOf (W := 2) (rmLen l Z a0 hw [] cS (a1s) (a2b) (k2) ((5 : Int32)) ([(.int 106), (.int 97), (.int 118), (.int 97), (.int 46)]) (h0) n0 O0 GL E_a1s F_value_a1s F_coder_a1s V_a2b) hZ (Wd hw 53 rfl) (Wd hw 11 rfl) (by decide) (by decide)) q2a q2c (g := (mkF m 10 #[.val (.ref a0s), .val (.ref a1s), .val (.int 0), .unset, .unset, .unset, .unset, .unset] [(.ref a1s), (.int nl), (.int 0)])) rfl (by rw [hml]; rfl) (Steps.refl _) (argsL := []) (rest := [(.int nl), (.int 0)]) (lenOf pdv6 rfl) rfl (by show 2 * 0 + _ ≤ _; exact Nat.le_of_eq rfl) (hb hby d9_10) (fun _ _ => ⟨rfl, e1, (by decide : 0 + 0 ≤ _), (by decide : 0 + 0 ≤ _)⟩)
  dsimp only [Pt.U, Pt.locs, Pt.cells, Pt.slots] at X2 l2 y2 z2 st2 hQ2
  subst l2 y2 z2
  obtain ⟨rfl, N2q, e2⟩ := hQ2
  have N2 := Fr.app N1 N2q
  obtain ⟨T3, X3, e3, st3⟩ := getF X2 hx hZ hown (host := "") (Or.inl (Wd hw 28 rfl)) Via.refl e2 F_value_a0s (g := (mkF m 20 #[.val (.ref a0s), .val (.ref a1s), .val (.int 0), .unset, .unset, .unset, .unset, .unset] [(.ref a0s)])) rfl rfl (hb hby d9_20)
  obtain ⟨T4, X4, e4, st4⟩ := getF X3 hx hZ hown (host := "") (Or.inl (Wd hw 28 rfl)) Via.refl e3 F_value_a1s (g := (mkF m 25 #[.val (.ref a0s), .val (.ref a1s), .val (.int 0), .val (.ref a0b), .unset, .unset, .unset, .unset] [(.ref a1s)])) rfl rfl (hb hby d9_25)
  obtain ⟨cl5, Ar5, -, S5, N5_, -, -⟩ := id (V_a2b)
  obtain ⟨cq6, kq6, q6a, q6b, q6c⟩ := isOf hZ e4 E_a0s
  obtain ⟨_, _, ⟨T6, L6, k6, n6⟩, -, X6, ⟨Lc6, hQ6, l6, y6, z6⟩, st6⟩ := X4.virtualBack hx (y := MN_5) (z := MN_5) hown (mvT hZ (Wd hw 54 rfl)) (mvT hZ (Wd hw 55 rfl)) (notFace_of_selects (args := #[]) (mvT hZ (Wd hw 57 rfl))) (mvT hZ (Wd hw 57 rfl)) (mvT hZ (Wd hw 56 rfl)) (by decide) (backOf (W := 0) (rmCod l Z a0 hw [] cS (a0s) (h0) n0 O0 GL F_coder_a0s) hZ (Wd hw 58 rfl) (Wd hw 11 rfl) (by decide) (by decide)) q6a q6c (g := (mkF m 39 #[.val (.ref a0s), .val (.ref a1s), .val (.int 0), .val (.ref a0b), .val (.ref a2b), .val (.int 0), .val (.int 5), .unset] [(.ref a0s)])) rfl (by rw [hml]; rfl) (Steps.refl _) (argsL := []) (rest := []) (lenOf pdv4 rfl) rfl (by show 2 * 0 + _ ≤ _; exact Nat.le_of_eq rfl) (hb hby d9_39) (fun _ _ => ⟨rfl, e4, (by decide : 0 + 0 ≤ _), (by decide : 0 + 0 ≤ _)⟩)
  dsimp only [Pt.U, Pt.locs, Pt.cells, Pt.slots] at X6 l6 y6 z6 st6 hQ6
  subst l6 y6 z6
  obtain ⟨rfl, N6q, e6⟩ := hQ6
  have N6 := Fr.app N2 N6q
  obtain ⟨cq7, kq7, q7a, q7b, q7c⟩ := isOf hZ e6 E_a1s
  obtain ⟨_, _, ⟨T7, L7, k7, n7⟩, -, X7, ⟨Lc7, hQ7, l7, y7, z7⟩, st7⟩ := X6.virtualBack hx (y := MN_5) (z := MN_5) hown (mvT hZ (Wd hw 54 rfl)) (mvT hZ (Wd hw 55 rfl)) (notFace_of_selects (args := #[]) (mvT hZ (Wd hw 57 rfl))) (mvT hZ (Wd hw 57 rfl)) (mvT hZ (Wd hw 56 rfl)) (by decide) (backOf (W := 1) (rmCod l Z a0 hw [] cS (a1s) (h0) n0 O0 GL F_coder_a1s) hZ (Wd hw 58 rfl) (Wd hw 11 rfl) (by decide) (by decide)) q7a q7c (g := (mkF m 47 #[.val (.ref a0s), .val (.ref a1s), .val (.int 0), .val (.ref a0b), .val (.ref a2b), .val (.int 0), .val (.int 5), .val (.int 0)] [(.ref a1s), (.int 0)])) rfl (by rw [hml]; rfl) (Steps.refl _) (argsL := []) (rest := [(.int 0)]) (lenOf pdv4 rfl) rfl (by show 2 * 0 + _ ≤ _; exact Nat.le_of_eq rfl) (hb hby d9_47) (fun _ _ => ⟨rfl, e6, (by decide : 0 + 0 ≤ _), (by decide : 0 + 0 ≤ _)⟩)
  dsimp only [Pt.U, Pt.locs, Pt.cells, Pt.slots] at X7 l7 y7 z7 st7 hQ7
  subst l7 y7 z7
  obtain ⟨rfl, N7q, e7⟩ := hQ7
  have N7 := Fr.app N6 N7q
  obtain ⟨_, _, ⟨T8, L8, k8, n8⟩, -, X8, ⟨Lc8, hQ8, l8, y8, z8⟩, st8⟩ := Jvm.LawKit.callS X7 hx (y := MN_9) hown (mvT hZ (Wd hw 85 rfl)) (mvT hZ (Wd hw 86 rfl)) (mvT hZ (Wd hw 87 rfl)) (mvT hZ (Wd hw 88 rfl)) (by decide) (backOf (W := 0) (rmMm l Z a0 hw [] cS (a0b) (a2b) (k0) (nl) (vs) (k2) (d0) (d1) (d2) (d3) (d4) (h0) n0 O0 GL V_a0b V_a2b gA0 yA0 lA0 nA0 gA1 yA1 lA1 nA1 gA2 yA2 lA2 nA2 gA3 yA3 lA3 nA3 gA4 yA4 lA4 nA4 hA) hZ (Wd hw 88 rfl) (Wd hw 87 rfl) (by decide) (by decide)) (g := (mkF m 70 #[.val (.ref a0s), .val (.ref a1s), .val (.int 0), .val (.ref a0b), .val (.ref a2b), .val (.int 0), .val (.int 5), .val (.int 0)] [(.int 5), (.int 0), (.ref a2b), (.int 0), (.ref a0b)])) rfl (by rw [hml]; rfl) (argsL := [(.ref a0b), (.int 0), (.ref a2b), (.int 0), (.int 5)]) (rest := []) (lenOf pdv8 rfl) rfl (by show 2 * 0 + _ ≤ _; exact Nat.le_of_eq rfl) (hb hby d9_70) (fun _ _ => ⟨rfl, e7, (by decide : 0 + 0 ≤ _), (by decide : 0 + 0 ≤ _)⟩)
  dsimp only [Pt.U, Pt.locs, Pt.cells, Pt.slots] at X8 l8 y8 z8 st8 hQ8
  subst l8 y8 z8
  obtain ⟨r_8, rfl, N8q, e8, P8_0⟩ := hQ8
  have N8 := Fr.app N7 N8q
  obtain ⟨fs, hr, hrun, hended, hW, hsame⟩ := X8.leave (v := some (.int 0)) (fun h => by rw [Bd.returns] at h; cases h)
  refine ⟨_, _, pre0 _ ?_, hrun, hended, _, _, rfl, ?_, ⟨_, rfl⟩, hW, hsame.mono (by decide) (by decide)⟩
  · show Steps p.tables e below (s₁.setTop (mkF m 0 #[.val (.ref a0s), .val (.ref a1s), .val (.int 0), .unset, .unset, .unset, .unset, .unset] [])) _
    refine XS.iloadN X0.here hx rfl (hb hby d9_0) rfl ?_
    refine XS.ifNo X0.here hx rfl (hb hby d9_1) rfl ((if0 _ _).trans (flt (by decide : ¬ ((0 : Int32) < (0 : Int32)))).1) ?_
    refine XS.iloadN X0.here hx rfl (hb hby d9_4) rfl ?_
    refine XS.aloadN X0.here hx rfl (hb hby d9_5) rfl rfl ?_
    show Steps p.tables e below (s₁.setTop (mkF m 6 #[.val (.ref a0s), .val (.ref a1s), .val (.int 0), .unset, .unset, .unset, .unset, .unset] [(.ref a0s), (.int 0)])) _
    refine st1.trans ?_
    show Steps p.tables e below (T1.setTop (mkF m 9 #[.val (.ref a0s), .val (.ref a1s), .val (.int 0), .unset, .unset, .unset, .unset, .unset] [(.int nl), (.int 0)])) _
    refine XS.aloadN X1.here hx rfl (hb hby d9_9) rfl rfl ?_
    show Steps p.tables e below (T1.setTop (mkF m 10 #[.val (.ref a0s), .val (.ref a1s), .val (.int 0), .unset, .unset, .unset, .unset, .unset] [(.ref a1s), (.int nl), (.int 0)])) _
    refine st2.trans ?_
    show Steps p.tables e below (T2.setTop (mkF m 13 #[.val (.ref a0s), .val (.ref a1s), .val (.int 0), .unset, .unset, .unset, .unset, .unset] [(.int 5), (.int nl), (.int 0)])) _
    refine XS.isub X2.here hx rfl (hb hby d9_13) rfl ?_
    refine XS.icmpYes X2.here hx rfl (pc0 := 14) (pc' := 19) rfl (hb hby d9_14) rfl (flt hs).2.2.2 (by decide) (by decide) ?_
    refine XS.aloadN X2.here hx rfl (hb hby d9_19) rfl rfl ?_
    show Steps p.tables e below (T2.setTop (mkF m 20 #[.val (.ref a0s), .val (.ref a1s), .val (.int 0), .unset, .unset, .unset, .unset, .unset] [(.ref a0s)])) _
    refine st3 _ ?_
    show Steps p.tables e below (T3.setTop (mkF m 23 #[.val (.ref a0s), .val (.ref a1s), .val (.int 0), .unset, .unset, .unset, .unset, .unset] [(.ref a0b)])) _
    refine XS.astoreN X3.here hx rfl (hb hby d9_23) rfl rfl (l' := #[.val (.ref a0s), .val (.ref a1s), .val (.int 0), .val (.ref a0b), .unset, .unset, .unset, .unset]) rfl ?_
    refine XS.aloadN X3.here hx rfl (hb hby d9_24) rfl rfl ?_
    show Steps p.tables e below (T3.setTop (mkF m 25 #[.val (.ref a0s), .val (.ref a1s), .val (.int 0), .val (.ref a0b), .unset, .unset, .unset, .unset] [(.ref a1s)])) _
    refine st4 _ ?_
    show Steps p.tables e below (T4.setTop (mkF m 28 #[.val (.ref a0s), .val (.ref a1s), .val (.int 0), .val (.ref a0b), .unset, .unset, .unset, .unset] [(.ref a2b)])) _
    refine XS.astore X4.here hx rfl (hb hby d9_28) rfl rfl (l' := #[.val (.ref a0s), .val (.ref a1s), .val (.int 0), .val (.ref a0b), .val (.ref a2b), .unset, .unset, .unset]) rfl ?_
    refine XS.iconst X4.here hx rfl (hb hby d9_30) ?_
    refine XS.istore X4.here hx rfl (hb hby d9_31) rfl (l' := #[.val (.ref a0s), .val (.ref a1s), .val (.int 0), .val (.ref a0b), .val (.ref a2b), .val (.int 0), .unset, .unset]) rfl ?_
    refine XS.aload X4.here hx rfl (hb hby d9_33) rfl rfl ?_
    show Steps p.tables e below (T4.setTop (mkF m 35 #[.val (.ref a0s), .val (.ref a1s), .val (.int 0), .val (.ref a0b), .val (.ref a2b), .val (.int 0), .unset, .unset] [(.ref a2b)])) _
    refine X4.arraylength hx (by rw [e4]; exact Ar5.1) (State.isArrayOf_alike hZ.alike Ar5.2.1) (g := (mkF m 35 #[.val (.ref a0s), .val (.ref a1s), .val (.int 0), .val (.ref a0b), .val (.ref a2b), .val (.int 0), .unset, .unset] [(.ref a2b)])) rfl rfl (hb hby d9_35) _ ?_
    rw [len_of S5 N5_]
    show Steps p.tables e below (T4.setTop (mkF m 36 #[.val (.ref a0s), .val (.ref a1s), .val (.int 0), .val (.ref a0b), .val (.ref a2b), .val (.int 0), .unset, .unset] [(.int 5)])) _
    refine XS.istore X4.here hx rfl (hb hby d9_36) rfl (l' := #[.val (.ref a0s), .val (.ref a1s), .val (.int 0), .val (.ref a0b), .val (.ref a2b), .val (.int 0), .val (.int 5), .unset]) rfl ?_
    refine XS.aloadN X4.here hx rfl (hb hby d9_38) rfl rfl ?_
    show Steps p.tables e below (T4.setTop (mkF m 39 #[.val (.ref a0s), .val (.ref a1s), .val (.int 0), .val (.ref a0b), .val (.ref a2b), .val (.int 0), .val (.int 5), .unset] [(.ref a0s)])) _
    refine st6.trans ?_
    show Steps p.tables e below (T6.setTop (mkF m 42 #[.val (.ref a0s), .val (.ref a1s), .val (.int 0), .val (.ref a0b), .val (.ref a2b), .val (.int 0), .val (.int 5), .unset] [(.int 0)])) _
    refine XS.istore X6.here hx rfl (hb hby d9_42) rfl (l' := #[.val (.ref a0s), .val (.ref a1s), .val (.int 0), .val (.ref a0b), .val (.ref a2b), .val (.int 0), .val (.int 5), .val (.int 0)]) rfl ?_
    refine XS.iload X6.here hx rfl (hb hby d9_44) rfl ?_
    refine XS.aloadN X6.here hx rfl (hb hby d9_46) rfl rfl ?_
    show Steps p.tables e below (T6.setTop (mkF m 47 #[.val (.ref a0s), .val (.ref a1s), .val (.int 0), .val (.ref a0b), .val (.ref a2b), .val (.int 0), .val (.int 5), .val (.int 0)] [(.ref a1s), (.int 0)])) _
    refine st7.trans ?_
    show Steps p.tables e below (T7.setTop (mkF m 50 #[.val (.ref a0s), .val (.ref a1s), .val (.int 0), .val (.ref a0b), .val (.ref a2b), .val (.int 0), .val (.int 5), .val (.int 0)] [(.int 0), (.int 0)])) _
    refine XS.icmpNo X7.here hx rfl (hb hby d9_50) rfl (teq (by decide : (0 : Int32) = (0 : Int32))).2 ?_
    refine XS.iload X7.here hx rfl (hb hby d9_53) rfl ?_
    refine XS.iconst X7.here hx rfl (hb hby d9_55) ?_
    refine XS.icmpYes X7.here hx rfl (pc0 := 56) (pc' := 63) rfl (hb hby d9_56) rfl (feq (by decide : ¬ ((0 : Int32) = (1 : Int32)))).2 (by decide) (by decide) ?_
    show Steps p.tables e below (T7.setTop (mkF m 63 #[.val (.ref a0s), .val (.ref a1s), .val (.int 0), .val (.ref a0b), .val (.ref a2b), .val (.int 0), .val (.int 5), .val (.int 0)] [])) _
    refine XS.aloadN X7.here hx rfl (hb hby d9_63) rfl rfl ?_
    refine XS.iloadN X7.here hx rfl (hb hby d9_64) rfl ?_
    refine XS.aload X7.here hx rfl (hb hby d9_65) rfl rfl ?_
    refine XS.iconst X7.here hx rfl (hb hby d9_67) ?_
    show Steps p.tables e below (T7.setTop (mkF m 68 #[.val (.ref a0s), .val (.ref a1s), .val (.int 0), .val (.ref a0b), .val (.ref a2b), .val (.int 0), .val (.int 5), .val (.int 0)] [(.int 0), (.ref a2b), (.int 0), (.ref a0b)])) _
    refine XS.iload X7.here hx rfl (hb hby d9_68) rfl ?_
    show Steps p.tables e below (T7.setTop (mkF m 70 #[.val (.ref a0s), .val (.ref a1s), .val (.int 0), .val (.ref a0b), .val (.ref a2b), .val (.int 0), .val (.int 5), .val (.int 0)] [(.int 5), (.int 0), (.ref a2b), (.int 0), (.ref a0b)])) _
    refine st8 _ ?_
    show Steps p.tables e below (T8.setTop (mkF m 73 #[.val (.ref a0s), .val (.ref a1s), .val (.int 0), .val (.ref a0b), .val (.ref a2b), .val (.int 0), .val (.int 5), .val (.int 0)] [(.int r_8)])) _
    refine XS.ifYes X8.here hx rfl (pc0 := 73) (pc' := 80) rfl (hb hby d9_73) rfl ((if0 _ _).trans (flt P8_0).2.1) (by decide) (by decide) ?_
    refine XS.iconst X8.here hx rfl (hb hby d9_80) ?_
    show Steps p.tables e below (T8.setTop (mkF m 81 #[.val (.ref a0s), .val (.ref a1s), .val (.int 0), .val (.ref a0b), .val (.ref a2b), .val (.int 0), .val (.int 5), .val (.int 0)] [(.int 0)])) _
    exact retN X8 hx (t := .boolean) Bd.returns (by simp) (hb hby d9_81) hr
  · show Q_rmS2F n0 Z cS a0s a1s a0b k0 nl vs a2b k2 d0 d1 d2 d3 d4 h0 _ T8.heap _
    rw [e8]
    exact ⟨rfl, N8, rfl⟩
def Q_rmS1F (n0 : Nat) (Z : State) (cS : Int32) (a0s : Addr) (a1s : Addr) (a0b : Addr) (k0 : ClassId) (nl : Int32) (vs : List Value) (a2b : Addr) (k2 : ClassId) (d0 : Int32) (d1 : Int32) (d2 : Int32) (d3 : Int32) (d4 : Int32) (h0 : Heap) (v : Option Value) (h : Heap) (L : List Loc) : Prop := v = some (.int 0) ∧ Fr n0 L ∧ h = h0
set_option maxRecDepth 65536 in
set_option maxHeartbeats 40000000 in
theorem rmS1F (l : Launch) (Z : State) (a0 : Array Value) (hw : ∀ d ∈ tables_1, d.before a0 Z = true) (ws : List Jvm.Cond) (cS : Int32) (a0s : Addr) (a1s : Addr) (a0b : Addr) (k0 : ClassId) (nl : Int32) (vs : List Value) (a2b : Addr) (k2 : ClassId) (d0 : Int32) (d1 : Int32) (d2 : Int32) (d3 : Int32) (d4 : Int32) (h0 : Heap) (n0 : Nat) (O0 : Old Z n0 h0) (GL : GF Z cS) (E_a0s : Exa Z h0 a0s "java/lang/String") (F_value_a0s : Fld Z h0 a0s "java/lang/String" "value" "[B" (.ref a0b)) (F_coder_a0s : Fld Z h0 a0s "java/lang/String" "coder" "B" (.int 0)) (V_a0b : Arv Z h0 a0b k0 .byte nl vs (.int 0)) (E_a1s : Exa Z h0 a1s "java/lang/String") (F_value_a1s : Fld Z h0 a1s "java/lang/String" "value" "[B" (.ref a2b)) (F_coder_a1s : Fld Z h0 a1s "java/lang/String" "coder" "B" (.int 0)) (V_a2b : Arv Z h0 a2b k2 .byte (5 : Int32) [(.int 106), (.int 97), (.int 118), (.int 97), (.int 46)] (.int 0)) (hs : ¬ ((nl - (5 : Int32)) < (0 : Int32))) (gA0 : vs.getD (0 : Int32).toNatClampNeg (.int 0) = .int (d0.toInt8.toInt32)) (yA0 : (0 : Int32) < nl) (lA0 : ¬ ((255 : Int32) < d0)) (nA0 : ¬ (d0 < (0 : Int32))) (gA1 : vs.getD (1 : Int32).toNatClampNeg (.int 0) = .int (d1.toInt8.toInt32)) (yA1 : (1 : Int32) < nl) (lA1 : ¬ ((255 : Int32) < d1)) (nA1 : ¬ (d1 < (0 : Int32))) (gA2 : vs.getD (2 : Int32).toNatClampNeg (.int 0) = .int (d2.toInt8.toInt32)) (yA2 : (2 : Int32) < nl) (lA2 : ¬ ((255 : Int32) < d2)) (nA2 : ¬ (d2 < (0 : Int32))) (gA3 : vs.getD (3 : Int32).toNatClampNeg (.int 0) = .int (d3.toInt8.toInt32)) (yA3 : (3 : Int32) < nl) (lA3 : ¬ ((255 : Int32) < d3)) (nA3 : ¬ (d3 < (0 : Int32))) (gA4 : vs.getD (4 : Int32).toNatClampNeg (.int 0) = .int (d4.toInt8.toInt32)) (yA4 : (4 : Int32) < nl) (lA4 : ¬ ((255 : Int32) < d4)) (nA4 : ¬ (d4 < (0 : Int32))) (hA : ¬ (d0 = (106 : Int32) ∧ d1 = (97 : Int32) ∧ d2 = (118 : Int32) ∧ d3 = (97 : Int32) ∧ d4 = (46 : Int32))) :
    MetFree l MN_11 (head1 (Jvm.Cond.code MN_11 jdk_42_method_76_code 2 (some .boolean) :: ws) ({ frames := 3, cells := 0, slots := 0, locals := 46 } : Room)) (fun a U => a = #[(.ref a0s), (.ref a1s)] ∧ Z.Warmed39 U.vm ∧ U.heap = h0) (fun _ _ _ _ _ => True) (fun _ U o U' => ∃ v L, o = .returned v ∧ Q_rmS1F n0 Z cS a0s a1s a0b k0 nl vs a2b k2 d0 d1 d2 d3 d4 h0 v U'.heap L ∧ FrameEnd U o U' L ({ frames := 3, cells := 0, slots := 0, locals := 46 } : Room).cells ({ frames := 3, cells := 0, slots := 0, locals := 46 } : Room).slots) := by
  refine MetFree.of_bodySF (plainFor_of_name pnv1) hisR ?_
  intro p e s m args below meth c s₁ Bd hml0 hP hK
  obtain ⟨rfl, hZ, hh⟩ := hP
  have hx := Bd.exec
  have hby := Bd.bytes
  have hml : c.maxLocals = 2 := hml0
  have hown : s.vm.findClass "java/lang/String" = some m.cls := findClass_of_methodNamed Bd.named
  have hnm := (name_of_methodNamed Bd.named Bd.method).1
  have X0 : Stand p l e ({ frames := 3, cells := 0, slots := 0, locals := 46 } : Room) s m #[(.ref a0s), (.ref a1s)] below meth c s₁ [] 0 0 := Stand.of_body Bd
  have e0 : s₁.heap = h0 := by rw [← hh, Bd.state]; rfl
  have N0 := Fr.nil n0
  have pre0 : ∀ t, Steps p.tables e below (s₁.setTop (mkF m 0 #[.val (.ref a0s), .val (.ref a1s)] [])) t → Steps p.tables e below (s₁.setTop (entryFrame m #[(.ref a0s), (.ref a1s)] 2)) t := fun t k => castTop (ef_rmS1sh m a0s a1s) k
  have GL' := GL
  obtain ⟨GCS, GCP⟩ := GL'
  obtain ⟨cq1, kq1, q1a, q1b, q1c⟩ := isOf hZ e0 E_a0s
  obtain ⟨_, _, ⟨T1, L1, k1, n1⟩, -, X1, ⟨Lc1, hQ1, l1, y1, z1⟩, st1⟩ := X0.virtualBack hx (y := MN_10) (z := MN_10) hown (mvT hZ (Wd hw 44 rfl)) (mvT hZ (Wd hw 45 rfl)) (notFace_of_selects (args := #[]) (mvT hZ (Wd hw 47 rfl))) (mvT hZ (Wd hw 47 rfl)) (mvT hZ (Wd hw 46 rfl)) (by decide) (backOf (W := 0) (rmS2F l Z a0 hw [] cS (a0s) (a1s) (a0b) (k0) (nl) (vs) (a2b) (k2) (d0) (d1) (d2) (d3) (d4) (h0) n0 O0 GL E_a0s F_value_a0s F_coder_a0s V_a0b E_a1s F_value_a1s F_coder_a1s V_a2b hs gA0 yA0 lA0 nA0 gA1 yA1 lA1 nA1 gA2 yA2 lA2 nA2 gA3 yA3 lA3 nA3 gA4 yA4 lA4 nA4 hA) hZ (Wd hw 48 rfl) (Wd hw 11 rfl) (by decide) (by decide)) q1a q1c (g := (mkF m 3 #[.val (.ref a0s), .val (.ref a1s)] [(.int 0), (.ref a1s), (.ref a0s)])) rfl (by rw [hml]; rfl) (Steps.refl _) (argsL := [(.ref a1s), (.int 0)]) (rest := []) (lenOf pdv7 rfl) rfl (by show 2 * 0 + _ ≤ _; exact Nat.le_of_eq rfl) (hb hby d8_3) (fun _ _ => ⟨rfl, e0, (by decide : 0 + 0 ≤ _), (by decide : 0 + 0 ≤ _)⟩)
  dsimp only [Pt.U, Pt.locs, Pt.cells, Pt.slots] at X1 l1 y1 z1 st1 hQ1
  subst l1 y1 z1
  obtain ⟨rfl, N1q, e1⟩ := hQ1
  have N1 := Fr.app N0 N1q
  obtain ⟨fs, hr, hrun, hended, hW, hsame⟩ := X1.leave (v := some (.int 0)) (fun h => by rw [Bd.returns] at h; cases h)
  refine ⟨_, _, pre0 _ ?_, hrun, hended, _, _, rfl, ?_, ⟨_, rfl⟩, hW, hsame.mono (by decide) (by decide)⟩
  · show Steps p.tables e below (s₁.setTop (mkF m 0 #[.val (.ref a0s), .val (.ref a1s)] [])) _
    refine XS.aloadN X0.here hx rfl (hb hby d8_0) rfl rfl ?_
    refine XS.aloadN X0.here hx rfl (hb hby d8_1) rfl rfl ?_
    refine XS.iconst X0.here hx rfl (hb hby d8_2) ?_
    show Steps p.tables e below (s₁.setTop (mkF m 3 #[.val (.ref a0s), .val (.ref a1s)] [(.int 0), (.ref a1s), (.ref a0s)])) _
    refine st1.trans ?_
    show Steps p.tables e below (T1.setTop (mkF m 6 #[.val (.ref a0s), .val (.ref a1s)] [(.int 0)])) _
    exact retN X1 hx (t := .boolean) Bd.returns (by simp) (hb hby d8_6) hr
  · show Q_rmS1F n0 Z cS a0s a1s a0b k0 nl vs a2b k2 d0 d1 d2 d3 d4 h0 _ T1.heap _
    rw [e1]
    exact ⟨rfl, N1, rfl⟩
theorem d7_0 : decode prog_7_method_2_code 0 = .ok (.aload_n 0, 1) := by decide +kernel
theorem d7_1 : decode prog_7_method_2_code 1 = .ok (.ldc 9, 2) := by decide +kernel
theorem d7_3 : decode prog_7_method_2_code 3 = .ok (.invokevirtual 11, 3) := by decide +kernel
theorem pdv9 : parseMethodDescriptor "(Ljava/lang/String;)Z" = some ⟨[(.object "java/lang/String")], some .boolean⟩ := by decide +kernel
theorem d7_6 : decode prog_7_method_2_code 6 = .ok (.ireturn, 1) := by decide +kernel
theorem pnv4 : plainName "com/example/loomwire/loomwire/bundle/JavaPackages" = true := by first | (simp [plainName, overriddenIn]; done) | decide +kernel
abbrev MN_12 : MethodName := ⟨"com/example/loomwire/loomwire/bundle/JavaPackages", "contains", "(Ljava/lang/String;)Z"⟩
def Q_rmCt (n0 : Nat) (Z : State) (cS : Int32) (a0s : Addr) (a0b : Addr) (k0 : ClassId) (nl : Int32) (vs : List Value) (h0 : Heap) (v : Option Value) (h : Heap) (L : List Loc) : Prop := v = some (.int 0) ∧ Fr n0 L ∧ Keep h0 h []
set_option maxRecDepth 65536 in
set_option maxHeartbeats 40000000 in
theorem rmCt (l : Launch) (Z : State) (a0 : Array Value) (hw : ∀ d ∈ tables_1, d.before a0 Z = true) (ws : List Jvm.Cond) (cS : Int32) (a0s : Addr) (a0b : Addr) (k0 : ClassId) (nl : Int32) (vs : List Value) (h0 : Heap) (n0 : Nat) (O0 : Old Z n0 h0) (GL : GF Z cS) (E_a0s : Exa Z h0 a0s "java/lang/String") (F_value_a0s : Fld Z h0 a0s "java/lang/String" "value" "[B" (.ref a0b)) (F_coder_a0s : Fld Z h0 a0s "java/lang/String" "coder" "B" (.int 0)) (V_a0b : Arv Z h0 a0b k0 .byte nl vs (.int 0)) (hR : Rfs nl vs) :
    MetFree l MN_12 (head1 (Jvm.Cond.code MN_12 prog_7_method_2_code 1 (some .boolean) :: ws) ({ frames := 4, cells := 2, slots := 24, locals := 59 } : Room)) (fun a U => a = #[(.ref a0s)] ∧ Z.Warmed39 U.vm ∧ U.heap = h0 ∧ CHv Z EL1 U.vm h0) (fun _ _ _ _ _ => True) (fun _ U o U' => ∃ v L, o = .returned v ∧ Q_rmCt n0 Z cS a0s a0b k0 nl vs h0 v U'.heap L ∧ CHr Z EL1 U.vm U.heap U'.vm U'.heap ∧ ReturnedEndW U o U' L ({ frames := 4, cells := 2, slots := 24, locals := 59 } : Room).cells ({ frames := 4, cells := 2, slots := 24, locals := 59 } : Room).slots) := by
  refine MetFree.of_bodySF (plainFor_of_name pnv4) hisR ?_
  intro p e s m args below meth c s₁ Bd hml0 hP hK
  obtain ⟨rfl, hZ, hh, H0⟩ := hP
  have hx := Bd.exec
  have hby := Bd.bytes
  have hml : c.maxLocals = 1 := hml0
  have hown : s.vm.findClass "com/example/loomwire/loomwire/bundle/JavaPackages" = some m.cls := findClass_of_methodNamed Bd.named
  have hnm := (name_of_methodNamed Bd.named Bd.method).1
  have X0 : Stand p l e ({ frames := 4, cells := 2, slots := 24, locals := 59 } : Room) s m #[(.ref a0s)] below meth c s₁ [] 0 0 := Stand.of_body Bd
  have e0 : s₁.heap = h0 := by rw [← hh, Bd.state]; rfl
  have N0 := Fr.nil n0
  have pre0 : ∀ t, Steps p.tables e below (s₁.setTop (mkF m 0 #[.val (.ref a0s)] [])) t → Steps p.tables e below (s₁.setTop (entryFrame m #[(.ref a0s)] 1)) t := fun t k => castTop (ef_rmCod m a0s) k
  have X0w : Stand p l e ({ frames := 4, cells := 2, slots := 24, locals := 59 } : Room) (s.setVm s.vm) m #[(.ref a0s)] below meth c s₁ [] 0 0 := X0
  have R0 : CHr Z EL1 s.vm h0 s.vm h0 := CHr.refl H0
  have hS0 : s.Since s.vm h0.size := (State.WarmedH.refl s).since _
  have GL' := GL
  obtain ⟨GCS, GCP⟩ := GL'
  obtain ⟨a1, T1, h1, k11, b1, kc1, X1, e1, E1, hS1, hk1, hZ1, hown1, A1, Fc1, Fv1, V1, la1, lb1, Rs1, Li1, nel1, st1⟩ := ldcCH X0w hx hZ hown (Wd hw 38 rfl) (own_wS hw) e0 hS0 (Nat.le_refl _) (own_EW hw) (List.mem_of_getElem? (i := 0) rfl) H0 (vs := [(.int 106), (.int 97), (.int 118), (.int 97), (.int 46)]) (z := (5 : Int32)) ⟨by decide, by decide⟩ (by decide) rfl (g := (mkF m 1 #[.val (.ref a0s)] [(.ref a0s)])) rfl (hb hby d7_1) (n := 20) (by decide) (by decide) (by decide) (by decide)
  have H_2 := Rs1.1
  have R_2 := R0.trans Rs1
  have K1 : Keep h0 h1 [] := (Keep.refl h0 []).ext E1
  have O1 := O0.ext E1
  have pre3 : ∀ t, Steps p.tables e below (T1.setTop (mkF m 3 #[.val (.ref a0s)] [(.ref a1), (.ref a0s)])) t → Steps p.tables e below (s₁.setTop (entryFrame m #[(.ref a0s)] 1)) t := fun t kt => by
    refine pre0 t ?_
    show Steps p.tables e below (s₁.setTop (mkF m 0 #[.val (.ref a0s)] [])) _
    refine XS.aloadN X0w.here hx rfl (hb hby d7_0) rfl rfl ?_
    show Steps p.tables e below (s₁.setTop (mkF m 1 #[.val (.ref a0s)] [(.ref a0s)])) _
    refine st1 _ ?_
    exact kt
  rcases hR with hs | ⟨hs, d0, d1, d2, d3, d4, gA0, yA0, lA0, nA0, gA1, yA1, lA1, nA1, gA2, yA2, lA2, nA2, gA3, yA3, lA3, nA3, gA4, yA4, lA4, nA4, hA⟩
  · obtain ⟨cq4, kq4, q4a, q4b, q4c⟩ := isOf hZ1 e1 (E_a0s.ext E1)
    obtain ⟨_, _, ⟨T4, L4, k4, n4⟩, -, X4, ⟨Lc4, hQ4, l4, y4, z4⟩, st4⟩ := X1.virtualBack hx (y := MN_11) (z := MN_11) hown1 (mvT hZ1 (Wd hw 39 rfl)) (mvT hZ1 (Wd hw 40 rfl)) (notFace_of_selects (args := #[]) (mvT hZ1 (Wd hw 42 rfl))) (mvT hZ1 (Wd hw 42 rfl)) (mvT hZ1 (Wd hw 41 rfl)) (by decide) (backOf (W := 0) (rmS1sh l Z a0 hw [] cS (a0s) (a1) (a0b) (k0) (nl) (vs) (b1) (kc1) (h1) n0 O1 GL (E_a0s.ext E1) (F_value_a0s.ext E1) (F_coder_a0s.ext E1) (V_a0b.ext E1) A1 Fv1 Fc1 V1 hs) hZ1 (Wd hw 43 rfl) (Wd hw 11 rfl) (by decide) (by decide)) q4a q4c (g := (mkF m 3 #[.val (.ref a0s)] [(.ref a1), (.ref a0s)])) rfl (by rw [hml]; rfl) (Steps.refl _) (argsL := [(.ref a1)]) (rest := []) (lenOf pdv9 rfl) rfl (by show 2 * 0 + _ ≤ _; exact Nat.le_of_eq rfl) (hb hby d7_3) (fun _ _ => ⟨rfl, e1, (by decide : 2 + 0 ≤ _), (by decide : 24 + 0 ≤ _)⟩)
    dsimp only [Pt.U, Pt.locs, Pt.cells, Pt.slots] at X4 l4 y4 z4 st4 hQ4
    subst l4 y4 z4
    obtain ⟨rfl, N4q, e4⟩ := hQ4
    have N4 := Fr.app N0 N4q
    obtain ⟨fs, hr, hrun, hended, hRW⟩ := X4.leaveW hS1 (by rw [e4]; exact hk1) (v := some (.int 0)) (fun h => by rw [Bd.returns] at h; cases h)
    have hCR : CHr Z EL1 s.vm s.heap T4.vm T4.heap := by
      rw [hh, e4]
      exact R_2.trans (CHv.at X4 hZ1 (own_EW hw) H_2)
    refine ⟨_, _, pre3 _ ?_, hrun, hended, _, _, rfl, ?_, hCR, hRW.1, hRW.2.1, hRW.2.2.1, hRW.2.2.2.mono (by decide) (by decide)⟩
    · show Steps p.tables e below (T1.setTop (mkF m 3 #[.val (.ref a0s)] [(.ref a1), (.ref a0s)])) _
      refine st4.trans ?_
      show Steps p.tables e below (T4.setTop (mkF m 6 #[.val (.ref a0s)] [(.int 0)])) _
      exact retN X4 hx (t := .boolean) Bd.returns (by simp) (hb hby d7_6) hr
    · show Q_rmCt n0 Z cS a0s a0b k0 nl vs h0 _ T4.heap _
      rw [e4]
      exact ⟨rfl, N4, K1⟩
  · obtain ⟨cq5, kq5, q5a, q5b, q5c⟩ := isOf hZ1 e1 (E_a0s.ext E1)
    obtain ⟨_, _, ⟨T5, L5, k5, n5⟩, -, X5, ⟨Lc5, hQ5, l5, y5, z5⟩, st5⟩ := X1.virtualBack hx (y := MN_11) (z := MN_11) hown1 (mvT hZ1 (Wd hw 39 rfl)) (mvT hZ1 (Wd hw 40 rfl)) (notFace_of_selects (args := #[]) (mvT hZ1 (Wd hw 42 rfl))) (mvT hZ1 (Wd hw 42 rfl)) (mvT hZ1 (Wd hw 41 rfl)) (by decide) (backOf (W := 0) (rmS1F l Z a0 hw [] cS (a0s) (a1) (a0b) (k0) (nl) (vs) (b1) (kc1) (d0) (d1) (d2) (d3) (d4) (h1) n0 O1 GL (E_a0s.ext E1) (F_value_a0s.ext E1) (F_coder_a0s.ext E1) (V_a0b.ext E1) A1 Fv1 Fc1 V1 hs gA0 yA0 lA0 nA0 gA1 yA1 lA1 nA1 gA2 yA2 lA2 nA2 gA3 yA3 lA3 nA3 gA4 yA4 lA4 nA4 hA) hZ1 (Wd hw 43 rfl) (Wd hw 11 rfl) (by decide) (by decide)) q5a q5c (g := (mkF m 3 #[.val (.ref a0s)] [(.ref a1), (.ref a0s)])) rfl (by rw [hml]; rfl) (Steps.refl _) (argsL := [(.ref a1)]) (rest := []) (lenOf pdv9 rfl) rfl (by show 2 * 0 + _ ≤ _; exact Nat.le_of_eq rfl) (hb hby d7_3) (fun _ _ => ⟨rfl, e1, (by decide : 2 + 0 ≤ _), (by decide : 24 + 0 ≤ _)⟩)
    dsimp only [Pt.U, Pt.locs, Pt.cells, Pt.slots] at X5 l5 y5 z5 st5 hQ5
    subst l5 y5 z5
    obtain ⟨rfl, N5q, e5⟩ := hQ5
    have N5 := Fr.app N0 N5q
    obtain ⟨fs, hr, hrun, hended, hRW⟩ := X5.leaveW hS1 (by rw [e5]; exact hk1) (v := some (.int 0)) (fun h => by rw [Bd.returns] at h; cases h)
    have hCR : CHr Z EL1 s.vm s.heap T5.vm T5.heap := by
      rw [hh, e5]
      exact R_2.trans (CHv.at X5 hZ1 (own_EW hw) H_2)
    refine ⟨_, _, pre3 _ ?_, hrun, hended, _, _, rfl, ?_, hCR, hRW.1, hRW.2.1, hRW.2.2.1, hRW.2.2.2.mono (by decide) (by decide)⟩
    · show Steps p.tables e below (T1.setTop (mkF m 3 #[.val (.ref a0s)] [(.ref a1), (.ref a0s)])) _
      refine st5.trans ?_
      show Steps p.tables e below (T5.setTop (mkF m 6 #[.val (.ref a0s)] [(.int 0)])) _
      exact retN X5 hx (t := .boolean) Bd.returns (by simp) (hb hby d7_6) hr
    · show Q_rmCt n0 Z cS a0s a0b k0 nl vs h0 _ T5.heap _
      rw [e5]
      exact ⟨rfl, N5, K1⟩
theorem d6_0 : decode prog_7_method_3_code 0 = .ok (.aload_n 0, 1) := by decide +kernel
theorem d6_1 : decode prog_7_method_3_code 1 = .ok (.invokestatic 17, 3) := by decide +kernel
theorem d6_4 : decode prog_7_method_3_code 4 = .ok (.ifCond .eq 21, 3) := by decide +kernel
theorem d6_25 : decode prog_7_method_3_code 25 = .ok (.return_, 1) := by decide +kernel
abbrev MN_13 : MethodName := ⟨"com/example/loomwire/loomwire/bundle/JavaPackages", "refuse", "(Ljava/lang/String;Ljava/lang/String;)V"⟩
theorem ef_rmRf (m : MethodId) (a0s : Addr) (ah : Addr) : entryFrame m #[(.ref a0s), (.ref ah)] 2 = mkF m 0 #[.val (.ref a0s), .val (.ref ah)] [] := by first | (simp [entryFrame, mkF, argsToLocals, Value.category]; done) | rfl
def Q_rmRf (n0 : Nat) (Z : State) (cS : Int32) (a0s : Addr) (ah : Addr) (a0b : Addr) (k0 : ClassId) (nl : Int32) (vs : List Value) (h0 : Heap) (v : Option Value) (h : Heap) (L : List Loc) : Prop := v = none ∧ Fr n0 L ∧ Keep h0 h []
set_option maxRecDepth 65536 in
set_option maxHeartbeats 40000000 in
theorem rmRf (l : Launch) (Z : State) (a0 : Array Value) (hw : ∀ d ∈ tables_1, d.before a0 Z = true) (ws : List Jvm.Cond) (cS : Int32) (a0s : Addr) (ah : Addr) (a0b : Addr) (k0 : ClassId) (nl : Int32) (vs : List Value) (h0 : Heap) (n0 : Nat) (O0 : Old Z n0 h0) (GL : GF Z cS) (E_a0s : Exa Z h0 a0s "java/lang/String") (F_value_a0s : Fld Z h0 a0s "java/lang/String" "value" "[B" (.ref a0b)) (F_coder_a0s : Fld Z h0 a0s "java/lang/String" "coder" "B" (.int 0)) (V_a0b : Arv Z h0 a0b k0 .byte nl vs (.int 0)) (hR : Rfs nl vs) :
    MetFree l MN_13 (head1 (Jvm.Cond.code MN_13 prog_7_method_3_code 2 none :: ws) ({ frames := 5, cells := 2, slots := 24, locals := 71 } : Room)) (fun a U => a = #[(.ref a0s), (.ref ah)] ∧ Z.Warmed39 U.vm ∧ U.heap = h0 ∧ CHv Z EL1 U.vm h0) (fun _ _ _ _ _ => True) (fun _ U o U' => ∃ v L, o = .returned v ∧ Q_rmRf n0 Z cS a0s ah a0b k0 nl vs h0 v U'.heap L ∧ CHr Z EL1 U.vm U.heap U'.vm U'.heap ∧ ReturnedEndW U o U' L ({ frames := 5, cells := 2, slots := 24, locals := 71 } : Room).cells ({ frames := 5, cells := 2, slots := 24, locals := 71 } : Room).slots) := by
  refine MetFree.of_bodySF (plainFor_of_name pnv4) hisR ?_
  intro p e s m args below meth c s₁ Bd hml0 hP hK
  obtain ⟨rfl, hZ, hh, H0⟩ := hP
  have hx := Bd.exec
  have hby := Bd.bytes
  have hml : c.maxLocals = 2 := hml0
  have hown : s.vm.findClass "com/example/loomwire/loomwire/bundle/JavaPackages" = some m.cls := findClass_of_methodNamed Bd.named
  have hnm := (name_of_methodNamed Bd.named Bd.method).1
  have X0 : Stand p l e ({ frames := 5, cells := 2, slots := 24, locals := 71 } : Room) s m #[(.ref a0s), (.ref ah)] below meth c s₁ [] 0 0 := Stand.of_body Bd
  have e0 : s₁.heap = h0 := by rw [← hh, Bd.state]; rfl
  have N0 := Fr.nil n0
  have pre0 : ∀ t, Steps p.tables e below (s₁.setTop (mkF m 0 #[.val (.ref a0s), .val (.ref ah)] [])) t → Steps p.tables e below (s₁.setTop (entryFrame m #[(.ref a0s), (.ref ah)] 2)) t := fun t k => castTop (ef_rmRf m a0s ah) k
  have X0w : Stand p l e ({ frames := 5, cells := 2, slots := 24, locals := 71 } : Room) (s.setVm s.vm) m #[(.ref a0s), (.ref ah)] below meth c s₁ [] 0 0 := X0
  have R0 : CHr Z EL1 s.vm h0 s.vm h0 := CHr.refl H0
  have hS0 : s.Since s.vm h0.size := (State.WarmedH.refl s).since _
  have GL' := GL
  obtain ⟨GCS, GCP⟩ := GL'
  obtain ⟨_, _, ⟨T1, L1, k1, n1⟩, -, X1', hS1', hg1, ⟨Lc1, hQ1, l1, y1, z1, Rs1⟩, st1⟩ := callSS X0w hx (y := MN_12) hown (mvT hZ (Wd hw 35 rfl)) (mvT hZ (Wd hw 36 rfl)) (mvT hZ (Wd hw 33 rfl)) (mvT hZ (Wd hw 37 rfl)) (by decide) (backOfSH (W := 0) (rmCt l Z a0 hw [] cS (a0s) (a0b) (k0) (nl) (vs) (h0) n0 O0 GL E_a0s F_value_a0s F_coder_a0s V_a0b hR) hZ (Wd hw 37 rfl) (Wd hw 33 rfl) (by decide) (by decide) (own_EW hw) H0) (g := (mkF m 1 #[.val (.ref a0s), .val (.ref ah)] [(.ref a0s)])) rfl (by rw [hml]; rfl) (argsL := [(.ref a0s)]) (rest := []) (lenOf pdv9 rfl) rfl (by show 2 * 0 + _ ≤ _; exact Nat.le_of_eq rfl) (hb hby d6_1) (fun _ _ => ⟨rfl, e0, (by decide : 0 + 2 ≤ _), (by decide : 0 + 24 ≤ _)⟩)
  dsimp only [Pt.U, Pt.locs, Pt.cells, Pt.slots] at X1' l1 y1 z1 st1 hQ1 hS1' hg1 Rs1
  subst l1 y1 z1
  obtain ⟨X1, hS1, hZ1, hown1⟩ := rebS hS0 (by rw [e0]; exact (Nat.le_refl _)) X1' hS1' hg1 hZ hown
  obtain ⟨rfl, N1q, Kc1⟩ := hQ1
  have K1 : Keep h0 T1.heap [] := (Keep.refl h0 []).trans Kc1 all0
  have O1 := O0.keep Kc1 all0
  have H_2 := Rs1.1
  have R_2 := R0.trans Rs1
  have N1 := Fr.app N0 N1q
  obtain ⟨fs, hr, hrun, hended, hRW⟩ := X1.leaveW hS1 (Nat.le_refl _) (v := none) (fun _ => rfl)
  have hCR : CHr Z EL1 s.vm s.heap T1.vm T1.heap := by
    rw [hh]
    exact R_2.trans (CHv.at X1 hZ1 (own_EW hw) H_2)
  refine ⟨_, _, pre0 _ ?_, hrun, hended, _, _, rfl, ?_, hCR, hRW.1, hRW.2.1, hRW.2.2.1, hRW.2.2.2.mono (by decide) (by decide)⟩
  · show Steps p.tables e below (s₁.setTop (mkF m 0 #[.val (.ref a0s), .val (.ref ah)] [])) _
    refine XS.aloadN X0w.here hx rfl (hb hby d6_0) rfl rfl ?_
    show Steps p.tables e below (s₁.setTop (mkF m 1 #[.val (.ref a0s), .val (.ref ah)] [(.ref a0s)])) _
    refine st1.trans ?_
    show Steps p.tables e below (T1.setTop (mkF m 4 #[.val (.ref a0s), .val (.ref ah)] [(.int 0)])) _
    refine XS.ifYes X1.here hx rfl (pc0 := 4) (pc' := 25) rfl (hb hby d6_4) rfl ((if0 _ _).trans (teq (by decide : (0 : Int32) = (0 : Int32))).1) (by decide) (by decide) ?_
    show Steps p.tables e below (T1.setTop (mkF m 25 #[.val (.ref a0s), .val (.ref ah)] [])) _
    exact X1.returnOut hx Bd.returns (hb hby d6_25) hr
  · show Q_rmRf n0 Z cS a0s ah a0b k0 nl vs h0 _ T1.heap _
    exact ⟨rfl, N1, K1⟩
theorem d13_0 : decode jdk_43_method_3_code 0 = .ok (.iload_n 0, 1) := by decide +kernel
theorem d13_1 : decode jdk_43_method_3_code 1 = .ok (.sipush 255, 3) := by decide +kernel
theorem d13_4 : decode jdk_43_method_3_code 4 = .ok (.if_icmp .gt 7, 3) := by decide +kernel
theorem d13_7 : decode jdk_43_method_3_code 7 = .ok (.iconst 1, 1) := by decide +kernel
theorem d13_8 : decode jdk_43_method_3_code 8 = .ok (.goto 4, 3) := by decide +kernel
theorem d13_12 : decode jdk_43_method_3_code 12 = .ok (.ireturn, 1) := by decide +kernel
theorem pnv5 : plainName "java/lang/StringLatin1" = true := by first | (simp [plainName, overriddenIn]; done) | decide +kernel
abbrev MN_14 : MethodName := ⟨"java/lang/StringLatin1", "canEncode", "(C)Z"⟩
theorem ef_rmCe (m : MethodId) (p0 : Int32) : entryFrame m #[(.int p0)] 1 = mkF m 0 #[.val (.int p0)] [] := by first | (simp [entryFrame, mkF, argsToLocals, Value.category]; done) | rfl
def Q_rmCe (n0 : Nat) (Z : State) (cS : Int32) (p0 : Int32) (h0 : Heap) (v : Option Value) (h : Heap) (L : List Loc) : Prop := v = some (.int 1) ∧ Fr n0 L ∧ h = h0
set_option maxRecDepth 65536 in
set_option maxHeartbeats 40000000 in
theorem rmCe (l : Launch) (Z : State) (a0 : Array Value) (hw : ∀ d ∈ tables_1, d.before a0 Z = true) (ws : List Jvm.Cond) (cS : Int32) (p0 : Int32) (h0 : Heap) (n0 : Nat) (O0 : Old Z n0 h0) (GL : GF Z cS) (h : ¬ ((255 : Int32) < p0)) :
    MetFree l MN_14 (head1 (Jvm.Cond.code MN_14 jdk_43_method_3_code 1 (some .boolean) :: ws) ({ frames := 0, cells := 0, slots := 0, locals := 0 } : Room)) (fun a U => a = #[(.int p0)] ∧ Z.Warmed39 U.vm ∧ U.heap = h0) (fun _ _ _ _ _ => True) (fun _ U o U' => ∃ v L, o = .returned v ∧ Q_rmCe n0 Z cS p0 h0 v U'.heap L ∧ FrameEnd U o U' L ({ frames := 0, cells := 0, slots := 0, locals := 0 } : Room).cells ({ frames := 0, cells := 0, slots := 0, locals := 0 } : Room).slots) := by
  refine MetFree.of_bodySF (plainFor_of_name pnv5) hisR ?_
  intro p e s m args below meth c s₁ Bd hml0 hP hK
  obtain ⟨rfl, hZ, hh⟩ := hP
  have hx := Bd.exec
  have hby := Bd.bytes
  have hml : c.maxLocals = 1 := hml0
  have hown : s.vm.findClass "java/lang/StringLatin1" = some m.cls := findClass_of_methodNamed Bd.named
  have hnm := (name_of_methodNamed Bd.named Bd.method).1
  have X0 : Stand p l e ({ frames := 0, cells := 0, slots := 0, locals := 0 } : Room) s m #[(.int p0)] below meth c s₁ [] 0 0 := Stand.of_body Bd
  have e0 : s₁.heap = h0 := by rw [← hh, Bd.state]; rfl
  have N0 := Fr.nil n0
  have pre0 : ∀ t, Steps p.tables e below (s₁.setTop (mkF m 0 #[.val (.int p0)] [])) t → Steps p.tables e below (s₁.setTop (entryFrame m #[(.int p0)] 1)) t := fun t k => castTop (ef_rmCe m p0) k
  have GL' := GL
  obtain ⟨GCS, GCP⟩ := GL'
  obtain ⟨fs, hr, hrun, hended, hW, hsame⟩ := X0.leave (v := some (.int 1)) (fun h => by rw [Bd.returns] at h; cases h)
  refine ⟨_, _, pre0 _ ?_, hrun, hended, _, _, rfl, ?_, ⟨_, rfl⟩, hW, hsame.mono (by decide) (by decide)⟩
  · show Steps p.tables e below (s₁.setTop (mkF m 0 #[.val (.int p0)] [])) _
    refine XS.iloadN X0.here hx rfl (hb hby d13_0) rfl ?_
    refine XS.sipush X0.here hx rfl (hb hby d13_1) ?_
    refine XS.icmpNo X0.here hx rfl (hb hby d13_4) rfl (flt h).2.2.1 ?_
    refine XS.iconst X0.here hx rfl (hb hby d13_7) ?_
    show Steps p.tables e below (s₁.setTop (mkF m 8 #[.val (.int p0)] [(.int 1)])) _
    refine XS.goto X0.here hx rfl (pc0 := 8) (pc' := 12) rfl (hb hby d13_8) (by decide) (by decide) ?_
    show Steps p.tables e below (s₁.setTop (mkF m 12 #[.val (.int p0)] [(.int 1)])) _
    exact retN X0 hx (t := .boolean) Bd.returns (by simp) (hb hby d13_12) hr
  · show Q_rmCe n0 Z cS p0 h0 _ s₁.heap _
    rw [e0]
    exact ⟨rfl, N0, rfl⟩
theorem d14_0 : decode jdk_43_method_46_code 0 = .ok (.iconst 1, 1) := by decide +kernel
theorem d14_1 : decode jdk_43_method_46_code 1 = .ok (.newarray .byte, 2) := by decide +kernel
theorem d14_3 : decode jdk_43_method_46_code 3 = .ok (.dup, 1) := by decide +kernel
theorem d14_4 : decode jdk_43_method_46_code 4 = .ok (.iconst 0, 1) := by decide +kernel
theorem d14_5 : decode jdk_43_method_46_code 5 = .ok (.iload_n 0, 1) := by decide +kernel
theorem d14_6 : decode jdk_43_method_46_code 6 = .ok (.i2b, 1) := by decide +kernel
theorem d14_7 : decode jdk_43_method_46_code 7 = .ok (.bastore, 1) := by decide +kernel
theorem d14_8 : decode jdk_43_method_46_code 8 = .ok (.areturn, 1) := by decide +kernel
abbrev MN_15 : MethodName := ⟨"java/lang/StringLatin1", "toBytes", "(C)[B"⟩
def Q_rmTb (n0 : Nat) (Z : State) (cS : Int32) (p0 : Int32) (h0 : Heap) (v : Option Value) (h : Heap) (L : List Loc) : Prop := ∃ b : Addr, v = some (.ref b) ∧ Fr n0 L ∧ Keep h0 h [] ∧ (h0.size ≤ b) ∧ (Exa Z h b "[B")
set_option maxRecDepth 65536 in
set_option maxHeartbeats 40000000 in
theorem rmTb (l : Launch) (Z : State) (a0 : Array Value) (hw : ∀ d ∈ tables_1, d.before a0 Z = true) (ws : List Jvm.Cond) (cS : Int32) (p0 : Int32) (h0 : Heap) (n0 : Nat) (O0 : Old Z n0 h0) (GL : GF Z cS) :
    MetFree l MN_15 (head1 (Jvm.Cond.code MN_15 jdk_43_method_46_code 1 (some (.array .byte)) :: ws) ({ frames := 0, cells := 1, slots := 1, locals := 0 } : Room)) (fun a U => a = #[(.int p0)] ∧ Z.Warmed39 U.vm ∧ U.heap = h0) (fun _ _ _ _ _ => True) (fun _ U o U' => ∃ v L, o = .returned v ∧ Q_rmTb n0 Z cS p0 h0 v U'.heap L ∧ FrameEnd U o U' L ({ frames := 0, cells := 1, slots := 1, locals := 0 } : Room).cells ({ frames := 0, cells := 1, slots := 1, locals := 0 } : Room).slots) := by
  refine MetFree.of_bodySF (plainFor_of_name pnv5) hisR ?_
  intro p e s m args below meth c s₁ Bd hml0 hP hK
  obtain ⟨rfl, hZ, hh⟩ := hP
  have hx := Bd.exec
  have hby := Bd.bytes
  have hml : c.maxLocals = 1 := hml0
  have hown : s.vm.findClass "java/lang/StringLatin1" = some m.cls := findClass_of_methodNamed Bd.named
  have hnm := (name_of_methodNamed Bd.named Bd.method).1
  have X0 : Stand p l e ({ frames := 0, cells := 1, slots := 1, locals := 0 } : Room) s m #[(.int p0)] below meth c s₁ [] 0 0 := Stand.of_body Bd
  have e0 : s₁.heap = h0 := by rw [← hh, Bd.state]; rfl
  have N0 := Fr.nil n0
  have pre0 : ∀ t, Steps p.tables e below (s₁.setTop (mkF m 0 #[.val (.int p0)] [])) t → Steps p.tables e below (s₁.setTop (entryFrame m #[(.int p0)] 1)) t := fun t k => castTop (ef_rmCe m p0) k
  have GL' := GL
  obtain ⟨GCS, GCP⟩ := GL'
  obtain ⟨T1, h1, k1, X1, e1, E1, A1, A1', st1⟩ := newPE X0 hx hZ (Wd hw 23 rfl) e0 (g := (mkF m 1 #[.val (.int p0)] [(.int 1)])) rfl (hb hby d14_1) rfl (by decide) (cap := 1) (by decide) (by decide) (by decide) (by decide) (ad := "[B") rfl
  obtain ⟨b1, g1⟩ : ∃ z, z = h0.size := ⟨_, rfl⟩
  rw [← g1] at A1 A1' st1
  have g_b1 : n0 ≤ b1 := Nat.le_trans (own_sz O0) (Nat.le_of_eq g1.symm)
  have sz_b1 : h0.size ≤ b1 := Nat.le_trans (Keep.refl h0 []).1 (Nat.le_of_eq g1.symm)
  have K1 : Keep h0 h1 [] := (Keep.refl h0 []).ext E1
  have O1 := O0.ext E1
  have V_b1 : Arv Z h1 b1 k1 .byte (1 : Int32) [(.int 0)] (.int 0) := (Arv.new A1 (by decide)).pad (pad_rep [] (.int 0) 1)
  obtain ⟨cl2, Ar2, q2, S2, N2_, H2, G2⟩ := id (V_b1)
  have hin2 : ¬ ((0 : Int32) < 0 ∨ cl2.slots.size ≤ ((0 : Int32)).toNatClampNeg) := inb_of S2 ⟨(by decide), (by decide)⟩
  obtain ⟨T2, h2, X2, e2, W2, st2⟩ := stB X1 hx hZ e1 Ar2 (j := (0 : Int32)) hin2 (g := (mkF m 7 #[.val (.int p0)] [(.int (p0.toInt8.toInt32)), (.int 0), (.ref b1), (.ref b1)])) rfl rfl (hb hby d14_7)
  have K2 : Keep h0 h2 [] := K1.wr W2 (Or.inr sz_b1)
  have O2 := O1.wr W2 g_b1
  have N2 := Fr.snoc X2 N0 g_b1
  have V2' : Arv Z h2 b1 k1 .byte (1 : Int32) [(.int ((p0.toInt8.toInt32)).toInt8.toInt32)] (.int 0) := Arv.set Ar2 q2 S2 N2_ H2 G2 (fits_nar_byte _) W2 0 rfl (Nat.le_of_ble_eq_true rfl)
  have V2 : Arv Z h2 b1 k1 .byte (1 : Int32) [(.int (p0.toInt8.toInt32))] (.int 0) := by
    rw [own_b2 p0] at V2'
    exact V2'
  obtain ⟨fs, hr, hrun, hended, hW, hsame⟩ := X2.leave (v := some (.ref b1)) (fun h => by rw [Bd.returns] at h; cases h)
  refine ⟨_, _, pre0 _ ?_, hrun, hended, _, _, rfl, ?_, ⟨_, rfl⟩, hW, hsame.mono (by decide) (by decide)⟩
  · show Steps p.tables e below (s₁.setTop (mkF m 0 #[.val (.int p0)] [])) _
    refine XS.iconst X0.here hx rfl (hb hby d14_0) ?_
    show Steps p.tables e below (s₁.setTop (mkF m 1 #[.val (.int p0)] [(.int 1)])) _
    refine st1 _ ?_
    show Steps p.tables e below (T1.setTop (mkF m 3 #[.val (.int p0)] [(.ref b1)])) _
    refine XS.dup X1.here hx rfl (hb hby d14_3) rfl rfl ?_
    refine XS.iconst X1.here hx rfl (hb hby d14_4) ?_
    refine XS.iloadN X1.here hx rfl (hb hby d14_5) rfl ?_
    refine XS.i2b X1.here hx rfl (hb hby d14_6) rfl ?_
    show Steps p.tables e below (T1.setTop (mkF m 7 #[.val (.int p0)] [(.int (p0.toInt8.toInt32)), (.int 0), (.ref b1), (.ref b1)])) _
    refine st2 _ ?_
    show Steps p.tables e below (T2.setTop (mkF m 8 #[.val (.int p0)] [(.ref b1)])) _
    jvm_step X2.here [X2.here.top, hx, (hb hby d14_8), X2.method', Bd.returns, Value.isRef, FieldType.isReference]
    first | (intro acts; rw [hr _ acts rfl rfl rfl]) | rw [hr _ _ rfl rfl rfl]
    exact Steps.refl _
  · show Q_rmTb n0 Z cS p0 h0 _ T2.heap _
    rw [e2]
    exact ⟨b1, rfl, N2, K2, sz_b1, (A1'.wr W2)⟩
theorem d15_0 : decode jdk_42_method_151_code 0 = .ok (.aload_n 0, 1) := by decide +kernel
theorem d15_1 : decode jdk_42_method_151_code 1 = .ok (.invokespecial 1, 3) := by decide +kernel
theorem d15_4 : decode jdk_42_method_151_code 4 = .ok (.aload_n 0, 1) := by decide +kernel
theorem d15_5 : decode jdk_42_method_151_code 5 = .ok (.aload_n 1, 1) := by decide +kernel
theorem d15_6 : decode jdk_42_method_151_code 6 = .ok (.putfield 9, 3) := by decide +kernel
theorem d15_9 : decode jdk_42_method_151_code 9 = .ok (.aload_n 0, 1) := by decide +kernel
theorem d15_10 : decode jdk_42_method_151_code 10 = .ok (.iload_n 2, 1) := by decide +kernel
theorem d15_11 : decode jdk_42_method_151_code 11 = .ok (.putfield 15, 3) := by decide +kernel
theorem d15_14 : decode jdk_42_method_151_code 14 = .ok (.return_, 1) := by decide +kernel
abbrev MN_16 : MethodName := ⟨"java/lang/String", "<init>", "([BB)V"⟩
theorem ef_rmIb (m : MethodId) (a0s : Addr) (a1b : Addr) : entryFrame m #[(.ref a0s), (.ref a1b), (.int 0)] 3 = mkF m 0 #[.val (.ref a0s), .val (.ref a1b), .val (.int 0)] [] := by first | (simp [entryFrame, mkF, argsToLocals, Value.category]; done) | rfl
def Q_rmIb (n0 : Nat) (Z : State) (cS : Int32) (a0s : Addr) (a1b : Addr) (h0 : Heap) (v : Option Value) (h : Heap) (L : List Loc) : Prop := v = none ∧ Fr n0 L ∧ Keep h0 h [a0s] ∧ (Exa Z h a0s "java/lang/String")
set_option maxRecDepth 65536 in
set_option maxHeartbeats 40000000 in
theorem rmIb (l : Launch) (Z : State) (a0 : Array Value) (hw : ∀ d ∈ tables_1, d.before a0 Z = true) (ws : List Jvm.Cond) (cS : Int32) (a0s : Addr) (a1b : Addr) (h0 : Heap) (n0 : Nat) (O0 : Old Z n0 h0) (GL : GF Z cS) (E_a0s : Exa Z h0 a0s "java/lang/String") (F_value_a0s : Fld Z h0 a0s "java/lang/String" "value" "[B" .null) (F_coder_a0s : Fld Z h0 a0s "java/lang/String" "coder" "B" (.int 0)) (g_a0s : n0 ≤ a0s) :
    MetFree l MN_16 (head1 (Jvm.Cond.code MN_16 jdk_42_method_151_code 3 none :: ws) ({ frames := 1, cells := 0, slots := 0, locals := 12 } : Room)) (fun a U => a = #[(.ref a0s), (.ref a1b), (.int 0)] ∧ Z.Warmed39 U.vm ∧ U.heap = h0) (fun _ _ _ _ _ => True) (fun _ U o U' => ∃ v L, o = .returned v ∧ Q_rmIb n0 Z cS a0s a1b h0 v U'.heap L ∧ FrameEnd U o U' L ({ frames := 1, cells := 0, slots := 0, locals := 12 } : Room).cells ({ frames := 1, cells := 0, slots := 0, locals := 12 } : Room).slots) := by
  refine MetFree.of_bodySF (plainFor_of_name pnv1) hisR ?_
  intro p e s m args below meth c s₁ Bd hml0 hP hK
  obtain ⟨rfl, hZ, hh⟩ := hP
  have hx := Bd.exec
  have hby := Bd.bytes
  have hml : c.maxLocals = 3 := hml0
  have hown : s.vm.findClass "java/lang/String" = some m.cls := findClass_of_methodNamed Bd.named
  have hnm := (name_of_methodNamed Bd.named Bd.method).1
  have X0 : Stand p l e ({ frames := 1, cells := 0, slots := 0, locals := 12 } : Room) s m #[(.ref a0s), (.ref a1b), (.int 0)] below meth c s₁ [] 0 0 := Stand.of_body Bd
  have e0 : s₁.heap = h0 := by rw [← hh, Bd.state]; rfl
  have N0 := Fr.nil n0
  have pre0 : ∀ t, Steps p.tables e below (s₁.setTop (mkF m 0 #[.val (.ref a0s), .val (.ref a1b), .val (.int 0)] [])) t → Steps p.tables e below (s₁.setTop (entryFrame m #[(.ref a0s), (.ref a1b), (.int 0)] 3)) t := fun t k => castTop (ef_rmIb m a0s a1b) k
  have GL' := GL
  obtain ⟨GCS, GCP⟩ := GL'
  obtain ⟨T1, X1, e1, st1⟩ := initO X0 hx hZ hown (Wd hw 19 rfl) (Wd hw 20 rfl) (Wd hw 21 rfl) e0 (g := (mkF m 1 #[.val (.ref a0s), .val (.ref a1b), .val (.int 0)] [(.ref a0s)])) rfl (by rw [hml]; rfl) rfl (hb hby d15_1) (by decide) (W := 0) (by show 2 * 0 + _ ≤ _; exact Nat.le_of_eq rfl) (by decide)
  obtain ⟨T2, h2, X2, e2, W2, st2⟩ := putF X1 hx hZ hown (host := "") (Or.inl (Wd hw 28 rfl)) Via.refl e1 F_value_a0s E_a0s (Or.inr ⟨(Wd hw 24 rfl), rfl, hnm⟩) (Wd hw 10 rfl) (ty := (.array .byte)) (by decide) rfl rfl (g := (mkF m 6 #[.val (.ref a0s), .val (.ref a1b), .val (.int 0)] [(.ref a1b), (.ref a0s)])) rfl rfl (hb hby d15_6)
  have Fw2 := F_value_a0s.same W2
  have K2 : Keep h0 h2 [a0s] := (Keep.refl h0 [a0s]).wr W2 (Or.inl (List.mem_of_getElem? (i := 0) rfl))
  have O2 := O0.wr W2 g_a0s
  have N2 := Fr.snoc X2 N0 g_a0s
  obtain ⟨T3, h3, X3, e3, W3, st3⟩ := putFN X2 hx hZ hown (Wd hw 29 rfl) Via.refl e2 (F_coder_a0s.other W2 (Or.inr (slot_ne (a0 := a0) (Or.inr (Wd hw 25 rfl)) (Or.inr (Wd hw 24 rfl)) (by decide) (t := .byte) (t' := (.array .byte)) (by decide) (by decide)))) (E_a0s.wr W2) (Or.inr ⟨(Wd hw 25 rfl), rfl, hnm⟩) (Wd hw 10 rfl) (ty := .byte) (v' := (.int 0)) (by decide) rfl (by decide) (g := (mkF m 11 #[.val (.ref a0s), .val (.ref a1b), .val (.int 0)] [(.int 0), (.ref a0s)])) rfl rfl (hb hby d15_11)
  have Fw3 := (F_coder_a0s.other W2 (Or.inr (slot_ne (a0 := a0) (Or.inr (Wd hw 25 rfl)) (Or.inr (Wd hw 24 rfl)) (by decide) (t := .byte) (t' := (.array .byte)) (by decide) (by decide)))).same W3
  have K3 : Keep h0 h3 [a0s] := K2.wr W3 (Or.inl (List.mem_of_getElem? (i := 0) rfl))
  have O3 := O2.wr W3 g_a0s
  have N3 := Fr.snoc X3 N2 g_a0s
  obtain ⟨fs, hr, hrun, hended, hW, hsame⟩ := X3.leave (v := none) (fun _ => rfl)
  refine ⟨_, _, pre0 _ ?_, hrun, hended, _, _, rfl, ?_, ⟨_, rfl⟩, hW, hsame.mono (by decide) (by decide)⟩
  · show Steps p.tables e below (s₁.setTop (mkF m 0 #[.val (.ref a0s), .val (.ref a1b), .val (.int 0)] [])) _
    refine XS.aloadN X0.here hx rfl (hb hby d15_0) rfl rfl ?_
    show Steps p.tables e below (s₁.setTop (mkF m 1 #[.val (.ref a0s), .val (.ref a1b), .val (.int 0)] [(.ref a0s)])) _
    refine st1 _ ?_
    show Steps p.tables e below (T1.setTop (mkF m 4 #[.val (.ref a0s), .val (.ref a1b), .val (.int 0)] [])) _
    refine XS.aloadN X1.here hx rfl (hb hby d15_4) rfl rfl ?_
    refine XS.aloadN X1.here hx rfl (hb hby d15_5) rfl rfl ?_
    show Steps p.tables e below (T1.setTop (mkF m 6 #[.val (.ref a0s), .val (.ref a1b), .val (.int 0)] [(.ref a1b), (.ref a0s)])) _
    refine st2 _ ?_
    show Steps p.tables e below (T2.setTop (mkF m 9 #[.val (.ref a0s), .val (.ref a1b), .val (.int 0)] [])) _
    refine XS.aloadN X2.here hx rfl (hb hby d15_9) rfl rfl ?_
    refine XS.iloadN X2.here hx rfl (hb hby d15_10) rfl ?_
    show Steps p.tables e below (T2.setTop (mkF m 11 #[.val (.ref a0s), .val (.ref a1b), .val (.int 0)] [(.int 0), (.ref a0s)])) _
    refine st3 _ ?_
    show Steps p.tables e below (T3.setTop (mkF m 14 #[.val (.ref a0s), .val (.ref a1b), .val (.int 0)] [])) _
    exact X3.returnOut hx Bd.returns (hb hby d15_14) hr
  · show Q_rmIb n0 Z cS a0s a1b h0 _ T3.heap _
    rw [e3]
    exact ⟨rfl, N3, K3, ((E_a0s.wr W2).wr W3)⟩
theorem d12_0 : decode jdk_42_method_139_code 0 = .ok (.getstatic 38, 3) := by decide +kernel
theorem d12_3 : decode jdk_42_method_139_code 3 = .ok (.ifCond .eq 23, 3) := by decide +kernel
theorem d12_6 : decode jdk_42_method_139_code 6 = .ok (.iload_n 0, 1) := by decide +kernel
theorem d12_7 : decode jdk_42_method_139_code 7 = .ok (.invokestatic 1015, 3) := by decide +kernel
theorem pdv10 : parseMethodDescriptor "(C)Z" = some ⟨[.char], some .boolean⟩ := by decide +kernel
theorem d12_10 : decode jdk_42_method_139_code 10 = .ok (.ifCond .eq 16, 3) := by decide +kernel
theorem d12_13 : decode jdk_42_method_139_code 13 = .ok (.new 10, 3) := by decide +kernel
theorem d12_16 : decode jdk_42_method_139_code 16 = .ok (.dup, 1) := by decide +kernel
theorem d12_17 : decode jdk_42_method_139_code 17 = .ok (.iload_n 0, 1) := by decide +kernel
theorem d12_18 : decode jdk_42_method_139_code 18 = .ok (.invokestatic 1018, 3) := by decide +kernel
theorem pdv11 : parseMethodDescriptor "(C)[B" = some ⟨[.char], some (.array .byte)⟩ := by decide +kernel
theorem d12_21 : decode jdk_42_method_139_code 21 = .ok (.iconst 0, 1) := by decide +kernel
theorem d12_22 : decode jdk_42_method_139_code 22 = .ok (.invokespecial 209, 3) := by decide +kernel
theorem pdv12 : parseMethodDescriptor "([BB)V" = some ⟨[(.array .byte), .byte], none⟩ := by decide +kernel
theorem d12_25 : decode jdk_42_method_139_code 25 = .ok (.areturn, 1) := by decide +kernel
abbrev MN_17 : MethodName := ⟨"java/lang/String", "valueOf", "(C)Ljava/lang/String;"⟩
def Q_rmVo (n0 : Nat) (Z : State) (cS : Int32) (p0 : Int32) (h0 : Heap) (v : Option Value) (h : Heap) (L : List Loc) : Prop := ∃ b : Addr, v = some (.ref b) ∧ Fr n0 L ∧ Keep h0 h [] ∧ (h0.size ≤ b) ∧ (Exa Z h b "java/lang/String")
set_option maxRecDepth 65536 in
set_option maxHeartbeats 40000000 in
theorem rmVo (l : Launch) (Z : State) (a0 : Array Value) (hw : ∀ d ∈ tables_1, d.before a0 Z = true) (ws : List Jvm.Cond) (cS : Int32) (p0 : Int32) (h0 : Heap) (n0 : Nat) (O0 : Old Z n0 h0) (GL : GF Z cS) (h : ¬ ((255 : Int32) < p0)) :
    MetFree l MN_17 (head1 (Jvm.Cond.code MN_17 jdk_42_method_139_code 1 (some (.object "java/lang/String")) :: ws) ({ frames := 2, cells := 2, slots := 5, locals := 27 } : Room)) (fun a U => a = #[(.int p0)] ∧ Z.Warmed39 U.vm ∧ U.heap = h0) (fun _ _ _ _ _ => True) (fun _ U o U' => ∃ v L, o = .returned v ∧ Q_rmVo n0 Z cS p0 h0 v U'.heap L ∧ FrameEnd U o U' L ({ frames := 2, cells := 2, slots := 5, locals := 27 } : Room).cells ({ frames := 2, cells := 2, slots := 5, locals := 27 } : Room).slots) := by
  refine MetFree.of_bodySF (plainFor_of_name pnv1) hisR ?_
  intro p e s m args below meth c s₁ Bd hml0 hP hK
  obtain ⟨rfl, hZ, hh⟩ := hP
  have hx := Bd.exec
  have hby := Bd.bytes
  have hml : c.maxLocals = 1 := hml0
  have hown : s.vm.findClass "java/lang/String" = some m.cls := findClass_of_methodNamed Bd.named
  have hnm := (name_of_methodNamed Bd.named Bd.method).1
  have X0 : Stand p l e ({ frames := 2, cells := 2, slots := 5, locals := 27 } : Room) s m #[(.int p0)] below meth c s₁ [] 0 0 := Stand.of_body Bd
  have e0 : s₁.heap = h0 := by rw [← hh, Bd.state]; rfl
  have N0 := Fr.nil n0
  have pre0 : ∀ t, Steps p.tables e below (s₁.setTop (mkF m 0 #[.val (.int p0)] [])) t → Steps p.tables e below (s₁.setTop (entryFrame m #[(.int p0)] 1)) t := fun t k => castTop (ef_rmCe m p0) k
  have GL' := GL
  obtain ⟨GCS, GCP⟩ := GL'
  obtain ⟨T1, X1, e1, st1⟩ := getS2 X0 hx hZ hown (host := "") (Or.inl (Wd hw 59 rfl)) Via.refl e0 (GCS.ext O0.2) (g := (mkF m 0 #[.val (.int p0)] [])) rfl (hb hby d12_0)
  obtain ⟨_, _, ⟨T2, L2, k2, n2⟩, -, X2, ⟨Lc2, hQ2, l2, y2, z2⟩, st2⟩ := Jvm.LawKit.callS X1 hx (y := MN_14) hown (mvT hZ (Wd hw 64 rfl)) (mvT hZ (Wd hw 65 rfl)) (mvT hZ (Wd hw 66 rfl)) (mvT hZ (Wd hw 67 rfl)) (by decide) (backOf (W := 0) (rmCe l Z a0 hw [] cS (p0) (h0) n0 O0 GL h) hZ (Wd hw 67 rfl) (Wd hw 66 rfl) (by decide) (by decide)) (g := (mkF m 7 #[.val (.int p0)] [(.int p0)])) rfl (by rw [hml]; rfl) (argsL := [(.int p0)]) (rest := []) (lenOf pdv10 rfl) rfl (by show 2 * 0 + _ ≤ _; exact Nat.le_of_eq rfl) (hb hby d12_7) (fun _ _ => ⟨rfl, e1, (by decide : 0 + 0 ≤ _), (by decide : 0 + 0 ≤ _)⟩)
  dsimp only [Pt.U, Pt.locs, Pt.cells, Pt.slots] at X2 l2 y2 z2 st2 hQ2
  subst l2 y2 z2
  obtain ⟨rfl, N2q, e2⟩ := hQ2
  have N2 := Fr.app N0 N2q
  obtain ⟨T3, h3, X3, e3, E3, A3, D3, -, st3⟩ := newO X2 hx hZ hown (Wd hw 68 rfl) (Wd hw 10 rfl) (Wd hw 11 rfl) e2 (g := (mkF m 13 #[.val (.int p0)] [])) rfl (hb hby d12_13) (by decide) (by decide)
  obtain ⟨b3, g3⟩ : ∃ z, z = h0.size := ⟨_, rfl⟩
  rw [← g3] at A3 D3 st3
  have g_b3 : n0 ≤ b3 := Nat.le_trans (own_sz O0) (Nat.le_of_eq g3.symm)
  have sz_b3 : h0.size ≤ b3 := Nat.le_trans (Keep.refl h0 []).1 (Nat.le_of_eq g3.symm)
  have K3 : Keep h0 h3 [] := (Keep.refl h0 []).ext E3
  have O3 := O0.ext E3
  have F_value_b3 : Fld Z h3 b3 "java/lang/String" "value" "[B" .null := D3 (Or.inr (Wd hw 24 rfl)) (ty := (.array .byte)) (by decide)
  have F_coder_b3 : Fld Z h3 b3 "java/lang/String" "coder" "B" (.int 0) := D3 (Or.inr (Wd hw 25 rfl)) (ty := .byte) (by decide)
  obtain ⟨_, _, ⟨T4, L4, k4, n4⟩, -, X4, ⟨Lc4, hQ4, l4, y4, z4⟩, st4⟩ := Jvm.LawKit.callS X3 hx (y := MN_15) hown (mvT hZ (Wd hw 69 rfl)) (mvT hZ (Wd hw 70 rfl)) (mvT hZ (Wd hw 66 rfl)) (mvT hZ (Wd hw 71 rfl)) (by decide) (backOf (W := 2) (rmTb l Z a0 hw [] cS (p0) (h3) n0 O3 GL) hZ (Wd hw 71 rfl) (Wd hw 66 rfl) (by decide) (by decide)) (g := (mkF m 18 #[.val (.int p0)] [(.int p0), (.ref b3), (.ref b3)])) rfl (by rw [hml]; rfl) (argsL := [(.int p0)]) (rest := [(.ref b3), (.ref b3)]) (lenOf pdv11 rfl) rfl (by show 2 * 0 + _ ≤ _; exact Nat.le_of_eq rfl) (hb hby d12_18) (fun _ _ => ⟨rfl, e3, (by decide : 1 + 1 ≤ _), (by decide : 4 + 1 ≤ _)⟩)
  dsimp only [Pt.U, Pt.locs, Pt.cells, Pt.slots] at X4 l4 y4 z4 st4 hQ4
  subst l4 y4 z4
  obtain ⟨b_4, rfl, N4q, Kc4, P4_0, P4_1⟩ := hQ4
  have K4 : Keep h0 T4.heap [] := K3.trans Kc4 all0
  have O4 := O3.keep Kc4 all0
  have g_b_4 : n0 ≤ b_4 := Nat.le_trans (own_sz O3) P4_0
  have sz_b_4 : h0.size ≤ b_4 := Nat.le_trans K3.1 P4_0
  have N4 := Fr.app N2 N4q
  obtain ⟨_, _, ⟨T5, L5, k5, n5⟩, -, X5, ⟨Lc5, hQ5, l5, y5, z5⟩, st5⟩ := X4.specialBack hx (y := MN_16) rfl hown (mvT hZ (Wd hw 72 rfl)) (mvT hZ (Wd hw 73 rfl)) (mvT hZ (Wd hw 74 rfl)) (by decide) (backOf (W := 1) (rmIb l Z a0 hw [] cS (b3) (b_4) (T4.heap) n0 O4 GL (A3.keep Kc4) (F_value_b3.keep Kc4 nin0) (F_coder_b3.keep Kc4 nin0) g_b3) hZ (Wd hw 74 rfl) (Wd hw 11 rfl) (by decide) (by decide)) (g := (mkF m 22 #[.val (.int p0)] [(.int 0), (.ref b_4), (.ref b3), (.ref b3)])) rfl (by rw [hml]; rfl) (Steps.refl _) (a := b3) (argsL := [(.ref b_4), (.int 0)]) (rest := [(.ref b3)]) (lenOf pdv12 rfl) rfl (by show 2 * 0 + _ ≤ _; exact Nat.le_of_eq rfl) (hb hby d12_22) (fun _ _ => ⟨rfl, rfl, (by decide : 2 + 0 ≤ _), (by decide : 5 + 0 ≤ _)⟩)
  dsimp only [Pt.U, Pt.locs, Pt.cells, Pt.slots] at X5 l5 y5 z5 st5 hQ5
  subst l5 y5 z5
  obtain ⟨rfl, N5q, Kc5, P5_0⟩ := hQ5
  have K5 : Keep h0 T5.heap [] := K4.trans Kc5 (allS (Or.inr sz_b3) all0)
  have O5 := O4.keep Kc5 (allS g_b3 all0)
  have N5 := Fr.app N4 N5q
  obtain ⟨fs, hr, hrun, hended, hW, hsame⟩ := X5.leave (v := some (.ref b3)) (fun h => by rw [Bd.returns] at h; cases h)
  refine ⟨_, _, pre0 _ ?_, hrun, hended, _, _, rfl, ?_, ⟨_, rfl⟩, hW, hsame.mono (by decide) (by decide)⟩
  · show Steps p.tables e below (s₁.setTop (mkF m 0 #[.val (.int p0)] [])) _
    refine st1 _ ?_
    show Steps p.tables e below (T1.setTop (mkF m 3 #[.val (.int p0)] [(.int cS)])) _
    refine XS.ifNo X1.here hx rfl (hb hby d12_3) rfl ((if0 _ _).trans (feq GCP).1) ?_
    refine XS.iloadN X1.here hx rfl (hb hby d12_6) rfl ?_
    show Steps p.tables e below (T1.setTop (mkF m 7 #[.val (.int p0)] [(.int p0)])) _
    refine st2 _ ?_
    show Steps p.tables e below (T2.setTop (mkF m 10 #[.val (.int p0)] [(.int 1)])) _
    refine XS.ifNo X2.here hx rfl (hb hby d12_10) rfl ((if0 _ _).trans (feq (by decide : ¬ ((1 : Int32) = (0 : Int32)))).1) ?_
    show Steps p.tables e below (T2.setTop (mkF m 13 #[.val (.int p0)] [])) _
    refine st3 _ ?_
    show Steps p.tables e below (T3.setTop (mkF m 16 #[.val (.int p0)] [(.ref b3)])) _
    refine XS.dup X3.here hx rfl (hb hby d12_16) rfl rfl ?_
    refine XS.iloadN X3.here hx rfl (hb hby d12_17) rfl ?_
    show Steps p.tables e below (T3.setTop (mkF m 18 #[.val (.int p0)] [(.int p0), (.ref b3), (.ref b3)])) _
    refine st4 _ ?_
    show Steps p.tables e below (T4.setTop (mkF m 21 #[.val (.int p0)] [(.ref b_4), (.ref b3), (.ref b3)])) _
    refine XS.iconst X4.here hx rfl (hb hby d12_21) ?_
    show Steps p.tables e below (T4.setTop (mkF m 22 #[.val (.int p0)] [(.int 0), (.ref b_4), (.ref b3), (.ref b3)])) _
    refine st5.trans ?_
    show Steps p.tables e below (T5.setTop (mkF m 25 #[.val (.int p0)] [(.ref b3)])) _
    jvm_step X5.here [X5.here.top, hx, (hb hby d12_25), X5.method', Bd.returns, Value.isRef, FieldType.isReference]
    first | (intro acts; rw [hr _ acts rfl rfl rfl]) | rw [hr _ _ rfl rfl rfl]
    exact Steps.refl _
  · show Q_rmVo n0 Z cS p0 h0 _ T5.heap _
    exact ⟨b3, rfl, N5, K5, sz_b3, P5_0⟩
theorem pdv13 : parseMethodDescriptor "([CIIC)V" = some ⟨[(.array .char), .int, .int, .char], none⟩ := by decide +kernel
set_option maxRecDepth 65536 in
set_option maxHeartbeats 40000000 in
theorem sg0 {p : Program} {l : Launch} {e : Env} {s : State} {m : MethodId} {below : List Frame} {meth : Method} {c : Code} {T0 : State} {locs : List Loc} {Z : State} {a0 : Array Value} (cS : Int32) (p0 : Int32) (p1 : Int32) (p2 : Int32) (p3 : Int32) (s0 : Int32) (s1 : Int32) (s2 : Int32) (s3 : Int32) (s4 : Int32) (s5 : Int32) (aa : Addr) (ka : ClassId) (kk : Int32) (nn : Int32) {h0 : Heap} {n0 : Nat} (X0 : Stand p l e room_1 s m #[(.int p0), (.int p1), (.int p2), (.int p3)] below meth c T0 locs 1 6) (hx : p.tables.exec = Jvm.exec) (hZ : Z.Warmed39 s.vm) (hw : ∀ d ∈ tables_1, d.before a0 Z = true) (hby : c.code = code) (hml : c.maxLocals = 10) (hown : s.vm.findClass "com/example/loomwire/loomwire/bundle/JavaPackagesRefusePinLaw" = some m.cls) (e0 : T0.heap = h0) (N0 : Fr n0 locs) (O0 : Old Z n0 h0) (GL : GF Z cS) (V_aa : Arv Z h0 aa ka .char (6 : Int32) [(.int s0), (.int s1), (.int s2), (.int s3), (.int s4), (.int s5)] (.int 0)) :
    ∃ v : Int32, ∃ (T' : State) (locs' : List Loc), Stand p l e room_1 s m #[(.int p0), (.int p1), (.int p2), (.int p3)] below meth c T' locs' 1 6 ∧ T'.heap = h0 ∧ Fr n0 locs' ∧ ((v = (1 : Int32) ∧ True) ∨ (v = (0 : Int32) ∧ ¬ (¬ (nn < (5 : Int32)) ∧ s0 = (106 : Int32) ∧ s1 = (97 : Int32) ∧ s2 = (118 : Int32) ∧ s3 = (97 : Int32) ∧ s4 = (46 : Int32)))) ∧
      ∀ target, Steps p.tables e below (T'.setTop (mkF m 214 #[.val (.int p0), .val (.int p1), .val (.int p2), .val (.int p3), .val (.ref aa), .val (.int kk), .val (.int nn), .val (.int v), .unset, .unset] [])) target → Steps p.tables e below (T0.setTop (mkF m 156 #[.val (.int p0), .val (.int p1), .val (.int p2), .val (.int p3), .val (.ref aa), .val (.int kk), .val (.int nn), .unset, .unset, .unset] [])) target := by
  have GL' := GL
  obtain ⟨GCS, GCP⟩ := GL'
  have pre2 : ∀ t, Steps p.tables e below (T0.setTop (mkF m 159 #[.val (.int p0), .val (.int p1), .val (.int p2), .val (.int p3), .val (.ref aa), .val (.int kk), .val (.int nn), .unset, .unset, .unset] [(.int 5), (.int nn)])) t → Steps p.tables e below (T0.setTop (mkF m 156 #[.val (.int p0), .val (.int p1), .val (.int p2), .val (.int p3), .val (.ref aa), .val (.int kk), .val (.int nn), .unset, .unset, .unset] [])) t := fun t kt => by
    show Steps p.tables e below (T0.setTop (mkF m 156 #[.val (.int p0), .val (.int p1), .val (.int p2), .val (.int p3), .val (.ref aa), .val (.int kk), .val (.int nn), .unset, .unset, .unset] [])) _
    refine XS.iload X0.here hx rfl (hb hby at_156) rfl ?_
    refine XS.iconst X0.here hx rfl (hb hby at_158) ?_
    exact kt
  by_cases hc159_1 : nn < (5 : Int32)
  · have hpost : ((0 : Int32) = (1 : Int32) ∧ True) ∨ ((0 : Int32) = (0 : Int32) ∧ ¬ (¬ (nn < (5 : Int32)) ∧ s0 = (106 : Int32) ∧ s1 = (97 : Int32) ∧ s2 = (118 : Int32) ∧ s3 = (97 : Int32) ∧ s4 = (46 : Int32))) := Or.inr ⟨rfl, fun q => q.1 hc159_1⟩
    refine ⟨(0 : Int32), T0, _, X0, e0, N0, hpost, fun target kt => ?_⟩
    refine pre2 target ?_
    show Steps p.tables e below (T0.setTop (mkF m 159 #[.val (.int p0), .val (.int p1), .val (.int p2), .val (.int p3), .val (.ref aa), .val (.int kk), .val (.int nn), .unset, .unset, .unset] [(.int 5), (.int nn)])) _
    refine XS.icmpYes X0.here hx rfl (pc0 := 159) (pc' := 211) rfl (hb hby at_159) rfl (tlt hc159_1).1 (by decide) (by decide) ?_
    refine XS.iconst X0.here hx rfl (hb hby at_211) ?_
    refine XS.istore X0.here hx rfl (hb hby at_212) rfl (l' := #[.val (.int p0), .val (.int p1), .val (.int p2), .val (.int p3), .val (.ref aa), .val (.int kk), .val (.int nn), .val (.int 0), .unset, .unset]) rfl ?_
    exact kt
  · obtain ⟨cl3, Ar3, -, S3, N3_, H3, G3⟩ := id (V_aa)
    have hin3 : ¬ ((0 : Int32) < 0 ∨ cl3.slots.size ≤ ((0 : Int32)).toNatClampNeg) := inb_of S3 ⟨(by decide), (by decide)⟩
    have hat3 : cl3.slots[((0 : Int32)).toNatClampNeg]? = some (.int s0) := H3.at hin3 rfl
    have pre5 : ∀ t, Steps p.tables e below (T0.setTop (mkF m 168 #[.val (.int p0), .val (.int p1), .val (.int p2), .val (.int p3), .val (.ref aa), .val (.int kk), .val (.int nn), .unset, .unset, .unset] [(.int 106), (.int s0)])) t → Steps p.tables e below (T0.setTop (mkF m 156 #[.val (.int p0), .val (.int p1), .val (.int p2), .val (.int p3), .val (.ref aa), .val (.int kk), .val (.int nn), .unset, .unset, .unset] [])) t := fun t kt => by
      refine pre2 t ?_
      show Steps p.tables e below (T0.setTop (mkF m 159 #[.val (.int p0), .val (.int p1), .val (.int p2), .val (.int p3), .val (.ref aa), .val (.int kk), .val (.int nn), .unset, .unset, .unset] [(.int 5), (.int nn)])) _
      refine XS.icmpNo X0.here hx rfl (hb hby at_159) rfl (flt hc159_1).1 ?_
      refine XS.aload X0.here hx rfl (hb hby at_162) rfl rfl ?_
      refine XS.iconst X0.here hx rfl (hb hby at_164) ?_
      show Steps p.tables e below (T0.setTop (mkF m 165 #[.val (.int p0), .val (.int p1), .val (.int p2), .val (.int p3), .val (.ref aa), .val (.int kk), .val (.int nn), .unset, .unset, .unset] [(.int 0), (.ref aa)])) _
      refine X0.caload hx (j := (0 : Int32)) (v := (.int s0)) (by rw [e0]; exact Ar3.1) (State.isArrayOf_alike hZ.alike Ar3.2.1) Ar3.2.2 hin3 hat3 (g := (mkF m 165 #[.val (.int p0), .val (.int p1), .val (.int p2), .val (.int p3), .val (.ref aa), .val (.int kk), .val (.int nn), .unset, .unset, .unset] [(.int 0), (.ref aa)])) rfl rfl (hb hby at_165) _ ?_
      show Steps p.tables e below (T0.setTop (mkF m 166 #[.val (.int p0), .val (.int p1), .val (.int p2), .val (.int p3), .val (.ref aa), .val (.int kk), .val (.int nn), .unset, .unset, .unset] [(.int s0)])) _
      refine XS.bipush X0.here hx rfl (hb hby at_166) ?_
      exact kt
    by_cases hc168_4 : s0 = (106 : Int32)
    · obtain ⟨cl6, Ar6, -, S6, N6_, H6, G6⟩ := id (V_aa)
      have hin6 : ¬ ((1 : Int32) < 0 ∨ cl6.slots.size ≤ ((1 : Int32)).toNatClampNeg) := inb_of S6 ⟨(by decide), (by decide)⟩
      have hat6 : cl6.slots[((1 : Int32)).toNatClampNeg]? = some (.int s1) := H6.at hin6 rfl
      have pre8 : ∀ t, Steps p.tables e below (T0.setTop (mkF m 177 #[.val (.int p0), .val (.int p1), .val (.int p2), .val (.int p3), .val (.ref aa), .val (.int kk), .val (.int nn), .unset, .unset, .unset] [(.int 97), (.int s1)])) t → Steps p.tables e below (T0.setTop (mkF m 156 #[.val (.int p0), .val (.int p1), .val (.int p2), .val (.int p3), .val (.ref aa), .val (.int kk), .val (.int nn), .unset, .unset, .unset] [])) t := fun t kt => by
        refine pre5 t ?_
        show Steps p.tables e below (T0.setTop (mkF m 168 #[.val (.int p0), .val (.int p1), .val (.int p2), .val (.int p3), .val (.ref aa), .val (.int kk), .val (.int nn), .unset, .unset, .unset] [(.int 106), (.int s0)])) _
        refine XS.icmpNo X0.here hx rfl (hb hby at_168) rfl (teq hc168_4).2 ?_
        refine XS.aload X0.here hx rfl (hb hby at_171) rfl rfl ?_
        refine XS.iconst X0.here hx rfl (hb hby at_173) ?_
        show Steps p.tables e below (T0.setTop (mkF m 174 #[.val (.int p0), .val (.int p1), .val (.int p2), .val (.int p3), .val (.ref aa), .val (.int kk), .val (.int nn), .unset, .unset, .unset] [(.int 1), (.ref aa)])) _
        refine X0.caload hx (j := (1 : Int32)) (v := (.int s1)) (by rw [e0]; exact Ar6.1) (State.isArrayOf_alike hZ.alike Ar6.2.1) Ar6.2.2 hin6 hat6 (g := (mkF m 174 #[.val (.int p0), .val (.int p1), .val (.int p2), .val (.int p3), .val (.ref aa), .val (.int kk), .val (.int nn), .unset, .unset, .unset] [(.int 1), (.ref aa)])) rfl rfl (hb hby at_174) _ ?_
        show Steps p.tables e below (T0.setTop (mkF m 175 #[.val (.int p0), .val (.int p1), .val (.int p2), .val (.int p3), .val (.ref aa), .val (.int kk), .val (.int nn), .unset, .unset, .unset] [(.int s1)])) _
        refine XS.bipush X0.here hx rfl (hb hby at_175) ?_
        exact kt
      by_cases hc177_7 : s1 = (97 : Int32)
      · obtain ⟨cl9, Ar9, -, S9, N9_, H9, G9⟩ := id (V_aa)
        have hin9 : ¬ ((2 : Int32) < 0 ∨ cl9.slots.size ≤ ((2 : Int32)).toNatClampNeg) := inb_of S9 ⟨(by decide), (by decide)⟩
        have hat9 : cl9.slots[((2 : Int32)).toNatClampNeg]? = some (.int s2) := H9.at hin9 rfl
        have pre11 : ∀ t, Steps p.tables e below (T0.setTop (mkF m 186 #[.val (.int p0), .val (.int p1), .val (.int p2), .val (.int p3), .val (.ref aa), .val (.int kk), .val (.int nn), .unset, .unset, .unset] [(.int 118), (.int s2)])) t → Steps p.tables e below (T0.setTop (mkF m 156 #[.val (.int p0), .val (.int p1), .val (.int p2), .val (.int p3), .val (.ref aa), .val (.int kk), .val (.int nn), .unset, .unset, .unset] [])) t := fun t kt => by
          refine pre8 t ?_
          show Steps p.tables e below (T0.setTop (mkF m 177 #[.val (.int p0), .val (.int p1), .val (.int p2), .val (.int p3), .val (.ref aa), .val (.int kk), .val (.int nn), .unset, .unset, .unset] [(.int 97), (.int s1)])) _
          refine XS.icmpNo X0.here hx rfl (hb hby at_177) rfl (teq hc177_7).2 ?_
          refine XS.aload X0.here hx rfl (hb hby at_180) rfl rfl ?_
          refine XS.iconst X0.here hx rfl (hb hby at_182) ?_
          show Steps p.tables e below (T0.setTop (mkF m 183 #[.val (.int p0), .val (.int p1), .val (.int p2), .val (.int p3), .val (.ref aa), .val (.int kk), .val (.int nn), .unset, .unset, .unset] [(.int 2), (.ref aa)])) _
          refine X0.caload hx (j := (2 : Int32)) (v := (.int s2)) (by rw [e0]; exact Ar9.1) (State.isArrayOf_alike hZ.alike Ar9.2.1) Ar9.2.2 hin9 hat9 (g := (mkF m 183 #[.val (.int p0), .val (.int p1), .val (.int p2), .val (.int p3), .val (.ref aa), .val (.int kk), .val (.int nn), .unset, .unset, .unset] [(.int 2), (.ref aa)])) rfl rfl (hb hby at_183) _ ?_
          show Steps p.tables e below (T0.setTop (mkF m 184 #[.val (.int p0), .val (.int p1), .val (.int p2), .val (.int p3), .val (.ref aa), .val (.int kk), .val (.int nn), .unset, .unset, .unset] [(.int s2)])) _
          refine XS.bipush X0.here hx rfl (hb hby at_184) ?_
          exact kt
        by_cases hc186_10 : s2 = (118 : Int32)
        · obtain ⟨cl12, Ar12, -, S12, N12_, H12, G12⟩ := id (V_aa)
          have hin12 : ¬ ((3 : Int32) < 0 ∨ cl12.slots.size ≤ ((3 : Int32)).toNatClampNeg) := inb_of S12 ⟨(by decide), (by decide)⟩
          have hat12 : cl12.slots[((3 : Int32)).toNatClampNeg]? = some (.int s3) := H12.at hin12 rfl
          have pre14 : ∀ t, Steps p.tables e below (T0.setTop (mkF m 195 #[.val (.int p0), .val (.int p1), .val (.int p2), .val (.int p3), .val (.ref aa), .val (.int kk), .val (.int nn), .unset, .unset, .unset] [(.int 97), (.int s3)])) t → Steps p.tables e below (T0.setTop (mkF m 156 #[.val (.int p0), .val (.int p1), .val (.int p2), .val (.int p3), .val (.ref aa), .val (.int kk), .val (.int nn), .unset, .unset, .unset] [])) t := fun t kt => by
            refine pre11 t ?_
            show Steps p.tables e below (T0.setTop (mkF m 186 #[.val (.int p0), .val (.int p1), .val (.int p2), .val (.int p3), .val (.ref aa), .val (.int kk), .val (.int nn), .unset, .unset, .unset] [(.int 118), (.int s2)])) _
            refine XS.icmpNo X0.here hx rfl (hb hby at_186) rfl (teq hc186_10).2 ?_
            refine XS.aload X0.here hx rfl (hb hby at_189) rfl rfl ?_
            refine XS.iconst X0.here hx rfl (hb hby at_191) ?_
            show Steps p.tables e below (T0.setTop (mkF m 192 #[.val (.int p0), .val (.int p1), .val (.int p2), .val (.int p3), .val (.ref aa), .val (.int kk), .val (.int nn), .unset, .unset, .unset] [(.int 3), (.ref aa)])) _
            refine X0.caload hx (j := (3 : Int32)) (v := (.int s3)) (by rw [e0]; exact Ar12.1) (State.isArrayOf_alike hZ.alike Ar12.2.1) Ar12.2.2 hin12 hat12 (g := (mkF m 192 #[.val (.int p0), .val (.int p1), .val (.int p2), .val (.int p3), .val (.ref aa), .val (.int kk), .val (.int nn), .unset, .unset, .unset] [(.int 3), (.ref aa)])) rfl rfl (hb hby at_192) _ ?_
            show Steps p.tables e below (T0.setTop (mkF m 193 #[.val (.int p0), .val (.int p1), .val (.int p2), .val (.int p3), .val (.ref aa), .val (.int kk), .val (.int nn), .unset, .unset, .unset] [(.int s3)])) _
            refine XS.bipush X0.here hx rfl (hb hby at_193) ?_
            exact kt
          by_cases hc195_13 : s3 = (97 : Int32)
          · obtain ⟨cl15, Ar15, -, S15, N15_, H15, G15⟩ := id (V_aa)
            have hin15 : ¬ ((4 : Int32) < 0 ∨ cl15.slots.size ≤ ((4 : Int32)).toNatClampNeg) := inb_of S15 ⟨(by decide), (by decide)⟩
            have hat15 : cl15.slots[((4 : Int32)).toNatClampNeg]? = some (.int s4) := H15.at hin15 rfl
            have pre17 : ∀ t, Steps p.tables e below (T0.setTop (mkF m 204 #[.val (.int p0), .val (.int p1), .val (.int p2), .val (.int p3), .val (.ref aa), .val (.int kk), .val (.int nn), .unset, .unset, .unset] [(.int 46), (.int s4)])) t → Steps p.tables e below (T0.setTop (mkF m 156 #[.val (.int p0), .val (.int p1), .val (.int p2), .val (.int p3), .val (.ref aa), .val (.int kk), .val (.int nn), .unset, .unset, .unset] [])) t := fun t kt => by
              refine pre14 t ?_
              show Steps p.tables e below (T0.setTop (mkF m 195 #[.val (.int p0), .val (.int p1), .val (.int p2), .val (.int p3), .val (.ref aa), .val (.int kk), .val (.int nn), .unset, .unset, .unset] [(.int 97), (.int s3)])) _
              refine XS.icmpNo X0.here hx rfl (hb hby at_195) rfl (teq hc195_13).2 ?_
              refine XS.aload X0.here hx rfl (hb hby at_198) rfl rfl ?_
              refine XS.iconst X0.here hx rfl (hb hby at_200) ?_
              show Steps p.tables e below (T0.setTop (mkF m 201 #[.val (.int p0), .val (.int p1), .val (.int p2), .val (.int p3), .val (.ref aa), .val (.int kk), .val (.int nn), .unset, .unset, .unset] [(.int 4), (.ref aa)])) _
              refine X0.caload hx (j := (4 : Int32)) (v := (.int s4)) (by rw [e0]; exact Ar15.1) (State.isArrayOf_alike hZ.alike Ar15.2.1) Ar15.2.2 hin15 hat15 (g := (mkF m 201 #[.val (.int p0), .val (.int p1), .val (.int p2), .val (.int p3), .val (.ref aa), .val (.int kk), .val (.int nn), .unset, .unset, .unset] [(.int 4), (.ref aa)])) rfl rfl (hb hby at_201) _ ?_
              show Steps p.tables e below (T0.setTop (mkF m 202 #[.val (.int p0), .val (.int p1), .val (.int p2), .val (.int p3), .val (.ref aa), .val (.int kk), .val (.int nn), .unset, .unset, .unset] [(.int s4)])) _
              refine XS.bipush X0.here hx rfl (hb hby at_202) ?_
              exact kt
            by_cases hc204_16 : s4 = (46 : Int32)
            · have hpost : ((1 : Int32) = (1 : Int32) ∧ True) ∨ ((1 : Int32) = (0 : Int32) ∧ ¬ (¬ (nn < (5 : Int32)) ∧ s0 = (106 : Int32) ∧ s1 = (97 : Int32) ∧ s2 = (118 : Int32) ∧ s3 = (97 : Int32) ∧ s4 = (46 : Int32))) := Or.inl ⟨rfl, trivial⟩
              refine ⟨(1 : Int32), T0, _, X0, e0, N0, hpost, fun target kt => ?_⟩
              refine pre17 target ?_
              show Steps p.tables e below (T0.setTop (mkF m 204 #[.val (.int p0), .val (.int p1), .val (.int p2), .val (.int p3), .val (.ref aa), .val (.int kk), .val (.int nn), .unset, .unset, .unset] [(.int 46), (.int s4)])) _
              refine XS.icmpNo X0.here hx rfl (hb hby at_204) rfl (teq hc204_16).2 ?_
              refine XS.iconst X0.here hx rfl (hb hby at_207) ?_
              refine XS.goto X0.here hx rfl (pc0 := 208) (pc' := 212) rfl (hb hby at_208) (by decide) (by decide) ?_
              refine XS.istore X0.here hx rfl (hb hby at_212) rfl (l' := #[.val (.int p0), .val (.int p1), .val (.int p2), .val (.int p3), .val (.ref aa), .val (.int kk), .val (.int nn), .val (.int 1), .unset, .unset]) rfl ?_
              exact kt
            · have hpost : ((0 : Int32) = (1 : Int32) ∧ True) ∨ ((0 : Int32) = (0 : Int32) ∧ ¬ (¬ (nn < (5 : Int32)) ∧ s0 = (106 : Int32) ∧ s1 = (97 : Int32) ∧ s2 = (118 : Int32) ∧ s3 = (97 : Int32) ∧ s4 = (46 : Int32))) := Or.inr ⟨rfl, fun q => hc204_16 q.2.2.2.2.2⟩
              refine ⟨(0 : Int32), T0, _, X0, e0, N0, hpost, fun target kt => ?_⟩
              refine pre17 target ?_
              show Steps p.tables e below (T0.setTop (mkF m 204 #[.val (.int p0), .val (.int p1), .val (.int p2), .val (.int p3), .val (.ref aa), .val (.int kk), .val (.int nn), .unset, .unset, .unset] [(.int 46), (.int s4)])) _
              refine XS.icmpYes X0.here hx rfl (pc0 := 204) (pc' := 211) rfl (hb hby at_204) rfl (feq hc204_16).2 (by decide) (by decide) ?_
              refine XS.iconst X0.here hx rfl (hb hby at_211) ?_
              refine XS.istore X0.here hx rfl (hb hby at_212) rfl (l' := #[.val (.int p0), .val (.int p1), .val (.int p2), .val (.int p3), .val (.ref aa), .val (.int kk), .val (.int nn), .val (.int 0), .unset, .unset]) rfl ?_
              exact kt
          · have hpost : ((0 : Int32) = (1 : Int32) ∧ True) ∨ ((0 : Int32) = (0 : Int32) ∧ ¬ (¬ (nn < (5 : Int32)) ∧ s0 = (106 : Int32) ∧ s1 = (97 : Int32) ∧ s2 = (118 : Int32) ∧ s3 = (97 : Int32) ∧ s4 = (46 : Int32))) := Or.inr ⟨rfl, fun q => hc195_13 q.2.2.2.2.1⟩
            refine ⟨(0 : Int32), T0, _, X0, e0, N0, hpost, fun target kt => ?_⟩
            refine pre14 target ?_
            show Steps p.tables e below (T0.setTop (mkF m 195 #[.val (.int p0), .val (.int p1), .val (.int p2), .val (.int p3), .val (.ref aa), .val (.int kk), .val (.int nn), .unset, .unset, .unset] [(.int 97), (.int s3)])) _
            refine XS.icmpYes X0.here hx rfl (pc0 := 195) (pc' := 211) rfl (hb hby at_195) rfl (feq hc195_13).2 (by decide) (by decide) ?_
            refine XS.iconst X0.here hx rfl (hb hby at_211) ?_
            refine XS.istore X0.here hx rfl (hb hby at_212) rfl (l' := #[.val (.int p0), .val (.int p1), .val (.int p2), .val (.int p3), .val (.ref aa), .val (.int kk), .val (.int nn), .val (.int 0), .unset, .unset]) rfl ?_
            exact kt
        · have hpost : ((0 : Int32) = (1 : Int32) ∧ True) ∨ ((0 : Int32) = (0 : Int32) ∧ ¬ (¬ (nn < (5 : Int32)) ∧ s0 = (106 : Int32) ∧ s1 = (97 : Int32) ∧ s2 = (118 : Int32) ∧ s3 = (97 : Int32) ∧ s4 = (46 : Int32))) := Or.inr ⟨rfl, fun q => hc186_10 q.2.2.2.1⟩
          refine ⟨(0 : Int32), T0, _, X0, e0, N0, hpost, fun target kt => ?_⟩
          refine pre11 target ?_
          show Steps p.tables e below (T0.setTop (mkF m 186 #[.val (.int p0), .val (.int p1), .val (.int p2), .val (.int p3), .val (.ref aa), .val (.int kk), .val (.int nn), .unset, .unset, .unset] [(.int 118), (.int s2)])) _
          refine XS.icmpYes X0.here hx rfl (pc0 := 186) (pc' := 211) rfl (hb hby at_186) rfl (feq hc186_10).2 (by decide) (by decide) ?_
          refine XS.iconst X0.here hx rfl (hb hby at_211) ?_
          refine XS.istore X0.here hx rfl (hb hby at_212) rfl (l' := #[.val (.int p0), .val (.int p1), .val (.int p2), .val (.int p3), .val (.ref aa), .val (.int kk), .val (.int nn), .val (.int 0), .unset, .unset]) rfl ?_
          exact kt
      · have hpost : ((0 : Int32) = (1 : Int32) ∧ True) ∨ ((0 : Int32) = (0 : Int32) ∧ ¬ (¬ (nn < (5 : Int32)) ∧ s0 = (106 : Int32) ∧ s1 = (97 : Int32) ∧ s2 = (118 : Int32) ∧ s3 = (97 : Int32) ∧ s4 = (46 : Int32))) := Or.inr ⟨rfl, fun q => hc177_7 q.2.2.1⟩
        refine ⟨(0 : Int32), T0, _, X0, e0, N0, hpost, fun target kt => ?_⟩
        refine pre8 target ?_
        show Steps p.tables e below (T0.setTop (mkF m 177 #[.val (.int p0), .val (.int p1), .val (.int p2), .val (.int p3), .val (.ref aa), .val (.int kk), .val (.int nn), .unset, .unset, .unset] [(.int 97), (.int s1)])) _
        refine XS.icmpYes X0.here hx rfl (pc0 := 177) (pc' := 211) rfl (hb hby at_177) rfl (feq hc177_7).2 (by decide) (by decide) ?_
        refine XS.iconst X0.here hx rfl (hb hby at_211) ?_
        refine XS.istore X0.here hx rfl (hb hby at_212) rfl (l' := #[.val (.int p0), .val (.int p1), .val (.int p2), .val (.int p3), .val (.ref aa), .val (.int kk), .val (.int nn), .val (.int 0), .unset, .unset]) rfl ?_
        exact kt
    · have hpost : ((0 : Int32) = (1 : Int32) ∧ True) ∨ ((0 : Int32) = (0 : Int32) ∧ ¬ (¬ (nn < (5 : Int32)) ∧ s0 = (106 : Int32) ∧ s1 = (97 : Int32) ∧ s2 = (118 : Int32) ∧ s3 = (97 : Int32) ∧ s4 = (46 : Int32))) := Or.inr ⟨rfl, fun q => hc168_4 q.2.1⟩
      refine ⟨(0 : Int32), T0, _, X0, e0, N0, hpost, fun target kt => ?_⟩
      refine pre5 target ?_
      show Steps p.tables e below (T0.setTop (mkF m 168 #[.val (.int p0), .val (.int p1), .val (.int p2), .val (.int p3), .val (.ref aa), .val (.int kk), .val (.int nn), .unset, .unset, .unset] [(.int 106), (.int s0)])) _
      refine XS.icmpYes X0.here hx rfl (pc0 := 168) (pc' := 211) rfl (hb hby at_168) rfl (feq hc168_4).2 (by decide) (by decide) ?_
      refine XS.iconst X0.here hx rfl (hb hby at_211) ?_
      refine XS.istore X0.here hx rfl (hb hby at_212) rfl (l' := #[.val (.int p0), .val (.int p1), .val (.int p2), .val (.int p3), .val (.ref aa), .val (.int kk), .val (.int nn), .val (.int 0), .unset, .unset]) rfl ?_
      exact kt
theorem pdv14 : parseMethodDescriptor "([CI)Ljava/lang/String;" = some ⟨[(.array .char), .int], some (.object "java/lang/String")⟩ := by decide +kernel
theorem pdv15 : parseMethodDescriptor "(Ljava/lang/String;Ljava/lang/String;)V" = some ⟨[(.object "java/lang/String"), (.object "java/lang/String")], none⟩ := by decide +kernel
theorem pdv16 : parseMethodDescriptor "(C)Ljava/lang/String;" = some ⟨[.char], some (.object "java/lang/String")⟩ := by decide +kernel
theorem ef_rm0 (m : MethodId) (p0 : Int32) (p1 : Int32) (p2 : Int32) (p3 : Int32) : entryFrame m #[(.int p0), (.int p1), (.int p2), (.int p3)] maxLocals = mkF m 0 #[.val (.int p0), .val (.int p1), .val (.int p2), .val (.int p3), .unset, .unset, .unset, .unset, .unset, .unset] [] := by first | (simp [entryFrame, mkF, argsToLocals, Value.category, maxLocals]; done) | rfl
def Q_rm0 (n0 : Nat) (v : Option Value) (h : Heap) (L : List Loc) : Prop := v = some (.int 1) ∧ Fr n0 L
set_option maxRecDepth 65536 in
set_option maxHeartbeats 40000000 in
theorem rm0 (l : Launch) (Z : State) (a0 : Array Value) (hw : ∀ d ∈ tables_1, d.before a0 Z = true) (ws : List Jvm.Cond) (cS : Int32) (p0 : Int32) (p1 : Int32) (p2 : Int32) (p3 : Int32) (h0 : Heap) (n0 : Nat) (O0 : Old Z n0 h0) (GL : GF Z cS) :
    MetFree l x (head1 (Jvm.Cond.code x code maxLocals ret :: ws) room_1) (fun a U => a = #[(.int p0), (.int p1), (.int p2), (.int p3)] ∧ Z.Warmed39 U.vm ∧ U.heap = h0 ∧ CHv Z EL1 U.vm h0) (fun _ _ _ _ _ => True) (fun _ U o U' => ∃ v L, o = .returned v ∧ Q_rm0 n0 v U'.heap L ∧ CHr Z EL1 U.vm U.heap U'.vm U'.heap ∧ ReturnedEndW U o U' L room_1.cells room_1.slots) := by
  refine MetFree.of_bodySF (plainFor_of_name pnv2) hisR ?_
  intro p e s m args below meth c s₁ Bd hml0 hP hK
  obtain ⟨rfl, hZ, hh, H0⟩ := hP
  have hx := Bd.exec
  have hby := Bd.bytes
  have hml : c.maxLocals = 10 := hml0
  have hown : s.vm.findClass "com/example/loomwire/loomwire/bundle/JavaPackagesRefusePinLaw" = some m.cls := findClass_of_methodNamed Bd.named
  have hnm := (name_of_methodNamed Bd.named Bd.method).1
  have X0 : Stand p l e room_1 s m #[(.int p0), (.int p1), (.int p2), (.int p3)] below meth c s₁ [] 0 0 := Stand.of_body Bd
  have e0 : s₁.heap = h0 := by rw [← hh, Bd.state]; rfl
  have N0 := Fr.nil n0
  have pre0 : ∀ t, Steps p.tables e below (s₁.setTop (mkF m 0 #[.val (.int p0), .val (.int p1), .val (.int p2), .val (.int p3), .unset, .unset, .unset, .unset, .unset, .unset] [])) t → Steps p.tables e below (s₁.setTop (entryFrame m #[(.int p0), (.int p1), (.int p2), (.int p3)] maxLocals)) t := fun t k => castTop (ef_rm0 m p0 p1 p2 p3) k
  have X0w : Stand p l e room_1 (s.setVm s.vm) m #[(.int p0), (.int p1), (.int p2), (.int p3)] below meth c s₁ [] 0 0 := X0
  have R0 : CHr Z EL1 s.vm h0 s.vm h0 := CHr.refl H0
  have hS0 : s.Since s.vm h0.size := (State.WarmedH.refl s).since _
  have GL' := GL
  obtain ⟨GCS, GCP⟩ := GL'
  obtain ⟨T1, h1, k1, X1, e1, E1, A1, A1', st1⟩ := newPE X0w hx hZ (Wd hw 0 rfl) e0 (g := (mkF m 2 #[.val (.int p0), .val (.int p1), .val (.int p2), .val (.int p3), .unset, .unset, .unset, .unset, .unset, .unset] [(.int 6)])) rfl (hb hby at_2) rfl (by decide) (cap := 6) (by decide) (by decide) (by decide) (by decide) (ad := "[C") rfl
  obtain ⟨b1, g1⟩ : ∃ z, z = h0.size := ⟨_, rfl⟩
  rw [← g1] at A1 A1' st1
  have g_b1 : n0 ≤ b1 := Nat.le_trans (own_sz O0) (Nat.le_of_eq g1.symm)
  have H_2 := H0.ext E1
  have R_2 := R0.trans (CHr.ext E1 H0)
  have O1 := O0.ext E1
  have V_b1 : Arv Z h1 b1 k1 .char (6 : Int32) [(.int 0), (.int 0), (.int 0), (.int 0), (.int 0), (.int 0)] (.int 0) := (Arv.new A1 (by decide)).pad (pad_rep [] (.int 0) 6)
  obtain ⟨cl3, Ar3, q3, S3, N3_, H3, G3⟩ := id (V_b1)
  have hin3 : ¬ ((0 : Int32) < 0 ∨ cl3.slots.size ≤ ((0 : Int32)).toNatClampNeg) := inb_of S3 ⟨(by decide), (by decide)⟩
  obtain ⟨T3, h3, X3, e3, W3, st3⟩ := stC X1 hx hZ e1 Ar3 (j := (0 : Int32)) hin3 (g := (mkF m 15 #[.val (.int p0), .val (.int p1), .val (.int p2), .val (.int p3), .val (.ref b1), .unset, .unset, .unset, .unset, .unset] [(.int (p0 &&& (255 : Int32))), (.int 0), (.ref b1)])) rfl rfl (hb hby at_15)
  have Sf5 : Safe Z EL1 s.vm h1 b1 := Safe.exa (EL := EL1) hZ.alike A1' (by decide) (by decide)
  have H_4 := H_2.wr W3 Sf5
  have R_4 := R_2.trans (CHr.wr W3 Sf5 H_2)
  have O3 := O1.wr W3 g_b1
  have N3 := Fr.snoc X3 N0 g_b1
  have V3' : Arv Z h3 b1 k1 .char (6 : Int32) [(.int (nar .char (p0 &&& (255 : Int32)))), (.int 0), (.int 0), (.int 0), (.int 0), (.int 0)] (.int 0) := Arv.set Ar3 q3 S3 N3_ H3 G3 (fits_nar_char _) W3 0 rfl (Nat.le_of_ble_eq_true rfl)
  have V3 : Arv Z h3 b1 k1 .char (6 : Int32) [(.int (p0 &&& (255 : Int32))), (.int 0), (.int 0), (.int 0), (.int 0), (.int 0)] (.int 0) := by
    rw [own_nar255 p0] at V3'
    exact V3'
  obtain ⟨cl6, Ar6, q6, S6, N6_, H6, G6⟩ := id (V3)
  have hin6 : ¬ ((1 : Int32) < 0 ∨ cl6.slots.size ≤ ((1 : Int32)).toNatClampNeg) := inb_of S6 ⟨(by decide), (by decide)⟩
  obtain ⟨T6, h6, X6, e6, W6, st6⟩ := stC X3 hx hZ e3 Ar6 (j := (1 : Int32)) hin6 (g := (mkF m 28 #[.val (.int p0), .val (.int p1), .val (.int p2), .val (.int p3), .val (.ref b1), .unset, .unset, .unset, .unset, .unset] [(.int (((p0.toUInt32 >>> ((8 : Int32) &&& 31).toUInt32).toInt32) &&& (255 : Int32))), (.int 1), (.ref b1)])) rfl rfl (hb hby at_28)
  have Sf8 : Safe Z EL1 s.vm h3 b1 := Safe.exa (EL := EL1) hZ.alike (A1'.wr W3) (by decide) (by decide)
  have H_7 := H_4.wr W6 Sf8
  have R_7 := R_4.trans (CHr.wr W6 Sf8 H_4)
  have O6 := O3.wr W6 g_b1
  have N6 := Fr.snoc X6 N3 g_b1
  have V6' : Arv Z h6 b1 k1 .char (6 : Int32) [(.int (p0 &&& (255 : Int32))), (.int (nar .char (((p0.toUInt32 >>> ((8 : Int32) &&& 31).toUInt32).toInt32) &&& (255 : Int32)))), (.int 0), (.int 0), (.int 0), (.int 0)] (.int 0) := Arv.set Ar6 q6 S6 N6_ H6 G6 (fits_nar_char _) W6 1 rfl (Nat.le_of_ble_eq_true rfl)
  have V6 : Arv Z h6 b1 k1 .char (6 : Int32) [(.int (p0 &&& (255 : Int32))), (.int (((p0.toUInt32 >>> ((8 : Int32) &&& 31).toUInt32).toInt32) &&& (255 : Int32))), (.int 0), (.int 0), (.int 0), (.int 0)] (.int 0) := by
    rw [own_nar255 ((p0.toUInt32 >>> ((8 : Int32) &&& 31).toUInt32).toInt32)] at V6'
    exact V6'
  obtain ⟨cl9, Ar9, q9, S9, N9_, H9, G9⟩ := id (V6)
  have hin9 : ¬ ((2 : Int32) < 0 ∨ cl9.slots.size ≤ ((2 : Int32)).toNatClampNeg) := inb_of S9 ⟨(by decide), (by decide)⟩
  obtain ⟨T9, h9, X9, e9, W9, st9⟩ := stC X6 hx hZ e6 Ar9 (j := (2 : Int32)) hin9 (g := (mkF m 41 #[.val (.int p0), .val (.int p1), .val (.int p2), .val (.int p3), .val (.ref b1), .unset, .unset, .unset, .unset, .unset] [(.int (((p0.toUInt32 >>> ((16 : Int32) &&& 31).toUInt32).toInt32) &&& (255 : Int32))), (.int 2), (.ref b1)])) rfl rfl (hb hby at_41)
  have Sf11 : Safe Z EL1 s.vm h6 b1 := Safe.exa (EL := EL1) hZ.alike ((A1'.wr W3).wr W6) (by decide) (by decide)
  have H_10 := H_7.wr W9 Sf11
  have R_10 := R_7.trans (CHr.wr W9 Sf11 H_7)
  have O9 := O6.wr W9 g_b1
  have N9 := Fr.snoc X9 N6 g_b1
  have V9' : Arv Z h9 b1 k1 .char (6 : Int32) [(.int (p0 &&& (255 : Int32))), (.int (((p0.toUInt32 >>> ((8 : Int32) &&& 31).toUInt32).toInt32) &&& (255 : Int32))), (.int (nar .char (((p0.toUInt32 >>> ((16 : Int32) &&& 31).toUInt32).toInt32) &&& (255 : Int32)))), (.int 0), (.int 0), (.int 0)] (.int 0) := Arv.set Ar9 q9 S9 N9_ H9 G9 (fits_nar_char _) W9 2 rfl (Nat.le_of_ble_eq_true rfl)
  have V9 : Arv Z h9 b1 k1 .char (6 : Int32) [(.int (p0 &&& (255 : Int32))), (.int (((p0.toUInt32 >>> ((8 : Int32) &&& 31).toUInt32).toInt32) &&& (255 : Int32))), (.int (((p0.toUInt32 >>> ((16 : Int32) &&& 31).toUInt32).toInt32) &&& (255 : Int32))), (.int 0), (.int 0), (.int 0)] (.int 0) := by
    rw [own_nar255 ((p0.toUInt32 >>> ((16 : Int32) &&& 31).toUInt32).toInt32)] at V9'
    exact V9'
  obtain ⟨cl12, Ar12, q12, S12, N12_, H12, G12⟩ := id (V9)
  have hin12 : ¬ ((3 : Int32) < 0 ∨ cl12.slots.size ≤ ((3 : Int32)).toNatClampNeg) := inb_of S12 ⟨(by decide), (by decide)⟩
  obtain ⟨T12, h12, X12, e12, W12, st12⟩ := stC X9 hx hZ e9 Ar12 (j := (3 : Int32)) hin12 (g := (mkF m 54 #[.val (.int p0), .val (.int p1), .val (.int p2), .val (.int p3), .val (.ref b1), .unset, .unset, .unset, .unset, .unset] [(.int (((p0.toUInt32 >>> ((24 : Int32) &&& 31).toUInt32).toInt32) &&& (255 : Int32))), (.int 3), (.ref b1)])) rfl rfl (hb hby at_54)
  have Sf14 : Safe Z EL1 s.vm h9 b1 := Safe.exa (EL := EL1) hZ.alike (((A1'.wr W3).wr W6).wr W9) (by decide) (by decide)
  have H_13 := H_10.wr W12 Sf14
  have R_13 := R_10.trans (CHr.wr W12 Sf14 H_10)
  have O12 := O9.wr W12 g_b1
  have N12 := Fr.snoc X12 N9 g_b1
  have V12' : Arv Z h12 b1 k1 .char (6 : Int32) [(.int (p0 &&& (255 : Int32))), (.int (((p0.toUInt32 >>> ((8 : Int32) &&& 31).toUInt32).toInt32) &&& (255 : Int32))), (.int (((p0.toUInt32 >>> ((16 : Int32) &&& 31).toUInt32).toInt32) &&& (255 : Int32))), (.int (nar .char (((p0.toUInt32 >>> ((24 : Int32) &&& 31).toUInt32).toInt32) &&& (255 : Int32)))), (.int 0), (.int 0)] (.int 0) := Arv.set Ar12 q12 S12 N12_ H12 G12 (fits_nar_char _) W12 3 rfl (Nat.le_of_ble_eq_true rfl)
  have V12 : Arv Z h12 b1 k1 .char (6 : Int32) [(.int (p0 &&& (255 : Int32))), (.int (((p0.toUInt32 >>> ((8 : Int32) &&& 31).toUInt32).toInt32) &&& (255 : Int32))), (.int (((p0.toUInt32 >>> ((16 : Int32) &&& 31).toUInt32).toInt32) &&& (255 : Int32))), (.int (((p0.toUInt32 >>> ((24 : Int32) &&& 31).toUInt32).toInt32) &&& (255 : Int32))), (.int 0), (.int 0)] (.int 0) := by
    rw [own_nar255 ((p0.toUInt32 >>> ((24 : Int32) &&& 31).toUInt32).toInt32)] at V12'
    exact V12'
  obtain ⟨cl15, Ar15, q15, S15, N15_, H15, G15⟩ := id (V12)
  have hin15 : ¬ ((4 : Int32) < 0 ∨ cl15.slots.size ≤ ((4 : Int32)).toNatClampNeg) := inb_of S15 ⟨(by decide), (by decide)⟩
  obtain ⟨T15, h15, X15, e15, W15, st15⟩ := stC X12 hx hZ e12 Ar15 (j := (4 : Int32)) hin15 (g := (mkF m 64 #[.val (.int p0), .val (.int p1), .val (.int p2), .val (.int p3), .val (.ref b1), .unset, .unset, .unset, .unset, .unset] [(.int (p1 &&& (255 : Int32))), (.int 4), (.ref b1)])) rfl rfl (hb hby at_64)
  have Sf17 : Safe Z EL1 s.vm h12 b1 := Safe.exa (EL := EL1) hZ.alike ((((A1'.wr W3).wr W6).wr W9).wr W12) (by decide) (by decide)
  have H_16 := H_13.wr W15 Sf17
  have R_16 := R_13.trans (CHr.wr W15 Sf17 H_13)
  have O15 := O12.wr W15 g_b1
  have N15 := Fr.snoc X15 N12 g_b1
  have V15' : Arv Z h15 b1 k1 .char (6 : Int32) [(.int (p0 &&& (255 : Int32))), (.int (((p0.toUInt32 >>> ((8 : Int32) &&& 31).toUInt32).toInt32) &&& (255 : Int32))), (.int (((p0.toUInt32 >>> ((16 : Int32) &&& 31).toUInt32).toInt32) &&& (255 : Int32))), (.int (((p0.toUInt32 >>> ((24 : Int32) &&& 31).toUInt32).toInt32) &&& (255 : Int32))), (.int (nar .char (p1 &&& (255 : Int32)))), (.int 0)] (.int 0) := Arv.set Ar15 q15 S15 N15_ H15 G15 (fits_nar_char _) W15 4 rfl (Nat.le_of_ble_eq_true rfl)
  have V15 : Arv Z h15 b1 k1 .char (6 : Int32) [(.int (p0 &&& (255 : Int32))), (.int (((p0.toUInt32 >>> ((8 : Int32) &&& 31).toUInt32).toInt32) &&& (255 : Int32))), (.int (((p0.toUInt32 >>> ((16 : Int32) &&& 31).toUInt32).toInt32) &&& (255 : Int32))), (.int (((p0.toUInt32 >>> ((24 : Int32) &&& 31).toUInt32).toInt32) &&& (255 : Int32))), (.int (p1 &&& (255 : Int32))), (.int 0)] (.int 0) := by
    rw [own_nar255 p1] at V15'
    exact V15'
  obtain ⟨cl18, Ar18, q18, S18, N18_, H18, G18⟩ := id (V15)
  have hin18 : ¬ ((5 : Int32) < 0 ∨ cl18.slots.size ≤ ((5 : Int32)).toNatClampNeg) := inb_of S18 ⟨(by decide), (by decide)⟩
  obtain ⟨T18, h18, X18, e18, W18, st18⟩ := stC X15 hx hZ e15 Ar18 (j := (5 : Int32)) hin18 (g := (mkF m 77 #[.val (.int p0), .val (.int p1), .val (.int p2), .val (.int p3), .val (.ref b1), .unset, .unset, .unset, .unset, .unset] [(.int (((p1.toUInt32 >>> ((8 : Int32) &&& 31).toUInt32).toInt32) &&& (255 : Int32))), (.int 5), (.ref b1)])) rfl rfl (hb hby at_77)
  have Sf20 : Safe Z EL1 s.vm h15 b1 := Safe.exa (EL := EL1) hZ.alike (((((A1'.wr W3).wr W6).wr W9).wr W12).wr W15) (by decide) (by decide)
  have H_19 := H_16.wr W18 Sf20
  have R_19 := R_16.trans (CHr.wr W18 Sf20 H_16)
  have O18 := O15.wr W18 g_b1
  have N18 := Fr.snoc X18 N15 g_b1
  have V18' : Arv Z h18 b1 k1 .char (6 : Int32) [(.int (p0 &&& (255 : Int32))), (.int (((p0.toUInt32 >>> ((8 : Int32) &&& 31).toUInt32).toInt32) &&& (255 : Int32))), (.int (((p0.toUInt32 >>> ((16 : Int32) &&& 31).toUInt32).toInt32) &&& (255 : Int32))), (.int (((p0.toUInt32 >>> ((24 : Int32) &&& 31).toUInt32).toInt32) &&& (255 : Int32))), (.int (p1 &&& (255 : Int32))), (.int (nar .char (((p1.toUInt32 >>> ((8 : Int32) &&& 31).toUInt32).toInt32) &&& (255 : Int32))))] (.int 0) := Arv.set Ar18 q18 S18 N18_ H18 G18 (fits_nar_char _) W18 5 rfl (Nat.le_of_ble_eq_true rfl)
  have V18 : Arv Z h18 b1 k1 .char (6 : Int32) [(.int (p0 &&& (255 : Int32))), (.int (((p0.toUInt32 >>> ((8 : Int32) &&& 31).toUInt32).toInt32) &&& (255 : Int32))), (.int (((p0.toUInt32 >>> ((16 : Int32) &&& 31).toUInt32).toInt32) &&& (255 : Int32))), (.int (((p0.toUInt32 >>> ((24 : Int32) &&& 31).toUInt32).toInt32) &&& (255 : Int32))), (.int (p1 &&& (255 : Int32))), (.int (((p1.toUInt32 >>> ((8 : Int32) &&& 31).toUInt32).toInt32) &&& (255 : Int32)))] (.int 0) := by
    rw [own_nar255 ((p1.toUInt32 >>> ((8 : Int32) &&& 31).toUInt32).toInt32)] at V18'
    exact V18'
  obtain ⟨e0_, he0_⟩ : ∃ z, z = (p0 &&& (255 : Int32)) := ⟨_, rfl⟩
  have hl0_ : ¬ ((255 : Int32) < e0_) := (by rw [he0_]; exact (own_and255 _).1)
  have hm0_ : ¬ (e0_ < (0 : Int32)) := (by rw [he0_]; exact (own_and255 _).2)
  have hn0_ : nar .char e0_ = e0_ := (by rw [he0_]; exact own_nar255 _)
  obtain ⟨e1_, he1_⟩ : ∃ z, z = (((p0.toUInt32 >>> ((8 : Int32) &&& 31).toUInt32).toInt32) &&& (255 : Int32)) := ⟨_, rfl⟩
  have hl1_ : ¬ ((255 : Int32) < e1_) := (by rw [he1_]; exact (own_and255 _).1)
  have hm1_ : ¬ (e1_ < (0 : Int32)) := (by rw [he1_]; exact (own_and255 _).2)
  have hn1_ : nar .char e1_ = e1_ := (by rw [he1_]; exact own_nar255 _)
  obtain ⟨e2_, he2_⟩ : ∃ z, z = (((p0.toUInt32 >>> ((16 : Int32) &&& 31).toUInt32).toInt32) &&& (255 : Int32)) := ⟨_, rfl⟩
  have hl2_ : ¬ ((255 : Int32) < e2_) := (by rw [he2_]; exact (own_and255 _).1)
  have hm2_ : ¬ (e2_ < (0 : Int32)) := (by rw [he2_]; exact (own_and255 _).2)
  have hn2_ : nar .char e2_ = e2_ := (by rw [he2_]; exact own_nar255 _)
  obtain ⟨e3_, he3_⟩ : ∃ z, z = (((p0.toUInt32 >>> ((24 : Int32) &&& 31).toUInt32).toInt32) &&& (255 : Int32)) := ⟨_, rfl⟩
  have hl3_ : ¬ ((255 : Int32) < e3_) := (by rw [he3_]; exact (own_and255 _).1)
  have hm3_ : ¬ (e3_ < (0 : Int32)) := (by rw [he3_]; exact (own_and255 _).2)
  have hn3_ : nar .char e3_ = e3_ := (by rw [he3_]; exact own_nar255 _)
  obtain ⟨e4_, he4_⟩ : ∃ z, z = (p1 &&& (255 : Int32)) := ⟨_, rfl⟩
  have hl4_ : ¬ ((255 : Int32) < e4_) := (by rw [he4_]; exact (own_and255 _).1)
  have hm4_ : ¬ (e4_ < (0 : Int32)) := (by rw [he4_]; exact (own_and255 _).2)
  have hn4_ : nar .char e4_ = e4_ := (by rw [he4_]; exact own_nar255 _)
  obtain ⟨e5_, he5_⟩ : ∃ z, z = (((p1.toUInt32 >>> ((8 : Int32) &&& 31).toUInt32).toInt32) &&& (255 : Int32)) := ⟨_, rfl⟩
  have hl5_ : ¬ ((255 : Int32) < e5_) := (by rw [he5_]; exact (own_and255 _).1)
  have hm5_ : ¬ (e5_ < (0 : Int32)) := (by rw [he5_]; exact (own_and255 _).2)
  have hn5_ : nar .char e5_ = e5_ := (by rw [he5_]; exact own_nar255 _)
  have Ve_ := V18
  rw [← he0_, ← he1_, ← he2_, ← he3_, ← he4_, ← he5_] at Ve_
  have pre22 : ∀ t, Steps p.tables e below (T18.setTop (mkF m 103 #[.val (.int p0), .val (.int p1), .val (.int p2), .val (.int p3), .val (.ref b1), .val (.int ((p2 &&& (2147483647 : Int32)) % (6 : Int32))), .val (.int ((((p2.toUInt32 >>> ((16 : Int32) &&& 31).toUInt32).toInt32) &&& (32767 : Int32)) % (7 : Int32))), .unset, .unset, .unset] [(.int 5), (.int ((p2 &&& (2147483647 : Int32)) % (6 : Int32)))])) t → Steps p.tables e below (s₁.setTop (entryFrame m #[(.int p0), (.int p1), (.int p2), (.int p3)] maxLocals)) t := fun t kt => by
    refine pre0 t ?_
    show Steps p.tables e below (s₁.setTop (mkF m 0 #[.val (.int p0), .val (.int p1), .val (.int p2), .val (.int p3), .unset, .unset, .unset, .unset, .unset, .unset] [])) _
    refine XS.bipush X0w.here hx rfl (hb hby at_0) ?_
    show Steps p.tables e below (s₁.setTop (mkF m 2 #[.val (.int p0), .val (.int p1), .val (.int p2), .val (.int p3), .unset, .unset, .unset, .unset, .unset, .unset] [(.int 6)])) _
    refine st1 _ ?_
    show Steps p.tables e below (T1.setTop (mkF m 4 #[.val (.int p0), .val (.int p1), .val (.int p2), .val (.int p3), .unset, .unset, .unset, .unset, .unset, .unset] [(.ref b1)])) _
    refine XS.astore X1.here hx rfl (hb hby at_4) rfl rfl (l' := #[.val (.int p0), .val (.int p1), .val (.int p2), .val (.int p3), .val (.ref b1), .unset, .unset, .unset, .unset, .unset]) rfl ?_
    refine XS.aload X1.here hx rfl (hb hby at_6) rfl rfl ?_
    refine XS.iconst X1.here hx rfl (hb hby at_8) ?_
    refine XS.iloadN X1.here hx rfl (hb hby at_9) rfl ?_
    show Steps p.tables e below (T1.setTop (mkF m 10 #[.val (.int p0), .val (.int p1), .val (.int p2), .val (.int p3), .val (.ref b1), .unset, .unset, .unset, .unset, .unset] [(.int p0), (.int 0), (.ref b1)])) _
    refine XS.sipush X1.here hx rfl (hb hby at_10) ?_
    refine XS.iand X1.here hx rfl (hb hby at_13) rfl ?_
    show Steps p.tables e below (T1.setTop (mkF m 14 #[.val (.int p0), .val (.int p1), .val (.int p2), .val (.int p3), .val (.ref b1), .unset, .unset, .unset, .unset, .unset] [(.int (p0 &&& (255 : Int32))), (.int 0), (.ref b1)])) _
    refine XS.i2c X1.here hx rfl (hb hby at_14) rfl ?_
    rw [i2c_mask p0]
    show Steps p.tables e below (T1.setTop (mkF m 15 #[.val (.int p0), .val (.int p1), .val (.int p2), .val (.int p3), .val (.ref b1), .unset, .unset, .unset, .unset, .unset] [(.int (p0 &&& (255 : Int32))), (.int 0), (.ref b1)])) _
    refine st3 _ ?_
    show Steps p.tables e below (T3.setTop (mkF m 16 #[.val (.int p0), .val (.int p1), .val (.int p2), .val (.int p3), .val (.ref b1), .unset, .unset, .unset, .unset, .unset] [])) _
    refine XS.aload X3.here hx rfl (hb hby at_16) rfl rfl ?_
    refine XS.iconst X3.here hx rfl (hb hby at_18) ?_
    refine XS.iloadN X3.here hx rfl (hb hby at_19) rfl ?_
    refine XS.bipush X3.here hx rfl (hb hby at_20) ?_
    show Steps p.tables e below (T3.setTop (mkF m 22 #[.val (.int p0), .val (.int p1), .val (.int p2), .val (.int p3), .val (.ref b1), .unset, .unset, .unset, .unset, .unset] [(.int 8), (.int p0), (.int 1), (.ref b1)])) _
    refine XS.iushr X3.here hx rfl (hb hby at_22) rfl ?_
    refine XS.sipush X3.here hx rfl (hb hby at_23) ?_
    refine XS.iand X3.here hx rfl (hb hby at_26) rfl ?_
    show Steps p.tables e below (T3.setTop (mkF m 27 #[.val (.int p0), .val (.int p1), .val (.int p2), .val (.int p3), .val (.ref b1), .unset, .unset, .unset, .unset, .unset] [(.int (((p0.toUInt32 >>> ((8 : Int32) &&& 31).toUInt32).toInt32) &&& (255 : Int32))), (.int 1), (.ref b1)])) _
    refine XS.i2c X3.here hx rfl (hb hby at_27) rfl ?_
    rw [i2c_mask ((p0.toUInt32 >>> ((8 : Int32) &&& 31).toUInt32).toInt32)]
    show Steps p.tables e below (T3.setTop (mkF m 28 #[.val (.int p0), .val (.int p1), .val (.int p2), .val (.int p3), .val (.ref b1), .unset, .unset, .unset, .unset, .unset] [(.int (((p0.toUInt32 >>> ((8 : Int32) &&& 31).toUInt32).toInt32) &&& (255 : Int32))), (.int 1), (.ref b1)])) _
    refine st6 _ ?_
    show Steps p.tables e below (T6.setTop (mkF m 29 #[.val (.int p0), .val (.int p1), .val (.int p2), .val (.int p3), .val (.ref b1), .unset, .unset, .unset, .unset, .unset] [])) _
    refine XS.aload X6.here hx rfl (hb hby at_29) rfl rfl ?_
    refine XS.iconst X6.here hx rfl (hb hby at_31) ?_
    refine XS.iloadN X6.here hx rfl (hb hby at_32) rfl ?_
    refine XS.bipush X6.here hx rfl (hb hby at_33) ?_
    show Steps p.tables e below (T6.setTop (mkF m 35 #[.val (.int p0), .val (.int p1), .val (.int p2), .val (.int p3), .val (.ref b1), .unset, .unset, .unset, .unset, .unset] [(.int 16), (.int p0), (.int 2), (.ref b1)])) _
    refine XS.iushr X6.here hx rfl (hb hby at_35) rfl ?_
    refine XS.sipush X6.here hx rfl (hb hby at_36) ?_
    refine XS.iand X6.here hx rfl (hb hby at_39) rfl ?_
    show Steps p.tables e below (T6.setTop (mkF m 40 #[.val (.int p0), .val (.int p1), .val (.int p2), .val (.int p3), .val (.ref b1), .unset, .unset, .unset, .unset, .unset] [(.int (((p0.toUInt32 >>> ((16 : Int32) &&& 31).toUInt32).toInt32) &&& (255 : Int32))), (.int 2), (.ref b1)])) _
    refine XS.i2c X6.here hx rfl (hb hby at_40) rfl ?_
    rw [i2c_mask ((p0.toUInt32 >>> ((16 : Int32) &&& 31).toUInt32).toInt32)]
    show Steps p.tables e below (T6.setTop (mkF m 41 #[.val (.int p0), .val (.int p1), .val (.int p2), .val (.int p3), .val (.ref b1), .unset, .unset, .unset, .unset, .unset] [(.int (((p0.toUInt32 >>> ((16 : Int32) &&& 31).toUInt32).toInt32) &&& (255 : Int32))), (.int 2), (.ref b1)])) _
    refine st9 _ ?_
    show Steps p.tables e below (T9.setTop (mkF m 42 #[.val (.int p0), .val (.int p1), .val (.int p2), .val (.int p3), .val (.ref b1), .unset, .unset, .unset, .unset, .unset] [])) _
    refine XS.aload X9.here hx rfl (hb hby at_42) rfl rfl ?_
    refine XS.iconst X9.here hx rfl (hb hby at_44) ?_
    refine XS.iloadN X9.here hx rfl (hb hby at_45) rfl ?_
    refine XS.bipush X9.here hx rfl (hb hby at_46) ?_
    show Steps p.tables e below (T9.setTop (mkF m 48 #[.val (.int p0), .val (.int p1), .val (.int p2), .val (.int p3), .val (.ref b1), .unset, .unset, .unset, .unset, .unset] [(.int 24), (.int p0), (.int 3), (.ref b1)])) _
    refine XS.iushr X9.here hx rfl (hb hby at_48) rfl ?_
    refine XS.sipush X9.here hx rfl (hb hby at_49) ?_
    refine XS.iand X9.here hx rfl (hb hby at_52) rfl ?_
    show Steps p.tables e below (T9.setTop (mkF m 53 #[.val (.int p0), .val (.int p1), .val (.int p2), .val (.int p3), .val (.ref b1), .unset, .unset, .unset, .unset, .unset] [(.int (((p0.toUInt32 >>> ((24 : Int32) &&& 31).toUInt32).toInt32) &&& (255 : Int32))), (.int 3), (.ref b1)])) _
    refine XS.i2c X9.here hx rfl (hb hby at_53) rfl ?_
    rw [i2c_mask ((p0.toUInt32 >>> ((24 : Int32) &&& 31).toUInt32).toInt32)]
    show Steps p.tables e below (T9.setTop (mkF m 54 #[.val (.int p0), .val (.int p1), .val (.int p2), .val (.int p3), .val (.ref b1), .unset, .unset, .unset, .unset, .unset] [(.int (((p0.toUInt32 >>> ((24 : Int32) &&& 31).toUInt32).toInt32) &&& (255 : Int32))), (.int 3), (.ref b1)])) _
    refine st12 _ ?_
    show Steps p.tables e below (T12.setTop (mkF m 55 #[.val (.int p0), .val (.int p1), .val (.int p2), .val (.int p3), .val (.ref b1), .unset, .unset, .unset, .unset, .unset] [])) _
    refine XS.aload X12.here hx rfl (hb hby at_55) rfl rfl ?_
    refine XS.iconst X12.here hx rfl (hb hby at_57) ?_
    refine XS.iloadN X12.here hx rfl (hb hby at_58) rfl ?_
    refine XS.sipush X12.here hx rfl (hb hby at_59) ?_
    show Steps p.tables e below (T12.setTop (mkF m 62 #[.val (.int p0), .val (.int p1), .val (.int p2), .val (.int p3), .val (.ref b1), .unset, .unset, .unset, .unset, .unset] [(.int 255), (.int p1), (.int 4), (.ref b1)])) _
    refine XS.iand X12.here hx rfl (hb hby at_62) rfl ?_
    show Steps p.tables e below (T12.setTop (mkF m 63 #[.val (.int p0), .val (.int p1), .val (.int p2), .val (.int p3), .val (.ref b1), .unset, .unset, .unset, .unset, .unset] [(.int (p1 &&& (255 : Int32))), (.int 4), (.ref b1)])) _
    refine XS.i2c X12.here hx rfl (hb hby at_63) rfl ?_
    rw [i2c_mask p1]
    show Steps p.tables e below (T12.setTop (mkF m 64 #[.val (.int p0), .val (.int p1), .val (.int p2), .val (.int p3), .val (.ref b1), .unset, .unset, .unset, .unset, .unset] [(.int (p1 &&& (255 : Int32))), (.int 4), (.ref b1)])) _
    refine st15 _ ?_
    show Steps p.tables e below (T15.setTop (mkF m 65 #[.val (.int p0), .val (.int p1), .val (.int p2), .val (.int p3), .val (.ref b1), .unset, .unset, .unset, .unset, .unset] [])) _
    refine XS.aload X15.here hx rfl (hb hby at_65) rfl rfl ?_
    refine XS.iconst X15.here hx rfl (hb hby at_67) ?_
    refine XS.iloadN X15.here hx rfl (hb hby at_68) rfl ?_
    refine XS.bipush X15.here hx rfl (hb hby at_69) ?_
    show Steps p.tables e below (T15.setTop (mkF m 71 #[.val (.int p0), .val (.int p1), .val (.int p2), .val (.int p3), .val (.ref b1), .unset, .unset, .unset, .unset, .unset] [(.int 8), (.int p1), (.int 5), (.ref b1)])) _
    refine XS.iushr X15.here hx rfl (hb hby at_71) rfl ?_
    refine XS.sipush X15.here hx rfl (hb hby at_72) ?_
    refine XS.iand X15.here hx rfl (hb hby at_75) rfl ?_
    show Steps p.tables e below (T15.setTop (mkF m 76 #[.val (.int p0), .val (.int p1), .val (.int p2), .val (.int p3), .val (.ref b1), .unset, .unset, .unset, .unset, .unset] [(.int (((p1.toUInt32 >>> ((8 : Int32) &&& 31).toUInt32).toInt32) &&& (255 : Int32))), (.int 5), (.ref b1)])) _
    refine XS.i2c X15.here hx rfl (hb hby at_76) rfl ?_
    rw [i2c_mask ((p1.toUInt32 >>> ((8 : Int32) &&& 31).toUInt32).toInt32)]
    show Steps p.tables e below (T15.setTop (mkF m 77 #[.val (.int p0), .val (.int p1), .val (.int p2), .val (.int p3), .val (.ref b1), .unset, .unset, .unset, .unset, .unset] [(.int (((p1.toUInt32 >>> ((8 : Int32) &&& 31).toUInt32).toInt32) &&& (255 : Int32))), (.int 5), (.ref b1)])) _
    refine st18 _ ?_
    show Steps p.tables e below (T18.setTop (mkF m 78 #[.val (.int p0), .val (.int p1), .val (.int p2), .val (.int p3), .val (.ref b1), .unset, .unset, .unset, .unset, .unset] [])) _
    refine XS.iloadN X18.here hx rfl (hb hby at_78) rfl ?_
    show Steps p.tables e below (T18.setTop (mkF m 79 #[.val (.int p0), .val (.int p1), .val (.int p2), .val (.int p3), .val (.ref b1), .unset, .unset, .unset, .unset, .unset] [(.int p2)])) _
    refine X18.ldcInt hx hown (mvT hZ (Wd hw 1 rfl)) (g := (mkF m 79 #[.val (.int p0), .val (.int p1), .val (.int p2), .val (.int p3), .val (.ref b1), .unset, .unset, .unset, .unset, .unset] [(.int p2)])) rfl (hb hby at_79) _ ?_
    show Steps p.tables e below (T18.setTop (mkF m 81 #[.val (.int p0), .val (.int p1), .val (.int p2), .val (.int p3), .val (.ref b1), .unset, .unset, .unset, .unset, .unset] [(.int 2147483647), (.int p2)])) _
    refine XS.iand X18.here hx rfl (hb hby at_81) rfl ?_
    refine XS.bipush X18.here hx rfl (hb hby at_82) ?_
    show Steps p.tables e below (T18.setTop (mkF m 84 #[.val (.int p0), .val (.int p1), .val (.int p2), .val (.int p3), .val (.ref b1), .unset, .unset, .unset, .unset, .unset] [(.int 6), (.int (p2 &&& (2147483647 : Int32)))])) _
    refine Jvm.RoadKit.iremM X18 hx rfl (hb hby at_84) rfl (by decide) ?_
    show Steps p.tables e below (T18.setTop (mkF m 85 #[.val (.int p0), .val (.int p1), .val (.int p2), .val (.int p3), .val (.ref b1), .unset, .unset, .unset, .unset, .unset] [(.int ((p2 &&& (2147483647 : Int32)) % (6 : Int32)))])) _
    refine XS.istore X18.here hx rfl (hb hby at_85) rfl (l' := #[.val (.int p0), .val (.int p1), .val (.int p2), .val (.int p3), .val (.ref b1), .val (.int ((p2 &&& (2147483647 : Int32)) % (6 : Int32))), .unset, .unset, .unset, .unset]) rfl ?_
    refine XS.iloadN X18.here hx rfl (hb hby at_87) rfl ?_
    refine XS.bipush X18.here hx rfl (hb hby at_88) ?_
    refine XS.iushr X18.here hx rfl (hb hby at_90) rfl ?_
    show Steps p.tables e below (T18.setTop (mkF m 91 #[.val (.int p0), .val (.int p1), .val (.int p2), .val (.int p3), .val (.ref b1), .val (.int ((p2 &&& (2147483647 : Int32)) % (6 : Int32))), .unset, .unset, .unset, .unset] [(.int ((p2.toUInt32 >>> ((16 : Int32) &&& 31).toUInt32).toInt32))])) _
    refine XS.sipush X18.here hx rfl (hb hby at_91) ?_
    refine XS.iand X18.here hx rfl (hb hby at_94) rfl ?_
    refine XS.bipush X18.here hx rfl (hb hby at_95) ?_
    show Steps p.tables e below (T18.setTop (mkF m 97 #[.val (.int p0), .val (.int p1), .val (.int p2), .val (.int p3), .val (.ref b1), .val (.int ((p2 &&& (2147483647 : Int32)) % (6 : Int32))), .unset, .unset, .unset, .unset] [(.int 7), (.int (((p2.toUInt32 >>> ((16 : Int32) &&& 31).toUInt32).toInt32) &&& (32767 : Int32)))])) _
    refine Jvm.RoadKit.iremM X18 hx rfl (hb hby at_97) rfl (by decide) ?_
    show Steps p.tables e below (T18.setTop (mkF m 98 #[.val (.int p0), .val (.int p1), .val (.int p2), .val (.int p3), .val (.ref b1), .val (.int ((p2 &&& (2147483647 : Int32)) % (6 : Int32))), .unset, .unset, .unset, .unset] [(.int ((((p2.toUInt32 >>> ((16 : Int32) &&& 31).toUInt32).toInt32) &&& (32767 : Int32)) % (7 : Int32)))])) _
    refine XS.istore X18.here hx rfl (hb hby at_98) rfl (l' := #[.val (.int p0), .val (.int p1), .val (.int p2), .val (.int p3), .val (.ref b1), .val (.int ((p2 &&& (2147483647 : Int32)) % (6 : Int32))), .val (.int ((((p2.toUInt32 >>> ((16 : Int32) &&& 31).toUInt32).toInt32) &&& (32767 : Int32)) % (7 : Int32))), .unset, .unset, .unset]) rfl ?_
    refine XS.iload X18.here hx rfl (hb hby at_100) rfl ?_
    refine XS.iconst X18.here hx rfl (hb hby at_102) ?_
    exact kt
  by_cases hc103_21 : ((p2 &&& (2147483647 : Int32)) % (6 : Int32)) < (5 : Int32)
  · obtain ⟨_, _, ⟨T23, L23, k23, n23⟩, -, X23, ⟨Lc23, hQ23, l23, y23, z23⟩, st23⟩ := Jvm.LawKit.callS X18 hx (y := MN_7) hown (mvT hZ (Wd hw 2 rfl)) (mvT hZ (Wd hw 3 rfl)) (mvT hZ (Wd hw 4 rfl)) (mvT hZ (Wd hw 5 rfl)) (by decide) (backOf (W := 0) (rmPl0 l Z a0 hw [] cS (b1) (((p2 &&& (2147483647 : Int32)) % (6 : Int32))) (k1) (e0_) (e1_) (e2_) (e3_) (e4_) (e5_) (h18) n0 O18 GL Ve_ g_b1 hl0_ hm0_ hn0_) hZ (Wd hw 5 rfl) (Wd hw 4 rfl) (by decide) (by decide)) (g := (mkF m 113 #[.val (.int p0), .val (.int p1), .val (.int p2), .val (.int p3), .val (.ref b1), .val (.int ((p2 &&& (2147483647 : Int32)) % (6 : Int32))), .val (.int ((((p2.toUInt32 >>> ((16 : Int32) &&& 31).toUInt32).toInt32) &&& (32767 : Int32)) % (7 : Int32))), .unset, .unset, .unset] [(.int 106), (.int ((p2 &&& (2147483647 : Int32)) % (6 : Int32))), (.int 0), (.ref b1)])) rfl (by rw [hml]; rfl) (argsL := [(.ref b1), (.int 0), (.int ((p2 &&& (2147483647 : Int32)) % (6 : Int32))), (.int 106)]) (rest := []) (lenOf pdv13 rfl) rfl (by show 2 * 0 + _ ≤ _; exact Nat.le_of_eq rfl) (hb hby at_113) (fun _ _ => ⟨rfl, e18, (by decide : 1 + 0 ≤ _), (by decide : 6 + 0 ≤ _)⟩)
    dsimp only [Pt.U, Pt.locs, Pt.cells, Pt.slots] at X23 l23 y23 z23 st23 hQ23
    subst l23 y23 z23
    obtain ⟨cn_23, rfl, N23q, Kc23, P23_0, P23_1, P23_2, P23_3⟩ := hQ23
    have O23 := O18.keep Kc23 (allS g_b1 all0)
    have Sf25 : Safe Z EL1 s.vm h18 b1 := Safe.exa (EL := EL1) hZ.alike ((((((A1'.wr W3).wr W6).wr W9).wr W12).wr W15).wr W18) (by decide) (by decide)
    have H_24 := H_19.keep Kc23 (sfS Sf25 sf0)
    have R_24 := R_19.trans (CHr.keep Kc23 (sfS Sf25 sf0) H_19)
    have N23 := Fr.app N18 N23q
    obtain ⟨_, _, ⟨T26, L26, k26, n26⟩, -, X26, ⟨Lc26, hQ26, l26, y26, z26⟩, st26⟩ := Jvm.LawKit.callS X23 hx (y := MN_7) hown (mvT hZ (Wd hw 2 rfl)) (mvT hZ (Wd hw 3 rfl)) (mvT hZ (Wd hw 4 rfl)) (mvT hZ (Wd hw 5 rfl)) (by decide) (backOf (W := 0) (rmPl1 l Z a0 hw [] cS (b1) (((p2 &&& (2147483647 : Int32)) % (6 : Int32))) (k1) (cn_23) (e1_) (e2_) (e3_) (e4_) (e5_) (T23.heap) n0 O23 GL P23_0 g_b1 hl1_ hm1_ hn1_) hZ (Wd hw 5 rfl) (Wd hw 4 rfl) (by decide) (by decide)) (g := (mkF m 123 #[.val (.int p0), .val (.int p1), .val (.int p2), .val (.int p3), .val (.ref b1), .val (.int ((p2 &&& (2147483647 : Int32)) % (6 : Int32))), .val (.int ((((p2.toUInt32 >>> ((16 : Int32) &&& 31).toUInt32).toInt32) &&& (32767 : Int32)) % (7 : Int32))), .unset, .unset, .unset] [(.int 97), (.int ((p2 &&& (2147483647 : Int32)) % (6 : Int32))), (.int 1), (.ref b1)])) rfl (by rw [hml]; rfl) (argsL := [(.ref b1), (.int 1), (.int ((p2 &&& (2147483647 : Int32)) % (6 : Int32))), (.int 97)]) (rest := []) (lenOf pdv13 rfl) rfl (by show 2 * 0 + _ ≤ _; exact Nat.le_of_eq rfl) (hb hby at_123) (fun _ _ => ⟨rfl, rfl, (by decide : 1 + 0 ≤ _), (by decide : 6 + 0 ≤ _)⟩)
    dsimp only [Pt.U, Pt.locs, Pt.cells, Pt.slots] at X26 l26 y26 z26 st26 hQ26
    subst l26 y26 z26
    obtain ⟨cn_26, rfl, N26q, Kc26, P26_0, P26_1, P26_2, P26_3⟩ := hQ26
    have O26 := O23.keep Kc26 (allS g_b1 all0)
    have Sf28 : Safe Z EL1 s.vm T23.heap b1 := Safe.exa (EL := EL1) hZ.alike (((((((A1'.wr W3).wr W6).wr W9).wr W12).wr W15).wr W18).keep Kc23) (by decide) (by decide)
    have H_27 := H_24.keep Kc26 (sfS Sf28 sf0)
    have R_27 := R_24.trans (CHr.keep Kc26 (sfS Sf28 sf0) H_24)
    have N26 := Fr.app N23 N26q
    obtain ⟨_, _, ⟨T29, L29, k29, n29⟩, -, X29, ⟨Lc29, hQ29, l29, y29, z29⟩, st29⟩ := Jvm.LawKit.callS X26 hx (y := MN_7) hown (mvT hZ (Wd hw 2 rfl)) (mvT hZ (Wd hw 3 rfl)) (mvT hZ (Wd hw 4 rfl)) (mvT hZ (Wd hw 5 rfl)) (by decide) (backOf (W := 0) (rmPl2 l Z a0 hw [] cS (b1) (((p2 &&& (2147483647 : Int32)) % (6 : Int32))) (k1) (cn_23) (cn_26) (e2_) (e3_) (e4_) (e5_) (T26.heap) n0 O26 GL P26_0 g_b1 hl2_ hm2_ hn2_) hZ (Wd hw 5 rfl) (Wd hw 4 rfl) (by decide) (by decide)) (g := (mkF m 133 #[.val (.int p0), .val (.int p1), .val (.int p2), .val (.int p3), .val (.ref b1), .val (.int ((p2 &&& (2147483647 : Int32)) % (6 : Int32))), .val (.int ((((p2.toUInt32 >>> ((16 : Int32) &&& 31).toUInt32).toInt32) &&& (32767 : Int32)) % (7 : Int32))), .unset, .unset, .unset] [(.int 118), (.int ((p2 &&& (2147483647 : Int32)) % (6 : Int32))), (.int 2), (.ref b1)])) rfl (by rw [hml]; rfl) (argsL := [(.ref b1), (.int 2), (.int ((p2 &&& (2147483647 : Int32)) % (6 : Int32))), (.int 118)]) (rest := []) (lenOf pdv13 rfl) rfl (by show 2 * 0 + _ ≤ _; exact Nat.le_of_eq rfl) (hb hby at_133) (fun _ _ => ⟨rfl, rfl, (by decide : 1 + 0 ≤ _), (by decide : 6 + 0 ≤ _)⟩)
    dsimp only [Pt.U, Pt.locs, Pt.cells, Pt.slots] at X29 l29 y29 z29 st29 hQ29
    subst l29 y29 z29
    obtain ⟨cn_29, rfl, N29q, Kc29, P29_0, P29_1, P29_2, P29_3⟩ := hQ29
    have O29 := O26.keep Kc29 (allS g_b1 all0)
    have Sf31 : Safe Z EL1 s.vm T26.heap b1 := Safe.exa (EL := EL1) hZ.alike ((((((((A1'.wr W3).wr W6).wr W9).wr W12).wr W15).wr W18).keep Kc23).keep Kc26) (by decide) (by decide)
    have H_30 := H_27.keep Kc29 (sfS Sf31 sf0)
    have R_30 := R_27.trans (CHr.keep Kc29 (sfS Sf31 sf0) H_27)
    have N29 := Fr.app N26 N29q
    obtain ⟨_, _, ⟨T32, L32, k32, n32⟩, -, X32, ⟨Lc32, hQ32, l32, y32, z32⟩, st32⟩ := Jvm.LawKit.callS X29 hx (y := MN_7) hown (mvT hZ (Wd hw 2 rfl)) (mvT hZ (Wd hw 3 rfl)) (mvT hZ (Wd hw 4 rfl)) (mvT hZ (Wd hw 5 rfl)) (by decide) (backOf (W := 0) (rmPl3 l Z a0 hw [] cS (b1) (((p2 &&& (2147483647 : Int32)) % (6 : Int32))) (k1) (cn_23) (cn_26) (cn_29) (e3_) (e4_) (e5_) (T29.heap) n0 O29 GL P29_0 g_b1 hl3_ hm3_ hn3_) hZ (Wd hw 5 rfl) (Wd hw 4 rfl) (by decide) (by decide)) (g := (mkF m 143 #[.val (.int p0), .val (.int p1), .val (.int p2), .val (.int p3), .val (.ref b1), .val (.int ((p2 &&& (2147483647 : Int32)) % (6 : Int32))), .val (.int ((((p2.toUInt32 >>> ((16 : Int32) &&& 31).toUInt32).toInt32) &&& (32767 : Int32)) % (7 : Int32))), .unset, .unset, .unset] [(.int 97), (.int ((p2 &&& (2147483647 : Int32)) % (6 : Int32))), (.int 3), (.ref b1)])) rfl (by rw [hml]; rfl) (argsL := [(.ref b1), (.int 3), (.int ((p2 &&& (2147483647 : Int32)) % (6 : Int32))), (.int 97)]) (rest := []) (lenOf pdv13 rfl) rfl (by show 2 * 0 + _ ≤ _; exact Nat.le_of_eq rfl) (hb hby at_143) (fun _ _ => ⟨rfl, rfl, (by decide : 1 + 0 ≤ _), (by decide : 6 + 0 ≤ _)⟩)
    dsimp only [Pt.U, Pt.locs, Pt.cells, Pt.slots] at X32 l32 y32 z32 st32 hQ32
    subst l32 y32 z32
    obtain ⟨cn_32, rfl, N32q, Kc32, P32_0, P32_1, P32_2, P32_3⟩ := hQ32
    have O32 := O29.keep Kc32 (allS g_b1 all0)
    have Sf34 : Safe Z EL1 s.vm T29.heap b1 := Safe.exa (EL := EL1) hZ.alike (((((((((A1'.wr W3).wr W6).wr W9).wr W12).wr W15).wr W18).keep Kc23).keep Kc26).keep Kc29) (by decide) (by decide)
    have H_33 := H_30.keep Kc32 (sfS Sf34 sf0)
    have R_33 := R_30.trans (CHr.keep Kc32 (sfS Sf34 sf0) H_30)
    have N32 := Fr.app N29 N32q
    obtain ⟨_, _, ⟨T35, L35, k35, n35⟩, -, X35, ⟨Lc35, hQ35, l35, y35, z35⟩, st35⟩ := Jvm.LawKit.callS X32 hx (y := MN_7) hown (mvT hZ (Wd hw 2 rfl)) (mvT hZ (Wd hw 3 rfl)) (mvT hZ (Wd hw 4 rfl)) (mvT hZ (Wd hw 5 rfl)) (by decide) (backOf (W := 0) (rmPl4 l Z a0 hw [] cS (b1) (((p2 &&& (2147483647 : Int32)) % (6 : Int32))) (k1) (cn_23) (cn_26) (cn_29) (cn_32) (e4_) (e5_) (T32.heap) n0 O32 GL P32_0 g_b1 hl4_ hm4_ hn4_) hZ (Wd hw 5 rfl) (Wd hw 4 rfl) (by decide) (by decide)) (g := (mkF m 153 #[.val (.int p0), .val (.int p1), .val (.int p2), .val (.int p3), .val (.ref b1), .val (.int ((p2 &&& (2147483647 : Int32)) % (6 : Int32))), .val (.int ((((p2.toUInt32 >>> ((16 : Int32) &&& 31).toUInt32).toInt32) &&& (32767 : Int32)) % (7 : Int32))), .unset, .unset, .unset] [(.int 46), (.int ((p2 &&& (2147483647 : Int32)) % (6 : Int32))), (.int 4), (.ref b1)])) rfl (by rw [hml]; rfl) (argsL := [(.ref b1), (.int 4), (.int ((p2 &&& (2147483647 : Int32)) % (6 : Int32))), (.int 46)]) (rest := []) (lenOf pdv13 rfl) rfl (by show 2 * 0 + _ ≤ _; exact Nat.le_of_eq rfl) (hb hby at_153) (fun _ _ => ⟨rfl, rfl, (by decide : 1 + 0 ≤ _), (by decide : 6 + 0 ≤ _)⟩)
    dsimp only [Pt.U, Pt.locs, Pt.cells, Pt.slots] at X35 l35 y35 z35 st35 hQ35
    subst l35 y35 z35
    obtain ⟨cn_35, rfl, N35q, Kc35, P35_0, P35_1, P35_2, P35_3⟩ := hQ35
    have O35 := O32.keep Kc35 (allS g_b1 all0)
    have Sf37 : Safe Z EL1 s.vm T32.heap b1 := Safe.exa (EL := EL1) hZ.alike ((((((((((A1'.wr W3).wr W6).wr W9).wr W12).wr W15).wr W18).keep Kc23).keep Kc26).keep Kc29).keep Kc32) (by decide) (by decide)
    have H_36 := H_33.keep Kc35 (sfS Sf37 sf0)
    have R_36 := R_33.trans (CHr.keep Kc35 (sfS Sf37 sf0) H_33)
    have N35 := Fr.app N32 N35q
    obtain ⟨v_38, T38, Lq38, X38, e38, N38, P38_0, st38⟩ := sg0 cS p0 p1 p2 p3 (cn_23) (cn_26) (cn_29) (cn_32) (cn_35) (e5_) (b1) (k1) (((p2 &&& (2147483647 : Int32)) % (6 : Int32))) (((((p2.toUInt32 >>> ((16 : Int32) &&& 31).toUInt32).toInt32) &&& (32767 : Int32)) % (7 : Int32))) X35 hx hZ hw hby hml hown rfl N35 O35 GL P35_0
    have hN7 : ((((p2.toUInt32 >>> ((16 : Int32) &&& 31).toUInt32).toInt32) &&& (32767 : Int32)) % (7 : Int32)) = 0 ∨ ((((p2.toUInt32 >>> ((16 : Int32) &&& 31).toUInt32).toInt32) &&& (32767 : Int32)) % (7 : Int32)) = 1 ∨ ((((p2.toUInt32 >>> ((16 : Int32) &&& 31).toUInt32).toInt32) &&& (32767 : Int32)) % (7 : Int32)) = 2 ∨ ((((p2.toUInt32 >>> ((16 : Int32) &&& 31).toUInt32).toInt32) &&& (32767 : Int32)) % (7 : Int32)) = 3 ∨ ((((p2.toUInt32 >>> ((16 : Int32) &&& 31).toUInt32).toInt32) &&& (32767 : Int32)) % (7 : Int32)) = 4 ∨ ((((p2.toUInt32 >>> ((16 : Int32) &&& 31).toUInt32).toInt32) &&& (32767 : Int32)) % (7 : Int32)) = 5 ∨ ((((p2.toUInt32 >>> ((16 : Int32) &&& 31).toUInt32).toInt32) &&& (32767 : Int32)) % (7 : Int32)) = 6 := own_n7 ((p2.toUInt32 >>> ((16 : Int32) &&& 31).toUInt32).toInt32)
    have pre39 : ∀ t, Steps p.tables e below (T38.setTop (mkF m 214 #[.val (.int p0), .val (.int p1), .val (.int p2), .val (.int p3), .val (.ref b1), .val (.int ((p2 &&& (2147483647 : Int32)) % (6 : Int32))), .val (.int ((((p2.toUInt32 >>> ((16 : Int32) &&& 31).toUInt32).toInt32) &&& (32767 : Int32)) % (7 : Int32))), .val (.int v_38), .unset, .unset] [])) t → Steps p.tables e below (s₁.setTop (entryFrame m #[(.int p0), (.int p1), (.int p2), (.int p3)] maxLocals)) t := fun t kt => by
      refine pre22 t ?_
      show Steps p.tables e below (T18.setTop (mkF m 103 #[.val (.int p0), .val (.int p1), .val (.int p2), .val (.int p3), .val (.ref b1), .val (.int ((p2 &&& (2147483647 : Int32)) % (6 : Int32))), .val (.int ((((p2.toUInt32 >>> ((16 : Int32) &&& 31).toUInt32).toInt32) &&& (32767 : Int32)) % (7 : Int32))), .unset, .unset, .unset] [(.int 5), (.int ((p2 &&& (2147483647 : Int32)) % (6 : Int32)))])) _
      refine XS.icmpNo X18.here hx rfl (hb hby at_103) rfl (tlt hc103_21).2.1 ?_
      refine XS.aload X18.here hx rfl (hb hby at_106) rfl rfl ?_
      refine XS.iconst X18.here hx rfl (hb hby at_108) ?_
      refine XS.iload X18.here hx rfl (hb hby at_109) rfl ?_
      show Steps p.tables e below (T18.setTop (mkF m 111 #[.val (.int p0), .val (.int p1), .val (.int p2), .val (.int p3), .val (.ref b1), .val (.int ((p2 &&& (2147483647 : Int32)) % (6 : Int32))), .val (.int ((((p2.toUInt32 >>> ((16 : Int32) &&& 31).toUInt32).toInt32) &&& (32767 : Int32)) % (7 : Int32))), .unset, .unset, .unset] [(.int ((p2 &&& (2147483647 : Int32)) % (6 : Int32))), (.int 0), (.ref b1)])) _
      refine XS.bipush X18.here hx rfl (hb hby at_111) ?_
      show Steps p.tables e below (T18.setTop (mkF m 113 #[.val (.int p0), .val (.int p1), .val (.int p2), .val (.int p3), .val (.ref b1), .val (.int ((p2 &&& (2147483647 : Int32)) % (6 : Int32))), .val (.int ((((p2.toUInt32 >>> ((16 : Int32) &&& 31).toUInt32).toInt32) &&& (32767 : Int32)) % (7 : Int32))), .unset, .unset, .unset] [(.int 106), (.int ((p2 &&& (2147483647 : Int32)) % (6 : Int32))), (.int 0), (.ref b1)])) _
      refine st23 _ ?_
      show Steps p.tables e below (T23.setTop (mkF m 116 #[.val (.int p0), .val (.int p1), .val (.int p2), .val (.int p3), .val (.ref b1), .val (.int ((p2 &&& (2147483647 : Int32)) % (6 : Int32))), .val (.int ((((p2.toUInt32 >>> ((16 : Int32) &&& 31).toUInt32).toInt32) &&& (32767 : Int32)) % (7 : Int32))), .unset, .unset, .unset] [])) _
      refine XS.aload X23.here hx rfl (hb hby at_116) rfl rfl ?_
      refine XS.iconst X23.here hx rfl (hb hby at_118) ?_
      refine XS.iload X23.here hx rfl (hb hby at_119) rfl ?_
      refine XS.bipush X23.here hx rfl (hb hby at_121) ?_
      show Steps p.tables e below (T23.setTop (mkF m 123 #[.val (.int p0), .val (.int p1), .val (.int p2), .val (.int p3), .val (.ref b1), .val (.int ((p2 &&& (2147483647 : Int32)) % (6 : Int32))), .val (.int ((((p2.toUInt32 >>> ((16 : Int32) &&& 31).toUInt32).toInt32) &&& (32767 : Int32)) % (7 : Int32))), .unset, .unset, .unset] [(.int 97), (.int ((p2 &&& (2147483647 : Int32)) % (6 : Int32))), (.int 1), (.ref b1)])) _
      refine st26 _ ?_
      show Steps p.tables e below (T26.setTop (mkF m 126 #[.val (.int p0), .val (.int p1), .val (.int p2), .val (.int p3), .val (.ref b1), .val (.int ((p2 &&& (2147483647 : Int32)) % (6 : Int32))), .val (.int ((((p2.toUInt32 >>> ((16 : Int32) &&& 31).toUInt32).toInt32) &&& (32767 : Int32)) % (7 : Int32))), .unset, .unset, .unset] [])) _
      refine XS.aload X26.here hx rfl (hb hby at_126) rfl rfl ?_
      refine XS.iconst X26.here hx rfl (hb hby at_128) ?_
      refine XS.iload X26.here hx rfl (hb hby at_129) rfl ?_
      refine XS.bipush X26.here hx rfl (hb hby at_131) ?_
      show Steps p.tables e below (T26.setTop (mkF m 133 #[.val (.int p0), .val (.int p1), .val (.int p2), .val (.int p3), .val (.ref b1), .val (.int ((p2 &&& (2147483647 : Int32)) % (6 : Int32))), .val (.int ((((p2.toUInt32 >>> ((16 : Int32) &&& 31).toUInt32).toInt32) &&& (32767 : Int32)) % (7 : Int32))), .unset, .unset, .unset] [(.int 118), (.int ((p2 &&& (2147483647 : Int32)) % (6 : Int32))), (.int 2), (.ref b1)])) _
      refine st29 _ ?_
      show Steps p.tables e below (T29.setTop (mkF m 136 #[.val (.int p0), .val (.int p1), .val (.int p2), .val (.int p3), .val (.ref b1), .val (.int ((p2 &&& (2147483647 : Int32)) % (6 : Int32))), .val (.int ((((p2.toUInt32 >>> ((16 : Int32) &&& 31).toUInt32).toInt32) &&& (32767 : Int32)) % (7 : Int32))), .unset, .unset, .unset] [])) _
      refine XS.aload X29.here hx rfl (hb hby at_136) rfl rfl ?_
      refine XS.iconst X29.here hx rfl (hb hby at_138) ?_
      refine XS.iload X29.here hx rfl (hb hby at_139) rfl ?_
      refine XS.bipush X29.here hx rfl (hb hby at_141) ?_
      show Steps p.tables e below (T29.setTop (mkF m 143 #[.val (.int p0), .val (.int p1), .val (.int p2), .val (.int p3), .val (.ref b1), .val (.int ((p2 &&& (2147483647 : Int32)) % (6 : Int32))), .val (.int ((((p2.toUInt32 >>> ((16 : Int32) &&& 31).toUInt32).toInt32) &&& (32767 : Int32)) % (7 : Int32))), .unset, .unset, .unset] [(.int 97), (.int ((p2 &&& (2147483647 : Int32)) % (6 : Int32))), (.int 3), (.ref b1)])) _
      refine st32 _ ?_
      show Steps p.tables e below (T32.setTop (mkF m 146 #[.val (.int p0), .val (.int p1), .val (.int p2), .val (.int p3), .val (.ref b1), .val (.int ((p2 &&& (2147483647 : Int32)) % (6 : Int32))), .val (.int ((((p2.toUInt32 >>> ((16 : Int32) &&& 31).toUInt32).toInt32) &&& (32767 : Int32)) % (7 : Int32))), .unset, .unset, .unset] [])) _
      refine XS.aload X32.here hx rfl (hb hby at_146) rfl rfl ?_
      refine XS.iconst X32.here hx rfl (hb hby at_148) ?_
      refine XS.iload X32.here hx rfl (hb hby at_149) rfl ?_
      refine XS.bipush X32.here hx rfl (hb hby at_151) ?_
      show Steps p.tables e below (T32.setTop (mkF m 153 #[.val (.int p0), .val (.int p1), .val (.int p2), .val (.int p3), .val (.ref b1), .val (.int ((p2 &&& (2147483647 : Int32)) % (6 : Int32))), .val (.int ((((p2.toUInt32 >>> ((16 : Int32) &&& 31).toUInt32).toInt32) &&& (32767 : Int32)) % (7 : Int32))), .unset, .unset, .unset] [(.int 46), (.int ((p2 &&& (2147483647 : Int32)) % (6 : Int32))), (.int 4), (.ref b1)])) _
      refine st35 _ ?_
      show Steps p.tables e below (T35.setTop (mkF m 156 #[.val (.int p0), .val (.int p1), .val (.int p2), .val (.int p3), .val (.ref b1), .val (.int ((p2 &&& (2147483647 : Int32)) % (6 : Int32))), .val (.int ((((p2.toUInt32 >>> ((16 : Int32) &&& 31).toUInt32).toInt32) &&& (32767 : Int32)) % (7 : Int32))), .unset, .unset, .unset] [])) _
      refine st38 _ ?_
      exact kt
    rcases P38_0 with ⟨ev, hA⟩ | ⟨ev, hA⟩
    · subst ev
      obtain ⟨fs, hr, hrun, hended, hRW⟩ := X38.leaveW hS0 (by rw [e38]; exact (Nat.le_trans (Nat.le_trans (Nat.le_trans (Nat.le_trans (Nat.le_trans (Nat.le_trans (Nat.le_trans (Nat.le_trans (Nat.le_trans (Nat.le_trans (Nat.le_trans (Nat.le_trans (Nat.le_refl _) E1.1) (Keep.of_wr W3).1) (Keep.of_wr W6).1) (Keep.of_wr W9).1) (Keep.of_wr W12).1) (Keep.of_wr W15).1) (Keep.of_wr W18).1) Kc23.1) Kc26.1) Kc29.1) Kc32.1) Kc35.1)) (v := some (.int 1)) (fun h => by rw [Bd.returns] at h; cases h)
      have hCR : CHr Z EL1 s.vm s.heap T38.vm T38.heap := by
        rw [hh, e38]
        exact R_36.trans (CHv.at X38 hZ (own_EW hw) H_36)
      refine ⟨_, _, pre39 _ ?_, hrun, hended, _, _, rfl, ?_, hCR, hRW.1, hRW.2.1, hRW.2.2.1, hRW.2.2.2.mono (by decide) (by decide)⟩
      · show Steps p.tables e below (T38.setTop (mkF m 214 #[.val (.int p0), .val (.int p1), .val (.int p2), .val (.int p3), .val (.ref b1), .val (.int ((p2 &&& (2147483647 : Int32)) % (6 : Int32))), .val (.int ((((p2.toUInt32 >>> ((16 : Int32) &&& 31).toUInt32).toInt32) &&& (32767 : Int32)) % (7 : Int32))), .val (.int 1), .unset, .unset] [])) _
        refine XS.iload X38.here hx rfl (hb hby at_214) rfl ?_
        refine XS.ifNo X38.here hx rfl (hb hby at_216) rfl ((if0 _ _).trans (feq (by decide : ¬ ((1 : Int32) = (0 : Int32)))).1) ?_
        refine XS.iconst X38.here hx rfl (hb hby at_219) ?_
        show Steps p.tables e below (T38.setTop (mkF m 220 #[.val (.int p0), .val (.int p1), .val (.int p2), .val (.int p3), .val (.ref b1), .val (.int ((p2 &&& (2147483647 : Int32)) % (6 : Int32))), .val (.int ((((p2.toUInt32 >>> ((16 : Int32) &&& 31).toUInt32).toInt32) &&& (32767 : Int32)) % (7 : Int32))), .val (.int 1), .unset, .unset] [(.int 1)])) _
        exact retN X38 hx (t := .boolean) Bd.returns (by simp) (hb hby at_220) hr
      · show Q_rm0 n0 _ T38.heap _
        rw [e38]
        exact ⟨rfl, N38⟩
    · subst ev
      obtain ⟨_, _, ⟨T40, L40, k40, n40⟩, -, X40', hS40', hg40, ⟨Lc40, hQ40, l40, y40, z40, Rs40⟩, st40⟩ := callSS X38 hx (y := MN_8) hown (mvT hZ (Wd hw 6 rfl)) (mvT hZ (Wd hw 7 rfl)) (mvT hZ (Wd hw 4 rfl)) (mvT hZ (Wd hw 8 rfl)) (by decide) (backOfSH (W := 0) (rmTk l Z a0 hw [] cS (b1) (((((p2.toUInt32 >>> ((16 : Int32) &&& 31).toUInt32).toInt32) &&& (32767 : Int32)) % (7 : Int32))) (k1) (cn_23) (cn_26) (cn_29) (cn_32) (cn_35) (e5_) (T35.heap) n0 O35 GL P35_0 P23_1 P26_1 P29_1 P32_1 P35_1 hl5_ P23_2 P26_2 P29_2 P32_2 P35_2 hm5_ P23_3 P26_3 P29_3 P32_3 P35_3 hn5_ hN7 hA) hZ (Wd hw 8 rfl) (Wd hw 4 rfl) (by decide) (by decide) (own_EW hw) H_36) (g := (mkF m 225 #[.val (.int p0), .val (.int p1), .val (.int p2), .val (.int p3), .val (.ref b1), .val (.int ((p2 &&& (2147483647 : Int32)) % (6 : Int32))), .val (.int ((((p2.toUInt32 >>> ((16 : Int32) &&& 31).toUInt32).toInt32) &&& (32767 : Int32)) % (7 : Int32))), .val (.int 0), .unset, .unset] [(.int ((((p2.toUInt32 >>> ((16 : Int32) &&& 31).toUInt32).toInt32) &&& (32767 : Int32)) % (7 : Int32))), (.ref b1)])) rfl (by rw [hml]; rfl) (argsL := [(.ref b1), (.int ((((p2.toUInt32 >>> ((16 : Int32) &&& 31).toUInt32).toInt32) &&& (32767 : Int32)) % (7 : Int32)))]) (rest := []) (lenOf pdv14 rfl) rfl (by show 2 * 0 + _ ≤ _; exact Nat.le_of_eq rfl) (hb hby at_225) (fun _ _ => ⟨rfl, e38, (by decide : 1 + 6 ≤ _), (by decide : 6 + 14 ≤ _)⟩)
      dsimp only [Pt.U, Pt.locs, Pt.cells, Pt.slots] at X40' l40 y40 z40 st40 hQ40 hS40' hg40 Rs40
      subst l40 y40 z40
      obtain ⟨X40, hS40, hZ40, hown40⟩ := rebS hS0 (by rw [e38]; exact (Nat.le_trans (Nat.le_trans (Nat.le_trans (Nat.le_trans (Nat.le_trans (Nat.le_trans (Nat.le_trans (Nat.le_trans (Nat.le_trans (Nat.le_trans (Nat.le_trans (Nat.le_trans (Nat.le_refl _) E1.1) (Keep.of_wr W3).1) (Keep.of_wr W6).1) (Keep.of_wr W9).1) (Keep.of_wr W12).1) (Keep.of_wr W15).1) (Keep.of_wr W18).1) Kc23.1) Kc26.1) Kc29.1) Kc32.1) Kc35.1)) X40' hS40' hg40 hZ hown
      obtain ⟨b_40, bv_40, kb_40, nl_40, vs_40, rfl, N40q, Kc40, P40_0, P40_1, P40_2, P40_3, P40_4⟩ := hQ40
      have O40 := O35.keep Kc40 all0
      have H_41 := Rs40.1
      have R_41 := R_36.trans Rs40
      have N40 := Fr.app N38 N40q
      have pre43 : ∀ t, Steps p.tables e below (T40.setTop (mkF m 233 #[.val (.int p0), .val (.int p1), .val (.int p2), .val (.int p3), .val (.ref b1), .val (.int ((p2 &&& (2147483647 : Int32)) % (6 : Int32))), .val (.int ((((p2.toUInt32 >>> ((16 : Int32) &&& 31).toUInt32).toInt32) &&& (32767 : Int32)) % (7 : Int32))), .val (.int 0), .val (.ref b_40), .unset] [(.int (p3 &&& (1 : Int32)))])) t → Steps p.tables e below (s₁.setTop (entryFrame m #[(.int p0), (.int p1), (.int p2), (.int p3)] maxLocals)) t := fun t kt => by
        refine pre39 t ?_
        show Steps p.tables e below (T38.setTop (mkF m 214 #[.val (.int p0), .val (.int p1), .val (.int p2), .val (.int p3), .val (.ref b1), .val (.int ((p2 &&& (2147483647 : Int32)) % (6 : Int32))), .val (.int ((((p2.toUInt32 >>> ((16 : Int32) &&& 31).toUInt32).toInt32) &&& (32767 : Int32)) % (7 : Int32))), .val (.int 0), .unset, .unset] [])) _
        refine XS.iload X38.here hx rfl (hb hby at_214) rfl ?_
        refine XS.ifYes X38.here hx rfl (pc0 := 216) (pc' := 221) rfl (hb hby at_216) rfl ((if0 _ _).trans (teq (by decide : (0 : Int32) = (0 : Int32))).1) (by decide) (by decide) ?_
        refine XS.aload X38.here hx rfl (hb hby at_221) rfl rfl ?_
        refine XS.iload X38.here hx rfl (hb hby at_223) rfl ?_
        show Steps p.tables e below (T38.setTop (mkF m 225 #[.val (.int p0), .val (.int p1), .val (.int p2), .val (.int p3), .val (.ref b1), .val (.int ((p2 &&& (2147483647 : Int32)) % (6 : Int32))), .val (.int ((((p2.toUInt32 >>> ((16 : Int32) &&& 31).toUInt32).toInt32) &&& (32767 : Int32)) % (7 : Int32))), .val (.int 0), .unset, .unset] [(.int ((((p2.toUInt32 >>> ((16 : Int32) &&& 31).toUInt32).toInt32) &&& (32767 : Int32)) % (7 : Int32))), (.ref b1)])) _
        refine st40.trans ?_
        show Steps p.tables e below (T40.setTop (mkF m 228 #[.val (.int p0), .val (.int p1), .val (.int p2), .val (.int p3), .val (.ref b1), .val (.int ((p2 &&& (2147483647 : Int32)) % (6 : Int32))), .val (.int ((((p2.toUInt32 >>> ((16 : Int32) &&& 31).toUInt32).toInt32) &&& (32767 : Int32)) % (7 : Int32))), .val (.int 0), .unset, .unset] [(.ref b_40)])) _
        refine XS.astore X40.here hx rfl (hb hby at_228) rfl rfl (l' := #[.val (.int p0), .val (.int p1), .val (.int p2), .val (.int p3), .val (.ref b1), .val (.int ((p2 &&& (2147483647 : Int32)) % (6 : Int32))), .val (.int ((((p2.toUInt32 >>> ((16 : Int32) &&& 31).toUInt32).toInt32) &&& (32767 : Int32)) % (7 : Int32))), .val (.int 0), .val (.ref b_40), .unset]) rfl ?_
        refine XS.iloadN X40.here hx rfl (hb hby at_230) rfl ?_
        refine XS.iconst X40.here hx rfl (hb hby at_231) ?_
        refine XS.iand X40.here hx rfl (hb hby at_232) rfl ?_
        exact kt
      by_cases hc233_42 : (p3 &&& (1 : Int32)) = (0 : Int32)
      · obtain ⟨a44, T44, h44, k144, b44, kc44, X44, e44, E44, hS44, hk44, hZ44, hown44, A44, Fc44, Fv44, V44, la44, lb44, Rs44, Li44, nel44, st44⟩ := ldcCH X40 hx hZ40 hown40 (Wd hw 60 rfl) (own_wS hw) rfl hS40 (Nat.le_refl _) (own_EW hw) (List.mem_of_getElem? (i := 1) rfl) H_41 (vs := [(.int 73), (.int 109), (.int 112), (.int 111), (.int 114), (.int 116), (.int 45), (.int 80), (.int 97), (.int 99), (.int 107), (.int 97), (.int 103), (.int 101)]) (z := (14 : Int32)) ⟨by decide, by decide⟩ (by decide) rfl (g := (mkF m 236 #[.val (.int p0), .val (.int p1), .val (.int p2), .val (.int p3), .val (.ref b1), .val (.int ((p2 &&& (2147483647 : Int32)) % (6 : Int32))), .val (.int ((((p2.toUInt32 >>> ((16 : Int32) &&& 31).toUInt32).toInt32) &&& (32767 : Int32)) % (7 : Int32))), .val (.int 0), .val (.ref b_40), .unset] [])) rfl (hb hby at_236) (n := 56) (by decide) (by decide) (by decide) (by decide)
        have H_45 := Rs44.1
        have R_45 := R_41.trans Rs44
        have O44 := O40.ext E44
        have pre47 : ∀ t, Steps p.tables e below (T44.setTop (mkF m 248 #[.val (.int p0), .val (.int p1), .val (.int p2), .val (.int p3), .val (.ref b1), .val (.int ((p2 &&& (2147483647 : Int32)) % (6 : Int32))), .val (.int ((((p2.toUInt32 >>> ((16 : Int32) &&& 31).toUInt32).toInt32) &&& (32767 : Int32)) % (7 : Int32))), .val (.int 0), .val (.ref b_40), .val (.ref a44)] [(.int (p3 &&& (2 : Int32)))])) t → Steps p.tables e below (s₁.setTop (entryFrame m #[(.int p0), (.int p1), (.int p2), (.int p3)] maxLocals)) t := fun t kt => by
          refine pre43 t ?_
          show Steps p.tables e below (T40.setTop (mkF m 233 #[.val (.int p0), .val (.int p1), .val (.int p2), .val (.int p3), .val (.ref b1), .val (.int ((p2 &&& (2147483647 : Int32)) % (6 : Int32))), .val (.int ((((p2.toUInt32 >>> ((16 : Int32) &&& 31).toUInt32).toInt32) &&& (32767 : Int32)) % (7 : Int32))), .val (.int 0), .val (.ref b_40), .unset] [(.int (p3 &&& (1 : Int32)))])) _
          refine XS.ifNo X40.here hx rfl (hb hby at_233) rfl ((if0 _ _).trans (teq hc233_42).2) ?_
          show Steps p.tables e below (T40.setTop (mkF m 236 #[.val (.int p0), .val (.int p1), .val (.int p2), .val (.int p3), .val (.ref b1), .val (.int ((p2 &&& (2147483647 : Int32)) % (6 : Int32))), .val (.int ((((p2.toUInt32 >>> ((16 : Int32) &&& 31).toUInt32).toInt32) &&& (32767 : Int32)) % (7 : Int32))), .val (.int 0), .val (.ref b_40), .unset] [])) _
          refine st44 _ ?_
          show Steps p.tables e below (T44.setTop (mkF m 238 #[.val (.int p0), .val (.int p1), .val (.int p2), .val (.int p3), .val (.ref b1), .val (.int ((p2 &&& (2147483647 : Int32)) % (6 : Int32))), .val (.int ((((p2.toUInt32 >>> ((16 : Int32) &&& 31).toUInt32).toInt32) &&& (32767 : Int32)) % (7 : Int32))), .val (.int 0), .val (.ref b_40), .unset] [(.ref a44)])) _
          refine XS.goto X44.here hx rfl (pc0 := 238) (pc' := 243) rfl (hb hby at_238) (by decide) (by decide) ?_
          refine XS.astore X44.here hx rfl (hb hby at_243) rfl rfl (l' := #[.val (.int p0), .val (.int p1), .val (.int p2), .val (.int p3), .val (.ref b1), .val (.int ((p2 &&& (2147483647 : Int32)) % (6 : Int32))), .val (.int ((((p2.toUInt32 >>> ((16 : Int32) &&& 31).toUInt32).toInt32) &&& (32767 : Int32)) % (7 : Int32))), .val (.int 0), .val (.ref b_40), .val (.ref a44)]) rfl ?_
          refine XS.iloadN X44.here hx rfl (hb hby at_245) rfl ?_
          refine XS.iconst X44.here hx rfl (hb hby at_246) ?_
          show Steps p.tables e below (T44.setTop (mkF m 247 #[.val (.int p0), .val (.int p1), .val (.int p2), .val (.int p3), .val (.ref b1), .val (.int ((p2 &&& (2147483647 : Int32)) % (6 : Int32))), .val (.int ((((p2.toUInt32 >>> ((16 : Int32) &&& 31).toUInt32).toInt32) &&& (32767 : Int32)) % (7 : Int32))), .val (.int 0), .val (.ref b_40), .val (.ref a44)] [(.int 2), (.int p3)])) _
          refine XS.iand X44.here hx rfl (hb hby at_247) rfl ?_
          exact kt
        by_cases hc248_46 : (p3 &&& (2 : Int32)) = (0 : Int32)
        · obtain ⟨_, _, ⟨T48, L48, k48, n48⟩, -, X48', hS48', hg48, ⟨Lc48, hQ48, l48, y48, z48, Rs48⟩, st48⟩ := callSS X44 hx (y := MN_13) hown44 (mvT hZ44 (Wd hw 31 rfl)) (mvT hZ44 (Wd hw 32 rfl)) (mvT hZ44 (Wd hw 33 rfl)) (mvT hZ44 (Wd hw 34 rfl)) (by decide) (backOfSH (W := 0) (rmRf l Z a0 hw [] cS (b_40) (a44) (bv_40) (kb_40) (nl_40) (vs_40) (h44) n0 O44 GL (P40_0.ext E44) (P40_1.ext E44) (P40_2.ext E44) (P40_3.ext E44) P40_4) hZ44 (Wd hw 34 rfl) (Wd hw 33 rfl) (by decide) (by decide) (own_EW hw) H_45) (g := (mkF m 269 #[.val (.int p0), .val (.int p1), .val (.int p2), .val (.int p3), .val (.ref b1), .val (.int ((p2 &&& (2147483647 : Int32)) % (6 : Int32))), .val (.int ((((p2.toUInt32 >>> ((16 : Int32) &&& 31).toUInt32).toInt32) &&& (32767 : Int32)) % (7 : Int32))), .val (.int 0), .val (.ref b_40), .val (.ref a44)] [(.ref a44), (.ref b_40)])) rfl (by rw [hml]; rfl) (argsL := [(.ref b_40), (.ref a44)]) (rest := []) (lenOf pdv15 rfl) rfl (by show 2 * 0 + _ ≤ _; exact Nat.le_of_eq rfl) (hb hby at_269) (fun _ _ => ⟨rfl, e44, (by decide : 9 + 2 ≤ _), (by decide : 80 + 24 ≤ _)⟩)
          dsimp only [Pt.U, Pt.locs, Pt.cells, Pt.slots] at X48' l48 y48 z48 st48 hQ48 hS48' hg48 Rs48
          subst l48 y48 z48
          obtain ⟨X48, hS48, hZ48, hown48⟩ := rebS hS44 (by rw [e44]; exact hk44) X48' hS48' hg48 hZ44 hown44
          obtain ⟨rfl, N48q, Kc48⟩ := hQ48
          have O48 := O44.keep Kc48 all0
          have H_49 := Rs48.1
          have R_49 := R_45.trans Rs48
          have N48 := Fr.app N40 N48q
          obtain ⟨fs, hr, hrun, hended, hRW⟩ := X48.leaveW hS48 (Nat.le_refl _) (v := some (.int 1)) (fun h => by rw [Bd.returns] at h; cases h)
          have hCR : CHr Z EL1 s.vm s.heap T48.vm T48.heap := by
            rw [hh]
            exact R_49.trans (CHv.at X48 hZ48 (own_EW hw) H_49)
          refine ⟨_, _, pre47 _ ?_, hrun, hended, _, _, rfl, ?_, hCR, hRW.1, hRW.2.1, hRW.2.2.1, hRW.2.2.2.mono (by decide) (by decide)⟩
          · show Steps p.tables e below (T44.setTop (mkF m 248 #[.val (.int p0), .val (.int p1), .val (.int p2), .val (.int p3), .val (.ref b1), .val (.int ((p2 &&& (2147483647 : Int32)) % (6 : Int32))), .val (.int ((((p2.toUInt32 >>> ((16 : Int32) &&& 31).toUInt32).toInt32) &&& (32767 : Int32)) % (7 : Int32))), .val (.int 0), .val (.ref b_40), .val (.ref a44)] [(.int (p3 &&& (2 : Int32)))])) _
            refine XS.ifYes X44.here hx rfl (pc0 := 248) (pc' := 265) rfl (hb hby at_248) rfl ((if0 _ _).trans (teq hc248_46).1) (by decide) (by decide) ?_
            refine XS.aload X44.here hx rfl (hb hby at_265) rfl rfl ?_
            refine XS.aload X44.here hx rfl (hb hby at_267) rfl rfl ?_
            show Steps p.tables e below (T44.setTop (mkF m 269 #[.val (.int p0), .val (.int p1), .val (.int p2), .val (.int p3), .val (.ref b1), .val (.int ((p2 &&& (2147483647 : Int32)) % (6 : Int32))), .val (.int ((((p2.toUInt32 >>> ((16 : Int32) &&& 31).toUInt32).toInt32) &&& (32767 : Int32)) % (7 : Int32))), .val (.int 0), .val (.ref b_40), .val (.ref a44)] [(.ref a44), (.ref b_40)])) _
            refine st48.trans ?_
            show Steps p.tables e below (T48.setTop (mkF m 272 #[.val (.int p0), .val (.int p1), .val (.int p2), .val (.int p3), .val (.ref b1), .val (.int ((p2 &&& (2147483647 : Int32)) % (6 : Int32))), .val (.int ((((p2.toUInt32 >>> ((16 : Int32) &&& 31).toUInt32).toInt32) &&& (32767 : Int32)) % (7 : Int32))), .val (.int 0), .val (.ref b_40), .val (.ref a44)] [])) _
            refine XS.iconst X48.here hx rfl (hb hby at_272) ?_
            show Steps p.tables e below (T48.setTop (mkF m 273 #[.val (.int p0), .val (.int p1), .val (.int p2), .val (.int p3), .val (.ref b1), .val (.int ((p2 &&& (2147483647 : Int32)) % (6 : Int32))), .val (.int ((((p2.toUInt32 >>> ((16 : Int32) &&& 31).toUInt32).toInt32) &&& (32767 : Int32)) % (7 : Int32))), .val (.int 0), .val (.ref b_40), .val (.ref a44)] [(.int 1)])) _
            exact retN X48 hx (t := .boolean) Bd.returns (by simp) (hb hby at_273) hr
          · show Q_rm0 n0 _ T48.heap _
            exact ⟨rfl, N48⟩
        · have hv : ¬ ((255 : Int32) < (((p3.toUInt32 >>> ((8 : Int32) &&& 31).toUInt32).toInt32) &&& (255 : Int32))) := (own_and255 _).1
          obtain ⟨_, _, ⟨T50, L50, k50, n50⟩, -, X50, ⟨Lc50, hQ50, l50, y50, z50⟩, st50⟩ := Jvm.LawKit.callS X44 hx (y := MN_17) hown44 (mvT hZ44 (Wd hw 61 rfl)) (mvT hZ44 (Wd hw 62 rfl)) (mvT hZ44 (Wd hw 11 rfl)) (mvT hZ44 (Wd hw 63 rfl)) (by decide) (backOf (W := 0) (rmVo l Z a0 hw [] cS ((((p3.toUInt32 >>> ((8 : Int32) &&& 31).toUInt32).toInt32) &&& (255 : Int32))) (h44) n0 O44 GL hv) hZ44 (Wd hw 63 rfl) (Wd hw 11 rfl) (by decide) (by decide)) (g := (mkF m 260 #[.val (.int p0), .val (.int p1), .val (.int p2), .val (.int p3), .val (.ref b1), .val (.int ((p2 &&& (2147483647 : Int32)) % (6 : Int32))), .val (.int ((((p2.toUInt32 >>> ((16 : Int32) &&& 31).toUInt32).toInt32) &&& (32767 : Int32)) % (7 : Int32))), .val (.int 0), .val (.ref b_40), .val (.ref a44)] [(.int (((p3.toUInt32 >>> ((8 : Int32) &&& 31).toUInt32).toInt32) &&& (255 : Int32)))])) rfl (by rw [hml]; rfl) (argsL := [(.int (((p3.toUInt32 >>> ((8 : Int32) &&& 31).toUInt32).toInt32) &&& (255 : Int32)))]) (rest := []) (lenOf pdv16 rfl) rfl (by show 2 * 0 + _ ≤ _; exact Nat.le_of_eq rfl) (hb hby at_260) (fun _ _ => ⟨rfl, e44, (by decide : 9 + 2 ≤ _), (by decide : 80 + 5 ≤ _)⟩)
          dsimp only [Pt.U, Pt.locs, Pt.cells, Pt.slots] at X50 l50 y50 z50 st50 hQ50
          subst l50 y50 z50
          obtain ⟨b_50, rfl, N50q, Kc50, P50_0, P50_1⟩ := hQ50
          have O50 := O44.keep Kc50 all0
          have H_51 := H_45.keep Kc50 sf0
          have R_51 := R_45.trans (CHr.keep Kc50 sf0 H_45)
          have g_b_50 : n0 ≤ b_50 := Nat.le_trans (own_sz O44) P50_0
          have N50 := Fr.app N40 N50q
          obtain ⟨_, _, ⟨T52, L52, k52, n52⟩, -, X52', hS52', hg52, ⟨Lc52, hQ52, l52, y52, z52, Rs52⟩, st52⟩ := callSS X50 hx (y := MN_13) hown44 (mvT hZ44 (Wd hw 31 rfl)) (mvT hZ44 (Wd hw 32 rfl)) (mvT hZ44 (Wd hw 33 rfl)) (mvT hZ44 (Wd hw 34 rfl)) (by decide) (backOfSH (W := 0) (rmRf l Z a0 hw [] cS (b_40) (b_50) (bv_40) (kb_40) (nl_40) (vs_40) (T50.heap) n0 O50 GL ((P40_0.ext E44).keep Kc50) ((P40_1.ext E44).keep Kc50 nin0) ((P40_2.ext E44).keep Kc50 nin0) ((P40_3.ext E44).keep Kc50 nin0) P40_4) hZ44 (Wd hw 34 rfl) (Wd hw 33 rfl) (by decide) (by decide) (own_EW hw) H_51) (g := (mkF m 269 #[.val (.int p0), .val (.int p1), .val (.int p2), .val (.int p3), .val (.ref b1), .val (.int ((p2 &&& (2147483647 : Int32)) % (6 : Int32))), .val (.int ((((p2.toUInt32 >>> ((16 : Int32) &&& 31).toUInt32).toInt32) &&& (32767 : Int32)) % (7 : Int32))), .val (.int 0), .val (.ref b_40), .val (.ref b_50)] [(.ref b_50), (.ref b_40)])) rfl (by rw [hml]; rfl) (argsL := [(.ref b_40), (.ref b_50)]) (rest := []) (lenOf pdv15 rfl) rfl (by show 2 * 0 + _ ≤ _; exact Nat.le_of_eq rfl) (hb hby at_269) (fun _ _ => ⟨rfl, rfl, (by decide : 11 + 2 ≤ _), (by decide : 85 + 24 ≤ _)⟩)
          dsimp only [Pt.U, Pt.locs, Pt.cells, Pt.slots] at X52' l52 y52 z52 st52 hQ52 hS52' hg52 Rs52
          subst l52 y52 z52
          obtain ⟨X52, hS52, hZ52, hown52⟩ := rebS hS44 (Nat.le_trans hk44 Kc50.1) X52' hS52' hg52 hZ44 hown44
          obtain ⟨rfl, N52q, Kc52⟩ := hQ52
          have O52 := O50.keep Kc52 all0
          have H_53 := Rs52.1
          have R_53 := R_51.trans Rs52
          have N52 := Fr.app N50 N52q
          obtain ⟨fs, hr, hrun, hended, hRW⟩ := X52.leaveW hS52 (Nat.le_refl _) (v := some (.int 1)) (fun h => by rw [Bd.returns] at h; cases h)
          have hCR : CHr Z EL1 s.vm s.heap T52.vm T52.heap := by
            rw [hh]
            exact R_53.trans (CHv.at X52 hZ52 (own_EW hw) H_53)
          refine ⟨_, _, pre47 _ ?_, hrun, hended, _, _, rfl, ?_, hCR, hRW.1, hRW.2.1, hRW.2.2.1, hRW.2.2.2.mono (by decide) (by decide)⟩
          · show Steps p.tables e below (T44.setTop (mkF m 248 #[.val (.int p0), .val (.int p1), .val (.int p2), .val (.int p3), .val (.ref b1), .val (.int ((p2 &&& (2147483647 : Int32)) % (6 : Int32))), .val (.int ((((p2.toUInt32 >>> ((16 : Int32) &&& 31).toUInt32).toInt32) &&& (32767 : Int32)) % (7 : Int32))), .val (.int 0), .val (.ref b_40), .val (.ref a44)] [(.int (p3 &&& (2 : Int32)))])) _
            refine XS.ifNo X44.here hx rfl (hb hby at_248) rfl ((if0 _ _).trans (feq hc248_46).1) ?_
            refine XS.iloadN X44.here hx rfl (hb hby at_251) rfl ?_
            refine XS.bipush X44.here hx rfl (hb hby at_252) ?_
            refine XS.iushr X44.here hx rfl (hb hby at_254) rfl ?_
            show Steps p.tables e below (T44.setTop (mkF m 255 #[.val (.int p0), .val (.int p1), .val (.int p2), .val (.int p3), .val (.ref b1), .val (.int ((p2 &&& (2147483647 : Int32)) % (6 : Int32))), .val (.int ((((p2.toUInt32 >>> ((16 : Int32) &&& 31).toUInt32).toInt32) &&& (32767 : Int32)) % (7 : Int32))), .val (.int 0), .val (.ref b_40), .val (.ref a44)] [(.int ((p3.toUInt32 >>> ((8 : Int32) &&& 31).toUInt32).toInt32))])) _
            refine XS.sipush X44.here hx rfl (hb hby at_255) ?_
            refine XS.iand X44.here hx rfl (hb hby at_258) rfl ?_
            show Steps p.tables e below (T44.setTop (mkF m 259 #[.val (.int p0), .val (.int p1), .val (.int p2), .val (.int p3), .val (.ref b1), .val (.int ((p2 &&& (2147483647 : Int32)) % (6 : Int32))), .val (.int ((((p2.toUInt32 >>> ((16 : Int32) &&& 31).toUInt32).toInt32) &&& (32767 : Int32)) % (7 : Int32))), .val (.int 0), .val (.ref b_40), .val (.ref a44)] [(.int (((p3.toUInt32 >>> ((8 : Int32) &&& 31).toUInt32).toInt32) &&& (255 : Int32)))])) _
            refine XS.i2c X44.here hx rfl (hb hby at_259) rfl ?_
            rw [i2c_mask ((p3.toUInt32 >>> ((8 : Int32) &&& 31).toUInt32).toInt32)]
            show Steps p.tables e below (T44.setTop (mkF m 260 #[.val (.int p0), .val (.int p1), .val (.int p2), .val (.int p3), .val (.ref b1), .val (.int ((p2 &&& (2147483647 : Int32)) % (6 : Int32))), .val (.int ((((p2.toUInt32 >>> ((16 : Int32) &&& 31).toUInt32).toInt32) &&& (32767 : Int32)) % (7 : Int32))), .val (.int 0), .val (.ref b_40), .val (.ref a44)] [(.int (((p3.toUInt32 >>> ((8 : Int32) &&& 31).toUInt32).toInt32) &&& (255 : Int32)))])) _
            refine st50 _ ?_
            show Steps p.tables e below (T50.setTop (mkF m 263 #[.val (.int p0), .val (.int p1), .val (.int p2), .val (.int p3), .val (.ref b1), .val (.int ((p2 &&& (2147483647 : Int32)) % (6 : Int32))), .val (.int ((((p2.toUInt32 >>> ((16 : Int32) &&& 31).toUInt32).toInt32) &&& (32767 : Int32)) % (7 : Int32))), .val (.int 0), .val (.ref b_40), .val (.ref a44)] [(.ref b_50)])) _
            refine XS.astore X50.here hx rfl (hb hby at_263) rfl rfl (l' := #[.val (.int p0), .val (.int p1), .val (.int p2), .val (.int p3), .val (.ref b1), .val (.int ((p2 &&& (2147483647 : Int32)) % (6 : Int32))), .val (.int ((((p2.toUInt32 >>> ((16 : Int32) &&& 31).toUInt32).toInt32) &&& (32767 : Int32)) % (7 : Int32))), .val (.int 0), .val (.ref b_40), .val (.ref b_50)]) rfl ?_
            refine XS.aload X50.here hx rfl (hb hby at_265) rfl rfl ?_
            refine XS.aload X50.here hx rfl (hb hby at_267) rfl rfl ?_
            show Steps p.tables e below (T50.setTop (mkF m 269 #[.val (.int p0), .val (.int p1), .val (.int p2), .val (.int p3), .val (.ref b1), .val (.int ((p2 &&& (2147483647 : Int32)) % (6 : Int32))), .val (.int ((((p2.toUInt32 >>> ((16 : Int32) &&& 31).toUInt32).toInt32) &&& (32767 : Int32)) % (7 : Int32))), .val (.int 0), .val (.ref b_40), .val (.ref b_50)] [(.ref b_50), (.ref b_40)])) _
            refine st52.trans ?_
            show Steps p.tables e below (T52.setTop (mkF m 272 #[.val (.int p0), .val (.int p1), .val (.int p2), .val (.int p3), .val (.ref b1), .val (.int ((p2 &&& (2147483647 : Int32)) % (6 : Int32))), .val (.int ((((p2.toUInt32 >>> ((16 : Int32) &&& 31).toUInt32).toInt32) &&& (32767 : Int32)) % (7 : Int32))), .val (.int 0), .val (.ref b_40), .val (.ref b_50)] [])) _
            refine XS.iconst X52.here hx rfl (hb hby at_272) ?_
            show Steps p.tables e below (T52.setTop (mkF m 273 #[.val (.int p0), .val (.int p1), .val (.int p2), .val (.int p3), .val (.ref b1), .val (.int ((p2 &&& (2147483647 : Int32)) % (6 : Int32))), .val (.int ((((p2.toUInt32 >>> ((16 : Int32) &&& 31).toUInt32).toInt32) &&& (32767 : Int32)) % (7 : Int32))), .val (.int 0), .val (.ref b_40), .val (.ref b_50)] [(.int 1)])) _
            exact retN X52 hx (t := .boolean) Bd.returns (by simp) (hb hby at_273) hr
          · show Q_rm0 n0 _ T52.heap _
            exact ⟨rfl, N52⟩
      · obtain ⟨a54, T54, h54, k154, b54, kc54, X54, e54, E54, hS54, hk54, hZ54, hown54, A54, Fc54, Fv54, V54, la54, lb54, Rs54, Li54, nel54, st54⟩ := ldcCH X40 hx hZ40 hown40 (Wd hw 30 rfl) (own_wS hw) rfl hS40 (Nat.le_refl _) (own_EW hw) (List.mem_of_getElem? (i := 2) rfl) H_41 (vs := [(.int 69), (.int 120), (.int 112), (.int 111), (.int 114), (.int 116), (.int 45), (.int 80), (.int 97), (.int 99), (.int 107), (.int 97), (.int 103), (.int 101)]) (z := (14 : Int32)) ⟨by decide, by decide⟩ (by decide) rfl (g := (mkF m 241 #[.val (.int p0), .val (.int p1), .val (.int p2), .val (.int p3), .val (.ref b1), .val (.int ((p2 &&& (2147483647 : Int32)) % (6 : Int32))), .val (.int ((((p2.toUInt32 >>> ((16 : Int32) &&& 31).toUInt32).toInt32) &&& (32767 : Int32)) % (7 : Int32))), .val (.int 0), .val (.ref b_40), .unset] [])) rfl (hb hby at_241) (n := 56) (by decide) (by decide) (by decide) (by decide)
        have H_55 := Rs54.1
        have R_55 := R_41.trans Rs54
        have O54 := O40.ext E54
        have pre57 : ∀ t, Steps p.tables e below (T54.setTop (mkF m 248 #[.val (.int p0), .val (.int p1), .val (.int p2), .val (.int p3), .val (.ref b1), .val (.int ((p2 &&& (2147483647 : Int32)) % (6 : Int32))), .val (.int ((((p2.toUInt32 >>> ((16 : Int32) &&& 31).toUInt32).toInt32) &&& (32767 : Int32)) % (7 : Int32))), .val (.int 0), .val (.ref b_40), .val (.ref a54)] [(.int (p3 &&& (2 : Int32)))])) t → Steps p.tables e below (s₁.setTop (entryFrame m #[(.int p0), (.int p1), (.int p2), (.int p3)] maxLocals)) t := fun t kt => by
          refine pre43 t ?_
          show Steps p.tables e below (T40.setTop (mkF m 233 #[.val (.int p0), .val (.int p1), .val (.int p2), .val (.int p3), .val (.ref b1), .val (.int ((p2 &&& (2147483647 : Int32)) % (6 : Int32))), .val (.int ((((p2.toUInt32 >>> ((16 : Int32) &&& 31).toUInt32).toInt32) &&& (32767 : Int32)) % (7 : Int32))), .val (.int 0), .val (.ref b_40), .unset] [(.int (p3 &&& (1 : Int32)))])) _
          refine XS.ifYes X40.here hx rfl (pc0 := 233) (pc' := 241) rfl (hb hby at_233) rfl ((if0 _ _).trans (feq hc233_42).2) (by decide) (by decide) ?_
          show Steps p.tables e below (T40.setTop (mkF m 241 #[.val (.int p0), .val (.int p1), .val (.int p2), .val (.int p3), .val (.ref b1), .val (.int ((p2 &&& (2147483647 : Int32)) % (6 : Int32))), .val (.int ((((p2.toUInt32 >>> ((16 : Int32) &&& 31).toUInt32).toInt32) &&& (32767 : Int32)) % (7 : Int32))), .val (.int 0), .val (.ref b_40), .unset] [])) _
          refine st54 _ ?_
          show Steps p.tables e below (T54.setTop (mkF m 243 #[.val (.int p0), .val (.int p1), .val (.int p2), .val (.int p3), .val (.ref b1), .val (.int ((p2 &&& (2147483647 : Int32)) % (6 : Int32))), .val (.int ((((p2.toUInt32 >>> ((16 : Int32) &&& 31).toUInt32).toInt32) &&& (32767 : Int32)) % (7 : Int32))), .val (.int 0), .val (.ref b_40), .unset] [(.ref a54)])) _
          refine XS.astore X54.here hx rfl (hb hby at_243) rfl rfl (l' := #[.val (.int p0), .val (.int p1), .val (.int p2), .val (.int p3), .val (.ref b1), .val (.int ((p2 &&& (2147483647 : Int32)) % (6 : Int32))), .val (.int ((((p2.toUInt32 >>> ((16 : Int32) &&& 31).toUInt32).toInt32) &&& (32767 : Int32)) % (7 : Int32))), .val (.int 0), .val (.ref b_40), .val (.ref a54)]) rfl ?_
          refine XS.iloadN X54.here hx rfl (hb hby at_245) rfl ?_
          refine XS.iconst X54.here hx rfl (hb hby at_246) ?_
          refine XS.iand X54.here hx rfl (hb hby at_247) rfl ?_
          exact kt
        by_cases hc248_56 : (p3 &&& (2 : Int32)) = (0 : Int32)
        · obtain ⟨_, _, ⟨T58, L58, k58, n58⟩, -, X58', hS58', hg58, ⟨Lc58, hQ58, l58, y58, z58, Rs58⟩, st58⟩ := callSS X54 hx (y := MN_13) hown54 (mvT hZ54 (Wd hw 31 rfl)) (mvT hZ54 (Wd hw 32 rfl)) (mvT hZ54 (Wd hw 33 rfl)) (mvT hZ54 (Wd hw 34 rfl)) (by decide) (backOfSH (W := 0) (rmRf l Z a0 hw [] cS (b_40) (a54) (bv_40) (kb_40) (nl_40) (vs_40) (h54) n0 O54 GL (P40_0.ext E54) (P40_1.ext E54) (P40_2.ext E54) (P40_3.ext E54) P40_4) hZ54 (Wd hw 34 rfl) (Wd hw 33 rfl) (by decide) (by decide) (own_EW hw) H_55) (g := (mkF m 269 #[.val (.int p0), .val (.int p1), .val (.int p2), .val (.int p3), .val (.ref b1), .val (.int ((p2 &&& (2147483647 : Int32)) % (6 : Int32))), .val (.int ((((p2.toUInt32 >>> ((16 : Int32) &&& 31).toUInt32).toInt32) &&& (32767 : Int32)) % (7 : Int32))), .val (.int 0), .val (.ref b_40), .val (.ref a54)] [(.ref a54), (.ref b_40)])) rfl (by rw [hml]; rfl) (argsL := [(.ref b_40), (.ref a54)]) (rest := []) (lenOf pdv15 rfl) rfl (by show 2 * 0 + _ ≤ _; exact Nat.le_of_eq rfl) (hb hby at_269) (fun _ _ => ⟨rfl, e54, (by decide : 9 + 2 ≤ _), (by decide : 80 + 24 ≤ _)⟩)
          dsimp only [Pt.U, Pt.locs, Pt.cells, Pt.slots] at X58' l58 y58 z58 st58 hQ58 hS58' hg58 Rs58
          subst l58 y58 z58
          obtain ⟨X58, hS58, hZ58, hown58⟩ := rebS hS54 (by rw [e54]; exact hk54) X58' hS58' hg58 hZ54 hown54
          obtain ⟨rfl, N58q, Kc58⟩ := hQ58
          have O58 := O54.keep Kc58 all0
          have H_59 := Rs58.1
          have R_59 := R_55.trans Rs58
          have N58 := Fr.app N40 N58q
          obtain ⟨fs, hr, hrun, hended, hRW⟩ := X58.leaveW hS58 (Nat.le_refl _) (v := some (.int 1)) (fun h => by rw [Bd.returns] at h; cases h)
          have hCR : CHr Z EL1 s.vm s.heap T58.vm T58.heap := by
            rw [hh]
            exact R_59.trans (CHv.at X58 hZ58 (own_EW hw) H_59)
          refine ⟨_, _, pre57 _ ?_, hrun, hended, _, _, rfl, ?_, hCR, hRW.1, hRW.2.1, hRW.2.2.1, hRW.2.2.2.mono (by decide) (by decide)⟩
          · show Steps p.tables e below (T54.setTop (mkF m 248 #[.val (.int p0), .val (.int p1), .val (.int p2), .val (.int p3), .val (.ref b1), .val (.int ((p2 &&& (2147483647 : Int32)) % (6 : Int32))), .val (.int ((((p2.toUInt32 >>> ((16 : Int32) &&& 31).toUInt32).toInt32) &&& (32767 : Int32)) % (7 : Int32))), .val (.int 0), .val (.ref b_40), .val (.ref a54)] [(.int (p3 &&& (2 : Int32)))])) _
            refine XS.ifYes X54.here hx rfl (pc0 := 248) (pc' := 265) rfl (hb hby at_248) rfl ((if0 _ _).trans (teq hc248_56).1) (by decide) (by decide) ?_
            refine XS.aload X54.here hx rfl (hb hby at_265) rfl rfl ?_
            refine XS.aload X54.here hx rfl (hb hby at_267) rfl rfl ?_
            show Steps p.tables e below (T54.setTop (mkF m 269 #[.val (.int p0), .val (.int p1), .val (.int p2), .val (.int p3), .val (.ref b1), .val (.int ((p2 &&& (2147483647 : Int32)) % (6 : Int32))), .val (.int ((((p2.toUInt32 >>> ((16 : Int32) &&& 31).toUInt32).toInt32) &&& (32767 : Int32)) % (7 : Int32))), .val (.int 0), .val (.ref b_40), .val (.ref a54)] [(.ref a54), (.ref b_40)])) _
            refine st58.trans ?_
            show Steps p.tables e below (T58.setTop (mkF m 272 #[.val (.int p0), .val (.int p1), .val (.int p2), .val (.int p3), .val (.ref b1), .val (.int ((p2 &&& (2147483647 : Int32)) % (6 : Int32))), .val (.int ((((p2.toUInt32 >>> ((16 : Int32) &&& 31).toUInt32).toInt32) &&& (32767 : Int32)) % (7 : Int32))), .val (.int 0), .val (.ref b_40), .val (.ref a54)] [])) _
            refine XS.iconst X58.here hx rfl (hb hby at_272) ?_
            show Steps p.tables e below (T58.setTop (mkF m 273 #[.val (.int p0), .val (.int p1), .val (.int p2), .val (.int p3), .val (.ref b1), .val (.int ((p2 &&& (2147483647 : Int32)) % (6 : Int32))), .val (.int ((((p2.toUInt32 >>> ((16 : Int32) &&& 31).toUInt32).toInt32) &&& (32767 : Int32)) % (7 : Int32))), .val (.int 0), .val (.ref b_40), .val (.ref a54)] [(.int 1)])) _
            exact retN X58 hx (t := .boolean) Bd.returns (by simp) (hb hby at_273) hr
          · show Q_rm0 n0 _ T58.heap _
            exact ⟨rfl, N58⟩
        · have hv : ¬ ((255 : Int32) < (((p3.toUInt32 >>> ((8 : Int32) &&& 31).toUInt32).toInt32) &&& (255 : Int32))) := (own_and255 _).1
          obtain ⟨_, _, ⟨T60, L60, k60, n60⟩, -, X60, ⟨Lc60, hQ60, l60, y60, z60⟩, st60⟩ := Jvm.LawKit.callS X54 hx (y := MN_17) hown54 (mvT hZ54 (Wd hw 61 rfl)) (mvT hZ54 (Wd hw 62 rfl)) (mvT hZ54 (Wd hw 11 rfl)) (mvT hZ54 (Wd hw 63 rfl)) (by decide) (backOf (W := 0) (rmVo l Z a0 hw [] cS ((((p3.toUInt32 >>> ((8 : Int32) &&& 31).toUInt32).toInt32) &&& (255 : Int32))) (h54) n0 O54 GL hv) hZ54 (Wd hw 63 rfl) (Wd hw 11 rfl) (by decide) (by decide)) (g := (mkF m 260 #[.val (.int p0), .val (.int p1), .val (.int p2), .val (.int p3), .val (.ref b1), .val (.int ((p2 &&& (2147483647 : Int32)) % (6 : Int32))), .val (.int ((((p2.toUInt32 >>> ((16 : Int32) &&& 31).toUInt32).toInt32) &&& (32767 : Int32)) % (7 : Int32))), .val (.int 0), .val (.ref b_40), .val (.ref a54)] [(.int (((p3.toUInt32 >>> ((8 : Int32) &&& 31).toUInt32).toInt32) &&& (255 : Int32)))])) rfl (by rw [hml]; rfl) (argsL := [(.int (((p3.toUInt32 >>> ((8 : Int32) &&& 31).toUInt32).toInt32) &&& (255 : Int32)))]) (rest := []) (lenOf pdv16 rfl) rfl (by show 2 * 0 + _ ≤ _; exact Nat.le_of_eq rfl) (hb hby at_260) (fun _ _ => ⟨rfl, e54, (by decide : 9 + 2 ≤ _), (by decide : 80 + 5 ≤ _)⟩)
          dsimp only [Pt.U, Pt.locs, Pt.cells, Pt.slots] at X60 l60 y60 z60 st60 hQ60
          subst l60 y60 z60
          obtain ⟨b_60, rfl, N60q, Kc60, P60_0, P60_1⟩ := hQ60
          have O60 := O54.keep Kc60 all0
          have H_61 := H_55.keep Kc60 sf0
          have R_61 := R_55.trans (CHr.keep Kc60 sf0 H_55)
          have g_b_60 : n0 ≤ b_60 := Nat.le_trans (own_sz O54) P60_0
          have N60 := Fr.app N40 N60q
          obtain ⟨_, _, ⟨T62, L62, k62, n62⟩, -, X62', hS62', hg62, ⟨Lc62, hQ62, l62, y62, z62, Rs62⟩, st62⟩ := callSS X60 hx (y := MN_13) hown54 (mvT hZ54 (Wd hw 31 rfl)) (mvT hZ54 (Wd hw 32 rfl)) (mvT hZ54 (Wd hw 33 rfl)) (mvT hZ54 (Wd hw 34 rfl)) (by decide) (backOfSH (W := 0) (rmRf l Z a0 hw [] cS (b_40) (b_60) (bv_40) (kb_40) (nl_40) (vs_40) (T60.heap) n0 O60 GL ((P40_0.ext E54).keep Kc60) ((P40_1.ext E54).keep Kc60 nin0) ((P40_2.ext E54).keep Kc60 nin0) ((P40_3.ext E54).keep Kc60 nin0) P40_4) hZ54 (Wd hw 34 rfl) (Wd hw 33 rfl) (by decide) (by decide) (own_EW hw) H_61) (g := (mkF m 269 #[.val (.int p0), .val (.int p1), .val (.int p2), .val (.int p3), .val (.ref b1), .val (.int ((p2 &&& (2147483647 : Int32)) % (6 : Int32))), .val (.int ((((p2.toUInt32 >>> ((16 : Int32) &&& 31).toUInt32).toInt32) &&& (32767 : Int32)) % (7 : Int32))), .val (.int 0), .val (.ref b_40), .val (.ref b_60)] [(.ref b_60), (.ref b_40)])) rfl (by rw [hml]; rfl) (argsL := [(.ref b_40), (.ref b_60)]) (rest := []) (lenOf pdv15 rfl) rfl (by show 2 * 0 + _ ≤ _; exact Nat.le_of_eq rfl) (hb hby at_269) (fun _ _ => ⟨rfl, rfl, (by decide : 11 + 2 ≤ _), (by decide : 85 + 24 ≤ _)⟩)
          dsimp only [Pt.U, Pt.locs, Pt.cells, Pt.slots] at X62' l62 y62 z62 st62 hQ62 hS62' hg62 Rs62
          subst l62 y62 z62
          obtain ⟨X62, hS62, hZ62, hown62⟩ := rebS hS54 (Nat.le_trans hk54 Kc60.1) X62' hS62' hg62 hZ54 hown54
          obtain ⟨rfl, N62q, Kc62⟩ := hQ62
          have O62 := O60.keep Kc62 all0
          have H_63 := Rs62.1
          have R_63 := R_61.trans Rs62
          have N62 := Fr.app N60 N62q
          obtain ⟨fs, hr, hrun, hended, hRW⟩ := X62.leaveW hS62 (Nat.le_refl _) (v := some (.int 1)) (fun h => by rw [Bd.returns] at h; cases h)
          have hCR : CHr Z EL1 s.vm s.heap T62.vm T62.heap := by
            rw [hh]
            exact R_63.trans (CHv.at X62 hZ62 (own_EW hw) H_63)
          refine ⟨_, _, pre57 _ ?_, hrun, hended, _, _, rfl, ?_, hCR, hRW.1, hRW.2.1, hRW.2.2.1, hRW.2.2.2.mono (by decide) (by decide)⟩
          · show Steps p.tables e below (T54.setTop (mkF m 248 #[.val (.int p0), .val (.int p1), .val (.int p2), .val (.int p3), .val (.ref b1), .val (.int ((p2 &&& (2147483647 : Int32)) % (6 : Int32))), .val (.int ((((p2.toUInt32 >>> ((16 : Int32) &&& 31).toUInt32).toInt32) &&& (32767 : Int32)) % (7 : Int32))), .val (.int 0), .val (.ref b_40), .val (.ref a54)] [(.int (p3 &&& (2 : Int32)))])) _
            refine XS.ifNo X54.here hx rfl (hb hby at_248) rfl ((if0 _ _).trans (feq hc248_56).1) ?_
            refine XS.iloadN X54.here hx rfl (hb hby at_251) rfl ?_
            refine XS.bipush X54.here hx rfl (hb hby at_252) ?_
            refine XS.iushr X54.here hx rfl (hb hby at_254) rfl ?_
            show Steps p.tables e below (T54.setTop (mkF m 255 #[.val (.int p0), .val (.int p1), .val (.int p2), .val (.int p3), .val (.ref b1), .val (.int ((p2 &&& (2147483647 : Int32)) % (6 : Int32))), .val (.int ((((p2.toUInt32 >>> ((16 : Int32) &&& 31).toUInt32).toInt32) &&& (32767 : Int32)) % (7 : Int32))), .val (.int 0), .val (.ref b_40), .val (.ref a54)] [(.int ((p3.toUInt32 >>> ((8 : Int32) &&& 31).toUInt32).toInt32))])) _
            refine XS.sipush X54.here hx rfl (hb hby at_255) ?_
            refine XS.iand X54.here hx rfl (hb hby at_258) rfl ?_
            show Steps p.tables e below (T54.setTop (mkF m 259 #[.val (.int p0), .val (.int p1), .val (.int p2), .val (.int p3), .val (.ref b1), .val (.int ((p2 &&& (2147483647 : Int32)) % (6 : Int32))), .val (.int ((((p2.toUInt32 >>> ((16 : Int32) &&& 31).toUInt32).toInt32) &&& (32767 : Int32)) % (7 : Int32))), .val (.int 0), .val (.ref b_40), .val (.ref a54)] [(.int (((p3.toUInt32 >>> ((8 : Int32) &&& 31).toUInt32).toInt32) &&& (255 : Int32)))])) _
            refine XS.i2c X54.here hx rfl (hb hby at_259) rfl ?_
            rw [i2c_mask ((p3.toUInt32 >>> ((8 : Int32) &&& 31).toUInt32).toInt32)]
            show Steps p.tables e below (T54.setTop (mkF m 260 #[.val (.int p0), .val (.int p1), .val (.int p2), .val (.int p3), .val (.ref b1), .val (.int ((p2 &&& (2147483647 : Int32)) % (6 : Int32))), .val (.int ((((p2.toUInt32 >>> ((16 : Int32) &&& 31).toUInt32).toInt32) &&& (32767 : Int32)) % (7 : Int32))), .val (.int 0), .val (.ref b_40), .val (.ref a54)] [(.int (((p3.toUInt32 >>> ((8 : Int32) &&& 31).toUInt32).toInt32) &&& (255 : Int32)))])) _
            refine st60 _ ?_
            show Steps p.tables e below (T60.setTop (mkF m 263 #[.val (.int p0), .val (.int p1), .val (.int p2), .val (.int p3), .val (.ref b1), .val (.int ((p2 &&& (2147483647 : Int32)) % (6 : Int32))), .val (.int ((((p2.toUInt32 >>> ((16 : Int32) &&& 31).toUInt32).toInt32) &&& (32767 : Int32)) % (7 : Int32))), .val (.int 0), .val (.ref b_40), .val (.ref a54)] [(.ref b_60)])) _
            refine XS.astore X60.here hx rfl (hb hby at_263) rfl rfl (l' := #[.val (.int p0), .val (.int p1), .val (.int p2), .val (.int p3), .val (.ref b1), .val (.int ((p2 &&& (2147483647 : Int32)) % (6 : Int32))), .val (.int ((((p2.toUInt32 >>> ((16 : Int32) &&& 31).toUInt32).toInt32) &&& (32767 : Int32)) % (7 : Int32))), .val (.int 0), .val (.ref b_40), .val (.ref b_60)]) rfl ?_
            refine XS.aload X60.here hx rfl (hb hby at_265) rfl rfl ?_
            refine XS.aload X60.here hx rfl (hb hby at_267) rfl rfl ?_
            show Steps p.tables e below (T60.setTop (mkF m 269 #[.val (.int p0), .val (.int p1), .val (.int p2), .val (.int p3), .val (.ref b1), .val (.int ((p2 &&& (2147483647 : Int32)) % (6 : Int32))), .val (.int ((((p2.toUInt32 >>> ((16 : Int32) &&& 31).toUInt32).toInt32) &&& (32767 : Int32)) % (7 : Int32))), .val (.int 0), .val (.ref b_40), .val (.ref b_60)] [(.ref b_60), (.ref b_40)])) _
            refine st62.trans ?_
            show Steps p.tables e below (T62.setTop (mkF m 272 #[.val (.int p0), .val (.int p1), .val (.int p2), .val (.int p3), .val (.ref b1), .val (.int ((p2 &&& (2147483647 : Int32)) % (6 : Int32))), .val (.int ((((p2.toUInt32 >>> ((16 : Int32) &&& 31).toUInt32).toInt32) &&& (32767 : Int32)) % (7 : Int32))), .val (.int 0), .val (.ref b_40), .val (.ref b_60)] [])) _
            refine XS.iconst X62.here hx rfl (hb hby at_272) ?_
            show Steps p.tables e below (T62.setTop (mkF m 273 #[.val (.int p0), .val (.int p1), .val (.int p2), .val (.int p3), .val (.ref b1), .val (.int ((p2 &&& (2147483647 : Int32)) % (6 : Int32))), .val (.int ((((p2.toUInt32 >>> ((16 : Int32) &&& 31).toUInt32).toInt32) &&& (32767 : Int32)) % (7 : Int32))), .val (.int 0), .val (.ref b_40), .val (.ref b_60)] [(.int 1)])) _
            exact retN X62 hx (t := .boolean) Bd.returns (by simp) (hb hby at_273) hr
          · show Q_rm0 n0 _ T62.heap _
            exact ⟨rfl, N62⟩
  · obtain ⟨v_64, T64, Lq64, X64, e64, N64, P64_0, st64⟩ := sg0 cS p0 p1 p2 p3 (e0_) (e1_) (e2_) (e3_) (e4_) (e5_) (b1) (k1) (((p2 &&& (2147483647 : Int32)) % (6 : Int32))) (((((p2.toUInt32 >>> ((16 : Int32) &&& 31).toUInt32).toInt32) &&& (32767 : Int32)) % (7 : Int32))) X18 hx hZ hw hby hml hown e18 N18 O18 GL Ve_
    have hN7 : ((((p2.toUInt32 >>> ((16 : Int32) &&& 31).toUInt32).toInt32) &&& (32767 : Int32)) % (7 : Int32)) = 0 ∨ ((((p2.toUInt32 >>> ((16 : Int32) &&& 31).toUInt32).toInt32) &&& (32767 : Int32)) % (7 : Int32)) = 1 ∨ ((((p2.toUInt32 >>> ((16 : Int32) &&& 31).toUInt32).toInt32) &&& (32767 : Int32)) % (7 : Int32)) = 2 ∨ ((((p2.toUInt32 >>> ((16 : Int32) &&& 31).toUInt32).toInt32) &&& (32767 : Int32)) % (7 : Int32)) = 3 ∨ ((((p2.toUInt32 >>> ((16 : Int32) &&& 31).toUInt32).toInt32) &&& (32767 : Int32)) % (7 : Int32)) = 4 ∨ ((((p2.toUInt32 >>> ((16 : Int32) &&& 31).toUInt32).toInt32) &&& (32767 : Int32)) % (7 : Int32)) = 5 ∨ ((((p2.toUInt32 >>> ((16 : Int32) &&& 31).toUInt32).toInt32) &&& (32767 : Int32)) % (7 : Int32)) = 6 := own_n7 ((p2.toUInt32 >>> ((16 : Int32) &&& 31).toUInt32).toInt32)
    have pre65 : ∀ t, Steps p.tables e below (T64.setTop (mkF m 214 #[.val (.int p0), .val (.int p1), .val (.int p2), .val (.int p3), .val (.ref b1), .val (.int ((p2 &&& (2147483647 : Int32)) % (6 : Int32))), .val (.int ((((p2.toUInt32 >>> ((16 : Int32) &&& 31).toUInt32).toInt32) &&& (32767 : Int32)) % (7 : Int32))), .val (.int v_64), .unset, .unset] [])) t → Steps p.tables e below (s₁.setTop (entryFrame m #[(.int p0), (.int p1), (.int p2), (.int p3)] maxLocals)) t := fun t kt => by
      refine pre22 t ?_
      show Steps p.tables e below (T18.setTop (mkF m 103 #[.val (.int p0), .val (.int p1), .val (.int p2), .val (.int p3), .val (.ref b1), .val (.int ((p2 &&& (2147483647 : Int32)) % (6 : Int32))), .val (.int ((((p2.toUInt32 >>> ((16 : Int32) &&& 31).toUInt32).toInt32) &&& (32767 : Int32)) % (7 : Int32))), .unset, .unset, .unset] [(.int 5), (.int ((p2 &&& (2147483647 : Int32)) % (6 : Int32)))])) _
      refine XS.icmpYes X18.here hx rfl (pc0 := 103) (pc' := 156) rfl (hb hby at_103) rfl (flt hc103_21).2.1 (by decide) (by decide) ?_
      show Steps p.tables e below (T18.setTop (mkF m 156 #[.val (.int p0), .val (.int p1), .val (.int p2), .val (.int p3), .val (.ref b1), .val (.int ((p2 &&& (2147483647 : Int32)) % (6 : Int32))), .val (.int ((((p2.toUInt32 >>> ((16 : Int32) &&& 31).toUInt32).toInt32) &&& (32767 : Int32)) % (7 : Int32))), .unset, .unset, .unset] [])) _
      refine st64 _ ?_
      exact kt
    rcases P64_0 with ⟨ev, hA⟩ | ⟨ev, hA⟩
    · subst ev
      obtain ⟨fs, hr, hrun, hended, hRW⟩ := X64.leaveW hS0 (by rw [e64]; exact (Nat.le_trans (Nat.le_trans (Nat.le_trans (Nat.le_trans (Nat.le_trans (Nat.le_trans (Nat.le_trans (Nat.le_refl _) E1.1) (Keep.of_wr W3).1) (Keep.of_wr W6).1) (Keep.of_wr W9).1) (Keep.of_wr W12).1) (Keep.of_wr W15).1) (Keep.of_wr W18).1)) (v := some (.int 1)) (fun h => by rw [Bd.returns] at h; cases h)
      have hCR : CHr Z EL1 s.vm s.heap T64.vm T64.heap := by
        rw [hh, e64]
        exact R_19.trans (CHv.at X64 hZ (own_EW hw) H_19)
      refine ⟨_, _, pre65 _ ?_, hrun, hended, _, _, rfl, ?_, hCR, hRW.1, hRW.2.1, hRW.2.2.1, hRW.2.2.2.mono (by decide) (by decide)⟩
      · show Steps p.tables e below (T64.setTop (mkF m 214 #[.val (.int p0), .val (.int p1), .val (.int p2), .val (.int p3), .val (.ref b1), .val (.int ((p2 &&& (2147483647 : Int32)) % (6 : Int32))), .val (.int ((((p2.toUInt32 >>> ((16 : Int32) &&& 31).toUInt32).toInt32) &&& (32767 : Int32)) % (7 : Int32))), .val (.int 1), .unset, .unset] [])) _
        refine XS.iload X64.here hx rfl (hb hby at_214) rfl ?_
        refine XS.ifNo X64.here hx rfl (hb hby at_216) rfl ((if0 _ _).trans (feq (by decide : ¬ ((1 : Int32) = (0 : Int32)))).1) ?_
        refine XS.iconst X64.here hx rfl (hb hby at_219) ?_
        show Steps p.tables e below (T64.setTop (mkF m 220 #[.val (.int p0), .val (.int p1), .val (.int p2), .val (.int p3), .val (.ref b1), .val (.int ((p2 &&& (2147483647 : Int32)) % (6 : Int32))), .val (.int ((((p2.toUInt32 >>> ((16 : Int32) &&& 31).toUInt32).toInt32) &&& (32767 : Int32)) % (7 : Int32))), .val (.int 1), .unset, .unset] [(.int 1)])) _
        exact retN X64 hx (t := .boolean) Bd.returns (by simp) (hb hby at_220) hr
      · show Q_rm0 n0 _ T64.heap _
        rw [e64]
        exact ⟨rfl, N64⟩
    · subst ev
      obtain ⟨_, _, ⟨T66, L66, k66, n66⟩, -, X66', hS66', hg66, ⟨Lc66, hQ66, l66, y66, z66, Rs66⟩, st66⟩ := callSS X64 hx (y := MN_8) hown (mvT hZ (Wd hw 6 rfl)) (mvT hZ (Wd hw 7 rfl)) (mvT hZ (Wd hw 4 rfl)) (mvT hZ (Wd hw 8 rfl)) (by decide) (backOfSH (W := 0) (rmTk l Z a0 hw [] cS (b1) (((((p2.toUInt32 >>> ((16 : Int32) &&& 31).toUInt32).toInt32) &&& (32767 : Int32)) % (7 : Int32))) (k1) (e0_) (e1_) (e2_) (e3_) (e4_) (e5_) (h18) n0 O18 GL Ve_ hl0_ hl1_ hl2_ hl3_ hl4_ hl5_ hm0_ hm1_ hm2_ hm3_ hm4_ hm5_ hn0_ hn1_ hn2_ hn3_ hn4_ hn5_ hN7 hA) hZ (Wd hw 8 rfl) (Wd hw 4 rfl) (by decide) (by decide) (own_EW hw) H_19) (g := (mkF m 225 #[.val (.int p0), .val (.int p1), .val (.int p2), .val (.int p3), .val (.ref b1), .val (.int ((p2 &&& (2147483647 : Int32)) % (6 : Int32))), .val (.int ((((p2.toUInt32 >>> ((16 : Int32) &&& 31).toUInt32).toInt32) &&& (32767 : Int32)) % (7 : Int32))), .val (.int 0), .unset, .unset] [(.int ((((p2.toUInt32 >>> ((16 : Int32) &&& 31).toUInt32).toInt32) &&& (32767 : Int32)) % (7 : Int32))), (.ref b1)])) rfl (by rw [hml]; rfl) (argsL := [(.ref b1), (.int ((((p2.toUInt32 >>> ((16 : Int32) &&& 31).toUInt32).toInt32) &&& (32767 : Int32)) % (7 : Int32)))]) (rest := []) (lenOf pdv14 rfl) rfl (by show 2 * 0 + _ ≤ _; exact Nat.le_of_eq rfl) (hb hby at_225) (fun _ _ => ⟨rfl, e64, (by decide : 1 + 6 ≤ _), (by decide : 6 + 14 ≤ _)⟩)
      dsimp only [Pt.U, Pt.locs, Pt.cells, Pt.slots] at X66' l66 y66 z66 st66 hQ66 hS66' hg66 Rs66
      subst l66 y66 z66
      obtain ⟨X66, hS66, hZ66, hown66⟩ := rebS hS0 (by rw [e64]; exact (Nat.le_trans (Nat.le_trans (Nat.le_trans (Nat.le_trans (Nat.le_trans (Nat.le_trans (Nat.le_trans (Nat.le_refl _) E1.1) (Keep.of_wr W3).1) (Keep.of_wr W6).1) (Keep.of_wr W9).1) (Keep.of_wr W12).1) (Keep.of_wr W15).1) (Keep.of_wr W18).1)) X66' hS66' hg66 hZ hown
      obtain ⟨b_66, bv_66, kb_66, nl_66, vs_66, rfl, N66q, Kc66, P66_0, P66_1, P66_2, P66_3, P66_4⟩ := hQ66
      have O66 := O18.keep Kc66 all0
      have H_67 := Rs66.1
      have R_67 := R_19.trans Rs66
      have N66 := Fr.app N64 N66q
      have pre69 : ∀ t, Steps p.tables e below (T66.setTop (mkF m 233 #[.val (.int p0), .val (.int p1), .val (.int p2), .val (.int p3), .val (.ref b1), .val (.int ((p2 &&& (2147483647 : Int32)) % (6 : Int32))), .val (.int ((((p2.toUInt32 >>> ((16 : Int32) &&& 31).toUInt32).toInt32) &&& (32767 : Int32)) % (7 : Int32))), .val (.int 0), .val (.ref b_66), .unset] [(.int (p3 &&& (1 : Int32)))])) t → Steps p.tables e below (s₁.setTop (entryFrame m #[(.int p0), (.int p1), (.int p2), (.int p3)] maxLocals)) t := fun t kt => by
        refine pre65 t ?_
        show Steps p.tables e below (T64.setTop (mkF m 214 #[.val (.int p0), .val (.int p1), .val (.int p2), .val (.int p3), .val (.ref b1), .val (.int ((p2 &&& (2147483647 : Int32)) % (6 : Int32))), .val (.int ((((p2.toUInt32 >>> ((16 : Int32) &&& 31).toUInt32).toInt32) &&& (32767 : Int32)) % (7 : Int32))), .val (.int 0), .unset, .unset] [])) _
        refine XS.iload X64.here hx rfl (hb hby at_214) rfl ?_
        refine XS.ifYes X64.here hx rfl (pc0 := 216) (pc' := 221) rfl (hb hby at_216) rfl ((if0 _ _).trans (teq (by decide : (0 : Int32) = (0 : Int32))).1) (by decide) (by decide) ?_
        refine XS.aload X64.here hx rfl (hb hby at_221) rfl rfl ?_
        refine XS.iload X64.here hx rfl (hb hby at_223) rfl ?_
        show Steps p.tables e below (T64.setTop (mkF m 225 #[.val (.int p0), .val (.int p1), .val (.int p2), .val (.int p3), .val (.ref b1), .val (.int ((p2 &&& (2147483647 : Int32)) % (6 : Int32))), .val (.int ((((p2.toUInt32 >>> ((16 : Int32) &&& 31).toUInt32).toInt32) &&& (32767 : Int32)) % (7 : Int32))), .val (.int 0), .unset, .unset] [(.int ((((p2.toUInt32 >>> ((16 : Int32) &&& 31).toUInt32).toInt32) &&& (32767 : Int32)) % (7 : Int32))), (.ref b1)])) _
        refine st66.trans ?_
        show Steps p.tables e below (T66.setTop (mkF m 228 #[.val (.int p0), .val (.int p1), .val (.int p2), .val (.int p3), .val (.ref b1), .val (.int ((p2 &&& (2147483647 : Int32)) % (6 : Int32))), .val (.int ((((p2.toUInt32 >>> ((16 : Int32) &&& 31).toUInt32).toInt32) &&& (32767 : Int32)) % (7 : Int32))), .val (.int 0), .unset, .unset] [(.ref b_66)])) _
        refine XS.astore X66.here hx rfl (hb hby at_228) rfl rfl (l' := #[.val (.int p0), .val (.int p1), .val (.int p2), .val (.int p3), .val (.ref b1), .val (.int ((p2 &&& (2147483647 : Int32)) % (6 : Int32))), .val (.int ((((p2.toUInt32 >>> ((16 : Int32) &&& 31).toUInt32).toInt32) &&& (32767 : Int32)) % (7 : Int32))), .val (.int 0), .val (.ref b_66), .unset]) rfl ?_
        refine XS.iloadN X66.here hx rfl (hb hby at_230) rfl ?_
        refine XS.iconst X66.here hx rfl (hb hby at_231) ?_
        refine XS.iand X66.here hx rfl (hb hby at_232) rfl ?_
        exact kt
      by_cases hc233_68 : (p3 &&& (1 : Int32)) = (0 : Int32)
      · obtain ⟨a70, T70, h70, k170, b70, kc70, X70, e70, E70, hS70, hk70, hZ70, hown70, A70, Fc70, Fv70, V70, la70, lb70, Rs70, Li70, nel70, st70⟩ := ldcCH X66 hx hZ66 hown66 (Wd hw 60 rfl) (own_wS hw) rfl hS66 (Nat.le_refl _) (own_EW hw) (List.mem_of_getElem? (i := 1) rfl) H_67 (vs := [(.int 73), (.int 109), (.int 112), (.int 111), (.int 114), (.int 116), (.int 45), (.int 80), (.int 97), (.int 99), (.int 107), (.int 97), (.int 103), (.int 101)]) (z := (14 : Int32)) ⟨by decide, by decide⟩ (by decide) rfl (g := (mkF m 236 #[.val (.int p0), .val (.int p1), .val (.int p2), .val (.int p3), .val (.ref b1), .val (.int ((p2 &&& (2147483647 : Int32)) % (6 : Int32))), .val (.int ((((p2.toUInt32 >>> ((16 : Int32) &&& 31).toUInt32).toInt32) &&& (32767 : Int32)) % (7 : Int32))), .val (.int 0), .val (.ref b_66), .unset] [])) rfl (hb hby at_236) (n := 56) (by decide) (by decide) (by decide) (by decide)
        have H_71 := Rs70.1
        have R_71 := R_67.trans Rs70
        have O70 := O66.ext E70
        have pre73 : ∀ t, Steps p.tables e below (T70.setTop (mkF m 248 #[.val (.int p0), .val (.int p1), .val (.int p2), .val (.int p3), .val (.ref b1), .val (.int ((p2 &&& (2147483647 : Int32)) % (6 : Int32))), .val (.int ((((p2.toUInt32 >>> ((16 : Int32) &&& 31).toUInt32).toInt32) &&& (32767 : Int32)) % (7 : Int32))), .val (.int 0), .val (.ref b_66), .val (.ref a70)] [(.int (p3 &&& (2 : Int32)))])) t → Steps p.tables e below (s₁.setTop (entryFrame m #[(.int p0), (.int p1), (.int p2), (.int p3)] maxLocals)) t := fun t kt => by
          refine pre69 t ?_
          show Steps p.tables e below (T66.setTop (mkF m 233 #[.val (.int p0), .val (.int p1), .val (.int p2), .val (.int p3), .val (.ref b1), .val (.int ((p2 &&& (2147483647 : Int32)) % (6 : Int32))), .val (.int ((((p2.toUInt32 >>> ((16 : Int32) &&& 31).toUInt32).toInt32) &&& (32767 : Int32)) % (7 : Int32))), .val (.int 0), .val (.ref b_66), .unset] [(.int (p3 &&& (1 : Int32)))])) _
          refine XS.ifNo X66.here hx rfl (hb hby at_233) rfl ((if0 _ _).trans (teq hc233_68).2) ?_
          show Steps p.tables e below (T66.setTop (mkF m 236 #[.val (.int p0), .val (.int p1), .val (.int p2), .val (.int p3), .val (.ref b1), .val (.int ((p2 &&& (2147483647 : Int32)) % (6 : Int32))), .val (.int ((((p2.toUInt32 >>> ((16 : Int32) &&& 31).toUInt32).toInt32) &&& (32767 : Int32)) % (7 : Int32))), .val (.int 0), .val (.ref b_66), .unset] [])) _
          refine st70 _ ?_
          show Steps p.tables e below (T70.setTop (mkF m 238 #[.val (.int p0), .val (.int p1), .val (.int p2), .val (.int p3), .val (.ref b1), .val (.int ((p2 &&& (2147483647 : Int32)) % (6 : Int32))), .val (.int ((((p2.toUInt32 >>> ((16 : Int32) &&& 31).toUInt32).toInt32) &&& (32767 : Int32)) % (7 : Int32))), .val (.int 0), .val (.ref b_66), .unset] [(.ref a70)])) _
          refine XS.goto X70.here hx rfl (pc0 := 238) (pc' := 243) rfl (hb hby at_238) (by decide) (by decide) ?_
          refine XS.astore X70.here hx rfl (hb hby at_243) rfl rfl (l' := #[.val (.int p0), .val (.int p1), .val (.int p2), .val (.int p3), .val (.ref b1), .val (.int ((p2 &&& (2147483647 : Int32)) % (6 : Int32))), .val (.int ((((p2.toUInt32 >>> ((16 : Int32) &&& 31).toUInt32).toInt32) &&& (32767 : Int32)) % (7 : Int32))), .val (.int 0), .val (.ref b_66), .val (.ref a70)]) rfl ?_
          refine XS.iloadN X70.here hx rfl (hb hby at_245) rfl ?_
          refine XS.iconst X70.here hx rfl (hb hby at_246) ?_
          show Steps p.tables e below (T70.setTop (mkF m 247 #[.val (.int p0), .val (.int p1), .val (.int p2), .val (.int p3), .val (.ref b1), .val (.int ((p2 &&& (2147483647 : Int32)) % (6 : Int32))), .val (.int ((((p2.toUInt32 >>> ((16 : Int32) &&& 31).toUInt32).toInt32) &&& (32767 : Int32)) % (7 : Int32))), .val (.int 0), .val (.ref b_66), .val (.ref a70)] [(.int 2), (.int p3)])) _
          refine XS.iand X70.here hx rfl (hb hby at_247) rfl ?_
          exact kt
        by_cases hc248_72 : (p3 &&& (2 : Int32)) = (0 : Int32)
        · obtain ⟨_, _, ⟨T74, L74, k74, n74⟩, -, X74', hS74', hg74, ⟨Lc74, hQ74, l74, y74, z74, Rs74⟩, st74⟩ := callSS X70 hx (y := MN_13) hown70 (mvT hZ70 (Wd hw 31 rfl)) (mvT hZ70 (Wd hw 32 rfl)) (mvT hZ70 (Wd hw 33 rfl)) (mvT hZ70 (Wd hw 34 rfl)) (by decide) (backOfSH (W := 0) (rmRf l Z a0 hw [] cS (b_66) (a70) (bv_66) (kb_66) (nl_66) (vs_66) (h70) n0 O70 GL (P66_0.ext E70) (P66_1.ext E70) (P66_2.ext E70) (P66_3.ext E70) P66_4) hZ70 (Wd hw 34 rfl) (Wd hw 33 rfl) (by decide) (by decide) (own_EW hw) H_71) (g := (mkF m 269 #[.val (.int p0), .val (.int p1), .val (.int p2), .val (.int p3), .val (.ref b1), .val (.int ((p2 &&& (2147483647 : Int32)) % (6 : Int32))), .val (.int ((((p2.toUInt32 >>> ((16 : Int32) &&& 31).toUInt32).toInt32) &&& (32767 : Int32)) % (7 : Int32))), .val (.int 0), .val (.ref b_66), .val (.ref a70)] [(.ref a70), (.ref b_66)])) rfl (by rw [hml]; rfl) (argsL := [(.ref b_66), (.ref a70)]) (rest := []) (lenOf pdv15 rfl) rfl (by show 2 * 0 + _ ≤ _; exact Nat.le_of_eq rfl) (hb hby at_269) (fun _ _ => ⟨rfl, e70, (by decide : 9 + 2 ≤ _), (by decide : 80 + 24 ≤ _)⟩)
          dsimp only [Pt.U, Pt.locs, Pt.cells, Pt.slots] at X74' l74 y74 z74 st74 hQ74 hS74' hg74 Rs74
          subst l74 y74 z74
          obtain ⟨X74, hS74, hZ74, hown74⟩ := rebS hS70 (by rw [e70]; exact hk70) X74' hS74' hg74 hZ70 hown70
          obtain ⟨rfl, N74q, Kc74⟩ := hQ74
          have O74 := O70.keep Kc74 all0
          have H_75 := Rs74.1
          have R_75 := R_71.trans Rs74
          have N74 := Fr.app N66 N74q
          obtain ⟨fs, hr, hrun, hended, hRW⟩ := X74.leaveW hS74 (Nat.le_refl _) (v := some (.int 1)) (fun h => by rw [Bd.returns] at h; cases h)
          have hCR : CHr Z EL1 s.vm s.heap T74.vm T74.heap := by
            rw [hh]
            exact R_75.trans (CHv.at X74 hZ74 (own_EW hw) H_75)
          refine ⟨_, _, pre73 _ ?_, hrun, hended, _, _, rfl, ?_, hCR, hRW.1, hRW.2.1, hRW.2.2.1, hRW.2.2.2.mono (by decide) (by decide)⟩
          · show Steps p.tables e below (T70.setTop (mkF m 248 #[.val (.int p0), .val (.int p1), .val (.int p2), .val (.int p3), .val (.ref b1), .val (.int ((p2 &&& (2147483647 : Int32)) % (6 : Int32))), .val (.int ((((p2.toUInt32 >>> ((16 : Int32) &&& 31).toUInt32).toInt32) &&& (32767 : Int32)) % (7 : Int32))), .val (.int 0), .val (.ref b_66), .val (.ref a70)] [(.int (p3 &&& (2 : Int32)))])) _
            refine XS.ifYes X70.here hx rfl (pc0 := 248) (pc' := 265) rfl (hb hby at_248) rfl ((if0 _ _).trans (teq hc248_72).1) (by decide) (by decide) ?_
            refine XS.aload X70.here hx rfl (hb hby at_265) rfl rfl ?_
            refine XS.aload X70.here hx rfl (hb hby at_267) rfl rfl ?_
            show Steps p.tables e below (T70.setTop (mkF m 269 #[.val (.int p0), .val (.int p1), .val (.int p2), .val (.int p3), .val (.ref b1), .val (.int ((p2 &&& (2147483647 : Int32)) % (6 : Int32))), .val (.int ((((p2.toUInt32 >>> ((16 : Int32) &&& 31).toUInt32).toInt32) &&& (32767 : Int32)) % (7 : Int32))), .val (.int 0), .val (.ref b_66), .val (.ref a70)] [(.ref a70), (.ref b_66)])) _
            refine st74.trans ?_
            show Steps p.tables e below (T74.setTop (mkF m 272 #[.val (.int p0), .val (.int p1), .val (.int p2), .val (.int p3), .val (.ref b1), .val (.int ((p2 &&& (2147483647 : Int32)) % (6 : Int32))), .val (.int ((((p2.toUInt32 >>> ((16 : Int32) &&& 31).toUInt32).toInt32) &&& (32767 : Int32)) % (7 : Int32))), .val (.int 0), .val (.ref b_66), .val (.ref a70)] [])) _
            refine XS.iconst X74.here hx rfl (hb hby at_272) ?_
            show Steps p.tables e below (T74.setTop (mkF m 273 #[.val (.int p0), .val (.int p1), .val (.int p2), .val (.int p3), .val (.ref b1), .val (.int ((p2 &&& (2147483647 : Int32)) % (6 : Int32))), .val (.int ((((p2.toUInt32 >>> ((16 : Int32) &&& 31).toUInt32).toInt32) &&& (32767 : Int32)) % (7 : Int32))), .val (.int 0), .val (.ref b_66), .val (.ref a70)] [(.int 1)])) _
            exact retN X74 hx (t := .boolean) Bd.returns (by simp) (hb hby at_273) hr
          · show Q_rm0 n0 _ T74.heap _
            exact ⟨rfl, N74⟩
        · have hv : ¬ ((255 : Int32) < (((p3.toUInt32 >>> ((8 : Int32) &&& 31).toUInt32).toInt32) &&& (255 : Int32))) := (own_and255 _).1
          obtain ⟨_, _, ⟨T76, L76, k76, n76⟩, -, X76, ⟨Lc76, hQ76, l76, y76, z76⟩, st76⟩ := Jvm.LawKit.callS X70 hx (y := MN_17) hown70 (mvT hZ70 (Wd hw 61 rfl)) (mvT hZ70 (Wd hw 62 rfl)) (mvT hZ70 (Wd hw 11 rfl)) (mvT hZ70 (Wd hw 63 rfl)) (by decide) (backOf (W := 0) (rmVo l Z a0 hw [] cS ((((p3.toUInt32 >>> ((8 : Int32) &&& 31).toUInt32).toInt32) &&& (255 : Int32))) (h70) n0 O70 GL hv) hZ70 (Wd hw 63 rfl) (Wd hw 11 rfl) (by decide) (by decide)) (g := (mkF m 260 #[.val (.int p0), .val (.int p1), .val (.int p2), .val (.int p3), .val (.ref b1), .val (.int ((p2 &&& (2147483647 : Int32)) % (6 : Int32))), .val (.int ((((p2.toUInt32 >>> ((16 : Int32) &&& 31).toUInt32).toInt32) &&& (32767 : Int32)) % (7 : Int32))), .val (.int 0), .val (.ref b_66), .val (.ref a70)] [(.int (((p3.toUInt32 >>> ((8 : Int32) &&& 31).toUInt32).toInt32) &&& (255 : Int32)))])) rfl (by rw [hml]; rfl) (argsL := [(.int (((p3.toUInt32 >>> ((8 : Int32) &&& 31).toUInt32).toInt32) &&& (255 : Int32)))]) (rest := []) (lenOf pdv16 rfl) rfl (by show 2 * 0 + _ ≤ _; exact Nat.le_of_eq rfl) (hb hby at_260) (fun _ _ => ⟨rfl, e70, (by decide : 9 + 2 ≤ _), (by decide : 80 + 5 ≤ _)⟩)
          dsimp only [Pt.U, Pt.locs, Pt.cells, Pt.slots] at X76 l76 y76 z76 st76 hQ76
          subst l76 y76 z76
          obtain ⟨b_76, rfl, N76q, Kc76, P76_0, P76_1⟩ := hQ76
          have O76 := O70.keep Kc76 all0
          have H_77 := H_71.keep Kc76 sf0
          have R_77 := R_71.trans (CHr.keep Kc76 sf0 H_71)
          have g_b_76 : n0 ≤ b_76 := Nat.le_trans (own_sz O70) P76_0
          have N76 := Fr.app N66 N76q
          obtain ⟨_, _, ⟨T78, L78, k78, n78⟩, -, X78', hS78', hg78, ⟨Lc78, hQ78, l78, y78, z78, Rs78⟩, st78⟩ := callSS X76 hx (y := MN_13) hown70 (mvT hZ70 (Wd hw 31 rfl)) (mvT hZ70 (Wd hw 32 rfl)) (mvT hZ70 (Wd hw 33 rfl)) (mvT hZ70 (Wd hw 34 rfl)) (by decide) (backOfSH (W := 0) (rmRf l Z a0 hw [] cS (b_66) (b_76) (bv_66) (kb_66) (nl_66) (vs_66) (T76.heap) n0 O76 GL ((P66_0.ext E70).keep Kc76) ((P66_1.ext E70).keep Kc76 nin0) ((P66_2.ext E70).keep Kc76 nin0) ((P66_3.ext E70).keep Kc76 nin0) P66_4) hZ70 (Wd hw 34 rfl) (Wd hw 33 rfl) (by decide) (by decide) (own_EW hw) H_77) (g := (mkF m 269 #[.val (.int p0), .val (.int p1), .val (.int p2), .val (.int p3), .val (.ref b1), .val (.int ((p2 &&& (2147483647 : Int32)) % (6 : Int32))), .val (.int ((((p2.toUInt32 >>> ((16 : Int32) &&& 31).toUInt32).toInt32) &&& (32767 : Int32)) % (7 : Int32))), .val (.int 0), .val (.ref b_66), .val (.ref b_76)] [(.ref b_76), (.ref b_66)])) rfl (by rw [hml]; rfl) (argsL := [(.ref b_66), (.ref b_76)]) (rest := []) (lenOf pdv15 rfl) rfl (by show 2 * 0 + _ ≤ _; exact Nat.le_of_eq rfl) (hb hby at_269) (fun _ _ => ⟨rfl, rfl, (by decide : 11 + 2 ≤ _), (by decide : 85 + 24 ≤ _)⟩)
          dsimp only [Pt.U, Pt.locs, Pt.cells, Pt.slots] at X78' l78 y78 z78 st78 hQ78 hS78' hg78 Rs78
          subst l78 y78 z78
          obtain ⟨X78, hS78, hZ78, hown78⟩ := rebS hS70 (Nat.le_trans hk70 Kc76.1) X78' hS78' hg78 hZ70 hown70
          obtain ⟨rfl, N78q, Kc78⟩ := hQ78
          have O78 := O76.keep Kc78 all0
          have H_79 := Rs78.1
          have R_79 := R_77.trans Rs78
          have N78 := Fr.app N76 N78q
          obtain ⟨fs, hr, hrun, hended, hRW⟩ := X78.leaveW hS78 (Nat.le_refl _) (v := some (.int 1)) (fun h => by rw [Bd.returns] at h; cases h)
          have hCR : CHr Z EL1 s.vm s.heap T78.vm T78.heap := by
            rw [hh]
            exact R_79.trans (CHv.at X78 hZ78 (own_EW hw) H_79)
          refine ⟨_, _, pre73 _ ?_, hrun, hended, _, _, rfl, ?_, hCR, hRW.1, hRW.2.1, hRW.2.2.1, hRW.2.2.2.mono (by decide) (by decide)⟩
          · show Steps p.tables e below (T70.setTop (mkF m 248 #[.val (.int p0), .val (.int p1), .val (.int p2), .val (.int p3), .val (.ref b1), .val (.int ((p2 &&& (2147483647 : Int32)) % (6 : Int32))), .val (.int ((((p2.toUInt32 >>> ((16 : Int32) &&& 31).toUInt32).toInt32) &&& (32767 : Int32)) % (7 : Int32))), .val (.int 0), .val (.ref b_66), .val (.ref a70)] [(.int (p3 &&& (2 : Int32)))])) _
            refine XS.ifNo X70.here hx rfl (hb hby at_248) rfl ((if0 _ _).trans (feq hc248_72).1) ?_
            refine XS.iloadN X70.here hx rfl (hb hby at_251) rfl ?_
            refine XS.bipush X70.here hx rfl (hb hby at_252) ?_
            refine XS.iushr X70.here hx rfl (hb hby at_254) rfl ?_
            show Steps p.tables e below (T70.setTop (mkF m 255 #[.val (.int p0), .val (.int p1), .val (.int p2), .val (.int p3), .val (.ref b1), .val (.int ((p2 &&& (2147483647 : Int32)) % (6 : Int32))), .val (.int ((((p2.toUInt32 >>> ((16 : Int32) &&& 31).toUInt32).toInt32) &&& (32767 : Int32)) % (7 : Int32))), .val (.int 0), .val (.ref b_66), .val (.ref a70)] [(.int ((p3.toUInt32 >>> ((8 : Int32) &&& 31).toUInt32).toInt32))])) _
            refine XS.sipush X70.here hx rfl (hb hby at_255) ?_
            refine XS.iand X70.here hx rfl (hb hby at_258) rfl ?_
            show Steps p.tables e below (T70.setTop (mkF m 259 #[.val (.int p0), .val (.int p1), .val (.int p2), .val (.int p3), .val (.ref b1), .val (.int ((p2 &&& (2147483647 : Int32)) % (6 : Int32))), .val (.int ((((p2.toUInt32 >>> ((16 : Int32) &&& 31).toUInt32).toInt32) &&& (32767 : Int32)) % (7 : Int32))), .val (.int 0), .val (.ref b_66), .val (.ref a70)] [(.int (((p3.toUInt32 >>> ((8 : Int32) &&& 31).toUInt32).toInt32) &&& (255 : Int32)))])) _
            refine XS.i2c X70.here hx rfl (hb hby at_259) rfl ?_
            rw [i2c_mask ((p3.toUInt32 >>> ((8 : Int32) &&& 31).toUInt32).toInt32)]
            show Steps p.tables e below (T70.setTop (mkF m 260 #[.val (.int p0), .val (.int p1), .val (.int p2), .val (.int p3), .val (.ref b1), .val (.int ((p2 &&& (2147483647 : Int32)) % (6 : Int32))), .val (.int ((((p2.toUInt32 >>> ((16 : Int32) &&& 31).toUInt32).toInt32) &&& (32767 : Int32)) % (7 : Int32))), .val (.int 0), .val (.ref b_66), .val (.ref a70)] [(.int (((p3.toUInt32 >>> ((8 : Int32) &&& 31).toUInt32).toInt32) &&& (255 : Int32)))])) _
            refine st76 _ ?_
            show Steps p.tables e below (T76.setTop (mkF m 263 #[.val (.int p0), .val (.int p1), .val (.int p2), .val (.int p3), .val (.ref b1), .val (.int ((p2 &&& (2147483647 : Int32)) % (6 : Int32))), .val (.int ((((p2.toUInt32 >>> ((16 : Int32) &&& 31).toUInt32).toInt32) &&& (32767 : Int32)) % (7 : Int32))), .val (.int 0), .val (.ref b_66), .val (.ref a70)] [(.ref b_76)])) _
            refine XS.astore X76.here hx rfl (hb hby at_263) rfl rfl (l' := #[.val (.int p0), .val (.int p1), .val (.int p2), .val (.int p3), .val (.ref b1), .val (.int ((p2 &&& (2147483647 : Int32)) % (6 : Int32))), .val (.int ((((p2.toUInt32 >>> ((16 : Int32) &&& 31).toUInt32).toInt32) &&& (32767 : Int32)) % (7 : Int32))), .val (.int 0), .val (.ref b_66), .val (.ref b_76)]) rfl ?_
            refine XS.aload X76.here hx rfl (hb hby at_265) rfl rfl ?_
            refine XS.aload X76.here hx rfl (hb hby at_267) rfl rfl ?_
            show Steps p.tables e below (T76.setTop (mkF m 269 #[.val (.int p0), .val (.int p1), .val (.int p2), .val (.int p3), .val (.ref b1), .val (.int ((p2 &&& (2147483647 : Int32)) % (6 : Int32))), .val (.int ((((p2.toUInt32 >>> ((16 : Int32) &&& 31).toUInt32).toInt32) &&& (32767 : Int32)) % (7 : Int32))), .val (.int 0), .val (.ref b_66), .val (.ref b_76)] [(.ref b_76), (.ref b_66)])) _
            refine st78.trans ?_
            show Steps p.tables e below (T78.setTop (mkF m 272 #[.val (.int p0), .val (.int p1), .val (.int p2), .val (.int p3), .val (.ref b1), .val (.int ((p2 &&& (2147483647 : Int32)) % (6 : Int32))), .val (.int ((((p2.toUInt32 >>> ((16 : Int32) &&& 31).toUInt32).toInt32) &&& (32767 : Int32)) % (7 : Int32))), .val (.int 0), .val (.ref b_66), .val (.ref b_76)] [])) _
            refine XS.iconst X78.here hx rfl (hb hby at_272) ?_
            show Steps p.tables e below (T78.setTop (mkF m 273 #[.val (.int p0), .val (.int p1), .val (.int p2), .val (.int p3), .val (.ref b1), .val (.int ((p2 &&& (2147483647 : Int32)) % (6 : Int32))), .val (.int ((((p2.toUInt32 >>> ((16 : Int32) &&& 31).toUInt32).toInt32) &&& (32767 : Int32)) % (7 : Int32))), .val (.int 0), .val (.ref b_66), .val (.ref b_76)] [(.int 1)])) _
            exact retN X78 hx (t := .boolean) Bd.returns (by simp) (hb hby at_273) hr
          · show Q_rm0 n0 _ T78.heap _
            exact ⟨rfl, N78⟩
      · obtain ⟨a80, T80, h80, k180, b80, kc80, X80, e80, E80, hS80, hk80, hZ80, hown80, A80, Fc80, Fv80, V80, la80, lb80, Rs80, Li80, nel80, st80⟩ := ldcCH X66 hx hZ66 hown66 (Wd hw 30 rfl) (own_wS hw) rfl hS66 (Nat.le_refl _) (own_EW hw) (List.mem_of_getElem? (i := 2) rfl) H_67 (vs := [(.int 69), (.int 120), (.int 112), (.int 111), (.int 114), (.int 116), (.int 45), (.int 80), (.int 97), (.int 99), (.int 107), (.int 97), (.int 103), (.int 101)]) (z := (14 : Int32)) ⟨by decide, by decide⟩ (by decide) rfl (g := (mkF m 241 #[.val (.int p0), .val (.int p1), .val (.int p2), .val (.int p3), .val (.ref b1), .val (.int ((p2 &&& (2147483647 : Int32)) % (6 : Int32))), .val (.int ((((p2.toUInt32 >>> ((16 : Int32) &&& 31).toUInt32).toInt32) &&& (32767 : Int32)) % (7 : Int32))), .val (.int 0), .val (.ref b_66), .unset] [])) rfl (hb hby at_241) (n := 56) (by decide) (by decide) (by decide) (by decide)
        have H_81 := Rs80.1
        have R_81 := R_67.trans Rs80
        have O80 := O66.ext E80
        have pre83 : ∀ t, Steps p.tables e below (T80.setTop (mkF m 248 #[.val (.int p0), .val (.int p1), .val (.int p2), .val (.int p3), .val (.ref b1), .val (.int ((p2 &&& (2147483647 : Int32)) % (6 : Int32))), .val (.int ((((p2.toUInt32 >>> ((16 : Int32) &&& 31).toUInt32).toInt32) &&& (32767 : Int32)) % (7 : Int32))), .val (.int 0), .val (.ref b_66), .val (.ref a80)] [(.int (p3 &&& (2 : Int32)))])) t → Steps p.tables e below (s₁.setTop (entryFrame m #[(.int p0), (.int p1), (.int p2), (.int p3)] maxLocals)) t := fun t kt => by
          refine pre69 t ?_
          show Steps p.tables e below (T66.setTop (mkF m 233 #[.val (.int p0), .val (.int p1), .val (.int p2), .val (.int p3), .val (.ref b1), .val (.int ((p2 &&& (2147483647 : Int32)) % (6 : Int32))), .val (.int ((((p2.toUInt32 >>> ((16 : Int32) &&& 31).toUInt32).toInt32) &&& (32767 : Int32)) % (7 : Int32))), .val (.int 0), .val (.ref b_66), .unset] [(.int (p3 &&& (1 : Int32)))])) _
          refine XS.ifYes X66.here hx rfl (pc0 := 233) (pc' := 241) rfl (hb hby at_233) rfl ((if0 _ _).trans (feq hc233_68).2) (by decide) (by decide) ?_
          show Steps p.tables e below (T66.setTop (mkF m 241 #[.val (.int p0), .val (.int p1), .val (.int p2), .val (.int p3), .val (.ref b1), .val (.int ((p2 &&& (2147483647 : Int32)) % (6 : Int32))), .val (.int ((((p2.toUInt32 >>> ((16 : Int32) &&& 31).toUInt32).toInt32) &&& (32767 : Int32)) % (7 : Int32))), .val (.int 0), .val (.ref b_66), .unset] [])) _
          refine st80 _ ?_
          show Steps p.tables e below (T80.setTop (mkF m 243 #[.val (.int p0), .val (.int p1), .val (.int p2), .val (.int p3), .val (.ref b1), .val (.int ((p2 &&& (2147483647 : Int32)) % (6 : Int32))), .val (.int ((((p2.toUInt32 >>> ((16 : Int32) &&& 31).toUInt32).toInt32) &&& (32767 : Int32)) % (7 : Int32))), .val (.int 0), .val (.ref b_66), .unset] [(.ref a80)])) _
          refine XS.astore X80.here hx rfl (hb hby at_243) rfl rfl (l' := #[.val (.int p0), .val (.int p1), .val (.int p2), .val (.int p3), .val (.ref b1), .val (.int ((p2 &&& (2147483647 : Int32)) % (6 : Int32))), .val (.int ((((p2.toUInt32 >>> ((16 : Int32) &&& 31).toUInt32).toInt32) &&& (32767 : Int32)) % (7 : Int32))), .val (.int 0), .val (.ref b_66), .val (.ref a80)]) rfl ?_
          refine XS.iloadN X80.here hx rfl (hb hby at_245) rfl ?_
          refine XS.iconst X80.here hx rfl (hb hby at_246) ?_
          refine XS.iand X80.here hx rfl (hb hby at_247) rfl ?_
          exact kt
        by_cases hc248_82 : (p3 &&& (2 : Int32)) = (0 : Int32)
        · obtain ⟨_, _, ⟨T84, L84, k84, n84⟩, -, X84', hS84', hg84, ⟨Lc84, hQ84, l84, y84, z84, Rs84⟩, st84⟩ := callSS X80 hx (y := MN_13) hown80 (mvT hZ80 (Wd hw 31 rfl)) (mvT hZ80 (Wd hw 32 rfl)) (mvT hZ80 (Wd hw 33 rfl)) (mvT hZ80 (Wd hw 34 rfl)) (by decide) (backOfSH (W := 0) (rmRf l Z a0 hw [] cS (b_66) (a80) (bv_66) (kb_66) (nl_66) (vs_66) (h80) n0 O80 GL (P66_0.ext E80) (P66_1.ext E80) (P66_2.ext E80) (P66_3.ext E80) P66_4) hZ80 (Wd hw 34 rfl) (Wd hw 33 rfl) (by decide) (by decide) (own_EW hw) H_81) (g := (mkF m 269 #[.val (.int p0), .val (.int p1), .val (.int p2), .val (.int p3), .val (.ref b1), .val (.int ((p2 &&& (2147483647 : Int32)) % (6 : Int32))), .val (.int ((((p2.toUInt32 >>> ((16 : Int32) &&& 31).toUInt32).toInt32) &&& (32767 : Int32)) % (7 : Int32))), .val (.int 0), .val (.ref b_66), .val (.ref a80)] [(.ref a80), (.ref b_66)])) rfl (by rw [hml]; rfl) (argsL := [(.ref b_66), (.ref a80)]) (rest := []) (lenOf pdv15 rfl) rfl (by show 2 * 0 + _ ≤ _; exact Nat.le_of_eq rfl) (hb hby at_269) (fun _ _ => ⟨rfl, e80, (by decide : 9 + 2 ≤ _), (by decide : 80 + 24 ≤ _)⟩)
          dsimp only [Pt.U, Pt.locs, Pt.cells, Pt.slots] at X84' l84 y84 z84 st84 hQ84 hS84' hg84 Rs84
          subst l84 y84 z84
          obtain ⟨X84, hS84, hZ84, hown84⟩ := rebS hS80 (by rw [e80]; exact hk80) X84' hS84' hg84 hZ80 hown80
          obtain ⟨rfl, N84q, Kc84⟩ := hQ84
          have O84 := O80.keep Kc84 all0
          have H_85 := Rs84.1
          have R_85 := R_81.trans Rs84
          have N84 := Fr.app N66 N84q
          obtain ⟨fs, hr, hrun, hended, hRW⟩ := X84.leaveW hS84 (Nat.le_refl _) (v := some (.int 1)) (fun h => by rw [Bd.returns] at h; cases h)
          have hCR : CHr Z EL1 s.vm s.heap T84.vm T84.heap := by
            rw [hh]
            exact R_85.trans (CHv.at X84 hZ84 (own_EW hw) H_85)
          refine ⟨_, _, pre83 _ ?_, hrun, hended, _, _, rfl, ?_, hCR, hRW.1, hRW.2.1, hRW.2.2.1, hRW.2.2.2.mono (by decide) (by decide)⟩
          · show Steps p.tables e below (T80.setTop (mkF m 248 #[.val (.int p0), .val (.int p1), .val (.int p2), .val (.int p3), .val (.ref b1), .val (.int ((p2 &&& (2147483647 : Int32)) % (6 : Int32))), .val (.int ((((p2.toUInt32 >>> ((16 : Int32) &&& 31).toUInt32).toInt32) &&& (32767 : Int32)) % (7 : Int32))), .val (.int 0), .val (.ref b_66), .val (.ref a80)] [(.int (p3 &&& (2 : Int32)))])) _
            refine XS.ifYes X80.here hx rfl (pc0 := 248) (pc' := 265) rfl (hb hby at_248) rfl ((if0 _ _).trans (teq hc248_82).1) (by decide) (by decide) ?_
            refine XS.aload X80.here hx rfl (hb hby at_265) rfl rfl ?_
            refine XS.aload X80.here hx rfl (hb hby at_267) rfl rfl ?_
            show Steps p.tables e below (T80.setTop (mkF m 269 #[.val (.int p0), .val (.int p1), .val (.int p2), .val (.int p3), .val (.ref b1), .val (.int ((p2 &&& (2147483647 : Int32)) % (6 : Int32))), .val (.int ((((p2.toUInt32 >>> ((16 : Int32) &&& 31).toUInt32).toInt32) &&& (32767 : Int32)) % (7 : Int32))), .val (.int 0), .val (.ref b_66), .val (.ref a80)] [(.ref a80), (.ref b_66)])) _
            refine st84.trans ?_
            show Steps p.tables e below (T84.setTop (mkF m 272 #[.val (.int p0), .val (.int p1), .val (.int p2), .val (.int p3), .val (.ref b1), .val (.int ((p2 &&& (2147483647 : Int32)) % (6 : Int32))), .val (.int ((((p2.toUInt32 >>> ((16 : Int32) &&& 31).toUInt32).toInt32) &&& (32767 : Int32)) % (7 : Int32))), .val (.int 0), .val (.ref b_66), .val (.ref a80)] [])) _
            refine XS.iconst X84.here hx rfl (hb hby at_272) ?_
            show Steps p.tables e below (T84.setTop (mkF m 273 #[.val (.int p0), .val (.int p1), .val (.int p2), .val (.int p3), .val (.ref b1), .val (.int ((p2 &&& (2147483647 : Int32)) % (6 : Int32))), .val (.int ((((p2.toUInt32 >>> ((16 : Int32) &&& 31).toUInt32).toInt32) &&& (32767 : Int32)) % (7 : Int32))), .val (.int 0), .val (.ref b_66), .val (.ref a80)] [(.int 1)])) _
            exact retN X84 hx (t := .boolean) Bd.returns (by simp) (hb hby at_273) hr
          · show Q_rm0 n0 _ T84.heap _
            exact ⟨rfl, N84⟩
        · have hv : ¬ ((255 : Int32) < (((p3.toUInt32 >>> ((8 : Int32) &&& 31).toUInt32).toInt32) &&& (255 : Int32))) := (own_and255 _).1
          obtain ⟨_, _, ⟨T86, L86, k86, n86⟩, -, X86, ⟨Lc86, hQ86, l86, y86, z86⟩, st86⟩ := Jvm.LawKit.callS X80 hx (y := MN_17) hown80 (mvT hZ80 (Wd hw 61 rfl)) (mvT hZ80 (Wd hw 62 rfl)) (mvT hZ80 (Wd hw 11 rfl)) (mvT hZ80 (Wd hw 63 rfl)) (by decide) (backOf (W := 0) (rmVo l Z a0 hw [] cS ((((p3.toUInt32 >>> ((8 : Int32) &&& 31).toUInt32).toInt32) &&& (255 : Int32))) (h80) n0 O80 GL hv) hZ80 (Wd hw 63 rfl) (Wd hw 11 rfl) (by decide) (by decide)) (g := (mkF m 260 #[.val (.int p0), .val (.int p1), .val (.int p2), .val (.int p3), .val (.ref b1), .val (.int ((p2 &&& (2147483647 : Int32)) % (6 : Int32))), .val (.int ((((p2.toUInt32 >>> ((16 : Int32) &&& 31).toUInt32).toInt32) &&& (32767 : Int32)) % (7 : Int32))), .val (.int 0), .val (.ref b_66), .val (.ref a80)] [(.int (((p3.toUInt32 >>> ((8 : Int32) &&& 31).toUInt32).toInt32) &&& (255 : Int32)))])) rfl (by rw [hml]; rfl) (argsL := [(.int (((p3.toUInt32 >>> ((8 : Int32) &&& 31).toUInt32).toInt32) &&& (255 : Int32)))]) (rest := []) (lenOf pdv16 rfl) rfl (by show 2 * 0 + _ ≤ _; exact Nat.le_of_eq rfl) (hb hby at_260) (fun _ _ => ⟨rfl, e80, (by decide : 9 + 2 ≤ _), (by decide : 80 + 5 ≤ _)⟩)
          dsimp only [Pt.U, Pt.locs, Pt.cells, Pt.slots] at X86 l86 y86 z86 st86 hQ86
          subst l86 y86 z86
          obtain ⟨b_86, rfl, N86q, Kc86, P86_0, P86_1⟩ := hQ86
          have O86 := O80.keep Kc86 all0
          have H_87 := H_81.keep Kc86 sf0
          have R_87 := R_81.trans (CHr.keep Kc86 sf0 H_81)
          have g_b_86 : n0 ≤ b_86 := Nat.le_trans (own_sz O80) P86_0
          have N86 := Fr.app N66 N86q
          obtain ⟨_, _, ⟨T88, L88, k88, n88⟩, -, X88', hS88', hg88, ⟨Lc88, hQ88, l88, y88, z88, Rs88⟩, st88⟩ := callSS X86 hx (y := MN_13) hown80 (mvT hZ80 (Wd hw 31 rfl)) (mvT hZ80 (Wd hw 32 rfl)) (mvT hZ80 (Wd hw 33 rfl)) (mvT hZ80 (Wd hw 34 rfl)) (by decide) (backOfSH (W := 0) (rmRf l Z a0 hw [] cS (b_66) (b_86) (bv_66) (kb_66) (nl_66) (vs_66) (T86.heap) n0 O86 GL ((P66_0.ext E80).keep Kc86) ((P66_1.ext E80).keep Kc86 nin0) ((P66_2.ext E80).keep Kc86 nin0) ((P66_3.ext E80).keep Kc86 nin0) P66_4) hZ80 (Wd hw 34 rfl) (Wd hw 33 rfl) (by decide) (by decide) (own_EW hw) H_87) (g := (mkF m 269 #[.val (.int p0), .val (.int p1), .val (.int p2), .val (.int p3), .val (.ref b1), .val (.int ((p2 &&& (2147483647 : Int32)) % (6 : Int32))), .val (.int ((((p2.toUInt32 >>> ((16 : Int32) &&& 31).toUInt32).toInt32) &&& (32767 : Int32)) % (7 : Int32))), .val (.int 0), .val (.ref b_66), .val (.ref b_86)] [(.ref b_86), (.ref b_66)])) rfl (by rw [hml]; rfl) (argsL := [(.ref b_66), (.ref b_86)]) (rest := []) (lenOf pdv15 rfl) rfl (by show 2 * 0 + _ ≤ _; exact Nat.le_of_eq rfl) (hb hby at_269) (fun _ _ => ⟨rfl, rfl, (by decide : 11 + 2 ≤ _), (by decide : 85 + 24 ≤ _)⟩)
          dsimp only [Pt.U, Pt.locs, Pt.cells, Pt.slots] at X88' l88 y88 z88 st88 hQ88 hS88' hg88 Rs88
          subst l88 y88 z88
          obtain ⟨X88, hS88, hZ88, hown88⟩ := rebS hS80 (Nat.le_trans hk80 Kc86.1) X88' hS88' hg88 hZ80 hown80
          obtain ⟨rfl, N88q, Kc88⟩ := hQ88
          have O88 := O86.keep Kc88 all0
          have H_89 := Rs88.1
          have R_89 := R_87.trans Rs88
          have N88 := Fr.app N86 N88q
          obtain ⟨fs, hr, hrun, hended, hRW⟩ := X88.leaveW hS88 (Nat.le_refl _) (v := some (.int 1)) (fun h => by rw [Bd.returns] at h; cases h)
          have hCR : CHr Z EL1 s.vm s.heap T88.vm T88.heap := by
            rw [hh]
            exact R_89.trans (CHv.at X88 hZ88 (own_EW hw) H_89)
          refine ⟨_, _, pre83 _ ?_, hrun, hended, _, _, rfl, ?_, hCR, hRW.1, hRW.2.1, hRW.2.2.1, hRW.2.2.2.mono (by decide) (by decide)⟩
          · show Steps p.tables e below (T80.setTop (mkF m 248 #[.val (.int p0), .val (.int p1), .val (.int p2), .val (.int p3), .val (.ref b1), .val (.int ((p2 &&& (2147483647 : Int32)) % (6 : Int32))), .val (.int ((((p2.toUInt32 >>> ((16 : Int32) &&& 31).toUInt32).toInt32) &&& (32767 : Int32)) % (7 : Int32))), .val (.int 0), .val (.ref b_66), .val (.ref a80)] [(.int (p3 &&& (2 : Int32)))])) _
            refine XS.ifNo X80.here hx rfl (hb hby at_248) rfl ((if0 _ _).trans (feq hc248_82).1) ?_
            refine XS.iloadN X80.here hx rfl (hb hby at_251) rfl ?_
            refine XS.bipush X80.here hx rfl (hb hby at_252) ?_
            refine XS.iushr X80.here hx rfl (hb hby at_254) rfl ?_
            show Steps p.tables e below (T80.setTop (mkF m 255 #[.val (.int p0), .val (.int p1), .val (.int p2), .val (.int p3), .val (.ref b1), .val (.int ((p2 &&& (2147483647 : Int32)) % (6 : Int32))), .val (.int ((((p2.toUInt32 >>> ((16 : Int32) &&& 31).toUInt32).toInt32) &&& (32767 : Int32)) % (7 : Int32))), .val (.int 0), .val (.ref b_66), .val (.ref a80)] [(.int ((p3.toUInt32 >>> ((8 : Int32) &&& 31).toUInt32).toInt32))])) _
            refine XS.sipush X80.here hx rfl (hb hby at_255) ?_
            refine XS.iand X80.here hx rfl (hb hby at_258) rfl ?_
            show Steps p.tables e below (T80.setTop (mkF m 259 #[.val (.int p0), .val (.int p1), .val (.int p2), .val (.int p3), .val (.ref b1), .val (.int ((p2 &&& (2147483647 : Int32)) % (6 : Int32))), .val (.int ((((p2.toUInt32 >>> ((16 : Int32) &&& 31).toUInt32).toInt32) &&& (32767 : Int32)) % (7 : Int32))), .val (.int 0), .val (.ref b_66), .val (.ref a80)] [(.int (((p3.toUInt32 >>> ((8 : Int32) &&& 31).toUInt32).toInt32) &&& (255 : Int32)))])) _
            refine XS.i2c X80.here hx rfl (hb hby at_259) rfl ?_
            rw [i2c_mask ((p3.toUInt32 >>> ((8 : Int32) &&& 31).toUInt32).toInt32)]
            show Steps p.tables e below (T80.setTop (mkF m 260 #[.val (.int p0), .val (.int p1), .val (.int p2), .val (.int p3), .val (.ref b1), .val (.int ((p2 &&& (2147483647 : Int32)) % (6 : Int32))), .val (.int ((((p2.toUInt32 >>> ((16 : Int32) &&& 31).toUInt32).toInt32) &&& (32767 : Int32)) % (7 : Int32))), .val (.int 0), .val (.ref b_66), .val (.ref a80)] [(.int (((p3.toUInt32 >>> ((8 : Int32) &&& 31).toUInt32).toInt32) &&& (255 : Int32)))])) _
            refine st86 _ ?_
            show Steps p.tables e below (T86.setTop (mkF m 263 #[.val (.int p0), .val (.int p1), .val (.int p2), .val (.int p3), .val (.ref b1), .val (.int ((p2 &&& (2147483647 : Int32)) % (6 : Int32))), .val (.int ((((p2.toUInt32 >>> ((16 : Int32) &&& 31).toUInt32).toInt32) &&& (32767 : Int32)) % (7 : Int32))), .val (.int 0), .val (.ref b_66), .val (.ref a80)] [(.ref b_86)])) _
            refine XS.astore X86.here hx rfl (hb hby at_263) rfl rfl (l' := #[.val (.int p0), .val (.int p1), .val (.int p2), .val (.int p3), .val (.ref b1), .val (.int ((p2 &&& (2147483647 : Int32)) % (6 : Int32))), .val (.int ((((p2.toUInt32 >>> ((16 : Int32) &&& 31).toUInt32).toInt32) &&& (32767 : Int32)) % (7 : Int32))), .val (.int 0), .val (.ref b_66), .val (.ref b_86)]) rfl ?_
            refine XS.aload X86.here hx rfl (hb hby at_265) rfl rfl ?_
            refine XS.aload X86.here hx rfl (hb hby at_267) rfl rfl ?_
            show Steps p.tables e below (T86.setTop (mkF m 269 #[.val (.int p0), .val (.int p1), .val (.int p2), .val (.int p3), .val (.ref b1), .val (.int ((p2 &&& (2147483647 : Int32)) % (6 : Int32))), .val (.int ((((p2.toUInt32 >>> ((16 : Int32) &&& 31).toUInt32).toInt32) &&& (32767 : Int32)) % (7 : Int32))), .val (.int 0), .val (.ref b_66), .val (.ref b_86)] [(.ref b_86), (.ref b_66)])) _
            refine st88.trans ?_
            show Steps p.tables e below (T88.setTop (mkF m 272 #[.val (.int p0), .val (.int p1), .val (.int p2), .val (.int p3), .val (.ref b1), .val (.int ((p2 &&& (2147483647 : Int32)) % (6 : Int32))), .val (.int ((((p2.toUInt32 >>> ((16 : Int32) &&& 31).toUInt32).toInt32) &&& (32767 : Int32)) % (7 : Int32))), .val (.int 0), .val (.ref b_66), .val (.ref b_86)] [])) _
            refine XS.iconst X88.here hx rfl (hb hby at_272) ?_
            show Steps p.tables e below (T88.setTop (mkF m 273 #[.val (.int p0), .val (.int p1), .val (.int p2), .val (.int p3), .val (.ref b1), .val (.int ((p2 &&& (2147483647 : Int32)) % (6 : Int32))), .val (.int ((((p2.toUInt32 >>> ((16 : Int32) &&& 31).toUInt32).toInt32) &&& (32767 : Int32)) % (7 : Int32))), .val (.int 0), .val (.ref b_66), .val (.ref b_86)] [(.int 1)])) _
            exact retN X88 hx (t := .boolean) Bd.returns (by simp) (hb hby at_273) hr
          · show Q_rm0 n0 _ T88.heap _
            exact ⟨rfl, N88⟩
set_option maxRecDepth 65536 in
set_option maxHeartbeats 40000000 in
theorem comes_1 {Post : Tables → Env → Array Value → State → Outcome → State → Prop} (hpost : ∀ tb e args s v u, (limb_1_1.after args s (.returned v) u = true ∧ limb_1_2.after args s (.returned v) u = true ∧ True) → ReturnedEndW s (.returned v) u (Jvm.fieldLocs frame_1_writes args s ++ Jvm.arrayLocs frame_1_arrays args s ++ Jvm.staticLocs frame_1_statics s) 32 4288 → Post tb e args s (.returned v) u) :
    ArmFor flags0 classFile x code maxLocals ret World_1 tables_1 room_1 Calls_1 rest_1 Pre_1 Post := by
  intro l hfl _ _ p e ha hc hk s m args below hf hA hF happ hP
  obtain ⟨hcalls, hrest, hpre⟩ := hP
  obtain ⟨-, -, -, hnamed, -, -, -, hat⟩ := (Spec.applies_iff hf).mp happ
  obtain ⟨hg, hn⟩ := and_e (Cond.before_iff.mp (show (Jvm.Cond.and given_1 narrow_1).before args s = true from hpre))
  obtain ⟨gv_l0, gv_r0⟩ := and_e hg
  obtain ⟨gv_l2, gv_r2⟩ := and_e gv_r0
  obtain ⟨gv_l4, gv_r4⟩ := and_e gv_r2
  obtain ⟨gv_l6, gv_r6⟩ := and_e gv_r4
  obtain ⟨w0, w1, w2, w3, rfl⟩ : ∃ w0 w1 w2 w3 : Value, args = #[w0, w1, w2, w3] := by
    have hs : args.size = 4 := by simpa [Cond.value, given_1] using gv_l0
    obtain ⟨L⟩ := args
    match L, hs with
    | [w0, w1, w2, w3], _ => exact ⟨w0, w1, w2, w3, rfl⟩
  have hw := fun d (hd : d ∈ tables_1) => atoms_spec (ws := Jvm.Cond.code x code maxLocals ret :: tables_1) hat d (List.mem_cons_of_mem _ hd)
  have hfit : Fit s := fun {y c} hc i hi => by
    obtain ⟨ha, rfl⟩ := Array.getElem?_eq_some_iff.mp hc
    have q := List.all_eq_true.mp ((Array.all_eq_true_iff_forall_mem.mp hF) _ (Array.getElem_mem ha)) i (List.mem_range.mpr hi)
    simpa [Array.getElem?_eq_getElem hi] using q
  obtain ⟨hsets, hown0⟩ := atoms_of _ (rest_1_c_eq ▸ (show rest_1_c.before _ s = true from hrest))
  have hr0 := Cond.before_iff.mp hown0
  obtain ⟨i0, ei0⟩ := is_v gv_l2
  obtain rfl : w0 = (.int i0) := Option.some.inj ei0
  obtain ⟨i1, ei1⟩ := is_v gv_l4
  obtain rfl : w1 = (.int i1) := Option.some.inj ei1
  obtain ⟨i2, ei2⟩ := is_v gv_l6
  obtain rfl : w2 = (.int i2) := Option.some.inj ei2
  obtain ⟨i3, ei3⟩ := is_v gv_r6
  obtain rfl : w3 = (.int i3) := Option.some.inj ei3
  obtain ⟨cS, eCS⟩ := is_v (Cond.before_iff.mp (hsets _ (List.mem_of_getElem? (i := 1) rfl)))
  have SCS := Sta.start eCS (Or.inl (hsets _ (List.mem_of_getElem? (i := 0) rfl)))
  have PCS : ¬ (cS = (0 : Int32)) := gotF (Cond.eq_ints eCS (Term.int_eval (0 : Int32))) (not_v (Cond.before_iff.mp (hsets _ (List.mem_of_getElem? (i := 2) rfl))))
  have GL : GF s cS := ⟨SCS, PCS⟩
  have H0 : CHv s EL1 s.vm s.heap := CHv.start (own_EW hw) hcalls.1 (hsets _ (List.mem_of_getElem? (i := 2) rfl)) (Wd hw 23 rfl) (Wd hw 10 rfl)
  obtain ⟨n, o, h1, h2, h3, _, L, rfl, ⟨rfl, N⟩, -, hq⟩ := rm0 l s _ hw tables_1 cS i0 i1 i2 i3 s.heap s.heap.size (Old.start s) GL p e ha hc hk s m _ below hf ((Spec.applies_iff_loose hf).mp happ).1 ⟨rfl, State.Warmed39.refl s, rfl, H0⟩ trivial
  refine ⟨n, _, h1, h2, h3, hpost _ _ _ _ _ _ ⟨Cond.after_iff.mpr rfl, Cond.after_iff.mpr (eq_i res_at (Term.int_eval (1)) rfl), trivial⟩ ⟨hq.1, hq.2.1, hq.2.2.1, (hq.2.2.2.sift fun y hy => Or.inr (N y hy)).mono (by decide) (by decide)⟩⟩
theorem main_1_1 : Claimed_1_1 := comes_1 fun _ _ _ _ _ _ h hF => ⟨h.1, hF⟩
theorem main_1_2 : Claimed_1_2 := comes_1 fun _ _ _ _ _ _ h hF => ⟨h.2.1, hF⟩
end Jvm.Pilot.@@N@@
namespace Jvm.Pilot.@@N@@
open Jvm Jvm.ClassFile Sem Op Lib Jvm.Free Jvm.Stand Jvm.Pilot.@@N@@.Jvm.D
/-! MADE BY PROGRAM (witnessworld.py) out of the Statement's table words and the real class files: 20 classes; the members and pool entries that the words name. The judged class is class 1, her method 1. -/
namespace start1
open Jvm.ClassFile
def u (s : String) : CpInfo := .utf8 (stringToUtf16 s)
/-- a pool by its gaps: so many unusable entries, then the entry; so many at the end -/
def gap : Nat → List CpInfo → List CpInfo
  | 0, r => r
  | n + 1, r => .unusable :: gap n r
def poolList (es : List (Nat × CpInfo)) (last : Nat) : List CpInfo := es.foldr (fun e r => gap e.1 (e.2 :: r)) (gap last [])
def pool (es : List (Nat × CpInfo)) (last : Nat) : Array CpInfo := ⟨poolList es last⟩
def fileOf (pool : Array CpInfo) (this : Nat) (attrs : Array Attribute := #[]) (ms : Array MethodInfo := #[]) (fl : Nat := 33) (sup : Nat := 0) (ifs : Array Nat := #[]) (fds : Array FieldInfo := #[]) : ClassFile where
  minorVersion := 0
  majorVersion := 65
  constantPool := pool
  accessFlags := fl
  thisClass := this
  superClass := sup
  interfaces := ifs
  fields := fds
  methods := ms
  attributes := attrs
def plain (name : String) (sup : Option ClassId) : Class where
  name := name
  kind := .ordinary
  loader := none
  accessFlags := 33
  super := sup
  interfaces := #[]
  cf := none
  fields := #[]
  methods := #[]
  instanceTypes := #[]
  staticTypes := #[]
  resolved := #[]
  callSites := []
  init := .initialized
  statics := none
  mirror := none

def pool0 : Array CpInfo := pool [(5, u "<init>"), (0, u "()V"), (1, .class_ 10), (1, u "java/lang/Object")] 113

def k0c0 : Code := { maxStack := 0, maxLocals := 1, code := object_method_1_code, exceptionTable := #[], attributes := #[] }
def k0m0 : Method := { name := "<init>", desc := "()V", sig := { parameters := [], returnType := none }, accessFlags := 1, code := some k0c0 }
/-- java/lang/Object -/
def k0 : Class := { plain "java/lang/Object" none with
  accessFlags := 33
  interfaces := #[]
  cf := some (fileOf pool0 8 #[] #[{ accessFlags := 1, nameIndex := 5, descriptorIndex := 6, attributes := #[] }] 33 0 #[] #[])
  fields := #[]
  methods := #[k0m0]
  instanceTypes := #[]
  staticTypes := #[]
  resolved := Array.replicate 124 none
  statics := none }

def pool1 : Array CpInfo := pool [(2, .class_ 4), (1, u "java/lang/Object"), (0, u "<init>"), (0, u "()V"), (0, .integer 2147483647), (0, .methodref 9 10), (0, .class_ 11), (0, .nameAndType 12 13), (0, u "com/example/loomwire/loomwire/bundle/JavaPackagesRefusePinLaw"), (0, u "place"), (0, u "([CIIC)V"), (0, .methodref 9 15), (0, .nameAndType 16 17), (0, u "take"), (0, u "([CI)Ljava/lang/String;"), (0, .string 19), (0, u "Import-Package"), (0, .string 21), (0, u "Export-Package"), (0, .methodref 23 24), (0, .class_ 25), (0, .nameAndType 26 27), (0, u "java/lang/String"), (0, u "valueOf"), (0, u "(C)Ljava/lang/String;"), (0, .methodref 29 30), (0, .class_ 31), (0, .nameAndType 32 33), (0, u "com/example/loomwire/loomwire/bundle/JavaPackages"), (0, u "refuse"), (0, u "(Ljava/lang/String;Ljava/lang/String;)V"), (0, .methodref 23 35), (0, .nameAndType 5 36), (0, u "([C)V"), (2, u "law"), (0, u "(IIII)Z")] 8

def k1m0 : Method := { name := "<init>", desc := "()V", sig := { parameters := [], returnType := none }, accessFlags := 2, code := none }
def k1c1 : Code := { maxStack := 4, maxLocals := 10, code := code, exceptionTable := #[], attributes := #[] }
def k1m1 : Method := { name := "law", desc := "(IIII)Z", sig := { parameters := [.int, .int, .int, .int], returnType := some .boolean }, accessFlags := 9, code := some k1c1 }
def k1c2 : Code := { maxStack := 4, maxLocals := 4, code := method_3_code, exceptionTable := #[], attributes := #[] }
def k1m2 : Method := { name := "place", desc := "([CIIC)V", sig := { parameters := [(.array .char), .int, .int, .char], returnType := none }, accessFlags := 10, code := some k1c2 }
def k1c3 : Code := { maxStack := 7, maxLocals := 2, code := method_4_code, exceptionTable := #[], attributes := #[] }
def k1m3 : Method := { name := "take", desc := "([CI)Ljava/lang/String;", sig := { parameters := [(.array .char), .int], returnType := some (.object "java/lang/String") }, accessFlags := 10, code := some k1c3 }
/-- com/example/loomwire/loomwire/bundle/JavaPackagesRefusePinLaw -/
def k1 : Class := { plain "com/example/loomwire/loomwire/bundle/JavaPackagesRefusePinLaw" (some 0) with
  accessFlags := 49
  interfaces := #[]
  cf := some (fileOf pool1 9 #[] #[{ accessFlags := 2, nameIndex := 5, descriptorIndex := 6, attributes := #[] }, { accessFlags := 9, nameIndex := 39, descriptorIndex := 40, attributes := #[] }, { accessFlags := 10, nameIndex := 12, descriptorIndex := 13, attributes := #[] }, { accessFlags := 10, nameIndex := 16, descriptorIndex := 17, attributes := #[] }] 49 2 #[] #[])
  fields := #[]
  methods := #[k1m0, k1m1, k1m2, k1m3]
  instanceTypes := #[]
  staticTypes := #[]
  resolved := Array.replicate 49 none
  statics := none }

def pool2 : Array CpInfo := pool [(1, .class_ 2), (0, u "java/io/Serializable"), (0, .class_ 4), (0, u "java/lang/Object")] 2

/-- java/io/Serializable -/
def k2 : Class := { plain "java/io/Serializable" (some 0) with
  accessFlags := 1537
  interfaces := #[]
  cf := some (fileOf pool2 1 #[] #[] 1537 3 #[] #[])
  fields := #[]
  methods := #[]
  instanceTypes := #[]
  staticTypes := #[]
  resolved := Array.replicate 7 none
  statics := none }

def pool3 : Array CpInfo := pool [(1, .class_ 2), (0, u "java/lang/Comparable"), (0, .class_ 4), (0, u "java/lang/Object")] 7

/-- java/lang/Comparable -/
def k3 : Class := { plain "java/lang/Comparable" (some 0) with
  accessFlags := 1537
  interfaces := #[]
  cf := some (fileOf pool3 1 #[] #[] 1537 3 #[] #[])
  fields := #[]
  methods := #[]
  instanceTypes := #[]
  staticTypes := #[]
  resolved := Array.replicate 12 none
  statics := none }

def pool4 : Array CpInfo := pool [(2, .class_ 4), (1, u "java/lang/CharSequence"), (42, .class_ 48), (0, u "java/lang/CharSequence$1CodePointIterator"), (10, .class_ 60), (0, u "java/lang/CharSequence$1CharIterator"), (5, .class_ 67), (0, u "java/lang/Object")] 63

/-- java/lang/CharSequence -/
def k4 : Class := { plain "java/lang/CharSequence" (some 0) with
  accessFlags := 1537
  interfaces := #[]
  cf := some (fileOf pool4 2 #[.nestMembers #[47, 59]] #[] 1537 66 #[] #[])
  fields := #[]
  methods := #[]
  instanceTypes := #[]
  staticTypes := #[]
  resolved := Array.replicate 131 none
  statics := none }

def pool5 : Array CpInfo := pool [(1, .class_ 2), (0, u "java/lang/constant/Constable"), (0, .class_ 4), (0, u "java/lang/Object")] 6

/-- java/lang/constant/Constable -/
def k5 : Class := { plain "java/lang/constant/Constable" (some 0) with
  accessFlags := 1537
  interfaces := #[]
  cf := some (fileOf pool5 1 #[] #[] 1537 3 #[] #[])
  fields := #[]
  methods := #[]
  instanceTypes := #[]
  staticTypes := #[]
  resolved := Array.replicate 11 none
  statics := none }

def pool6 : Array CpInfo := pool [(1, .class_ 2), (0, u "java/lang/constant/ConstantDesc"), (0, .class_ 4), (0, u "java/lang/Object")] 32

/-- java/lang/constant/ConstantDesc -/
def k6 : Class := { plain "java/lang/constant/ConstantDesc" (some 0) with
  accessFlags := 1537
  interfaces := #[]
  cf := some (fileOf pool6 1 #[] #[] 1537 3 #[] #[])
  fields := #[]
  methods := #[]
  instanceTypes := #[]
  staticTypes := #[]
  resolved := Array.replicate 37 none
  statics := none }

def pool7 : Array CpInfo := pool [(1, .methodref 2 3), (0, .class_ 4), (0, .nameAndType 5 6), (0, u "java/lang/Object"), (0, u "<init>"), (0, u "()V"), (0, .string 8), (0, u ""), (0, .fieldref 10 11), (0, .class_ 12), (0, .nameAndType 13 14), (0, u "java/lang/String"), (0, u "value"), (0, u "[B"), (0, .fieldref 10 16), (0, .nameAndType 17 18), (0, u "coder"), (0, u "B"), (2, u "hash"), (0, u "I"), (2, u "hashIsZero"), (0, u "Z"), (0, .methodref 10 28), (0, .nameAndType 5 29), (0, u "([CIILjava/lang/Void;)V"), (8, .fieldref 10 39), (0, .nameAndType 40 26), (0, u "COMPACT_STRINGS"), (1, .class_ 44), (1, u "java/lang/StringUTF16"), (0, u "compress"), (1, .methodref 42 48), (0, .nameAndType 49 50), (0, u "coderFromArrayLen"), (0, u "([BI)B"), (2, u "toBytes"), (53, .class_ 109), (1, u "java/lang/StringLatin1"), (67, .methodref 42 178), (0, .nameAndType 45 179), (0, u "([CII)[B"), (29, .methodref 10 210), (0, .nameAndType 5 211), (0, u "([BB)V"), (122, u "()I"), (0, .methodref 10 336), (0, .nameAndType 17 337), (0, u "()B"), (31, u "(C)Z"), (6, u "([BI[BII)I"), (128, .methodref 10 506), (0, .nameAndType 507 334), (0, u "length"), (51, .class_ 561), (1, u "jdk/internal/util/ArraysSupport"), (0, u "mismatch"), (12, .class_ 576), (0, u "java/lang/CharSequence"), (22, u "CASE_INSENSITIVE_ORDER"), (0, u "Ljava/util/Comparator;"), (6, .methodref 559 608), (0, .nameAndType 562 376), (15, .methodref 10 625), (0, .nameAndType 626 627), (0, u "startsWith"), (0, u "(Ljava/lang/String;I)Z"), (154, u "valueOf"), (0, u "(C)Ljava/lang/String;"), (226, u "([C)V"), (4, .methodref 107 1016), (0, .nameAndType 1017 369), (0, u "canEncode"), (0, .methodref 107 1019), (0, .nameAndType 53 1020), (0, u "(C)[B"), (80, u "serialPersistentFields"), (0, u "[Ljava/io/ObjectStreamField;"), (0, .class_ 1104), (0, u "java/lang/String$CaseInsensitiveComparator"), (1, .class_ 1107), (0, u "java/io/Serializable"), (0, .class_ 1109), (0, u "java/lang/Comparable"), (0, .class_ 1111), (0, u "java/lang/constant/Constable"), (0, .class_ 1113), (0, u "java/lang/constant/ConstantDesc"), (2, u "serialVersionUID"), (0, u "J"), (3, u "REPL"), (0, u "C"), (2, u "LATIN1"), (1, u "UTF16"), (129, u "(Ljava/lang/String;)Z")] 193

def k7m0 : Method := { name := "<init>", desc := "()V", sig := { parameters := [], returnType := none }, accessFlags := 1, code := none }
def k7c1 : Code := { maxStack := 5, maxLocals := 2, code := jdk_42_method_3_code, exceptionTable := #[], attributes := #[] }
def k7m1 : Method := { name := "<init>", desc := "([C)V", sig := { parameters := [(.array .char)], returnType := none }, accessFlags := 1, code := some k7c1 }
def k7c2 : Code := { maxStack := 2, maxLocals := 1, code := jdk_42_method_54_code, exceptionTable := #[], attributes := #[] }
def k7m2 : Method := { name := "length", desc := "()I", sig := { parameters := [], returnType := some .int }, accessFlags := 1, code := some k7c2 }
def k7c3 : Code := { maxStack := 5, maxLocals := 8, code := jdk_42_method_75_code, exceptionTable := #[], attributes := #[] }
def k7m3 : Method := { name := "startsWith", desc := "(Ljava/lang/String;I)Z", sig := { parameters := [(.object "java/lang/String"), .int], returnType := some .boolean }, accessFlags := 1, code := some k7c3 }
def k7c4 : Code := { maxStack := 3, maxLocals := 2, code := jdk_42_method_76_code, exceptionTable := #[], attributes := #[] }
def k7m4 : Method := { name := "startsWith", desc := "(Ljava/lang/String;)Z", sig := { parameters := [(.object "java/lang/String")], returnType := some .boolean }, accessFlags := 1, code := some k7c4 }
def k7c5 : Code := { maxStack := 4, maxLocals := 1, code := jdk_42_method_139_code, exceptionTable := #[], attributes := #[] }
def k7m5 : Method := { name := "valueOf", desc := "(C)Ljava/lang/String;", sig := { parameters := [.char], returnType := some (.object "java/lang/String") }, accessFlags := 9, code := some k7c5 }
def k7c6 : Code := { maxStack := 4, maxLocals := 6, code := jdk_42_method_149_code, exceptionTable := #[], attributes := #[] }
def k7m6 : Method := { name := "<init>", desc := "([CIILjava/lang/Void;)V", sig := { parameters := [(.array .char), .int, .int, (.object "java/lang/Void")], returnType := none }, accessFlags := 2, code := some k7c6 }
def k7c7 : Code := { maxStack := 2, maxLocals := 3, code := jdk_42_method_151_code, exceptionTable := #[], attributes := #[] }
def k7m7 : Method := { name := "<init>", desc := "([BB)V", sig := { parameters := [(.array .byte), .byte], returnType := none }, accessFlags := 0, code := some k7c7 }
def k7c8 : Code := { maxStack := 1, maxLocals := 1, code := jdk_42_method_152_code, exceptionTable := #[], attributes := #[] }
def k7m8 : Method := { name := "coder", desc := "()B", sig := { parameters := [], returnType := some .byte }, accessFlags := 0, code := some k7c8 }
/-- java/lang/String -/
def k7 : Class := { plain "java/lang/String" (some 0) with
  accessFlags := 49
  interfaces := #[2, 3, 4, 5, 6]
  cf := some (fileOf pool7 10 #[.nestMembers #[1103]] #[{ accessFlags := 1, nameIndex := 5, descriptorIndex := 6, attributes := #[] }, { accessFlags := 1, nameIndex := 5, descriptorIndex := 1010, attributes := #[] }, { accessFlags := 1, nameIndex := 507, descriptorIndex := 334, attributes := #[] }, { accessFlags := 1, nameIndex := 626, descriptorIndex := 627, attributes := #[] }, { accessFlags := 1, nameIndex := 626, descriptorIndex := 1257, attributes := #[] }, { accessFlags := 9, nameIndex := 782, descriptorIndex := 783, attributes := #[] }, { accessFlags := 2, nameIndex := 5, descriptorIndex := 29, attributes := #[] }, { accessFlags := 0, nameIndex := 5, descriptorIndex := 211, attributes := #[] }, { accessFlags := 0, nameIndex := 17, descriptorIndex := 337, attributes := #[] }] 49 2 #[1106, 1108, 575, 1110, 1112] #[{ accessFlags := 18, nameIndex := 13, descriptorIndex := 14, attributes := #[] }, { accessFlags := 18, nameIndex := 17, descriptorIndex := 18, attributes := #[] }, { accessFlags := 2, nameIndex := 21, descriptorIndex := 22, attributes := #[] }, { accessFlags := 2, nameIndex := 25, descriptorIndex := 26, attributes := #[] }, { accessFlags := 26, nameIndex := 1116, descriptorIndex := 1117, attributes := #[] }, { accessFlags := 24, nameIndex := 40, descriptorIndex := 26, attributes := #[] }, { accessFlags := 26, nameIndex := 1101, descriptorIndex := 1102, attributes := #[] }, { accessFlags := 26, nameIndex := 1121, descriptorIndex := 1122, attributes := #[] }, { accessFlags := 25, nameIndex := 599, descriptorIndex := 600, attributes := #[] }, { accessFlags := 24, nameIndex := 1125, descriptorIndex := 18, attributes := #[] }, { accessFlags := 24, nameIndex := 1127, descriptorIndex := 18, attributes := #[] }])
  fields := #[{ name := "value", type := (.array .byte), accessFlags := 18, slot := 0, constantValue := 0 }, { name := "coder", type := .byte, accessFlags := 18, slot := 1, constantValue := 0 }, { name := "hash", type := .int, accessFlags := 2, slot := 2, constantValue := 0 }, { name := "hashIsZero", type := .boolean, accessFlags := 2, slot := 3, constantValue := 0 }, { name := "serialVersionUID", type := .long, accessFlags := 26, slot := 0, constantValue := 0 }, { name := "COMPACT_STRINGS", type := .boolean, accessFlags := 24, slot := 1, constantValue := 0 }, { name := "serialPersistentFields", type := (.array (.object "java/io/ObjectStreamField")), accessFlags := 26, slot := 2, constantValue := 0 }, { name := "REPL", type := .char, accessFlags := 26, slot := 3, constantValue := 0 }, { name := "CASE_INSENSITIVE_ORDER", type := (.object "java/util/Comparator"), accessFlags := 25, slot := 4, constantValue := 0 }, { name := "LATIN1", type := .byte, accessFlags := 24, slot := 5, constantValue := 0 }, { name := "UTF16", type := .byte, accessFlags := 24, slot := 6, constantValue := 0 }]
  methods := #[k7m0, k7m1, k7m2, k7m3, k7m4, k7m5, k7m6, k7m7, k7m8]
  instanceTypes := #[(.array .byte), .byte, .int, .boolean]
  staticTypes := #[.long, .boolean, (.array (.object "java/io/ObjectStreamField")), .char, (.object "java/util/Comparator"), .byte, .byte]
  resolved := Array.replicate 1451 none
  statics := some 0 }

def pool8 : Array CpInfo := pool [(2, .class_ 4), (1, u "java/lang/Object"), (0, u "<init>"), (0, u "()V"), (0, .class_ 8), (0, u "com/example/loomwire/loomwire/bundle/JavaPackages"), (0, .string 10), (0, u "java."), (0, .methodref 12 13), (0, .class_ 14), (0, .nameAndType 15 16), (0, u "java/lang/String"), (0, u "startsWith"), (0, u "(Ljava/lang/String;)Z"), (0, .methodref 7 18), (0, .nameAndType 19 16), (0, u "contains"), (15, u "PREFIX"), (0, u "Ljava/lang/String;"), (3, u "refuse"), (0, u "(Ljava/lang/String;Ljava/lang/String;)V")] 19

def k8m0 : Method := { name := "<init>", desc := "()V", sig := { parameters := [], returnType := none }, accessFlags := 2, code := none }
def k8c1 : Code := { maxStack := 2, maxLocals := 1, code := prog_7_method_2_code, exceptionTable := #[], attributes := #[] }
def k8m1 : Method := { name := "contains", desc := "(Ljava/lang/String;)Z", sig := { parameters := [(.object "java/lang/String")], returnType := some .boolean }, accessFlags := 9, code := some k8c1 }
def k8c2 : Code := { maxStack := 5, maxLocals := 2, code := prog_7_method_3_code, exceptionTable := #[], attributes := #[] }
def k8m2 : Method := { name := "refuse", desc := "(Ljava/lang/String;Ljava/lang/String;)V", sig := { parameters := [(.object "java/lang/String"), (.object "java/lang/String")], returnType := none }, accessFlags := 8, code := some k8c2 }
/-- com/example/loomwire/loomwire/bundle/JavaPackages -/
def k8 : Class := { plain "com/example/loomwire/loomwire/bundle/JavaPackages" (some 0) with
  accessFlags := 49
  interfaces := #[]
  cf := some (fileOf pool8 7 #[] #[{ accessFlags := 2, nameIndex := 5, descriptorIndex := 6, attributes := #[] }, { accessFlags := 9, nameIndex := 19, descriptorIndex := 16, attributes := #[] }, { accessFlags := 8, nameIndex := 40, descriptorIndex := 41, attributes := #[] }] 49 2 #[] #[{ accessFlags := 26, nameIndex := 35, descriptorIndex := 36, attributes := #[] }])
  fields := #[{ name := "PREFIX", type := (.object "java/lang/String"), accessFlags := 26, slot := 0, constantValue := 0 }]
  methods := #[k8m0, k8m1, k8m2]
  instanceTypes := #[]
  staticTypes := #[(.object "java/lang/String")]
  resolved := Array.replicate 61 none
  statics := none }

def pool9 : Array CpInfo := pool [(4, .class_ 6), (1, u "java/lang/Object"), (0, u "<init>"), (0, u "()V"), (5, .class_ 16), (1, u "java/lang/StringLatin1"), (73, u "canEncode"), (14, u "(C)Z"), (15, u "$assertionsDisabled"), (0, u "Z"), (98, .class_ 223), (1, u "java/lang/StringLatin1$LinesSpliterator"), (156, u "toBytes"), (1, u "(C)[B"), (7, .class_ 391), (0, u "java/lang/StringLatin1$CharsSpliterator")] 3

def k9m0 : Method := { name := "<init>", desc := "()V", sig := { parameters := [], returnType := none }, accessFlags := 0, code := none }
def k9c1 : Code := { maxStack := 2, maxLocals := 1, code := jdk_43_method_3_code, exceptionTable := #[], attributes := #[] }
def k9m1 : Method := { name := "canEncode", desc := "(C)Z", sig := { parameters := [.char], returnType := some .boolean }, accessFlags := 9, code := some k9c1 }
def k9c2 : Code := { maxStack := 4, maxLocals := 1, code := jdk_43_method_46_code, exceptionTable := #[], attributes := #[] }
def k9m2 : Method := { name := "toBytes", desc := "(C)[B", sig := { parameters := [.char], returnType := some (.array .byte) }, accessFlags := 9, code := some k9c2 }
/-- java/lang/StringLatin1 -/
def k9 : Class := { plain "java/lang/StringLatin1" (some 0) with
  accessFlags := 48
  interfaces := #[]
  cf := some (fileOf pool9 14 #[.nestMembers #[390, 221]] #[{ accessFlags := 0, nameIndex := 7, descriptorIndex := 8, attributes := #[] }, { accessFlags := 9, nameIndex := 90, descriptorIndex := 105, attributes := #[] }, { accessFlags := 9, nameIndex := 380, descriptorIndex := 382, attributes := #[] }] 48 4 #[] #[{ accessFlags := 4120, nameIndex := 121, descriptorIndex := 122, attributes := #[] }])
  fields := #[{ name := "$assertionsDisabled", type := .boolean, accessFlags := 4120, slot := 0, constantValue := 0 }]
  methods := #[k9m0, k9m1, k9m2]
  instanceTypes := #[]
  staticTypes := #[.boolean]
  resolved := Array.replicate 395 none
  statics := none }

def pool10 : Array CpInfo := pool [(6, .class_ 8), (1, u "java/lang/Object"), (0, u "<init>"), (0, u "()V"), (1, .class_ 14), (1, u "java/lang/StringUTF16"), (31, u "$assertionsDisabled"), (0, u "Z"), (13, u "HI_BYTE_SHIFT"), (0, u "I"), (2, u "LO_BYTE_SHIFT"), (49, .methodref 12 116), (0, .nameAndType 117 118), (0, u "compress"), (0, u "([CI[BII)I"), (3, u "([CII)[B"), (138, u "coderFromArrayLen"), (0, u "([BI)B"), (106, .class_ 371), (1, u "java/lang/StringUTF16$LinesSpliterator"), (58, u "MAX_LENGTH"), (196, .class_ 628), (0, u "java/lang/StringUTF16$CodePointsSpliterator"), (0, .class_ 630), (0, u "java/lang/StringUTF16$CharsSpliterator")] 4

def k10m0 : Method := { name := "<init>", desc := "()V", sig := { parameters := [], returnType := none }, accessFlags := 0, code := none }
def k10c1 : Code := { maxStack := 2, maxLocals := 2, code := jdk_52_method_15_code, exceptionTable := #[], attributes := #[] }
def k10m1 : Method := { name := "coderFromArrayLen", desc := "([BI)B", sig := { parameters := [(.array .byte), .int], returnType := some .byte }, accessFlags := 8, code := some k10c1 }
def k10c2 : Code := { maxStack := 5, maxLocals := 6, code := jdk_52_method_16_code, exceptionTable := #[], attributes := #[] }
def k10m2 : Method := { name := "compress", desc := "([CII)[B", sig := { parameters := [(.array .char), .int, .int], returnType := some (.array .byte) }, accessFlags := 9, code := some k10c2 }
def k10c3 : Code := { maxStack := 3, maxLocals := 7, code := jdk_52_method_21_code, exceptionTable := #[], attributes := #[] }
def k10m3 : Method := { name := "compress", desc := "([CI[BII)I", sig := { parameters := [(.array .char), .int, (.array .byte), .int, .int], returnType := some .int }, accessFlags := 9, code := some k10c3 }
/-- java/lang/StringUTF16 -/
def k10 : Class := { plain "java/lang/StringUTF16" (some 0) with
  accessFlags := 48
  interfaces := #[]
  cf := some (fileOf pool10 12 #[.nestMembers #[627, 629, 369]] #[{ accessFlags := 0, nameIndex := 9, descriptorIndex := 10, attributes := #[] }, { accessFlags := 8, nameIndex := 261, descriptorIndex := 262, attributes := #[] }, { accessFlags := 9, nameIndex := 117, descriptorIndex := 122, attributes := #[] }, { accessFlags := 9, nameIndex := 117, descriptorIndex := 118, attributes := #[] }] 48 6 #[] #[{ accessFlags := 26, nameIndex := 61, descriptorIndex := 62, attributes := #[] }, { accessFlags := 26, nameIndex := 65, descriptorIndex := 62, attributes := #[] }, { accessFlags := 24, nameIndex := 430, descriptorIndex := 62, attributes := #[] }, { accessFlags := 4120, nameIndex := 46, descriptorIndex := 47, attributes := #[] }])
  fields := #[{ name := "HI_BYTE_SHIFT", type := .int, accessFlags := 26, slot := 0, constantValue := 0 }, { name := "LO_BYTE_SHIFT", type := .int, accessFlags := 26, slot := 1, constantValue := 0 }, { name := "MAX_LENGTH", type := .int, accessFlags := 24, slot := 2, constantValue := 0 }, { name := "$assertionsDisabled", type := .boolean, accessFlags := 4120, slot := 3, constantValue := 0 }]
  methods := #[k10m0, k10m1, k10m2, k10m3]
  instanceTypes := #[]
  staticTypes := #[.int, .int, .int, .boolean]
  resolved := Array.replicate 635 none
  statics := none }

def pool11 : Array CpInfo := pool [(9, u "<init>"), (6, .class_ 18), (1, u "java/lang/Object"), (0, u "()V"), (1, .class_ 23), (1, u "jdk/internal/util/ArraysSupport"), (0, u "LOG2_ARRAY_LONG_INDEX_SCALE"), (0, u "I"), (2, u "U"), (0, u "Ljdk/internal/misc/Unsafe;"), (8, u "BIG_ENDIAN"), (0, u "Z"), (8, u "LOG2_BYTE_BIT_SIZE"), (4, u "LOG2_ARRAY_INT_INDEX_SCALE"), (54, u "JLA"), (0, u "Ljdk/internal/access/JavaLangAccess;"), (11, u "LOG2_ARRAY_BOOLEAN_INDEX_SCALE"), (9, u "LOG2_ARRAY_BYTE_INDEX_SCALE"), (5, u "LOG2_ARRAY_CHAR_INDEX_SCALE"), (5, u "LOG2_ARRAY_SHORT_INDEX_SCALE"), (5, u "mismatch"), (12, u "LOG2_ARRAY_FLOAT_INDEX_SCALE"), (24, u "LOG2_ARRAY_DOUBLE_INDEX_SCALE"), (89, u "T_BOOLEAN"), (2, u "T_CHAR"), (1, u "T_FLOAT"), (1, u "T_DOUBLE"), (1, u "T_BYTE"), (1, u "T_SHORT"), (1, u "T_INT"), (1, u "T_LONG"), (1, u "SOFT_MAX_ARRAY_LENGTH"), (42, u "([BI[BII)I")] 40

def k11m0 : Method := { name := "<init>", desc := "()V", sig := { parameters := [], returnType := none }, accessFlags := 2, code := none }
def k11c1 : Code := { maxStack := 8, maxLocals := 8, code := jdk_48_method_14_code, exceptionTable := #[], attributes := #[] }
def k11m1 : Method := { name := "mismatch", desc := "([BI[BII)I", sig := { parameters := [(.array .byte), .int, (.array .byte), .int, .int], returnType := some .int }, accessFlags := 9, code := some k11c1 }
/-- jdk/internal/util/ArraysSupport -/
def k11 : Class := { plain "jdk/internal/util/ArraysSupport" (some 0) with
  accessFlags := 33
  interfaces := #[]
  cf := some (fileOf pool11 21 #[] #[{ accessFlags := 2, nameIndex := 9, descriptorIndex := 19, attributes := #[] }, { accessFlags := 9, nameIndex := 149, descriptorIndex := 337, attributes := #[] }] 33 16 #[] #[{ accessFlags := 24, nameIndex := 28, descriptorIndex := 29, attributes := #[] }, { accessFlags := 26, nameIndex := 38, descriptorIndex := 39, attributes := #[] }, { accessFlags := 25, nameIndex := 121, descriptorIndex := 25, attributes := #[] }, { accessFlags := 25, nameIndex := 131, descriptorIndex := 25, attributes := #[] }, { accessFlags := 25, nameIndex := 137, descriptorIndex := 25, attributes := #[] }, { accessFlags := 25, nameIndex := 143, descriptorIndex := 25, attributes := #[] }, { accessFlags := 25, nameIndex := 53, descriptorIndex := 25, attributes := #[] }, { accessFlags := 25, nameIndex := 24, descriptorIndex := 25, attributes := #[] }, { accessFlags := 25, nameIndex := 162, descriptorIndex := 25, attributes := #[] }, { accessFlags := 25, nameIndex := 187, descriptorIndex := 25, attributes := #[] }, { accessFlags := 26, nameIndex := 48, descriptorIndex := 25, attributes := #[] }, { accessFlags := 25, nameIndex := 277, descriptorIndex := 25, attributes := #[] }, { accessFlags := 25, nameIndex := 280, descriptorIndex := 25, attributes := #[] }, { accessFlags := 25, nameIndex := 282, descriptorIndex := 25, attributes := #[] }, { accessFlags := 25, nameIndex := 284, descriptorIndex := 25, attributes := #[] }, { accessFlags := 25, nameIndex := 286, descriptorIndex := 25, attributes := #[] }, { accessFlags := 25, nameIndex := 288, descriptorIndex := 25, attributes := #[] }, { accessFlags := 25, nameIndex := 290, descriptorIndex := 25, attributes := #[] }, { accessFlags := 25, nameIndex := 292, descriptorIndex := 25, attributes := #[] }, { accessFlags := 26, nameIndex := 108, descriptorIndex := 109, attributes := #[] }, { accessFlags := 25, nameIndex := 294, descriptorIndex := 25, attributes := #[] }])
  fields := #[{ name := "U", type := (.object "jdk/internal/misc/Unsafe"), accessFlags := 24, slot := 0, constantValue := 0 }, { name := "BIG_ENDIAN", type := .boolean, accessFlags := 26, slot := 1, constantValue := 0 }, { name := "LOG2_ARRAY_BOOLEAN_INDEX_SCALE", type := .int, accessFlags := 25, slot := 2, constantValue := 0 }, { name := "LOG2_ARRAY_BYTE_INDEX_SCALE", type := .int, accessFlags := 25, slot := 3, constantValue := 0 }, { name := "LOG2_ARRAY_CHAR_INDEX_SCALE", type := .int, accessFlags := 25, slot := 4, constantValue := 0 }, { name := "LOG2_ARRAY_SHORT_INDEX_SCALE", type := .int, accessFlags := 25, slot := 5, constantValue := 0 }, { name := "LOG2_ARRAY_INT_INDEX_SCALE", type := .int, accessFlags := 25, slot := 6, constantValue := 0 }, { name := "LOG2_ARRAY_LONG_INDEX_SCALE", type := .int, accessFlags := 25, slot := 7, constantValue := 0 }, { name := "LOG2_ARRAY_FLOAT_INDEX_SCALE", type := .int, accessFlags := 25, slot := 8, constantValue := 0 }, { name := "LOG2_ARRAY_DOUBLE_INDEX_SCALE", type := .int, accessFlags := 25, slot := 9, constantValue := 0 }, { name := "LOG2_BYTE_BIT_SIZE", type := .int, accessFlags := 26, slot := 10, constantValue := 0 }, { name := "T_BOOLEAN", type := .int, accessFlags := 25, slot := 11, constantValue := 0 }, { name := "T_CHAR", type := .int, accessFlags := 25, slot := 12, constantValue := 0 }, { name := "T_FLOAT", type := .int, accessFlags := 25, slot := 13, constantValue := 0 }, { name := "T_DOUBLE", type := .int, accessFlags := 25, slot := 14, constantValue := 0 }, { name := "T_BYTE", type := .int, accessFlags := 25, slot := 15, constantValue := 0 }, { name := "T_SHORT", type := .int, accessFlags := 25, slot := 16, constantValue := 0 }, { name := "T_INT", type := .int, accessFlags := 25, slot := 17, constantValue := 0 }, { name := "T_LONG", type := .int, accessFlags := 25, slot := 18, constantValue := 0 }, { name := "JLA", type := (.object "jdk/internal/access/JavaLangAccess"), accessFlags := 26, slot := 19, constantValue := 0 }, { name := "SOFT_MAX_ARRAY_LENGTH", type := .int, accessFlags := 25, slot := 20, constantValue := 0 }]
  methods := #[k11m0, k11m1]
  instanceTypes := #[]
  staticTypes := #[(.object "jdk/internal/misc/Unsafe"), .boolean, .int, .int, .int, .int, .int, .int, .int, .int, .int, .int, .int, .int, .int, .int, .int, .int, .int, (.object "jdk/internal/access/JavaLangAccess"), .int]
  resolved := Array.replicate 378 none
  statics := none }

def pool12 : Array CpInfo := pool [(2, .class_ 4), (1, u "java/lang/Object"), (0, u "<init>"), (0, u "()V"), (17, .class_ 26), (1, u "jdk/internal/util/Preconditions"), (28, .class_ 56), (0, u "jdk/internal/util/Preconditions$4"), (57, .class_ 115), (0, u "jdk/internal/util/Preconditions$1"), (7, u "SIOOBE_FORMATTER"), (0, u "Ljava/util/function/BiFunction;"), (0, .class_ 126), (0, u "jdk/internal/util/Preconditions$2"), (3, u "AIOOBE_FORMATTER"), (0, .class_ 132), (0, u "jdk/internal/util/Preconditions$3"), (3, u "IOOBE_FORMATTER")] 57

def k12m0 : Method := { name := "<init>", desc := "()V", sig := { parameters := [], returnType := none }, accessFlags := 1, code := none }
/-- jdk/internal/util/Preconditions -/
def k12 : Class := { plain "jdk/internal/util/Preconditions" (some 0) with
  accessFlags := 33
  interfaces := #[]
  cf := some (fileOf pool12 24 #[.nestMembers #[55, 131, 125, 114]] #[{ accessFlags := 1, nameIndex := 5, descriptorIndex := 6, attributes := #[] }] 33 2 #[] #[{ accessFlags := 25, nameIndex := 123, descriptorIndex := 124, attributes := #[] }, { accessFlags := 25, nameIndex := 130, descriptorIndex := 124, attributes := #[] }, { accessFlags := 25, nameIndex := 136, descriptorIndex := 124, attributes := #[] }])
  fields := #[{ name := "SIOOBE_FORMATTER", type := (.object "java/util/function/BiFunction"), accessFlags := 25, slot := 0, constantValue := 0 }, { name := "AIOOBE_FORMATTER", type := (.object "java/util/function/BiFunction"), accessFlags := 25, slot := 1, constantValue := 0 }, { name := "IOOBE_FORMATTER", type := (.object "java/util/function/BiFunction"), accessFlags := 25, slot := 2, constantValue := 0 }]
  methods := #[k12m0]
  instanceTypes := #[]
  staticTypes := #[(.object "java/util/function/BiFunction"), (.object "java/util/function/BiFunction"), (.object "java/util/function/BiFunction")]
  resolved := Array.replicate 194 none
  statics := some 1 }

def pool13 : Array CpInfo := pool [(1, u "java/lang/Cloneable"), (0, .class_ 1), (0, u "java/lang/Object"), (0, .class_ 3)] 3

/-- java/lang/Cloneable -/
def k13 : Class := { plain "java/lang/Cloneable" (some 0) with
  accessFlags := 1537
  interfaces := #[]
  cf := some (fileOf pool13 2 #[] #[] 1537 4 #[] #[])
  fields := #[]
  methods := #[]
  instanceTypes := #[]
  staticTypes := #[]
  resolved := Array.replicate 8 none
  statics := none }

/-- the primitive byte -/
def k14 : Class := { plain "byte" none with kind := .primitive 'B', accessFlags := 0x411 }
/-- [B -/
def k15 : Class := { plain "[B" (some 0) with kind := .array 14 .byte, interfaces := #[13, 2], accessFlags := 1041 }

/-- the primitive char -/
def k16 : Class := { plain "char" none with kind := .primitive 'C', accessFlags := 0x411 }
/-- [C -/
def k17 : Class := { plain "[C" (some 0) with kind := .array 16 .char, interfaces := #[13, 2], accessFlags := 1041 }

/-- the primitive int -/
def k18 : Class := { plain "int" none with kind := .primitive 'I', accessFlags := 0x411 }
/-- [I -/
def k19 : Class := { plain "[I" (some 0) with kind := .array 18 .int, interfaces := #[13, 2], accessFlags := 1041 }

def heap : Heap := #[{ cls := 7, slots := #[.long 0, .int 1, .null, .int 0, .null, .int 0, .int 0], vm := .statics 7 },
  { cls := 12, slots := #[.null, .null, .null], vm := .statics 12 }]
def classes : Array Class := #[k0, k1, k2, k3, k4, k5, k6, k7, k8, k9, k10, k11, k12, k13, k14, k15, k16, k17, k18, k19]
def interned : List (Array UInt16 × Addr) := []
def slotsUsed : Nat := 10
def theMethod : MethodId := ⟨1, 1⟩
def args0 : Array Value := #[.int 4, .int 65, .int 66, .int 67]
def aboutOver (below : List Frame) : State where
  vm := { classes := classes, interned := interned.toArray }
  heap := heap
  slotsUsed := slotsUsed
  threads := #[{ frames := .invoking theMethod args0 :: below }]
def below0 : List Frame := [.native { method := ⟨0, 0⟩, args := #[] }]
def about1 : State := aboutOver below0
def p0 : Program := .bare "" "" ""
def e0 : Env := launch0.env 0 0 0
theorem w_frames : about1.frames = Frame.invoking theMethod args0 :: below0 := rfl
set_option maxRecDepth 65536 in
theorem w_args : argsFit about1.vm theMethod args0 = true := by decide +kernel
set_option maxRecDepth 65536 in
theorem w_heap : heapFits about1 = true := by decide +kernel
set_option maxRecDepth 65536 in
theorem w_runnable : about1.curStatus? = some .runnable := by decide +kernel
set_option maxRecDepth 65536 in
theorem w_alone : about1.alone = true := by decide +kernel
set_option maxRecDepth 65536 in
theorem w_named : about1.methodNamed? x = some theMethod := by decide +kernel
set_option maxRecDepth 65536 in
theorem w_hears : about1.hears theMethod below0 = true := by decide +kernel
set_option maxRecDepth 65536 in
theorem w_ripe : about1.ripe theMethod args0 below0 = true := by decide +kernel
theorem w_running : about1.status = .running := rfl
set_option maxRecDepth 65536 in
theorem w_room : about1.hasRoom e0.platform room_1 = true :=
  launch0.hasRoom_least _ room_1 (by decide +kernel) (by decide +kernel) (by decide +kernel) (by decide +kernel) (by decide +kernel) (by decide +kernel)
theorem allAtoms_all (ts : List Jvm.Cond) (a : Array Jvm.Value) (st : Jvm.State) : (allAtoms ts).before a st = ts.all (fun c => c.before a st) := by
  induction ts with
  | nil => rfl
  | cons c t ih =>
    show (Jvm.Cond.and c (allAtoms t)).before a st = _
    rw [Jvm.Cond.before_and, ih, List.all_cons]
def words1 : List Jvm.Cond := Jvm.Cond.code x code maxLocals ret :: tables_1
/-- a 'code' word, met by the world's own term for the bytes: nothing is compared byte by byte -/
theorem code_word {y : MethodName} {bytes : ByteArray} {mx : Nat} {rt : Option FieldType} {a : Array Value} {s : State} {m : MethodId} {meth : Method} {c : Code} (h1 : s.methodNamed? y = some m) (h2 : s.vm.method? m = some meth) (h3 : meth.code = some c) (h4 : c.code = bytes)
    (h5 : (c.maxLocals == mx && c.exceptionTable.isEmpty && decide (c.maxStack ≤ mostOperands) && decide (meth.sig.returnType = rt) && !meth.locks && decide (parseMethodDescriptor y.desc = some meth.sig)) = true) : (Jvm.Cond.code y bytes mx rt).before a s = true := by
  simp only [Bool.and_eq_true, beq_iff_eq, Bool.not_eq_true', decide_eq_true_eq] at h5
  obtain ⟨⟨⟨⟨⟨g1, g2⟩, g3⟩, g4⟩, g5⟩, g6⟩ := h5
  simp [Cond.before, Cond.holds, Cond.value, h1, h2, h3, h4, g1, g2, g3, g4, g5, g6]
def isCode : Jvm.Cond → Bool
  | .code _ _ _ _ => true
  | _ => false
theorem all_split {L : List Jvm.Cond} {P : Jvm.Cond → Bool} (h1 : L.all (fun c => isCode c || P c) = true) (h2 : ∀ c ∈ L.filter isCode, P c = true) : L.all P = true := by
  refine List.all_eq_true.mpr fun c hc => ?_
  have h := List.all_eq_true.mp h1 c hc
  rcases Bool.eq_false_or_eq_true (isCode c) with hi | hi
  · exact h2 c (List.mem_filter.mpr ⟨hc, hi⟩)
  · simpa [hi] using h
set_option maxRecDepth 65536 in
theorem w_c0 : (Jvm.Cond.code x code maxLocals ret).before args0 about1 = true := code_word (m := ⟨1, 1⟩) (meth := k1m1) (c := k1c1) (by decide +kernel) rfl rfl rfl (by decide +kernel)
set_option maxRecDepth 65536 in
theorem w_c1 : (Jvm.Cond.code ({ cls := "com/example/loomwire/loomwire/bundle/JavaPackagesRefusePinLaw", name := "place", desc := "([CIIC)V" } : Jvm.MethodName) method_3_code (4 : Nat) (Option.none : Option Jvm.ClassFile.FieldType)).before args0 about1 = true := code_word (m := ⟨1, 2⟩) (meth := k1m2) (c := k1c2) (by decide +kernel) rfl rfl rfl (by decide +kernel)
set_option maxRecDepth 65536 in
theorem w_c2 : (Jvm.Cond.code ({ cls := "com/example/loomwire/loomwire/bundle/JavaPackagesRefusePinLaw", name := "take", desc := "([CI)Ljava/lang/String;" } : Jvm.MethodName) method_4_code (2 : Nat) (Option.some (Jvm.ClassFile.FieldType.object "java/lang/String"))).before args0 about1 = true := code_word (m := ⟨1, 3⟩) (meth := k1m3) (c := k1c3) (by decide +kernel) rfl rfl rfl (by decide +kernel)
set_option maxRecDepth 65536 in
theorem w_c3 : (Jvm.Cond.code ({ cls := "java/lang/String", name := "<init>", desc := "([C)V" } : Jvm.MethodName) jdk_42_method_3_code (2 : Nat) (Option.none : Option Jvm.ClassFile.FieldType)).before args0 about1 = true := code_word (m := ⟨7, 1⟩) (meth := k7m1) (c := k7c1) (by decide +kernel) rfl rfl rfl (by decide +kernel)
set_option maxRecDepth 65536 in
theorem w_c4 : (Jvm.Cond.code ({ cls := "java/lang/String", name := "<init>", desc := "([CIILjava/lang/Void;)V" } : Jvm.MethodName) jdk_42_method_149_code (6 : Nat) (Option.none : Option Jvm.ClassFile.FieldType)).before args0 about1 = true := code_word (m := ⟨7, 6⟩) (meth := k7m6) (c := k7c6) (by decide +kernel) rfl rfl rfl (by decide +kernel)
set_option maxRecDepth 65536 in
theorem w_c5 : (Jvm.Cond.code ({ cls := "java/lang/Object", name := "<init>", desc := "()V" } : Jvm.MethodName) object_method_1_code (1 : Nat) (Option.none : Option Jvm.ClassFile.FieldType)).before args0 about1 = true := code_word (m := ⟨0, 0⟩) (meth := k0m0) (c := k0c0) (by decide +kernel) rfl rfl rfl (by decide +kernel)
set_option maxRecDepth 65536 in
theorem w_c6 : (Jvm.Cond.code ({ cls := "com/example/loomwire/loomwire/bundle/JavaPackages", name := "refuse", desc := "(Ljava/lang/String;Ljava/lang/String;)V" } : Jvm.MethodName) prog_7_method_3_code (2 : Nat) (Option.none : Option Jvm.ClassFile.FieldType)).before args0 about1 = true := code_word (m := ⟨8, 2⟩) (meth := k8m2) (c := k8c2) (by decide +kernel) rfl rfl rfl (by decide +kernel)
set_option maxRecDepth 65536 in
theorem w_c7 : (Jvm.Cond.code ({ cls := "com/example/loomwire/loomwire/bundle/JavaPackages", name := "contains", desc := "(Ljava/lang/String;)Z" } : Jvm.MethodName) prog_7_method_2_code (1 : Nat) (Option.some Jvm.ClassFile.FieldType.boolean)).before args0 about1 = true := code_word (m := ⟨8, 1⟩) (meth := k8m1) (c := k8c1) (by decide +kernel) rfl rfl rfl (by decide +kernel)
set_option maxRecDepth 65536 in
theorem w_c8 : (Jvm.Cond.code ({ cls := "java/lang/String", name := "startsWith", desc := "(Ljava/lang/String;)Z" } : Jvm.MethodName) jdk_42_method_76_code (2 : Nat) (Option.some Jvm.ClassFile.FieldType.boolean)).before args0 about1 = true := code_word (m := ⟨7, 4⟩) (meth := k7m4) (c := k7c4) (by decide +kernel) rfl rfl rfl (by decide +kernel)
set_option maxRecDepth 65536 in
theorem w_c9 : (Jvm.Cond.code ({ cls := "java/lang/String", name := "startsWith", desc := "(Ljava/lang/String;I)Z" } : Jvm.MethodName) jdk_42_method_75_code (8 : Nat) (Option.some Jvm.ClassFile.FieldType.boolean)).before args0 about1 = true := code_word (m := ⟨7, 3⟩) (meth := k7m3) (c := k7c3) (by decide +kernel) rfl rfl rfl (by decide +kernel)
set_option maxRecDepth 65536 in
theorem w_c10 : (Jvm.Cond.code ({ cls := "java/lang/String", name := "length", desc := "()I" } : Jvm.MethodName) jdk_42_method_54_code (1 : Nat) (Option.some Jvm.ClassFile.FieldType.int)).before args0 about1 = true := code_word (m := ⟨7, 2⟩) (meth := k7m2) (c := k7c2) (by decide +kernel) rfl rfl rfl (by decide +kernel)
set_option maxRecDepth 65536 in
theorem w_c11 : (Jvm.Cond.code ({ cls := "java/lang/String", name := "coder", desc := "()B" } : Jvm.MethodName) jdk_42_method_152_code (1 : Nat) (Option.some Jvm.ClassFile.FieldType.byte)).before args0 about1 = true := code_word (m := ⟨7, 8⟩) (meth := k7m8) (c := k7c8) (by decide +kernel) rfl rfl rfl (by decide +kernel)
set_option maxRecDepth 65536 in
theorem w_c12 : (Jvm.Cond.code ({ cls := "java/lang/String", name := "valueOf", desc := "(C)Ljava/lang/String;" } : Jvm.MethodName) jdk_42_method_139_code (1 : Nat) (Option.some (Jvm.ClassFile.FieldType.object "java/lang/String"))).before args0 about1 = true := code_word (m := ⟨7, 5⟩) (meth := k7m5) (c := k7c5) (by decide +kernel) rfl rfl rfl (by decide +kernel)
set_option maxRecDepth 65536 in
theorem w_c13 : (Jvm.Cond.code ({ cls := "java/lang/StringLatin1", name := "canEncode", desc := "(C)Z" } : Jvm.MethodName) jdk_43_method_3_code (1 : Nat) (Option.some Jvm.ClassFile.FieldType.boolean)).before args0 about1 = true := code_word (m := ⟨9, 1⟩) (meth := k9m1) (c := k9c1) (by decide +kernel) rfl rfl rfl (by decide +kernel)
set_option maxRecDepth 65536 in
theorem w_c14 : (Jvm.Cond.code ({ cls := "java/lang/StringLatin1", name := "toBytes", desc := "(C)[B" } : Jvm.MethodName) jdk_43_method_46_code (1 : Nat) (Option.some (Jvm.ClassFile.FieldType.array Jvm.ClassFile.FieldType.byte))).before args0 about1 = true := code_word (m := ⟨9, 2⟩) (meth := k9m2) (c := k9c2) (by decide +kernel) rfl rfl rfl (by decide +kernel)
set_option maxRecDepth 65536 in
theorem w_c15 : (Jvm.Cond.code ({ cls := "java/lang/String", name := "<init>", desc := "([BB)V" } : Jvm.MethodName) jdk_42_method_151_code (3 : Nat) (Option.none : Option Jvm.ClassFile.FieldType)).before args0 about1 = true := code_word (m := ⟨7, 7⟩) (meth := k7m7) (c := k7c7) (by decide +kernel) rfl rfl rfl (by decide +kernel)
set_option maxRecDepth 65536 in
theorem w_c16 : (Jvm.Cond.code ({ cls := "java/lang/StringUTF16", name := "compress", desc := "([CII)[B" } : Jvm.MethodName) jdk_52_method_16_code (6 : Nat) (Option.some (Jvm.ClassFile.FieldType.array Jvm.ClassFile.FieldType.byte))).before args0 about1 = true := code_word (m := ⟨10, 2⟩) (meth := k10m2) (c := k10c2) (by decide +kernel) rfl rfl rfl (by decide +kernel)
set_option maxRecDepth 65536 in
theorem w_c17 : (Jvm.Cond.code ({ cls := "java/lang/StringUTF16", name := "compress", desc := "([CI[BII)I" } : Jvm.MethodName) jdk_52_method_21_code (7 : Nat) (Option.some Jvm.ClassFile.FieldType.int)).before args0 about1 = true := code_word (m := ⟨10, 3⟩) (meth := k10m3) (c := k10c3) (by decide +kernel) rfl rfl rfl (by decide +kernel)
set_option maxRecDepth 65536 in
theorem w_c18 : (Jvm.Cond.code ({ cls := "java/lang/StringUTF16", name := "coderFromArrayLen", desc := "([BI)B" } : Jvm.MethodName) jdk_52_method_15_code (2 : Nat) (Option.some Jvm.ClassFile.FieldType.byte)).before args0 about1 = true := code_word (m := ⟨10, 1⟩) (meth := k10m1) (c := k10c1) (by decide +kernel) rfl rfl rfl (by decide +kernel)
set_option maxRecDepth 65536 in
theorem w_c19 : (Jvm.Cond.code ({ cls := "jdk/internal/util/ArraysSupport", name := "mismatch", desc := "([BI[BII)I" } : Jvm.MethodName) jdk_48_method_14_code (8 : Nat) (Option.some Jvm.ClassFile.FieldType.int)).before args0 about1 = true := code_word (m := ⟨11, 1⟩) (meth := k11m1) (c := k11c1) (by decide +kernel) rfl rfl rfl (by decide +kernel)
def codes1 : List Jvm.Cond := [Jvm.Cond.code x code maxLocals ret, Jvm.Cond.code ({ cls := "com/example/loomwire/loomwire/bundle/JavaPackagesRefusePinLaw", name := "place", desc := "([CIIC)V" } : Jvm.MethodName) method_3_code (4 : Nat) (Option.none : Option Jvm.ClassFile.FieldType), Jvm.Cond.code ({ cls := "com/example/loomwire/loomwire/bundle/JavaPackagesRefusePinLaw", name := "take", desc := "([CI)Ljava/lang/String;" } : Jvm.MethodName) method_4_code (2 : Nat) (Option.some (Jvm.ClassFile.FieldType.object "java/lang/String")), Jvm.Cond.code ({ cls := "java/lang/String", name := "<init>", desc := "([C)V" } : Jvm.MethodName) jdk_42_method_3_code (2 : Nat) (Option.none : Option Jvm.ClassFile.FieldType), Jvm.Cond.code ({ cls := "java/lang/String", name := "<init>", desc := "([CIILjava/lang/Void;)V" } : Jvm.MethodName) jdk_42_method_149_code (6 : Nat) (Option.none : Option Jvm.ClassFile.FieldType), Jvm.Cond.code ({ cls := "java/lang/Object", name := "<init>", desc := "()V" } : Jvm.MethodName) object_method_1_code (1 : Nat) (Option.none : Option Jvm.ClassFile.FieldType), Jvm.Cond.code ({ cls := "com/example/loomwire/loomwire/bundle/JavaPackages", name := "refuse", desc := "(Ljava/lang/String;Ljava/lang/String;)V" } : Jvm.MethodName) prog_7_method_3_code (2 : Nat) (Option.none : Option Jvm.ClassFile.FieldType), Jvm.Cond.code ({ cls := "com/example/loomwire/loomwire/bundle/JavaPackages", name := "contains", desc := "(Ljava/lang/String;)Z" } : Jvm.MethodName) prog_7_method_2_code (1 : Nat) (Option.some Jvm.ClassFile.FieldType.boolean), Jvm.Cond.code ({ cls := "java/lang/String", name := "startsWith", desc := "(Ljava/lang/String;)Z" } : Jvm.MethodName) jdk_42_method_76_code (2 : Nat) (Option.some Jvm.ClassFile.FieldType.boolean), Jvm.Cond.code ({ cls := "java/lang/String", name := "startsWith", desc := "(Ljava/lang/String;I)Z" } : Jvm.MethodName) jdk_42_method_75_code (8 : Nat) (Option.some Jvm.ClassFile.FieldType.boolean), Jvm.Cond.code ({ cls := "java/lang/String", name := "length", desc := "()I" } : Jvm.MethodName) jdk_42_method_54_code (1 : Nat) (Option.some Jvm.ClassFile.FieldType.int), Jvm.Cond.code ({ cls := "java/lang/String", name := "coder", desc := "()B" } : Jvm.MethodName) jdk_42_method_152_code (1 : Nat) (Option.some Jvm.ClassFile.FieldType.byte), Jvm.Cond.code ({ cls := "java/lang/String", name := "valueOf", desc := "(C)Ljava/lang/String;" } : Jvm.MethodName) jdk_42_method_139_code (1 : Nat) (Option.some (Jvm.ClassFile.FieldType.object "java/lang/String")), Jvm.Cond.code ({ cls := "java/lang/StringLatin1", name := "canEncode", desc := "(C)Z" } : Jvm.MethodName) jdk_43_method_3_code (1 : Nat) (Option.some Jvm.ClassFile.FieldType.boolean), Jvm.Cond.code ({ cls := "java/lang/StringLatin1", name := "toBytes", desc := "(C)[B" } : Jvm.MethodName) jdk_43_method_46_code (1 : Nat) (Option.some (Jvm.ClassFile.FieldType.array Jvm.ClassFile.FieldType.byte)), Jvm.Cond.code ({ cls := "java/lang/String", name := "<init>", desc := "([BB)V" } : Jvm.MethodName) jdk_42_method_151_code (3 : Nat) (Option.none : Option Jvm.ClassFile.FieldType), Jvm.Cond.code ({ cls := "java/lang/StringUTF16", name := "compress", desc := "([CII)[B" } : Jvm.MethodName) jdk_52_method_16_code (6 : Nat) (Option.some (Jvm.ClassFile.FieldType.array Jvm.ClassFile.FieldType.byte)), Jvm.Cond.code ({ cls := "java/lang/StringUTF16", name := "compress", desc := "([CI[BII)I" } : Jvm.MethodName) jdk_52_method_21_code (7 : Nat) (Option.some Jvm.ClassFile.FieldType.int), Jvm.Cond.code ({ cls := "java/lang/StringUTF16", name := "coderFromArrayLen", desc := "([BI)B" } : Jvm.MethodName) jdk_52_method_15_code (2 : Nat) (Option.some Jvm.ClassFile.FieldType.byte), Jvm.Cond.code ({ cls := "jdk/internal/util/ArraysSupport", name := "mismatch", desc := "([BI[BII)I" } : Jvm.MethodName) jdk_48_method_14_code (8 : Nat) (Option.some Jvm.ClassFile.FieldType.int)]
set_option maxRecDepth 65536 in
theorem codes_eq : words1.filter isCode = codes1 := rfl
theorem w_codes : ∀ c ∈ words1.filter isCode, c.before args0 about1 = true := by
  rw [codes_eq]
  intro c hc
  simp only [codes1, List.mem_cons, List.not_mem_nil, or_false] at hc
  rcases hc with rfl | rfl | rfl | rfl | rfl | rfl | rfl | rfl | rfl | rfl | rfl | rfl | rfl | rfl | rfl | rfl | rfl | rfl | rfl | rfl
  · exact w_c0
  · exact w_c1
  · exact w_c2
  · exact w_c3
  · exact w_c4
  · exact w_c5
  · exact w_c6
  · exact w_c7
  · exact w_c8
  · exact w_c9
  · exact w_c10
  · exact w_c11
  · exact w_c12
  · exact w_c13
  · exact w_c14
  · exact w_c15
  · exact w_c16
  · exact w_c17
  · exact w_c18
  · exact w_c19
set_option maxRecDepth 65536 in
theorem w_t1 : (words1.take 24).all (fun c => isCode c || c.before args0 about1) = true := by decide +kernel
set_option maxRecDepth 65536 in
theorem w_t2 : ((words1.drop 24).take 24).all (fun c => isCode c || c.before args0 about1) = true := by decide +kernel
set_option maxRecDepth 65536 in
theorem w_t3 : (((words1.drop 24).drop 24).take 24).all (fun c => isCode c || c.before args0 about1) = true := by decide +kernel
set_option maxRecDepth 65536 in
theorem w_t4 : (((words1.drop 24).drop 24).drop 24).all (fun c => isCode c || c.before args0 about1) = true := by decide +kernel
theorem w_tables : (allAtoms (Jvm.Cond.code x code maxLocals ret :: tables_1)).before args0 about1 = true := by
  rw [allAtoms_all]
  show words1.all (fun c => c.before args0 about1) = true
  refine all_split ?_ w_codes
  rw [← List.take_append_drop 24 words1, List.all_append, w_t1, ← List.take_append_drop 24 (words1.drop 24), List.all_append, w_t2, ← List.take_append_drop 24 ((words1.drop 24).drop 24), List.all_append, w_t3, w_t4]
  rfl
set_option maxRecDepth 65536 in
theorem w_rest : rest_1_c.before args0 about1 = true := by decide +kernel
set_option maxRecDepth 65536 in
theorem w_case : (Jvm.Cond.and given_1 narrow_1).before args0 about1 = true := by decide +kernel
set_option maxRecDepth 65536 in
theorem w_consts : constsHeld consts_1 about1 := Jvm.Lit.constsHeldB_iff.mp (by decide +kernel)
theorem w_applies : (headSpec (Jvm.Cond.code x code maxLocals ret :: tables_1) room_1).applies x e0.platform about1 = true :=
  (Spec.applies_iff w_frames).mpr ⟨w_running, w_runnable, w_alone, w_named, w_hears, w_ripe, w_room, w_tables⟩
theorem atStart : AtStart classFile x code maxLocals ret World_1 tables_1 room_1 Calls_1 rest_1 Pre_1 launch0 p0 e0 about1 theMethod args0 below0 :=
  ⟨lists_1, trivial, launch0.admits_env _ _ _, launch0.least_env, fairChoices_fair.cas, fairChoices_fair.clock, w_frames, w_args, w_heap, w_applies, ⟨w_consts, trivial⟩, w_rest, w_case⟩
end start1
theorem witness_1 : WitnessClaimed_1 := ⟨start1.p0, start1.e0, start1.about1, start1.theMethod, start1.args0, start1.below0, start1.atStart⟩
end Jvm.Pilot.@@N@@
