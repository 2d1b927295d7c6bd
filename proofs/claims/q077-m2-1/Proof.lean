import JvmDerived
import JvmDerived.Pilot.@@N@@Statement
import JvmDerived.Pilot.@@N@@Code
set_option linter.unusedVariables false
set_option linter.unusedSimpArgs false
@@BLOCK:NumsL.lean.txt@@
namespace Jvm.RoadKit
open Sem ClassFile Op Lib Jvm.Stand Jvm.Free Jvm.LawKit
section New
variable {p : Program} {l : Launch} {e : Env} {R : Room} {s : State} {m : MethodId} {args : Array Value} {below : List Frame} {meth : Method} {c : Code} {T : State} {locs : List Loc} {cells slots : Nat}
theorem retI (X : Stand p l e R s m args below meth c T locs cells slots) (hx : p.tables.exec = Jvm.exec) {pc : Nat} {Ls : Array Slot} {z : Int32} {rest : List Value} (hret : meth.sig.returnType = some .int) (hd : decode c.code pc = .ok (.ireturn, 1)) {fs : List Frame}
    (hl : ∀ (f : JFrame) (acts : List Action), f.method = m → f.locked = none → f.entered = [] → (doReturn e (T.setTop f) acts (some (.int z))).1 = T.setFrames fs) : Steps p.tables e below (T.setTop (mkF m pc Ls (.int z :: rest))) (T.setFrames fs) := by
  have hm' : T.vm.method? m = some meth := X.method'
  have hn : narrow .int (.int z) = .int z := rfl
  show Steps p.tables e below (T.setTop { method := m, pc := pc, locals := Ls, stack := _ :: rest, locked := none }) _
  jvm_step X.here [X.here.top, hx, hd, hm', hret, hn]
  first | (intro acts; rw [hl _ acts rfl rfl rfl]) | rw [hl _ _ rfl rfl rfl]
  exact Steps.refl _
end New
end Jvm.RoadKit
namespace Jvm.Pilot.@@N@@
open Jvm Jvm.ClassFile Sem Op Lib Jvm.Free Jvm.Stand Jvm.LawKit Jvm.RoadKit Bundle Jvm.Pilot.@@N@@.Jvm.D
theorem Wd {Z : State} {a0 : Array Value} {d : Jvm.Cond} (hw : ∀ d ∈ tables_1, d.before a0 Z = true) (i : Nat) (h : tables_1[i]? = some d) : d.before a0 Z = true := hw _ (List.mem_of_getElem? h)
theorem own_sz {Z : State} {n0 : Nat} {h : Heap} (O : Old Z n0 h) : n0 ≤ h.size := O.1 ▸ O.2.1
theorem own_neArv {Z : State} {h : Heap} {a b : Addr} {k k' : ClassId} {ty ty' : FieldType} {z z' : Int32} {vs vs' : List Value} {d d' : Value} (F : Arv Z h a k ty z vs d) (G : Arv Z h b k' ty' z' vs' d') (hn : ty ≠ ty') : a ≠ b := fun q => by
  subst q
  obtain ⟨c1, ⟨e1, ⟨-, k1, hk1, cp1, hd1⟩, -⟩, -⟩ := F
  obtain ⟨c2, ⟨e2, ⟨-, k2, hk2, cp2, hd2⟩, -⟩, -⟩ := G
  cases e1.symm.trans e2
  cases hk1.symm.trans hk2
  rw [hd1] at hd2
  injection hd2 with _ h2
  exact hn h2
theorem own_fi {args : Array Value} {s : State} {t : Term} {a : Addr} {C n d : String} {k : Int32} (ht : t.eval args s none [] s = some (.ref a)) (h : (Jvm.Cond.eq (Jvm.Term.field t C n d) (Jvm.Term.int k)).value args s none s [] = some true) : s.fieldOf? a C n d = some (.int k) := by
  have e := fld_at (C := C) (n := n) (dd := d) ht
  obtain ⟨v, w, h1, h2, h3, h4⟩ := cmp_v (Or.inl h)
  cases (Term.int_eval k).symm.trans h2
  obtain ⟨z, rfl⟩ := h4
  rw [← e, h1]
  simp only [Cond.value, h1, Term.int_eval] at h
  simpa using h
theorem own_len {args : Array Value} {s : State} {t : Term} {a : Addr} {cl : Cell} {ty : FieldType} {z : Int32} (A : Arr s s.heap a cl ty) (ev : t.eval args s none [] s = some (.ref a)) (h : (Jvm.Cond.eq (Jvm.Term.length t) (Jvm.Term.int z)).value args s none s [] = some true) : cl.slots.size < 2 ^ 31 ∧ cl.slots.size.toInt32 = z := by
  have e := Cond.eq_int (beq_iff_eq.mpr h) (Term.int_eval z)
  have hA : s.arrayAt? a = some cl := IntBox.arrayAt_of A.1 A.2.1 A.2.2
  by_cases q : cl.slots.size < 2 ^ 31
  · refine ⟨q, ?_⟩
    have r := len_f ev hA q
    rw [r] at e
    injection e with e
    injection e
  · exfalso
    simp [Term.eval, ev, hA] at e
    omega
theorem own_eli {args : Array Value} {s : State} {t : Term} {a : Addr} {cl : Cell} {j k : Int32} (hc : s.heap[a]? = some cl) (ev : t.eval args s none [] s = some (.ref a)) (h : (Jvm.Cond.eq (Jvm.Term.elem t (Jvm.Term.int j)) (Jvm.Term.int k)).value args s none s [] = some true) : cl.slots[j.toNatClampNeg]? = some (.int k) :=
  (elem_in (Cond.eq_int (beq_iff_eq.mpr h) (Term.int_eval k)) ev (Term.int_eval j) hc).2
theorem own_elr {args : Array Value} {s : State} {t u : Term} {a b : Addr} {cl : Cell} {j : Int32} (hc : s.heap[a]? = some cl) (ev : t.eval args s none [] s = some (.ref a)) (eu : u.eval args s none [] s = some (.ref b)) (h : (Jvm.Cond.eq (Jvm.Term.elem t (Jvm.Term.int j)) u).value args s none s [] = some true) : cl.slots[j.toNatClampNeg]? = some (.ref b) := by
  obtain ⟨v, w, h1, h2, h3, h4⟩ := cmp_v (Or.inl h)
  cases eu.symm.trans h2
  have hv : v = .ref b := gotT (eq_R h1 h2 h4.2 rfl) h
  rw [hv] at h1
  exact (elem_in h1 ev (Term.int_eval j) hc).2
theorem own_shr0 (x : Int32) : x >>> ((0 : Int32) &&& 31) = x := by
  have h : ((0 : Int32) &&& 31) = 0 := by decide
  rw [h]
  apply Int32.toBitVec_inj.mp
  simp
theorem own_b2 (x : Int32) : (x.toInt8.toInt32).toInt8.toInt32 = x.toInt8.toInt32 := by
  have h : x.toInt8.toInt32.toInt8 = x.toInt8 := by
    apply Int8.toInt_inj.mp
    rw [Int32.toInt_toInt8, Int8.toInt_toInt32]
    have h2 := x.toInt8.toInt_lt; have h3 := x.toInt8.le_toInt
    rw [Int.bmod_eq_of_le] <;> omega
  rw [h]
theorem own_nari2c (x : Int32) : nar .char (x.toUInt32.toUInt16.toUInt32.toInt32) = x.toUInt32.toUInt16.toUInt32.toInt32 := by
  show (x.toUInt32.toUInt16.toUInt32.toInt32).toUInt32.toUInt16.toUInt32.toInt32 = _
  rw [UInt32.toUInt32_toInt32, UInt16.toUInt16_toUInt32]
theorem own_nar255 (x : Int32) : nar .char (x &&& (255 : Int32)) = x &&& (255 : Int32) := i2c_mask x
theorem own_and255 (x : Int32) : ¬ ((255 : Int32) < x &&& (255 : Int32)) ∧ ¬ (x &&& (255 : Int32) < (0 : Int32)) := by
  have e := Jvm.Kit.i32_mask x 255 (k := 8) (by decide) (by decide)
  have h1 := Int.emod_nonneg x.toInt (show (2 : Int) ^ 8 ≠ 0 by decide)
  have h2 := Int.emod_lt_of_pos x.toInt (show (0 : Int) < 2 ^ 8 by decide)
  have e1 : (255 : Int32).toInt = 255 := rfl
  have e0 : (0 : Int32).toInt = 0 := rfl
  constructor <;> rw [Int32.lt_iff_toInt_lt] <;> omega
theorem own_bq {c l : Int32} (h1 : ¬ ((255 : Int32) < c)) (h2 : ¬ (c < (0 : Int32))) (hl0 : 0 ≤ l.toInt) (hl1 : l.toInt < 128) (e : c.toInt8.toInt32 = l) : c = l := by
  have e2 := congrArg Int32.toInt e
  rw [Int8.toInt_toInt32, Int32.toInt_toInt8] at e2
  rw [Int32.lt_iff_toInt_lt] at h1 h2
  have q1 : (255 : Int32).toInt = 255 := rfl
  have q0 : (0 : Int32).toInt = 0 := rfl
  apply Int32.toInt_inj.mp
  simp only [Int.bmod_def] at e2
  omega
theorem own_n6 (x : Int32) : (x &&& (2147483647 : Int32)) % (6 : Int32) = 0 ∨ (x &&& (2147483647 : Int32)) % (6 : Int32) = 1 ∨ (x &&& (2147483647 : Int32)) % (6 : Int32) = 2 ∨ (x &&& (2147483647 : Int32)) % (6 : Int32) = 3 ∨ (x &&& (2147483647 : Int32)) % (6 : Int32) = 4 ∨ (x &&& (2147483647 : Int32)) % (6 : Int32) = 5 := by
  have e := Jvm.Kit.i32_mask x 2147483647 (k := 31) (by decide) (by decide)
  have h1 := Int.emod_nonneg x.toInt (show (2 : Int) ^ 31 ≠ 0 by decide)
  have h6 : ((x &&& (2147483647 : Int32)) % (6 : Int32)).toInt = (x &&& (2147483647 : Int32)).toInt.tmod 6 := Int32.toInt_mod _ _
  have h7 : 0 ≤ (x &&& (2147483647 : Int32)).toInt := by omega
  rw [Int.tmod_eq_emod_of_nonneg h7] at h6
  have h8 := Int.emod_nonneg (x &&& (2147483647 : Int32)).toInt (show (6 : Int) ≠ 0 by decide)
  have h9 := Int.emod_lt_of_pos (x &&& (2147483647 : Int32)).toInt (show (0 : Int) < 6 by decide)
  generalize (x &&& (2147483647 : Int32)) % (6 : Int32) = y at *
  have k0 : (0 : Int32).toInt = 0 := rfl
  have k1 : (1 : Int32).toInt = 1 := rfl
  have k2 : (2 : Int32).toInt = 2 := rfl
  have k3 : (3 : Int32).toInt = 3 := rfl
  have k4 : (4 : Int32).toInt = 4 := rfl
  have k5 : (5 : Int32).toInt = 5 := rfl
  simp only [← Int32.toInt_inj, k0, k1, k2, k3, k4, k5]
  omega
theorem own_and7 (x : Int32) : ¬ (x &&& (7 : Int32) < (0 : Int32)) ∧ x &&& (7 : Int32) < (8 : Int32) := by
  have e := Jvm.Kit.i32_mask x 7 (k := 3) (by decide) (by decide)
  have h1 := Int.emod_nonneg x.toInt (show (2 : Int) ^ 3 ≠ 0 by decide)
  have h2 := Int.emod_lt_of_pos x.toInt (show (0 : Int) < 2 ^ 3 by decide)
  have e1 : (8 : Int32).toInt = 8 := rfl
  have e0 : (0 : Int32).toInt = 0 := rfl
  constructor <;> rw [Int32.lt_iff_toInt_lt] <;> omega
theorem own_alpha (j : Int32) (h0 : ¬ (j < (0 : Int32))) (h1 : j < (8 : Int32)) : ∃ c : Int32, [(.int 46), (.int 109), (.int 102), (.int 106), (.int 97), (.int 114), (.int 77), (.int 74)].getD j.toNatClampNeg (.int 0) = Value.int c ∧ ¬ ((255 : Int32) < c) ∧ ¬ (c < (0 : Int32)) ∧ nar .char c = c := by
  have e := nat_of h0
  rw [Int32.lt_iff_toInt_lt, e] at h1
  have e1 : (8 : Int32).toInt = 8 := rfl
  generalize j.toNatClampNeg = n at *
  match n with
  | 0 => exact ⟨(46 : Int32), rfl, by decide, by decide, by decide⟩
  | 1 => exact ⟨(109 : Int32), rfl, by decide, by decide, by decide⟩
  | 2 => exact ⟨(102 : Int32), rfl, by decide, by decide, by decide⟩
  | 3 => exact ⟨(106 : Int32), rfl, by decide, by decide, by decide⟩
  | 4 => exact ⟨(97 : Int32), rfl, by decide, by decide, by decide⟩
  | 5 => exact ⟨(114 : Int32), rfl, by decide, by decide, by decide⟩
  | 6 => exact ⟨(77 : Int32), rfl, by decide, by decide, by decide⟩
  | 7 => exact ⟨(74 : Int32), rfl, by decide, by decide, by decide⟩
  | (k + 8) => exact absurd h1 (by omega)
def EL1 : List (String × Nat) := [("com/example/loomwire/loomwire/bundle/BundleContent", 28), ("com/example/loomwire/loomwire/bundle/BundleContent", 39), ("java/lang/String", 7)]
theorem own_EW {Z : State} {a0 : Array Value} (hw : ∀ d ∈ tables_1, d.before a0 Z = true) : EW Z a0 EL1 := (EW.cons (Wd hw 34 rfl) (by decide) (EW.cons (Wd hw 56 rfl) (by decide) (EW.cons (Wd hw 22 rfl) (by decide) EW.nil)))
theorem own_wS {Z : State} {a0 : Array Value} (hw : ∀ d ∈ tables_1, d.before a0 Z = true) : ∀ a ∈ Bundle.stringAtoms, a.before a0 Z = true := fun d hd => by
  simp only [Bundle.stringAtoms, List.mem_cons, List.not_mem_nil, or_false] at hd
  rcases hd with rfl | rfl | rfl | rfl | rfl | rfl | rfl
  · exact (Wd hw 11 rfl)
  · exact (Wd hw 10 rfl)
  · exact (Wd hw 23 rfl)
  · exact (Wd hw 24 rfl)
  · exact (Wd hw 25 rfl)
  · exact (Wd hw 26 rfl)
  · exact (Wd hw 27 rfl)
theorem own_safeS {Z : State} {EL : List (String × Nat)} {vm : Vm} {h : Heap} {a : Addr} (hal : Z.vm.Alike vm) (H : CHv Z EL vm h) (F : Fld Z h a "java/lang/String" "value" "[B" .null) (E : Exa Z h a "java/lang/String") : Safe Z EL vm h a := fun ⟨p, hp, u, a', hb, q, hq, S, hy⟩ => by
  obtain ⟨cS, ⟨⟨s1, s2, s3, ⟨cv, kv, iv, s4, s4'⟩, -, s6, -, s8, -, s10, s11, -⟩, hfS, hcS⟩, ⟨kS, k1, k2, k3⟩, -⟩ := S
  obtain ⟨cell, cf, k, i, f, f1, f2, f3, f4, f5, f6, f7⟩ := F
  rcases hy with rfl | rfl
  · cases s1.symm.trans f1
    obtain ⟨kv', z4⟩ := ff_back (U := Wst Z vm h) hal s4
    cases z4.symm.trans f2
    cases s8.symm.trans f7
  · obtain ⟨c2, k2', e1, e2, e3, e4, e5⟩ := E
    cases s10.symm.trans e1
    obtain ⟨hst, k9, hk9, comp, hkind9⟩ := s11
    obtain ⟨kz', hkz', ekz⟩ := hal.2.2 _ _ e3
    have h9 : k9 = kz' := Option.some.inj (hk9.symm.trans hkz')
    have hfS' : vm.findClass "java/lang/String" = some cS := hfS
    rw [hal.findClass] at hfS'
    have hc : q.SA.cls = cS := Option.some.inj (e2.symm.trans hfS')
    have h8 : kz' = kS := Option.some.inj (hkz'.symm.trans (hc ▸ k1))
    rw [h9, h8, k2] at hkind9
    cases hkind9
def GF (Z : State) (cS : Int32) : Prop := Sta Z Z.heap "java/lang/String" "COMPACT_STRINGS" "Z" (.int cS) ∧ ¬ (cS = (0 : Int32))
theorem d12_0 : decode jdk_52_method_21_code 0 = .ok (.iconst 0, 1) := by decide +kernel
theorem d12_1 : decode jdk_52_method_21_code 1 = .ok (.istore 5, 2) := by decide +kernel
theorem d12_3 : decode jdk_52_method_21_code 3 = .ok (.iload 5, 2) := by decide +kernel
theorem d12_5 : decode jdk_52_method_21_code 5 = .ok (.iload 4, 2) := by decide +kernel
theorem d12_7 : decode jdk_52_method_21_code 7 = .ok (.if_icmp .ge 37, 3) := by decide +kernel
theorem d12_10 : decode jdk_52_method_21_code 10 = .ok (.aload_n 0, 1) := by decide +kernel
theorem d12_11 : decode jdk_52_method_21_code 11 = .ok (.iload_n 1, 1) := by decide +kernel
theorem d12_12 : decode jdk_52_method_21_code 12 = .ok (.caload, 1) := by decide +kernel
theorem d12_13 : decode jdk_52_method_21_code 13 = .ok (.istore 6, 2) := by decide +kernel
theorem d12_15 : decode jdk_52_method_21_code 15 = .ok (.iload 6, 2) := by decide +kernel
theorem d12_17 : decode jdk_52_method_21_code 17 = .ok (.sipush 255, 3) := by decide +kernel
theorem d12_20 : decode jdk_52_method_21_code 20 = .ok (.if_icmp .le 6, 3) := by decide +kernel
theorem d12_26 : decode jdk_52_method_21_code 26 = .ok (.aload_n 2, 1) := by decide +kernel
theorem d12_27 : decode jdk_52_method_21_code 27 = .ok (.iload_n 3, 1) := by decide +kernel
theorem d12_28 : decode jdk_52_method_21_code 28 = .ok (.iload 6, 2) := by decide +kernel
theorem d12_30 : decode jdk_52_method_21_code 30 = .ok (.i2b, 1) := by decide +kernel
theorem d12_31 : decode jdk_52_method_21_code 31 = .ok (.bastore, 1) := by decide +kernel
theorem d12_32 : decode jdk_52_method_21_code 32 = .ok (.iinc 1 1, 3) := by decide +kernel
theorem d12_35 : decode jdk_52_method_21_code 35 = .ok (.iinc 3 1, 3) := by decide +kernel
theorem d12_38 : decode jdk_52_method_21_code 38 = .ok (.iinc 5 1, 3) := by decide +kernel
theorem d12_41 : decode jdk_52_method_21_code 41 = .ok (.goto (-38), 3) := by decide +kernel
theorem d12_44 : decode jdk_52_method_21_code 44 = .ok (.iload 4, 2) := by decide +kernel
theorem d12_46 : decode jdk_52_method_21_code 46 = .ok (.ireturn, 1) := by decide +kernel
theorem pn : plainName "java/lang/StringUTF16" = true := by first | (simp [plainName, overriddenIn]; done) | decide +kernel
abbrev MN_0 : MethodName := ⟨"java/lang/StringUTF16", "compress", "([CI[BII)I"⟩
theorem ef_rmC2_1 (m : MethodId) (a0c : Addr) (a2b : Addr) : entryFrame m #[(.ref a0c), (.int 0), (.ref a2b), (.int 0), (.int 1)] 7 = mkF m 0 #[.val (.ref a0c), .val (.int 0), .val (.ref a2b), .val (.int 0), .val (.int 1), .unset, .unset] [] := by first | (simp [entryFrame, mkF, argsToLocals, Value.category]; done) | rfl
def Q_rmC2_1 (n0 : Nat) (Z : State) (cS : Int32) (a0c : Addr) (a2b : Addr) (k0 : ClassId) (k2 : ClassId) (c0 : Int32) (h0 : Heap) (v : Option Value) (h : Heap) (L : List Loc) : Prop := v = some (.int 1) ∧ Fr n0 L ∧ Keep h0 h [a2b] ∧ (Arv Z h a2b k2 .byte (1 : Int32) [(.int (c0.toInt8.toInt32))] (.int 0))
set_option maxRecDepth 65536 in
set_option maxHeartbeats 40000000 in
theorem rmC2_1 (l : Launch) (Z : State) (a0 : Array Value) (hw : ∀ d ∈ tables_1, d.before a0 Z = true) (ws : List Jvm.Cond) (cS : Int32) (a0c : Addr) (a2b : Addr) (k0 : ClassId) (k2 : ClassId) (c0 : Int32) (h0 : Heap) (n0 : Nat) (O0 : Old Z n0 h0) (GL : GF Z cS) (V_a0c : Arv Z h0 a0c k0 .char (1 : Int32) [(.int c0)] (.int 0)) (V_a2b : Arv Z h0 a2b k2 .byte (1 : Int32) [(.int 0)] (.int 0)) (g_a2b : n0 ≤ a2b) (hc0 : ¬ ((255 : Int32) < c0)) :
    MetFree l MN_0 (head1 (Jvm.Cond.code MN_0 jdk_52_method_21_code 7 (some .int) :: ws) ({ frames := 0, cells := 0, slots := 0, locals := 0 } : Room)) (fun a U => a = #[(.ref a0c), (.int 0), (.ref a2b), (.int 0), (.int 1)] ∧ Z.Warmed39 U.vm ∧ U.heap = h0) (fun _ _ _ _ _ => True) (fun _ U o U' => ∃ v L, o = .returned v ∧ Q_rmC2_1 n0 Z cS a0c a2b k0 k2 c0 h0 v U'.heap L ∧ FrameEnd U o U' L ({ frames := 0, cells := 0, slots := 0, locals := 0 } : Room).cells ({ frames := 0, cells := 0, slots := 0, locals := 0 } : Room).slots) := by
  refine MetFree.of_bodySF (plainFor_of_name pn) hisR ?_
  intro p e s m args below meth c s₁ Bd hml0 hP hK
  obtain ⟨rfl, hZ, hh⟩ := hP
  have hx := Bd.exec
  have hby := Bd.bytes
  have hml : c.maxLocals = 7 := hml0
  have hown : s.vm.findClass "java/lang/StringUTF16" = some m.cls := findClass_of_methodNamed Bd.named
  have hnm := (name_of_methodNamed Bd.named Bd.method).1
  have X0 : Stand p l e ({ frames := 0, cells := 0, slots := 0, locals := 0 } : Room) s m #[(.ref a0c), (.int 0), (.ref a2b), (.int 0), (.int 1)] below meth c s₁ [] 0 0 := Stand.of_body Bd
  have e0 : s₁.heap = h0 := by rw [← hh, Bd.state]; rfl
  have N0 := Fr.nil n0
  have pre0 : ∀ t, Steps p.tables e below (s₁.setTop (mkF m 0 #[.val (.ref a0c), .val (.int 0), .val (.ref a2b), .val (.int 0), .val (.int 1), .unset, .unset] [])) t → Steps p.tables e below (s₁.setTop (entryFrame m #[(.ref a0c), (.int 0), (.ref a2b), (.int 0), (.int 1)] 7)) t := fun t k => castTop (ef_rmC2_1 m a0c a2b) k
  have GL' := GL
  obtain ⟨GCS, GCP⟩ := GL'
  obtain ⟨cl1, Ar1, -, S1, N1_, H1, G1⟩ := id (V_a0c)
  have hin1 : ¬ ((0 : Int32) < 0 ∨ cl1.slots.size ≤ ((0 : Int32)).toNatClampNeg) := inb_of S1 ⟨(by decide), (by decide)⟩
  have hat1 : cl1.slots[((0 : Int32)).toNatClampNeg]? = some (.int c0) := H1.at hin1 rfl
  obtain ⟨cl2, Ar2, q2, S2, N2_, H2, G2⟩ := id (V_a2b)
  have hin2 : ¬ ((0 : Int32) < 0 ∨ cl2.slots.size ≤ ((0 : Int32)).toNatClampNeg) := inb_of S2 ⟨(by decide), (by decide)⟩
  obtain ⟨T2, h2, X2, e2, W2, st2⟩ := stB X0 hx hZ e0 Ar2 (j := (0 : Int32)) hin2 (g := (mkF m 31 #[.val (.ref a0c), .val (.int 0), .val (.ref a2b), .val (.int 0), .val (.int 1), .val (.int 0), .val (.int c0)] [(.int (c0.toInt8.toInt32)), (.int 0), (.ref a2b)])) rfl rfl (hb hby d12_31)
  have K2 : Keep h0 h2 [a2b] := (Keep.refl h0 [a2b]).wr W2 (Or.inl (List.mem_of_getElem? (i := 0) rfl))
  have O2 := O0.wr W2 g_a2b
  have N2 := Fr.snoc X2 N0 g_a2b
  have V2' : Arv Z h2 a2b k2 .byte (1 : Int32) [(.int ((c0.toInt8.toInt32)).toInt8.toInt32)] (.int 0) := Arv.set Ar2 q2 S2 N2_ H2 G2 (fits_nar_byte _) W2 0 rfl (Nat.le_of_ble_eq_true rfl)
  have V2 : Arv Z h2 a2b k2 .byte (1 : Int32) [(.int (c0.toInt8.toInt32))] (.int 0) := by
    rw [own_b2 c0] at V2'
    exact V2'
  obtain ⟨fs, hr, hrun, hended, hW, hsame⟩ := X2.leave (v := some (.int 1)) (fun h => by rw [Bd.returns] at h; cases h)
  refine ⟨_, _, pre0 _ ?_, hrun, hended, _, _, rfl, ?_, ⟨_, rfl⟩, hW, hsame.mono (by decide) (by decide)⟩
  · show Steps p.tables e below (s₁.setTop (mkF m 0 #[.val (.ref a0c), .val (.int 0), .val (.ref a2b), .val (.int 0), .val (.int 1), .unset, .unset] [])) _
    refine XS.iconst X0.here hx rfl (hb hby d12_0) ?_
    refine XS.istore X0.here hx rfl (hb hby d12_1) rfl (l' := #[.val (.ref a0c), .val (.int 0), .val (.ref a2b), .val (.int 0), .val (.int 1), .val (.int 0), .unset]) rfl ?_
    refine XS.iload X0.here hx rfl (hb hby d12_3) rfl ?_
    refine XS.iload X0.here hx rfl (hb hby d12_5) rfl ?_
    show Steps p.tables e below (s₁.setTop (mkF m 7 #[.val (.ref a0c), .val (.int 0), .val (.ref a2b), .val (.int 0), .val (.int 1), .val (.int 0), .unset] [(.int 1), (.int 0)])) _
    refine XS.icmpNo X0.here hx rfl (hb hby d12_7) rfl (tlt (by decide : (0 : Int32) < (1 : Int32))).2.1 ?_
    refine XS.aloadN X0.here hx rfl (hb hby d12_10) rfl rfl ?_
    refine XS.iloadN X0.here hx rfl (hb hby d12_11) rfl ?_
    show Steps p.tables e below (s₁.setTop (mkF m 12 #[.val (.ref a0c), .val (.int 0), .val (.ref a2b), .val (.int 0), .val (.int 1), .val (.int 0), .unset] [(.int 0), (.ref a0c)])) _
    refine X0.caload hx (j := (0 : Int32)) (v := (.int c0)) (by rw [e0]; exact Ar1.1) (State.isArrayOf_alike hZ.alike Ar1.2.1) Ar1.2.2 hin1 hat1 (g := (mkF m 12 #[.val (.ref a0c), .val (.int 0), .val (.ref a2b), .val (.int 0), .val (.int 1), .val (.int 0), .unset] [(.int 0), (.ref a0c)])) rfl rfl (hb hby d12_12) _ ?_
    show Steps p.tables e below (s₁.setTop (mkF m 13 #[.val (.ref a0c), .val (.int 0), .val (.ref a2b), .val (.int 0), .val (.int 1), .val (.int 0), .unset] [(.int c0)])) _
    refine XS.istore X0.here hx rfl (hb hby d12_13) rfl (l' := #[.val (.ref a0c), .val (.int 0), .val (.ref a2b), .val (.int 0), .val (.int 1), .val (.int 0), .val (.int c0)]) rfl ?_
    refine XS.iload X0.here hx rfl (hb hby d12_15) rfl ?_
    refine XS.sipush X0.here hx rfl (hb hby d12_17) ?_
    refine XS.icmpYes X0.here hx rfl (pc0 := 20) (pc' := 26) rfl (hb hby d12_20) rfl (flt hc0).2.2.2 (by decide) (by decide) ?_
    show Steps p.tables e below (s₁.setTop (mkF m 26 #[.val (.ref a0c), .val (.int 0), .val (.ref a2b), .val (.int 0), .val (.int 1), .val (.int 0), .val (.int c0)] [])) _
    refine XS.aloadN X0.here hx rfl (hb hby d12_26) rfl rfl ?_
    refine XS.iloadN X0.here hx rfl (hb hby d12_27) rfl ?_
    refine XS.iload X0.here hx rfl (hb hby d12_28) rfl ?_
    refine XS.i2b X0.here hx rfl (hb hby d12_30) rfl ?_
    show Steps p.tables e below (s₁.setTop (mkF m 31 #[.val (.ref a0c), .val (.int 0), .val (.ref a2b), .val (.int 0), .val (.int 1), .val (.int 0), .val (.int c0)] [(.int (c0.toInt8.toInt32)), (.int 0), (.ref a2b)])) _
    refine st2 _ ?_
    show Steps p.tables e below (T2.setTop (mkF m 32 #[.val (.ref a0c), .val (.int 0), .val (.ref a2b), .val (.int 0), .val (.int 1), .val (.int 0), .val (.int c0)] [])) _
    refine XS.iinc X2.here hx rfl (hb hby d12_32) rfl (l' := #[.val (.ref a0c), .val (.int 1), .val (.ref a2b), .val (.int 0), .val (.int 1), .val (.int 0), .val (.int c0)]) rfl ?_
    refine XS.iinc X2.here hx rfl (hb hby d12_35) rfl (l' := #[.val (.ref a0c), .val (.int 1), .val (.ref a2b), .val (.int 1), .val (.int 1), .val (.int 0), .val (.int c0)]) rfl ?_
    refine XS.iinc X2.here hx rfl (hb hby d12_38) rfl (l' := #[.val (.ref a0c), .val (.int 1), .val (.ref a2b), .val (.int 1), .val (.int 1), .val (.int 1), .val (.int c0)]) rfl ?_
    refine XS.goto X2.here hx rfl (pc0 := 41) (pc' := 3) rfl (hb hby d12_41) (by decide) (by decide) ?_
    show Steps p.tables e below (T2.setTop (mkF m 3 #[.val (.ref a0c), .val (.int 1), .val (.ref a2b), .val (.int 1), .val (.int 1), .val (.int 1), .val (.int c0)] [])) _
    refine XS.iload X2.here hx rfl (hb hby d12_3) rfl ?_
    refine XS.iload X2.here hx rfl (hb hby d12_5) rfl ?_
    refine XS.icmpYes X2.here hx rfl (pc0 := 7) (pc' := 44) rfl (hb hby d12_7) rfl (flt (by decide : ¬ ((1 : Int32) < (1 : Int32)))).2.1 (by decide) (by decide) ?_
    refine XS.iload X2.here hx rfl (hb hby d12_44) rfl ?_
    show Steps p.tables e below (T2.setTop (mkF m 46 #[.val (.ref a0c), .val (.int 1), .val (.ref a2b), .val (.int 1), .val (.int 1), .val (.int 1), .val (.int c0)] [(.int 1)])) _
    exact retI X2 hx Bd.returns (hb hby d12_46) hr
  · show Q_rmC2_1 n0 Z cS a0c a2b k0 k2 c0 h0 _ T2.heap _
    rw [e2]
    exact ⟨rfl, N2, K2, V2⟩
theorem d11_0 : decode jdk_52_method_16_code 0 = .ok (.iload_n 2, 1) := by decide +kernel
theorem d11_1 : decode jdk_52_method_16_code 1 = .ok (.newarray .byte, 2) := by decide +kernel
theorem d11_3 : decode jdk_52_method_16_code 3 = .ok (.astore_n 3, 1) := by decide +kernel
theorem d11_4 : decode jdk_52_method_16_code 4 = .ok (.aload_n 0, 1) := by decide +kernel
theorem d11_5 : decode jdk_52_method_16_code 5 = .ok (.iload_n 1, 1) := by decide +kernel
theorem d11_6 : decode jdk_52_method_16_code 6 = .ok (.aload_n 3, 1) := by decide +kernel
theorem d11_7 : decode jdk_52_method_16_code 7 = .ok (.iconst 0, 1) := by decide +kernel
theorem d11_8 : decode jdk_52_method_16_code 8 = .ok (.iload_n 2, 1) := by decide +kernel
theorem d11_9 : decode jdk_52_method_16_code 9 = .ok (.invokestatic 115, 3) := by decide +kernel
theorem pd : parseMethodDescriptor "([CI[BII)I" = some ⟨[(.array .char), .int, (.array .byte), .int, .int], some .int⟩ := by decide +kernel
theorem d11_12 : decode jdk_52_method_16_code 12 = .ok (.istore 4, 2) := by decide +kernel
theorem d11_14 : decode jdk_52_method_16_code 14 = .ok (.iload 4, 2) := by decide +kernel
theorem d11_16 : decode jdk_52_method_16_code 16 = .ok (.iload_n 2, 1) := by decide +kernel
theorem d11_17 : decode jdk_52_method_16_code 17 = .ok (.if_icmp .eq 40, 3) := by decide +kernel
theorem d11_57 : decode jdk_52_method_16_code 57 = .ok (.aload_n 3, 1) := by decide +kernel
theorem d11_58 : decode jdk_52_method_16_code 58 = .ok (.areturn, 1) := by decide +kernel
abbrev MN_1 : MethodName := ⟨"java/lang/StringUTF16", "compress", "([CII)[B"⟩
theorem ef_rmC1_1 (m : MethodId) (a0c : Addr) : entryFrame m #[(.ref a0c), (.int 0), (.int 1)] 6 = mkF m 0 #[.val (.ref a0c), .val (.int 0), .val (.int 1), .unset, .unset, .unset] [] := by first | (simp [entryFrame, mkF, argsToLocals, Value.category]; done) | rfl
def Q_rmC1_1 (n0 : Nat) (Z : State) (cS : Int32) (a0c : Addr) (k0 : ClassId) (c0 : Int32) (h0 : Heap) (v : Option Value) (h : Heap) (L : List Loc) : Prop := ∃ b : Addr, ∃ kb : ClassId, v = some (.ref b) ∧ Fr n0 L ∧ Keep h0 h [] ∧ (h0.size ≤ b) ∧ (Exa Z h b "[B") ∧ (Arv Z h b kb .byte (1 : Int32) [(.int (c0.toInt8.toInt32))] (.int 0))
set_option maxRecDepth 65536 in
set_option maxHeartbeats 40000000 in
theorem rmC1_1 (l : Launch) (Z : State) (a0 : Array Value) (hw : ∀ d ∈ tables_1, d.before a0 Z = true) (ws : List Jvm.Cond) (cS : Int32) (a0c : Addr) (k0 : ClassId) (c0 : Int32) (h0 : Heap) (n0 : Nat) (O0 : Old Z n0 h0) (GL : GF Z cS) (V_a0c : Arv Z h0 a0c k0 .char (1 : Int32) [(.int c0)] (.int 0)) (hc0 : ¬ ((255 : Int32) < c0)) :
    MetFree l MN_1 (head1 (Jvm.Cond.code MN_1 jdk_52_method_16_code 6 (some (.array .byte)) :: ws) ({ frames := 1, cells := 1, slots := 1, locals := 18 } : Room)) (fun a U => a = #[(.ref a0c), (.int 0), (.int 1)] ∧ Z.Warmed39 U.vm ∧ U.heap = h0) (fun _ _ _ _ _ => True) (fun _ U o U' => ∃ v L, o = .returned v ∧ Q_rmC1_1 n0 Z cS a0c k0 c0 h0 v U'.heap L ∧ FrameEnd U o U' L ({ frames := 1, cells := 1, slots := 1, locals := 18 } : Room).cells ({ frames := 1, cells := 1, slots := 1, locals := 18 } : Room).slots) := by
  refine MetFree.of_bodySF (plainFor_of_name pn) hisR ?_
  intro p e s m args below meth c s₁ Bd hml0 hP hK
  obtain ⟨rfl, hZ, hh⟩ := hP
  have hx := Bd.exec
  have hby := Bd.bytes
  have hml : c.maxLocals = 6 := hml0
  have hown : s.vm.findClass "java/lang/StringUTF16" = some m.cls := findClass_of_methodNamed Bd.named
  have hnm := (name_of_methodNamed Bd.named Bd.method).1
  have X0 : Stand p l e ({ frames := 1, cells := 1, slots := 1, locals := 18 } : Room) s m #[(.ref a0c), (.int 0), (.int 1)] below meth c s₁ [] 0 0 := Stand.of_body Bd
  have e0 : s₁.heap = h0 := by rw [← hh, Bd.state]; rfl
  have N0 := Fr.nil n0
  have pre0 : ∀ t, Steps p.tables e below (s₁.setTop (mkF m 0 #[.val (.ref a0c), .val (.int 0), .val (.int 1), .unset, .unset, .unset] [])) t → Steps p.tables e below (s₁.setTop (entryFrame m #[(.ref a0c), (.int 0), (.int 1)] 6)) t := fun t k => castTop (ef_rmC1_1 m a0c) k
  have GL' := GL
  obtain ⟨GCS, GCP⟩ := GL'
  obtain ⟨T1, h1, k1, X1, e1, E1, A1, A1', st1⟩ := newPE X0 hx hZ (Wd hw 23 rfl) e0 (g := (mkF m 1 #[.val (.ref a0c), .val (.int 0), .val (.int 1), .unset, .unset, .unset] [(.int 1)])) rfl (hb hby d11_1) rfl (by decide) (cap := 1) (by decide) (by decide) (by decide) (by decide) (ad := "[B") rfl
  obtain ⟨b1, g1⟩ : ∃ z, z = h0.size := ⟨_, rfl⟩
  rw [← g1] at A1 A1' st1
  have g_b1 : n0 ≤ b1 := Nat.le_trans (own_sz O0) (Nat.le_of_eq g1.symm)
  have sz_b1 : h0.size ≤ b1 := Nat.le_trans (Keep.refl h0 []).1 (Nat.le_of_eq g1.symm)
  have K1 : Keep h0 h1 [] := (Keep.refl h0 []).ext E1
  have O1 := O0.ext E1
  have V_b1 : Arv Z h1 b1 k1 .byte (1 : Int32) [(.int 0)] (.int 0) := (Arv.new A1 (by decide)).pad (pad_rep [] (.int 0) 1)
  obtain ⟨_, _, ⟨T2, L2, k2, n2⟩, -, X2, ⟨Lc2, hQ2, l2, y2, z2⟩, st2⟩ := Jvm.LawKit.callS X1 hx (y := MN_0) hown (mvT hZ (Wd hw 61 rfl)) (mvT hZ (Wd hw 62 rfl)) (mvT hZ (Wd hw 59 rfl)) (mvT hZ (Wd hw 63 rfl)) (by decide) (backOf (W := 0) (rmC2_1 l Z a0 hw [] cS (a0c) (b1) (k0) (k1) (c0) (h1) n0 O1 GL (V_a0c.ext E1) V_b1 g_b1 hc0) hZ (Wd hw 63 rfl) (Wd hw 59 rfl) (by decide) (by decide)) (g := (mkF m 9 #[.val (.ref a0c), .val (.int 0), .val (.int 1), .val (.ref b1), .unset, .unset] [(.int 1), (.int 0), (.ref b1), (.int 0), (.ref a0c)])) rfl (by rw [hml]; rfl) (argsL := [(.ref a0c), (.int 0), (.ref b1), (.int 0), (.int 1)]) (rest := []) (lenOf pd rfl) rfl (by show 2 * 0 + _ ≤ _; exact Nat.le_of_eq rfl) (hb hby d11_9) (fun _ _ => ⟨rfl, e1, (by decide : 1 + 0 ≤ _), (by decide : 1 + 0 ≤ _)⟩)
  dsimp only [Pt.U, Pt.locs, Pt.cells, Pt.slots] at X2 l2 y2 z2 st2 hQ2
  subst l2 y2 z2
  obtain ⟨rfl, N2q, Kc2, P2_0⟩ := hQ2
  have K2 : Keep h0 T2.heap [] := K1.trans Kc2 (allS (Or.inr sz_b1) all0)
  have O2 := O1.keep Kc2 (allS g_b1 all0)
  have N2 := Fr.app N0 N2q
  obtain ⟨fs, hr, hrun, hended, hW, hsame⟩ := X2.leave (v := some (.ref b1)) (fun h => by rw [Bd.returns] at h; cases h)
  refine ⟨_, _, pre0 _ ?_, hrun, hended, _, _, rfl, ?_, ⟨_, rfl⟩, hW, hsame.mono (by decide) (by decide)⟩
  · show Steps p.tables e below (s₁.setTop (mkF m 0 #[.val (.ref a0c), .val (.int 0), .val (.int 1), .unset, .unset, .unset] [])) _
    refine XS.iloadN X0.here hx rfl (hb hby d11_0) rfl ?_
    show Steps p.tables e below (s₁.setTop (mkF m 1 #[.val (.ref a0c), .val (.int 0), .val (.int 1), .unset, .unset, .unset] [(.int 1)])) _
    refine st1 _ ?_
    show Steps p.tables e below (T1.setTop (mkF m 3 #[.val (.ref a0c), .val (.int 0), .val (.int 1), .unset, .unset, .unset] [(.ref b1)])) _
    refine XS.astoreN X1.here hx rfl (hb hby d11_3) rfl rfl (l' := #[.val (.ref a0c), .val (.int 0), .val (.int 1), .val (.ref b1), .unset, .unset]) rfl ?_
    refine XS.aloadN X1.here hx rfl (hb hby d11_4) rfl rfl ?_
    refine XS.iloadN X1.here hx rfl (hb hby d11_5) rfl ?_
    refine XS.aloadN X1.here hx rfl (hb hby d11_6) rfl rfl ?_
    show Steps p.tables e below (T1.setTop (mkF m 7 #[.val (.ref a0c), .val (.int 0), .val (.int 1), .val (.ref b1), .unset, .unset] [(.ref b1), (.int 0), (.ref a0c)])) _
    refine XS.iconst X1.here hx rfl (hb hby d11_7) ?_
    refine XS.iloadN X1.here hx rfl (hb hby d11_8) rfl ?_
    show Steps p.tables e below (T1.setTop (mkF m 9 #[.val (.ref a0c), .val (.int 0), .val (.int 1), .val (.ref b1), .unset, .unset] [(.int 1), (.int 0), (.ref b1), (.int 0), (.ref a0c)])) _
    refine st2 _ ?_
    show Steps p.tables e below (T2.setTop (mkF m 12 #[.val (.ref a0c), .val (.int 0), .val (.int 1), .val (.ref b1), .unset, .unset] [(.int 1)])) _
    refine XS.istore X2.here hx rfl (hb hby d11_12) rfl (l' := #[.val (.ref a0c), .val (.int 0), .val (.int 1), .val (.ref b1), .val (.int 1), .unset]) rfl ?_
    refine XS.iload X2.here hx rfl (hb hby d11_14) rfl ?_
    refine XS.iloadN X2.here hx rfl (hb hby d11_16) rfl ?_
    refine XS.icmpYes X2.here hx rfl (pc0 := 17) (pc' := 57) rfl (hb hby d11_17) rfl (teq (by decide : (1 : Int32) = (1 : Int32))).1 (by decide) (by decide) ?_
    show Steps p.tables e below (T2.setTop (mkF m 57 #[.val (.ref a0c), .val (.int 0), .val (.int 1), .val (.ref b1), .val (.int 1), .unset] [])) _
    refine XS.aloadN X2.here hx rfl (hb hby d11_57) rfl rfl ?_
    show Steps p.tables e below (T2.setTop (mkF m 58 #[.val (.ref a0c), .val (.int 0), .val (.int 1), .val (.ref b1), .val (.int 1), .unset] [(.ref b1)])) _
    jvm_step X2.here [X2.here.top, hx, (hb hby d11_58), X2.method', Bd.returns, Value.isRef, FieldType.isReference]
    first | (intro acts; rw [hr _ acts rfl rfl rfl]) | rw [hr _ _ rfl rfl rfl]
    exact Steps.refl _
  · show Q_rmC1_1 n0 Z cS a0c k0 c0 h0 _ T2.heap _
    exact ⟨b1, k1, rfl, N2, K2, sz_b1, (A1'.keep Kc2), P2_0⟩
theorem ef_rmC2_2 (m : MethodId) (a0c : Addr) (a2b : Addr) : entryFrame m #[(.ref a0c), (.int 0), (.ref a2b), (.int 0), (.int 2)] 7 = mkF m 0 #[.val (.ref a0c), .val (.int 0), .val (.ref a2b), .val (.int 0), .val (.int 2), .unset, .unset] [] := by first | (simp [entryFrame, mkF, argsToLocals, Value.category]; done) | rfl
def Q_rmC2_2 (n0 : Nat) (Z : State) (cS : Int32) (a0c : Addr) (a2b : Addr) (k0 : ClassId) (k2 : ClassId) (c0 : Int32) (c1 : Int32) (h0 : Heap) (v : Option Value) (h : Heap) (L : List Loc) : Prop := v = some (.int 2) ∧ Fr n0 L ∧ Keep h0 h [a2b] ∧ (Arv Z h a2b k2 .byte (2 : Int32) [(.int (c0.toInt8.toInt32)), (.int (c1.toInt8.toInt32))] (.int 0))
set_option maxRecDepth 65536 in
set_option maxHeartbeats 40000000 in
theorem rmC2_2 (l : Launch) (Z : State) (a0 : Array Value) (hw : ∀ d ∈ tables_1, d.before a0 Z = true) (ws : List Jvm.Cond) (cS : Int32) (a0c : Addr) (a2b : Addr) (k0 : ClassId) (k2 : ClassId) (c0 : Int32) (c1 : Int32) (h0 : Heap) (n0 : Nat) (O0 : Old Z n0 h0) (GL : GF Z cS) (V_a0c : Arv Z h0 a0c k0 .char (2 : Int32) [(.int c0), (.int c1)] (.int 0)) (V_a2b : Arv Z h0 a2b k2 .byte (2 : Int32) [(.int 0), (.int 0)] (.int 0)) (g_a2b : n0 ≤ a2b) (hc0 : ¬ ((255 : Int32) < c0)) (hc1 : ¬ ((255 : Int32) < c1)) :
    MetFree l MN_0 (head1 (Jvm.Cond.code MN_0 jdk_52_method_21_code 7 (some .int) :: ws) ({ frames := 0, cells := 0, slots := 0, locals := 0 } : Room)) (fun a U => a = #[(.ref a0c), (.int 0), (.ref a2b), (.int 0), (.int 2)] ∧ Z.Warmed39 U.vm ∧ U.heap = h0) (fun _ _ _ _ _ => True) (fun _ U o U' => ∃ v L, o = .returned v ∧ Q_rmC2_2 n0 Z cS a0c a2b k0 k2 c0 c1 h0 v U'.heap L ∧ FrameEnd U o U' L ({ frames := 0, cells := 0, slots := 0, locals := 0 } : Room).cells ({ frames := 0, cells := 0, slots := 0, locals := 0 } : Room).slots) := by
  refine MetFree.of_bodySF (plainFor_of_name pn) hisR ?_
  intro p e s m args below meth c s₁ Bd hml0 hP hK
  obtain ⟨rfl, hZ, hh⟩ := hP
  have hx := Bd.exec
  have hby := Bd.bytes
  have hml : c.maxLocals = 7 := hml0
  have hown : s.vm.findClass "java/lang/StringUTF16" = some m.cls := findClass_of_methodNamed Bd.named
  have hnm := (name_of_methodNamed Bd.named Bd.method).1
  have X0 : Stand p l e ({ frames := 0, cells := 0, slots := 0, locals := 0 } : Room) s m #[(.ref a0c), (.int 0), (.ref a2b), (.int 0), (.int 2)] below meth c s₁ [] 0 0 := Stand.of_body Bd
  have e0 : s₁.heap = h0 := by rw [← hh, Bd.state]; rfl
  have N0 := Fr.nil n0
  have pre0 : ∀ t, Steps p.tables e below (s₁.setTop (mkF m 0 #[.val (.ref a0c), .val (.int 0), .val (.ref a2b), .val (.int 0), .val (.int 2), .unset, .unset] [])) t → Steps p.tables e below (s₁.setTop (entryFrame m #[(.ref a0c), (.int 0), (.ref a2b), (.int 0), (.int 2)] 7)) t := fun t k => castTop (ef_rmC2_2 m a0c a2b) k
  have GL' := GL
  obtain ⟨GCS, GCP⟩ := GL'
  obtain ⟨cl1, Ar1, -, S1, N1_, H1, G1⟩ := id (V_a0c)
  have hin1 : ¬ ((0 : Int32) < 0 ∨ cl1.slots.size ≤ ((0 : Int32)).toNatClampNeg) := inb_of S1 ⟨(by decide), (by decide)⟩
  have hat1 : cl1.slots[((0 : Int32)).toNatClampNeg]? = some (.int c0) := H1.at hin1 rfl
  obtain ⟨cl2, Ar2, q2, S2, N2_, H2, G2⟩ := id (V_a2b)
  have hin2 : ¬ ((0 : Int32) < 0 ∨ cl2.slots.size ≤ ((0 : Int32)).toNatClampNeg) := inb_of S2 ⟨(by decide), (by decide)⟩
  obtain ⟨T2, h2, X2, e2, W2, st2⟩ := stB X0 hx hZ e0 Ar2 (j := (0 : Int32)) hin2 (g := (mkF m 31 #[.val (.ref a0c), .val (.int 0), .val (.ref a2b), .val (.int 0), .val (.int 2), .val (.int 0), .val (.int c0)] [(.int (c0.toInt8.toInt32)), (.int 0), (.ref a2b)])) rfl rfl (hb hby d12_31)
  have K2 : Keep h0 h2 [a2b] := (Keep.refl h0 [a2b]).wr W2 (Or.inl (List.mem_of_getElem? (i := 0) rfl))
  have O2 := O0.wr W2 g_a2b
  have N2 := Fr.snoc X2 N0 g_a2b
  have V2' : Arv Z h2 a2b k2 .byte (2 : Int32) [(.int ((c0.toInt8.toInt32)).toInt8.toInt32), (.int 0)] (.int 0) := Arv.set Ar2 q2 S2 N2_ H2 G2 (fits_nar_byte _) W2 0 rfl (Nat.le_of_ble_eq_true rfl)
  have V2 : Arv Z h2 a2b k2 .byte (2 : Int32) [(.int (c0.toInt8.toInt32)), (.int 0)] (.int 0) := by
    rw [own_b2 c0] at V2'
    exact V2'
  obtain ⟨cl3, Ar3, -, S3, N3_, H3, G3⟩ := id ((V_a0c.other W2 (own_neArv V_a0c V_a2b (by decide))))
  have hin3 : ¬ ((1 : Int32) < 0 ∨ cl3.slots.size ≤ ((1 : Int32)).toNatClampNeg) := inb_of S3 ⟨(by decide), (by decide)⟩
  have hat3 : cl3.slots[((1 : Int32)).toNatClampNeg]? = some (.int c1) := H3.at hin3 rfl
  obtain ⟨cl4, Ar4, q4, S4, N4_, H4, G4⟩ := id (V2)
  have hin4 : ¬ ((1 : Int32) < 0 ∨ cl4.slots.size ≤ ((1 : Int32)).toNatClampNeg) := inb_of S4 ⟨(by decide), (by decide)⟩
  obtain ⟨T4, h4, X4, e4, W4, st4⟩ := stB X2 hx hZ e2 Ar4 (j := (1 : Int32)) hin4 (g := (mkF m 31 #[.val (.ref a0c), .val (.int 1), .val (.ref a2b), .val (.int 1), .val (.int 2), .val (.int 1), .val (.int c1)] [(.int (c1.toInt8.toInt32)), (.int 1), (.ref a2b)])) rfl rfl (hb hby d12_31)
  have K4 : Keep h0 h4 [a2b] := K2.wr W4 (Or.inl (List.mem_of_getElem? (i := 0) rfl))
  have O4 := O2.wr W4 g_a2b
  have N4 := Fr.snoc X4 N2 g_a2b
  have V4' : Arv Z h4 a2b k2 .byte (2 : Int32) [(.int (c0.toInt8.toInt32)), (.int ((c1.toInt8.toInt32)).toInt8.toInt32)] (.int 0) := Arv.set Ar4 q4 S4 N4_ H4 G4 (fits_nar_byte _) W4 1 rfl (Nat.le_of_ble_eq_true rfl)
  have V4 : Arv Z h4 a2b k2 .byte (2 : Int32) [(.int (c0.toInt8.toInt32)), (.int (c1.toInt8.toInt32))] (.int 0) := by
    rw [own_b2 c1] at V4'
    exact V4'
  obtain ⟨fs, hr, hrun, hended, hW, hsame⟩ := X4.leave (v := some (.int 2)) (fun h => by rw [Bd.returns] at h; cases h)
  refine ⟨_, _, pre0 _ ?_, hrun, hended, _, _, rfl, ?_, ⟨_, rfl⟩, hW, hsame.mono (by decide) (by decide)⟩
  · show Steps p.tables e below (s₁.setTop (mkF m 0 #[.val (.ref a0c), .val (.int 0), .val (.ref a2b), .val (.int 0), .val (.int 2), .unset, .unset] [])) _
    refine XS.iconst X0.here hx rfl (hb hby d12_0) ?_
    refine XS.istore X0.here hx rfl (hb hby d12_1) rfl (l' := #[.val (.ref a0c), .val (.int 0), .val (.ref a2b), .val (.int 0), .val (.int 2), .val (.int 0), .unset]) rfl ?_
    refine XS.iload X0.here hx rfl (hb hby d12_3) rfl ?_
    refine XS.iload X0.here hx rfl (hb hby d12_5) rfl ?_
    show Steps p.tables e below (s₁.setTop (mkF m 7 #[.val (.ref a0c), .val (.int 0), .val (.ref a2b), .val (.int 0), .val (.int 2), .val (.int 0), .unset] [(.int 2), (.int 0)])) _
    refine XS.icmpNo X0.here hx rfl (hb hby d12_7) rfl (tlt (by decide : (0 : Int32) < (2 : Int32))).2.1 ?_
    refine XS.aloadN X0.here hx rfl (hb hby d12_10) rfl rfl ?_
    refine XS.iloadN X0.here hx rfl (hb hby d12_11) rfl ?_
    show Steps p.tables e below (s₁.setTop (mkF m 12 #[.val (.ref a0c), .val (.int 0), .val (.ref a2b), .val (.int 0), .val (.int 2), .val (.int 0), .unset] [(.int 0), (.ref a0c)])) _
    refine X0.caload hx (j := (0 : Int32)) (v := (.int c0)) (by rw [e0]; exact Ar1.1) (State.isArrayOf_alike hZ.alike Ar1.2.1) Ar1.2.2 hin1 hat1 (g := (mkF m 12 #[.val (.ref a0c), .val (.int 0), .val (.ref a2b), .val (.int 0), .val (.int 2), .val (.int 0), .unset] [(.int 0), (.ref a0c)])) rfl rfl (hb hby d12_12) _ ?_
    show Steps p.tables e below (s₁.setTop (mkF m 13 #[.val (.ref a0c), .val (.int 0), .val (.ref a2b), .val (.int 0), .val (.int 2), .val (.int 0), .unset] [(.int c0)])) _
    refine XS.istore X0.here hx rfl (hb hby d12_13) rfl (l' := #[.val (.ref a0c), .val (.int 0), .val (.ref a2b), .val (.int 0), .val (.int 2), .val (.int 0), .val (.int c0)]) rfl ?_
    refine XS.iload X0.here hx rfl (hb hby d12_15) rfl ?_
    refine XS.sipush X0.here hx rfl (hb hby d12_17) ?_
    refine XS.icmpYes X0.here hx rfl (pc0 := 20) (pc' := 26) rfl (hb hby d12_20) rfl (flt hc0).2.2.2 (by decide) (by decide) ?_
    show Steps p.tables e below (s₁.setTop (mkF m 26 #[.val (.ref a0c), .val (.int 0), .val (.ref a2b), .val (.int 0), .val (.int 2), .val (.int 0), .val (.int c0)] [])) _
    refine XS.aloadN X0.here hx rfl (hb hby d12_26) rfl rfl ?_
    refine XS.iloadN X0.here hx rfl (hb hby d12_27) rfl ?_
    refine XS.iload X0.here hx rfl (hb hby d12_28) rfl ?_
    refine XS.i2b X0.here hx rfl (hb hby d12_30) rfl ?_
    show Steps p.tables e below (s₁.setTop (mkF m 31 #[.val (.ref a0c), .val (.int 0), .val (.ref a2b), .val (.int 0), .val (.int 2), .val (.int 0), .val (.int c0)] [(.int (c0.toInt8.toInt32)), (.int 0), (.ref a2b)])) _
    refine st2 _ ?_
    show Steps p.tables e below (T2.setTop (mkF m 32 #[.val (.ref a0c), .val (.int 0), .val (.ref a2b), .val (.int 0), .val (.int 2), .val (.int 0), .val (.int c0)] [])) _
    refine XS.iinc X2.here hx rfl (hb hby d12_32) rfl (l' := #[.val (.ref a0c), .val (.int 1), .val (.ref a2b), .val (.int 0), .val (.int 2), .val (.int 0), .val (.int c0)]) rfl ?_
    refine XS.iinc X2.here hx rfl (hb hby d12_35) rfl (l' := #[.val (.ref a0c), .val (.int 1), .val (.ref a2b), .val (.int 1), .val (.int 2), .val (.int 0), .val (.int c0)]) rfl ?_
    refine XS.iinc X2.here hx rfl (hb hby d12_38) rfl (l' := #[.val (.ref a0c), .val (.int 1), .val (.ref a2b), .val (.int 1), .val (.int 2), .val (.int 1), .val (.int c0)]) rfl ?_
    refine XS.goto X2.here hx rfl (pc0 := 41) (pc' := 3) rfl (hb hby d12_41) (by decide) (by decide) ?_
    show Steps p.tables e below (T2.setTop (mkF m 3 #[.val (.ref a0c), .val (.int 1), .val (.ref a2b), .val (.int 1), .val (.int 2), .val (.int 1), .val (.int c0)] [])) _
    refine XS.iload X2.here hx rfl (hb hby d12_3) rfl ?_
    refine XS.iload X2.here hx rfl (hb hby d12_5) rfl ?_
    refine XS.icmpNo X2.here hx rfl (hb hby d12_7) rfl (tlt (by decide : (1 : Int32) < (2 : Int32))).2.1 ?_
    refine XS.aloadN X2.here hx rfl (hb hby d12_10) rfl rfl ?_
    show Steps p.tables e below (T2.setTop (mkF m 11 #[.val (.ref a0c), .val (.int 1), .val (.ref a2b), .val (.int 1), .val (.int 2), .val (.int 1), .val (.int c0)] [(.ref a0c)])) _
    refine XS.iloadN X2.here hx rfl (hb hby d12_11) rfl ?_
    show Steps p.tables e below (T2.setTop (mkF m 12 #[.val (.ref a0c), .val (.int 1), .val (.ref a2b), .val (.int 1), .val (.int 2), .val (.int 1), .val (.int c0)] [(.int 1), (.ref a0c)])) _
    refine X2.caload hx (j := (1 : Int32)) (v := (.int c1)) (by rw [e2]; exact Ar3.1) (State.isArrayOf_alike hZ.alike Ar3.2.1) Ar3.2.2 hin3 hat3 (g := (mkF m 12 #[.val (.ref a0c), .val (.int 1), .val (.ref a2b), .val (.int 1), .val (.int 2), .val (.int 1), .val (.int c0)] [(.int 1), (.ref a0c)])) rfl rfl (hb hby d12_12) _ ?_
    show Steps p.tables e below (T2.setTop (mkF m 13 #[.val (.ref a0c), .val (.int 1), .val (.ref a2b), .val (.int 1), .val (.int 2), .val (.int 1), .val (.int c0)] [(.int c1)])) _
    refine XS.istore X2.here hx rfl (hb hby d12_13) rfl (l' := #[.val (.ref a0c), .val (.int 1), .val (.ref a2b), .val (.int 1), .val (.int 2), .val (.int 1), .val (.int c1)]) rfl ?_
    refine XS.iload X2.here hx rfl (hb hby d12_15) rfl ?_
    refine XS.sipush X2.here hx rfl (hb hby d12_17) ?_
    refine XS.icmpYes X2.here hx rfl (pc0 := 20) (pc' := 26) rfl (hb hby d12_20) rfl (flt hc1).2.2.2 (by decide) (by decide) ?_
    show Steps p.tables e below (T2.setTop (mkF m 26 #[.val (.ref a0c), .val (.int 1), .val (.ref a2b), .val (.int 1), .val (.int 2), .val (.int 1), .val (.int c1)] [])) _
    refine XS.aloadN X2.here hx rfl (hb hby d12_26) rfl rfl ?_
    refine XS.iloadN X2.here hx rfl (hb hby d12_27) rfl ?_
    refine XS.iload X2.here hx rfl (hb hby d12_28) rfl ?_
    refine XS.i2b X2.here hx rfl (hb hby d12_30) rfl ?_
    show Steps p.tables e below (T2.setTop (mkF m 31 #[.val (.ref a0c), .val (.int 1), .val (.ref a2b), .val (.int 1), .val (.int 2), .val (.int 1), .val (.int c1)] [(.int (c1.toInt8.toInt32)), (.int 1), (.ref a2b)])) _
    refine st4 _ ?_
    show Steps p.tables e below (T4.setTop (mkF m 32 #[.val (.ref a0c), .val (.int 1), .val (.ref a2b), .val (.int 1), .val (.int 2), .val (.int 1), .val (.int c1)] [])) _
    refine XS.iinc X4.here hx rfl (hb hby d12_32) rfl (l' := #[.val (.ref a0c), .val (.int 2), .val (.ref a2b), .val (.int 1), .val (.int 2), .val (.int 1), .val (.int c1)]) rfl ?_
    refine XS.iinc X4.here hx rfl (hb hby d12_35) rfl (l' := #[.val (.ref a0c), .val (.int 2), .val (.ref a2b), .val (.int 2), .val (.int 2), .val (.int 1), .val (.int c1)]) rfl ?_
    refine XS.iinc X4.here hx rfl (hb hby d12_38) rfl (l' := #[.val (.ref a0c), .val (.int 2), .val (.ref a2b), .val (.int 2), .val (.int 2), .val (.int 2), .val (.int c1)]) rfl ?_
    refine XS.goto X4.here hx rfl (pc0 := 41) (pc' := 3) rfl (hb hby d12_41) (by decide) (by decide) ?_
    show Steps p.tables e below (T4.setTop (mkF m 3 #[.val (.ref a0c), .val (.int 2), .val (.ref a2b), .val (.int 2), .val (.int 2), .val (.int 2), .val (.int c1)] [])) _
    refine XS.iload X4.here hx rfl (hb hby d12_3) rfl ?_
    refine XS.iload X4.here hx rfl (hb hby d12_5) rfl ?_
    refine XS.icmpYes X4.here hx rfl (pc0 := 7) (pc' := 44) rfl (hb hby d12_7) rfl (flt (by decide : ¬ ((2 : Int32) < (2 : Int32)))).2.1 (by decide) (by decide) ?_
    refine XS.iload X4.here hx rfl (hb hby d12_44) rfl ?_
    show Steps p.tables e below (T4.setTop (mkF m 46 #[.val (.ref a0c), .val (.int 2), .val (.ref a2b), .val (.int 2), .val (.int 2), .val (.int 2), .val (.int c1)] [(.int 2)])) _
    exact retI X4 hx Bd.returns (hb hby d12_46) hr
  · show Q_rmC2_2 n0 Z cS a0c a2b k0 k2 c0 c1 h0 _ T4.heap _
    rw [e4]
    exact ⟨rfl, N4, K4, V4⟩
theorem ef_rmC1_2 (m : MethodId) (a0c : Addr) : entryFrame m #[(.ref a0c), (.int 0), (.int 2)] 6 = mkF m 0 #[.val (.ref a0c), .val (.int 0), .val (.int 2), .unset, .unset, .unset] [] := by first | (simp [entryFrame, mkF, argsToLocals, Value.category]; done) | rfl
def Q_rmC1_2 (n0 : Nat) (Z : State) (cS : Int32) (a0c : Addr) (k0 : ClassId) (c0 : Int32) (c1 : Int32) (h0 : Heap) (v : Option Value) (h : Heap) (L : List Loc) : Prop := ∃ b : Addr, ∃ kb : ClassId, v = some (.ref b) ∧ Fr n0 L ∧ Keep h0 h [] ∧ (h0.size ≤ b) ∧ (Exa Z h b "[B") ∧ (Arv Z h b kb .byte (2 : Int32) [(.int (c0.toInt8.toInt32)), (.int (c1.toInt8.toInt32))] (.int 0))
set_option maxRecDepth 65536 in
set_option maxHeartbeats 40000000 in
theorem rmC1_2 (l : Launch) (Z : State) (a0 : Array Value) (hw : ∀ d ∈ tables_1, d.before a0 Z = true) (ws : List Jvm.Cond) (cS : Int32) (a0c : Addr) (k0 : ClassId) (c0 : Int32) (c1 : Int32) (h0 : Heap) (n0 : Nat) (O0 : Old Z n0 h0) (GL : GF Z cS) (V_a0c : Arv Z h0 a0c k0 .char (2 : Int32) [(.int c0), (.int c1)] (.int 0)) (hc0 : ¬ ((255 : Int32) < c0)) (hc1 : ¬ ((255 : Int32) < c1)) :
    MetFree l MN_1 (head1 (Jvm.Cond.code MN_1 jdk_52_method_16_code 6 (some (.array .byte)) :: ws) ({ frames := 1, cells := 1, slots := 2, locals := 18 } : Room)) (fun a U => a = #[(.ref a0c), (.int 0), (.int 2)] ∧ Z.Warmed39 U.vm ∧ U.heap = h0) (fun _ _ _ _ _ => True) (fun _ U o U' => ∃ v L, o = .returned v ∧ Q_rmC1_2 n0 Z cS a0c k0 c0 c1 h0 v U'.heap L ∧ FrameEnd U o U' L ({ frames := 1, cells := 1, slots := 2, locals := 18 } : Room).cells ({ frames := 1, cells := 1, slots := 2, locals := 18 } : Room).slots) := by
  refine MetFree.of_bodySF (plainFor_of_name pn) hisR ?_
  intro p e s m args below meth c s₁ Bd hml0 hP hK
  obtain ⟨rfl, hZ, hh⟩ := hP
  have hx := Bd.exec
  have hby := Bd.bytes
  have hml : c.maxLocals = 6 := hml0
  have hown : s.vm.findClass "java/lang/StringUTF16" = some m.cls := findClass_of_methodNamed Bd.named
  have hnm := (name_of_methodNamed Bd.named Bd.method).1
  have X0 : Stand p l e ({ frames := 1, cells := 1, slots := 2, locals := 18 } : Room) s m #[(.ref a0c), (.int 0), (.int 2)] below meth c s₁ [] 0 0 := Stand.of_body Bd
  have e0 : s₁.heap = h0 := by rw [← hh, Bd.state]; rfl
  have N0 := Fr.nil n0
  have pre0 : ∀ t, Steps p.tables e below (s₁.setTop (mkF m 0 #[.val (.ref a0c), .val (.int 0), .val (.int 2), .unset, .unset, .unset] [])) t → Steps p.tables e below (s₁.setTop (entryFrame m #[(.ref a0c), (.int 0), (.int 2)] 6)) t := fun t k => castTop (ef_rmC1_2 m a0c) k
  have GL' := GL
  obtain ⟨GCS, GCP⟩ := GL'
  obtain ⟨T1, h1, k1, X1, e1, E1, A1, A1', st1⟩ := newPE X0 hx hZ (Wd hw 23 rfl) e0 (g := (mkF m 1 #[.val (.ref a0c), .val (.int 0), .val (.int 2), .unset, .unset, .unset] [(.int 2)])) rfl (hb hby d11_1) rfl (by decide) (cap := 2) (by decide) (by decide) (by decide) (by decide) (ad := "[B") rfl
  obtain ⟨b1, g1⟩ : ∃ z, z = h0.size := ⟨_, rfl⟩
  rw [← g1] at A1 A1' st1
  have g_b1 : n0 ≤ b1 := Nat.le_trans (own_sz O0) (Nat.le_of_eq g1.symm)
  have sz_b1 : h0.size ≤ b1 := Nat.le_trans (Keep.refl h0 []).1 (Nat.le_of_eq g1.symm)
  have K1 : Keep h0 h1 [] := (Keep.refl h0 []).ext E1
  have O1 := O0.ext E1
  have V_b1 : Arv Z h1 b1 k1 .byte (2 : Int32) [(.int 0), (.int 0)] (.int 0) := (Arv.new A1 (by decide)).pad (pad_rep [] (.int 0) 2)
  obtain ⟨_, _, ⟨T2, L2, k2, n2⟩, -, X2, ⟨Lc2, hQ2, l2, y2, z2⟩, st2⟩ := Jvm.LawKit.callS X1 hx (y := MN_0) hown (mvT hZ (Wd hw 61 rfl)) (mvT hZ (Wd hw 62 rfl)) (mvT hZ (Wd hw 59 rfl)) (mvT hZ (Wd hw 63 rfl)) (by decide) (backOf (W := 0) (rmC2_2 l Z a0 hw [] cS (a0c) (b1) (k0) (k1) (c0) (c1) (h1) n0 O1 GL (V_a0c.ext E1) V_b1 g_b1 hc0 hc1) hZ (Wd hw 63 rfl) (Wd hw 59 rfl) (by decide) (by decide)) (g := (mkF m 9 #[.val (.ref a0c), .val (.int 0), .val (.int 2), .val (.ref b1), .unset, .unset] [(.int 2), (.int 0), (.ref b1), (.int 0), (.ref a0c)])) rfl (by rw [hml]; rfl) (argsL := [(.ref a0c), (.int 0), (.ref b1), (.int 0), (.int 2)]) (rest := []) (lenOf pd rfl) rfl (by show 2 * 0 + _ ≤ _; exact Nat.le_of_eq rfl) (hb hby d11_9) (fun _ _ => ⟨rfl, e1, (by decide : 1 + 0 ≤ _), (by decide : 2 + 0 ≤ _)⟩)
  dsimp only [Pt.U, Pt.locs, Pt.cells, Pt.slots] at X2 l2 y2 z2 st2 hQ2
  subst l2 y2 z2
  obtain ⟨rfl, N2q, Kc2, P2_0⟩ := hQ2
  have K2 : Keep h0 T2.heap [] := K1.trans Kc2 (allS (Or.inr sz_b1) all0)
  have O2 := O1.keep Kc2 (allS g_b1 all0)
  have N2 := Fr.app N0 N2q
  obtain ⟨fs, hr, hrun, hended, hW, hsame⟩ := X2.leave (v := some (.ref b1)) (fun h => by rw [Bd.returns] at h; cases h)
  refine ⟨_, _, pre0 _ ?_, hrun, hended, _, _, rfl, ?_, ⟨_, rfl⟩, hW, hsame.mono (by decide) (by decide)⟩
  · show Steps p.tables e below (s₁.setTop (mkF m 0 #[.val (.ref a0c), .val (.int 0), .val (.int 2), .unset, .unset, .unset] [])) _
    refine XS.iloadN X0.here hx rfl (hb hby d11_0) rfl ?_
    show Steps p.tables e below (s₁.setTop (mkF m 1 #[.val (.ref a0c), .val (.int 0), .val (.int 2), .unset, .unset, .unset] [(.int 2)])) _
    refine st1 _ ?_
    show Steps p.tables e below (T1.setTop (mkF m 3 #[.val (.ref a0c), .val (.int 0), .val (.int 2), .unset, .unset, .unset] [(.ref b1)])) _
    refine XS.astoreN X1.here hx rfl (hb hby d11_3) rfl rfl (l' := #[.val (.ref a0c), .val (.int 0), .val (.int 2), .val (.ref b1), .unset, .unset]) rfl ?_
    refine XS.aloadN X1.here hx rfl (hb hby d11_4) rfl rfl ?_
    refine XS.iloadN X1.here hx rfl (hb hby d11_5) rfl ?_
    refine XS.aloadN X1.here hx rfl (hb hby d11_6) rfl rfl ?_
    show Steps p.tables e below (T1.setTop (mkF m 7 #[.val (.ref a0c), .val (.int 0), .val (.int 2), .val (.ref b1), .unset, .unset] [(.ref b1), (.int 0), (.ref a0c)])) _
    refine XS.iconst X1.here hx rfl (hb hby d11_7) ?_
    refine XS.iloadN X1.here hx rfl (hb hby d11_8) rfl ?_
    show Steps p.tables e below (T1.setTop (mkF m 9 #[.val (.ref a0c), .val (.int 0), .val (.int 2), .val (.ref b1), .unset, .unset] [(.int 2), (.int 0), (.ref b1), (.int 0), (.ref a0c)])) _
    refine st2 _ ?_
    show Steps p.tables e below (T2.setTop (mkF m 12 #[.val (.ref a0c), .val (.int 0), .val (.int 2), .val (.ref b1), .unset, .unset] [(.int 2)])) _
    refine XS.istore X2.here hx rfl (hb hby d11_12) rfl (l' := #[.val (.ref a0c), .val (.int 0), .val (.int 2), .val (.ref b1), .val (.int 2), .unset]) rfl ?_
    refine XS.iload X2.here hx rfl (hb hby d11_14) rfl ?_
    refine XS.iloadN X2.here hx rfl (hb hby d11_16) rfl ?_
    refine XS.icmpYes X2.here hx rfl (pc0 := 17) (pc' := 57) rfl (hb hby d11_17) rfl (teq (by decide : (2 : Int32) = (2 : Int32))).1 (by decide) (by decide) ?_
    show Steps p.tables e below (T2.setTop (mkF m 57 #[.val (.ref a0c), .val (.int 0), .val (.int 2), .val (.ref b1), .val (.int 2), .unset] [])) _
    refine XS.aloadN X2.here hx rfl (hb hby d11_57) rfl rfl ?_
    show Steps p.tables e below (T2.setTop (mkF m 58 #[.val (.ref a0c), .val (.int 0), .val (.int 2), .val (.ref b1), .val (.int 2), .unset] [(.ref b1)])) _
    jvm_step X2.here [X2.here.top, hx, (hb hby d11_58), X2.method', Bd.returns, Value.isRef, FieldType.isReference]
    first | (intro acts; rw [hr _ acts rfl rfl rfl]) | rw [hr _ _ rfl rfl rfl]
    exact Steps.refl _
  · show Q_rmC1_2 n0 Z cS a0c k0 c0 c1 h0 _ T2.heap _
    exact ⟨b1, k1, rfl, N2, K2, sz_b1, (A1'.keep Kc2), P2_0⟩
theorem ef_rmC2_3 (m : MethodId) (a0c : Addr) (a2b : Addr) : entryFrame m #[(.ref a0c), (.int 0), (.ref a2b), (.int 0), (.int 3)] 7 = mkF m 0 #[.val (.ref a0c), .val (.int 0), .val (.ref a2b), .val (.int 0), .val (.int 3), .unset, .unset] [] := by first | (simp [entryFrame, mkF, argsToLocals, Value.category]; done) | rfl
def Q_rmC2_3 (n0 : Nat) (Z : State) (cS : Int32) (a0c : Addr) (a2b : Addr) (k0 : ClassId) (k2 : ClassId) (c0 : Int32) (c1 : Int32) (c2 : Int32) (h0 : Heap) (v : Option Value) (h : Heap) (L : List Loc) : Prop := v = some (.int 3) ∧ Fr n0 L ∧ Keep h0 h [a2b] ∧ (Arv Z h a2b k2 .byte (3 : Int32) [(.int (c0.toInt8.toInt32)), (.int (c1.toInt8.toInt32)), (.int (c2.toInt8.toInt32))] (.int 0))
set_option maxRecDepth 65536 in
set_option maxHeartbeats 40000000 in
theorem rmC2_3 (l : Launch) (Z : State) (a0 : Array Value) (hw : ∀ d ∈ tables_1, d.before a0 Z = true) (ws : List Jvm.Cond) (cS : Int32) (a0c : Addr) (a2b : Addr) (k0 : ClassId) (k2 : ClassId) (c0 : Int32) (c1 : Int32) (c2 : Int32) (h0 : Heap) (n0 : Nat) (O0 : Old Z n0 h0) (GL : GF Z cS) (V_a0c : Arv Z h0 a0c k0 .char (3 : Int32) [(.int c0), (.int c1), (.int c2)] (.int 0)) (V_a2b : Arv Z h0 a2b k2 .byte (3 : Int32) [(.int 0), (.int 0), (.int 0)] (.int 0)) (g_a2b : n0 ≤ a2b) (hc0 : ¬ ((255 : Int32) < c0)) (hc1 : ¬ ((255 : Int32) < c1)) (hc2 : ¬ ((255 : Int32) < c2)) :
    MetFree l MN_0 (head1 (Jvm.Cond.code MN_0 jdk_52_method_21_code 7 (some .int) :: ws) ({ frames := 0, cells := 0, slots := 0, locals := 0 } : Room)) (fun a U => a = #[(.ref a0c), (.int 0), (.ref a2b), (.int 0), (.int 3)] ∧ Z.Warmed39 U.vm ∧ U.heap = h0) (fun _ _ _ _ _ => True) (fun _ U o U' => ∃ v L, o = .returned v ∧ Q_rmC2_3 n0 Z cS a0c a2b k0 k2 c0 c1 c2 h0 v U'.heap L ∧ FrameEnd U o U' L ({ frames := 0, cells := 0, slots := 0, locals := 0 } : Room).cells ({ frames := 0, cells := 0, slots := 0, locals := 0 } : Room).slots) := by
  refine MetFree.of_bodySF (plainFor_of_name pn) hisR ?_
  intro p e s m args below meth c s₁ Bd hml0 hP hK
  obtain ⟨rfl, hZ, hh⟩ := hP
  have hx := Bd.exec
  have hby := Bd.bytes
  have hml : c.maxLocals = 7 := hml0
  have hown : s.vm.findClass "java/lang/StringUTF16" = some m.cls := findClass_of_methodNamed Bd.named
  have hnm := (name_of_methodNamed Bd.named Bd.method).1
  have X0 : Stand p l e ({ frames := 0, cells := 0, slots := 0, locals := 0 } : Room) s m #[(.ref a0c), (.int 0), (.ref a2b), (.int 0), (.int 3)] below meth c s₁ [] 0 0 := Stand.of_body Bd
  have e0 : s₁.heap = h0 := by rw [← hh, Bd.state]; rfl
  have N0 := Fr.nil n0
  have pre0 : ∀ t, Steps p.tables e below (s₁.setTop (mkF m 0 #[.val (.ref a0c), .val (.int 0), .val (.ref a2b), .val (.int 0), .val (.int 3), .unset, .unset] [])) t → Steps p.tables e below (s₁.setTop (entryFrame m #[(.ref a0c), (.int 0), (.ref a2b), (.int 0), (.int 3)] 7)) t := fun t k => castTop (ef_rmC2_3 m a0c a2b) k
  have GL' := GL
  obtain ⟨GCS, GCP⟩ := GL'
  obtain ⟨cl1, Ar1, -, S1, N1_, H1, G1⟩ := id (V_a0c)
  have hin1 : ¬ ((0 : Int32) < 0 ∨ cl1.slots.size ≤ ((0 : Int32)).toNatClampNeg) := inb_of S1 ⟨(by decide), (by decide)⟩
  have hat1 : cl1.slots[((0 : Int32)).toNatClampNeg]? = some (.int c0) := H1.at hin1 rfl
  obtain ⟨cl2, Ar2, q2, S2, N2_, H2, G2⟩ := id (V_a2b)
  have hin2 : ¬ ((0 : Int32) < 0 ∨ cl2.slots.size ≤ ((0 : Int32)).toNatClampNeg) := inb_of S2 ⟨(by decide), (by decide)⟩
  obtain ⟨T2, h2, X2, e2, W2, st2⟩ := stB X0 hx hZ e0 Ar2 (j := (0 : Int32)) hin2 (g := (mkF m 31 #[.val (.ref a0c), .val (.int 0), .val (.ref a2b), .val (.int 0), .val (.int 3), .val (.int 0), .val (.int c0)] [(.int (c0.toInt8.toInt32)), (.int 0), (.ref a2b)])) rfl rfl (hb hby d12_31)
  have K2 : Keep h0 h2 [a2b] := (Keep.refl h0 [a2b]).wr W2 (Or.inl (List.mem_of_getElem? (i := 0) rfl))
  have O2 := O0.wr W2 g_a2b
  have N2 := Fr.snoc X2 N0 g_a2b
  have V2' : Arv Z h2 a2b k2 .byte (3 : Int32) [(.int ((c0.toInt8.toInt32)).toInt8.toInt32), (.int 0), (.int 0)] (.int 0) := Arv.set Ar2 q2 S2 N2_ H2 G2 (fits_nar_byte _) W2 0 rfl (Nat.le_of_ble_eq_true rfl)
  have V2 : Arv Z h2 a2b k2 .byte (3 : Int32) [(.int (c0.toInt8.toInt32)), (.int 0), (.int 0)] (.int 0) := by
    rw [own_b2 c0] at V2'
    exact V2'
  obtain ⟨cl3, Ar3, -, S3, N3_, H3, G3⟩ := id ((V_a0c.other W2 (own_neArv V_a0c V_a2b (by decide))))
  have hin3 : ¬ ((1 : Int32) < 0 ∨ cl3.slots.size ≤ ((1 : Int32)).toNatClampNeg) := inb_of S3 ⟨(by decide), (by decide)⟩
  have hat3 : cl3.slots[((1 : Int32)).toNatClampNeg]? = some (.int c1) := H3.at hin3 rfl
  obtain ⟨cl4, Ar4, q4, S4, N4_, H4, G4⟩ := id (V2)
  have hin4 : ¬ ((1 : Int32) < 0 ∨ cl4.slots.size ≤ ((1 : Int32)).toNatClampNeg) := inb_of S4 ⟨(by decide), (by decide)⟩
  obtain ⟨T4, h4, X4, e4, W4, st4⟩ := stB X2 hx hZ e2 Ar4 (j := (1 : Int32)) hin4 (g := (mkF m 31 #[.val (.ref a0c), .val (.int 1), .val (.ref a2b), .val (.int 1), .val (.int 3), .val (.int 1), .val (.int c1)] [(.int (c1.toInt8.toInt32)), (.int 1), (.ref a2b)])) rfl rfl (hb hby d12_31)
  have K4 : Keep h0 h4 [a2b] := K2.wr W4 (Or.inl (List.mem_of_getElem? (i := 0) rfl))
  have O4 := O2.wr W4 g_a2b
  have N4 := Fr.snoc X4 N2 g_a2b
  have V4' : Arv Z h4 a2b k2 .byte (3 : Int32) [(.int (c0.toInt8.toInt32)), (.int ((c1.toInt8.toInt32)).toInt8.toInt32), (.int 0)] (.int 0) := Arv.set Ar4 q4 S4 N4_ H4 G4 (fits_nar_byte _) W4 1 rfl (Nat.le_of_ble_eq_true rfl)
  have V4 : Arv Z h4 a2b k2 .byte (3 : Int32) [(.int (c0.toInt8.toInt32)), (.int (c1.toInt8.toInt32)), (.int 0)] (.int 0) := by
    rw [own_b2 c1] at V4'
    exact V4'
  obtain ⟨cl5, Ar5, -, S5, N5_, H5, G5⟩ := id (((V_a0c.other W2 (own_neArv V_a0c V_a2b (by decide))).other W4 (own_neArv V_a0c V_a2b (by decide))))
  have hin5 : ¬ ((2 : Int32) < 0 ∨ cl5.slots.size ≤ ((2 : Int32)).toNatClampNeg) := inb_of S5 ⟨(by decide), (by decide)⟩
  have hat5 : cl5.slots[((2 : Int32)).toNatClampNeg]? = some (.int c2) := H5.at hin5 rfl
  obtain ⟨cl6, Ar6, q6, S6, N6_, H6, G6⟩ := id (V4)
  have hin6 : ¬ ((2 : Int32) < 0 ∨ cl6.slots.size ≤ ((2 : Int32)).toNatClampNeg) := inb_of S6 ⟨(by decide), (by decide)⟩
  obtain ⟨T6, h6, X6, e6, W6, st6⟩ := stB X4 hx hZ e4 Ar6 (j := (2 : Int32)) hin6 (g := (mkF m 31 #[.val (.ref a0c), .val (.int 2), .val (.ref a2b), .val (.int 2), .val (.int 3), .val (.int 2), .val (.int c2)] [(.int (c2.toInt8.toInt32)), (.int 2), (.ref a2b)])) rfl rfl (hb hby d12_31)
  have K6 : Keep h0 h6 [a2b] := K4.wr W6 (Or.inl (List.mem_of_getElem? (i := 0) rfl))
  have O6 := O4.wr W6 g_a2b
  have N6 := Fr.snoc X6 N4 g_a2b
  have V6' : Arv Z h6 a2b k2 .byte (3 : Int32) [(.int (c0.toInt8.toInt32)), (.int (c1.toInt8.toInt32)), (.int ((c2.toInt8.toInt32)).toInt8.toInt32)] (.int 0) := Arv.set Ar6 q6 S6 N6_ H6 G6 (fits_nar_byte _) W6 2 rfl (Nat.le_of_ble_eq_true rfl)
  have V6 : Arv Z h6 a2b k2 .byte (3 : Int32) [(.int (c0.toInt8.toInt32)), (.int (c1.toInt8.toInt32)), (.int (c2.toInt8.toInt32))] (.int 0) := by
    rw [own_b2 c2] at V6'
    exact V6'
  obtain ⟨fs, hr, hrun, hended, hW, hsame⟩ := X6.leave (v := some (.int 3)) (fun h => by rw [Bd.returns] at h; cases h)
  refine ⟨_, _, pre0 _ ?_, hrun, hended, _, _, rfl, ?_, ⟨_, rfl⟩, hW, hsame.mono (by decide) (by decide)⟩
  · show Steps p.tables e below (s₁.setTop (mkF m 0 #[.val (.ref a0c), .val (.int 0), .val (.ref a2b), .val (.int 0), .val (.int 3), .unset, .unset] [])) _
    refine XS.iconst X0.here hx rfl (hb hby d12_0) ?_
    refine XS.istore X0.here hx rfl (hb hby d12_1) rfl (l' := #[.val (.ref a0c), .val (.int 0), .val (.ref a2b), .val (.int 0), .val (.int 3), .val (.int 0), .unset]) rfl ?_
    refine XS.iload X0.here hx rfl (hb hby d12_3) rfl ?_
    refine XS.iload X0.here hx rfl (hb hby d12_5) rfl ?_
    show Steps p.tables e below (s₁.setTop (mkF m 7 #[.val (.ref a0c), .val (.int 0), .val (.ref a2b), .val (.int 0), .val (.int 3), .val (.int 0), .unset] [(.int 3), (.int 0)])) _
    refine XS.icmpNo X0.here hx rfl (hb hby d12_7) rfl (tlt (by decide : (0 : Int32) < (3 : Int32))).2.1 ?_
    refine XS.aloadN X0.here hx rfl (hb hby d12_10) rfl rfl ?_
    refine XS.iloadN X0.here hx rfl (hb hby d12_11) rfl ?_
    show Steps p.tables e below (s₁.setTop (mkF m 12 #[.val (.ref a0c), .val (.int 0), .val (.ref a2b), .val (.int 0), .val (.int 3), .val (.int 0), .unset] [(.int 0), (.ref a0c)])) _
    refine X0.caload hx (j := (0 : Int32)) (v := (.int c0)) (by rw [e0]; exact Ar1.1) (State.isArrayOf_alike hZ.alike Ar1.2.1) Ar1.2.2 hin1 hat1 (g := (mkF m 12 #[.val (.ref a0c), .val (.int 0), .val (.ref a2b), .val (.int 0), .val (.int 3), .val (.int 0), .unset] [(.int 0), (.ref a0c)])) rfl rfl (hb hby d12_12) _ ?_
    show Steps p.tables e below (s₁.setTop (mkF m 13 #[.val (.ref a0c), .val (.int 0), .val (.ref a2b), .val (.int 0), .val (.int 3), .val (.int 0), .unset] [(.int c0)])) _
    refine XS.istore X0.here hx rfl (hb hby d12_13) rfl (l' := #[.val (.ref a0c), .val (.int 0), .val (.ref a2b), .val (.int 0), .val (.int 3), .val (.int 0), .val (.int c0)]) rfl ?_
    refine XS.iload X0.here hx rfl (hb hby d12_15) rfl ?_
    refine XS.sipush X0.here hx rfl (hb hby d12_17) ?_
    refine XS.icmpYes X0.here hx rfl (pc0 := 20) (pc' := 26) rfl (hb hby d12_20) rfl (flt hc0).2.2.2 (by decide) (by decide) ?_
    show Steps p.tables e below (s₁.setTop (mkF m 26 #[.val (.ref a0c), .val (.int 0), .val (.ref a2b), .val (.int 0), .val (.int 3), .val (.int 0), .val (.int c0)] [])) _
    refine XS.aloadN X0.here hx rfl (hb hby d12_26) rfl rfl ?_
    refine XS.iloadN X0.here hx rfl (hb hby d12_27) rfl ?_
    refine XS.iload X0.here hx rfl (hb hby d12_28) rfl ?_
    refine XS.i2b X0.here hx rfl (hb hby d12_30) rfl ?_
    show Steps p.tables e below (s₁.setTop (mkF m 31 #[.val (.ref a0c), .val (.int 0), .val (.ref a2b), .val (.int 0), .val (.int 3), .val (.int 0), .val (.int c0)] [(.int (c0.toInt8.toInt32)), (.int 0), (.ref a2b)])) _
    refine st2 _ ?_
    show Steps p.tables e below (T2.setTop (mkF m 32 #[.val (.ref a0c), .val (.int 0), .val (.ref a2b), .val (.int 0), .val (.int 3), .val (.int 0), .val (.int c0)] [])) _
    refine XS.iinc X2.here hx rfl (hb hby d12_32) rfl (l' := #[.val (.ref a0c), .val (.int 1), .val (.ref a2b), .val (.int 0), .val (.int 3), .val (.int 0), .val (.int c0)]) rfl ?_
    refine XS.iinc X2.here hx rfl (hb hby d12_35) rfl (l' := #[.val (.ref a0c), .val (.int 1), .val (.ref a2b), .val (.int 1), .val (.int 3), .val (.int 0), .val (.int c0)]) rfl ?_
    refine XS.iinc X2.here hx rfl (hb hby d12_38) rfl (l' := #[.val (.ref a0c), .val (.int 1), .val (.ref a2b), .val (.int 1), .val (.int 3), .val (.int 1), .val (.int c0)]) rfl ?_
    refine XS.goto X2.here hx rfl (pc0 := 41) (pc' := 3) rfl (hb hby d12_41) (by decide) (by decide) ?_
    show Steps p.tables e below (T2.setTop (mkF m 3 #[.val (.ref a0c), .val (.int 1), .val (.ref a2b), .val (.int 1), .val (.int 3), .val (.int 1), .val (.int c0)] [])) _
    refine XS.iload X2.here hx rfl (hb hby d12_3) rfl ?_
    refine XS.iload X2.here hx rfl (hb hby d12_5) rfl ?_
    refine XS.icmpNo X2.here hx rfl (hb hby d12_7) rfl (tlt (by decide : (1 : Int32) < (3 : Int32))).2.1 ?_
    refine XS.aloadN X2.here hx rfl (hb hby d12_10) rfl rfl ?_
    show Steps p.tables e below (T2.setTop (mkF m 11 #[.val (.ref a0c), .val (.int 1), .val (.ref a2b), .val (.int 1), .val (.int 3), .val (.int 1), .val (.int c0)] [(.ref a0c)])) _
    refine XS.iloadN X2.here hx rfl (hb hby d12_11) rfl ?_
    show Steps p.tables e below (T2.setTop (mkF m 12 #[.val (.ref a0c), .val (.int 1), .val (.ref a2b), .val (.int 1), .val (.int 3), .val (.int 1), .val (.int c0)] [(.int 1), (.ref a0c)])) _
    refine X2.caload hx (j := (1 : Int32)) (v := (.int c1)) (by rw [e2]; exact Ar3.1) (State.isArrayOf_alike hZ.alike Ar3.2.1) Ar3.2.2 hin3 hat3 (g := (mkF m 12 #[.val (.ref a0c), .val (.int 1), .val (.ref a2b), .val (.int 1), .val (.int 3), .val (.int 1), .val (.int c0)] [(.int 1), (.ref a0c)])) rfl rfl (hb hby d12_12) _ ?_
    show Steps p.tables e below (T2.setTop (mkF m 13 #[.val (.ref a0c), .val (.int 1), .val (.ref a2b), .val (.int 1), .val (.int 3), .val (.int 1), .val (.int c0)] [(.int c1)])) _
    refine XS.istore X2.here hx rfl (hb hby d12_13) rfl (l' := #[.val (.ref a0c), .val (.int 1), .val (.ref a2b), .val (.int 1), .val (.int 3), .val (.int 1), .val (.int c1)]) rfl ?_
    refine XS.iload X2.here hx rfl (hb hby d12_15) rfl ?_
    refine XS.sipush X2.here hx rfl (hb hby d12_17) ?_
    refine XS.icmpYes X2.here hx rfl (pc0 := 20) (pc' := 26) rfl (hb hby d12_20) rfl (flt hc1).2.2.2 (by decide) (by decide) ?_
    show Steps p.tables e below (T2.setTop (mkF m 26 #[.val (.ref a0c), .val (.int 1), .val (.ref a2b), .val (.int 1), .val (.int 3), .val (.int 1), .val (.int c1)] [])) _
    refine XS.aloadN X2.here hx rfl (hb hby d12_26) rfl rfl ?_
    refine XS.iloadN X2.here hx rfl (hb hby d12_27) rfl ?_
    refine XS.iload X2.here hx rfl (hb hby d12_28) rfl ?_
    refine XS.i2b X2.here hx rfl (hb hby d12_30) rfl ?_
    show Steps p.tables e below (T2.setTop (mkF m 31 #[.val (.ref a0c), .val (.int 1), .val (.ref a2b), .val (.int 1), .val (.int 3), .val (.int 1), .val (.int c1)] [(.int (c1.toInt8.toInt32)), (.int 1), (.ref a2b)])) _
    refine st4 _ ?_
    show Steps p.tables e below (T4.setTop (mkF m 32 #[.val (.ref a0c), .val (.int 1), .val (.ref a2b), .val (.int 1), .val (.int 3), .val (.int 1), .val (.int c1)] [])) _
    refine XS.iinc X4.here hx rfl (hb hby d12_32) rfl (l' := #[.val (.ref a0c), .val (.int 2), .val (.ref a2b), .val (.int 1), .val (.int 3), .val (.int 1), .val (.int c1)]) rfl ?_
    refine XS.iinc X4.here hx rfl (hb hby d12_35) rfl (l' := #[.val (.ref a0c), .val (.int 2), .val (.ref a2b), .val (.int 2), .val (.int 3), .val (.int 1), .val (.int c1)]) rfl ?_
    refine XS.iinc X4.here hx rfl (hb hby d12_38) rfl (l' := #[.val (.ref a0c), .val (.int 2), .val (.ref a2b), .val (.int 2), .val (.int 3), .val (.int 2), .val (.int c1)]) rfl ?_
    refine XS.goto X4.here hx rfl (pc0 := 41) (pc' := 3) rfl (hb hby d12_41) (by decide) (by decide) ?_
    show Steps p.tables e below (T4.setTop (mkF m 3 #[.val (.ref a0c), .val (.int 2), .val (.ref a2b), .val (.int 2), .val (.int 3), .val (.int 2), .val (.int c1)] [])) _
    refine XS.iload X4.here hx rfl (hb hby d12_3) rfl ?_
    refine XS.iload X4.here hx rfl (hb hby d12_5) rfl ?_
    refine XS.icmpNo X4.here hx rfl (hb hby d12_7) rfl (tlt (by decide : (2 : Int32) < (3 : Int32))).2.1 ?_
    refine XS.aloadN X4.here hx rfl (hb hby d12_10) rfl rfl ?_
    show Steps p.tables e below (T4.setTop (mkF m 11 #[.val (.ref a0c), .val (.int 2), .val (.ref a2b), .val (.int 2), .val (.int 3), .val (.int 2), .val (.int c1)] [(.ref a0c)])) _
    refine XS.iloadN X4.here hx rfl (hb hby d12_11) rfl ?_
    show Steps p.tables e below (T4.setTop (mkF m 12 #[.val (.ref a0c), .val (.int 2), .val (.ref a2b), .val (.int 2), .val (.int 3), .val (.int 2), .val (.int c1)] [(.int 2), (.ref a0c)])) _
    refine X4.caload hx (j := (2 : Int32)) (v := (.int c2)) (by rw [e4]; exact Ar5.1) (State.isArrayOf_alike hZ.alike Ar5.2.1) Ar5.2.2 hin5 hat5 (g := (mkF m 12 #[.val (.ref a0c), .val (.int 2), .val (.ref a2b), .val (.int 2), .val (.int 3), .val (.int 2), .val (.int c1)] [(.int 2), (.ref a0c)])) rfl rfl (hb hby d12_12) _ ?_
    show Steps p.tables e below (T4.setTop (mkF m 13 #[.val (.ref a0c), .val (.int 2), .val (.ref a2b), .val (.int 2), .val (.int 3), .val (.int 2), .val (.int c1)] [(.int c2)])) _
    refine XS.istore X4.here hx rfl (hb hby d12_13) rfl (l' := #[.val (.ref a0c), .val (.int 2), .val (.ref a2b), .val (.int 2), .val (.int 3), .val (.int 2), .val (.int c2)]) rfl ?_
    refine XS.iload X4.here hx rfl (hb hby d12_15) rfl ?_
    refine XS.sipush X4.here hx rfl (hb hby d12_17) ?_
    refine XS.icmpYes X4.here hx rfl (pc0 := 20) (pc' := 26) rfl (hb hby d12_20) rfl (flt hc2).2.2.2 (by decide) (by decide) ?_
    show Steps p.tables e below (T4.setTop (mkF m 26 #[.val (.ref a0c), .val (.int 2), .val (.ref a2b), .val (.int 2), .val (.int 3), .val (.int 2), .val (.int c2)] [])) _
    refine XS.aloadN X4.here hx rfl (hb hby d12_26) rfl rfl ?_
    refine XS.iloadN X4.here hx rfl (hb hby d12_27) rfl ?_
    refine XS.iload X4.here hx rfl (hb hby d12_28) rfl ?_
    refine XS.i2b X4.here hx rfl (hb hby d12_30) rfl ?_
    show Steps p.tables e below (T4.setTop (mkF m 31 #[.val (.ref a0c), .val (.int 2), .val (.ref a2b), .val (.int 2), .val (.int 3), .val (.int 2), .val (.int c2)] [(.int (c2.toInt8.toInt32)), (.int 2), (.ref a2b)])) _
    refine st6 _ ?_
    show Steps p.tables e below (T6.setTop (mkF m 32 #[.val (.ref a0c), .val (.int 2), .val (.ref a2b), .val (.int 2), .val (.int 3), .val (.int 2), .val (.int c2)] [])) _
    refine XS.iinc X6.here hx rfl (hb hby d12_32) rfl (l' := #[.val (.ref a0c), .val (.int 3), .val (.ref a2b), .val (.int 2), .val (.int 3), .val (.int 2), .val (.int c2)]) rfl ?_
    refine XS.iinc X6.here hx rfl (hb hby d12_35) rfl (l' := #[.val (.ref a0c), .val (.int 3), .val (.ref a2b), .val (.int 3), .val (.int 3), .val (.int 2), .val (.int c2)]) rfl ?_
    refine XS.iinc X6.here hx rfl (hb hby d12_38) rfl (l' := #[.val (.ref a0c), .val (.int 3), .val (.ref a2b), .val (.int 3), .val (.int 3), .val (.int 3), .val (.int c2)]) rfl ?_
    refine XS.goto X6.here hx rfl (pc0 := 41) (pc' := 3) rfl (hb hby d12_41) (by decide) (by decide) ?_
    show Steps p.tables e below (T6.setTop (mkF m 3 #[.val (.ref a0c), .val (.int 3), .val (.ref a2b), .val (.int 3), .val (.int 3), .val (.int 3), .val (.int c2)] [])) _
    refine XS.iload X6.here hx rfl (hb hby d12_3) rfl ?_
    refine XS.iload X6.here hx rfl (hb hby d12_5) rfl ?_
    refine XS.icmpYes X6.here hx rfl (pc0 := 7) (pc' := 44) rfl (hb hby d12_7) rfl (flt (by decide : ¬ ((3 : Int32) < (3 : Int32)))).2.1 (by decide) (by decide) ?_
    refine XS.iload X6.here hx rfl (hb hby d12_44) rfl ?_
    show Steps p.tables e below (T6.setTop (mkF m 46 #[.val (.ref a0c), .val (.int 3), .val (.ref a2b), .val (.int 3), .val (.int 3), .val (.int 3), .val (.int c2)] [(.int 3)])) _
    exact retI X6 hx Bd.returns (hb hby d12_46) hr
  · show Q_rmC2_3 n0 Z cS a0c a2b k0 k2 c0 c1 c2 h0 _ T6.heap _
    rw [e6]
    exact ⟨rfl, N6, K6, V6⟩
theorem ef_rmC1_3 (m : MethodId) (a0c : Addr) : entryFrame m #[(.ref a0c), (.int 0), (.int 3)] 6 = mkF m 0 #[.val (.ref a0c), .val (.int 0), .val (.int 3), .unset, .unset, .unset] [] := by first | (simp [entryFrame, mkF, argsToLocals, Value.category]; done) | rfl
def Q_rmC1_3 (n0 : Nat) (Z : State) (cS : Int32) (a0c : Addr) (k0 : ClassId) (c0 : Int32) (c1 : Int32) (c2 : Int32) (h0 : Heap) (v : Option Value) (h : Heap) (L : List Loc) : Prop := ∃ b : Addr, ∃ kb : ClassId, v = some (.ref b) ∧ Fr n0 L ∧ Keep h0 h [] ∧ (h0.size ≤ b) ∧ (Exa Z h b "[B") ∧ (Arv Z h b kb .byte (3 : Int32) [(.int (c0.toInt8.toInt32)), (.int (c1.toInt8.toInt32)), (.int (c2.toInt8.toInt32))] (.int 0))
set_option maxRecDepth 65536 in
set_option maxHeartbeats 40000000 in
theorem rmC1_3 (l : Launch) (Z : State) (a0 : Array Value) (hw : ∀ d ∈ tables_1, d.before a0 Z = true) (ws : List Jvm.Cond) (cS : Int32) (a0c : Addr) (k0 : ClassId) (c0 : Int32) (c1 : Int32) (c2 : Int32) (h0 : Heap) (n0 : Nat) (O0 : Old Z n0 h0) (GL : GF Z cS) (V_a0c : Arv Z h0 a0c k0 .char (3 : Int32) [(.int c0), (.int c1), (.int c2)] (.int 0)) (hc0 : ¬ ((255 : Int32) < c0)) (hc1 : ¬ ((255 : Int32) < c1)) (hc2 : ¬ ((255 : Int32) < c2)) :
    MetFree l MN_1 (head1 (Jvm.Cond.code MN_1 jdk_52_method_16_code 6 (some (.array .byte)) :: ws) ({ frames := 1, cells := 1, slots := 3, locals := 18 } : Room)) (fun a U => a = #[(.ref a0c), (.int 0), (.int 3)] ∧ Z.Warmed39 U.vm ∧ U.heap = h0) (fun _ _ _ _ _ => True) (fun _ U o U' => ∃ v L, o = .returned v ∧ Q_rmC1_3 n0 Z cS a0c k0 c0 c1 c2 h0 v U'.heap L ∧ FrameEnd U o U' L ({ frames := 1, cells := 1, slots := 3, locals := 18 } : Room).cells ({ frames := 1, cells := 1, slots := 3, locals := 18 } : Room).slots) := by
  refine MetFree.of_bodySF (plainFor_of_name pn) hisR ?_
  intro p e s m args below meth c s₁ Bd hml0 hP hK
  obtain ⟨rfl, hZ, hh⟩ := hP
  have hx := Bd.exec
  have hby := Bd.bytes
  have hml : c.maxLocals = 6 := hml0
  have hown : s.vm.findClass "java/lang/StringUTF16" = some m.cls := findClass_of_methodNamed Bd.named
  have hnm := (name_of_methodNamed Bd.named Bd.method).1
  have X0 : Stand p l e ({ frames := 1, cells := 1, slots := 3, locals := 18 } : Room) s m #[(.ref a0c), (.int 0), (.int 3)] below meth c s₁ [] 0 0 := Stand.of_body Bd
  have e0 : s₁.heap = h0 := by rw [← hh, Bd.state]; rfl
  have N0 := Fr.nil n0
  have pre0 : ∀ t, Steps p.tables e below (s₁.setTop (mkF m 0 #[.val (.ref a0c), .val (.int 0), .val (.int 3), .unset, .unset, .unset] [])) t → Steps p.tables e below (s₁.setTop (entryFrame m #[(.ref a0c), (.int 0), (.int 3)] 6)) t := fun t k => castTop (ef_rmC1_3 m a0c) k
  have GL' := GL
  obtain ⟨GCS, GCP⟩ := GL'
  obtain ⟨T1, h1, k1, X1, e1, E1, A1, A1', st1⟩ := newPE X0 hx hZ (Wd hw 23 rfl) e0 (g := (mkF m 1 #[.val (.ref a0c), .val (.int 0), .val (.int 3), .unset, .unset, .unset] [(.int 3)])) rfl (hb hby d11_1) rfl (by decide) (cap := 3) (by decide) (by decide) (by decide) (by decide) (ad := "[B") rfl
  obtain ⟨b1, g1⟩ : ∃ z, z = h0.size := ⟨_, rfl⟩
  rw [← g1] at A1 A1' st1
  have g_b1 : n0 ≤ b1 := Nat.le_trans (own_sz O0) (Nat.le_of_eq g1.symm)
  have sz_b1 : h0.size ≤ b1 := Nat.le_trans (Keep.refl h0 []).1 (Nat.le_of_eq g1.symm)
  have K1 : Keep h0 h1 [] := (Keep.refl h0 []).ext E1
  have O1 := O0.ext E1
  have V_b1 : Arv Z h1 b1 k1 .byte (3 : Int32) [(.int 0), (.int 0), (.int 0)] (.int 0) := (Arv.new A1 (by decide)).pad (pad_rep [] (.int 0) 3)
  obtain ⟨_, _, ⟨T2, L2, k2, n2⟩, -, X2, ⟨Lc2, hQ2, l2, y2, z2⟩, st2⟩ := Jvm.LawKit.callS X1 hx (y := MN_0) hown (mvT hZ (Wd hw 61 rfl)) (mvT hZ (Wd hw 62 rfl)) (mvT hZ (Wd hw 59 rfl)) (mvT hZ (Wd hw 63 rfl)) (by decide) (backOf (W := 0) (rmC2_3 l Z a0 hw [] cS (a0c) (b1) (k0) (k1) (c0) (c1) (c2) (h1) n0 O1 GL (V_a0c.ext E1) V_b1 g_b1 hc0 hc1 hc2) hZ (Wd hw 63 rfl) (Wd hw 59 rfl) (by decide) (by decide)) (g := (mkF m 9 #[.val (.ref a0c), .val (.int 0), .val (.int 3), .val (.ref b1), .unset, .unset] [(.int 3), (.int 0), (.ref b1), (.int 0), (.ref a0c)])) rfl (by rw [hml]; rfl) (argsL := [(.ref a0c), (.int 0), (.ref b1), (.int 0), (.int 3)]) (rest := []) (lenOf pd rfl) rfl (by show 2 * 0 + _ ≤ _; exact Nat.le_of_eq rfl) (hb hby d11_9) (fun _ _ => ⟨rfl, e1, (by decide : 1 + 0 ≤ _), (by decide : 3 + 0 ≤ _)⟩)
  dsimp only [Pt.U, Pt.locs, Pt.cells, Pt.slots] at X2 l2 y2 z2 st2 hQ2
  subst l2 y2 z2
  obtain ⟨rfl, N2q, Kc2, P2_0⟩ := hQ2
  have K2 : Keep h0 T2.heap [] := K1.trans Kc2 (allS (Or.inr sz_b1) all0)
  have O2 := O1.keep Kc2 (allS g_b1 all0)
  have N2 := Fr.app N0 N2q
  obtain ⟨fs, hr, hrun, hended, hW, hsame⟩ := X2.leave (v := some (.ref b1)) (fun h => by rw [Bd.returns] at h; cases h)
  refine ⟨_, _, pre0 _ ?_, hrun, hended, _, _, rfl, ?_, ⟨_, rfl⟩, hW, hsame.mono (by decide) (by decide)⟩
  · show Steps p.tables e below (s₁.setTop (mkF m 0 #[.val (.ref a0c), .val (.int 0), .val (.int 3), .unset, .unset, .unset] [])) _
    refine XS.iloadN X0.here hx rfl (hb hby d11_0) rfl ?_
    show Steps p.tables e below (s₁.setTop (mkF m 1 #[.val (.ref a0c), .val (.int 0), .val (.int 3), .unset, .unset, .unset] [(.int 3)])) _
    refine st1 _ ?_
    show Steps p.tables e below (T1.setTop (mkF m 3 #[.val (.ref a0c), .val (.int 0), .val (.int 3), .unset, .unset, .unset] [(.ref b1)])) _
    refine XS.astoreN X1.here hx rfl (hb hby d11_3) rfl rfl (l' := #[.val (.ref a0c), .val (.int 0), .val (.int 3), .val (.ref b1), .unset, .unset]) rfl ?_
    refine XS.aloadN X1.here hx rfl (hb hby d11_4) rfl rfl ?_
    refine XS.iloadN X1.here hx rfl (hb hby d11_5) rfl ?_
    refine XS.aloadN X1.here hx rfl (hb hby d11_6) rfl rfl ?_
    show Steps p.tables e below (T1.setTop (mkF m 7 #[.val (.ref a0c), .val (.int 0), .val (.int 3), .val (.ref b1), .unset, .unset] [(.ref b1), (.int 0), (.ref a0c)])) _
    refine XS.iconst X1.here hx rfl (hb hby d11_7) ?_
    refine XS.iloadN X1.here hx rfl (hb hby d11_8) rfl ?_
    show Steps p.tables e below (T1.setTop (mkF m 9 #[.val (.ref a0c), .val (.int 0), .val (.int 3), .val (.ref b1), .unset, .unset] [(.int 3), (.int 0), (.ref b1), (.int 0), (.ref a0c)])) _
    refine st2 _ ?_
    show Steps p.tables e below (T2.setTop (mkF m 12 #[.val (.ref a0c), .val (.int 0), .val (.int 3), .val (.ref b1), .unset, .unset] [(.int 3)])) _
    refine XS.istore X2.here hx rfl (hb hby d11_12) rfl (l' := #[.val (.ref a0c), .val (.int 0), .val (.int 3), .val (.ref b1), .val (.int 3), .unset]) rfl ?_
    refine XS.iload X2.here hx rfl (hb hby d11_14) rfl ?_
    refine XS.iloadN X2.here hx rfl (hb hby d11_16) rfl ?_
    refine XS.icmpYes X2.here hx rfl (pc0 := 17) (pc' := 57) rfl (hb hby d11_17) rfl (teq (by decide : (3 : Int32) = (3 : Int32))).1 (by decide) (by decide) ?_
    show Steps p.tables e below (T2.setTop (mkF m 57 #[.val (.ref a0c), .val (.int 0), .val (.int 3), .val (.ref b1), .val (.int 3), .unset] [])) _
    refine XS.aloadN X2.here hx rfl (hb hby d11_57) rfl rfl ?_
    show Steps p.tables e below (T2.setTop (mkF m 58 #[.val (.ref a0c), .val (.int 0), .val (.int 3), .val (.ref b1), .val (.int 3), .unset] [(.ref b1)])) _
    jvm_step X2.here [X2.here.top, hx, (hb hby d11_58), X2.method', Bd.returns, Value.isRef, FieldType.isReference]
    first | (intro acts; rw [hr _ acts rfl rfl rfl]) | rw [hr _ _ rfl rfl rfl]
    exact Steps.refl _
  · show Q_rmC1_3 n0 Z cS a0c k0 c0 c1 c2 h0 _ T2.heap _
    exact ⟨b1, k1, rfl, N2, K2, sz_b1, (A1'.keep Kc2), P2_0⟩
theorem ef_rmC2_4 (m : MethodId) (a0c : Addr) (a2b : Addr) : entryFrame m #[(.ref a0c), (.int 0), (.ref a2b), (.int 0), (.int 4)] 7 = mkF m 0 #[.val (.ref a0c), .val (.int 0), .val (.ref a2b), .val (.int 0), .val (.int 4), .unset, .unset] [] := by first | (simp [entryFrame, mkF, argsToLocals, Value.category]; done) | rfl
def Q_rmC2_4 (n0 : Nat) (Z : State) (cS : Int32) (a0c : Addr) (a2b : Addr) (k0 : ClassId) (k2 : ClassId) (c0 : Int32) (c1 : Int32) (c2 : Int32) (c3 : Int32) (h0 : Heap) (v : Option Value) (h : Heap) (L : List Loc) : Prop := v = some (.int 4) ∧ Fr n0 L ∧ Keep h0 h [a2b] ∧ (Arv Z h a2b k2 .byte (4 : Int32) [(.int (c0.toInt8.toInt32)), (.int (c1.toInt8.toInt32)), (.int (c2.toInt8.toInt32)), (.int (c3.toInt8.toInt32))] (.int 0))
set_option maxRecDepth 65536 in
set_option maxHeartbeats 40000000 in
theorem rmC2_4 (l : Launch) (Z : State) (a0 : Array Value) (hw : ∀ d ∈ tables_1, d.before a0 Z = true) (ws : List Jvm.Cond) (cS : Int32) (a0c : Addr) (a2b : Addr) (k0 : ClassId) (k2 : ClassId) (c0 : Int32) (c1 : Int32) (c2 : Int32) (c3 : Int32) (h0 : Heap) (n0 : Nat) (O0 : Old Z n0 h0) (GL : GF Z cS) (V_a0c : Arv Z h0 a0c k0 .char (4 : Int32) [(.int c0), (.int c1), (.int c2), (.int c3)] (.int 0)) (V_a2b : Arv Z h0 a2b k2 .byte (4 : Int32) [(.int 0), (.int 0), (.int 0), (.int 0)] (.int 0)) (g_a2b : n0 ≤ a2b) (hc0 : ¬ ((255 : Int32) < c0)) (hc1 : ¬ ((255 : Int32) < c1)) (hc2 : ¬ ((255 : Int32) < c2)) (hc3 : ¬ ((255 : Int32) < c3)) :
    MetFree l MN_0 (head1 (Jvm.Cond.code MN_0 jdk_52_method_21_code 7 (some .int) :: ws) ({ frames := 0, cells := 0, slots := 0, locals := 0 } : Room)) (fun a U => a = #[(.ref a0c), (.int 0), (.ref a2b), (.int 0), (.int 4)] ∧ Z.Warmed39 U.vm ∧ U.heap = h0) (fun _ _ _ _ _ => True) (fun _ U o U' => ∃ v L, o = .returned v ∧ Q_rmC2_4 n0 Z cS a0c a2b k0 k2 c0 c1 c2 c3 h0 v U'.heap L ∧ FrameEnd U o U' L ({ frames := 0, cells := 0, slots := 0, locals := 0 } : Room).cells ({ frames := 0, cells := 0, slots := 0, locals := 0 } : Room).slots) := by
  refine MetFree.of_bodySF (plainFor_of_name pn) hisR ?_
  intro p e s m args below meth c s₁ Bd hml0 hP hK
  obtain ⟨rfl, hZ, hh⟩ := hP
  have hx := Bd.exec
  have hby := Bd.bytes
  have hml : c.maxLocals = 7 := hml0
  have hown : s.vm.findClass "java/lang/StringUTF16" = some m.cls := findClass_of_methodNamed Bd.named
  have hnm := (name_of_methodNamed Bd.named Bd.method).1
  have X0 : Stand p l e ({ frames := 0, cells := 0, slots := 0, locals := 0 } : Room) s m #[(.ref a0c), (.int 0), (.ref a2b), (.int 0), (.int 4)] below meth c s₁ [] 0 0 := Stand.of_body Bd
  have e0 : s₁.heap = h0 := by rw [← hh, Bd.state]; rfl
  have N0 := Fr.nil n0
  have pre0 : ∀ t, Steps p.tables e below (s₁.setTop (mkF m 0 #[.val (.ref a0c), .val (.int 0), .val (.ref a2b), .val (.int 0), .val (.int 4), .unset, .unset] [])) t → Steps p.tables e below (s₁.setTop (entryFrame m #[(.ref a0c), (.int 0), (.ref a2b), (.int 0), (.int 4)] 7)) t := fun t k => castTop (ef_rmC2_4 m a0c a2b) k
  have GL' := GL
  obtain ⟨GCS, GCP⟩ := GL'
  obtain ⟨cl1, Ar1, -, S1, N1_, H1, G1⟩ := id (V_a0c)
  have hin1 : ¬ ((0 : Int32) < 0 ∨ cl1.slots.size ≤ ((0 : Int32)).toNatClampNeg) := inb_of S1 ⟨(by decide), (by decide)⟩
  have hat1 : cl1.slots[((0 : Int32)).toNatClampNeg]? = some (.int c0) := H1.at hin1 rfl
  obtain ⟨cl2, Ar2, q2, S2, N2_, H2, G2⟩ := id (V_a2b)
  have hin2 : ¬ ((0 : Int32) < 0 ∨ cl2.slots.size ≤ ((0 : Int32)).toNatClampNeg) := inb_of S2 ⟨(by decide), (by decide)⟩
  obtain ⟨T2, h2, X2, e2, W2, st2⟩ := stB X0 hx hZ e0 Ar2 (j := (0 : Int32)) hin2 (g := (mkF m 31 #[.val (.ref a0c), .val (.int 0), .val (.ref a2b), .val (.int 0), .val (.int 4), .val (.int 0), .val (.int c0)] [(.int (c0.toInt8.toInt32)), (.int 0), (.ref a2b)])) rfl rfl (hb hby d12_31)
  have K2 : Keep h0 h2 [a2b] := (Keep.refl h0 [a2b]).wr W2 (Or.inl (List.mem_of_getElem? (i := 0) rfl))
  have O2 := O0.wr W2 g_a2b
  have N2 := Fr.snoc X2 N0 g_a2b
  have V2' : Arv Z h2 a2b k2 .byte (4 : Int32) [(.int ((c0.toInt8.toInt32)).toInt8.toInt32), (.int 0), (.int 0), (.int 0)] (.int 0) := Arv.set Ar2 q2 S2 N2_ H2 G2 (fits_nar_byte _) W2 0 rfl (Nat.le_of_ble_eq_true rfl)
  have V2 : Arv Z h2 a2b k2 .byte (4 : Int32) [(.int (c0.toInt8.toInt32)), (.int 0), (.int 0), (.int 0)] (.int 0) := by
    rw [own_b2 c0] at V2'
    exact V2'
  obtain ⟨cl3, Ar3, -, S3, N3_, H3, G3⟩ := id ((V_a0c.other W2 (own_neArv V_a0c V_a2b (by decide))))
  have hin3 : ¬ ((1 : Int32) < 0 ∨ cl3.slots.size ≤ ((1 : Int32)).toNatClampNeg) := inb_of S3 ⟨(by decide), (by decide)⟩
  have hat3 : cl3.slots[((1 : Int32)).toNatClampNeg]? = some (.int c1) := H3.at hin3 rfl
  obtain ⟨cl4, Ar4, q4, S4, N4_, H4, G4⟩ := id (V2)
  have hin4 : ¬ ((1 : Int32) < 0 ∨ cl4.slots.size ≤ ((1 : Int32)).toNatClampNeg) := inb_of S4 ⟨(by decide), (by decide)⟩
  obtain ⟨T4, h4, X4, e4, W4, st4⟩ := stB X2 hx hZ e2 Ar4 (j := (1 : Int32)) hin4 (g := (mkF m 31 #[.val (.ref a0c), .val (.int 1), .val (.ref a2b), .val (.int 1), .val (.int 4), .val (.int 1), .val (.int c1)] [(.int (c1.toInt8.toInt32)), (.int 1), (.ref a2b)])) rfl rfl (hb hby d12_31)
  have K4 : Keep h0 h4 [a2b] := K2.wr W4 (Or.inl (List.mem_of_getElem? (i := 0) rfl))
  have O4 := O2.wr W4 g_a2b
  have N4 := Fr.snoc X4 N2 g_a2b
  have V4' : Arv Z h4 a2b k2 .byte (4 : Int32) [(.int (c0.toInt8.toInt32)), (.int ((c1.toInt8.toInt32)).toInt8.toInt32), (.int 0), (.int 0)] (.int 0) := Arv.set Ar4 q4 S4 N4_ H4 G4 (fits_nar_byte _) W4 1 rfl (Nat.le_of_ble_eq_true rfl)
  have V4 : Arv Z h4 a2b k2 .byte (4 : Int32) [(.int (c0.toInt8.toInt32)), (.int (c1.toInt8.toInt32)), (.int 0), (.int 0)] (.int 0) := by
    rw [own_b2 c1] at V4'
    exact V4'
  obtain ⟨cl5, Ar5, -, S5, N5_, H5, G5⟩ := id (((V_a0c.other W2 (own_neArv V_a0c V_a2b (by decide))).other W4 (own_neArv V_a0c V_a2b (by decide))))
  have hin5 : ¬ ((2 : Int32) < 0 ∨ cl5.slots.size ≤ ((2 : Int32)).toNatClampNeg) := inb_of S5 ⟨(by decide), (by decide)⟩
  have hat5 : cl5.slots[((2 : Int32)).toNatClampNeg]? = some (.int c2) := H5.at hin5 rfl
  obtain ⟨cl6, Ar6, q6, S6, N6_, H6, G6⟩ := id (V4)
  have hin6 : ¬ ((2 : Int32) < 0 ∨ cl6.slots.size ≤ ((2 : Int32)).toNatClampNeg) := inb_of S6 ⟨(by decide), (by decide)⟩
  obtain ⟨T6, h6, X6, e6, W6, st6⟩ := stB X4 hx hZ e4 Ar6 (j := (2 : Int32)) hin6 (g := (mkF m 31 #[.val (.ref a0c), .val (.int 2), .val (.ref a2b), .val (.int 2), .val (.int 4), .val (.int 2), .val (.int c2)] [(.int (c2.toInt8.toInt32)), (.int 2), (.ref a2b)])) rfl rfl (hb hby d12_31)
  have K6 : Keep h0 h6 [a2b] := K4.wr W6 (Or.inl (List.mem_of_getElem? (i := 0) rfl))
  have O6 := O4.wr W6 g_a2b
  have N6 := Fr.snoc X6 N4 g_a2b
  have V6' : Arv Z h6 a2b k2 .byte (4 : Int32) [(.int (c0.toInt8.toInt32)), (.int (c1.toInt8.toInt32)), (.int ((c2.toInt8.toInt32)).toInt8.toInt32), (.int 0)] (.int 0) := Arv.set Ar6 q6 S6 N6_ H6 G6 (fits_nar_byte _) W6 2 rfl (Nat.le_of_ble_eq_true rfl)
  have V6 : Arv Z h6 a2b k2 .byte (4 : Int32) [(.int (c0.toInt8.toInt32)), (.int (c1.toInt8.toInt32)), (.int (c2.toInt8.toInt32)), (.int 0)] (.int 0) := by
    rw [own_b2 c2] at V6'
    exact V6'
  obtain ⟨cl7, Ar7, -, S7, N7_, H7, G7⟩ := id ((((V_a0c.other W2 (own_neArv V_a0c V_a2b (by decide))).other W4 (own_neArv V_a0c V_a2b (by decide))).other W6 (own_neArv V_a0c V_a2b (by decide))))
  have hin7 : ¬ ((3 : Int32) < 0 ∨ cl7.slots.size ≤ ((3 : Int32)).toNatClampNeg) := inb_of S7 ⟨(by decide), (by decide)⟩
  have hat7 : cl7.slots[((3 : Int32)).toNatClampNeg]? = some (.int c3) := H7.at hin7 rfl
  obtain ⟨cl8, Ar8, q8, S8, N8_, H8, G8⟩ := id (V6)
  have hin8 : ¬ ((3 : Int32) < 0 ∨ cl8.slots.size ≤ ((3 : Int32)).toNatClampNeg) := inb_of S8 ⟨(by decide), (by decide)⟩
  obtain ⟨T8, h8, X8, e8, W8, st8⟩ := stB X6 hx hZ e6 Ar8 (j := (3 : Int32)) hin8 (g := (mkF m 31 #[.val (.ref a0c), .val (.int 3), .val (.ref a2b), .val (.int 3), .val (.int 4), .val (.int 3), .val (.int c3)] [(.int (c3.toInt8.toInt32)), (.int 3), (.ref a2b)])) rfl rfl (hb hby d12_31)
  have K8 : Keep h0 h8 [a2b] := K6.wr W8 (Or.inl (List.mem_of_getElem? (i := 0) rfl))
  have O8 := O6.wr W8 g_a2b
  have N8 := Fr.snoc X8 N6 g_a2b
  have V8' : Arv Z h8 a2b k2 .byte (4 : Int32) [(.int (c0.toInt8.toInt32)), (.int (c1.toInt8.toInt32)), (.int (c2.toInt8.toInt32)), (.int ((c3.toInt8.toInt32)).toInt8.toInt32)] (.int 0) := Arv.set Ar8 q8 S8 N8_ H8 G8 (fits_nar_byte _) W8 3 rfl (Nat.le_of_ble_eq_true rfl)
  have V8 : Arv Z h8 a2b k2 .byte (4 : Int32) [(.int (c0.toInt8.toInt32)), (.int (c1.toInt8.toInt32)), (.int (c2.toInt8.toInt32)), (.int (c3.toInt8.toInt32))] (.int 0) := by
    rw [own_b2 c3] at V8'
    exact V8'
  obtain ⟨fs, hr, hrun, hended, hW, hsame⟩ := X8.leave (v := some (.int 4)) (fun h => by rw [Bd.returns] at h; cases h)
  refine ⟨_, _, pre0 _ ?_, hrun, hended, _, _, rfl, ?_, ⟨_, rfl⟩, hW, hsame.mono (by decide) (by decide)⟩
  · show Steps p.tables e below (s₁.setTop (mkF m 0 #[.val (.ref a0c), .val (.int 0), .val (.ref a2b), .val (.int 0), .val (.int 4), .unset, .unset] [])) _
    refine XS.iconst X0.here hx rfl (hb hby d12_0) ?_
    refine XS.istore X0.here hx rfl (hb hby d12_1) rfl (l' := #[.val (.ref a0c), .val (.int 0), .val (.ref a2b), .val (.int 0), .val (.int 4), .val (.int 0), .unset]) rfl ?_
    refine XS.iload X0.here hx rfl (hb hby d12_3) rfl ?_
    refine XS.iload X0.here hx rfl (hb hby d12_5) rfl ?_
    show Steps p.tables e below (s₁.setTop (mkF m 7 #[.val (.ref a0c), .val (.int 0), .val (.ref a2b), .val (.int 0), .val (.int 4), .val (.int 0), .unset] [(.int 4), (.int 0)])) _
    refine XS.icmpNo X0.here hx rfl (hb hby d12_7) rfl (tlt (by decide : (0 : Int32) < (4 : Int32))).2.1 ?_
    refine XS.aloadN X0.here hx rfl (hb hby d12_10) rfl rfl ?_
    refine XS.iloadN X0.here hx rfl (hb hby d12_11) rfl ?_
    show Steps p.tables e below (s₁.setTop (mkF m 12 #[.val (.ref a0c), .val (.int 0), .val (.ref a2b), .val (.int 0), .val (.int 4), .val (.int 0), .unset] [(.int 0), (.ref a0c)])) _
    refine X0.caload hx (j := (0 : Int32)) (v := (.int c0)) (by rw [e0]; exact Ar1.1) (State.isArrayOf_alike hZ.alike Ar1.2.1) Ar1.2.2 hin1 hat1 (g := (mkF m 12 #[.val (.ref a0c), .val (.int 0), .val (.ref a2b), .val (.int 0), .val (.int 4), .val (.int 0), .unset] [(.int 0), (.ref a0c)])) rfl rfl (hb hby d12_12) _ ?_
    show Steps p.tables e below (s₁.setTop (mkF m 13 #[.val (.ref a0c), .val (.int 0), .val (.ref a2b), .val (.int 0), .val (.int 4), .val (.int 0), .unset] [(.int c0)])) _
    refine XS.istore X0.here hx rfl (hb hby d12_13) rfl (l' := #[.val (.ref a0c), .val (.int 0), .val (.ref a2b), .val (.int 0), .val (.int 4), .val (.int 0), .val (.int c0)]) rfl ?_
    refine XS.iload X0.here hx rfl (hb hby d12_15) rfl ?_
    refine XS.sipush X0.here hx rfl (hb hby d12_17) ?_
    refine XS.icmpYes X0.here hx rfl (pc0 := 20) (pc' := 26) rfl (hb hby d12_20) rfl (flt hc0).2.2.2 (by decide) (by decide) ?_
    show Steps p.tables e below (s₁.setTop (mkF m 26 #[.val (.ref a0c), .val (.int 0), .val (.ref a2b), .val (.int 0), .val (.int 4), .val (.int 0), .val (.int c0)] [])) _
    refine XS.aloadN X0.here hx rfl (hb hby d12_26) rfl rfl ?_
    refine XS.iloadN X0.here hx rfl (hb hby d12_27) rfl ?_
    refine XS.iload X0.here hx rfl (hb hby d12_28) rfl ?_
    refine XS.i2b X0.here hx rfl (hb hby d12_30) rfl ?_
    show Steps p.tables e below (s₁.setTop (mkF m 31 #[.val (.ref a0c), .val (.int 0), .val (.ref a2b), .val (.int 0), .val (.int 4), .val (.int 0), .val (.int c0)] [(.int (c0.toInt8.toInt32)), (.int 0), (.ref a2b)])) _
    refine st2 _ ?_
    show Steps p.tables e below (T2.setTop (mkF m 32 #[.val (.ref a0c), .val (.int 0), .val (.ref a2b), .val (.int 0), .val (.int 4), .val (.int 0), .val (.int c0)] [])) _
    refine XS.iinc X2.here hx rfl (hb hby d12_32) rfl (l' := #[.val (.ref a0c), .val (.int 1), .val (.ref a2b), .val (.int 0), .val (.int 4), .val (.int 0), .val (.int c0)]) rfl ?_
    refine XS.iinc X2.here hx rfl (hb hby d12_35) rfl (l' := #[.val (.ref a0c), .val (.int 1), .val (.ref a2b), .val (.int 1), .val (.int 4), .val (.int 0), .val (.int c0)]) rfl ?_
    refine XS.iinc X2.here hx rfl (hb hby d12_38) rfl (l' := #[.val (.ref a0c), .val (.int 1), .val (.ref a2b), .val (.int 1), .val (.int 4), .val (.int 1), .val (.int c0)]) rfl ?_
    refine XS.goto X2.here hx rfl (pc0 := 41) (pc' := 3) rfl (hb hby d12_41) (by decide) (by decide) ?_
    show Steps p.tables e below (T2.setTop (mkF m 3 #[.val (.ref a0c), .val (.int 1), .val (.ref a2b), .val (.int 1), .val (.int 4), .val (.int 1), .val (.int c0)] [])) _
    refine XS.iload X2.here hx rfl (hb hby d12_3) rfl ?_
    refine XS.iload X2.here hx rfl (hb hby d12_5) rfl ?_
    refine XS.icmpNo X2.here hx rfl (hb hby d12_7) rfl (tlt (by decide : (1 : Int32) < (4 : Int32))).2.1 ?_
    refine XS.aloadN X2.here hx rfl (hb hby d12_10) rfl rfl ?_
    show Steps p.tables e below (T2.setTop (mkF m 11 #[.val (.ref a0c), .val (.int 1), .val (.ref a2b), .val (.int 1), .val (.int 4), .val (.int 1), .val (.int c0)] [(.ref a0c)])) _
    refine XS.iloadN X2.here hx rfl (hb hby d12_11) rfl ?_
    show Steps p.tables e below (T2.setTop (mkF m 12 #[.val (.ref a0c), .val (.int 1), .val (.ref a2b), .val (.int 1), .val (.int 4), .val (.int 1), .val (.int c0)] [(.int 1), (.ref a0c)])) _
    refine X2.caload hx (j := (1 : Int32)) (v := (.int c1)) (by rw [e2]; exact Ar3.1) (State.isArrayOf_alike hZ.alike Ar3.2.1) Ar3.2.2 hin3 hat3 (g := (mkF m 12 #[.val (.ref a0c), .val (.int 1), .val (.ref a2b), .val (.int 1), .val (.int 4), .val (.int 1), .val (.int c0)] [(.int 1), (.ref a0c)])) rfl rfl (hb hby d12_12) _ ?_
    show Steps p.tables e below (T2.setTop (mkF m 13 #[.val (.ref a0c), .val (.int 1), .val (.ref a2b), .val (.int 1), .val (.int 4), .val (.int 1), .val (.int c0)] [(.int c1)])) _
    refine XS.istore X2.here hx rfl (hb hby d12_13) rfl (l' := #[.val (.ref a0c), .val (.int 1), .val (.ref a2b), .val (.int 1), .val (.int 4), .val (.int 1), .val (.int c1)]) rfl ?_
    refine XS.iload X2.here hx rfl (hb hby d12_15) rfl ?_
    refine XS.sipush X2.here hx rfl (hb hby d12_17) ?_
    refine XS.icmpYes X2.here hx rfl (pc0 := 20) (pc' := 26) rfl (hb hby d12_20) rfl (flt hc1).2.2.2 (by decide) (by decide) ?_
    show Steps p.tables e below (T2.setTop (mkF m 26 #[.val (.ref a0c), .val (.int 1), .val (.ref a2b), .val (.int 1), .val (.int 4), .val (.int 1), .val (.int c1)] [])) _
    refine XS.aloadN X2.here hx rfl (hb hby d12_26) rfl rfl ?_
    refine XS.iloadN X2.here hx rfl (hb hby d12_27) rfl ?_
    refine XS.iload X2.here hx rfl (hb hby d12_28) rfl ?_
    refine XS.i2b X2.here hx rfl (hb hby d12_30) rfl ?_
    show Steps p.tables e below (T2.setTop (mkF m 31 #[.val (.ref a0c), .val (.int 1), .val (.ref a2b), .val (.int 1), .val (.int 4), .val (.int 1), .val (.int c1)] [(.int (c1.toInt8.toInt32)), (.int 1), (.ref a2b)])) _
    refine st4 _ ?_
    show Steps p.tables e below (T4.setTop (mkF m 32 #[.val (.ref a0c), .val (.int 1), .val (.ref a2b), .val (.int 1), .val (.int 4), .val (.int 1), .val (.int c1)] [])) _
    refine XS.iinc X4.here hx rfl (hb hby d12_32) rfl (l' := #[.val (.ref a0c), .val (.int 2), .val (.ref a2b), .val (.int 1), .val (.int 4), .val (.int 1), .val (.int c1)]) rfl ?_
    refine XS.iinc X4.here hx rfl (hb hby d12_35) rfl (l' := #[.val (.ref a0c), .val (.int 2), .val (.ref a2b), .val (.int 2), .val (.int 4), .val (.int 1), .val (.int c1)]) rfl ?_
    refine XS.iinc X4.here hx rfl (hb hby d12_38) rfl (l' := #[.val (.ref a0c), .val (.int 2), .val (.ref a2b), .val (.int 2), .val (.int 4), .val (.int 2), .val (.int c1)]) rfl ?_
    refine XS.goto X4.here hx rfl (pc0 := 41) (pc' := 3) rfl (hb hby d12_41) (by decide) (by decide) ?_
    show Steps p.tables e below (T4.setTop (mkF m 3 #[.val (.ref a0c), .val (.int 2), .val (.ref a2b), .val (.int 2), .val (.int 4), .val (.int 2), .val (.int c1)] [])) _
    refine XS.iload X4.here hx rfl (hb hby d12_3) rfl ?_
    refine XS.iload X4.here hx rfl (hb hby d12_5) rfl ?_
    refine XS.icmpNo X4.here hx rfl (hb hby d12_7) rfl (tlt (by decide : (2 : Int32) < (4 : Int32))).2.1 ?_
    refine XS.aloadN X4.here hx rfl (hb hby d12_10) rfl rfl ?_
    show Steps p.tables e below (T4.setTop (mkF m 11 #[.val (.ref a0c), .val (.int 2), .val (.ref a2b), .val (.int 2), .val (.int 4), .val (.int 2), .val (.int c1)] [(.ref a0c)])) _
    refine XS.iloadN X4.here hx rfl (hb hby d12_11) rfl ?_
    show Steps p.tables e below (T4.setTop (mkF m 12 #[.val (.ref a0c), .val (.int 2), .val (.ref a2b), .val (.int 2), .val (.int 4), .val (.int 2), .val (.int c1)] [(.int 2), (.ref a0c)])) _
    refine X4.caload hx (j := (2 : Int32)) (v := (.int c2)) (by rw [e4]; exact Ar5.1) (State.isArrayOf_alike hZ.alike Ar5.2.1) Ar5.2.2 hin5 hat5 (g := (mkF m 12 #[.val (.ref a0c), .val (.int 2), .val (.ref a2b), .val (.int 2), .val (.int 4), .val (.int 2), .val (.int c1)] [(.int 2), (.ref a0c)])) rfl rfl (hb hby d12_12) _ ?_
    show Steps p.tables e below (T4.setTop (mkF m 13 #[.val (.ref a0c), .val (.int 2), .val (.ref a2b), .val (.int 2), .val (.int 4), .val (.int 2), .val (.int c1)] [(.int c2)])) _
    refine XS.istore X4.here hx rfl (hb hby d12_13) rfl (l' := #[.val (.ref a0c), .val (.int 2), .val (.ref a2b), .val (.int 2), .val (.int 4), .val (.int 2), .val (.int c2)]) rfl ?_
    refine XS.iload X4.here hx rfl (hb hby d12_15) rfl ?_
    refine XS.sipush X4.here hx rfl (hb hby d12_17) ?_
    refine XS.icmpYes X4.here hx rfl (pc0 := 20) (pc' := 26) rfl (hb hby d12_20) rfl (flt hc2).2.2.2 (by decide) (by decide) ?_
    show Steps p.tables e below (T4.setTop (mkF m 26 #[.val (.ref a0c), .val (.int 2), .val (.ref a2b), .val (.int 2), .val (.int 4), .val (.int 2), .val (.int c2)] [])) _
    refine XS.aloadN X4.here hx rfl (hb hby d12_26) rfl rfl ?_
    refine XS.iloadN X4.here hx rfl (hb hby d12_27) rfl ?_
    refine XS.iload X4.here hx rfl (hb hby d12_28) rfl ?_
    refine XS.i2b X4.here hx rfl (hb hby d12_30) rfl ?_
    show Steps p.tables e below (T4.setTop (mkF m 31 #[.val (.ref a0c), .val (.int 2), .val (.ref a2b), .val (.int 2), .val (.int 4), .val (.int 2), .val (.int c2)] [(.int (c2.toInt8.toInt32)), (.int 2), (.ref a2b)])) _
    refine st6 _ ?_
    show Steps p.tables e below (T6.setTop (mkF m 32 #[.val (.ref a0c), .val (.int 2), .val (.ref a2b), .val (.int 2), .val (.int 4), .val (.int 2), .val (.int c2)] [])) _
    refine XS.iinc X6.here hx rfl (hb hby d12_32) rfl (l' := #[.val (.ref a0c), .val (.int 3), .val (.ref a2b), .val (.int 2), .val (.int 4), .val (.int 2), .val (.int c2)]) rfl ?_
    refine XS.iinc X6.here hx rfl (hb hby d12_35) rfl (l' := #[.val (.ref a0c), .val (.int 3), .val (.ref a2b), .val (.int 3), .val (.int 4), .val (.int 2), .val (.int c2)]) rfl ?_
    refine XS.iinc X6.here hx rfl (hb hby d12_38) rfl (l' := #[.val (.ref a0c), .val (.int 3), .val (.ref a2b), .val (.int 3), .val (.int 4), .val (.int 3), .val (.int c2)]) rfl ?_
    refine XS.goto X6.here hx rfl (pc0 := 41) (pc' := 3) rfl (hb hby d12_41) (by decide) (by decide) ?_
    show Steps p.tables e below (T6.setTop (mkF m 3 #[.val (.ref a0c), .val (.int 3), .val (.ref a2b), .val (.int 3), .val (.int 4), .val (.int 3), .val (.int c2)] [])) _
    refine XS.iload X6.here hx rfl (hb hby d12_3) rfl ?_
    refine XS.iload X6.here hx rfl (hb hby d12_5) rfl ?_
    refine XS.icmpNo X6.here hx rfl (hb hby d12_7) rfl (tlt (by decide : (3 : Int32) < (4 : Int32))).2.1 ?_
    refine XS.aloadN X6.here hx rfl (hb hby d12_10) rfl rfl ?_
    show Steps p.tables e below (T6.setTop (mkF m 11 #[.val (.ref a0c), .val (.int 3), .val (.ref a2b), .val (.int 3), .val (.int 4), .val (.int 3), .val (.int c2)] [(.ref a0c)])) _
    refine XS.iloadN X6.here hx rfl (hb hby d12_11) rfl ?_
    show Steps p.tables e below (T6.setTop (mkF m 12 #[.val (.ref a0c), .val (.int 3), .val (.ref a2b), .val (.int 3), .val (.int 4), .val (.int 3), .val (.int c2)] [(.int 3), (.ref a0c)])) _
    refine X6.caload hx (j := (3 : Int32)) (v := (.int c3)) (by rw [e6]; exact Ar7.1) (State.isArrayOf_alike hZ.alike Ar7.2.1) Ar7.2.2 hin7 hat7 (g := (mkF m 12 #[.val (.ref a0c), .val (.int 3), .val (.ref a2b), .val (.int 3), .val (.int 4), .val (.int 3), .val (.int c2)] [(.int 3), (.ref a0c)])) rfl rfl (hb hby d12_12) _ ?_
    show Steps p.tables e below (T6.setTop (mkF m 13 #[.val (.ref a0c), .val (.int 3), .val (.ref a2b), .val (.int 3), .val (.int 4), .val (.int 3), .val (.int c2)] [(.int c3)])) _
    refine XS.istore X6.here hx rfl (hb hby d12_13) rfl (l' := #[.val (.ref a0c), .val (.int 3), .val (.ref a2b), .val (.int 3), .val (.int 4), .val (.int 3), .val (.int c3)]) rfl ?_
    refine XS.iload X6.here hx rfl (hb hby d12_15) rfl ?_
    refine XS.sipush X6.here hx rfl (hb hby d12_17) ?_
    refine XS.icmpYes X6.here hx rfl (pc0 := 20) (pc' := 26) rfl (hb hby d12_20) rfl (flt hc3).2.2.2 (by decide) (by decide) ?_
    show Steps p.tables e below (T6.setTop (mkF m 26 #[.val (.ref a0c), .val (.int 3), .val (.ref a2b), .val (.int 3), .val (.int 4), .val (.int 3), .val (.int c3)] [])) _
    refine XS.aloadN X6.here hx rfl (hb hby d12_26) rfl rfl ?_
    refine XS.iloadN X6.here hx rfl (hb hby d12_27) rfl ?_
    refine XS.iload X6.here hx rfl (hb hby d12_28) rfl ?_
    refine XS.i2b X6.here hx rfl (hb hby d12_30) rfl ?_
    show Steps p.tables e below (T6.setTop (mkF m 31 #[.val (.ref a0c), .val (.int 3), .val (.ref a2b), .val (.int 3), .val (.int 4), .val (.int 3), .val (.int c3)] [(.int (c3.toInt8.toInt32)), (.int 3), (.ref a2b)])) _
    refine st8 _ ?_
    show Steps p.tables e below (T8.setTop (mkF m 32 #[.val (.ref a0c), .val (.int 3), .val (.ref a2b), .val (.int 3), .val (.int 4), .val (.int 3), .val (.int c3)] [])) _
    refine XS.iinc X8.here hx rfl (hb hby d12_32) rfl (l' := #[.val (.ref a0c), .val (.int 4), .val (.ref a2b), .val (.int 3), .val (.int 4), .val (.int 3), .val (.int c3)]) rfl ?_
    refine XS.iinc X8.here hx rfl (hb hby d12_35) rfl (l' := #[.val (.ref a0c), .val (.int 4), .val (.ref a2b), .val (.int 4), .val (.int 4), .val (.int 3), .val (.int c3)]) rfl ?_
    refine XS.iinc X8.here hx rfl (hb hby d12_38) rfl (l' := #[.val (.ref a0c), .val (.int 4), .val (.ref a2b), .val (.int 4), .val (.int 4), .val (.int 4), .val (.int c3)]) rfl ?_
    refine XS.goto X8.here hx rfl (pc0 := 41) (pc' := 3) rfl (hb hby d12_41) (by decide) (by decide) ?_
    show Steps p.tables e below (T8.setTop (mkF m 3 #[.val (.ref a0c), .val (.int 4), .val (.ref a2b), .val (.int 4), .val (.int 4), .val (.int 4), .val (.int c3)] [])) _
    refine XS.iload X8.here hx rfl (hb hby d12_3) rfl ?_
    refine XS.iload X8.here hx rfl (hb hby d12_5) rfl ?_
    refine XS.icmpYes X8.here hx rfl (pc0 := 7) (pc' := 44) rfl (hb hby d12_7) rfl (flt (by decide : ¬ ((4 : Int32) < (4 : Int32)))).2.1 (by decide) (by decide) ?_
    refine XS.iload X8.here hx rfl (hb hby d12_44) rfl ?_
    show Steps p.tables e below (T8.setTop (mkF m 46 #[.val (.ref a0c), .val (.int 4), .val (.ref a2b), .val (.int 4), .val (.int 4), .val (.int 4), .val (.int c3)] [(.int 4)])) _
    exact retI X8 hx Bd.returns (hb hby d12_46) hr
  · show Q_rmC2_4 n0 Z cS a0c a2b k0 k2 c0 c1 c2 c3 h0 _ T8.heap _
    rw [e8]
    exact ⟨rfl, N8, K8, V8⟩
theorem ef_rmC1_4 (m : MethodId) (a0c : Addr) : entryFrame m #[(.ref a0c), (.int 0), (.int 4)] 6 = mkF m 0 #[.val (.ref a0c), .val (.int 0), .val (.int 4), .unset, .unset, .unset] [] := by first | (simp [entryFrame, mkF, argsToLocals, Value.category]; done) | rfl
def Q_rmC1_4 (n0 : Nat) (Z : State) (cS : Int32) (a0c : Addr) (k0 : ClassId) (c0 : Int32) (c1 : Int32) (c2 : Int32) (c3 : Int32) (h0 : Heap) (v : Option Value) (h : Heap) (L : List Loc) : Prop := ∃ b : Addr, ∃ kb : ClassId, v = some (.ref b) ∧ Fr n0 L ∧ Keep h0 h [] ∧ (h0.size ≤ b) ∧ (Exa Z h b "[B") ∧ (Arv Z h b kb .byte (4 : Int32) [(.int (c0.toInt8.toInt32)), (.int (c1.toInt8.toInt32)), (.int (c2.toInt8.toInt32)), (.int (c3.toInt8.toInt32))] (.int 0))
set_option maxRecDepth 65536 in
set_option maxHeartbeats 40000000 in
theorem rmC1_4 (l : Launch) (Z : State) (a0 : Array Value) (hw : ∀ d ∈ tables_1, d.before a0 Z = true) (ws : List Jvm.Cond) (cS : Int32) (a0c : Addr) (k0 : ClassId) (c0 : Int32) (c1 : Int32) (c2 : Int32) (c3 : Int32) (h0 : Heap) (n0 : Nat) (O0 : Old Z n0 h0) (GL : GF Z cS) (V_a0c : Arv Z h0 a0c k0 .char (4 : Int32) [(.int c0), (.int c1), (.int c2), (.int c3)] (.int 0)) (hc0 : ¬ ((255 : Int32) < c0)) (hc1 : ¬ ((255 : Int32) < c1)) (hc2 : ¬ ((255 : Int32) < c2)) (hc3 : ¬ ((255 : Int32) < c3)) :
    MetFree l MN_1 (head1 (Jvm.Cond.code MN_1 jdk_52_method_16_code 6 (some (.array .byte)) :: ws) ({ frames := 1, cells := 1, slots := 4, locals := 18 } : Room)) (fun a U => a = #[(.ref a0c), (.int 0), (.int 4)] ∧ Z.Warmed39 U.vm ∧ U.heap = h0) (fun _ _ _ _ _ => True) (fun _ U o U' => ∃ v L, o = .returned v ∧ Q_rmC1_4 n0 Z cS a0c k0 c0 c1 c2 c3 h0 v U'.heap L ∧ FrameEnd U o U' L ({ frames := 1, cells := 1, slots := 4, locals := 18 } : Room).cells ({ frames := 1, cells := 1, slots := 4, locals := 18 } : Room).slots) := by
  refine MetFree.of_bodySF (plainFor_of_name pn) hisR ?_
  intro p e s m args below meth c s₁ Bd hml0 hP hK
  obtain ⟨rfl, hZ, hh⟩ := hP
  have hx := Bd.exec
  have hby := Bd.bytes
  have hml : c.maxLocals = 6 := hml0
  have hown : s.vm.findClass "java/lang/StringUTF16" = some m.cls := findClass_of_methodNamed Bd.named
  have hnm := (name_of_methodNamed Bd.named Bd.method).1
  have X0 : Stand p l e ({ frames := 1, cells := 1, slots := 4, locals := 18 } : Room) s m #[(.ref a0c), (.int 0), (.int 4)] below meth c s₁ [] 0 0 := Stand.of_body Bd
  have e0 : s₁.heap = h0 := by rw [← hh, Bd.state]; rfl
  have N0 := Fr.nil n0
  have pre0 : ∀ t, Steps p.tables e below (s₁.setTop (mkF m 0 #[.val (.ref a0c), .val (.int 0), .val (.int 4), .unset, .unset, .unset] [])) t → Steps p.tables e below (s₁.setTop (entryFrame m #[(.ref a0c), (.int 0), (.int 4)] 6)) t := fun t k => castTop (ef_rmC1_4 m a0c) k
  have GL' := GL
  obtain ⟨GCS, GCP⟩ := GL'
  obtain ⟨T1, h1, k1, X1, e1, E1, A1, A1', st1⟩ := newPE X0 hx hZ (Wd hw 23 rfl) e0 (g := (mkF m 1 #[.val (.ref a0c), .val (.int 0), .val (.int 4), .unset, .unset, .unset] [(.int 4)])) rfl (hb hby d11_1) rfl (by decide) (cap := 4) (by decide) (by decide) (by decide) (by decide) (ad := "[B") rfl
  obtain ⟨b1, g1⟩ : ∃ z, z = h0.size := ⟨_, rfl⟩
  rw [← g1] at A1 A1' st1
  have g_b1 : n0 ≤ b1 := Nat.le_trans (own_sz O0) (Nat.le_of_eq g1.symm)
  have sz_b1 : h0.size ≤ b1 := Nat.le_trans (Keep.refl h0 []).1 (Nat.le_of_eq g1.symm)
  have K1 : Keep h0 h1 [] := (Keep.refl h0 []).ext E1
  have O1 := O0.ext E1
  have V_b1 : Arv Z h1 b1 k1 .byte (4 : Int32) [(.int 0), (.int 0), (.int 0), (.int 0)] (.int 0) := (Arv.new A1 (by decide)).pad (pad_rep [] (.int 0) 4)
  obtain ⟨_, _, ⟨T2, L2, k2, n2⟩, -, X2, ⟨Lc2, hQ2, l2, y2, z2⟩, st2⟩ := Jvm.LawKit.callS X1 hx (y := MN_0) hown (mvT hZ (Wd hw 61 rfl)) (mvT hZ (Wd hw 62 rfl)) (mvT hZ (Wd hw 59 rfl)) (mvT hZ (Wd hw 63 rfl)) (by decide) (backOf (W := 0) (rmC2_4 l Z a0 hw [] cS (a0c) (b1) (k0) (k1) (c0) (c1) (c2) (c3) (h1) n0 O1 GL (V_a0c.ext E1) V_b1 g_b1 hc0 hc1 hc2 hc3) hZ (Wd hw 63 rfl) (Wd hw 59 rfl) (by decide) (by decide)) (g := (mkF m 9 #[.val (.ref a0c), .val (.int 0), .val (.int 4), .val (.ref b1), .unset, .unset] [(.int 4), (.int 0), (.ref b1), (.int 0), (.ref a0c)])) rfl (by rw [hml]; rfl) (argsL := [(.ref a0c), (.int 0), (.ref b1), (.int 0), (.int 4)]) (rest := []) (lenOf pd rfl) rfl (by show 2 * 0 + _ ≤ _; exact Nat.le_of_eq rfl) (hb hby d11_9) (fun _ _ => ⟨rfl, e1, (by decide : 1 + 0 ≤ _), (by decide : 4 + 0 ≤ _)⟩)
  dsimp only [Pt.U, Pt.locs, Pt.cells, Pt.slots] at X2 l2 y2 z2 st2 hQ2
  subst l2 y2 z2
  obtain ⟨rfl, N2q, Kc2, P2_0⟩ := hQ2
  have K2 : Keep h0 T2.heap [] := K1.trans Kc2 (allS (Or.inr sz_b1) all0)
  have O2 := O1.keep Kc2 (allS g_b1 all0)
  have N2 := Fr.app N0 N2q
  obtain ⟨fs, hr, hrun, hended, hW, hsame⟩ := X2.leave (v := some (.ref b1)) (fun h => by rw [Bd.returns] at h; cases h)
  refine ⟨_, _, pre0 _ ?_, hrun, hended, _, _, rfl, ?_, ⟨_, rfl⟩, hW, hsame.mono (by decide) (by decide)⟩
  · show Steps p.tables e below (s₁.setTop (mkF m 0 #[.val (.ref a0c), .val (.int 0), .val (.int 4), .unset, .unset, .unset] [])) _
    refine XS.iloadN X0.here hx rfl (hb hby d11_0) rfl ?_
    show Steps p.tables e below (s₁.setTop (mkF m 1 #[.val (.ref a0c), .val (.int 0), .val (.int 4), .unset, .unset, .unset] [(.int 4)])) _
    refine st1 _ ?_
    show Steps p.tables e below (T1.setTop (mkF m 3 #[.val (.ref a0c), .val (.int 0), .val (.int 4), .unset, .unset, .unset] [(.ref b1)])) _
    refine XS.astoreN X1.here hx rfl (hb hby d11_3) rfl rfl (l' := #[.val (.ref a0c), .val (.int 0), .val (.int 4), .val (.ref b1), .unset, .unset]) rfl ?_
    refine XS.aloadN X1.here hx rfl (hb hby d11_4) rfl rfl ?_
    refine XS.iloadN X1.here hx rfl (hb hby d11_5) rfl ?_
    refine XS.aloadN X1.here hx rfl (hb hby d11_6) rfl rfl ?_
    show Steps p.tables e below (T1.setTop (mkF m 7 #[.val (.ref a0c), .val (.int 0), .val (.int 4), .val (.ref b1), .unset, .unset] [(.ref b1), (.int 0), (.ref a0c)])) _
    refine XS.iconst X1.here hx rfl (hb hby d11_7) ?_
    refine XS.iloadN X1.here hx rfl (hb hby d11_8) rfl ?_
    show Steps p.tables e below (T1.setTop (mkF m 9 #[.val (.ref a0c), .val (.int 0), .val (.int 4), .val (.ref b1), .unset, .unset] [(.int 4), (.int 0), (.ref b1), (.int 0), (.ref a0c)])) _
    refine st2 _ ?_
    show Steps p.tables e below (T2.setTop (mkF m 12 #[.val (.ref a0c), .val (.int 0), .val (.int 4), .val (.ref b1), .unset, .unset] [(.int 4)])) _
    refine XS.istore X2.here hx rfl (hb hby d11_12) rfl (l' := #[.val (.ref a0c), .val (.int 0), .val (.int 4), .val (.ref b1), .val (.int 4), .unset]) rfl ?_
    refine XS.iload X2.here hx rfl (hb hby d11_14) rfl ?_
    refine XS.iloadN X2.here hx rfl (hb hby d11_16) rfl ?_
    refine XS.icmpYes X2.here hx rfl (pc0 := 17) (pc' := 57) rfl (hb hby d11_17) rfl (teq (by decide : (4 : Int32) = (4 : Int32))).1 (by decide) (by decide) ?_
    show Steps p.tables e below (T2.setTop (mkF m 57 #[.val (.ref a0c), .val (.int 0), .val (.int 4), .val (.ref b1), .val (.int 4), .unset] [])) _
    refine XS.aloadN X2.here hx rfl (hb hby d11_57) rfl rfl ?_
    show Steps p.tables e below (T2.setTop (mkF m 58 #[.val (.ref a0c), .val (.int 0), .val (.int 4), .val (.ref b1), .val (.int 4), .unset] [(.ref b1)])) _
    jvm_step X2.here [X2.here.top, hx, (hb hby d11_58), X2.method', Bd.returns, Value.isRef, FieldType.isReference]
    first | (intro acts; rw [hr _ acts rfl rfl rfl]) | rw [hr _ _ rfl rfl rfl]
    exact Steps.refl _
  · show Q_rmC1_4 n0 Z cS a0c k0 c0 c1 c2 c3 h0 _ T2.heap _
    exact ⟨b1, k1, rfl, N2, K2, sz_b1, (A1'.keep Kc2), P2_0⟩
theorem ef_rmC2_5 (m : MethodId) (a0c : Addr) (a2b : Addr) : entryFrame m #[(.ref a0c), (.int 0), (.ref a2b), (.int 0), (.int 5)] 7 = mkF m 0 #[.val (.ref a0c), .val (.int 0), .val (.ref a2b), .val (.int 0), .val (.int 5), .unset, .unset] [] := by first | (simp [entryFrame, mkF, argsToLocals, Value.category]; done) | rfl
def Q_rmC2_5 (n0 : Nat) (Z : State) (cS : Int32) (a0c : Addr) (a2b : Addr) (k0 : ClassId) (k2 : ClassId) (c0 : Int32) (c1 : Int32) (c2 : Int32) (c3 : Int32) (c4 : Int32) (h0 : Heap) (v : Option Value) (h : Heap) (L : List Loc) : Prop := v = some (.int 5) ∧ Fr n0 L ∧ Keep h0 h [a2b] ∧ (Arv Z h a2b k2 .byte (5 : Int32) [(.int (c0.toInt8.toInt32)), (.int (c1.toInt8.toInt32)), (.int (c2.toInt8.toInt32)), (.int (c3.toInt8.toInt32)), (.int (c4.toInt8.toInt32))] (.int 0))
set_option maxRecDepth 65536 in
set_option maxHeartbeats 40000000 in
theorem rmC2_5 (l : Launch) (Z : State) (a0 : Array Value) (hw : ∀ d ∈ tables_1, d.before a0 Z = true) (ws : List Jvm.Cond) (cS : Int32) (a0c : Addr) (a2b : Addr) (k0 : ClassId) (k2 : ClassId) (c0 : Int32) (c1 : Int32) (c2 : Int32) (c3 : Int32) (c4 : Int32) (h0 : Heap) (n0 : Nat) (O0 : Old Z n0 h0) (GL : GF Z cS) (V_a0c : Arv Z h0 a0c k0 .char (5 : Int32) [(.int c0), (.int c1), (.int c2), (.int c3), (.int c4)] (.int 0)) (V_a2b : Arv Z h0 a2b k2 .byte (5 : Int32) [(.int 0), (.int 0), (.int 0), (.int 0), (.int 0)] (.int 0)) (g_a2b : n0 ≤ a2b) (hc0 : ¬ ((255 : Int32) < c0)) (hc1 : ¬ ((255 : Int32) < c1)) (hc2 : ¬ ((255 : Int32) < c2)) (hc3 : ¬ ((255 : Int32) < c3)) (hc4 : ¬ ((255 : Int32) < c4)) :
    MetFree l MN_0 (head1 (Jvm.Cond.code MN_0 jdk_52_method_21_code 7 (some .int) :: ws) ({ frames := 0, cells := 0, slots := 0, locals := 0 } : Room)) (fun a U => a = #[(.ref a0c), (.int 0), (.ref a2b), (.int 0), (.int 5)] ∧ Z.Warmed39 U.vm ∧ U.heap = h0) (fun _ _ _ _ _ => True) (fun _ U o U' => ∃ v L, o = .returned v ∧ Q_rmC2_5 n0 Z cS a0c a2b k0 k2 c0 c1 c2 c3 c4 h0 v U'.heap L ∧ FrameEnd U o U' L ({ frames := 0, cells := 0, slots := 0, locals := 0 } : Room).cells ({ frames := 0, cells := 0, slots := 0, locals := 0 } : Room).slots) := by
  refine MetFree.of_bodySF (plainFor_of_name pn) hisR ?_
  intro p e s m args below meth c s₁ Bd hml0 hP hK
  obtain ⟨rfl, hZ, hh⟩ := hP
  have hx := Bd.exec
  have hby := Bd.bytes
  have hml : c.maxLocals = 7 := hml0
  have hown : s.vm.findClass "java/lang/StringUTF16" = some m.cls := findClass_of_methodNamed Bd.named
  have hnm := (name_of_methodNamed Bd.named Bd.method).1
  have X0 : Stand p l e ({ frames := 0, cells := 0, slots := 0, locals := 0 } : Room) s m #[(.ref a0c), (.int 0), (.ref a2b), (.int 0), (.int 5)] below meth c s₁ [] 0 0 := Stand.of_body Bd
  have e0 : s₁.heap = h0 := by rw [← hh, Bd.state]; rfl
  have N0 := Fr.nil n0
  have pre0 : ∀ t, Steps p.tables e below (s₁.setTop (mkF m 0 #[.val (.ref a0c), .val (.int 0), .val (.ref a2b), .val (.int 0), .val (.int 5), .unset, .unset] [])) t → Steps p.tables e below (s₁.setTop (entryFrame m #[(.ref a0c), (.int 0), (.ref a2b), (.int 0), (.int 5)] 7)) t := fun t k => castTop (ef_rmC2_5 m a0c a2b) k
  have GL' := GL
  obtain ⟨GCS, GCP⟩ := GL'
  obtain ⟨cl1, Ar1, -, S1, N1_, H1, G1⟩ := id (V_a0c)
  have hin1 : ¬ ((0 : Int32) < 0 ∨ cl1.slots.size ≤ ((0 : Int32)).toNatClampNeg) := inb_of S1 ⟨(by decide), (by decide)⟩
  have hat1 : cl1.slots[((0 : Int32)).toNatClampNeg]? = some (.int c0) := H1.at hin1 rfl
  obtain ⟨cl2, Ar2, q2, S2, N2_, H2, G2⟩ := id (V_a2b)
  have hin2 : ¬ ((0 : Int32) < 0 ∨ cl2.slots.size ≤ ((0 : Int32)).toNatClampNeg) := inb_of S2 ⟨(by decide), (by decide)⟩
  obtain ⟨T2, h2, X2, e2, W2, st2⟩ := stB X0 hx hZ e0 Ar2 (j := (0 : Int32)) hin2 (g := (mkF m 31 #[.val (.ref a0c), .val (.int 0), .val (.ref a2b), .val (.int 0), .val (.int 5), .val (.int 0), .val (.int c0)] [(.int (c0.toInt8.toInt32)), (.int 0), (.ref a2b)])) rfl rfl (hb hby d12_31)
  have K2 : Keep h0 h2 [a2b] := (Keep.refl h0 [a2b]).wr W2 (Or.inl (List.mem_of_getElem? (i := 0) rfl))
  have O2 := O0.wr W2 g_a2b
  have N2 := Fr.snoc X2 N0 g_a2b
  have V2' : Arv Z h2 a2b k2 .byte (5 : Int32) [(.int ((c0.toInt8.toInt32)).toInt8.toInt32), (.int 0), (.int 0), (.int 0), (.int 0)] (.int 0) := Arv.set Ar2 q2 S2 N2_ H2 G2 (fits_nar_byte _) W2 0 rfl (Nat.le_of_ble_eq_true rfl)
  have V2 : Arv Z h2 a2b k2 .byte (5 : Int32) [(.int (c0.toInt8.toInt32)), (.int 0), (.int 0), (.int 0), (.int 0)] (.int 0) := by
    rw [own_b2 c0] at V2'
    exact V2'
  obtain ⟨cl3, Ar3, -, S3, N3_, H3, G3⟩ := id ((V_a0c.other W2 (own_neArv V_a0c V_a2b (by decide))))
  have hin3 : ¬ ((1 : Int32) < 0 ∨ cl3.slots.size ≤ ((1 : Int32)).toNatClampNeg) := inb_of S3 ⟨(by decide), (by decide)⟩
  have hat3 : cl3.slots[((1 : Int32)).toNatClampNeg]? = some (.int c1) := H3.at hin3 rfl
  obtain ⟨cl4, Ar4, q4, S4, N4_, H4, G4⟩ := id (V2)
  have hin4 : ¬ ((1 : Int32) < 0 ∨ cl4.slots.size ≤ ((1 : Int32)).toNatClampNeg) := inb_of S4 ⟨(by decide), (by decide)⟩
  obtain ⟨T4, h4, X4, e4, W4, st4⟩ := stB X2 hx hZ e2 Ar4 (j := (1 : Int32)) hin4 (g := (mkF m 31 #[.val (.ref a0c), .val (.int 1), .val (.ref a2b), .val (.int 1), .val (.int 5), .val (.int 1), .val (.int c1)] [(.int (c1.toInt8.toInt32)), (.int 1), (.ref a2b)])) rfl rfl (hb hby d12_31)
  have K4 : Keep h0 h4 [a2b] := K2.wr W4 (Or.inl (List.mem_of_getElem? (i := 0) rfl))
  have O4 := O2.wr W4 g_a2b
  have N4 := Fr.snoc X4 N2 g_a2b
  have V4' : Arv Z h4 a2b k2 .byte (5 : Int32) [(.int (c0.toInt8.toInt32)), (.int ((c1.toInt8.toInt32)).toInt8.toInt32), (.int 0), (.int 0), (.int 0)] (.int 0) := Arv.set Ar4 q4 S4 N4_ H4 G4 (fits_nar_byte _) W4 1 rfl (Nat.le_of_ble_eq_true rfl)
  have V4 : Arv Z h4 a2b k2 .byte (5 : Int32) [(.int (c0.toInt8.toInt32)), (.int (c1.toInt8.toInt32)), (.int 0), (.int 0), (.int 0)] (.int 0) := by
    rw [own_b2 c1] at V4'
    exact V4'
  obtain ⟨cl5, Ar5, -, S5, N5_, H5, G5⟩ := id (((V_a0c.other W2 (own_neArv V_a0c V_a2b (by decide))).other W4 (own_neArv V_a0c V_a2b (by decide))))
  have hin5 : ¬ ((2 : Int32) < 0 ∨ cl5.slots.size ≤ ((2 : Int32)).toNatClampNeg) := inb_of S5 ⟨(by decide), (by decide)⟩
  have hat5 : cl5.slots[((2 : Int32)).toNatClampNeg]? = some (.int c2) := H5.at hin5 rfl
  obtain ⟨cl6, Ar6, q6, S6, N6_, H6, G6⟩ := id (V4)
  have hin6 : ¬ ((2 : Int32) < 0 ∨ cl6.slots.size ≤ ((2 : Int32)).toNatClampNeg) := inb_of S6 ⟨(by decide), (by decide)⟩
  obtain ⟨T6, h6, X6, e6, W6, st6⟩ := stB X4 hx hZ e4 Ar6 (j := (2 : Int32)) hin6 (g := (mkF m 31 #[.val (.ref a0c), .val (.int 2), .val (.ref a2b), .val (.int 2), .val (.int 5), .val (.int 2), .val (.int c2)] [(.int (c2.toInt8.toInt32)), (.int 2), (.ref a2b)])) rfl rfl (hb hby d12_31)
  have K6 : Keep h0 h6 [a2b] := K4.wr W6 (Or.inl (List.mem_of_getElem? (i := 0) rfl))
  have O6 := O4.wr W6 g_a2b
  have N6 := Fr.snoc X6 N4 g_a2b
  have V6' : Arv Z h6 a2b k2 .byte (5 : Int32) [(.int (c0.toInt8.toInt32)), (.int (c1.toInt8.toInt32)), (.int ((c2.toInt8.toInt32)).toInt8.toInt32), (.int 0), (.int 0)] (.int 0) := Arv.set Ar6 q6 S6 N6_ H6 G6 (fits_nar_byte _) W6 2 rfl (Nat.le_of_ble_eq_true rfl)
  have V6 : Arv Z h6 a2b k2 .byte (5 : Int32) [(.int (c0.toInt8.toInt32)), (.int (c1.toInt8.toInt32)), (.int (c2.toInt8.toInt32)), (.int 0), (.int 0)] (.int 0) := by
    rw [own_b2 c2] at V6'
    exact V6'
  obtain ⟨cl7, Ar7, -, S7, N7_, H7, G7⟩ := id ((((V_a0c.other W2 (own_neArv V_a0c V_a2b (by decide))).other W4 (own_neArv V_a0c V_a2b (by decide))).other W6 (own_neArv V_a0c V_a2b (by decide))))
  have hin7 : ¬ ((3 : Int32) < 0 ∨ cl7.slots.size ≤ ((3 : Int32)).toNatClampNeg) := inb_of S7 ⟨(by decide), (by decide)⟩
  have hat7 : cl7.slots[((3 : Int32)).toNatClampNeg]? = some (.int c3) := H7.at hin7 rfl
  obtain ⟨cl8, Ar8, q8, S8, N8_, H8, G8⟩ := id (V6)
  have hin8 : ¬ ((3 : Int32) < 0 ∨ cl8.slots.size ≤ ((3 : Int32)).toNatClampNeg) := inb_of S8 ⟨(by decide), (by decide)⟩
  obtain ⟨T8, h8, X8, e8, W8, st8⟩ := stB X6 hx hZ e6 Ar8 (j := (3 : Int32)) hin8 (g := (mkF m 31 #[.val (.ref a0c), .val (.int 3), .val (.ref a2b), .val (.int 3), .val (.int 5), .val (.int 3), .val (.int c3)] [(.int (c3.toInt8.toInt32)), (.int 3), (.ref a2b)])) rfl rfl (hb hby d12_31)
  have K8 : Keep h0 h8 [a2b] := K6.wr W8 (Or.inl (List.mem_of_getElem? (i := 0) rfl))
  have O8 := O6.wr W8 g_a2b
  have N8 := Fr.snoc X8 N6 g_a2b
  have V8' : Arv Z h8 a2b k2 .byte (5 : Int32) [(.int (c0.toInt8.toInt32)), (.int (c1.toInt8.toInt32)), (.int (c2.toInt8.toInt32)), (.int ((c3.toInt8.toInt32)).toInt8.toInt32), (.int 0)] (.int 0) := Arv.set Ar8 q8 S8 N8_ H8 G8 (fits_nar_byte _) W8 3 rfl (Nat.le_of_ble_eq_true rfl)
  have V8 : Arv Z h8 a2b k2 .byte (5 : Int32) [(.int (c0.toInt8.toInt32)), (.int (c1.toInt8.toInt32)), (.int (c2.toInt8.toInt32)), (.int (c3.toInt8.toInt32)), (.int 0)] (.int 0) := by
    rw [own_b2 c3] at V8'
    exact V8'
  obtain ⟨cl9, Ar9, -, S9, N9_, H9, G9⟩ := id (((((V_a0c.other W2 (own_neArv V_a0c V_a2b (by decide))).other W4 (own_neArv V_a0c V_a2b (by decide))).other W6 (own_neArv V_a0c V_a2b (by decide))).other W8 (own_neArv V_a0c V_a2b (by decide))))
  have hin9 : ¬ ((4 : Int32) < 0 ∨ cl9.slots.size ≤ ((4 : Int32)).toNatClampNeg) := inb_of S9 ⟨(by decide), (by decide)⟩
  have hat9 : cl9.slots[((4 : Int32)).toNatClampNeg]? = some (.int c4) := H9.at hin9 rfl
  obtain ⟨cl10, Ar10, q10, S10, N10_, H10, G10⟩ := id (V8)
  have hin10 : ¬ ((4 : Int32) < 0 ∨ cl10.slots.size ≤ ((4 : Int32)).toNatClampNeg) := inb_of S10 ⟨(by decide), (by decide)⟩
  obtain ⟨T10, h10, X10, e10, W10, st10⟩ := stB X8 hx hZ e8 Ar10 (j := (4 : Int32)) hin10 (g := (mkF m 31 #[.val (.ref a0c), .val (.int 4), .val (.ref a2b), .val (.int 4), .val (.int 5), .val (.int 4), .val (.int c4)] [(.int (c4.toInt8.toInt32)), (.int 4), (.ref a2b)])) rfl rfl (hb hby d12_31)
  have K10 : Keep h0 h10 [a2b] := K8.wr W10 (Or.inl (List.mem_of_getElem? (i := 0) rfl))
  have O10 := O8.wr W10 g_a2b
  have N10 := Fr.snoc X10 N8 g_a2b
  have V10' : Arv Z h10 a2b k2 .byte (5 : Int32) [(.int (c0.toInt8.toInt32)), (.int (c1.toInt8.toInt32)), (.int (c2.toInt8.toInt32)), (.int (c3.toInt8.toInt32)), (.int ((c4.toInt8.toInt32)).toInt8.toInt32)] (.int 0) := Arv.set Ar10 q10 S10 N10_ H10 G10 (fits_nar_byte _) W10 4 rfl (Nat.le_of_ble_eq_true rfl)
  have V10 : Arv Z h10 a2b k2 .byte (5 : Int32) [(.int (c0.toInt8.toInt32)), (.int (c1.toInt8.toInt32)), (.int (c2.toInt8.toInt32)), (.int (c3.toInt8.toInt32)), (.int (c4.toInt8.toInt32))] (.int 0) := by
    rw [own_b2 c4] at V10'
    exact V10'
  obtain ⟨fs, hr, hrun, hended, hW, hsame⟩ := X10.leave (v := some (.int 5)) (fun h => by rw [Bd.returns] at h; cases h)
  refine ⟨_, _, pre0 _ ?_, hrun, hended, _, _, rfl, ?_, ⟨_, rfl⟩, hW, hsame.mono (by decide) (by decide)⟩
  · show Steps p.tables e below (s₁.setTop (mkF m 0 #[.val (.ref a0c), .val (.int 0), .val (.ref a2b), .val (.int 0), .val (.int 5), .unset, .unset] [])) _
    refine XS.iconst X0.here hx rfl (hb hby d12_0) ?_
    refine XS.istore X0.here hx rfl (hb hby d12_1) rfl (l' := #[.val (.ref a0c), .val (.int 0), .val (.ref a2b), .val (.int 0), .val (.int 5), .val (.int 0), .unset]) rfl ?_
    refine XS.iload X0.here hx rfl (hb hby d12_3) rfl ?_
    refine XS.iload X0.here hx rfl (hb hby d12_5) rfl ?_
    show Steps p.tables e below (s₁.setTop (mkF m 7 #[.val (.ref a0c), .val (.int 0), .val (.ref a2b), .val (.int 0), .val (.int 5), .val (.int 0), .unset] [(.int 5), (.int 0)])) _
    refine XS.icmpNo X0.here hx rfl (hb hby d12_7) rfl (tlt (by decide : (0 : Int32) < (5 : Int32))).2.1 ?_
    refine XS.aloadN X0.here hx rfl (hb hby d12_10) rfl rfl ?_
    refine XS.iloadN X0.here hx rfl (hb hby d12_11) rfl ?_
    show Steps p.tables e below (s₁.setTop (mkF m 12 #[.val (.ref a0c), .val (.int 0), .val (.ref a2b), .val (.int 0), .val (.int 5), .val (.int 0), .unset] [(.int 0), (.ref a0c)])) _
    refine X0.caload hx (j := (0 : Int32)) (v := (.int c0)) (by rw [e0]; exact Ar1.1) (State.isArrayOf_alike hZ.alike Ar1.2.1) Ar1.2.2 hin1 hat1 (g := (mkF m 12 #[.val (.ref a0c), .val (.int 0), .val (.ref a2b), .val (.int 0), .val (.int 5), .val (.int 0), .unset] [(.int 0), (.ref a0c)])) rfl rfl (hb hby d12_12) _ ?_
    show Steps p.tables e below (s₁.setTop (mkF m 13 #[.val (.ref a0c), .val (.int 0), .val (.ref a2b), .val (.int 0), .val (.int 5), .val (.int 0), .unset] [(.int c0)])) _
    refine XS.istore X0.here hx rfl (hb hby d12_13) rfl (l' := #[.val (.ref a0c), .val (.int 0), .val (.ref a2b), .val (.int 0), .val (.int 5), .val (.int 0), .val (.int c0)]) rfl ?_
    refine XS.iload X0.here hx rfl (hb hby d12_15) rfl ?_
    refine XS.sipush X0.here hx rfl (hb hby d12_17) ?_
    refine XS.icmpYes X0.here hx rfl (pc0 := 20) (pc' := 26) rfl (hb hby d12_20) rfl (flt hc0).2.2.2 (by decide) (by decide) ?_
    show Steps p.tables e below (s₁.setTop (mkF m 26 #[.val (.ref a0c), .val (.int 0), .val (.ref a2b), .val (.int 0), .val (.int 5), .val (.int 0), .val (.int c0)] [])) _
    refine XS.aloadN X0.here hx rfl (hb hby d12_26) rfl rfl ?_
    refine XS.iloadN X0.here hx rfl (hb hby d12_27) rfl ?_
    refine XS.iload X0.here hx rfl (hb hby d12_28) rfl ?_
    refine XS.i2b X0.here hx rfl (hb hby d12_30) rfl ?_
    show Steps p.tables e below (s₁.setTop (mkF m 31 #[.val (.ref a0c), .val (.int 0), .val (.ref a2b), .val (.int 0), .val (.int 5), .val (.int 0), .val (.int c0)] [(.int (c0.toInt8.toInt32)), (.int 0), (.ref a2b)])) _
    refine st2 _ ?_
    show Steps p.tables e below (T2.setTop (mkF m 32 #[.val (.ref a0c), .val (.int 0), .val (.ref a2b), .val (.int 0), .val (.int 5), .val (.int 0), .val (.int c0)] [])) _
    refine XS.iinc X2.here hx rfl (hb hby d12_32) rfl (l' := #[.val (.ref a0c), .val (.int 1), .val (.ref a2b), .val (.int 0), .val (.int 5), .val (.int 0), .val (.int c0)]) rfl ?_
    refine XS.iinc X2.here hx rfl (hb hby d12_35) rfl (l' := #[.val (.ref a0c), .val (.int 1), .val (.ref a2b), .val (.int 1), .val (.int 5), .val (.int 0), .val (.int c0)]) rfl ?_
    refine XS.iinc X2.here hx rfl (hb hby d12_38) rfl (l' := #[.val (.ref a0c), .val (.int 1), .val (.ref a2b), .val (.int 1), .val (.int 5), .val (.int 1), .val (.int c0)]) rfl ?_
    refine XS.goto X2.here hx rfl (pc0 := 41) (pc' := 3) rfl (hb hby d12_41) (by decide) (by decide) ?_
    show Steps p.tables e below (T2.setTop (mkF m 3 #[.val (.ref a0c), .val (.int 1), .val (.ref a2b), .val (.int 1), .val (.int 5), .val (.int 1), .val (.int c0)] [])) _
    refine XS.iload X2.here hx rfl (hb hby d12_3) rfl ?_
    refine XS.iload X2.here hx rfl (hb hby d12_5) rfl ?_
    refine XS.icmpNo X2.here hx rfl (hb hby d12_7) rfl (tlt (by decide : (1 : Int32) < (5 : Int32))).2.1 ?_
    refine XS.aloadN X2.here hx rfl (hb hby d12_10) rfl rfl ?_
    show Steps p.tables e below (T2.setTop (mkF m 11 #[.val (.ref a0c), .val (.int 1), .val (.ref a2b), .val (.int 1), .val (.int 5), .val (.int 1), .val (.int c0)] [(.ref a0c)])) _
    refine XS.iloadN X2.here hx rfl (hb hby d12_11) rfl ?_
    show Steps p.tables e below (T2.setTop (mkF m 12 #[.val (.ref a0c), .val (.int 1), .val (.ref a2b), .val (.int 1), .val (.int 5), .val (.int 1), .val (.int c0)] [(.int 1), (.ref a0c)])) _
    refine X2.caload hx (j := (1 : Int32)) (v := (.int c1)) (by rw [e2]; exact Ar3.1) (State.isArrayOf_alike hZ.alike Ar3.2.1) Ar3.2.2 hin3 hat3 (g := (mkF m 12 #[.val (.ref a0c), .val (.int 1), .val (.ref a2b), .val (.int 1), .val (.int 5), .val (.int 1), .val (.int c0)] [(.int 1), (.ref a0c)])) rfl rfl (hb hby d12_12) _ ?_
    show Steps p.tables e below (T2.setTop (mkF m 13 #[.val (.ref a0c), .val (.int 1), .val (.ref a2b), .val (.int 1), .val (.int 5), .val (.int 1), .val (.int c0)] [(.int c1)])) _
    refine XS.istore X2.here hx rfl (hb hby d12_13) rfl (l' := #[.val (.ref a0c), .val (.int 1), .val (.ref a2b), .val (.int 1), .val (.int 5), .val (.int 1), .val (.int c1)]) rfl ?_
    refine XS.iload X2.here hx rfl (hb hby d12_15) rfl ?_
    refine XS.sipush X2.here hx rfl (hb hby d12_17) ?_
    refine XS.icmpYes X2.here hx rfl (pc0 := 20) (pc' := 26) rfl (hb hby d12_20) rfl (flt hc1).2.2.2 (by decide) (by decide) ?_
    show Steps p.tables e below (T2.setTop (mkF m 26 #[.val (.ref a0c), .val (.int 1), .val (.ref a2b), .val (.int 1), .val (.int 5), .val (.int 1), .val (.int c1)] [])) _
    refine XS.aloadN X2.here hx rfl (hb hby d12_26) rfl rfl ?_
    refine XS.iloadN X2.here hx rfl (hb hby d12_27) rfl ?_
    refine XS.iload X2.here hx rfl (hb hby d12_28) rfl ?_
    refine XS.i2b X2.here hx rfl (hb hby d12_30) rfl ?_
    show Steps p.tables e below (T2.setTop (mkF m 31 #[.val (.ref a0c), .val (.int 1), .val (.ref a2b), .val (.int 1), .val (.int 5), .val (.int 1), .val (.int c1)] [(.int (c1.toInt8.toInt32)), (.int 1), (.ref a2b)])) _
    refine st4 _ ?_
    show Steps p.tables e below (T4.setTop (mkF m 32 #[.val (.ref a0c), .val (.int 1), .val (.ref a2b), .val (.int 1), .val (.int 5), .val (.int 1), .val (.int c1)] [])) _
    refine XS.iinc X4.here hx rfl (hb hby d12_32) rfl (l' := #[.val (.ref a0c), .val (.int 2), .val (.ref a2b), .val (.int 1), .val (.int 5), .val (.int 1), .val (.int c1)]) rfl ?_
    refine XS.iinc X4.here hx rfl (hb hby d12_35) rfl (l' := #[.val (.ref a0c), .val (.int 2), .val (.ref a2b), .val (.int 2), .val (.int 5), .val (.int 1), .val (.int c1)]) rfl ?_
    refine XS.iinc X4.here hx rfl (hb hby d12_38) rfl (l' := #[.val (.ref a0c), .val (.int 2), .val (.ref a2b), .val (.int 2), .val (.int 5), .val (.int 2), .val (.int c1)]) rfl ?_
    refine XS.goto X4.here hx rfl (pc0 := 41) (pc' := 3) rfl (hb hby d12_41) (by decide) (by decide) ?_
    show Steps p.tables e below (T4.setTop (mkF m 3 #[.val (.ref a0c), .val (.int 2), .val (.ref a2b), .val (.int 2), .val (.int 5), .val (.int 2), .val (.int c1)] [])) _
    refine XS.iload X4.here hx rfl (hb hby d12_3) rfl ?_
    refine XS.iload X4.here hx rfl (hb hby d12_5) rfl ?_
    refine XS.icmpNo X4.here hx rfl (hb hby d12_7) rfl (tlt (by decide : (2 : Int32) < (5 : Int32))).2.1 ?_
    refine XS.aloadN X4.here hx rfl (hb hby d12_10) rfl rfl ?_
    show Steps p.tables e below (T4.setTop (mkF m 11 #[.val (.ref a0c), .val (.int 2), .val (.ref a2b), .val (.int 2), .val (.int 5), .val (.int 2), .val (.int c1)] [(.ref a0c)])) _
    refine XS.iloadN X4.here hx rfl (hb hby d12_11) rfl ?_
    show Steps p.tables e below (T4.setTop (mkF m 12 #[.val (.ref a0c), .val (.int 2), .val (.ref a2b), .val (.int 2), .val (.int 5), .val (.int 2), .val (.int c1)] [(.int 2), (.ref a0c)])) _
    refine X4.caload hx (j := (2 : Int32)) (v := (.int c2)) (by rw [e4]; exact Ar5.1) (State.isArrayOf_alike hZ.alike Ar5.2.1) Ar5.2.2 hin5 hat5 (g := (mkF m 12 #[.val (.ref a0c), .val (.int 2), .val (.ref a2b), .val (.int 2), .val (.int 5), .val (.int 2), .val (.int c1)] [(.int 2), (.ref a0c)])) rfl rfl (hb hby d12_12) _ ?_
    show Steps p.tables e below (T4.setTop (mkF m 13 #[.val (.ref a0c), .val (.int 2), .val (.ref a2b), .val (.int 2), .val (.int 5), .val (.int 2), .val (.int c1)] [(.int c2)])) _
    refine XS.istore X4.here hx rfl (hb hby d12_13) rfl (l' := #[.val (.ref a0c), .val (.int 2), .val (.ref a2b), .val (.int 2), .val (.int 5), .val (.int 2), .val (.int c2)]) rfl ?_
    refine XS.iload X4.here hx rfl (hb hby d12_15) rfl ?_
    refine XS.sipush X4.here hx rfl (hb hby d12_17) ?_
    refine XS.icmpYes X4.here hx rfl (pc0 := 20) (pc' := 26) rfl (hb hby d12_20) rfl (flt hc2).2.2.2 (by decide) (by decide) ?_
    show Steps p.tables e below (T4.setTop (mkF m 26 #[.val (.ref a0c), .val (.int 2), .val (.ref a2b), .val (.int 2), .val (.int 5), .val (.int 2), .val (.int c2)] [])) _
    refine XS.aloadN X4.here hx rfl (hb hby d12_26) rfl rfl ?_
    refine XS.iloadN X4.here hx rfl (hb hby d12_27) rfl ?_
    refine XS.iload X4.here hx rfl (hb hby d12_28) rfl ?_
    refine XS.i2b X4.here hx rfl (hb hby d12_30) rfl ?_
    show Steps p.tables e below (T4.setTop (mkF m 31 #[.val (.ref a0c), .val (.int 2), .val (.ref a2b), .val (.int 2), .val (.int 5), .val (.int 2), .val (.int c2)] [(.int (c2.toInt8.toInt32)), (.int 2), (.ref a2b)])) _
    refine st6 _ ?_
    show Steps p.tables e below (T6.setTop (mkF m 32 #[.val (.ref a0c), .val (.int 2), .val (.ref a2b), .val (.int 2), .val (.int 5), .val (.int 2), .val (.int c2)] [])) _
    refine XS.iinc X6.here hx rfl (hb hby d12_32) rfl (l' := #[.val (.ref a0c), .val (.int 3), .val (.ref a2b), .val (.int 2), .val (.int 5), .val (.int 2), .val (.int c2)]) rfl ?_
    refine XS.iinc X6.here hx rfl (hb hby d12_35) rfl (l' := #[.val (.ref a0c), .val (.int 3), .val (.ref a2b), .val (.int 3), .val (.int 5), .val (.int 2), .val (.int c2)]) rfl ?_
    refine XS.iinc X6.here hx rfl (hb hby d12_38) rfl (l' := #[.val (.ref a0c), .val (.int 3), .val (.ref a2b), .val (.int 3), .val (.int 5), .val (.int 3), .val (.int c2)]) rfl ?_
    refine XS.goto X6.here hx rfl (pc0 := 41) (pc' := 3) rfl (hb hby d12_41) (by decide) (by decide) ?_
    show Steps p.tables e below (T6.setTop (mkF m 3 #[.val (.ref a0c), .val (.int 3), .val (.ref a2b), .val (.int 3), .val (.int 5), .val (.int 3), .val (.int c2)] [])) _
    refine XS.iload X6.here hx rfl (hb hby d12_3) rfl ?_
    refine XS.iload X6.here hx rfl (hb hby d12_5) rfl ?_
    refine XS.icmpNo X6.here hx rfl (hb hby d12_7) rfl (tlt (by decide : (3 : Int32) < (5 : Int32))).2.1 ?_
    refine XS.aloadN X6.here hx rfl (hb hby d12_10) rfl rfl ?_
    show Steps p.tables e below (T6.setTop (mkF m 11 #[.val (.ref a0c), .val (.int 3), .val (.ref a2b), .val (.int 3), .val (.int 5), .val (.int 3), .val (.int c2)] [(.ref a0c)])) _
    refine XS.iloadN X6.here hx rfl (hb hby d12_11) rfl ?_
    show Steps p.tables e below (T6.setTop (mkF m 12 #[.val (.ref a0c), .val (.int 3), .val (.ref a2b), .val (.int 3), .val (.int 5), .val (.int 3), .val (.int c2)] [(.int 3), (.ref a0c)])) _
    refine X6.caload hx (j := (3 : Int32)) (v := (.int c3)) (by rw [e6]; exact Ar7.1) (State.isArrayOf_alike hZ.alike Ar7.2.1) Ar7.2.2 hin7 hat7 (g := (mkF m 12 #[.val (.ref a0c), .val (.int 3), .val (.ref a2b), .val (.int 3), .val (.int 5), .val (.int 3), .val (.int c2)] [(.int 3), (.ref a0c)])) rfl rfl (hb hby d12_12) _ ?_
    show Steps p.tables e below (T6.setTop (mkF m 13 #[.val (.ref a0c), .val (.int 3), .val (.ref a2b), .val (.int 3), .val (.int 5), .val (.int 3), .val (.int c2)] [(.int c3)])) _
    refine XS.istore X6.here hx rfl (hb hby d12_13) rfl (l' := #[.val (.ref a0c), .val (.int 3), .val (.ref a2b), .val (.int 3), .val (.int 5), .val (.int 3), .val (.int c3)]) rfl ?_
    refine XS.iload X6.here hx rfl (hb hby d12_15) rfl ?_
    refine XS.sipush X6.here hx rfl (hb hby d12_17) ?_
    refine XS.icmpYes X6.here hx rfl (pc0 := 20) (pc' := 26) rfl (hb hby d12_20) rfl (flt hc3).2.2.2 (by decide) (by decide) ?_
    show Steps p.tables e below (T6.setTop (mkF m 26 #[.val (.ref a0c), .val (.int 3), .val (.ref a2b), .val (.int 3), .val (.int 5), .val (.int 3), .val (.int c3)] [])) _
    refine XS.aloadN X6.here hx rfl (hb hby d12_26) rfl rfl ?_
    refine XS.iloadN X6.here hx rfl (hb hby d12_27) rfl ?_
    refine XS.iload X6.here hx rfl (hb hby d12_28) rfl ?_
    refine XS.i2b X6.here hx rfl (hb hby d12_30) rfl ?_
    show Steps p.tables e below (T6.setTop (mkF m 31 #[.val (.ref a0c), .val (.int 3), .val (.ref a2b), .val (.int 3), .val (.int 5), .val (.int 3), .val (.int c3)] [(.int (c3.toInt8.toInt32)), (.int 3), (.ref a2b)])) _
    refine st8 _ ?_
    show Steps p.tables e below (T8.setTop (mkF m 32 #[.val (.ref a0c), .val (.int 3), .val (.ref a2b), .val (.int 3), .val (.int 5), .val (.int 3), .val (.int c3)] [])) _
    refine XS.iinc X8.here hx rfl (hb hby d12_32) rfl (l' := #[.val (.ref a0c), .val (.int 4), .val (.ref a2b), .val (.int 3), .val (.int 5), .val (.int 3), .val (.int c3)]) rfl ?_
    refine XS.iinc X8.here hx rfl (hb hby d12_35) rfl (l' := #[.val (.ref a0c), .val (.int 4), .val (.ref a2b), .val (.int 4), .val (.int 5), .val (.int 3), .val (.int c3)]) rfl ?_
    refine XS.iinc X8.here hx rfl (hb hby d12_38) rfl (l' := #[.val (.ref a0c), .val (.int 4), .val (.ref a2b), .val (.int 4), .val (.int 5), .val (.int 4), .val (.int c3)]) rfl ?_
    refine XS.goto X8.here hx rfl (pc0 := 41) (pc' := 3) rfl (hb hby d12_41) (by decide) (by decide) ?_
    show Steps p.tables e below (T8.setTop (mkF m 3 #[.val (.ref a0c), .val (.int 4), .val (.ref a2b), .val (.int 4), .val (.int 5), .val (.int 4), .val (.int c3)] [])) _
    refine XS.iload X8.here hx rfl (hb hby d12_3) rfl ?_
    refine XS.iload X8.here hx rfl (hb hby d12_5) rfl ?_
    refine XS.icmpNo X8.here hx rfl (hb hby d12_7) rfl (tlt (by decide : (4 : Int32) < (5 : Int32))).2.1 ?_
    refine XS.aloadN X8.here hx rfl (hb hby d12_10) rfl rfl ?_
    show Steps p.tables e below (T8.setTop (mkF m 11 #[.val (.ref a0c), .val (.int 4), .val (.ref a2b), .val (.int 4), .val (.int 5), .val (.int 4), .val (.int c3)] [(.ref a0c)])) _
    refine XS.iloadN X8.here hx rfl (hb hby d12_11) rfl ?_
    show Steps p.tables e below (T8.setTop (mkF m 12 #[.val (.ref a0c), .val (.int 4), .val (.ref a2b), .val (.int 4), .val (.int 5), .val (.int 4), .val (.int c3)] [(.int 4), (.ref a0c)])) _
    refine X8.caload hx (j := (4 : Int32)) (v := (.int c4)) (by rw [e8]; exact Ar9.1) (State.isArrayOf_alike hZ.alike Ar9.2.1) Ar9.2.2 hin9 hat9 (g := (mkF m 12 #[.val (.ref a0c), .val (.int 4), .val (.ref a2b), .val (.int 4), .val (.int 5), .val (.int 4), .val (.int c3)] [(.int 4), (.ref a0c)])) rfl rfl (hb hby d12_12) _ ?_
    show Steps p.tables e below (T8.setTop (mkF m 13 #[.val (.ref a0c), .val (.int 4), .val (.ref a2b), .val (.int 4), .val (.int 5), .val (.int 4), .val (.int c3)] [(.int c4)])) _
    refine XS.istore X8.here hx rfl (hb hby d12_13) rfl (l' := #[.val (.ref a0c), .val (.int 4), .val (.ref a2b), .val (.int 4), .val (.int 5), .val (.int 4), .val (.int c4)]) rfl ?_
    refine XS.iload X8.here hx rfl (hb hby d12_15) rfl ?_
    refine XS.sipush X8.here hx rfl (hb hby d12_17) ?_
    refine XS.icmpYes X8.here hx rfl (pc0 := 20) (pc' := 26) rfl (hb hby d12_20) rfl (flt hc4).2.2.2 (by decide) (by decide) ?_
    show Steps p.tables e below (T8.setTop (mkF m 26 #[.val (.ref a0c), .val (.int 4), .val (.ref a2b), .val (.int 4), .val (.int 5), .val (.int 4), .val (.int c4)] [])) _
    refine XS.aloadN X8.here hx rfl (hb hby d12_26) rfl rfl ?_
    refine XS.iloadN X8.here hx rfl (hb hby d12_27) rfl ?_
    refine XS.iload X8.here hx rfl (hb hby d12_28) rfl ?_
    refine XS.i2b X8.here hx rfl (hb hby d12_30) rfl ?_
    show Steps p.tables e below (T8.setTop (mkF m 31 #[.val (.ref a0c), .val (.int 4), .val (.ref a2b), .val (.int 4), .val (.int 5), .val (.int 4), .val (.int c4)] [(.int (c4.toInt8.toInt32)), (.int 4), (.ref a2b)])) _
    refine st10 _ ?_
    show Steps p.tables e below (T10.setTop (mkF m 32 #[.val (.ref a0c), .val (.int 4), .val (.ref a2b), .val (.int 4), .val (.int 5), .val (.int 4), .val (.int c4)] [])) _
    refine XS.iinc X10.here hx rfl (hb hby d12_32) rfl (l' := #[.val (.ref a0c), .val (.int 5), .val (.ref a2b), .val (.int 4), .val (.int 5), .val (.int 4), .val (.int c4)]) rfl ?_
    refine XS.iinc X10.here hx rfl (hb hby d12_35) rfl (l' := #[.val (.ref a0c), .val (.int 5), .val (.ref a2b), .val (.int 5), .val (.int 5), .val (.int 4), .val (.int c4)]) rfl ?_
    refine XS.iinc X10.here hx rfl (hb hby d12_38) rfl (l' := #[.val (.ref a0c), .val (.int 5), .val (.ref a2b), .val (.int 5), .val (.int 5), .val (.int 5), .val (.int c4)]) rfl ?_
    refine XS.goto X10.here hx rfl (pc0 := 41) (pc' := 3) rfl (hb hby d12_41) (by decide) (by decide) ?_
    show Steps p.tables e below (T10.setTop (mkF m 3 #[.val (.ref a0c), .val (.int 5), .val (.ref a2b), .val (.int 5), .val (.int 5), .val (.int 5), .val (.int c4)] [])) _
    refine XS.iload X10.here hx rfl (hb hby d12_3) rfl ?_
    refine XS.iload X10.here hx rfl (hb hby d12_5) rfl ?_
    refine XS.icmpYes X10.here hx rfl (pc0 := 7) (pc' := 44) rfl (hb hby d12_7) rfl (flt (by decide : ¬ ((5 : Int32) < (5 : Int32)))).2.1 (by decide) (by decide) ?_
    refine XS.iload X10.here hx rfl (hb hby d12_44) rfl ?_
    show Steps p.tables e below (T10.setTop (mkF m 46 #[.val (.ref a0c), .val (.int 5), .val (.ref a2b), .val (.int 5), .val (.int 5), .val (.int 5), .val (.int c4)] [(.int 5)])) _
    exact retI X10 hx Bd.returns (hb hby d12_46) hr
  · show Q_rmC2_5 n0 Z cS a0c a2b k0 k2 c0 c1 c2 c3 c4 h0 _ T10.heap _
    rw [e10]
    exact ⟨rfl, N10, K10, V10⟩
theorem ef_rmC1_5 (m : MethodId) (a0c : Addr) : entryFrame m #[(.ref a0c), (.int 0), (.int 5)] 6 = mkF m 0 #[.val (.ref a0c), .val (.int 0), .val (.int 5), .unset, .unset, .unset] [] := by first | (simp [entryFrame, mkF, argsToLocals, Value.category]; done) | rfl
def Q_rmC1_5 (n0 : Nat) (Z : State) (cS : Int32) (a0c : Addr) (k0 : ClassId) (c0 : Int32) (c1 : Int32) (c2 : Int32) (c3 : Int32) (c4 : Int32) (h0 : Heap) (v : Option Value) (h : Heap) (L : List Loc) : Prop := ∃ b : Addr, ∃ kb : ClassId, v = some (.ref b) ∧ Fr n0 L ∧ Keep h0 h [] ∧ (h0.size ≤ b) ∧ (Exa Z h b "[B") ∧ (Arv Z h b kb .byte (5 : Int32) [(.int (c0.toInt8.toInt32)), (.int (c1.toInt8.toInt32)), (.int (c2.toInt8.toInt32)), (.int (c3.toInt8.toInt32)), (.int (c4.toInt8.toInt32))] (.int 0))
set_option maxRecDepth 65536 in
set_option maxHeartbeats 40000000 in
theorem rmC1_5 (l : Launch) (Z : State) (a0 : Array Value) (hw : ∀ d ∈ tables_1, d.before a0 Z = true) (ws : List Jvm.Cond) (cS : Int32) (a0c : Addr) (k0 : ClassId) (c0 : Int32) (c1 : Int32) (c2 : Int32) (c3 : Int32) (c4 : Int32) (h0 : Heap) (n0 : Nat) (O0 : Old Z n0 h0) (GL : GF Z cS) (V_a0c : Arv Z h0 a0c k0 .char (5 : Int32) [(.int c0), (.int c1), (.int c2), (.int c3), (.int c4)] (.int 0)) (hc0 : ¬ ((255 : Int32) < c0)) (hc1 : ¬ ((255 : Int32) < c1)) (hc2 : ¬ ((255 : Int32) < c2)) (hc3 : ¬ ((255 : Int32) < c3)) (hc4 : ¬ ((255 : Int32) < c4)) :
    MetFree l MN_1 (head1 (Jvm.Cond.code MN_1 jdk_52_method_16_code 6 (some (.array .byte)) :: ws) ({ frames := 1, cells := 1, slots := 5, locals := 18 } : Room)) (fun a U => a = #[(.ref a0c), (.int 0), (.int 5)] ∧ Z.Warmed39 U.vm ∧ U.heap = h0) (fun _ _ _ _ _ => True) (fun _ U o U' => ∃ v L, o = .returned v ∧ Q_rmC1_5 n0 Z cS a0c k0 c0 c1 c2 c3 c4 h0 v U'.heap L ∧ FrameEnd U o U' L ({ frames := 1, cells := 1, slots := 5, locals := 18 } : Room).cells ({ frames := 1, cells := 1, slots := 5, locals := 18 } : Room).slots) := by
  refine MetFree.of_bodySF (plainFor_of_name pn) hisR ?_
  intro p e s m args below meth c s₁ Bd hml0 hP hK
  obtain ⟨rfl, hZ, hh⟩ := hP
  have hx := Bd.exec
  have hby := Bd.bytes
  have hml : c.maxLocals = 6 := hml0
  have hown : s.vm.findClass "java/lang/StringUTF16" = some m.cls := findClass_of_methodNamed Bd.named
  have hnm := (name_of_methodNamed Bd.named Bd.method).1
  have X0 : Stand p l e ({ frames := 1, cells := 1, slots := 5, locals := 18 } : Room) s m #[(.ref a0c), (.int 0), (.int 5)] below meth c s₁ [] 0 0 := Stand.of_body Bd
  have e0 : s₁.heap = h0 := by rw [← hh, Bd.state]; rfl
  have N0 := Fr.nil n0
  have pre0 : ∀ t, Steps p.tables e below (s₁.setTop (mkF m 0 #[.val (.ref a0c), .val (.int 0), .val (.int 5), .unset, .unset, .unset] [])) t → Steps p.tables e below (s₁.setTop (entryFrame m #[(.ref a0c), (.int 0), (.int 5)] 6)) t := fun t k => castTop (ef_rmC1_5 m a0c) k
  have GL' := GL
  obtain ⟨GCS, GCP⟩ := GL'
  obtain ⟨T1, h1, k1, X1, e1, E1, A1, A1', st1⟩ := newPE X0 hx hZ (Wd hw 23 rfl) e0 (g := (mkF m 1 #[.val (.ref a0c), .val (.int 0), .val (.int 5), .unset, .unset, .unset] [(.int 5)])) rfl (hb hby d11_1) rfl (by decide) (cap := 5) (by decide) (by decide) (by decide) (by decide) (ad := "[B") rfl
  obtain ⟨b1, g1⟩ : ∃ z, z = h0.size := ⟨_, rfl⟩
  rw [← g1] at A1 A1' st1
  have g_b1 : n0 ≤ b1 := Nat.le_trans (own_sz O0) (Nat.le_of_eq g1.symm)
  have sz_b1 : h0.size ≤ b1 := Nat.le_trans (Keep.refl h0 []).1 (Nat.le_of_eq g1.symm)
  have K1 : Keep h0 h1 [] := (Keep.refl h0 []).ext E1
  have O1 := O0.ext E1
  have V_b1 : Arv Z h1 b1 k1 .byte (5 : Int32) [(.int 0), (.int 0), (.int 0), (.int 0), (.int 0)] (.int 0) := (Arv.new A1 (by decide)).pad (pad_rep [] (.int 0) 5)
  obtain ⟨_, _, ⟨T2, L2, k2, n2⟩, -, X2, ⟨Lc2, hQ2, l2, y2, z2⟩, st2⟩ := Jvm.LawKit.callS X1 hx (y := MN_0) hown (mvT hZ (Wd hw 61 rfl)) (mvT hZ (Wd hw 62 rfl)) (mvT hZ (Wd hw 59 rfl)) (mvT hZ (Wd hw 63 rfl)) (by decide) (backOf (W := 0) (rmC2_5 l Z a0 hw [] cS (a0c) (b1) (k0) (k1) (c0) (c1) (c2) (c3) (c4) (h1) n0 O1 GL (V_a0c.ext E1) V_b1 g_b1 hc0 hc1 hc2 hc3 hc4) hZ (Wd hw 63 rfl) (Wd hw 59 rfl) (by decide) (by decide)) (g := (mkF m 9 #[.val (.ref a0c), .val (.int 0), .val (.int 5), .val (.ref b1), .unset, .unset] [(.int 5), (.int 0), (.ref b1), (.int 0), (.ref a0c)])) rfl (by rw [hml]; rfl) (argsL := [(.ref a0c), (.int 0), (.ref b1), (.int 0), (.int 5)]) (rest := []) (lenOf pd rfl) rfl (by show 2 * 0 + _ ≤ _; exact Nat.le_of_eq rfl) (hb hby d11_9) (fun _ _ => ⟨rfl, e1, (by decide : 1 + 0 ≤ _), (by decide : 5 + 0 ≤ _)⟩)
  dsimp only [Pt.U, Pt.locs, Pt.cells, Pt.slots] at X2 l2 y2 z2 st2 hQ2
  subst l2 y2 z2
  obtain ⟨rfl, N2q, Kc2, P2_0⟩ := hQ2
  have K2 : Keep h0 T2.heap [] := K1.trans Kc2 (allS (Or.inr sz_b1) all0)
  have O2 := O1.keep Kc2 (allS g_b1 all0)
  have N2 := Fr.app N0 N2q
  obtain ⟨fs, hr, hrun, hended, hW, hsame⟩ := X2.leave (v := some (.ref b1)) (fun h => by rw [Bd.returns] at h; cases h)
  refine ⟨_, _, pre0 _ ?_, hrun, hended, _, _, rfl, ?_, ⟨_, rfl⟩, hW, hsame.mono (by decide) (by decide)⟩
  · show Steps p.tables e below (s₁.setTop (mkF m 0 #[.val (.ref a0c), .val (.int 0), .val (.int 5), .unset, .unset, .unset] [])) _
    refine XS.iloadN X0.here hx rfl (hb hby d11_0) rfl ?_
    show Steps p.tables e below (s₁.setTop (mkF m 1 #[.val (.ref a0c), .val (.int 0), .val (.int 5), .unset, .unset, .unset] [(.int 5)])) _
    refine st1 _ ?_
    show Steps p.tables e below (T1.setTop (mkF m 3 #[.val (.ref a0c), .val (.int 0), .val (.int 5), .unset, .unset, .unset] [(.ref b1)])) _
    refine XS.astoreN X1.here hx rfl (hb hby d11_3) rfl rfl (l' := #[.val (.ref a0c), .val (.int 0), .val (.int 5), .val (.ref b1), .unset, .unset]) rfl ?_
    refine XS.aloadN X1.here hx rfl (hb hby d11_4) rfl rfl ?_
    refine XS.iloadN X1.here hx rfl (hb hby d11_5) rfl ?_
    refine XS.aloadN X1.here hx rfl (hb hby d11_6) rfl rfl ?_
    show Steps p.tables e below (T1.setTop (mkF m 7 #[.val (.ref a0c), .val (.int 0), .val (.int 5), .val (.ref b1), .unset, .unset] [(.ref b1), (.int 0), (.ref a0c)])) _
    refine XS.iconst X1.here hx rfl (hb hby d11_7) ?_
    refine XS.iloadN X1.here hx rfl (hb hby d11_8) rfl ?_
    show Steps p.tables e below (T1.setTop (mkF m 9 #[.val (.ref a0c), .val (.int 0), .val (.int 5), .val (.ref b1), .unset, .unset] [(.int 5), (.int 0), (.ref b1), (.int 0), (.ref a0c)])) _
    refine st2 _ ?_
    show Steps p.tables e below (T2.setTop (mkF m 12 #[.val (.ref a0c), .val (.int 0), .val (.int 5), .val (.ref b1), .unset, .unset] [(.int 5)])) _
    refine XS.istore X2.here hx rfl (hb hby d11_12) rfl (l' := #[.val (.ref a0c), .val (.int 0), .val (.int 5), .val (.ref b1), .val (.int 5), .unset]) rfl ?_
    refine XS.iload X2.here hx rfl (hb hby d11_14) rfl ?_
    refine XS.iloadN X2.here hx rfl (hb hby d11_16) rfl ?_
    refine XS.icmpYes X2.here hx rfl (pc0 := 17) (pc' := 57) rfl (hb hby d11_17) rfl (teq (by decide : (5 : Int32) = (5 : Int32))).1 (by decide) (by decide) ?_
    show Steps p.tables e below (T2.setTop (mkF m 57 #[.val (.ref a0c), .val (.int 0), .val (.int 5), .val (.ref b1), .val (.int 5), .unset] [])) _
    refine XS.aloadN X2.here hx rfl (hb hby d11_57) rfl rfl ?_
    show Steps p.tables e below (T2.setTop (mkF m 58 #[.val (.ref a0c), .val (.int 0), .val (.int 5), .val (.ref b1), .val (.int 5), .unset] [(.ref b1)])) _
    jvm_step X2.here [X2.here.top, hx, (hb hby d11_58), X2.method', Bd.returns, Value.isRef, FieldType.isReference]
    first | (intro acts; rw [hr _ acts rfl rfl rfl]) | rw [hr _ _ rfl rfl rfl]
    exact Steps.refl _
  · show Q_rmC1_5 n0 Z cS a0c k0 c0 c1 c2 c3 c4 h0 _ T2.heap _
    exact ⟨b1, k1, rfl, N2, K2, sz_b1, (A1'.keep Kc2), P2_0⟩
theorem d13_0 : decode jdk_52_method_15_code 0 = .ok (.iload_n 1, 1) := by decide +kernel
theorem d13_1 : decode jdk_52_method_15_code 1 = .ok (.aload_n 0, 1) := by decide +kernel
theorem d13_2 : decode jdk_52_method_15_code 2 = .ok (.arraylength, 1) := by decide +kernel
theorem d13_3 : decode jdk_52_method_15_code 3 = .ok (.isub, 1) := by decide +kernel
theorem d13_4 : decode jdk_52_method_15_code 4 = .ok (.bipush 31, 2) := by decide +kernel
theorem d13_6 : decode jdk_52_method_15_code 6 = .ok (.iushr, 1) := by decide +kernel
theorem d13_7 : decode jdk_52_method_15_code 7 = .ok (.i2b, 1) := by decide +kernel
theorem d13_8 : decode jdk_52_method_15_code 8 = .ok (.ireturn, 1) := by decide +kernel
abbrev MN_2 : MethodName := ⟨"java/lang/StringUTF16", "coderFromArrayLen", "([BI)B"⟩
theorem ef_rmCfa1_1 (m : MethodId) (a0b : Addr) : entryFrame m #[(.ref a0b), (.int 1)] 2 = mkF m 0 #[.val (.ref a0b), .val (.int 1)] [] := by first | (simp [entryFrame, mkF, argsToLocals, Value.category]; done) | rfl
def Q_rmCfa1_1 (n0 : Nat) (Z : State) (cS : Int32) (a0b : Addr) (k0 : ClassId) (vs : List Value) (h0 : Heap) (v : Option Value) (h : Heap) (L : List Loc) : Prop := v = some (.int 0) ∧ Fr n0 L ∧ h = h0
set_option maxRecDepth 65536 in
set_option maxHeartbeats 40000000 in
theorem rmCfa1_1 (l : Launch) (Z : State) (a0 : Array Value) (hw : ∀ d ∈ tables_1, d.before a0 Z = true) (ws : List Jvm.Cond) (cS : Int32) (a0b : Addr) (k0 : ClassId) (vs : List Value) (h0 : Heap) (n0 : Nat) (O0 : Old Z n0 h0) (GL : GF Z cS) (V_a0b : Arv Z h0 a0b k0 .byte (1 : Int32) vs (.int 0)) :
    MetFree l MN_2 (head1 (Jvm.Cond.code MN_2 jdk_52_method_15_code 2 (some .byte) :: ws) ({ frames := 0, cells := 0, slots := 0, locals := 0 } : Room)) (fun a U => a = #[(.ref a0b), (.int 1)] ∧ Z.Warmed39 U.vm ∧ U.heap = h0) (fun _ _ _ _ _ => True) (fun _ U o U' => ∃ v L, o = .returned v ∧ Q_rmCfa1_1 n0 Z cS a0b k0 vs h0 v U'.heap L ∧ FrameEnd U o U' L ({ frames := 0, cells := 0, slots := 0, locals := 0 } : Room).cells ({ frames := 0, cells := 0, slots := 0, locals := 0 } : Room).slots) := by
  refine MetFree.of_bodySF (plainFor_of_name pn) hisR ?_
  intro p e s m args below meth c s₁ Bd hml0 hP hK
  obtain ⟨rfl, hZ, hh⟩ := hP
  have hx := Bd.exec
  have hby := Bd.bytes
  have hml : c.maxLocals = 2 := hml0
  have hown : s.vm.findClass "java/lang/StringUTF16" = some m.cls := findClass_of_methodNamed Bd.named
  have hnm := (name_of_methodNamed Bd.named Bd.method).1
  have X0 : Stand p l e ({ frames := 0, cells := 0, slots := 0, locals := 0 } : Room) s m #[(.ref a0b), (.int 1)] below meth c s₁ [] 0 0 := Stand.of_body Bd
  have e0 : s₁.heap = h0 := by rw [← hh, Bd.state]; rfl
  have N0 := Fr.nil n0
  have pre0 : ∀ t, Steps p.tables e below (s₁.setTop (mkF m 0 #[.val (.ref a0b), .val (.int 1)] [])) t → Steps p.tables e below (s₁.setTop (entryFrame m #[(.ref a0b), (.int 1)] 2)) t := fun t k => castTop (ef_rmCfa1_1 m a0b) k
  have GL' := GL
  obtain ⟨GCS, GCP⟩ := GL'
  obtain ⟨cl1, Ar1, -, S1, N1_, -, -⟩ := id (V_a0b)
  obtain ⟨fs, hr, hrun, hended, hW, hsame⟩ := X0.leave (v := some (.int 0)) (fun h => by rw [Bd.returns] at h; cases h)
  refine ⟨_, _, pre0 _ ?_, hrun, hended, _, _, rfl, ?_, ⟨_, rfl⟩, hW, hsame.mono (by decide) (by decide)⟩
  · show Steps p.tables e below (s₁.setTop (mkF m 0 #[.val (.ref a0b), .val (.int 1)] [])) _
    refine XS.iloadN X0.here hx rfl (hb hby d13_0) rfl ?_
    refine XS.aloadN X0.here hx rfl (hb hby d13_1) rfl rfl ?_
    show Steps p.tables e below (s₁.setTop (mkF m 2 #[.val (.ref a0b), .val (.int 1)] [(.ref a0b), (.int 1)])) _
    refine X0.arraylength hx (by rw [e0]; exact Ar1.1) (State.isArrayOf_alike hZ.alike Ar1.2.1) (g := (mkF m 2 #[.val (.ref a0b), .val (.int 1)] [(.ref a0b), (.int 1)])) rfl rfl (hb hby d13_2) _ ?_
    rw [len_of S1 N1_]
    show Steps p.tables e below (s₁.setTop (mkF m 3 #[.val (.ref a0b), .val (.int 1)] [(.int 1), (.int 1)])) _
    refine XS.isub X0.here hx rfl (hb hby d13_3) rfl ?_
    refine XS.bipush X0.here hx rfl (hb hby d13_4) ?_
    refine XS.iushr X0.here hx rfl (hb hby d13_6) rfl ?_
    refine XS.i2b X0.here hx rfl (hb hby d13_7) rfl ?_
    show Steps p.tables e below (s₁.setTop (mkF m 8 #[.val (.ref a0b), .val (.int 1)] [(.int 0)])) _
    exact retN X0 hx (t := .byte) Bd.returns (by simp) (hb hby d13_8) hr
  · show Q_rmCfa1_1 n0 Z cS a0b k0 vs h0 _ s₁.heap _
    rw [e0]
    exact ⟨rfl, N0, rfl⟩
theorem ef_rmCfa2_2 (m : MethodId) (a0b : Addr) : entryFrame m #[(.ref a0b), (.int 2)] 2 = mkF m 0 #[.val (.ref a0b), .val (.int 2)] [] := by first | (simp [entryFrame, mkF, argsToLocals, Value.category]; done) | rfl
def Q_rmCfa2_2 (n0 : Nat) (Z : State) (cS : Int32) (a0b : Addr) (k0 : ClassId) (vs : List Value) (h0 : Heap) (v : Option Value) (h : Heap) (L : List Loc) : Prop := v = some (.int 0) ∧ Fr n0 L ∧ h = h0
set_option maxRecDepth 65536 in
set_option maxHeartbeats 40000000 in
theorem rmCfa2_2 (l : Launch) (Z : State) (a0 : Array Value) (hw : ∀ d ∈ tables_1, d.before a0 Z = true) (ws : List Jvm.Cond) (cS : Int32) (a0b : Addr) (k0 : ClassId) (vs : List Value) (h0 : Heap) (n0 : Nat) (O0 : Old Z n0 h0) (GL : GF Z cS) (V_a0b : Arv Z h0 a0b k0 .byte (2 : Int32) vs (.int 0)) :
    MetFree l MN_2 (head1 (Jvm.Cond.code MN_2 jdk_52_method_15_code 2 (some .byte) :: ws) ({ frames := 0, cells := 0, slots := 0, locals := 0 } : Room)) (fun a U => a = #[(.ref a0b), (.int 2)] ∧ Z.Warmed39 U.vm ∧ U.heap = h0) (fun _ _ _ _ _ => True) (fun _ U o U' => ∃ v L, o = .returned v ∧ Q_rmCfa2_2 n0 Z cS a0b k0 vs h0 v U'.heap L ∧ FrameEnd U o U' L ({ frames := 0, cells := 0, slots := 0, locals := 0 } : Room).cells ({ frames := 0, cells := 0, slots := 0, locals := 0 } : Room).slots) := by
  refine MetFree.of_bodySF (plainFor_of_name pn) hisR ?_
  intro p e s m args below meth c s₁ Bd hml0 hP hK
  obtain ⟨rfl, hZ, hh⟩ := hP
  have hx := Bd.exec
  have hby := Bd.bytes
  have hml : c.maxLocals = 2 := hml0
  have hown : s.vm.findClass "java/lang/StringUTF16" = some m.cls := findClass_of_methodNamed Bd.named
  have hnm := (name_of_methodNamed Bd.named Bd.method).1
  have X0 : Stand p l e ({ frames := 0, cells := 0, slots := 0, locals := 0 } : Room) s m #[(.ref a0b), (.int 2)] below meth c s₁ [] 0 0 := Stand.of_body Bd
  have e0 : s₁.heap = h0 := by rw [← hh, Bd.state]; rfl
  have N0 := Fr.nil n0
  have pre0 : ∀ t, Steps p.tables e below (s₁.setTop (mkF m 0 #[.val (.ref a0b), .val (.int 2)] [])) t → Steps p.tables e below (s₁.setTop (entryFrame m #[(.ref a0b), (.int 2)] 2)) t := fun t k => castTop (ef_rmCfa2_2 m a0b) k
  have GL' := GL
  obtain ⟨GCS, GCP⟩ := GL'
  obtain ⟨cl1, Ar1, -, S1, N1_, -, -⟩ := id (V_a0b)
  obtain ⟨fs, hr, hrun, hended, hW, hsame⟩ := X0.leave (v := some (.int 0)) (fun h => by rw [Bd.returns] at h; cases h)
  refine ⟨_, _, pre0 _ ?_, hrun, hended, _, _, rfl, ?_, ⟨_, rfl⟩, hW, hsame.mono (by decide) (by decide)⟩
  · show Steps p.tables e below (s₁.setTop (mkF m 0 #[.val (.ref a0b), .val (.int 2)] [])) _
    refine XS.iloadN X0.here hx rfl (hb hby d13_0) rfl ?_
    refine XS.aloadN X0.here hx rfl (hb hby d13_1) rfl rfl ?_
    show Steps p.tables e below (s₁.setTop (mkF m 2 #[.val (.ref a0b), .val (.int 2)] [(.ref a0b), (.int 2)])) _
    refine X0.arraylength hx (by rw [e0]; exact Ar1.1) (State.isArrayOf_alike hZ.alike Ar1.2.1) (g := (mkF m 2 #[.val (.ref a0b), .val (.int 2)] [(.ref a0b), (.int 2)])) rfl rfl (hb hby d13_2) _ ?_
    rw [len_of S1 N1_]
    show Steps p.tables e below (s₁.setTop (mkF m 3 #[.val (.ref a0b), .val (.int 2)] [(.int 2), (.int 2)])) _
    refine XS.isub X0.here hx rfl (hb hby d13_3) rfl ?_
    refine XS.bipush X0.here hx rfl (hb hby d13_4) ?_
    refine XS.iushr X0.here hx rfl (hb hby d13_6) rfl ?_
    refine XS.i2b X0.here hx rfl (hb hby d13_7) rfl ?_
    show Steps p.tables e below (s₁.setTop (mkF m 8 #[.val (.ref a0b), .val (.int 2)] [(.int 0)])) _
    exact retN X0 hx (t := .byte) Bd.returns (by simp) (hb hby d13_8) hr
  · show Q_rmCfa2_2 n0 Z cS a0b k0 vs h0 _ s₁.heap _
    rw [e0]
    exact ⟨rfl, N0, rfl⟩
theorem ef_rmCfa3_3 (m : MethodId) (a0b : Addr) : entryFrame m #[(.ref a0b), (.int 3)] 2 = mkF m 0 #[.val (.ref a0b), .val (.int 3)] [] := by first | (simp [entryFrame, mkF, argsToLocals, Value.category]; done) | rfl
def Q_rmCfa3_3 (n0 : Nat) (Z : State) (cS : Int32) (a0b : Addr) (k0 : ClassId) (vs : List Value) (h0 : Heap) (v : Option Value) (h : Heap) (L : List Loc) : Prop := v = some (.int 0) ∧ Fr n0 L ∧ h = h0
set_option maxRecDepth 65536 in
set_option maxHeartbeats 40000000 in
theorem rmCfa3_3 (l : Launch) (Z : State) (a0 : Array Value) (hw : ∀ d ∈ tables_1, d.before a0 Z = true) (ws : List Jvm.Cond) (cS : Int32) (a0b : Addr) (k0 : ClassId) (vs : List Value) (h0 : Heap) (n0 : Nat) (O0 : Old Z n0 h0) (GL : GF Z cS) (V_a0b : Arv Z h0 a0b k0 .byte (3 : Int32) vs (.int 0)) :
    MetFree l MN_2 (head1 (Jvm.Cond.code MN_2 jdk_52_method_15_code 2 (some .byte) :: ws) ({ frames := 0, cells := 0, slots := 0, locals := 0 } : Room)) (fun a U => a = #[(.ref a0b), (.int 3)] ∧ Z.Warmed39 U.vm ∧ U.heap = h0) (fun _ _ _ _ _ => True) (fun _ U o U' => ∃ v L, o = .returned v ∧ Q_rmCfa3_3 n0 Z cS a0b k0 vs h0 v U'.heap L ∧ FrameEnd U o U' L ({ frames := 0, cells := 0, slots := 0, locals := 0 } : Room).cells ({ frames := 0, cells := 0, slots := 0, locals := 0 } : Room).slots) := by
  refine MetFree.of_bodySF (plainFor_of_name pn) hisR ?_
  intro p e s m args below meth c s₁ Bd hml0 hP hK
  obtain ⟨rfl, hZ, hh⟩ := hP
  have hx := Bd.exec
  have hby := Bd.bytes
  have hml : c.maxLocals = 2 := hml0
  have hown : s.vm.findClass "java/lang/StringUTF16" = some m.cls := findClass_of_methodNamed Bd.named
  have hnm := (name_of_methodNamed Bd.named Bd.method).1
  have X0 : Stand p l e ({ frames := 0, cells := 0, slots := 0, locals := 0 } : Room) s m #[(.ref a0b), (.int 3)] below meth c s₁ [] 0 0 := Stand.of_body Bd
  have e0 : s₁.heap = h0 := by rw [← hh, Bd.state]; rfl
  have N0 := Fr.nil n0
  have pre0 : ∀ t, Steps p.tables e below (s₁.setTop (mkF m 0 #[.val (.ref a0b), .val (.int 3)] [])) t → Steps p.tables e below (s₁.setTop (entryFrame m #[(.ref a0b), (.int 3)] 2)) t := fun t k => castTop (ef_rmCfa3_3 m a0b) k
  have GL' := GL
  obtain ⟨GCS, GCP⟩ := GL'
  obtain ⟨cl1, Ar1, -, S1, N1_, -, -⟩ := id (V_a0b)
  obtain ⟨fs, hr, hrun, hended, hW, hsame⟩ := X0.leave (v := some (.int 0)) (fun h => by rw [Bd.returns] at h; cases h)
  refine ⟨_, _, pre0 _ ?_, hrun, hended, _, _, rfl, ?_, ⟨_, rfl⟩, hW, hsame.mono (by decide) (by decide)⟩
  · show Steps p.tables e below (s₁.setTop (mkF m 0 #[.val (.ref a0b), .val (.int 3)] [])) _
    refine XS.iloadN X0.here hx rfl (hb hby d13_0) rfl ?_
    refine XS.aloadN X0.here hx rfl (hb hby d13_1) rfl rfl ?_
    show Steps p.tables e below (s₁.setTop (mkF m 2 #[.val (.ref a0b), .val (.int 3)] [(.ref a0b), (.int 3)])) _
    refine X0.arraylength hx (by rw [e0]; exact Ar1.1) (State.isArrayOf_alike hZ.alike Ar1.2.1) (g := (mkF m 2 #[.val (.ref a0b), .val (.int 3)] [(.ref a0b), (.int 3)])) rfl rfl (hb hby d13_2) _ ?_
    rw [len_of S1 N1_]
    show Steps p.tables e below (s₁.setTop (mkF m 3 #[.val (.ref a0b), .val (.int 3)] [(.int 3), (.int 3)])) _
    refine XS.isub X0.here hx rfl (hb hby d13_3) rfl ?_
    refine XS.bipush X0.here hx rfl (hb hby d13_4) ?_
    refine XS.iushr X0.here hx rfl (hb hby d13_6) rfl ?_
    refine XS.i2b X0.here hx rfl (hb hby d13_7) rfl ?_
    show Steps p.tables e below (s₁.setTop (mkF m 8 #[.val (.ref a0b), .val (.int 3)] [(.int 0)])) _
    exact retN X0 hx (t := .byte) Bd.returns (by simp) (hb hby d13_8) hr
  · show Q_rmCfa3_3 n0 Z cS a0b k0 vs h0 _ s₁.heap _
    rw [e0]
    exact ⟨rfl, N0, rfl⟩
theorem ef_rmCfa4_4 (m : MethodId) (a0b : Addr) : entryFrame m #[(.ref a0b), (.int 4)] 2 = mkF m 0 #[.val (.ref a0b), .val (.int 4)] [] := by first | (simp [entryFrame, mkF, argsToLocals, Value.category]; done) | rfl
def Q_rmCfa4_4 (n0 : Nat) (Z : State) (cS : Int32) (a0b : Addr) (k0 : ClassId) (vs : List Value) (h0 : Heap) (v : Option Value) (h : Heap) (L : List Loc) : Prop := v = some (.int 0) ∧ Fr n0 L ∧ h = h0
set_option maxRecDepth 65536 in
set_option maxHeartbeats 40000000 in
theorem rmCfa4_4 (l : Launch) (Z : State) (a0 : Array Value) (hw : ∀ d ∈ tables_1, d.before a0 Z = true) (ws : List Jvm.Cond) (cS : Int32) (a0b : Addr) (k0 : ClassId) (vs : List Value) (h0 : Heap) (n0 : Nat) (O0 : Old Z n0 h0) (GL : GF Z cS) (V_a0b : Arv Z h0 a0b k0 .byte (4 : Int32) vs (.int 0)) :
    MetFree l MN_2 (head1 (Jvm.Cond.code MN_2 jdk_52_method_15_code 2 (some .byte) :: ws) ({ frames := 0, cells := 0, slots := 0, locals := 0 } : Room)) (fun a U => a = #[(.ref a0b), (.int 4)] ∧ Z.Warmed39 U.vm ∧ U.heap = h0) (fun _ _ _ _ _ => True) (fun _ U o U' => ∃ v L, o = .returned v ∧ Q_rmCfa4_4 n0 Z cS a0b k0 vs h0 v U'.heap L ∧ FrameEnd U o U' L ({ frames := 0, cells := 0, slots := 0, locals := 0 } : Room).cells ({ frames := 0, cells := 0, slots := 0, locals := 0 } : Room).slots) := by
  refine MetFree.of_bodySF (plainFor_of_name pn) hisR ?_
  intro p e s m args below meth c s₁ Bd hml0 hP hK
  obtain ⟨rfl, hZ, hh⟩ := hP
  have hx := Bd.exec
  have hby := Bd.bytes
  have hml : c.maxLocals = 2 := hml0
  have hown : s.vm.findClass "java/lang/StringUTF16" = some m.cls := findClass_of_methodNamed Bd.named
  have hnm := (name_of_methodNamed Bd.named Bd.method).1
  have X0 : Stand p l e ({ frames := 0, cells := 0, slots := 0, locals := 0 } : Room) s m #[(.ref a0b), (.int 4)] below meth c s₁ [] 0 0 := Stand.of_body Bd
  have e0 : s₁.heap = h0 := by rw [← hh, Bd.state]; rfl
  have N0 := Fr.nil n0
  have pre0 : ∀ t, Steps p.tables e below (s₁.setTop (mkF m 0 #[.val (.ref a0b), .val (.int 4)] [])) t → Steps p.tables e below (s₁.setTop (entryFrame m #[(.ref a0b), (.int 4)] 2)) t := fun t k => castTop (ef_rmCfa4_4 m a0b) k
  have GL' := GL
  obtain ⟨GCS, GCP⟩ := GL'
  obtain ⟨cl1, Ar1, -, S1, N1_, -, -⟩ := id (V_a0b)
  obtain ⟨fs, hr, hrun, hended, hW, hsame⟩ := X0.leave (v := some (.int 0)) (fun h => by rw [Bd.returns] at h; cases h)
  refine ⟨_, _, pre0 _ ?_, hrun, hended, _, _, rfl, ?_, ⟨_, rfl⟩, hW, hsame.mono (by decide) (by decide)⟩
  · show Steps p.tables e below (s₁.setTop (mkF m 0 #[.val (.ref a0b), .val (.int 4)] [])) _
    refine XS.iloadN X0.here hx rfl (hb hby d13_0) rfl ?_
    refine XS.aloadN X0.here hx rfl (hb hby d13_1) rfl rfl ?_
    show Steps p.tables e below (s₁.setTop (mkF m 2 #[.val (.ref a0b), .val (.int 4)] [(.ref a0b), (.int 4)])) _
    refine X0.arraylength hx (by rw [e0]; exact Ar1.1) (State.isArrayOf_alike hZ.alike Ar1.2.1) (g := (mkF m 2 #[.val (.ref a0b), .val (.int 4)] [(.ref a0b), (.int 4)])) rfl rfl (hb hby d13_2) _ ?_
    rw [len_of S1 N1_]
    show Steps p.tables e below (s₁.setTop (mkF m 3 #[.val (.ref a0b), .val (.int 4)] [(.int 4), (.int 4)])) _
    refine XS.isub X0.here hx rfl (hb hby d13_3) rfl ?_
    refine XS.bipush X0.here hx rfl (hb hby d13_4) ?_
    refine XS.iushr X0.here hx rfl (hb hby d13_6) rfl ?_
    refine XS.i2b X0.here hx rfl (hb hby d13_7) rfl ?_
    show Steps p.tables e below (s₁.setTop (mkF m 8 #[.val (.ref a0b), .val (.int 4)] [(.int 0)])) _
    exact retN X0 hx (t := .byte) Bd.returns (by simp) (hb hby d13_8) hr
  · show Q_rmCfa4_4 n0 Z cS a0b k0 vs h0 _ s₁.heap _
    rw [e0]
    exact ⟨rfl, N0, rfl⟩
theorem ef_rmCfa5_5 (m : MethodId) (a0b : Addr) : entryFrame m #[(.ref a0b), (.int 5)] 2 = mkF m 0 #[.val (.ref a0b), .val (.int 5)] [] := by first | (simp [entryFrame, mkF, argsToLocals, Value.category]; done) | rfl
def Q_rmCfa5_5 (n0 : Nat) (Z : State) (cS : Int32) (a0b : Addr) (k0 : ClassId) (vs : List Value) (h0 : Heap) (v : Option Value) (h : Heap) (L : List Loc) : Prop := v = some (.int 0) ∧ Fr n0 L ∧ h = h0
set_option maxRecDepth 65536 in
set_option maxHeartbeats 40000000 in
theorem rmCfa5_5 (l : Launch) (Z : State) (a0 : Array Value) (hw : ∀ d ∈ tables_1, d.before a0 Z = true) (ws : List Jvm.Cond) (cS : Int32) (a0b : Addr) (k0 : ClassId) (vs : List Value) (h0 : Heap) (n0 : Nat) (O0 : Old Z n0 h0) (GL : GF Z cS) (V_a0b : Arv Z h0 a0b k0 .byte (5 : Int32) vs (.int 0)) :
    MetFree l MN_2 (head1 (Jvm.Cond.code MN_2 jdk_52_method_15_code 2 (some .byte) :: ws) ({ frames := 0, cells := 0, slots := 0, locals := 0 } : Room)) (fun a U => a = #[(.ref a0b), (.int 5)] ∧ Z.Warmed39 U.vm ∧ U.heap = h0) (fun _ _ _ _ _ => True) (fun _ U o U' => ∃ v L, o = .returned v ∧ Q_rmCfa5_5 n0 Z cS a0b k0 vs h0 v U'.heap L ∧ FrameEnd U o U' L ({ frames := 0, cells := 0, slots := 0, locals := 0 } : Room).cells ({ frames := 0, cells := 0, slots := 0, locals := 0 } : Room).slots) := by
  refine MetFree.of_bodySF (plainFor_of_name pn) hisR ?_
  intro p e s m args below meth c s₁ Bd hml0 hP hK
  obtain ⟨rfl, hZ, hh⟩ := hP
  have hx := Bd.exec
  have hby := Bd.bytes
  have hml : c.maxLocals = 2 := hml0
  have hown : s.vm.findClass "java/lang/StringUTF16" = some m.cls := findClass_of_methodNamed Bd.named
  have hnm := (name_of_methodNamed Bd.named Bd.method).1
  have X0 : Stand p l e ({ frames := 0, cells := 0, slots := 0, locals := 0 } : Room) s m #[(.ref a0b), (.int 5)] below meth c s₁ [] 0 0 := Stand.of_body Bd
  have e0 : s₁.heap = h0 := by rw [← hh, Bd.state]; rfl
  have N0 := Fr.nil n0
  have pre0 : ∀ t, Steps p.tables e below (s₁.setTop (mkF m 0 #[.val (.ref a0b), .val (.int 5)] [])) t → Steps p.tables e below (s₁.setTop (entryFrame m #[(.ref a0b), (.int 5)] 2)) t := fun t k => castTop (ef_rmCfa5_5 m a0b) k
  have GL' := GL
  obtain ⟨GCS, GCP⟩ := GL'
  obtain ⟨cl1, Ar1, -, S1, N1_, -, -⟩ := id (V_a0b)
  obtain ⟨fs, hr, hrun, hended, hW, hsame⟩ := X0.leave (v := some (.int 0)) (fun h => by rw [Bd.returns] at h; cases h)
  refine ⟨_, _, pre0 _ ?_, hrun, hended, _, _, rfl, ?_, ⟨_, rfl⟩, hW, hsame.mono (by decide) (by decide)⟩
  · show Steps p.tables e below (s₁.setTop (mkF m 0 #[.val (.ref a0b), .val (.int 5)] [])) _
    refine XS.iloadN X0.here hx rfl (hb hby d13_0) rfl ?_
    refine XS.aloadN X0.here hx rfl (hb hby d13_1) rfl rfl ?_
    show Steps p.tables e below (s₁.setTop (mkF m 2 #[.val (.ref a0b), .val (.int 5)] [(.ref a0b), (.int 5)])) _
    refine X0.arraylength hx (by rw [e0]; exact Ar1.1) (State.isArrayOf_alike hZ.alike Ar1.2.1) (g := (mkF m 2 #[.val (.ref a0b), .val (.int 5)] [(.ref a0b), (.int 5)])) rfl rfl (hb hby d13_2) _ ?_
    rw [len_of S1 N1_]
    show Steps p.tables e below (s₁.setTop (mkF m 3 #[.val (.ref a0b), .val (.int 5)] [(.int 5), (.int 5)])) _
    refine XS.isub X0.here hx rfl (hb hby d13_3) rfl ?_
    refine XS.bipush X0.here hx rfl (hb hby d13_4) ?_
    refine XS.iushr X0.here hx rfl (hb hby d13_6) rfl ?_
    refine XS.i2b X0.here hx rfl (hb hby d13_7) rfl ?_
    show Steps p.tables e below (s₁.setTop (mkF m 8 #[.val (.ref a0b), .val (.int 5)] [(.int 0)])) _
    exact retN X0 hx (t := .byte) Bd.returns (by simp) (hb hby d13_8) hr
  · show Q_rmCfa5_5 n0 Z cS a0b k0 vs h0 _ s₁.heap _
    rw [e0]
    exact ⟨rfl, N0, rfl⟩
theorem d4_0 : decode jdk_42_method_149_code 0 = .ok (.aload_n 0, 1) := by decide +kernel
theorem d4_1 : decode jdk_42_method_149_code 1 = .ok (.invokespecial 1, 3) := by decide +kernel
theorem d4_4 : decode jdk_42_method_149_code 4 = .ok (.iload_n 3, 1) := by decide +kernel
theorem d4_5 : decode jdk_42_method_149_code 5 = .ok (.ifCond .ne 22, 3) := by decide +kernel
theorem d4_8 : decode jdk_42_method_149_code 8 = .ok (.aload_n 0, 1) := by decide +kernel
theorem d4_9 : decode jdk_42_method_149_code 9 = .ok (.ldc 7, 2) := by decide +kernel
theorem d4_11 : decode jdk_42_method_149_code 11 = .ok (.getfield 9, 3) := by decide +kernel
theorem d4_14 : decode jdk_42_method_149_code 14 = .ok (.putfield 9, 3) := by decide +kernel
theorem d4_17 : decode jdk_42_method_149_code 17 = .ok (.aload_n 0, 1) := by decide +kernel
theorem d4_18 : decode jdk_42_method_149_code 18 = .ok (.ldc 7, 2) := by decide +kernel
theorem d4_20 : decode jdk_42_method_149_code 20 = .ok (.getfield 15, 3) := by decide +kernel
theorem d4_23 : decode jdk_42_method_149_code 23 = .ok (.putfield 15, 3) := by decide +kernel
theorem d4_26 : decode jdk_42_method_149_code 26 = .ok (.return_, 1) := by decide +kernel
theorem pnv1 : plainName "java/lang/String" = true := by first | (simp [plainName, overriddenIn]; done) | decide +kernel
abbrev MN_3 : MethodName := ⟨"java/lang/String", "<init>", "([CIILjava/lang/Void;)V"⟩
theorem ef_rmIv_0 (m : MethodId) (a0s : Addr) (a1c : Addr) : entryFrame m #[(.ref a0s), (.ref a1c), (.int 0), (.int 0), .null] 6 = mkF m 0 #[.val (.ref a0s), .val (.ref a1c), .val (.int 0), .val (.int 0), .val .null, .unset] [] := by first | (simp [entryFrame, mkF, argsToLocals, Value.category]; done) | rfl
def Q_rmIv_0 (n0 : Nat) (Z : State) (cS : Int32) (a0s : Addr) (a1c : Addr) (h0 : Heap) (v : Option Value) (h : Heap) (L : List Loc) : Prop := ∃ b : Addr, ∃ kb : ClassId, v = none ∧ Fr n0 L ∧ Keep h0 h [a0s] ∧ (Exa Z h a0s "java/lang/String") ∧ (Fld Z h a0s "java/lang/String" "value" "[B" (.ref b)) ∧ (Fld Z h a0s "java/lang/String" "coder" "B" (.int 0)) ∧ (Arv Z h b kb .byte (0 : Int32) [] (.int 0))
set_option maxRecDepth 65536 in
set_option maxHeartbeats 40000000 in
theorem rmIv_0 (l : Launch) (Z : State) (a0 : Array Value) (hw : ∀ d ∈ tables_1, d.before a0 Z = true) (ws : List Jvm.Cond) (cS : Int32) (a0s : Addr) (a1c : Addr) (h0 : Heap) (n0 : Nat) (O0 : Old Z n0 h0) (GL : GF Z cS) (E_a0s : Exa Z h0 a0s "java/lang/String") (F_value_a0s : Fld Z h0 a0s "java/lang/String" "value" "[B" .null) (F_coder_a0s : Fld Z h0 a0s "java/lang/String" "coder" "B" (.int 0)) (g_a0s : n0 ≤ a0s) :
    MetFree l MN_3 (head1 (Jvm.Cond.code MN_3 jdk_42_method_149_code 6 none :: ws) ({ frames := 1, cells := 4, slots := 8, locals := 12 } : Room)) (fun a U => a = #[(.ref a0s), (.ref a1c), (.int 0), (.int 0), .null] ∧ Z.Warmed39 U.vm ∧ U.heap = h0 ∧ CHv Z EL1 U.vm h0) (fun _ _ _ _ _ => True) (fun _ U o U' => ∃ v L, o = .returned v ∧ Q_rmIv_0 n0 Z cS a0s a1c h0 v U'.heap L ∧ CHr Z EL1 U.vm U.heap U'.vm U'.heap ∧ ReturnedEndW U o U' L ({ frames := 1, cells := 4, slots := 8, locals := 12 } : Room).cells ({ frames := 1, cells := 4, slots := 8, locals := 12 } : Room).slots) := by
  refine MetFree.of_bodySF (plainFor_of_name pnv1) hisR ?_
  intro p e s m args below meth c s₁ Bd hml0 hP hK
  obtain ⟨rfl, hZ, hh, H0⟩ := hP
  have hx := Bd.exec
  have hby := Bd.bytes
  have hml : c.maxLocals = 6 := hml0
  have hown : s.vm.findClass "java/lang/String" = some m.cls := findClass_of_methodNamed Bd.named
  have hnm := (name_of_methodNamed Bd.named Bd.method).1
  have X0 : Stand p l e ({ frames := 1, cells := 4, slots := 8, locals := 12 } : Room) s m #[(.ref a0s), (.ref a1c), (.int 0), (.int 0), .null] below meth c s₁ [] 0 0 := Stand.of_body Bd
  have e0 : s₁.heap = h0 := by rw [← hh, Bd.state]; rfl
  have N0 := Fr.nil n0
  have pre0 : ∀ t, Steps p.tables e below (s₁.setTop (mkF m 0 #[.val (.ref a0s), .val (.ref a1c), .val (.int 0), .val (.int 0), .val .null, .unset] [])) t → Steps p.tables e below (s₁.setTop (entryFrame m #[(.ref a0s), (.ref a1c), (.int 0), (.int 0), .null] 6)) t := fun t k => castTop (ef_rmIv_0 m a0s a1c) k
  have X0w : Stand p l e ({ frames := 1, cells := 4, slots := 8, locals := 12 } : Room) (s.setVm s.vm) m #[(.ref a0s), (.ref a1c), (.int 0), (.int 0), .null] below meth c s₁ [] 0 0 := X0
  have R0 : CHr Z EL1 s.vm h0 s.vm h0 := CHr.refl H0
  have hS0 : s.Since s.vm h0.size := (State.WarmedH.refl s).since _
  have GL' := GL
  obtain ⟨GCS, GCP⟩ := GL'
  obtain ⟨T1, X1, e1, st1⟩ := initO X0w hx hZ hown (Wd hw 19 rfl) (Wd hw 20 rfl) (Wd hw 21 rfl) e0 (g := (mkF m 1 #[.val (.ref a0s), .val (.ref a1c), .val (.int 0), .val (.int 0), .val .null, .unset] [(.ref a0s)])) rfl (by rw [hml]; rfl) rfl (hb hby d4_1) (by decide) (W := 0) (by show 2 * 0 + _ ≤ _; exact Nat.le_of_eq rfl) (by decide)
  obtain ⟨a2, T2, h2, k12, b2, kc2, X2, e2, E2, hS2, hk2, hZ2, hown2, A2, Fc2, Fv2, V2, la2, lb2, Rs2, Li2, nel2, st2⟩ := ldcCH X1 hx hZ hown (Wd hw 22 rfl) (own_wS hw) e1 hS0 (Nat.le_refl _) (own_EW hw) (List.mem_of_getElem? (i := 2) rfl) H0 (vs := []) (z := (0 : Int32)) ⟨by decide, by decide⟩ (by decide) rfl (g := (mkF m 9 #[.val (.ref a0s), .val (.ref a1c), .val (.int 0), .val (.int 0), .val .null, .unset] [(.ref a0s)])) rfl (hb hby d4_9) (n := 0) (by decide) (by decide) (by decide) (by decide)
  have H_3 := Rs2.1
  have R_3 := R0.trans Rs2
  have K2 : Keep h0 h2 [a0s] := (Keep.refl h0 [a0s]).ext E2
  have O2 := O0.ext E2
  obtain ⟨T4, X4, e4, st4⟩ := getF X2 hx hZ2 hown2 (host := "") (Or.inl (Wd hw 28 rfl)) Via.refl e2 Fv2 (g := (mkF m 11 #[.val (.ref a0s), .val (.ref a1c), .val (.int 0), .val (.int 0), .val .null, .unset] [(.ref a2), (.ref a0s)])) rfl rfl (hb hby d4_11)
  obtain ⟨T5, h5, X5, e5, W5, st5⟩ := putF X4 hx hZ2 hown2 (host := "") (Or.inl (Wd hw 28 rfl)) Via.refl e4 (F_value_a0s.ext E2) (E_a0s.ext E2) (Or.inr ⟨(Wd hw 24 rfl), rfl, hnm⟩) (Wd hw 10 rfl) (ty := (.array .byte)) (by decide) rfl rfl (g := (mkF m 14 #[.val (.ref a0s), .val (.ref a1c), .val (.int 0), .val (.int 0), .val .null, .unset] [(.ref b2), (.ref a0s)])) rfl rfl (hb hby d4_14)
  have Fw5 := (F_value_a0s.ext E2).same W5
  have Sf7 : Safe Z EL1 T2.vm h2 a0s := (CHr.safe Rs2 E_a0s.lt (own_safeS hZ.alike H0 F_value_a0s E_a0s))
  have H_6 := H_3.wr W5 Sf7
  have R_6 := R_3.trans (CHr.wr W5 Sf7 H_3)
  have K5 : Keep h0 h5 [a0s] := K2.wr W5 (Or.inl (List.mem_of_getElem? (i := 0) rfl))
  have O5 := O2.wr W5 g_a0s
  have N5 := Fr.snoc X5 N0 g_a0s
  obtain ⟨a8, T8, h8, k18, b8, kc8, X8, e8, E8, hS8, hk8, hZ8, hown8, A8, Fc8, Fv8, V8, la8, lb8, Rs8, Li8, nel8, st8⟩ := ldcCH X5 hx hZ2 hown2 (Wd hw 22 rfl) (own_wS hw) e5 hS2 (Nat.le_trans hk2 (Keep.of_wr W5).1) (own_EW hw) (List.mem_of_getElem? (i := 2) rfl) H_6 (vs := []) (z := (0 : Int32)) ⟨by decide, by decide⟩ (by decide) rfl (g := (mkF m 18 #[.val (.ref a0s), .val (.ref a1c), .val (.int 0), .val (.int 0), .val .null, .unset] [(.ref a0s)])) rfl (hb hby d4_18) (n := 0) (by decide) (by decide) (by decide) (by decide)
  have H_9 := Rs8.1
  have R_9 := R_6.trans Rs8
  have K8 : Keep h0 h8 [a0s] := K5.ext E8
  have O8 := O5.ext E8
  obtain ⟨T10, X10, e10, st10⟩ := getF X8 hx hZ8 hown8 (host := "") (Or.inl (Wd hw 29 rfl)) Via.refl e8 Fc8 (g := (mkF m 20 #[.val (.ref a0s), .val (.ref a1c), .val (.int 0), .val (.int 0), .val .null, .unset] [(.ref a8), (.ref a0s)])) rfl rfl (hb hby d4_20)
  obtain ⟨T11, h11, X11, e11, W11, st11⟩ := putFN X10 hx hZ8 hown8 (Wd hw 29 rfl) Via.refl e10 (((F_coder_a0s.ext E2).other W5 (Or.inr (slot_ne (a0 := a0) (Or.inr (Wd hw 25 rfl)) (Or.inr (Wd hw 24 rfl)) (by decide) (t := .byte) (t' := (.array .byte)) (by decide) (by decide)))).ext E8) (((E_a0s.ext E2).wr W5).ext E8) (Or.inr ⟨(Wd hw 25 rfl), rfl, hnm⟩) (Wd hw 10 rfl) (ty := .byte) (v' := (.int 0)) (by decide) rfl (by decide) (g := (mkF m 23 #[.val (.ref a0s), .val (.ref a1c), .val (.int 0), .val (.int 0), .val .null, .unset] [(.int 0), (.ref a0s)])) rfl rfl (hb hby d4_23)
  have Fw11 := (((F_coder_a0s.ext E2).other W5 (Or.inr (slot_ne (a0 := a0) (Or.inr (Wd hw 25 rfl)) (Or.inr (Wd hw 24 rfl)) (by decide) (t := .byte) (t' := (.array .byte)) (by decide) (by decide)))).ext E8).same W11
  have Sf13 : Safe Z EL1 T8.vm h8 a0s := (CHr.safe Rs8 (Nat.lt_of_lt_of_le E_a0s.lt (Nat.le_trans E2.1 (Keep.of_wr W5).1)) (Safe.wr W5 Sf7 H_3 Sf7))
  have H_12 := H_9.wr W11 Sf13
  have R_12 := R_9.trans (CHr.wr W11 Sf13 H_9)
  have K11 : Keep h0 h11 [a0s] := K8.wr W11 (Or.inl (List.mem_of_getElem? (i := 0) rfl))
  have O11 := O8.wr W11 g_a0s
  have N11 := Fr.snoc X11 N5 g_a0s
  obtain ⟨fs, hr, hrun, hended, hRW⟩ := X11.leaveW hS8 (by rw [e11]; exact (Nat.le_trans hk8 (Keep.of_wr W11).1)) (v := none) (fun _ => rfl)
  have hCR : CHr Z EL1 s.vm s.heap T11.vm T11.heap := by
    rw [hh, e11]
    exact R_12.trans (CHv.at X11 hZ8 (own_EW hw) H_12)
  refine ⟨_, _, pre0 _ ?_, hrun, hended, _, _, rfl, ?_, hCR, hRW.1, hRW.2.1, hRW.2.2.1, hRW.2.2.2.mono (by decide) (by decide)⟩
  · show Steps p.tables e below (s₁.setTop (mkF m 0 #[.val (.ref a0s), .val (.ref a1c), .val (.int 0), .val (.int 0), .val .null, .unset] [])) _
    refine XS.aloadN X0w.here hx rfl (hb hby d4_0) rfl rfl ?_
    show Steps p.tables e below (s₁.setTop (mkF m 1 #[.val (.ref a0s), .val (.ref a1c), .val (.int 0), .val (.int 0), .val .null, .unset] [(.ref a0s)])) _
    refine st1 _ ?_
    show Steps p.tables e below (T1.setTop (mkF m 4 #[.val (.ref a0s), .val (.ref a1c), .val (.int 0), .val (.int 0), .val .null, .unset] [])) _
    refine XS.iloadN X1.here hx rfl (hb hby d4_4) rfl ?_
    refine XS.ifNo X1.here hx rfl (hb hby d4_5) rfl ((if0 _ _).trans (teq (by decide : (0 : Int32) = (0 : Int32))).2) ?_
    refine XS.aloadN X1.here hx rfl (hb hby d4_8) rfl rfl ?_
    show Steps p.tables e below (T1.setTop (mkF m 9 #[.val (.ref a0s), .val (.ref a1c), .val (.int 0), .val (.int 0), .val .null, .unset] [(.ref a0s)])) _
    refine st2 _ ?_
    show Steps p.tables e below (T2.setTop (mkF m 11 #[.val (.ref a0s), .val (.ref a1c), .val (.int 0), .val (.int 0), .val .null, .unset] [(.ref a2), (.ref a0s)])) _
    refine st4 _ ?_
    show Steps p.tables e below (T4.setTop (mkF m 14 #[.val (.ref a0s), .val (.ref a1c), .val (.int 0), .val (.int 0), .val .null, .unset] [(.ref b2), (.ref a0s)])) _
    refine st5 _ ?_
    show Steps p.tables e below (T5.setTop (mkF m 17 #[.val (.ref a0s), .val (.ref a1c), .val (.int 0), .val (.int 0), .val .null, .unset] [])) _
    refine XS.aloadN X5.here hx rfl (hb hby d4_17) rfl rfl ?_
    show Steps p.tables e below (T5.setTop (mkF m 18 #[.val (.ref a0s), .val (.ref a1c), .val (.int 0), .val (.int 0), .val .null, .unset] [(.ref a0s)])) _
    refine st8 _ ?_
    show Steps p.tables e below (T8.setTop (mkF m 20 #[.val (.ref a0s), .val (.ref a1c), .val (.int 0), .val (.int 0), .val .null, .unset] [(.ref a8), (.ref a0s)])) _
    refine st10 _ ?_
    show Steps p.tables e below (T10.setTop (mkF m 23 #[.val (.ref a0s), .val (.ref a1c), .val (.int 0), .val (.int 0), .val .null, .unset] [(.int 0), (.ref a0s)])) _
    refine st11 _ ?_
    show Steps p.tables e below (T11.setTop (mkF m 26 #[.val (.ref a0s), .val (.ref a1c), .val (.int 0), .val (.int 0), .val .null, .unset] [])) _
    exact X11.returnOut hx Bd.returns (hb hby d4_26) hr
  · show Q_rmIv_0 n0 Z cS a0s a1c h0 _ T11.heap _
    rw [e11]
    exact ⟨b2, kc2, rfl, N11, K11, ((((E_a0s.ext E2).wr W5).ext E8).wr W11), ((Fw5.ext E8).other W11 (Or.inr (slot_ne (a0 := a0) (Or.inr (Wd hw 24 rfl)) (Or.inr (Wd hw 25 rfl)) (by decide) (t := (.array .byte)) (t' := .byte) (by decide) (by decide)))), Fw11, (((V2.other W5 (Ne.symm (nel2 a0s Sf7).2)).ext E8).other W11 (Ne.symm (nel2 a0s Sf7).2))⟩
theorem d4_27 : decode jdk_42_method_149_code 27 = .ok (.getstatic 38, 3) := by decide +kernel
theorem d4_30 : decode jdk_42_method_149_code 30 = .ok (.ifCond .eq 28, 3) := by decide +kernel
theorem d4_33 : decode jdk_42_method_149_code 33 = .ok (.aload_n 1, 1) := by decide +kernel
theorem d4_34 : decode jdk_42_method_149_code 34 = .ok (.iload_n 2, 1) := by decide +kernel
theorem d4_35 : decode jdk_42_method_149_code 35 = .ok (.iload_n 3, 1) := by decide +kernel
theorem d4_36 : decode jdk_42_method_149_code 36 = .ok (.invokestatic 177, 3) := by decide +kernel
theorem pdv1 : parseMethodDescriptor "([CII)[B" = some ⟨[(.array .char), .int, .int], some (.array .byte)⟩ := by decide +kernel
theorem d4_39 : decode jdk_42_method_149_code 39 = .ok (.astore 5, 2) := by decide +kernel
theorem d4_41 : decode jdk_42_method_149_code 41 = .ok (.aload_n 0, 1) := by decide +kernel
theorem d4_42 : decode jdk_42_method_149_code 42 = .ok (.aload 5, 2) := by decide +kernel
theorem d4_44 : decode jdk_42_method_149_code 44 = .ok (.iload_n 3, 1) := by decide +kernel
theorem d4_45 : decode jdk_42_method_149_code 45 = .ok (.invokestatic 47, 3) := by decide +kernel
theorem pdv2 : parseMethodDescriptor "([BI)B" = some ⟨[(.array .byte), .int], some .byte⟩ := by decide +kernel
theorem d4_48 : decode jdk_42_method_149_code 48 = .ok (.putfield 15, 3) := by decide +kernel
theorem d4_51 : decode jdk_42_method_149_code 51 = .ok (.aload_n 0, 1) := by decide +kernel
theorem d4_52 : decode jdk_42_method_149_code 52 = .ok (.aload 5, 2) := by decide +kernel
theorem d4_54 : decode jdk_42_method_149_code 54 = .ok (.putfield 9, 3) := by decide +kernel
theorem d4_57 : decode jdk_42_method_149_code 57 = .ok (.return_, 1) := by decide +kernel
theorem ef_rmIv_1 (m : MethodId) (a0s : Addr) (a1c : Addr) : entryFrame m #[(.ref a0s), (.ref a1c), (.int 0), (.int 1), .null] 6 = mkF m 0 #[.val (.ref a0s), .val (.ref a1c), .val (.int 0), .val (.int 1), .val .null, .unset] [] := by first | (simp [entryFrame, mkF, argsToLocals, Value.category]; done) | rfl
def Q_rmIv_1 (n0 : Nat) (Z : State) (cS : Int32) (a0s : Addr) (a1c : Addr) (k1 : ClassId) (c0 : Int32) (h0 : Heap) (v : Option Value) (h : Heap) (L : List Loc) : Prop := ∃ b : Addr, ∃ kb : ClassId, v = none ∧ Fr n0 L ∧ Keep h0 h [a0s] ∧ (h0.size ≤ b) ∧ (Exa Z h b "[B") ∧ (Exa Z h a0s "java/lang/String") ∧ (Fld Z h a0s "java/lang/String" "value" "[B" (.ref b)) ∧ (Fld Z h a0s "java/lang/String" "coder" "B" (.int 0)) ∧ (Arv Z h b kb .byte (1 : Int32) [(.int (c0.toInt8.toInt32))] (.int 0))
set_option maxRecDepth 65536 in
set_option maxHeartbeats 40000000 in
theorem rmIv_1 (l : Launch) (Z : State) (a0 : Array Value) (hw : ∀ d ∈ tables_1, d.before a0 Z = true) (ws : List Jvm.Cond) (cS : Int32) (a0s : Addr) (a1c : Addr) (k1 : ClassId) (c0 : Int32) (h0 : Heap) (n0 : Nat) (O0 : Old Z n0 h0) (GL : GF Z cS) (E_a0s : Exa Z h0 a0s "java/lang/String") (F_value_a0s : Fld Z h0 a0s "java/lang/String" "value" "[B" .null) (F_coder_a0s : Fld Z h0 a0s "java/lang/String" "coder" "B" (.int 0)) (g_a0s : n0 ≤ a0s) (V_a1c : Arv Z h0 a1c k1 .char (1 : Int32) [(.int c0)] (.int 0)) (hc0 : ¬ ((255 : Int32) < c0)) :
    MetFree l MN_3 (head1 (Jvm.Cond.code MN_3 jdk_42_method_149_code 6 none :: ws) ({ frames := 2, cells := 1, slots := 1, locals := 35 } : Room)) (fun a U => a = #[(.ref a0s), (.ref a1c), (.int 0), (.int 1), .null] ∧ Z.Warmed39 U.vm ∧ U.heap = h0) (fun _ _ _ _ _ => True) (fun _ U o U' => ∃ v L, o = .returned v ∧ Q_rmIv_1 n0 Z cS a0s a1c k1 c0 h0 v U'.heap L ∧ FrameEnd U o U' L ({ frames := 2, cells := 1, slots := 1, locals := 35 } : Room).cells ({ frames := 2, cells := 1, slots := 1, locals := 35 } : Room).slots) := by
  refine MetFree.of_bodySF (plainFor_of_name pnv1) hisR ?_
  intro p e s m args below meth c s₁ Bd hml0 hP hK
  obtain ⟨rfl, hZ, hh⟩ := hP
  have hx := Bd.exec
  have hby := Bd.bytes
  have hml : c.maxLocals = 6 := hml0
  have hown : s.vm.findClass "java/lang/String" = some m.cls := findClass_of_methodNamed Bd.named
  have hnm := (name_of_methodNamed Bd.named Bd.method).1
  have X0 : Stand p l e ({ frames := 2, cells := 1, slots := 1, locals := 35 } : Room) s m #[(.ref a0s), (.ref a1c), (.int 0), (.int 1), .null] below meth c s₁ [] 0 0 := Stand.of_body Bd
  have e0 : s₁.heap = h0 := by rw [← hh, Bd.state]; rfl
  have N0 := Fr.nil n0
  have pre0 : ∀ t, Steps p.tables e below (s₁.setTop (mkF m 0 #[.val (.ref a0s), .val (.ref a1c), .val (.int 0), .val (.int 1), .val .null, .unset] [])) t → Steps p.tables e below (s₁.setTop (entryFrame m #[(.ref a0s), (.ref a1c), (.int 0), (.int 1), .null] 6)) t := fun t k => castTop (ef_rmIv_1 m a0s a1c) k
  have GL' := GL
  obtain ⟨GCS, GCP⟩ := GL'
  obtain ⟨T1, X1, e1, st1⟩ := initO X0 hx hZ hown (Wd hw 19 rfl) (Wd hw 20 rfl) (Wd hw 21 rfl) e0 (g := (mkF m 1 #[.val (.ref a0s), .val (.ref a1c), .val (.int 0), .val (.int 1), .val .null, .unset] [(.ref a0s)])) rfl (by rw [hml]; rfl) rfl (hb hby d4_1) (by decide) (W := 0) (by show 2 * 0 + _ ≤ _; exact Nat.le_of_eq rfl) (by decide)
  obtain ⟨T2, X2, e2, st2⟩ := getS2 X1 hx hZ hown (host := "") (Or.inl (Wd hw 50 rfl)) Via.refl e1 (GCS.ext O0.2) (g := (mkF m 27 #[.val (.ref a0s), .val (.ref a1c), .val (.int 0), .val (.int 1), .val .null, .unset] [])) rfl (hb hby d4_27)
  obtain ⟨_, _, ⟨T3, L3, k3, n3⟩, -, X3, ⟨Lc3, hQ3, l3, y3, z3⟩, st3⟩ := Jvm.LawKit.callS X2 hx (y := MN_1) hown (mvT hZ (Wd hw 57 rfl)) (mvT hZ (Wd hw 58 rfl)) (mvT hZ (Wd hw 59 rfl)) (mvT hZ (Wd hw 60 rfl)) (by decide) (backOf (W := 0) (rmC1_1 l Z a0 hw [] cS (a1c) (k1) (c0) (h0) n0 O0 GL V_a1c hc0) hZ (Wd hw 60 rfl) (Wd hw 59 rfl) (by decide) (by decide)) (g := (mkF m 36 #[.val (.ref a0s), .val (.ref a1c), .val (.int 0), .val (.int 1), .val .null, .unset] [(.int 1), (.int 0), (.ref a1c)])) rfl (by rw [hml]; rfl) (argsL := [(.ref a1c), (.int 0), (.int 1)]) (rest := []) (lenOf pdv1 rfl) rfl (by show 2 * 0 + _ ≤ _; exact Nat.le_of_eq rfl) (hb hby d4_36) (fun _ _ => ⟨rfl, e2, (by decide : 0 + 1 ≤ _), (by decide : 0 + 1 ≤ _)⟩)
  dsimp only [Pt.U, Pt.locs, Pt.cells, Pt.slots] at X3 l3 y3 z3 st3 hQ3
  subst l3 y3 z3
  obtain ⟨b_3, kb_3, rfl, N3q, Kc3, P3_0, P3_1, P3_2⟩ := hQ3
  have K3 : Keep h0 T3.heap [a0s] := (Keep.refl h0 [a0s]).trans Kc3 all0
  have O3 := O0.keep Kc3 all0
  have g_b_3 : n0 ≤ b_3 := Nat.le_trans (own_sz O0) P3_0
  have sz_b_3 : h0.size ≤ b_3 := Nat.le_trans (Keep.refl h0 [a0s]).1 P3_0
  have N3 := Fr.app N0 N3q
  obtain ⟨_, _, ⟨T4, L4, k4, n4⟩, -, X4, ⟨Lc4, hQ4, l4, y4, z4⟩, st4⟩ := Jvm.LawKit.callS X3 hx (y := MN_2) hown (mvT hZ (Wd hw 64 rfl)) (mvT hZ (Wd hw 65 rfl)) (mvT hZ (Wd hw 59 rfl)) (mvT hZ (Wd hw 66 rfl)) (by decide) (backOf (W := 1) (rmCfa1_1 l Z a0 hw [] cS (b_3) (kb_3) ([(.int (c0.toInt8.toInt32))]) (T3.heap) n0 O3 GL P3_2) hZ (Wd hw 66 rfl) (Wd hw 59 rfl) (by decide) (by decide)) (g := (mkF m 45 #[.val (.ref a0s), .val (.ref a1c), .val (.int 0), .val (.int 1), .val .null, .val (.ref b_3)] [(.int 1), (.ref b_3), (.ref a0s)])) rfl (by rw [hml]; rfl) (argsL := [(.ref b_3), (.int 1)]) (rest := [(.ref a0s)]) (lenOf pdv2 rfl) rfl (by show 2 * 0 + _ ≤ _; exact Nat.le_of_eq rfl) (hb hby d4_45) (fun _ _ => ⟨rfl, rfl, (by decide : 1 + 0 ≤ _), (by decide : 1 + 0 ≤ _)⟩)
  dsimp only [Pt.U, Pt.locs, Pt.cells, Pt.slots] at X4 l4 y4 z4 st4 hQ4
  subst l4 y4 z4
  obtain ⟨rfl, N4q, e4⟩ := hQ4
  have N4 := Fr.app N3 N4q
  obtain ⟨T5, h5, X5, e5, W5, st5⟩ := putFN X4 hx hZ hown (Wd hw 29 rfl) Via.refl e4 (F_coder_a0s.keep Kc3 nin0) (E_a0s.keep Kc3) (Or.inr ⟨(Wd hw 25 rfl), rfl, hnm⟩) (Wd hw 10 rfl) (ty := .byte) (v' := (.int 0)) (by decide) rfl (by decide) (g := (mkF m 48 #[.val (.ref a0s), .val (.ref a1c), .val (.int 0), .val (.int 1), .val .null, .val (.ref b_3)] [(.int 0), (.ref a0s)])) rfl rfl (hb hby d4_48)
  have Fw5 := (F_coder_a0s.keep Kc3 nin0).same W5
  have K5 : Keep h0 h5 [a0s] := K3.wr W5 (Or.inl (List.mem_of_getElem? (i := 0) rfl))
  have O5 := O3.wr W5 g_a0s
  have N5 := Fr.snoc X5 N4 g_a0s
  obtain ⟨T6, h6, X6, e6, W6, st6⟩ := putF X5 hx hZ hown (host := "") (Or.inl (Wd hw 28 rfl)) Via.refl e5 ((F_value_a0s.keep Kc3 nin0).other W5 (Or.inr (slot_ne (a0 := a0) (Or.inr (Wd hw 24 rfl)) (Or.inr (Wd hw 25 rfl)) (by decide) (t := (.array .byte)) (t' := .byte) (by decide) (by decide)))) ((E_a0s.keep Kc3).wr W5) (Or.inr ⟨(Wd hw 24 rfl), rfl, hnm⟩) (Wd hw 10 rfl) (ty := (.array .byte)) (by decide) rfl rfl (g := (mkF m 54 #[.val (.ref a0s), .val (.ref a1c), .val (.int 0), .val (.int 1), .val .null, .val (.ref b_3)] [(.ref b_3), (.ref a0s)])) rfl rfl (hb hby d4_54)
  have Fw6 := ((F_value_a0s.keep Kc3 nin0).other W5 (Or.inr (slot_ne (a0 := a0) (Or.inr (Wd hw 24 rfl)) (Or.inr (Wd hw 25 rfl)) (by decide) (t := (.array .byte)) (t' := .byte) (by decide) (by decide)))).same W6
  have K6 : Keep h0 h6 [a0s] := K5.wr W6 (Or.inl (List.mem_of_getElem? (i := 0) rfl))
  have O6 := O5.wr W6 g_a0s
  have N6 := Fr.snoc X6 N5 g_a0s
  obtain ⟨fs, hr, hrun, hended, hW, hsame⟩ := X6.leave (v := none) (fun _ => rfl)
  refine ⟨_, _, pre0 _ ?_, hrun, hended, _, _, rfl, ?_, ⟨_, rfl⟩, hW, hsame.mono (by decide) (by decide)⟩
  · show Steps p.tables e below (s₁.setTop (mkF m 0 #[.val (.ref a0s), .val (.ref a1c), .val (.int 0), .val (.int 1), .val .null, .unset] [])) _
    refine XS.aloadN X0.here hx rfl (hb hby d4_0) rfl rfl ?_
    show Steps p.tables e below (s₁.setTop (mkF m 1 #[.val (.ref a0s), .val (.ref a1c), .val (.int 0), .val (.int 1), .val .null, .unset] [(.ref a0s)])) _
    refine st1 _ ?_
    show Steps p.tables e below (T1.setTop (mkF m 4 #[.val (.ref a0s), .val (.ref a1c), .val (.int 0), .val (.int 1), .val .null, .unset] [])) _
    refine XS.iloadN X1.here hx rfl (hb hby d4_4) rfl ?_
    refine XS.ifYes X1.here hx rfl (pc0 := 5) (pc' := 27) rfl (hb hby d4_5) rfl ((if0 _ _).trans (feq (by decide : ¬ ((1 : Int32) = (0 : Int32)))).2) (by decide) (by decide) ?_
    show Steps p.tables e below (T1.setTop (mkF m 27 #[.val (.ref a0s), .val (.ref a1c), .val (.int 0), .val (.int 1), .val .null, .unset] [])) _
    refine st2 _ ?_
    show Steps p.tables e below (T2.setTop (mkF m 30 #[.val (.ref a0s), .val (.ref a1c), .val (.int 0), .val (.int 1), .val .null, .unset] [(.int cS)])) _
    refine XS.ifNo X2.here hx rfl (hb hby d4_30) rfl ((if0 _ _).trans (feq GCP).1) ?_
    refine XS.aloadN X2.here hx rfl (hb hby d4_33) rfl rfl ?_
    refine XS.iloadN X2.here hx rfl (hb hby d4_34) rfl ?_
    refine XS.iloadN X2.here hx rfl (hb hby d4_35) rfl ?_
    show Steps p.tables e below (T2.setTop (mkF m 36 #[.val (.ref a0s), .val (.ref a1c), .val (.int 0), .val (.int 1), .val .null, .unset] [(.int 1), (.int 0), (.ref a1c)])) _
    refine st3 _ ?_
    show Steps p.tables e below (T3.setTop (mkF m 39 #[.val (.ref a0s), .val (.ref a1c), .val (.int 0), .val (.int 1), .val .null, .unset] [(.ref b_3)])) _
    refine XS.astore X3.here hx rfl (hb hby d4_39) rfl rfl (l' := #[.val (.ref a0s), .val (.ref a1c), .val (.int 0), .val (.int 1), .val .null, .val (.ref b_3)]) rfl ?_
    refine XS.aloadN X3.here hx rfl (hb hby d4_41) rfl rfl ?_
    refine XS.aload X3.here hx rfl (hb hby d4_42) rfl rfl ?_
    refine XS.iloadN X3.here hx rfl (hb hby d4_44) rfl ?_
    show Steps p.tables e below (T3.setTop (mkF m 45 #[.val (.ref a0s), .val (.ref a1c), .val (.int 0), .val (.int 1), .val .null, .val (.ref b_3)] [(.int 1), (.ref b_3), (.ref a0s)])) _
    refine st4 _ ?_
    show Steps p.tables e below (T4.setTop (mkF m 48 #[.val (.ref a0s), .val (.ref a1c), .val (.int 0), .val (.int 1), .val .null, .val (.ref b_3)] [(.int 0), (.ref a0s)])) _
    refine st5 _ ?_
    show Steps p.tables e below (T5.setTop (mkF m 51 #[.val (.ref a0s), .val (.ref a1c), .val (.int 0), .val (.int 1), .val .null, .val (.ref b_3)] [])) _
    refine XS.aloadN X5.here hx rfl (hb hby d4_51) rfl rfl ?_
    refine XS.aload X5.here hx rfl (hb hby d4_52) rfl rfl ?_
    show Steps p.tables e below (T5.setTop (mkF m 54 #[.val (.ref a0s), .val (.ref a1c), .val (.int 0), .val (.int 1), .val .null, .val (.ref b_3)] [(.ref b_3), (.ref a0s)])) _
    refine st6 _ ?_
    show Steps p.tables e below (T6.setTop (mkF m 57 #[.val (.ref a0s), .val (.ref a1c), .val (.int 0), .val (.int 1), .val .null, .val (.ref b_3)] [])) _
    exact X6.returnOut hx Bd.returns (hb hby d4_57) hr
  · show Q_rmIv_1 n0 Z cS a0s a1c k1 c0 h0 _ T6.heap _
    rw [e6]
    exact ⟨b_3, kb_3, rfl, N6, K6, sz_b_3, ((P3_1.wr W5).wr W6), (((E_a0s.keep Kc3).wr W5).wr W6), Fw6, (Fw5.other W6 (Or.inr (slot_ne (a0 := a0) (Or.inr (Wd hw 25 rfl)) (Or.inr (Wd hw 24 rfl)) (by decide) (t := .byte) (t' := (.array .byte)) (by decide) (by decide)))), ((P3_2.other W5 (Ne.symm (Nat.ne_of_lt (Nat.lt_of_lt_of_le E_a0s.lt P3_0)))).other W6 (Ne.symm (Nat.ne_of_lt (Nat.lt_of_lt_of_le E_a0s.lt P3_0))))⟩
theorem ef_rmIv_2 (m : MethodId) (a0s : Addr) (a1c : Addr) : entryFrame m #[(.ref a0s), (.ref a1c), (.int 0), (.int 2), .null] 6 = mkF m 0 #[.val (.ref a0s), .val (.ref a1c), .val (.int 0), .val (.int 2), .val .null, .unset] [] := by first | (simp [entryFrame, mkF, argsToLocals, Value.category]; done) | rfl
def Q_rmIv_2 (n0 : Nat) (Z : State) (cS : Int32) (a0s : Addr) (a1c : Addr) (k1 : ClassId) (c0 : Int32) (c1 : Int32) (h0 : Heap) (v : Option Value) (h : Heap) (L : List Loc) : Prop := ∃ b : Addr, ∃ kb : ClassId, v = none ∧ Fr n0 L ∧ Keep h0 h [a0s] ∧ (h0.size ≤ b) ∧ (Exa Z h b "[B") ∧ (Exa Z h a0s "java/lang/String") ∧ (Fld Z h a0s "java/lang/String" "value" "[B" (.ref b)) ∧ (Fld Z h a0s "java/lang/String" "coder" "B" (.int 0)) ∧ (Arv Z h b kb .byte (2 : Int32) [(.int (c0.toInt8.toInt32)), (.int (c1.toInt8.toInt32))] (.int 0))
set_option maxRecDepth 65536 in
set_option maxHeartbeats 40000000 in
theorem rmIv_2 (l : Launch) (Z : State) (a0 : Array Value) (hw : ∀ d ∈ tables_1, d.before a0 Z = true) (ws : List Jvm.Cond) (cS : Int32) (a0s : Addr) (a1c : Addr) (k1 : ClassId) (c0 : Int32) (c1 : Int32) (h0 : Heap) (n0 : Nat) (O0 : Old Z n0 h0) (GL : GF Z cS) (E_a0s : Exa Z h0 a0s "java/lang/String") (F_value_a0s : Fld Z h0 a0s "java/lang/String" "value" "[B" .null) (F_coder_a0s : Fld Z h0 a0s "java/lang/String" "coder" "B" (.int 0)) (g_a0s : n0 ≤ a0s) (V_a1c : Arv Z h0 a1c k1 .char (2 : Int32) [(.int c0), (.int c1)] (.int 0)) (hc0 : ¬ ((255 : Int32) < c0)) (hc1 : ¬ ((255 : Int32) < c1)) :
    MetFree l MN_3 (head1 (Jvm.Cond.code MN_3 jdk_42_method_149_code 6 none :: ws) ({ frames := 2, cells := 1, slots := 2, locals := 35 } : Room)) (fun a U => a = #[(.ref a0s), (.ref a1c), (.int 0), (.int 2), .null] ∧ Z.Warmed39 U.vm ∧ U.heap = h0) (fun _ _ _ _ _ => True) (fun _ U o U' => ∃ v L, o = .returned v ∧ Q_rmIv_2 n0 Z cS a0s a1c k1 c0 c1 h0 v U'.heap L ∧ FrameEnd U o U' L ({ frames := 2, cells := 1, slots := 2, locals := 35 } : Room).cells ({ frames := 2, cells := 1, slots := 2, locals := 35 } : Room).slots) := by
  refine MetFree.of_bodySF (plainFor_of_name pnv1) hisR ?_
  intro p e s m args below meth c s₁ Bd hml0 hP hK
  obtain ⟨rfl, hZ, hh⟩ := hP
  have hx := Bd.exec
  have hby := Bd.bytes
  have hml : c.maxLocals = 6 := hml0
  have hown : s.vm.findClass "java/lang/String" = some m.cls := findClass_of_methodNamed Bd.named
  have hnm := (name_of_methodNamed Bd.named Bd.method).1
  have X0 : Stand p l e ({ frames := 2, cells := 1, slots := 2, locals := 35 } : Room) s m #[(.ref a0s), (.ref a1c), (.int 0), (.int 2), .null] below meth c s₁ [] 0 0 := Stand.of_body Bd
  have e0 : s₁.heap = h0 := by rw [← hh, Bd.state]; rfl
  have N0 := Fr.nil n0
  have pre0 : ∀ t, Steps p.tables e below (s₁.setTop (mkF m 0 #[.val (.ref a0s), .val (.ref a1c), .val (.int 0), .val (.int 2), .val .null, .unset] [])) t → Steps p.tables e below (s₁.setTop (entryFrame m #[(.ref a0s), (.ref a1c), (.int 0), (.int 2), .null] 6)) t := fun t k => castTop (ef_rmIv_2 m a0s a1c) k
  have GL' := GL
  obtain ⟨GCS, GCP⟩ := GL'
  obtain ⟨T1, X1, e1, st1⟩ := initO X0 hx hZ hown (Wd hw 19 rfl) (Wd hw 20 rfl) (Wd hw 21 rfl) e0 (g := (mkF m 1 #[.val (.ref a0s), .val (.ref a1c), .val (.int 0), .val (.int 2), .val .null, .unset] [(.ref a0s)])) rfl (by rw [hml]; rfl) rfl (hb hby d4_1) (by decide) (W := 0) (by show 2 * 0 + _ ≤ _; exact Nat.le_of_eq rfl) (by decide)
  obtain ⟨T2, X2, e2, st2⟩ := getS2 X1 hx hZ hown (host := "") (Or.inl (Wd hw 50 rfl)) Via.refl e1 (GCS.ext O0.2) (g := (mkF m 27 #[.val (.ref a0s), .val (.ref a1c), .val (.int 0), .val (.int 2), .val .null, .unset] [])) rfl (hb hby d4_27)
  obtain ⟨_, _, ⟨T3, L3, k3, n3⟩, -, X3, ⟨Lc3, hQ3, l3, y3, z3⟩, st3⟩ := Jvm.LawKit.callS X2 hx (y := MN_1) hown (mvT hZ (Wd hw 57 rfl)) (mvT hZ (Wd hw 58 rfl)) (mvT hZ (Wd hw 59 rfl)) (mvT hZ (Wd hw 60 rfl)) (by decide) (backOf (W := 0) (rmC1_2 l Z a0 hw [] cS (a1c) (k1) (c0) (c1) (h0) n0 O0 GL V_a1c hc0 hc1) hZ (Wd hw 60 rfl) (Wd hw 59 rfl) (by decide) (by decide)) (g := (mkF m 36 #[.val (.ref a0s), .val (.ref a1c), .val (.int 0), .val (.int 2), .val .null, .unset] [(.int 2), (.int 0), (.ref a1c)])) rfl (by rw [hml]; rfl) (argsL := [(.ref a1c), (.int 0), (.int 2)]) (rest := []) (lenOf pdv1 rfl) rfl (by show 2 * 0 + _ ≤ _; exact Nat.le_of_eq rfl) (hb hby d4_36) (fun _ _ => ⟨rfl, e2, (by decide : 0 + 1 ≤ _), (by decide : 0 + 2 ≤ _)⟩)
  dsimp only [Pt.U, Pt.locs, Pt.cells, Pt.slots] at X3 l3 y3 z3 st3 hQ3
  subst l3 y3 z3
  obtain ⟨b_3, kb_3, rfl, N3q, Kc3, P3_0, P3_1, P3_2⟩ := hQ3
  have K3 : Keep h0 T3.heap [a0s] := (Keep.refl h0 [a0s]).trans Kc3 all0
  have O3 := O0.keep Kc3 all0
  have g_b_3 : n0 ≤ b_3 := Nat.le_trans (own_sz O0) P3_0
  have sz_b_3 : h0.size ≤ b_3 := Nat.le_trans (Keep.refl h0 [a0s]).1 P3_0
  have N3 := Fr.app N0 N3q
  obtain ⟨_, _, ⟨T4, L4, k4, n4⟩, -, X4, ⟨Lc4, hQ4, l4, y4, z4⟩, st4⟩ := Jvm.LawKit.callS X3 hx (y := MN_2) hown (mvT hZ (Wd hw 64 rfl)) (mvT hZ (Wd hw 65 rfl)) (mvT hZ (Wd hw 59 rfl)) (mvT hZ (Wd hw 66 rfl)) (by decide) (backOf (W := 1) (rmCfa2_2 l Z a0 hw [] cS (b_3) (kb_3) ([(.int (c0.toInt8.toInt32)), (.int (c1.toInt8.toInt32))]) (T3.heap) n0 O3 GL P3_2) hZ (Wd hw 66 rfl) (Wd hw 59 rfl) (by decide) (by decide)) (g := (mkF m 45 #[.val (.ref a0s), .val (.ref a1c), .val (.int 0), .val (.int 2), .val .null, .val (.ref b_3)] [(.int 2), (.ref b_3), (.ref a0s)])) rfl (by rw [hml]; rfl) (argsL := [(.ref b_3), (.int 2)]) (rest := [(.ref a0s)]) (lenOf pdv2 rfl) rfl (by show 2 * 0 + _ ≤ _; exact Nat.le_of_eq rfl) (hb hby d4_45) (fun _ _ => ⟨rfl, rfl, (by decide : 1 + 0 ≤ _), (by decide : 2 + 0 ≤ _)⟩)
  dsimp only [Pt.U, Pt.locs, Pt.cells, Pt.slots] at X4 l4 y4 z4 st4 hQ4
  subst l4 y4 z4
  obtain ⟨rfl, N4q, e4⟩ := hQ4
  have N4 := Fr.app N3 N4q
  obtain ⟨T5, h5, X5, e5, W5, st5⟩ := putFN X4 hx hZ hown (Wd hw 29 rfl) Via.refl e4 (F_coder_a0s.keep Kc3 nin0) (E_a0s.keep Kc3) (Or.inr ⟨(Wd hw 25 rfl), rfl, hnm⟩) (Wd hw 10 rfl) (ty := .byte) (v' := (.int 0)) (by decide) rfl (by decide) (g := (mkF m 48 #[.val (.ref a0s), .val (.ref a1c), .val (.int 0), .val (.int 2), .val .null, .val (.ref b_3)] [(.int 0), (.ref a0s)])) rfl rfl (hb hby d4_48)
  have Fw5 := (F_coder_a0s.keep Kc3 nin0).same W5
  have K5 : Keep h0 h5 [a0s] := K3.wr W5 (Or.inl (List.mem_of_getElem? (i := 0) rfl))
  have O5 := O3.wr W5 g_a0s
  have N5 := Fr.snoc X5 N4 g_a0s
  obtain ⟨T6, h6, X6, e6, W6, st6⟩ := putF X5 hx hZ hown (host := "") (Or.inl (Wd hw 28 rfl)) Via.refl e5 ((F_value_a0s.keep Kc3 nin0).other W5 (Or.inr (slot_ne (a0 := a0) (Or.inr (Wd hw 24 rfl)) (Or.inr (Wd hw 25 rfl)) (by decide) (t := (.array .byte)) (t' := .byte) (by decide) (by decide)))) ((E_a0s.keep Kc3).wr W5) (Or.inr ⟨(Wd hw 24 rfl), rfl, hnm⟩) (Wd hw 10 rfl) (ty := (.array .byte)) (by decide) rfl rfl (g := (mkF m 54 #[.val (.ref a0s), .val (.ref a1c), .val (.int 0), .val (.int 2), .val .null, .val (.ref b_3)] [(.ref b_3), (.ref a0s)])) rfl rfl (hb hby d4_54)
  have Fw6 := ((F_value_a0s.keep Kc3 nin0).other W5 (Or.inr (slot_ne (a0 := a0) (Or.inr (Wd hw 24 rfl)) (Or.inr (Wd hw 25 rfl)) (by decide) (t := (.array .byte)) (t' := .byte) (by decide) (by decide)))).same W6
  have K6 : Keep h0 h6 [a0s] := K5.wr W6 (Or.inl (List.mem_of_getElem? (i := 0) rfl))
  have O6 := O5.wr W6 g_a0s
  have N6 := Fr.snoc X6 N5 g_a0s
  obtain ⟨fs, hr, hrun, hended, hW, hsame⟩ := X6.leave (v := none) (fun _ => rfl)
  refine ⟨_, _, pre0 _ ?_, hrun, hended, _, _, rfl, ?_, ⟨_, rfl⟩, hW, hsame.mono (by decide) (by decide)⟩
  · show Steps p.tables e below (s₁.setTop (mkF m 0 #[.val (.ref a0s), .val (.ref a1c), .val (.int 0), .val (.int 2), .val .null, .unset] [])) _
    refine XS.aloadN X0.here hx rfl (hb hby d4_0) rfl rfl ?_
    show Steps p.tables e below (s₁.setTop (mkF m 1 #[.val (.ref a0s), .val (.ref a1c), .val (.int 0), .val (.int 2), .val .null, .unset] [(.ref a0s)])) _
    refine st1 _ ?_
    show Steps p.tables e below (T1.setTop (mkF m 4 #[.val (.ref a0s), .val (.ref a1c), .val (.int 0), .val (.int 2), .val .null, .unset] [])) _
    refine XS.iloadN X1.here hx rfl (hb hby d4_4) rfl ?_
    refine XS.ifYes X1.here hx rfl (pc0 := 5) (pc' := 27) rfl (hb hby d4_5) rfl ((if0 _ _).trans (feq (by decide : ¬ ((2 : Int32) = (0 : Int32)))).2) (by decide) (by decide) ?_
    show Steps p.tables e below (T1.setTop (mkF m 27 #[.val (.ref a0s), .val (.ref a1c), .val (.int 0), .val (.int 2), .val .null, .unset] [])) _
    refine st2 _ ?_
    show Steps p.tables e below (T2.setTop (mkF m 30 #[.val (.ref a0s), .val (.ref a1c), .val (.int 0), .val (.int 2), .val .null, .unset] [(.int cS)])) _
    refine XS.ifNo X2.here hx rfl (hb hby d4_30) rfl ((if0 _ _).trans (feq GCP).1) ?_
    refine XS.aloadN X2.here hx rfl (hb hby d4_33) rfl rfl ?_
    refine XS.iloadN X2.here hx rfl (hb hby d4_34) rfl ?_
    refine XS.iloadN X2.here hx rfl (hb hby d4_35) rfl ?_
    show Steps p.tables e below (T2.setTop (mkF m 36 #[.val (.ref a0s), .val (.ref a1c), .val (.int 0), .val (.int 2), .val .null, .unset] [(.int 2), (.int 0), (.ref a1c)])) _
    refine st3 _ ?_
    show Steps p.tables e below (T3.setTop (mkF m 39 #[.val (.ref a0s), .val (.ref a1c), .val (.int 0), .val (.int 2), .val .null, .unset] [(.ref b_3)])) _
    refine XS.astore X3.here hx rfl (hb hby d4_39) rfl rfl (l' := #[.val (.ref a0s), .val (.ref a1c), .val (.int 0), .val (.int 2), .val .null, .val (.ref b_3)]) rfl ?_
    refine XS.aloadN X3.here hx rfl (hb hby d4_41) rfl rfl ?_
    refine XS.aload X3.here hx rfl (hb hby d4_42) rfl rfl ?_
    refine XS.iloadN X3.here hx rfl (hb hby d4_44) rfl ?_
    show Steps p.tables e below (T3.setTop (mkF m 45 #[.val (.ref a0s), .val (.ref a1c), .val (.int 0), .val (.int 2), .val .null, .val (.ref b_3)] [(.int 2), (.ref b_3), (.ref a0s)])) _
    refine st4 _ ?_
    show Steps p.tables e below (T4.setTop (mkF m 48 #[.val (.ref a0s), .val (.ref a1c), .val (.int 0), .val (.int 2), .val .null, .val (.ref b_3)] [(.int 0), (.ref a0s)])) _
    refine st5 _ ?_
    show Steps p.tables e below (T5.setTop (mkF m 51 #[.val (.ref a0s), .val (.ref a1c), .val (.int 0), .val (.int 2), .val .null, .val (.ref b_3)] [])) _
    refine XS.aloadN X5.here hx rfl (hb hby d4_51) rfl rfl ?_
    refine XS.aload X5.here hx rfl (hb hby d4_52) rfl rfl ?_
    show Steps p.tables e below (T5.setTop (mkF m 54 #[.val (.ref a0s), .val (.ref a1c), .val (.int 0), .val (.int 2), .val .null, .val (.ref b_3)] [(.ref b_3), (.ref a0s)])) _
    refine st6 _ ?_
    show Steps p.tables e below (T6.setTop (mkF m 57 #[.val (.ref a0s), .val (.ref a1c), .val (.int 0), .val (.int 2), .val .null, .val (.ref b_3)] [])) _
    exact X6.returnOut hx Bd.returns (hb hby d4_57) hr
  · show Q_rmIv_2 n0 Z cS a0s a1c k1 c0 c1 h0 _ T6.heap _
    rw [e6]
    exact ⟨b_3, kb_3, rfl, N6, K6, sz_b_3, ((P3_1.wr W5).wr W6), (((E_a0s.keep Kc3).wr W5).wr W6), Fw6, (Fw5.other W6 (Or.inr (slot_ne (a0 := a0) (Or.inr (Wd hw 25 rfl)) (Or.inr (Wd hw 24 rfl)) (by decide) (t := .byte) (t' := (.array .byte)) (by decide) (by decide)))), ((P3_2.other W5 (Ne.symm (Nat.ne_of_lt (Nat.lt_of_lt_of_le E_a0s.lt P3_0)))).other W6 (Ne.symm (Nat.ne_of_lt (Nat.lt_of_lt_of_le E_a0s.lt P3_0))))⟩
theorem ef_rmIv_3 (m : MethodId) (a0s : Addr) (a1c : Addr) : entryFrame m #[(.ref a0s), (.ref a1c), (.int 0), (.int 3), .null] 6 = mkF m 0 #[.val (.ref a0s), .val (.ref a1c), .val (.int 0), .val (.int 3), .val .null, .unset] [] := by first | (simp [entryFrame, mkF, argsToLocals, Value.category]; done) | rfl
def Q_rmIv_3 (n0 : Nat) (Z : State) (cS : Int32) (a0s : Addr) (a1c : Addr) (k1 : ClassId) (c0 : Int32) (c1 : Int32) (c2 : Int32) (h0 : Heap) (v : Option Value) (h : Heap) (L : List Loc) : Prop := ∃ b : Addr, ∃ kb : ClassId, v = none ∧ Fr n0 L ∧ Keep h0 h [a0s] ∧ (h0.size ≤ b) ∧ (Exa Z h b "[B") ∧ (Exa Z h a0s "java/lang/String") ∧ (Fld Z h a0s "java/lang/String" "value" "[B" (.ref b)) ∧ (Fld Z h a0s "java/lang/String" "coder" "B" (.int 0)) ∧ (Arv Z h b kb .byte (3 : Int32) [(.int (c0.toInt8.toInt32)), (.int (c1.toInt8.toInt32)), (.int (c2.toInt8.toInt32))] (.int 0))
set_option maxRecDepth 65536 in
set_option maxHeartbeats 40000000 in
theorem rmIv_3 (l : Launch) (Z : State) (a0 : Array Value) (hw : ∀ d ∈ tables_1, d.before a0 Z = true) (ws : List Jvm.Cond) (cS : Int32) (a0s : Addr) (a1c : Addr) (k1 : ClassId) (c0 : Int32) (c1 : Int32) (c2 : Int32) (h0 : Heap) (n0 : Nat) (O0 : Old Z n0 h0) (GL : GF Z cS) (E_a0s : Exa Z h0 a0s "java/lang/String") (F_value_a0s : Fld Z h0 a0s "java/lang/String" "value" "[B" .null) (F_coder_a0s : Fld Z h0 a0s "java/lang/String" "coder" "B" (.int 0)) (g_a0s : n0 ≤ a0s) (V_a1c : Arv Z h0 a1c k1 .char (3 : Int32) [(.int c0), (.int c1), (.int c2)] (.int 0)) (hc0 : ¬ ((255 : Int32) < c0)) (hc1 : ¬ ((255 : Int32) < c1)) (hc2 : ¬ ((255 : Int32) < c2)) :
    MetFree l MN_3 (head1 (Jvm.Cond.code MN_3 jdk_42_method_149_code 6 none :: ws) ({ frames := 2, cells := 1, slots := 3, locals := 35 } : Room)) (fun a U => a = #[(.ref a0s), (.ref a1c), (.int 0), (.int 3), .null] ∧ Z.Warmed39 U.vm ∧ U.heap = h0) (fun _ _ _ _ _ => True) (fun _ U o U' => ∃ v L, o = .returned v ∧ Q_rmIv_3 n0 Z cS a0s a1c k1 c0 c1 c2 h0 v U'.heap L ∧ FrameEnd U o U' L ({ frames := 2, cells := 1, slots := 3, locals := 35 } : Room).cells ({ frames := 2, cells := 1, slots := 3, locals := 35 } : Room).slots) := by
  refine MetFree.of_bodySF (plainFor_of_name pnv1) hisR ?_
  intro p e s m args below meth c s₁ Bd hml0 hP hK
  obtain ⟨rfl, hZ, hh⟩ := hP
  have hx := Bd.exec
  have hby := Bd.bytes
  have hml : c.maxLocals = 6 := hml0
  have hown : s.vm.findClass "java/lang/String" = some m.cls := findClass_of_methodNamed Bd.named
  have hnm := (name_of_methodNamed Bd.named Bd.method).1
  have X0 : Stand p l e ({ frames := 2, cells := 1, slots := 3, locals := 35 } : Room) s m #[(.ref a0s), (.ref a1c), (.int 0), (.int 3), .null] below meth c s₁ [] 0 0 := Stand.of_body Bd
  have e0 : s₁.heap = h0 := by rw [← hh, Bd.state]; rfl
  have N0 := Fr.nil n0
  have pre0 : ∀ t, Steps p.tables e below (s₁.setTop (mkF m 0 #[.val (.ref a0s), .val (.ref a1c), .val (.int 0), .val (.int 3), .val .null, .unset] [])) t → Steps p.tables e below (s₁.setTop (entryFrame m #[(.ref a0s), (.ref a1c), (.int 0), (.int 3), .null] 6)) t := fun t k => castTop (ef_rmIv_3 m a0s a1c) k
  have GL' := GL
  obtain ⟨GCS, GCP⟩ := GL'
  obtain ⟨T1, X1, e1, st1⟩ := initO X0 hx hZ hown (Wd hw 19 rfl) (Wd hw 20 rfl) (Wd hw 21 rfl) e0 (g := (mkF m 1 #[.val (.ref a0s), .val (.ref a1c), .val (.int 0), .val (.int 3), .val .null, .unset] [(.ref a0s)])) rfl (by rw [hml]; rfl) rfl (hb hby d4_1) (by decide) (W := 0) (by show 2 * 0 + _ ≤ _; exact Nat.le_of_eq rfl) (by decide)
  obtain ⟨T2, X2, e2, st2⟩ := getS2 X1 hx hZ hown (host := "") (Or.inl (Wd hw 50 rfl)) Via.refl e1 (GCS.ext O0.2) (g := (mkF m 27 #[.val (.ref a0s), .val (.ref a1c), .val (.int 0), .val (.int 3), .val .null, .unset] [])) rfl (hb hby d4_27)
  obtain ⟨_, _, ⟨T3, L3, k3, n3⟩, -, X3, ⟨Lc3, hQ3, l3, y3, z3⟩, st3⟩ := Jvm.LawKit.callS X2 hx (y := MN_1) hown (mvT hZ (Wd hw 57 rfl)) (mvT hZ (Wd hw 58 rfl)) (mvT hZ (Wd hw 59 rfl)) (mvT hZ (Wd hw 60 rfl)) (by decide) (backOf (W := 0) (rmC1_3 l Z a0 hw [] cS (a1c) (k1) (c0) (c1) (c2) (h0) n0 O0 GL V_a1c hc0 hc1 hc2) hZ (Wd hw 60 rfl) (Wd hw 59 rfl) (by decide) (by decide)) (g := (mkF m 36 #[.val (.ref a0s), .val (.ref a1c), .val (.int 0), .val (.int 3), .val .null, .unset] [(.int 3), (.int 0), (.ref a1c)])) rfl (by rw [hml]; rfl) (argsL := [(.ref a1c), (.int 0), (.int 3)]) (rest := []) (lenOf pdv1 rfl) rfl (by show 2 * 0 + _ ≤ _; exact Nat.le_of_eq rfl) (hb hby d4_36) (fun _ _ => ⟨rfl, e2, (by decide : 0 + 1 ≤ _), (by decide : 0 + 3 ≤ _)⟩)
  dsimp only [Pt.U, Pt.locs, Pt.cells, Pt.slots] at X3 l3 y3 z3 st3 hQ3
  subst l3 y3 z3
  obtain ⟨b_3, kb_3, rfl, N3q, Kc3, P3_0, P3_1, P3_2⟩ := hQ3
  have K3 : Keep h0 T3.heap [a0s] := (Keep.refl h0 [a0s]).trans Kc3 all0
  have O3 := O0.keep Kc3 all0
  have g_b_3 : n0 ≤ b_3 := Nat.le_trans (own_sz O0) P3_0
  have sz_b_3 : h0.size ≤ b_3 := Nat.le_trans (Keep.refl h0 [a0s]).1 P3_0
  have N3 := Fr.app N0 N3q
  obtain ⟨_, _, ⟨T4, L4, k4, n4⟩, -, X4, ⟨Lc4, hQ4, l4, y4, z4⟩, st4⟩ := Jvm.LawKit.callS X3 hx (y := MN_2) hown (mvT hZ (Wd hw 64 rfl)) (mvT hZ (Wd hw 65 rfl)) (mvT hZ (Wd hw 59 rfl)) (mvT hZ (Wd hw 66 rfl)) (by decide) (backOf (W := 1) (rmCfa3_3 l Z a0 hw [] cS (b_3) (kb_3) ([(.int (c0.toInt8.toInt32)), (.int (c1.toInt8.toInt32)), (.int (c2.toInt8.toInt32))]) (T3.heap) n0 O3 GL P3_2) hZ (Wd hw 66 rfl) (Wd hw 59 rfl) (by decide) (by decide)) (g := (mkF m 45 #[.val (.ref a0s), .val (.ref a1c), .val (.int 0), .val (.int 3), .val .null, .val (.ref b_3)] [(.int 3), (.ref b_3), (.ref a0s)])) rfl (by rw [hml]; rfl) (argsL := [(.ref b_3), (.int 3)]) (rest := [(.ref a0s)]) (lenOf pdv2 rfl) rfl (by show 2 * 0 + _ ≤ _; exact Nat.le_of_eq rfl) (hb hby d4_45) (fun _ _ => ⟨rfl, rfl, (by decide : 1 + 0 ≤ _), (by decide : 3 + 0 ≤ _)⟩)
  dsimp only [Pt.U, Pt.locs, Pt.cells, Pt.slots] at X4 l4 y4 z4 st4 hQ4
  subst l4 y4 z4
  obtain ⟨rfl, N4q, e4⟩ := hQ4
  have N4 := Fr.app N3 N4q
  obtain ⟨T5, h5, X5, e5, W5, st5⟩ := putFN X4 hx hZ hown (Wd hw 29 rfl) Via.refl e4 (F_coder_a0s.keep Kc3 nin0) (E_a0s.keep Kc3) (Or.inr ⟨(Wd hw 25 rfl), rfl, hnm⟩) (Wd hw 10 rfl) (ty := .byte) (v' := (.int 0)) (by decide) rfl (by decide) (g := (mkF m 48 #[.val (.ref a0s), .val (.ref a1c), .val (.int 0), .val (.int 3), .val .null, .val (.ref b_3)] [(.int 0), (.ref a0s)])) rfl rfl (hb hby d4_48)
  have Fw5 := (F_coder_a0s.keep Kc3 nin0).same W5
  have K5 : Keep h0 h5 [a0s] := K3.wr W5 (Or.inl (List.mem_of_getElem? (i := 0) rfl))
  have O5 := O3.wr W5 g_a0s
  have N5 := Fr.snoc X5 N4 g_a0s
  obtain ⟨T6, h6, X6, e6, W6, st6⟩ := putF X5 hx hZ hown (host := "") (Or.inl (Wd hw 28 rfl)) Via.refl e5 ((F_value_a0s.keep Kc3 nin0).other W5 (Or.inr (slot_ne (a0 := a0) (Or.inr (Wd hw 24 rfl)) (Or.inr (Wd hw 25 rfl)) (by decide) (t := (.array .byte)) (t' := .byte) (by decide) (by decide)))) ((E_a0s.keep Kc3).wr W5) (Or.inr ⟨(Wd hw 24 rfl), rfl, hnm⟩) (Wd hw 10 rfl) (ty := (.array .byte)) (by decide) rfl rfl (g := (mkF m 54 #[.val (.ref a0s), .val (.ref a1c), .val (.int 0), .val (.int 3), .val .null, .val (.ref b_3)] [(.ref b_3), (.ref a0s)])) rfl rfl (hb hby d4_54)
  have Fw6 := ((F_value_a0s.keep Kc3 nin0).other W5 (Or.inr (slot_ne (a0 := a0) (Or.inr (Wd hw 24 rfl)) (Or.inr (Wd hw 25 rfl)) (by decide) (t := (.array .byte)) (t' := .byte) (by decide) (by decide)))).same W6
  have K6 : Keep h0 h6 [a0s] := K5.wr W6 (Or.inl (List.mem_of_getElem? (i := 0) rfl))
  have O6 := O5.wr W6 g_a0s
  have N6 := Fr.snoc X6 N5 g_a0s
  obtain ⟨fs, hr, hrun, hended, hW, hsame⟩ := X6.leave (v := none) (fun _ => rfl)
  refine ⟨_, _, pre0 _ ?_, hrun, hended, _, _, rfl, ?_, ⟨_, rfl⟩, hW, hsame.mono (by decide) (by decide)⟩
  · show Steps p.tables e below (s₁.setTop (mkF m 0 #[.val (.ref a0s), .val (.ref a1c), .val (.int 0), .val (.int 3), .val .null, .unset] [])) _
    refine XS.aloadN X0.here hx rfl (hb hby d4_0) rfl rfl ?_
    show Steps p.tables e below (s₁.setTop (mkF m 1 #[.val (.ref a0s), .val (.ref a1c), .val (.int 0), .val (.int 3), .val .null, .unset] [(.ref a0s)])) _
    refine st1 _ ?_
    show Steps p.tables e below (T1.setTop (mkF m 4 #[.val (.ref a0s), .val (.ref a1c), .val (.int 0), .val (.int 3), .val .null, .unset] [])) _
    refine XS.iloadN X1.here hx rfl (hb hby d4_4) rfl ?_
    refine XS.ifYes X1.here hx rfl (pc0 := 5) (pc' := 27) rfl (hb hby d4_5) rfl ((if0 _ _).trans (feq (by decide : ¬ ((3 : Int32) = (0 : Int32)))).2) (by decide) (by decide) ?_
    show Steps p.tables e below (T1.setTop (mkF m 27 #[.val (.ref a0s), .val (.ref a1c), .val (.int 0), .val (.int 3), .val .null, .unset] [])) _
    refine st2 _ ?_
    show Steps p.tables e below (T2.setTop (mkF m 30 #[.val (.ref a0s), .val (.ref a1c), .val (.int 0), .val (.int 3), .val .null, .unset] [(.int cS)])) _
    refine XS.ifNo X2.here hx rfl (hb hby d4_30) rfl ((if0 _ _).trans (feq GCP).1) ?_
    refine XS.aloadN X2.here hx rfl (hb hby d4_33) rfl rfl ?_
    refine XS.iloadN X2.here hx rfl (hb hby d4_34) rfl ?_
    refine XS.iloadN X2.here hx rfl (hb hby d4_35) rfl ?_
    show Steps p.tables e below (T2.setTop (mkF m 36 #[.val (.ref a0s), .val (.ref a1c), .val (.int 0), .val (.int 3), .val .null, .unset] [(.int 3), (.int 0), (.ref a1c)])) _
    refine st3 _ ?_
    show Steps p.tables e below (T3.setTop (mkF m 39 #[.val (.ref a0s), .val (.ref a1c), .val (.int 0), .val (.int 3), .val .null, .unset] [(.ref b_3)])) _
    refine XS.astore X3.here hx rfl (hb hby d4_39) rfl rfl (l' := #[.val (.ref a0s), .val (.ref a1c), .val (.int 0), .val (.int 3), .val .null, .val (.ref b_3)]) rfl ?_
    refine XS.aloadN X3.here hx rfl (hb hby d4_41) rfl rfl ?_
    refine XS.aload X3.here hx rfl (hb hby d4_42) rfl rfl ?_
    refine XS.iloadN X3.here hx rfl (hb hby d4_44) rfl ?_
    show Steps p.tables e below (T3.setTop (mkF m 45 #[.val (.ref a0s), .val (.ref a1c), .val (.int 0), .val (.int 3), .val .null, .val (.ref b_3)] [(.int 3), (.ref b_3), (.ref a0s)])) _
    refine st4 _ ?_
    show Steps p.tables e below (T4.setTop (mkF m 48 #[.val (.ref a0s), .val (.ref a1c), .val (.int 0), .val (.int 3), .val .null, .val (.ref b_3)] [(.int 0), (.ref a0s)])) _
    refine st5 _ ?_
    show Steps p.tables e below (T5.setTop (mkF m 51 #[.val (.ref a0s), .val (.ref a1c), .val (.int 0), .val (.int 3), .val .null, .val (.ref b_3)] [])) _
    refine XS.aloadN X5.here hx rfl (hb hby d4_51) rfl rfl ?_
    refine XS.aload X5.here hx rfl (hb hby d4_52) rfl rfl ?_
    show Steps p.tables e below (T5.setTop (mkF m 54 #[.val (.ref a0s), .val (.ref a1c), .val (.int 0), .val (.int 3), .val .null, .val (.ref b_3)] [(.ref b_3), (.ref a0s)])) _
    refine st6 _ ?_
    show Steps p.tables e below (T6.setTop (mkF m 57 #[.val (.ref a0s), .val (.ref a1c), .val (.int 0), .val (.int 3), .val .null, .val (.ref b_3)] [])) _
    exact X6.returnOut hx Bd.returns (hb hby d4_57) hr
  · show Q_rmIv_3 n0 Z cS a0s a1c k1 c0 c1 c2 h0 _ T6.heap _
    rw [e6]
    exact ⟨b_3, kb_3, rfl, N6, K6, sz_b_3, ((P3_1.wr W5).wr W6), (((E_a0s.keep Kc3).wr W5).wr W6), Fw6, (Fw5.other W6 (Or.inr (slot_ne (a0 := a0) (Or.inr (Wd hw 25 rfl)) (Or.inr (Wd hw 24 rfl)) (by decide) (t := .byte) (t' := (.array .byte)) (by decide) (by decide)))), ((P3_2.other W5 (Ne.symm (Nat.ne_of_lt (Nat.lt_of_lt_of_le E_a0s.lt P3_0)))).other W6 (Ne.symm (Nat.ne_of_lt (Nat.lt_of_lt_of_le E_a0s.lt P3_0))))⟩
theorem ef_rmIv_4 (m : MethodId) (a0s : Addr) (a1c : Addr) : entryFrame m #[(.ref a0s), (.ref a1c), (.int 0), (.int 4), .null] 6 = mkF m 0 #[.val (.ref a0s), .val (.ref a1c), .val (.int 0), .val (.int 4), .val .null, .unset] [] := by first | (simp [entryFrame, mkF, argsToLocals, Value.category]; done) | rfl
def Q_rmIv_4 (n0 : Nat) (Z : State) (cS : Int32) (a0s : Addr) (a1c : Addr) (k1 : ClassId) (c0 : Int32) (c1 : Int32) (c2 : Int32) (c3 : Int32) (h0 : Heap) (v : Option Value) (h : Heap) (L : List Loc) : Prop := ∃ b : Addr, ∃ kb : ClassId, v = none ∧ Fr n0 L ∧ Keep h0 h [a0s] ∧ (h0.size ≤ b) ∧ (Exa Z h b "[B") ∧ (Exa Z h a0s "java/lang/String") ∧ (Fld Z h a0s "java/lang/String" "value" "[B" (.ref b)) ∧ (Fld Z h a0s "java/lang/String" "coder" "B" (.int 0)) ∧ (Arv Z h b kb .byte (4 : Int32) [(.int (c0.toInt8.toInt32)), (.int (c1.toInt8.toInt32)), (.int (c2.toInt8.toInt32)), (.int (c3.toInt8.toInt32))] (.int 0))
set_option maxRecDepth 65536 in
set_option maxHeartbeats 40000000 in
theorem rmIv_4 (l : Launch) (Z : State) (a0 : Array Value) (hw : ∀ d ∈ tables_1, d.before a0 Z = true) (ws : List Jvm.Cond) (cS : Int32) (a0s : Addr) (a1c : Addr) (k1 : ClassId) (c0 : Int32) (c1 : Int32) (c2 : Int32) (c3 : Int32) (h0 : Heap) (n0 : Nat) (O0 : Old Z n0 h0) (GL : GF Z cS) (E_a0s : Exa Z h0 a0s "java/lang/String") (F_value_a0s : Fld Z h0 a0s "java/lang/String" "value" "[B" .null) (F_coder_a0s : Fld Z h0 a0s "java/lang/String" "coder" "B" (.int 0)) (g_a0s : n0 ≤ a0s) (V_a1c : Arv Z h0 a1c k1 .char (4 : Int32) [(.int c0), (.int c1), (.int c2), (.int c3)] (.int 0)) (hc0 : ¬ ((255 : Int32) < c0)) (hc1 : ¬ ((255 : Int32) < c1)) (hc2 : ¬ ((255 : Int32) < c2)) (hc3 : ¬ ((255 : Int32) < c3)) :
    MetFree l MN_3 (head1 (Jvm.Cond.code MN_3 jdk_42_method_149_code 6 none :: ws) ({ frames := 2, cells := 1, slots := 4, locals := 35 } : Room)) (fun a U => a = #[(.ref a0s), (.ref a1c), (.int 0), (.int 4), .null] ∧ Z.Warmed39 U.vm ∧ U.heap = h0) (fun _ _ _ _ _ => True) (fun _ U o U' => ∃ v L, o = .returned v ∧ Q_rmIv_4 n0 Z cS a0s a1c k1 c0 c1 c2 c3 h0 v U'.heap L ∧ FrameEnd U o U' L ({ frames := 2, cells := 1, slots := 4, locals := 35 } : Room).cells ({ frames := 2, cells := 1, slots := 4, locals := 35 } : Room).slots) := by
  refine MetFree.of_bodySF (plainFor_of_name pnv1) hisR ?_
  intro p e s m args below meth c s₁ Bd hml0 hP hK
  obtain ⟨rfl, hZ, hh⟩ := hP
  have hx := Bd.exec
  have hby := Bd.bytes
  have hml : c.maxLocals = 6 := hml0
  have hown : s.vm.findClass "java/lang/String" = some m.cls := findClass_of_methodNamed Bd.named
  have hnm := (name_of_methodNamed Bd.named Bd.method).1
  have X0 : Stand p l e ({ frames := 2, cells := 1, slots := 4, locals := 35 } : Room) s m #[(.ref a0s), (.ref a1c), (.int 0), (.int 4), .null] below meth c s₁ [] 0 0 := Stand.of_body Bd
  have e0 : s₁.heap = h0 := by rw [← hh, Bd.state]; rfl
  have N0 := Fr.nil n0
  have pre0 : ∀ t, Steps p.tables e below (s₁.setTop (mkF m 0 #[.val (.ref a0s), .val (.ref a1c), .val (.int 0), .val (.int 4), .val .null, .unset] [])) t → Steps p.tables e below (s₁.setTop (entryFrame m #[(.ref a0s), (.ref a1c), (.int 0), (.int 4), .null] 6)) t := fun t k => castTop (ef_rmIv_4 m a0s a1c) k
  have GL' := GL
  obtain ⟨GCS, GCP⟩ := GL'
  obtain ⟨T1, X1, e1, st1⟩ := initO X0 hx hZ hown (Wd hw 19 rfl) (Wd hw 20 rfl) (Wd hw 21 rfl) e0 (g := (mkF m 1 #[.val (.ref a0s), .val (.ref a1c), .val (.int 0), .val (.int 4), .val .null, .unset] [(.ref a0s)])) rfl (by rw [hml]; rfl) rfl (hb hby d4_1) (by decide) (W := 0) (by show 2 * 0 + _ ≤ _; exact Nat.le_of_eq rfl) (by decide)
  obtain ⟨T2, X2, e2, st2⟩ := getS2 X1 hx hZ hown (host := "") (Or.inl (Wd hw 50 rfl)) Via.refl e1 (GCS.ext O0.2) (g := (mkF m 27 #[.val (.ref a0s), .val (.ref a1c), .val (.int 0), .val (.int 4), .val .null, .unset] [])) rfl (hb hby d4_27)
  obtain ⟨_, _, ⟨T3, L3, k3, n3⟩, -, X3, ⟨Lc3, hQ3, l3, y3, z3⟩, st3⟩ := Jvm.LawKit.callS X2 hx (y := MN_1) hown (mvT hZ (Wd hw 57 rfl)) (mvT hZ (Wd hw 58 rfl)) (mvT hZ (Wd hw 59 rfl)) (mvT hZ (Wd hw 60 rfl)) (by decide) (backOf (W := 0) (rmC1_4 l Z a0 hw [] cS (a1c) (k1) (c0) (c1) (c2) (c3) (h0) n0 O0 GL V_a1c hc0 hc1 hc2 hc3) hZ (Wd hw 60 rfl) (Wd hw 59 rfl) (by decide) (by decide)) (g := (mkF m 36 #[.val (.ref a0s), .val (.ref a1c), .val (.int 0), .val (.int 4), .val .null, .unset] [(.int 4), (.int 0), (.ref a1c)])) rfl (by rw [hml]; rfl) (argsL := [(.ref a1c), (.int 0), (.int 4)]) (rest := []) (lenOf pdv1 rfl) rfl (by show 2 * 0 + _ ≤ _; exact Nat.le_of_eq rfl) (hb hby d4_36) (fun _ _ => ⟨rfl, e2, (by decide : 0 + 1 ≤ _), (by decide : 0 + 4 ≤ _)⟩)
  dsimp only [Pt.U, Pt.locs, Pt.cells, Pt.slots] at X3 l3 y3 z3 st3 hQ3
  subst l3 y3 z3
  obtain ⟨b_3, kb_3, rfl, N3q, Kc3, P3_0, P3_1, P3_2⟩ := hQ3
  have K3 : Keep h0 T3.heap [a0s] := (Keep.refl h0 [a0s]).trans Kc3 all0
  have O3 := O0.keep Kc3 all0
  have g_b_3 : n0 ≤ b_3 := Nat.le_trans (own_sz O0) P3_0
  have sz_b_3 : h0.size ≤ b_3 := Nat.le_trans (Keep.refl h0 [a0s]).1 P3_0
  have N3 := Fr.app N0 N3q
  obtain ⟨_, _, ⟨T4, L4, k4, n4⟩, -, X4, ⟨Lc4, hQ4, l4, y4, z4⟩, st4⟩ := Jvm.LawKit.callS X3 hx (y := MN_2) hown (mvT hZ (Wd hw 64 rfl)) (mvT hZ (Wd hw 65 rfl)) (mvT hZ (Wd hw 59 rfl)) (mvT hZ (Wd hw 66 rfl)) (by decide) (backOf (W := 1) (rmCfa4_4 l Z a0 hw [] cS (b_3) (kb_3) ([(.int (c0.toInt8.toInt32)), (.int (c1.toInt8.toInt32)), (.int (c2.toInt8.toInt32)), (.int (c3.toInt8.toInt32))]) (T3.heap) n0 O3 GL P3_2) hZ (Wd hw 66 rfl) (Wd hw 59 rfl) (by decide) (by decide)) (g := (mkF m 45 #[.val (.ref a0s), .val (.ref a1c), .val (.int 0), .val (.int 4), .val .null, .val (.ref b_3)] [(.int 4), (.ref b_3), (.ref a0s)])) rfl (by rw [hml]; rfl) (argsL := [(.ref b_3), (.int 4)]) (rest := [(.ref a0s)]) (lenOf pdv2 rfl) rfl (by show 2 * 0 + _ ≤ _; exact Nat.le_of_eq rfl) (hb hby d4_45) (fun _ _ => ⟨rfl, rfl, (by decide : 1 + 0 ≤ _), (by decide : 4 + 0 ≤ _)⟩)
  dsimp only [Pt.U, Pt.locs, Pt.cells, Pt.slots] at X4 l4 y4 z4 st4 hQ4
  subst l4 y4 z4
  obtain ⟨rfl, N4q, e4⟩ := hQ4
  have N4 := Fr.app N3 N4q
  obtain ⟨T5, h5, X5, e5, W5, st5⟩ := putFN X4 hx hZ hown (Wd hw 29 rfl) Via.refl e4 (F_coder_a0s.keep Kc3 nin0) (E_a0s.keep Kc3) (Or.inr ⟨(Wd hw 25 rfl), rfl, hnm⟩) (Wd hw 10 rfl) (ty := .byte) (v' := (.int 0)) (by decide) rfl (by decide) (g := (mkF m 48 #[.val (.ref a0s), .val (.ref a1c), .val (.int 0), .val (.int 4), .val .null, .val (.ref b_3)] [(.int 0), (.ref a0s)])) rfl rfl (hb hby d4_48)
  have Fw5 := (F_coder_a0s.keep Kc3 nin0).same W5
  have K5 : Keep h0 h5 [a0s] := K3.wr W5 (Or.inl (List.mem_of_getElem? (i := 0) rfl))
  have O5 := O3.wr W5 g_a0s
  have N5 := Fr.snoc X5 N4 g_a0s
  obtain ⟨T6, h6, X6, e6, W6, st6⟩ := putF X5 hx hZ hown (host := "") (Or.inl (Wd hw 28 rfl)) Via.refl e5 ((F_value_a0s.keep Kc3 nin0).other W5 (Or.inr (slot_ne (a0 := a0) (Or.inr (Wd hw 24 rfl)) (Or.inr (Wd hw 25 rfl)) (by decide) (t := (.array .byte)) (t' := .byte) (by decide) (by decide)))) ((E_a0s.keep Kc3).wr W5) (Or.inr ⟨(Wd hw 24 rfl), rfl, hnm⟩) (Wd hw 10 rfl) (ty := (.array .byte)) (by decide) rfl rfl (g := (mkF m 54 #[.val (.ref a0s), .val (.ref a1c), .val (.int 0), .val (.int 4), .val .null, .val (.ref b_3)] [(.ref b_3), (.ref a0s)])) rfl rfl (hb hby d4_54)
  have Fw6 := ((F_value_a0s.keep Kc3 nin0).other W5 (Or.inr (slot_ne (a0 := a0) (Or.inr (Wd hw 24 rfl)) (Or.inr (Wd hw 25 rfl)) (by decide) (t := (.array .byte)) (t' := .byte) (by decide) (by decide)))).same W6
  have K6 : Keep h0 h6 [a0s] := K5.wr W6 (Or.inl (List.mem_of_getElem? (i := 0) rfl))
  have O6 := O5.wr W6 g_a0s
  have N6 := Fr.snoc X6 N5 g_a0s
  obtain ⟨fs, hr, hrun, hended, hW, hsame⟩ := X6.leave (v := none) (fun _ => rfl)
  refine ⟨_, _, pre0 _ ?_, hrun, hended, _, _, rfl, ?_, ⟨_, rfl⟩, hW, hsame.mono (by decide) (by decide)⟩
  · show Steps p.tables e below (s₁.setTop (mkF m 0 #[.val (.ref a0s), .val (.ref a1c), .val (.int 0), .val (.int 4), .val .null, .unset] [])) _
    refine XS.aloadN X0.here hx rfl (hb hby d4_0) rfl rfl ?_
    show Steps p.tables e below (s₁.setTop (mkF m 1 #[.val (.ref a0s), .val (.ref a1c), .val (.int 0), .val (.int 4), .val .null, .unset] [(.ref a0s)])) _
    refine st1 _ ?_
    show Steps p.tables e below (T1.setTop (mkF m 4 #[.val (.ref a0s), .val (.ref a1c), .val (.int 0), .val (.int 4), .val .null, .unset] [])) _
    refine XS.iloadN X1.here hx rfl (hb hby d4_4) rfl ?_
    refine XS.ifYes X1.here hx rfl (pc0 := 5) (pc' := 27) rfl (hb hby d4_5) rfl ((if0 _ _).trans (feq (by decide : ¬ ((4 : Int32) = (0 : Int32)))).2) (by decide) (by decide) ?_
    show Steps p.tables e below (T1.setTop (mkF m 27 #[.val (.ref a0s), .val (.ref a1c), .val (.int 0), .val (.int 4), .val .null, .unset] [])) _
    refine st2 _ ?_
    show Steps p.tables e below (T2.setTop (mkF m 30 #[.val (.ref a0s), .val (.ref a1c), .val (.int 0), .val (.int 4), .val .null, .unset] [(.int cS)])) _
    refine XS.ifNo X2.here hx rfl (hb hby d4_30) rfl ((if0 _ _).trans (feq GCP).1) ?_
    refine XS.aloadN X2.here hx rfl (hb hby d4_33) rfl rfl ?_
    refine XS.iloadN X2.here hx rfl (hb hby d4_34) rfl ?_
    refine XS.iloadN X2.here hx rfl (hb hby d4_35) rfl ?_
    show Steps p.tables e below (T2.setTop (mkF m 36 #[.val (.ref a0s), .val (.ref a1c), .val (.int 0), .val (.int 4), .val .null, .unset] [(.int 4), (.int 0), (.ref a1c)])) _
    refine st3 _ ?_
    show Steps p.tables e below (T3.setTop (mkF m 39 #[.val (.ref a0s), .val (.ref a1c), .val (.int 0), .val (.int 4), .val .null, .unset] [(.ref b_3)])) _
    refine XS.astore X3.here hx rfl (hb hby d4_39) rfl rfl (l' := #[.val (.ref a0s), .val (.ref a1c), .val (.int 0), .val (.int 4), .val .null, .val (.ref b_3)]) rfl ?_
    refine XS.aloadN X3.here hx rfl (hb hby d4_41) rfl rfl ?_
    refine XS.aload X3.here hx rfl (hb hby d4_42) rfl rfl ?_
    refine XS.iloadN X3.here hx rfl (hb hby d4_44) rfl ?_
    show Steps p.tables e below (T3.setTop (mkF m 45 #[.val (.ref a0s), .val (.ref a1c), .val (.int 0), .val (.int 4), .val .null, .val (.ref b_3)] [(.int 4), (.ref b_3), (.ref a0s)])) _
    refine st4 _ ?_
    show Steps p.tables e below (T4.setTop (mkF m 48 #[.val (.ref a0s), .val (.ref a1c), .val (.int 0), .val (.int 4), .val .null, .val (.ref b_3)] [(.int 0), (.ref a0s)])) _
    refine st5 _ ?_
    show Steps p.tables e below (T5.setTop (mkF m 51 #[.val (.ref a0s), .val (.ref a1c), .val (.int 0), .val (.int 4), .val .null, .val (.ref b_3)] [])) _
    refine XS.aloadN X5.here hx rfl (hb hby d4_51) rfl rfl ?_
    refine XS.aload X5.here hx rfl (hb hby d4_52) rfl rfl ?_
    show Steps p.tables e below (T5.setTop (mkF m 54 #[.val (.ref a0s), .val (.ref a1c), .val (.int 0), .val (.int 4), .val .null, .val (.ref b_3)] [(.ref b_3), (.ref a0s)])) _
    refine st6 _ ?_
    show Steps p.tables e below (T6.setTop (mkF m 57 #[.val (.ref a0s), .val (.ref a1c), .val (.int 0), .val (.int 4), .val .null, .val (.ref b_3)] [])) _
    exact X6.returnOut hx Bd.returns (hb hby d4_57) hr
  · show Q_rmIv_4 n0 Z cS a0s a1c k1 c0 c1 c2 c3 h0 _ T6.heap _
    rw [e6]
    exact ⟨b_3, kb_3, rfl, N6, K6, sz_b_3, ((P3_1.wr W5).wr W6), (((E_a0s.keep Kc3).wr W5).wr W6), Fw6, (Fw5.other W6 (Or.inr (slot_ne (a0 := a0) (Or.inr (Wd hw 25 rfl)) (Or.inr (Wd hw 24 rfl)) (by decide) (t := .byte) (t' := (.array .byte)) (by decide) (by decide)))), ((P3_2.other W5 (Ne.symm (Nat.ne_of_lt (Nat.lt_of_lt_of_le E_a0s.lt P3_0)))).other W6 (Ne.symm (Nat.ne_of_lt (Nat.lt_of_lt_of_le E_a0s.lt P3_0))))⟩
theorem ef_rmIv_5 (m : MethodId) (a0s : Addr) (a1c : Addr) : entryFrame m #[(.ref a0s), (.ref a1c), (.int 0), (.int 5), .null] 6 = mkF m 0 #[.val (.ref a0s), .val (.ref a1c), .val (.int 0), .val (.int 5), .val .null, .unset] [] := by first | (simp [entryFrame, mkF, argsToLocals, Value.category]; done) | rfl
def Q_rmIv_5 (n0 : Nat) (Z : State) (cS : Int32) (a0s : Addr) (a1c : Addr) (k1 : ClassId) (c0 : Int32) (c1 : Int32) (c2 : Int32) (c3 : Int32) (c4 : Int32) (h0 : Heap) (v : Option Value) (h : Heap) (L : List Loc) : Prop := ∃ b : Addr, ∃ kb : ClassId, v = none ∧ Fr n0 L ∧ Keep h0 h [a0s] ∧ (h0.size ≤ b) ∧ (Exa Z h b "[B") ∧ (Exa Z h a0s "java/lang/String") ∧ (Fld Z h a0s "java/lang/String" "value" "[B" (.ref b)) ∧ (Fld Z h a0s "java/lang/String" "coder" "B" (.int 0)) ∧ (Arv Z h b kb .byte (5 : Int32) [(.int (c0.toInt8.toInt32)), (.int (c1.toInt8.toInt32)), (.int (c2.toInt8.toInt32)), (.int (c3.toInt8.toInt32)), (.int (c4.toInt8.toInt32))] (.int 0))
set_option maxRecDepth 65536 in
set_option maxHeartbeats 40000000 in
theorem rmIv_5 (l : Launch) (Z : State) (a0 : Array Value) (hw : ∀ d ∈ tables_1, d.before a0 Z = true) (ws : List Jvm.Cond) (cS : Int32) (a0s : Addr) (a1c : Addr) (k1 : ClassId) (c0 : Int32) (c1 : Int32) (c2 : Int32) (c3 : Int32) (c4 : Int32) (h0 : Heap) (n0 : Nat) (O0 : Old Z n0 h0) (GL : GF Z cS) (E_a0s : Exa Z h0 a0s "java/lang/String") (F_value_a0s : Fld Z h0 a0s "java/lang/String" "value" "[B" .null) (F_coder_a0s : Fld Z h0 a0s "java/lang/String" "coder" "B" (.int 0)) (g_a0s : n0 ≤ a0s) (V_a1c : Arv Z h0 a1c k1 .char (5 : Int32) [(.int c0), (.int c1), (.int c2), (.int c3), (.int c4)] (.int 0)) (hc0 : ¬ ((255 : Int32) < c0)) (hc1 : ¬ ((255 : Int32) < c1)) (hc2 : ¬ ((255 : Int32) < c2)) (hc3 : ¬ ((255 : Int32) < c3)) (hc4 : ¬ ((255 : Int32) < c4)) :
    MetFree l MN_3 (head1 (Jvm.Cond.code MN_3 jdk_42_method_149_code 6 none :: ws) ({ frames := 2, cells := 1, slots := 5, locals := 35 } : Room)) (fun a U => a = #[(.ref a0s), (.ref a1c), (.int 0), (.int 5), .null] ∧ Z.Warmed39 U.vm ∧ U.heap = h0) (fun _ _ _ _ _ => True) (fun _ U o U' => ∃ v L, o = .returned v ∧ Q_rmIv_5 n0 Z cS a0s a1c k1 c0 c1 c2 c3 c4 h0 v U'.heap L ∧ FrameEnd U o U' L ({ frames := 2, cells := 1, slots := 5, locals := 35 } : Room).cells ({ frames := 2, cells := 1, slots := 5, locals := 35 } : Room).slots) := by
  refine MetFree.of_bodySF (plainFor_of_name pnv1) hisR ?_
  intro p e s m args below meth c s₁ Bd hml0 hP hK
  obtain ⟨rfl, hZ, hh⟩ := hP
  have hx := Bd.exec
  have hby := Bd.bytes
  have hml : c.maxLocals = 6 := hml0
  have hown : s.vm.findClass "java/lang/String" = some m.cls := findClass_of_methodNamed Bd.named
  have hnm := (name_of_methodNamed Bd.named Bd.method).1
  have X0 : Stand p l e ({ frames := 2, cells := 1, slots := 5, locals := 35 } : Room) s m #[(.ref a0s), (.ref a1c), (.int 0), (.int 5), .null] below meth c s₁ [] 0 0 := Stand.of_body Bd
  have e0 : s₁.heap = h0 := by rw [← hh, Bd.state]; rfl
  have N0 := Fr.nil n0
  have pre0 : ∀ t, Steps p.tables e below (s₁.setTop (mkF m 0 #[.val (.ref a0s), .val (.ref a1c), .val (.int 0), .val (.int 5), .val .null, .unset] [])) t → Steps p.tables e below (s₁.setTop (entryFrame m #[(.ref a0s), (.ref a1c), (.int 0), (.int 5), .null] 6)) t := fun t k => castTop (ef_rmIv_5 m a0s a1c) k
  have GL' := GL
  obtain ⟨GCS, GCP⟩ := GL'
  obtain ⟨T1, X1, e1, st1⟩ := initO X0 hx hZ hown (Wd hw 19 rfl) (Wd hw 20 rfl) (Wd hw 21 rfl) e0 (g := (mkF m 1 #[.val (.ref a0s), .val (.ref a1c), .val (.int 0), .val (.int 5), .val .null, .unset] [(.ref a0s)])) rfl (by rw [hml]; rfl) rfl (hb hby d4_1) (by decide) (W := 0) (by show 2 * 0 + _ ≤ _; exact Nat.le_of_eq rfl) (by decide)
  obtain ⟨T2, X2, e2, st2⟩ := getS2 X1 hx hZ hown (host := "") (Or.inl (Wd hw 50 rfl)) Via.refl e1 (GCS.ext O0.2) (g := (mkF m 27 #[.val (.ref a0s), .val (.ref a1c), .val (.int 0), .val (.int 5), .val .null, .unset] [])) rfl (hb hby d4_27)
  obtain ⟨_, _, ⟨T3, L3, k3, n3⟩, -, X3, ⟨Lc3, hQ3, l3, y3, z3⟩, st3⟩ := Jvm.LawKit.callS X2 hx (y := MN_1) hown (mvT hZ (Wd hw 57 rfl)) (mvT hZ (Wd hw 58 rfl)) (mvT hZ (Wd hw 59 rfl)) (mvT hZ (Wd hw 60 rfl)) (by decide) (backOf (W := 0) (rmC1_5 l Z a0 hw [] cS (a1c) (k1) (c0) (c1) (c2) (c3) (c4) (h0) n0 O0 GL V_a1c hc0 hc1 hc2 hc3 hc4) hZ (Wd hw 60 rfl) (Wd hw 59 rfl) (by decide) (by decide)) (g := (mkF m 36 #[.val (.ref a0s), .val (.ref a1c), .val (.int 0), .val (.int 5), .val .null, .unset] [(.int 5), (.int 0), (.ref a1c)])) rfl (by rw [hml]; rfl) (argsL := [(.ref a1c), (.int 0), (.int 5)]) (rest := []) (lenOf pdv1 rfl) rfl (by show 2 * 0 + _ ≤ _; exact Nat.le_of_eq rfl) (hb hby d4_36) (fun _ _ => ⟨rfl, e2, (by decide : 0 + 1 ≤ _), (by decide : 0 + 5 ≤ _)⟩)
  dsimp only [Pt.U, Pt.locs, Pt.cells, Pt.slots] at X3 l3 y3 z3 st3 hQ3
  subst l3 y3 z3
  obtain ⟨b_3, kb_3, rfl, N3q, Kc3, P3_0, P3_1, P3_2⟩ := hQ3
  have K3 : Keep h0 T3.heap [a0s] := (Keep.refl h0 [a0s]).trans Kc3 all0
  have O3 := O0.keep Kc3 all0
  have g_b_3 : n0 ≤ b_3 := Nat.le_trans (own_sz O0) P3_0
  have sz_b_3 : h0.size ≤ b_3 := Nat.le_trans (Keep.refl h0 [a0s]).1 P3_0
  have N3 := Fr.app N0 N3q
  obtain ⟨_, _, ⟨T4, L4, k4, n4⟩, -, X4, ⟨Lc4, hQ4, l4, y4, z4⟩, st4⟩ := Jvm.LawKit.callS X3 hx (y := MN_2) hown (mvT hZ (Wd hw 64 rfl)) (mvT hZ (Wd hw 65 rfl)) (mvT hZ (Wd hw 59 rfl)) (mvT hZ (Wd hw 66 rfl)) (by decide) (backOf (W := 1) (rmCfa5_5 l Z a0 hw [] cS (b_3) (kb_3) ([(.int (c0.toInt8.toInt32)), (.int (c1.toInt8.toInt32)), (.int (c2.toInt8.toInt32)), (.int (c3.toInt8.toInt32)), (.int (c4.toInt8.toInt32))]) (T3.heap) n0 O3 GL P3_2) hZ (Wd hw 66 rfl) (Wd hw 59 rfl) (by decide) (by decide)) (g := (mkF m 45 #[.val (.ref a0s), .val (.ref a1c), .val (.int 0), .val (.int 5), .val .null, .val (.ref b_3)] [(.int 5), (.ref b_3), (.ref a0s)])) rfl (by rw [hml]; rfl) (argsL := [(.ref b_3), (.int 5)]) (rest := [(.ref a0s)]) (lenOf pdv2 rfl) rfl (by show 2 * 0 + _ ≤ _; exact Nat.le_of_eq rfl) (hb hby d4_45) (fun _ _ => ⟨rfl, rfl, (by decide : 1 + 0 ≤ _), (by decide : 5 + 0 ≤ _)⟩)
  dsimp only [Pt.U, Pt.locs, Pt.cells, Pt.slots] at X4 l4 y4 z4 st4 hQ4
  subst l4 y4 z4
  obtain ⟨rfl, N4q, e4⟩ := hQ4
  have N4 := Fr.app N3 N4q
  obtain ⟨T5, h5, X5, e5, W5, st5⟩ := putFN X4 hx hZ hown (Wd hw 29 rfl) Via.refl e4 (F_coder_a0s.keep Kc3 nin0) (E_a0s.keep Kc3) (Or.inr ⟨(Wd hw 25 rfl), rfl, hnm⟩) (Wd hw 10 rfl) (ty := .byte) (v' := (.int 0)) (by decide) rfl (by decide) (g := (mkF m 48 #[.val (.ref a0s), .val (.ref a1c), .val (.int 0), .val (.int 5), .val .null, .val (.ref b_3)] [(.int 0), (.ref a0s)])) rfl rfl (hb hby d4_48)
  have Fw5 := (F_coder_a0s.keep Kc3 nin0).same W5
  have K5 : Keep h0 h5 [a0s] := K3.wr W5 (Or.inl (List.mem_of_getElem? (i := 0) rfl))
  have O5 := O3.wr W5 g_a0s
  have N5 := Fr.snoc X5 N4 g_a0s
  obtain ⟨T6, h6, X6, e6, W6, st6⟩ := putF X5 hx hZ hown (host := "") (Or.inl (Wd hw 28 rfl)) Via.refl e5 ((F_value_a0s.keep Kc3 nin0).other W5 (Or.inr (slot_ne (a0 := a0) (Or.inr (Wd hw 24 rfl)) (Or.inr (Wd hw 25 rfl)) (by decide) (t := (.array .byte)) (t' := .byte) (by decide) (by decide)))) ((E_a0s.keep Kc3).wr W5) (Or.inr ⟨(Wd hw 24 rfl), rfl, hnm⟩) (Wd hw 10 rfl) (ty := (.array .byte)) (by decide) rfl rfl (g := (mkF m 54 #[.val (.ref a0s), .val (.ref a1c), .val (.int 0), .val (.int 5), .val .null, .val (.ref b_3)] [(.ref b_3), (.ref a0s)])) rfl rfl (hb hby d4_54)
  have Fw6 := ((F_value_a0s.keep Kc3 nin0).other W5 (Or.inr (slot_ne (a0 := a0) (Or.inr (Wd hw 24 rfl)) (Or.inr (Wd hw 25 rfl)) (by decide) (t := (.array .byte)) (t' := .byte) (by decide) (by decide)))).same W6
  have K6 : Keep h0 h6 [a0s] := K5.wr W6 (Or.inl (List.mem_of_getElem? (i := 0) rfl))
  have O6 := O5.wr W6 g_a0s
  have N6 := Fr.snoc X6 N5 g_a0s
  obtain ⟨fs, hr, hrun, hended, hW, hsame⟩ := X6.leave (v := none) (fun _ => rfl)
  refine ⟨_, _, pre0 _ ?_, hrun, hended, _, _, rfl, ?_, ⟨_, rfl⟩, hW, hsame.mono (by decide) (by decide)⟩
  · show Steps p.tables e below (s₁.setTop (mkF m 0 #[.val (.ref a0s), .val (.ref a1c), .val (.int 0), .val (.int 5), .val .null, .unset] [])) _
    refine XS.aloadN X0.here hx rfl (hb hby d4_0) rfl rfl ?_
    show Steps p.tables e below (s₁.setTop (mkF m 1 #[.val (.ref a0s), .val (.ref a1c), .val (.int 0), .val (.int 5), .val .null, .unset] [(.ref a0s)])) _
    refine st1 _ ?_
    show Steps p.tables e below (T1.setTop (mkF m 4 #[.val (.ref a0s), .val (.ref a1c), .val (.int 0), .val (.int 5), .val .null, .unset] [])) _
    refine XS.iloadN X1.here hx rfl (hb hby d4_4) rfl ?_
    refine XS.ifYes X1.here hx rfl (pc0 := 5) (pc' := 27) rfl (hb hby d4_5) rfl ((if0 _ _).trans (feq (by decide : ¬ ((5 : Int32) = (0 : Int32)))).2) (by decide) (by decide) ?_
    show Steps p.tables e below (T1.setTop (mkF m 27 #[.val (.ref a0s), .val (.ref a1c), .val (.int 0), .val (.int 5), .val .null, .unset] [])) _
    refine st2 _ ?_
    show Steps p.tables e below (T2.setTop (mkF m 30 #[.val (.ref a0s), .val (.ref a1c), .val (.int 0), .val (.int 5), .val .null, .unset] [(.int cS)])) _
    refine XS.ifNo X2.here hx rfl (hb hby d4_30) rfl ((if0 _ _).trans (feq GCP).1) ?_
    refine XS.aloadN X2.here hx rfl (hb hby d4_33) rfl rfl ?_
    refine XS.iloadN X2.here hx rfl (hb hby d4_34) rfl ?_
    refine XS.iloadN X2.here hx rfl (hb hby d4_35) rfl ?_
    show Steps p.tables e below (T2.setTop (mkF m 36 #[.val (.ref a0s), .val (.ref a1c), .val (.int 0), .val (.int 5), .val .null, .unset] [(.int 5), (.int 0), (.ref a1c)])) _
    refine st3 _ ?_
    show Steps p.tables e below (T3.setTop (mkF m 39 #[.val (.ref a0s), .val (.ref a1c), .val (.int 0), .val (.int 5), .val .null, .unset] [(.ref b_3)])) _
    refine XS.astore X3.here hx rfl (hb hby d4_39) rfl rfl (l' := #[.val (.ref a0s), .val (.ref a1c), .val (.int 0), .val (.int 5), .val .null, .val (.ref b_3)]) rfl ?_
    refine XS.aloadN X3.here hx rfl (hb hby d4_41) rfl rfl ?_
    refine XS.aload X3.here hx rfl (hb hby d4_42) rfl rfl ?_
    refine XS.iloadN X3.here hx rfl (hb hby d4_44) rfl ?_
    show Steps p.tables e below (T3.setTop (mkF m 45 #[.val (.ref a0s), .val (.ref a1c), .val (.int 0), .val (.int 5), .val .null, .val (.ref b_3)] [(.int 5), (.ref b_3), (.ref a0s)])) _
    refine st4 _ ?_
    show Steps p.tables e below (T4.setTop (mkF m 48 #[.val (.ref a0s), .val (.ref a1c), .val (.int 0), .val (.int 5), .val .null, .val (.ref b_3)] [(.int 0), (.ref a0s)])) _
    refine st5 _ ?_
    show Steps p.tables e below (T5.setTop (mkF m 51 #[.val (.ref a0s), .val (.ref a1c), .val (.int 0), .val (.int 5), .val .null, .val (.ref b_3)] [])) _
    refine XS.aloadN X5.here hx rfl (hb hby d4_51) rfl rfl ?_
    refine XS.aload X5.here hx rfl (hb hby d4_52) rfl rfl ?_
    show Steps p.tables e below (T5.setTop (mkF m 54 #[.val (.ref a0s), .val (.ref a1c), .val (.int 0), .val (.int 5), .val .null, .val (.ref b_3)] [(.ref b_3), (.ref a0s)])) _
    refine st6 _ ?_
    show Steps p.tables e below (T6.setTop (mkF m 57 #[.val (.ref a0s), .val (.ref a1c), .val (.int 0), .val (.int 5), .val .null, .val (.ref b_3)] [])) _
    exact X6.returnOut hx Bd.returns (hb hby d4_57) hr
  · show Q_rmIv_5 n0 Z cS a0s a1c k1 c0 c1 c2 c3 c4 h0 _ T6.heap _
    rw [e6]
    exact ⟨b_3, kb_3, rfl, N6, K6, sz_b_3, ((P3_1.wr W5).wr W6), (((E_a0s.keep Kc3).wr W5).wr W6), Fw6, (Fw5.other W6 (Or.inr (slot_ne (a0 := a0) (Or.inr (Wd hw 25 rfl)) (Or.inr (Wd hw 24 rfl)) (by decide) (t := .byte) (t' := (.array .byte)) (by decide) (by decide)))), ((P3_2.other W5 (Ne.symm (Nat.ne_of_lt (Nat.lt_of_lt_of_le E_a0s.lt P3_0)))).other W6 (Ne.symm (Nat.ne_of_lt (Nat.lt_of_lt_of_le E_a0s.lt P3_0))))⟩
theorem d3_0 : decode jdk_42_method_3_code 0 = .ok (.aload_n 0, 1) := by decide +kernel
theorem d3_1 : decode jdk_42_method_3_code 1 = .ok (.aload_n 1, 1) := by decide +kernel
theorem d3_2 : decode jdk_42_method_3_code 2 = .ok (.iconst 0, 1) := by decide +kernel
theorem d3_3 : decode jdk_42_method_3_code 3 = .ok (.aload_n 1, 1) := by decide +kernel
theorem d3_4 : decode jdk_42_method_3_code 4 = .ok (.arraylength, 1) := by decide +kernel
theorem d3_5 : decode jdk_42_method_3_code 5 = .ok (.aconst_null, 1) := by decide +kernel
theorem d3_6 : decode jdk_42_method_3_code 6 = .ok (.invokespecial 27, 3) := by decide +kernel
theorem pdv3 : parseMethodDescriptor "([CIILjava/lang/Void;)V" = some ⟨[(.array .char), .int, .int, (.object "java/lang/Void")], none⟩ := by decide +kernel
theorem d3_9 : decode jdk_42_method_3_code 9 = .ok (.return_, 1) := by decide +kernel
abbrev MN_4 : MethodName := ⟨"java/lang/String", "<init>", "([C)V"⟩
theorem ef_rmIc_0 (m : MethodId) (a0s : Addr) (a1c : Addr) : entryFrame m #[(.ref a0s), (.ref a1c)] 2 = mkF m 0 #[.val (.ref a0s), .val (.ref a1c)] [] := by first | (simp [entryFrame, mkF, argsToLocals, Value.category]; done) | rfl
def Q_rmIc_0 (n0 : Nat) (Z : State) (cS : Int32) (a0s : Addr) (a1c : Addr) (k1 : ClassId) (h0 : Heap) (v : Option Value) (h : Heap) (L : List Loc) : Prop := ∃ b : Addr, ∃ kb : ClassId, v = none ∧ Fr n0 L ∧ Keep h0 h [a0s] ∧ (Exa Z h a0s "java/lang/String") ∧ (Fld Z h a0s "java/lang/String" "value" "[B" (.ref b)) ∧ (Fld Z h a0s "java/lang/String" "coder" "B" (.int 0)) ∧ (Arv Z h b kb .byte (0 : Int32) [] (.int 0))
set_option maxRecDepth 65536 in
set_option maxHeartbeats 40000000 in
theorem rmIc_0 (l : Launch) (Z : State) (a0 : Array Value) (hw : ∀ d ∈ tables_1, d.before a0 Z = true) (ws : List Jvm.Cond) (cS : Int32) (a0s : Addr) (a1c : Addr) (k1 : ClassId) (h0 : Heap) (n0 : Nat) (O0 : Old Z n0 h0) (GL : GF Z cS) (E_a0s : Exa Z h0 a0s "java/lang/String") (F_value_a0s : Fld Z h0 a0s "java/lang/String" "value" "[B" .null) (F_coder_a0s : Fld Z h0 a0s "java/lang/String" "coder" "B" (.int 0)) (g_a0s : n0 ≤ a0s) (V_a1c : Arv Z h0 a1c k1 .char (0 : Int32) [] (.int 0)) :
    MetFree l MN_4 (head1 (Jvm.Cond.code MN_4 jdk_42_method_3_code 2 none :: ws) ({ frames := 2, cells := 4, slots := 8, locals := 29 } : Room)) (fun a U => a = #[(.ref a0s), (.ref a1c)] ∧ Z.Warmed39 U.vm ∧ U.heap = h0 ∧ CHv Z EL1 U.vm h0) (fun _ _ _ _ _ => True) (fun _ U o U' => ∃ v L, o = .returned v ∧ Q_rmIc_0 n0 Z cS a0s a1c k1 h0 v U'.heap L ∧ CHr Z EL1 U.vm U.heap U'.vm U'.heap ∧ ReturnedEndW U o U' L ({ frames := 2, cells := 4, slots := 8, locals := 29 } : Room).cells ({ frames := 2, cells := 4, slots := 8, locals := 29 } : Room).slots) := by
  refine MetFree.of_bodySF (plainFor_of_name pnv1) hisR ?_
  intro p e s m args below meth c s₁ Bd hml0 hP hK
  obtain ⟨rfl, hZ, hh, H0⟩ := hP
  have hx := Bd.exec
  have hby := Bd.bytes
  have hml : c.maxLocals = 2 := hml0
  have hown : s.vm.findClass "java/lang/String" = some m.cls := findClass_of_methodNamed Bd.named
  have hnm := (name_of_methodNamed Bd.named Bd.method).1
  have X0 : Stand p l e ({ frames := 2, cells := 4, slots := 8, locals := 29 } : Room) s m #[(.ref a0s), (.ref a1c)] below meth c s₁ [] 0 0 := Stand.of_body Bd
  have e0 : s₁.heap = h0 := by rw [← hh, Bd.state]; rfl
  have N0 := Fr.nil n0
  have pre0 : ∀ t, Steps p.tables e below (s₁.setTop (mkF m 0 #[.val (.ref a0s), .val (.ref a1c)] [])) t → Steps p.tables e below (s₁.setTop (entryFrame m #[(.ref a0s), (.ref a1c)] 2)) t := fun t k => castTop (ef_rmIc_0 m a0s a1c) k
  have X0w : Stand p l e ({ frames := 2, cells := 4, slots := 8, locals := 29 } : Room) (s.setVm s.vm) m #[(.ref a0s), (.ref a1c)] below meth c s₁ [] 0 0 := X0
  have R0 : CHr Z EL1 s.vm h0 s.vm h0 := CHr.refl H0
  have hS0 : s.Since s.vm h0.size := (State.WarmedH.refl s).since _
  have GL' := GL
  obtain ⟨GCS, GCP⟩ := GL'
  obtain ⟨cl1, Ar1, -, S1, N1_, -, -⟩ := id (V_a1c)
  obtain ⟨_, _, ⟨T2, L2, k2, n2⟩, -, X2', hS2', hg2, ⟨Lc2, hQ2, l2, y2, z2, Rs2⟩, st2⟩ := X0w.specialBackS hx (y := MN_3) rfl hown (mvT hZ (Wd hw 15 rfl)) (mvT hZ (Wd hw 16 rfl)) (mvT hZ (Wd hw 18 rfl)) (by decide) (backOfSH (W := 0) (rmIv_0 l Z a0 hw [] cS (a0s) (a1c) (h0) n0 O0 GL E_a0s F_value_a0s F_coder_a0s g_a0s) hZ (Wd hw 18 rfl) (Wd hw 11 rfl) (by decide) (by decide) (own_EW hw) H0) (g := (mkF m 6 #[.val (.ref a0s), .val (.ref a1c)] [.null, (.int 0), (.int 0), (.ref a1c), (.ref a0s)])) rfl (by rw [hml]; rfl) (Steps.refl _) (a := a0s) (argsL := [(.ref a1c), (.int 0), (.int 0), .null]) (rest := []) (lenOf pdv3 rfl) rfl (by show 2 * 0 + _ ≤ _; exact Nat.le_of_eq rfl) (hb hby d3_6) (fun _ _ => ⟨rfl, e0, (by decide : 0 + 4 ≤ _), (by decide : 0 + 8 ≤ _)⟩)
  dsimp only [Pt.U, Pt.locs, Pt.cells, Pt.slots] at X2' l2 y2 z2 st2 hQ2 hS2' hg2 Rs2
  subst l2 y2 z2
  obtain ⟨X2, hS2, hZ2, hown2⟩ := rebS hS0 (by rw [e0]; exact (Nat.le_refl _)) X2' hS2' hg2 hZ hown
  obtain ⟨b_2, kb_2, rfl, N2q, Kc2, P2_0, P2_1, P2_2, P2_3⟩ := hQ2
  have K2 : Keep h0 T2.heap [a0s] := (Keep.refl h0 [a0s]).trans Kc2 (allS (Or.inl (List.mem_of_getElem? (i := 0) rfl)) all0)
  have O2 := O0.keep Kc2 (allS g_a0s all0)
  have H_3 := Rs2.1
  have R_3 := R0.trans Rs2
  have N2 := Fr.app N0 N2q
  obtain ⟨fs, hr, hrun, hended, hRW⟩ := X2.leaveW hS2 (Nat.le_refl _) (v := none) (fun _ => rfl)
  have hCR : CHr Z EL1 s.vm s.heap T2.vm T2.heap := by
    rw [hh]
    exact R_3.trans (CHv.at X2 hZ2 (own_EW hw) H_3)
  refine ⟨_, _, pre0 _ ?_, hrun, hended, _, _, rfl, ?_, hCR, hRW.1, hRW.2.1, hRW.2.2.1, hRW.2.2.2.mono (by decide) (by decide)⟩
  · show Steps p.tables e below (s₁.setTop (mkF m 0 #[.val (.ref a0s), .val (.ref a1c)] [])) _
    refine XS.aloadN X0w.here hx rfl (hb hby d3_0) rfl rfl ?_
    refine XS.aloadN X0w.here hx rfl (hb hby d3_1) rfl rfl ?_
    refine XS.iconst X0w.here hx rfl (hb hby d3_2) ?_
    refine XS.aloadN X0w.here hx rfl (hb hby d3_3) rfl rfl ?_
    show Steps p.tables e below (s₁.setTop (mkF m 4 #[.val (.ref a0s), .val (.ref a1c)] [(.ref a1c), (.int 0), (.ref a1c), (.ref a0s)])) _
    refine X0w.arraylength hx (by rw [e0]; exact Ar1.1) (State.isArrayOf_alike hZ.alike Ar1.2.1) (g := (mkF m 4 #[.val (.ref a0s), .val (.ref a1c)] [(.ref a1c), (.int 0), (.ref a1c), (.ref a0s)])) rfl rfl (hb hby d3_4) _ ?_
    rw [len_of S1 N1_]
    show Steps p.tables e below (s₁.setTop (mkF m 5 #[.val (.ref a0s), .val (.ref a1c)] [(.int 0), (.int 0), (.ref a1c), (.ref a0s)])) _
    refine XS.aconstNull X0w.here hx rfl (hb hby d3_5) ?_
    show Steps p.tables e below (s₁.setTop (mkF m 6 #[.val (.ref a0s), .val (.ref a1c)] [.null, (.int 0), (.int 0), (.ref a1c), (.ref a0s)])) _
    refine st2.trans ?_
    show Steps p.tables e below (T2.setTop (mkF m 9 #[.val (.ref a0s), .val (.ref a1c)] [])) _
    exact X2.returnOut hx Bd.returns (hb hby d3_9) hr
  · show Q_rmIc_0 n0 Z cS a0s a1c k1 h0 _ T2.heap _
    exact ⟨b_2, kb_2, rfl, N2, K2, P2_0, P2_1, P2_2, P2_3⟩
def Q_rmIc_1 (n0 : Nat) (Z : State) (cS : Int32) (a0s : Addr) (a1c : Addr) (k1 : ClassId) (c0 : Int32) (h0 : Heap) (v : Option Value) (h : Heap) (L : List Loc) : Prop := ∃ b : Addr, ∃ kb : ClassId, v = none ∧ Fr n0 L ∧ Keep h0 h [a0s] ∧ (h0.size ≤ b) ∧ (Exa Z h b "[B") ∧ (Exa Z h a0s "java/lang/String") ∧ (Fld Z h a0s "java/lang/String" "value" "[B" (.ref b)) ∧ (Fld Z h a0s "java/lang/String" "coder" "B" (.int 0)) ∧ (Arv Z h b kb .byte (1 : Int32) [(.int (c0.toInt8.toInt32))] (.int 0))
set_option maxRecDepth 65536 in
set_option maxHeartbeats 40000000 in
theorem rmIc_1 (l : Launch) (Z : State) (a0 : Array Value) (hw : ∀ d ∈ tables_1, d.before a0 Z = true) (ws : List Jvm.Cond) (cS : Int32) (a0s : Addr) (a1c : Addr) (k1 : ClassId) (c0 : Int32) (h0 : Heap) (n0 : Nat) (O0 : Old Z n0 h0) (GL : GF Z cS) (E_a0s : Exa Z h0 a0s "java/lang/String") (F_value_a0s : Fld Z h0 a0s "java/lang/String" "value" "[B" .null) (F_coder_a0s : Fld Z h0 a0s "java/lang/String" "coder" "B" (.int 0)) (g_a0s : n0 ≤ a0s) (V_a1c : Arv Z h0 a1c k1 .char (1 : Int32) [(.int c0)] (.int 0)) (hc0 : ¬ ((255 : Int32) < c0)) :
    MetFree l MN_4 (head1 (Jvm.Cond.code MN_4 jdk_42_method_3_code 2 none :: ws) ({ frames := 3, cells := 1, slots := 1, locals := 52 } : Room)) (fun a U => a = #[(.ref a0s), (.ref a1c)] ∧ Z.Warmed39 U.vm ∧ U.heap = h0) (fun _ _ _ _ _ => True) (fun _ U o U' => ∃ v L, o = .returned v ∧ Q_rmIc_1 n0 Z cS a0s a1c k1 c0 h0 v U'.heap L ∧ FrameEnd U o U' L ({ frames := 3, cells := 1, slots := 1, locals := 52 } : Room).cells ({ frames := 3, cells := 1, slots := 1, locals := 52 } : Room).slots) := by
  refine MetFree.of_bodySF (plainFor_of_name pnv1) hisR ?_
  intro p e s m args below meth c s₁ Bd hml0 hP hK
  obtain ⟨rfl, hZ, hh⟩ := hP
  have hx := Bd.exec
  have hby := Bd.bytes
  have hml : c.maxLocals = 2 := hml0
  have hown : s.vm.findClass "java/lang/String" = some m.cls := findClass_of_methodNamed Bd.named
  have hnm := (name_of_methodNamed Bd.named Bd.method).1
  have X0 : Stand p l e ({ frames := 3, cells := 1, slots := 1, locals := 52 } : Room) s m #[(.ref a0s), (.ref a1c)] below meth c s₁ [] 0 0 := Stand.of_body Bd
  have e0 : s₁.heap = h0 := by rw [← hh, Bd.state]; rfl
  have N0 := Fr.nil n0
  have pre0 : ∀ t, Steps p.tables e below (s₁.setTop (mkF m 0 #[.val (.ref a0s), .val (.ref a1c)] [])) t → Steps p.tables e below (s₁.setTop (entryFrame m #[(.ref a0s), (.ref a1c)] 2)) t := fun t k => castTop (ef_rmIc_0 m a0s a1c) k
  have GL' := GL
  obtain ⟨GCS, GCP⟩ := GL'
  obtain ⟨cl1, Ar1, -, S1, N1_, -, -⟩ := id (V_a1c)
  obtain ⟨_, _, ⟨T2, L2, k2, n2⟩, -, X2, ⟨Lc2, hQ2, l2, y2, z2⟩, st2⟩ := X0.specialBack hx (y := MN_3) rfl hown (mvT hZ (Wd hw 15 rfl)) (mvT hZ (Wd hw 16 rfl)) (mvT hZ (Wd hw 18 rfl)) (by decide) (backOf (W := 0) (rmIv_1 l Z a0 hw [] cS (a0s) (a1c) (k1) (c0) (h0) n0 O0 GL E_a0s F_value_a0s F_coder_a0s g_a0s V_a1c hc0) hZ (Wd hw 18 rfl) (Wd hw 11 rfl) (by decide) (by decide)) (g := (mkF m 6 #[.val (.ref a0s), .val (.ref a1c)] [.null, (.int 1), (.int 0), (.ref a1c), (.ref a0s)])) rfl (by rw [hml]; rfl) (Steps.refl _) (a := a0s) (argsL := [(.ref a1c), (.int 0), (.int 1), .null]) (rest := []) (lenOf pdv3 rfl) rfl (by show 2 * 0 + _ ≤ _; exact Nat.le_of_eq rfl) (hb hby d3_6) (fun _ _ => ⟨rfl, e0, (by decide : 0 + 1 ≤ _), (by decide : 0 + 1 ≤ _)⟩)
  dsimp only [Pt.U, Pt.locs, Pt.cells, Pt.slots] at X2 l2 y2 z2 st2 hQ2
  subst l2 y2 z2
  obtain ⟨b_2, kb_2, rfl, N2q, Kc2, P2_0, P2_1, P2_2, P2_3, P2_4, P2_5⟩ := hQ2
  have K2 : Keep h0 T2.heap [a0s] := (Keep.refl h0 [a0s]).trans Kc2 (allS (Or.inl (List.mem_of_getElem? (i := 0) rfl)) all0)
  have O2 := O0.keep Kc2 (allS g_a0s all0)
  have g_b_2 : n0 ≤ b_2 := Nat.le_trans (own_sz O0) P2_0
  have sz_b_2 : h0.size ≤ b_2 := Nat.le_trans (Keep.refl h0 [a0s]).1 P2_0
  have N2 := Fr.app N0 N2q
  obtain ⟨fs, hr, hrun, hended, hW, hsame⟩ := X2.leave (v := none) (fun _ => rfl)
  refine ⟨_, _, pre0 _ ?_, hrun, hended, _, _, rfl, ?_, ⟨_, rfl⟩, hW, hsame.mono (by decide) (by decide)⟩
  · show Steps p.tables e below (s₁.setTop (mkF m 0 #[.val (.ref a0s), .val (.ref a1c)] [])) _
    refine XS.aloadN X0.here hx rfl (hb hby d3_0) rfl rfl ?_
    refine XS.aloadN X0.here hx rfl (hb hby d3_1) rfl rfl ?_
    refine XS.iconst X0.here hx rfl (hb hby d3_2) ?_
    refine XS.aloadN X0.here hx rfl (hb hby d3_3) rfl rfl ?_
    show Steps p.tables e below (s₁.setTop (mkF m 4 #[.val (.ref a0s), .val (.ref a1c)] [(.ref a1c), (.int 0), (.ref a1c), (.ref a0s)])) _
    refine X0.arraylength hx (by rw [e0]; exact Ar1.1) (State.isArrayOf_alike hZ.alike Ar1.2.1) (g := (mkF m 4 #[.val (.ref a0s), .val (.ref a1c)] [(.ref a1c), (.int 0), (.ref a1c), (.ref a0s)])) rfl rfl (hb hby d3_4) _ ?_
    rw [len_of S1 N1_]
    show Steps p.tables e below (s₁.setTop (mkF m 5 #[.val (.ref a0s), .val (.ref a1c)] [(.int 1), (.int 0), (.ref a1c), (.ref a0s)])) _
    refine XS.aconstNull X0.here hx rfl (hb hby d3_5) ?_
    show Steps p.tables e below (s₁.setTop (mkF m 6 #[.val (.ref a0s), .val (.ref a1c)] [.null, (.int 1), (.int 0), (.ref a1c), (.ref a0s)])) _
    refine st2.trans ?_
    show Steps p.tables e below (T2.setTop (mkF m 9 #[.val (.ref a0s), .val (.ref a1c)] [])) _
    exact X2.returnOut hx Bd.returns (hb hby d3_9) hr
  · show Q_rmIc_1 n0 Z cS a0s a1c k1 c0 h0 _ T2.heap _
    exact ⟨b_2, kb_2, rfl, N2, K2, sz_b_2, P2_1, P2_2, P2_3, P2_4, P2_5⟩
def Q_rmIc_2 (n0 : Nat) (Z : State) (cS : Int32) (a0s : Addr) (a1c : Addr) (k1 : ClassId) (c0 : Int32) (c1 : Int32) (h0 : Heap) (v : Option Value) (h : Heap) (L : List Loc) : Prop := ∃ b : Addr, ∃ kb : ClassId, v = none ∧ Fr n0 L ∧ Keep h0 h [a0s] ∧ (h0.size ≤ b) ∧ (Exa Z h b "[B") ∧ (Exa Z h a0s "java/lang/String") ∧ (Fld Z h a0s "java/lang/String" "value" "[B" (.ref b)) ∧ (Fld Z h a0s "java/lang/String" "coder" "B" (.int 0)) ∧ (Arv Z h b kb .byte (2 : Int32) [(.int (c0.toInt8.toInt32)), (.int (c1.toInt8.toInt32))] (.int 0))
set_option maxRecDepth 65536 in
set_option maxHeartbeats 40000000 in
theorem rmIc_2 (l : Launch) (Z : State) (a0 : Array Value) (hw : ∀ d ∈ tables_1, d.before a0 Z = true) (ws : List Jvm.Cond) (cS : Int32) (a0s : Addr) (a1c : Addr) (k1 : ClassId) (c0 : Int32) (c1 : Int32) (h0 : Heap) (n0 : Nat) (O0 : Old Z n0 h0) (GL : GF Z cS) (E_a0s : Exa Z h0 a0s "java/lang/String") (F_value_a0s : Fld Z h0 a0s "java/lang/String" "value" "[B" .null) (F_coder_a0s : Fld Z h0 a0s "java/lang/String" "coder" "B" (.int 0)) (g_a0s : n0 ≤ a0s) (V_a1c : Arv Z h0 a1c k1 .char (2 : Int32) [(.int c0), (.int c1)] (.int 0)) (hc0 : ¬ ((255 : Int32) < c0)) (hc1 : ¬ ((255 : Int32) < c1)) :
    MetFree l MN_4 (head1 (Jvm.Cond.code MN_4 jdk_42_method_3_code 2 none :: ws) ({ frames := 3, cells := 1, slots := 2, locals := 52 } : Room)) (fun a U => a = #[(.ref a0s), (.ref a1c)] ∧ Z.Warmed39 U.vm ∧ U.heap = h0) (fun _ _ _ _ _ => True) (fun _ U o U' => ∃ v L, o = .returned v ∧ Q_rmIc_2 n0 Z cS a0s a1c k1 c0 c1 h0 v U'.heap L ∧ FrameEnd U o U' L ({ frames := 3, cells := 1, slots := 2, locals := 52 } : Room).cells ({ frames := 3, cells := 1, slots := 2, locals := 52 } : Room).slots) := by
  refine MetFree.of_bodySF (plainFor_of_name pnv1) hisR ?_
  intro p e s m args below meth c s₁ Bd hml0 hP hK
  obtain ⟨rfl, hZ, hh⟩ := hP
  have hx := Bd.exec
  have hby := Bd.bytes
  have hml : c.maxLocals = 2 := hml0
  have hown : s.vm.findClass "java/lang/String" = some m.cls := findClass_of_methodNamed Bd.named
  have hnm := (name_of_methodNamed Bd.named Bd.method).1
  have X0 : Stand p l e ({ frames := 3, cells := 1, slots := 2, locals := 52 } : Room) s m #[(.ref a0s), (.ref a1c)] below meth c s₁ [] 0 0 := Stand.of_body Bd
  have e0 : s₁.heap = h0 := by rw [← hh, Bd.state]; rfl
  have N0 := Fr.nil n0
  have pre0 : ∀ t, Steps p.tables e below (s₁.setTop (mkF m 0 #[.val (.ref a0s), .val (.ref a1c)] [])) t → Steps p.tables e below (s₁.setTop (entryFrame m #[(.ref a0s), (.ref a1c)] 2)) t := fun t k => castTop (ef_rmIc_0 m a0s a1c) k
  have GL' := GL
  obtain ⟨GCS, GCP⟩ := GL'
  obtain ⟨cl1, Ar1, -, S1, N1_, -, -⟩ := id (V_a1c)
  obtain ⟨_, _, ⟨T2, L2, k2, n2⟩, -, X2, ⟨Lc2, hQ2, l2, y2, z2⟩, st2⟩ := X0.specialBack hx (y := MN_3) rfl hown (mvT hZ (Wd hw 15 rfl)) (mvT hZ (Wd hw 16 rfl)) (mvT hZ (Wd hw 18 rfl)) (by decide) (backOf (W := 0) (rmIv_2 l Z a0 hw [] cS (a0s) (a1c) (k1) (c0) (c1) (h0) n0 O0 GL E_a0s F_value_a0s F_coder_a0s g_a0s V_a1c hc0 hc1) hZ (Wd hw 18 rfl) (Wd hw 11 rfl) (by decide) (by decide)) (g := (mkF m 6 #[.val (.ref a0s), .val (.ref a1c)] [.null, (.int 2), (.int 0), (.ref a1c), (.ref a0s)])) rfl (by rw [hml]; rfl) (Steps.refl _) (a := a0s) (argsL := [(.ref a1c), (.int 0), (.int 2), .null]) (rest := []) (lenOf pdv3 rfl) rfl (by show 2 * 0 + _ ≤ _; exact Nat.le_of_eq rfl) (hb hby d3_6) (fun _ _ => ⟨rfl, e0, (by decide : 0 + 1 ≤ _), (by decide : 0 + 2 ≤ _)⟩)
  dsimp only [Pt.U, Pt.locs, Pt.cells, Pt.slots] at X2 l2 y2 z2 st2 hQ2
  subst l2 y2 z2
  obtain ⟨b_2, kb_2, rfl, N2q, Kc2, P2_0, P2_1, P2_2, P2_3, P2_4, P2_5⟩ := hQ2
  have K2 : Keep h0 T2.heap [a0s] := (Keep.refl h0 [a0s]).trans Kc2 (allS (Or.inl (List.mem_of_getElem? (i := 0) rfl)) all0)
  have O2 := O0.keep Kc2 (allS g_a0s all0)
  have g_b_2 : n0 ≤ b_2 := Nat.le_trans (own_sz O0) P2_0
  have sz_b_2 : h0.size ≤ b_2 := Nat.le_trans (Keep.refl h0 [a0s]).1 P2_0
  have N2 := Fr.app N0 N2q
  obtain ⟨fs, hr, hrun, hended, hW, hsame⟩ := X2.leave (v := none) (fun _ => rfl)
  refine ⟨_, _, pre0 _ ?_, hrun, hended, _, _, rfl, ?_, ⟨_, rfl⟩, hW, hsame.mono (by decide) (by decide)⟩
  · show Steps p.tables e below (s₁.setTop (mkF m 0 #[.val (.ref a0s), .val (.ref a1c)] [])) _
    refine XS.aloadN X0.here hx rfl (hb hby d3_0) rfl rfl ?_
    refine XS.aloadN X0.here hx rfl (hb hby d3_1) rfl rfl ?_
    refine XS.iconst X0.here hx rfl (hb hby d3_2) ?_
    refine XS.aloadN X0.here hx rfl (hb hby d3_3) rfl rfl ?_
    show Steps p.tables e below (s₁.setTop (mkF m 4 #[.val (.ref a0s), .val (.ref a1c)] [(.ref a1c), (.int 0), (.ref a1c), (.ref a0s)])) _
    refine X0.arraylength hx (by rw [e0]; exact Ar1.1) (State.isArrayOf_alike hZ.alike Ar1.2.1) (g := (mkF m 4 #[.val (.ref a0s), .val (.ref a1c)] [(.ref a1c), (.int 0), (.ref a1c), (.ref a0s)])) rfl rfl (hb hby d3_4) _ ?_
    rw [len_of S1 N1_]
    show Steps p.tables e below (s₁.setTop (mkF m 5 #[.val (.ref a0s), .val (.ref a1c)] [(.int 2), (.int 0), (.ref a1c), (.ref a0s)])) _
    refine XS.aconstNull X0.here hx rfl (hb hby d3_5) ?_
    show Steps p.tables e below (s₁.setTop (mkF m 6 #[.val (.ref a0s), .val (.ref a1c)] [.null, (.int 2), (.int 0), (.ref a1c), (.ref a0s)])) _
    refine st2.trans ?_
    show Steps p.tables e below (T2.setTop (mkF m 9 #[.val (.ref a0s), .val (.ref a1c)] [])) _
    exact X2.returnOut hx Bd.returns (hb hby d3_9) hr
  · show Q_rmIc_2 n0 Z cS a0s a1c k1 c0 c1 h0 _ T2.heap _
    exact ⟨b_2, kb_2, rfl, N2, K2, sz_b_2, P2_1, P2_2, P2_3, P2_4, P2_5⟩
def Q_rmIc_3 (n0 : Nat) (Z : State) (cS : Int32) (a0s : Addr) (a1c : Addr) (k1 : ClassId) (c0 : Int32) (c1 : Int32) (c2 : Int32) (h0 : Heap) (v : Option Value) (h : Heap) (L : List Loc) : Prop := ∃ b : Addr, ∃ kb : ClassId, v = none ∧ Fr n0 L ∧ Keep h0 h [a0s] ∧ (h0.size ≤ b) ∧ (Exa Z h b "[B") ∧ (Exa Z h a0s "java/lang/String") ∧ (Fld Z h a0s "java/lang/String" "value" "[B" (.ref b)) ∧ (Fld Z h a0s "java/lang/String" "coder" "B" (.int 0)) ∧ (Arv Z h b kb .byte (3 : Int32) [(.int (c0.toInt8.toInt32)), (.int (c1.toInt8.toInt32)), (.int (c2.toInt8.toInt32))] (.int 0))
set_option maxRecDepth 65536 in
set_option maxHeartbeats 40000000 in
theorem rmIc_3 (l : Launch) (Z : State) (a0 : Array Value) (hw : ∀ d ∈ tables_1, d.before a0 Z = true) (ws : List Jvm.Cond) (cS : Int32) (a0s : Addr) (a1c : Addr) (k1 : ClassId) (c0 : Int32) (c1 : Int32) (c2 : Int32) (h0 : Heap) (n0 : Nat) (O0 : Old Z n0 h0) (GL : GF Z cS) (E_a0s : Exa Z h0 a0s "java/lang/String") (F_value_a0s : Fld Z h0 a0s "java/lang/String" "value" "[B" .null) (F_coder_a0s : Fld Z h0 a0s "java/lang/String" "coder" "B" (.int 0)) (g_a0s : n0 ≤ a0s) (V_a1c : Arv Z h0 a1c k1 .char (3 : Int32) [(.int c0), (.int c1), (.int c2)] (.int 0)) (hc0 : ¬ ((255 : Int32) < c0)) (hc1 : ¬ ((255 : Int32) < c1)) (hc2 : ¬ ((255 : Int32) < c2)) :
    MetFree l MN_4 (head1 (Jvm.Cond.code MN_4 jdk_42_method_3_code 2 none :: ws) ({ frames := 3, cells := 1, slots := 3, locals := 52 } : Room)) (fun a U => a = #[(.ref a0s), (.ref a1c)] ∧ Z.Warmed39 U.vm ∧ U.heap = h0) (fun _ _ _ _ _ => True) (fun _ U o U' => ∃ v L, o = .returned v ∧ Q_rmIc_3 n0 Z cS a0s a1c k1 c0 c1 c2 h0 v U'.heap L ∧ FrameEnd U o U' L ({ frames := 3, cells := 1, slots := 3, locals := 52 } : Room).cells ({ frames := 3, cells := 1, slots := 3, locals := 52 } : Room).slots) := by
  refine MetFree.of_bodySF (plainFor_of_name pnv1) hisR ?_
  intro p e s m args below meth c s₁ Bd hml0 hP hK
  obtain ⟨rfl, hZ, hh⟩ := hP
  have hx := Bd.exec
  have hby := Bd.bytes
  have hml : c.maxLocals = 2 := hml0
  have hown : s.vm.findClass "java/lang/String" = some m.cls := findClass_of_methodNamed Bd.named
  have hnm := (name_of_methodNamed Bd.named Bd.method).1
  have X0 : Stand p l e ({ frames := 3, cells := 1, slots := 3, locals := 52 } : Room) s m #[(.ref a0s), (.ref a1c)] below meth c s₁ [] 0 0 := Stand.of_body Bd
  have e0 : s₁.heap = h0 := by rw [← hh, Bd.state]; rfl
  have N0 := Fr.nil n0
  have pre0 : ∀ t, Steps p.tables e below (s₁.setTop (mkF m 0 #[.val (.ref a0s), .val (.ref a1c)] [])) t → Steps p.tables e below (s₁.setTop (entryFrame m #[(.ref a0s), (.ref a1c)] 2)) t := fun t k => castTop (ef_rmIc_0 m a0s a1c) k
  have GL' := GL
  obtain ⟨GCS, GCP⟩ := GL'
  obtain ⟨cl1, Ar1, -, S1, N1_, -, -⟩ := id (V_a1c)
  obtain ⟨_, _, ⟨T2, L2, k2, n2⟩, -, X2, ⟨Lc2, hQ2, l2, y2, z2⟩, st2⟩ := X0.specialBack hx (y := MN_3) rfl hown (mvT hZ (Wd hw 15 rfl)) (mvT hZ (Wd hw 16 rfl)) (mvT hZ (Wd hw 18 rfl)) (by decide) (backOf (W := 0) (rmIv_3 l Z a0 hw [] cS (a0s) (a1c) (k1) (c0) (c1) (c2) (h0) n0 O0 GL E_a0s F_value_a0s F_coder_a0s g_a0s V_a1c hc0 hc1 hc2) hZ (Wd hw 18 rfl) (Wd hw 11 rfl) (by decide) (by decide)) (g := (mkF m 6 #[.val (.ref a0s), .val (.ref a1c)] [.null, (.int 3), (.int 0), (.ref a1c), (.ref a0s)])) rfl (by rw [hml]; rfl) (Steps.refl _) (a := a0s) (argsL := [(.ref a1c), (.int 0), (.int 3), .null]) (rest := []) (lenOf pdv3 rfl) rfl (by show 2 * 0 + _ ≤ _; exact Nat.le_of_eq rfl) (hb hby d3_6) (fun _ _ => ⟨rfl, e0, (by decide : 0 + 1 ≤ _), (by decide : 0 + 3 ≤ _)⟩)
  dsimp only [Pt.U, Pt.locs, Pt.cells, Pt.slots] at X2 l2 y2 z2 st2 hQ2
  subst l2 y2 z2
  obtain ⟨b_2, kb_2, rfl, N2q, Kc2, P2_0, P2_1, P2_2, P2_3, P2_4, P2_5⟩ := hQ2
  have K2 : Keep h0 T2.heap [a0s] := (Keep.refl h0 [a0s]).trans Kc2 (allS (Or.inl (List.mem_of_getElem? (i := 0) rfl)) all0)
  have O2 := O0.keep Kc2 (allS g_a0s all0)
  have g_b_2 : n0 ≤ b_2 := Nat.le_trans (own_sz O0) P2_0
  have sz_b_2 : h0.size ≤ b_2 := Nat.le_trans (Keep.refl h0 [a0s]).1 P2_0
  have N2 := Fr.app N0 N2q
  obtain ⟨fs, hr, hrun, hended, hW, hsame⟩ := X2.leave (v := none) (fun _ => rfl)
  refine ⟨_, _, pre0 _ ?_, hrun, hended, _, _, rfl, ?_, ⟨_, rfl⟩, hW, hsame.mono (by decide) (by decide)⟩
  · show Steps p.tables e below (s₁.setTop (mkF m 0 #[.val (.ref a0s), .val (.ref a1c)] [])) _
    refine XS.aloadN X0.here hx rfl (hb hby d3_0) rfl rfl ?_
    refine XS.aloadN X0.here hx rfl (hb hby d3_1) rfl rfl ?_
    refine XS.iconst X0.here hx rfl (hb hby d3_2) ?_
    refine XS.aloadN X0.here hx rfl (hb hby d3_3) rfl rfl ?_
    show Steps p.tables e below (s₁.setTop (mkF m 4 #[.val (.ref a0s), .val (.ref a1c)] [(.ref a1c), (.int 0), (.ref a1c), (.ref a0s)])) _
    refine X0.arraylength hx (by rw [e0]; exact Ar1.1) (State.isArrayOf_alike hZ.alike Ar1.2.1) (g := (mkF m 4 #[.val (.ref a0s), .val (.ref a1c)] [(.ref a1c), (.int 0), (.ref a1c), (.ref a0s)])) rfl rfl (hb hby d3_4) _ ?_
    rw [len_of S1 N1_]
    show Steps p.tables e below (s₁.setTop (mkF m 5 #[.val (.ref a0s), .val (.ref a1c)] [(.int 3), (.int 0), (.ref a1c), (.ref a0s)])) _
    refine XS.aconstNull X0.here hx rfl (hb hby d3_5) ?_
    show Steps p.tables e below (s₁.setTop (mkF m 6 #[.val (.ref a0s), .val (.ref a1c)] [.null, (.int 3), (.int 0), (.ref a1c), (.ref a0s)])) _
    refine st2.trans ?_
    show Steps p.tables e below (T2.setTop (mkF m 9 #[.val (.ref a0s), .val (.ref a1c)] [])) _
    exact X2.returnOut hx Bd.returns (hb hby d3_9) hr
  · show Q_rmIc_3 n0 Z cS a0s a1c k1 c0 c1 c2 h0 _ T2.heap _
    exact ⟨b_2, kb_2, rfl, N2, K2, sz_b_2, P2_1, P2_2, P2_3, P2_4, P2_5⟩
def Q_rmIc_4 (n0 : Nat) (Z : State) (cS : Int32) (a0s : Addr) (a1c : Addr) (k1 : ClassId) (c0 : Int32) (c1 : Int32) (c2 : Int32) (c3 : Int32) (h0 : Heap) (v : Option Value) (h : Heap) (L : List Loc) : Prop := ∃ b : Addr, ∃ kb : ClassId, v = none ∧ Fr n0 L ∧ Keep h0 h [a0s] ∧ (h0.size ≤ b) ∧ (Exa Z h b "[B") ∧ (Exa Z h a0s "java/lang/String") ∧ (Fld Z h a0s "java/lang/String" "value" "[B" (.ref b)) ∧ (Fld Z h a0s "java/lang/String" "coder" "B" (.int 0)) ∧ (Arv Z h b kb .byte (4 : Int32) [(.int (c0.toInt8.toInt32)), (.int (c1.toInt8.toInt32)), (.int (c2.toInt8.toInt32)), (.int (c3.toInt8.toInt32))] (.int 0))
set_option maxRecDepth 65536 in
set_option maxHeartbeats 40000000 in
theorem rmIc_4 (l : Launch) (Z : State) (a0 : Array Value) (hw : ∀ d ∈ tables_1, d.before a0 Z = true) (ws : List Jvm.Cond) (cS : Int32) (a0s : Addr) (a1c : Addr) (k1 : ClassId) (c0 : Int32) (c1 : Int32) (c2 : Int32) (c3 : Int32) (h0 : Heap) (n0 : Nat) (O0 : Old Z n0 h0) (GL : GF Z cS) (E_a0s : Exa Z h0 a0s "java/lang/String") (F_value_a0s : Fld Z h0 a0s "java/lang/String" "value" "[B" .null) (F_coder_a0s : Fld Z h0 a0s "java/lang/String" "coder" "B" (.int 0)) (g_a0s : n0 ≤ a0s) (V_a1c : Arv Z h0 a1c k1 .char (4 : Int32) [(.int c0), (.int c1), (.int c2), (.int c3)] (.int 0)) (hc0 : ¬ ((255 : Int32) < c0)) (hc1 : ¬ ((255 : Int32) < c1)) (hc2 : ¬ ((255 : Int32) < c2)) (hc3 : ¬ ((255 : Int32) < c3)) :
    MetFree l MN_4 (head1 (Jvm.Cond.code MN_4 jdk_42_method_3_code 2 none :: ws) ({ frames := 3, cells := 1, slots := 4, locals := 52 } : Room)) (fun a U => a = #[(.ref a0s), (.ref a1c)] ∧ Z.Warmed39 U.vm ∧ U.heap = h0) (fun _ _ _ _ _ => True) (fun _ U o U' => ∃ v L, o = .returned v ∧ Q_rmIc_4 n0 Z cS a0s a1c k1 c0 c1 c2 c3 h0 v U'.heap L ∧ FrameEnd U o U' L ({ frames := 3, cells := 1, slots := 4, locals := 52 } : Room).cells ({ frames := 3, cells := 1, slots := 4, locals := 52 } : Room).slots) := by
  refine MetFree.of_bodySF (plainFor_of_name pnv1) hisR ?_
  intro p e s m args below meth c s₁ Bd hml0 hP hK
  obtain ⟨rfl, hZ, hh⟩ := hP
  have hx := Bd.exec
  have hby := Bd.bytes
  have hml : c.maxLocals = 2 := hml0
  have hown : s.vm.findClass "java/lang/String" = some m.cls := findClass_of_methodNamed Bd.named
  have hnm := (name_of_methodNamed Bd.named Bd.method).1
  have X0 : Stand p l e ({ frames := 3, cells := 1, slots := 4, locals := 52 } : Room) s m #[(.ref a0s), (.ref a1c)] below meth c s₁ [] 0 0 := Stand.of_body Bd
  have e0 : s₁.heap = h0 := by rw [← hh, Bd.state]; rfl
  have N0 := Fr.nil n0
  have pre0 : ∀ t, Steps p.tables e below (s₁.setTop (mkF m 0 #[.val (.ref a0s), .val (.ref a1c)] [])) t → Steps p.tables e below (s₁.setTop (entryFrame m #[(.ref a0s), (.ref a1c)] 2)) t := fun t k => castTop (ef_rmIc_0 m a0s a1c) k
  have GL' := GL
  obtain ⟨GCS, GCP⟩ := GL'
  obtain ⟨cl1, Ar1, -, S1, N1_, -, -⟩ := id (V_a1c)
  obtain ⟨_, _, ⟨T2, L2, k2, n2⟩, -, X2, ⟨Lc2, hQ2, l2, y2, z2⟩, st2⟩ := X0.specialBack hx (y := MN_3) rfl hown (mvT hZ (Wd hw 15 rfl)) (mvT hZ (Wd hw 16 rfl)) (mvT hZ (Wd hw 18 rfl)) (by decide) (backOf (W := 0) (rmIv_4 l Z a0 hw [] cS (a0s) (a1c) (k1) (c0) (c1) (c2) (c3) (h0) n0 O0 GL E_a0s F_value_a0s F_coder_a0s g_a0s V_a1c hc0 hc1 hc2 hc3) hZ (Wd hw 18 rfl) (Wd hw 11 rfl) (by decide) (by decide)) (g := (mkF m 6 #[.val (.ref a0s), .val (.ref a1c)] [.null, (.int 4), (.int 0), (.ref a1c), (.ref a0s)])) rfl (by rw [hml]; rfl) (Steps.refl _) (a := a0s) (argsL := [(.ref a1c), (.int 0), (.int 4), .null]) (rest := []) (lenOf pdv3 rfl) rfl (by show 2 * 0 + _ ≤ _; exact Nat.le_of_eq rfl) (hb hby d3_6) (fun _ _ => ⟨rfl, e0, (by decide : 0 + 1 ≤ _), (by decide : 0 + 4 ≤ _)⟩)
  dsimp only [Pt.U, Pt.locs, Pt.cells, Pt.slots] at X2 l2 y2 z2 st2 hQ2
  subst l2 y2 z2
  obtain ⟨b_2, kb_2, rfl, N2q, Kc2, P2_0, P2_1, P2_2, P2_3, P2_4, P2_5⟩ := hQ2
  have K2 : Keep h0 T2.heap [a0s] := (Keep.refl h0 [a0s]).trans Kc2 (allS (Or.inl (List.mem_of_getElem? (i := 0) rfl)) all0)
  have O2 := O0.keep Kc2 (allS g_a0s all0)
  have g_b_2 : n0 ≤ b_2 := Nat.le_trans (own_sz O0) P2_0
  have sz_b_2 : h0.size ≤ b_2 := Nat.le_trans (Keep.refl h0 [a0s]).1 P2_0
  have N2 := Fr.app N0 N2q
  obtain ⟨fs, hr, hrun, hended, hW, hsame⟩ := X2.leave (v := none) (fun _ => rfl)
  refine ⟨_, _, pre0 _ ?_, hrun, hended, _, _, rfl, ?_, ⟨_, rfl⟩, hW, hsame.mono (by decide) (by decide)⟩
  · show Steps p.tables e below (s₁.setTop (mkF m 0 #[.val (.ref a0s), .val (.ref a1c)] [])) _
    refine XS.aloadN X0.here hx rfl (hb hby d3_0) rfl rfl ?_
    refine XS.aloadN X0.here hx rfl (hb hby d3_1) rfl rfl ?_
    refine XS.iconst X0.here hx rfl (hb hby d3_2) ?_
    refine XS.aloadN X0.here hx rfl (hb hby d3_3) rfl rfl ?_
    show Steps p.tables e below (s₁.setTop (mkF m 4 #[.val (.ref a0s), .val (.ref a1c)] [(.ref a1c), (.int 0), (.ref a1c), (.ref a0s)])) _
    refine X0.arraylength hx (by rw [e0]; exact Ar1.1) (State.isArrayOf_alike hZ.alike Ar1.2.1) (g := (mkF m 4 #[.val (.ref a0s), .val (.ref a1c)] [(.ref a1c), (.int 0), (.ref a1c), (.ref a0s)])) rfl rfl (hb hby d3_4) _ ?_
    rw [len_of S1 N1_]
    show Steps p.tables e below (s₁.setTop (mkF m 5 #[.val (.ref a0s), .val (.ref a1c)] [(.int 4), (.int 0), (.ref a1c), (.ref a0s)])) _
    refine XS.aconstNull X0.here hx rfl (hb hby d3_5) ?_
    show Steps p.tables e below (s₁.setTop (mkF m 6 #[.val (.ref a0s), .val (.ref a1c)] [.null, (.int 4), (.int 0), (.ref a1c), (.ref a0s)])) _
    refine st2.trans ?_
    show Steps p.tables e below (T2.setTop (mkF m 9 #[.val (.ref a0s), .val (.ref a1c)] [])) _
    exact X2.returnOut hx Bd.returns (hb hby d3_9) hr
  · show Q_rmIc_4 n0 Z cS a0s a1c k1 c0 c1 c2 c3 h0 _ T2.heap _
    exact ⟨b_2, kb_2, rfl, N2, K2, sz_b_2, P2_1, P2_2, P2_3, P2_4, P2_5⟩
def Q_rmIc_5 (n0 : Nat) (Z : State) (cS : Int32) (a0s : Addr) (a1c : Addr) (k1 : ClassId) (c0 : Int32) (c1 : Int32) (c2 : Int32) (c3 : Int32) (c4 : Int32) (h0 : Heap) (v : Option Value) (h : Heap) (L : List Loc) : Prop := ∃ b : Addr, ∃ kb : ClassId, v = none ∧ Fr n0 L ∧ Keep h0 h [a0s] ∧ (h0.size ≤ b) ∧ (Exa Z h b "[B") ∧ (Exa Z h a0s "java/lang/String") ∧ (Fld Z h a0s "java/lang/String" "value" "[B" (.ref b)) ∧ (Fld Z h a0s "java/lang/String" "coder" "B" (.int 0)) ∧ (Arv Z h b kb .byte (5 : Int32) [(.int (c0.toInt8.toInt32)), (.int (c1.toInt8.toInt32)), (.int (c2.toInt8.toInt32)), (.int (c3.toInt8.toInt32)), (.int (c4.toInt8.toInt32))] (.int 0))
set_option maxRecDepth 65536 in
set_option maxHeartbeats 40000000 in
theorem rmIc_5 (l : Launch) (Z : State) (a0 : Array Value) (hw : ∀ d ∈ tables_1, d.before a0 Z = true) (ws : List Jvm.Cond) (cS : Int32) (a0s : Addr) (a1c : Addr) (k1 : ClassId) (c0 : Int32) (c1 : Int32) (c2 : Int32) (c3 : Int32) (c4 : Int32) (h0 : Heap) (n0 : Nat) (O0 : Old Z n0 h0) (GL : GF Z cS) (E_a0s : Exa Z h0 a0s "java/lang/String") (F_value_a0s : Fld Z h0 a0s "java/lang/String" "value" "[B" .null) (F_coder_a0s : Fld Z h0 a0s "java/lang/String" "coder" "B" (.int 0)) (g_a0s : n0 ≤ a0s) (V_a1c : Arv Z h0 a1c k1 .char (5 : Int32) [(.int c0), (.int c1), (.int c2), (.int c3), (.int c4)] (.int 0)) (hc0 : ¬ ((255 : Int32) < c0)) (hc1 : ¬ ((255 : Int32) < c1)) (hc2 : ¬ ((255 : Int32) < c2)) (hc3 : ¬ ((255 : Int32) < c3)) (hc4 : ¬ ((255 : Int32) < c4)) :
    MetFree l MN_4 (head1 (Jvm.Cond.code MN_4 jdk_42_method_3_code 2 none :: ws) ({ frames := 3, cells := 1, slots := 5, locals := 52 } : Room)) (fun a U => a = #[(.ref a0s), (.ref a1c)] ∧ Z.Warmed39 U.vm ∧ U.heap = h0) (fun _ _ _ _ _ => True) (fun _ U o U' => ∃ v L, o = .returned v ∧ Q_rmIc_5 n0 Z cS a0s a1c k1 c0 c1 c2 c3 c4 h0 v U'.heap L ∧ FrameEnd U o U' L ({ frames := 3, cells := 1, slots := 5, locals := 52 } : Room).cells ({ frames := 3, cells := 1, slots := 5, locals := 52 } : Room).slots) := by
  refine MetFree.of_bodySF (plainFor_of_name pnv1) hisR ?_
  intro p e s m args below meth c s₁ Bd hml0 hP hK
  obtain ⟨rfl, hZ, hh⟩ := hP
  have hx := Bd.exec
  have hby := Bd.bytes
  have hml : c.maxLocals = 2 := hml0
  have hown : s.vm.findClass "java/lang/String" = some m.cls := findClass_of_methodNamed Bd.named
  have hnm := (name_of_methodNamed Bd.named Bd.method).1
  have X0 : Stand p l e ({ frames := 3, cells := 1, slots := 5, locals := 52 } : Room) s m #[(.ref a0s), (.ref a1c)] below meth c s₁ [] 0 0 := Stand.of_body Bd
  have e0 : s₁.heap = h0 := by rw [← hh, Bd.state]; rfl
  have N0 := Fr.nil n0
  have pre0 : ∀ t, Steps p.tables e below (s₁.setTop (mkF m 0 #[.val (.ref a0s), .val (.ref a1c)] [])) t → Steps p.tables e below (s₁.setTop (entryFrame m #[(.ref a0s), (.ref a1c)] 2)) t := fun t k => castTop (ef_rmIc_0 m a0s a1c) k
  have GL' := GL
  obtain ⟨GCS, GCP⟩ := GL'
  obtain ⟨cl1, Ar1, -, S1, N1_, -, -⟩ := id (V_a1c)
  obtain ⟨_, _, ⟨T2, L2, k2, n2⟩, -, X2, ⟨Lc2, hQ2, l2, y2, z2⟩, st2⟩ := X0.specialBack hx (y := MN_3) rfl hown (mvT hZ (Wd hw 15 rfl)) (mvT hZ (Wd hw 16 rfl)) (mvT hZ (Wd hw 18 rfl)) (by decide) (backOf (W := 0) (rmIv_5 l Z a0 hw [] cS (a0s) (a1c) (k1) (c0) (c1) (c2) (c3) (c4) (h0) n0 O0 GL E_a0s F_value_a0s F_coder_a0s g_a0s V_a1c hc0 hc1 hc2 hc3 hc4) hZ (Wd hw 18 rfl) (Wd hw 11 rfl) (by decide) (by decide)) (g := (mkF m 6 #[.val (.ref a0s), .val (.ref a1c)] [.null, (.int 5), (.int 0), (.ref a1c), (.ref a0s)])) rfl (by rw [hml]; rfl) (Steps.refl _) (a := a0s) (argsL := [(.ref a1c), (.int 0), (.int 5), .null]) (rest := []) (lenOf pdv3 rfl) rfl (by show 2 * 0 + _ ≤ _; exact Nat.le_of_eq rfl) (hb hby d3_6) (fun _ _ => ⟨rfl, e0, (by decide : 0 + 1 ≤ _), (by decide : 0 + 5 ≤ _)⟩)
  dsimp only [Pt.U, Pt.locs, Pt.cells, Pt.slots] at X2 l2 y2 z2 st2 hQ2
  subst l2 y2 z2
  obtain ⟨b_2, kb_2, rfl, N2q, Kc2, P2_0, P2_1, P2_2, P2_3, P2_4, P2_5⟩ := hQ2
  have K2 : Keep h0 T2.heap [a0s] := (Keep.refl h0 [a0s]).trans Kc2 (allS (Or.inl (List.mem_of_getElem? (i := 0) rfl)) all0)
  have O2 := O0.keep Kc2 (allS g_a0s all0)
  have g_b_2 : n0 ≤ b_2 := Nat.le_trans (own_sz O0) P2_0
  have sz_b_2 : h0.size ≤ b_2 := Nat.le_trans (Keep.refl h0 [a0s]).1 P2_0
  have N2 := Fr.app N0 N2q
  obtain ⟨fs, hr, hrun, hended, hW, hsame⟩ := X2.leave (v := none) (fun _ => rfl)
  refine ⟨_, _, pre0 _ ?_, hrun, hended, _, _, rfl, ?_, ⟨_, rfl⟩, hW, hsame.mono (by decide) (by decide)⟩
  · show Steps p.tables e below (s₁.setTop (mkF m 0 #[.val (.ref a0s), .val (.ref a1c)] [])) _
    refine XS.aloadN X0.here hx rfl (hb hby d3_0) rfl rfl ?_
    refine XS.aloadN X0.here hx rfl (hb hby d3_1) rfl rfl ?_
    refine XS.iconst X0.here hx rfl (hb hby d3_2) ?_
    refine XS.aloadN X0.here hx rfl (hb hby d3_3) rfl rfl ?_
    show Steps p.tables e below (s₁.setTop (mkF m 4 #[.val (.ref a0s), .val (.ref a1c)] [(.ref a1c), (.int 0), (.ref a1c), (.ref a0s)])) _
    refine X0.arraylength hx (by rw [e0]; exact Ar1.1) (State.isArrayOf_alike hZ.alike Ar1.2.1) (g := (mkF m 4 #[.val (.ref a0s), .val (.ref a1c)] [(.ref a1c), (.int 0), (.ref a1c), (.ref a0s)])) rfl rfl (hb hby d3_4) _ ?_
    rw [len_of S1 N1_]
    show Steps p.tables e below (s₁.setTop (mkF m 5 #[.val (.ref a0s), .val (.ref a1c)] [(.int 5), (.int 0), (.ref a1c), (.ref a0s)])) _
    refine XS.aconstNull X0.here hx rfl (hb hby d3_5) ?_
    show Steps p.tables e below (s₁.setTop (mkF m 6 #[.val (.ref a0s), .val (.ref a1c)] [.null, (.int 5), (.int 0), (.ref a1c), (.ref a0s)])) _
    refine st2.trans ?_
    show Steps p.tables e below (T2.setTop (mkF m 9 #[.val (.ref a0s), .val (.ref a1c)] [])) _
    exact X2.returnOut hx Bd.returns (hb hby d3_9) hr
  · show Q_rmIc_5 n0 Z cS a0s a1c k1 c0 c1 c2 c3 c4 h0 _ T2.heap _
    exact ⟨b_2, kb_2, rfl, N2, K2, sz_b_2, P2_1, P2_2, P2_3, P2_4, P2_5⟩
theorem d1_0 : decode method_2_code 0 = .ok (.iload_n 0, 1) := by decide +kernel
theorem d1_1 : decode method_2_code 1 = .ok (.sipush 256, 3) := by decide +kernel
theorem d1_4 : decode method_2_code 4 = .ok (.iand, 1) := by decide +kernel
theorem d1_5 : decode method_2_code 5 = .ok (.ifCond .eq 57, 3) := by decide +kernel
theorem d1_62 : decode method_2_code 62 = .ok (.iload_n 0, 1) := by decide +kernel
theorem d1_63 : decode method_2_code 63 = .ok (.sipush 255, 3) := by decide +kernel
theorem d1_66 : decode method_2_code 66 = .ok (.iand, 1) := by decide +kernel
theorem d1_67 : decode method_2_code 67 = .ok (.i2c, 1) := by decide +kernel
theorem d1_68 : decode method_2_code 68 = .ok (.ireturn, 1) := by decide +kernel
theorem d1_8 : decode method_2_code 8 = .ok (.bipush 8, 2) := by decide +kernel
theorem d1_10 : decode method_2_code 10 = .ok (.newarray .char, 2) := by decide +kernel
theorem d1_12 : decode method_2_code 12 = .ok (.dup, 1) := by decide +kernel
theorem d1_13 : decode method_2_code 13 = .ok (.iconst 0, 1) := by decide +kernel
theorem d1_14 : decode method_2_code 14 = .ok (.bipush 46, 2) := by decide +kernel
theorem d1_16 : decode method_2_code 16 = .ok (.castore, 1) := by decide +kernel
theorem d1_17 : decode method_2_code 17 = .ok (.dup, 1) := by decide +kernel
theorem d1_18 : decode method_2_code 18 = .ok (.iconst 1, 1) := by decide +kernel
theorem d1_19 : decode method_2_code 19 = .ok (.bipush 109, 2) := by decide +kernel
theorem d1_21 : decode method_2_code 21 = .ok (.castore, 1) := by decide +kernel
theorem d1_22 : decode method_2_code 22 = .ok (.dup, 1) := by decide +kernel
theorem d1_23 : decode method_2_code 23 = .ok (.iconst 2, 1) := by decide +kernel
theorem d1_24 : decode method_2_code 24 = .ok (.bipush 102, 2) := by decide +kernel
theorem d1_26 : decode method_2_code 26 = .ok (.castore, 1) := by decide +kernel
theorem d1_27 : decode method_2_code 27 = .ok (.dup, 1) := by decide +kernel
theorem d1_28 : decode method_2_code 28 = .ok (.iconst 3, 1) := by decide +kernel
theorem d1_29 : decode method_2_code 29 = .ok (.bipush 106, 2) := by decide +kernel
theorem d1_31 : decode method_2_code 31 = .ok (.castore, 1) := by decide +kernel
theorem d1_32 : decode method_2_code 32 = .ok (.dup, 1) := by decide +kernel
theorem d1_33 : decode method_2_code 33 = .ok (.iconst 4, 1) := by decide +kernel
theorem d1_34 : decode method_2_code 34 = .ok (.bipush 97, 2) := by decide +kernel
theorem d1_36 : decode method_2_code 36 = .ok (.castore, 1) := by decide +kernel
theorem d1_37 : decode method_2_code 37 = .ok (.dup, 1) := by decide +kernel
theorem d1_38 : decode method_2_code 38 = .ok (.iconst 5, 1) := by decide +kernel
theorem d1_39 : decode method_2_code 39 = .ok (.bipush 114, 2) := by decide +kernel
theorem d1_41 : decode method_2_code 41 = .ok (.castore, 1) := by decide +kernel
theorem d1_42 : decode method_2_code 42 = .ok (.dup, 1) := by decide +kernel
theorem d1_43 : decode method_2_code 43 = .ok (.bipush 6, 2) := by decide +kernel
theorem d1_45 : decode method_2_code 45 = .ok (.bipush 77, 2) := by decide +kernel
theorem d1_47 : decode method_2_code 47 = .ok (.castore, 1) := by decide +kernel
theorem d1_48 : decode method_2_code 48 = .ok (.dup, 1) := by decide +kernel
theorem d1_49 : decode method_2_code 49 = .ok (.bipush 7, 2) := by decide +kernel
theorem d1_51 : decode method_2_code 51 = .ok (.bipush 74, 2) := by decide +kernel
theorem d1_53 : decode method_2_code 53 = .ok (.castore, 1) := by decide +kernel
theorem d1_54 : decode method_2_code 54 = .ok (.astore_n 1, 1) := by decide +kernel
theorem d1_55 : decode method_2_code 55 = .ok (.aload_n 1, 1) := by decide +kernel
theorem d1_56 : decode method_2_code 56 = .ok (.iload_n 0, 1) := by decide +kernel
theorem d1_57 : decode method_2_code 57 = .ok (.bipush 7, 2) := by decide +kernel
theorem d1_59 : decode method_2_code 59 = .ok (.iand, 1) := by decide +kernel
theorem d1_60 : decode method_2_code 60 = .ok (.caload, 1) := by decide +kernel
theorem d1_61 : decode method_2_code 61 = .ok (.ireturn, 1) := by decide +kernel
theorem pnv2 : plainName "com/example/loomwire/loomwire/bundle/BundleContentIsBundleFilePinLaw" = true := by first | (simp [plainName, overriddenIn]; done) | decide +kernel
abbrev MN_5 : MethodName := ⟨"com/example/loomwire/loomwire/bundle/BundleContentIsBundleFilePinLaw", "draw", "(I)C"⟩
theorem ef_rmDraw (m : MethodId) (p0 : Int32) : entryFrame m #[(.int p0)] 2 = mkF m 0 #[.val (.int p0), .unset] [] := by first | (simp [entryFrame, mkF, argsToLocals, Value.category]; done) | rfl
def Q_rmDraw (n0 : Nat) (Z : State) (cS : Int32) (p0 : Int32) (h0 : Heap) (v : Option Value) (h : Heap) (L : List Loc) : Prop := ∃ c : Int32, v = some (.int c) ∧ Fr n0 L ∧ Keep h0 h [] ∧ (¬ ((255 : Int32) < c)) ∧ (¬ (c < (0 : Int32))) ∧ (nar .char c = c)
set_option maxRecDepth 65536 in
set_option maxHeartbeats 40000000 in
theorem rmDraw (l : Launch) (Z : State) (a0 : Array Value) (hw : ∀ d ∈ tables_1, d.before a0 Z = true) (ws : List Jvm.Cond) (cS : Int32) (p0 : Int32) (h0 : Heap) (n0 : Nat) (O0 : Old Z n0 h0) (GL : GF Z cS) :
    MetFree l MN_5 (head1 (Jvm.Cond.code MN_5 method_2_code 2 (some .char) :: ws) ({ frames := 0, cells := 1, slots := 8, locals := 0 } : Room)) (fun a U => a = #[(.int p0)] ∧ Z.Warmed39 U.vm ∧ U.heap = h0) (fun _ _ _ _ _ => True) (fun _ U o U' => ∃ v L, o = .returned v ∧ Q_rmDraw n0 Z cS p0 h0 v U'.heap L ∧ FrameEnd U o U' L ({ frames := 0, cells := 1, slots := 8, locals := 0 } : Room).cells ({ frames := 0, cells := 1, slots := 8, locals := 0 } : Room).slots) := by
  refine MetFree.of_bodySF (plainFor_of_name pnv2) hisR ?_
  intro p e s m args below meth c s₁ Bd hml0 hP hK
  obtain ⟨rfl, hZ, hh⟩ := hP
  have hx := Bd.exec
  have hby := Bd.bytes
  have hml : c.maxLocals = 2 := hml0
  have hown : s.vm.findClass "com/example/loomwire/loomwire/bundle/BundleContentIsBundleFilePinLaw" = some m.cls := findClass_of_methodNamed Bd.named
  have hnm := (name_of_methodNamed Bd.named Bd.method).1
  have X0 : Stand p l e ({ frames := 0, cells := 1, slots := 8, locals := 0 } : Room) s m #[(.int p0)] below meth c s₁ [] 0 0 := Stand.of_body Bd
  have e0 : s₁.heap = h0 := by rw [← hh, Bd.state]; rfl
  have N0 := Fr.nil n0
  have pre0 : ∀ t, Steps p.tables e below (s₁.setTop (mkF m 0 #[.val (.int p0), .unset] [])) t → Steps p.tables e below (s₁.setTop (entryFrame m #[(.int p0)] 2)) t := fun t k => castTop (ef_rmDraw m p0) k
  have GL' := GL
  obtain ⟨GCS, GCP⟩ := GL'
  have pre2 : ∀ t, Steps p.tables e below (s₁.setTop (mkF m 5 #[.val (.int p0), .unset] [(.int (p0 &&& (256 : Int32)))])) t → Steps p.tables e below (s₁.setTop (entryFrame m #[(.int p0)] 2)) t := fun t kt => by
    refine pre0 t ?_
    show Steps p.tables e below (s₁.setTop (mkF m 0 #[.val (.int p0), .unset] [])) _
    refine XS.iloadN X0.here hx rfl (hb hby d1_0) rfl ?_
    refine XS.sipush X0.here hx rfl (hb hby d1_1) ?_
    refine XS.iand X0.here hx rfl (hb hby d1_4) rfl ?_
    exact kt
  by_cases hc5_1 : (p0 &&& (256 : Int32)) = (0 : Int32)
  · have r1 : ¬ ((255 : Int32) < (nar .char (p0 &&& (255 : Int32)))) := (by rw [(own_nar255 p0)]; exact (own_and255 p0).1)
    have r2 : ¬ ((nar .char (p0 &&& (255 : Int32))) < (0 : Int32)) := (by rw [(own_nar255 p0)]; exact (own_and255 p0).2)
    have r3 : nar .char (nar .char (p0 &&& (255 : Int32))) = (nar .char (p0 &&& (255 : Int32))) := (by rw [(own_nar255 p0)]; exact (own_nar255 p0))
    obtain ⟨fs, hr, hrun, hended, hW, hsame⟩ := X0.leave (v := some (.int (nar .char (p0 &&& (255 : Int32))))) (fun h => by rw [Bd.returns] at h; cases h)
    refine ⟨_, _, pre2 _ ?_, hrun, hended, _, _, rfl, ?_, ⟨_, rfl⟩, hW, hsame.mono (by decide) (by decide)⟩
    · show Steps p.tables e below (s₁.setTop (mkF m 5 #[.val (.int p0), .unset] [(.int (p0 &&& (256 : Int32)))])) _
      refine XS.ifYes X0.here hx rfl (pc0 := 5) (pc' := 62) rfl (hb hby d1_5) rfl ((if0 _ _).trans (teq hc5_1).1) (by decide) (by decide) ?_
      refine XS.iloadN X0.here hx rfl (hb hby d1_62) rfl ?_
      refine XS.sipush X0.here hx rfl (hb hby d1_63) ?_
      refine XS.iand X0.here hx rfl (hb hby d1_66) rfl ?_
      show Steps p.tables e below (s₁.setTop (mkF m 67 #[.val (.int p0), .unset] [(.int (p0 &&& (255 : Int32)))])) _
      refine XS.i2c X0.here hx rfl (hb hby d1_67) rfl ?_
      rw [i2c_mask p0]
      show Steps p.tables e below (s₁.setTop (mkF m 68 #[.val (.int p0), .unset] [(.int (p0 &&& (255 : Int32)))])) _
      exact retN X0 hx (t := .char) Bd.returns (by simp) (hb hby d1_68) hr
    · show Q_rmDraw n0 Z cS p0 h0 _ s₁.heap _
      rw [e0]
      exact ⟨(nar .char (p0 &&& (255 : Int32))), rfl, N0, (Keep.refl h0 []), r1, r2, r3⟩
  · obtain ⟨T3, h3, k3, X3, e3, E3, A3, A3', st3⟩ := newPE X0 hx hZ (Wd hw 5 rfl) e0 (g := (mkF m 10 #[.val (.int p0), .unset] [(.int 8)])) rfl (hb hby d1_10) rfl (by decide) (cap := 8) (by decide) (by decide) (by decide) (by decide) (ad := "[C") rfl
    obtain ⟨b3, g3⟩ : ∃ z, z = h0.size := ⟨_, rfl⟩
    rw [← g3] at A3 A3' st3
    have g_b3 : n0 ≤ b3 := Nat.le_trans (own_sz O0) (Nat.le_of_eq g3.symm)
    have sz_b3 : h0.size ≤ b3 := Nat.le_trans (Keep.refl h0 []).1 (Nat.le_of_eq g3.symm)
    have K3 : Keep h0 h3 [] := (Keep.refl h0 []).ext E3
    have O3 := O0.ext E3
    have V_b3 : Arv Z h3 b3 k3 .char (8 : Int32) [(.int 0), (.int 0), (.int 0), (.int 0), (.int 0), (.int 0), (.int 0), (.int 0)] (.int 0) := (Arv.new A3 (by decide)).pad (pad_rep [] (.int 0) 8)
    obtain ⟨cl4, Ar4, q4, S4, N4_, H4, G4⟩ := id (V_b3)
    have hin4 : ¬ ((0 : Int32) < 0 ∨ cl4.slots.size ≤ ((0 : Int32)).toNatClampNeg) := inb_of S4 ⟨(by decide), (by decide)⟩
    obtain ⟨T4, h4, X4, e4, W4, st4⟩ := stC X3 hx hZ e3 Ar4 (j := (0 : Int32)) hin4 (g := (mkF m 16 #[.val (.int p0), .unset] [(.int 46), (.int 0), (.ref b3), (.ref b3)])) rfl rfl (hb hby d1_16)
    have K4 : Keep h0 h4 [] := K3.wr W4 (Or.inr sz_b3)
    have O4 := O3.wr W4 g_b3
    have N4 := Fr.snoc X4 N0 g_b3
    have V4 : Arv Z h4 b3 k3 .char (8 : Int32) [(.int 46), (.int 0), (.int 0), (.int 0), (.int 0), (.int 0), (.int 0), (.int 0)] (.int 0) := Arv.set Ar4 q4 S4 N4_ H4 G4 (fits_nar_char _) W4 0 rfl (Nat.le_of_ble_eq_true rfl)
    obtain ⟨cl5, Ar5, q5, S5, N5_, H5, G5⟩ := id (V4)
    have hin5 : ¬ ((1 : Int32) < 0 ∨ cl5.slots.size ≤ ((1 : Int32)).toNatClampNeg) := inb_of S5 ⟨(by decide), (by decide)⟩
    obtain ⟨T5, h5, X5, e5, W5, st5⟩ := stC X4 hx hZ e4 Ar5 (j := (1 : Int32)) hin5 (g := (mkF m 21 #[.val (.int p0), .unset] [(.int 109), (.int 1), (.ref b3), (.ref b3)])) rfl rfl (hb hby d1_21)
    have K5 : Keep h0 h5 [] := K4.wr W5 (Or.inr sz_b3)
    have O5 := O4.wr W5 g_b3
    have N5 := Fr.snoc X5 N4 g_b3
    have V5 : Arv Z h5 b3 k3 .char (8 : Int32) [(.int 46), (.int 109), (.int 0), (.int 0), (.int 0), (.int 0), (.int 0), (.int 0)] (.int 0) := Arv.set Ar5 q5 S5 N5_ H5 G5 (fits_nar_char _) W5 1 rfl (Nat.le_of_ble_eq_true rfl)
    obtain ⟨cl6, Ar6, q6, S6, N6_, H6, G6⟩ := id (V5)
    have hin6 : ¬ ((2 : Int32) < 0 ∨ cl6.slots.size ≤ ((2 : Int32)).toNatClampNeg) := inb_of S6 ⟨(by decide), (by decide)⟩
    obtain ⟨T6, h6, X6, e6, W6, st6⟩ := stC X5 hx hZ e5 Ar6 (j := (2 : Int32)) hin6 (g := (mkF m 26 #[.val (.int p0), .unset] [(.int 102), (.int 2), (.ref b3), (.ref b3)])) rfl rfl (hb hby d1_26)
    have K6 : Keep h0 h6 [] := K5.wr W6 (Or.inr sz_b3)
    have O6 := O5.wr W6 g_b3
    have N6 := Fr.snoc X6 N5 g_b3
    have V6 : Arv Z h6 b3 k3 .char (8 : Int32) [(.int 46), (.int 109), (.int 102), (.int 0), (.int 0), (.int 0), (.int 0), (.int 0)] (.int 0) := Arv.set Ar6 q6 S6 N6_ H6 G6 (fits_nar_char _) W6 2 rfl (Nat.le_of_ble_eq_true rfl)
    obtain ⟨cl7, Ar7, q7, S7, N7_, H7, G7⟩ := id (V6)
    have hin7 : ¬ ((3 : Int32) < 0 ∨ cl7.slots.size ≤ ((3 : Int32)).toNatClampNeg) := inb_of S7 ⟨(by decide), (by decide)⟩
    obtain ⟨T7, h7, X7, e7, W7, st7⟩ := stC X6 hx hZ e6 Ar7 (j := (3 : Int32)) hin7 (g := (mkF m 31 #[.val (.int p0), .unset] [(.int 106), (.int 3), (.ref b3), (.ref b3)])) rfl rfl (hb hby d1_31)
    have K7 : Keep h0 h7 [] := K6.wr W7 (Or.inr sz_b3)
    have O7 := O6.wr W7 g_b3
    have N7 := Fr.snoc X7 N6 g_b3
    have V7 : Arv Z h7 b3 k3 .char (8 : Int32) [(.int 46), (.int 109), (.int 102), (.int 106), (.int 0), (.int 0), (.int 0), (.int 0)] (.int 0) := Arv.set Ar7 q7 S7 N7_ H7 G7 (fits_nar_char _) W7 3 rfl (Nat.le_of_ble_eq_true rfl)
    obtain ⟨cl8, Ar8, q8, S8, N8_, H8, G8⟩ := id (V7)
    have hin8 : ¬ ((4 : Int32) < 0 ∨ cl8.slots.size ≤ ((4 : Int32)).toNatClampNeg) := inb_of S8 ⟨(by decide), (by decide)⟩
    obtain ⟨T8, h8, X8, e8, W8, st8⟩ := stC X7 hx hZ e7 Ar8 (j := (4 : Int32)) hin8 (g := (mkF m 36 #[.val (.int p0), .unset] [(.int 97), (.int 4), (.ref b3), (.ref b3)])) rfl rfl (hb hby d1_36)
    have K8 : Keep h0 h8 [] := K7.wr W8 (Or.inr sz_b3)
    have O8 := O7.wr W8 g_b3
    have N8 := Fr.snoc X8 N7 g_b3
    have V8 : Arv Z h8 b3 k3 .char (8 : Int32) [(.int 46), (.int 109), (.int 102), (.int 106), (.int 97), (.int 0), (.int 0), (.int 0)] (.int 0) := Arv.set Ar8 q8 S8 N8_ H8 G8 (fits_nar_char _) W8 4 rfl (Nat.le_of_ble_eq_true rfl)
    obtain ⟨cl9, Ar9, q9, S9, N9_, H9, G9⟩ := id (V8)
    have hin9 : ¬ ((5 : Int32) < 0 ∨ cl9.slots.size ≤ ((5 : Int32)).toNatClampNeg) := inb_of S9 ⟨(by decide), (by decide)⟩
    obtain ⟨T9, h9, X9, e9, W9, st9⟩ := stC X8 hx hZ e8 Ar9 (j := (5 : Int32)) hin9 (g := (mkF m 41 #[.val (.int p0), .unset] [(.int 114), (.int 5), (.ref b3), (.ref b3)])) rfl rfl (hb hby d1_41)
    have K9 : Keep h0 h9 [] := K8.wr W9 (Or.inr sz_b3)
    have O9 := O8.wr W9 g_b3
    have N9 := Fr.snoc X9 N8 g_b3
    have V9 : Arv Z h9 b3 k3 .char (8 : Int32) [(.int 46), (.int 109), (.int 102), (.int 106), (.int 97), (.int 114), (.int 0), (.int 0)] (.int 0) := Arv.set Ar9 q9 S9 N9_ H9 G9 (fits_nar_char _) W9 5 rfl (Nat.le_of_ble_eq_true rfl)
    obtain ⟨cl10, Ar10, q10, S10, N10_, H10, G10⟩ := id (V9)
    have hin10 : ¬ ((6 : Int32) < 0 ∨ cl10.slots.size ≤ ((6 : Int32)).toNatClampNeg) := inb_of S10 ⟨(by decide), (by decide)⟩
    obtain ⟨T10, h10, X10, e10, W10, st10⟩ := stC X9 hx hZ e9 Ar10 (j := (6 : Int32)) hin10 (g := (mkF m 47 #[.val (.int p0), .unset] [(.int 77), (.int 6), (.ref b3), (.ref b3)])) rfl rfl (hb hby d1_47)
    have K10 : Keep h0 h10 [] := K9.wr W10 (Or.inr sz_b3)
    have O10 := O9.wr W10 g_b3
    have N10 := Fr.snoc X10 N9 g_b3
    have V10 : Arv Z h10 b3 k3 .char (8 : Int32) [(.int 46), (.int 109), (.int 102), (.int 106), (.int 97), (.int 114), (.int 77), (.int 0)] (.int 0) := Arv.set Ar10 q10 S10 N10_ H10 G10 (fits_nar_char _) W10 6 rfl (Nat.le_of_ble_eq_true rfl)
    obtain ⟨cl11, Ar11, q11, S11, N11_, H11, G11⟩ := id (V10)
    have hin11 : ¬ ((7 : Int32) < 0 ∨ cl11.slots.size ≤ ((7 : Int32)).toNatClampNeg) := inb_of S11 ⟨(by decide), (by decide)⟩
    obtain ⟨T11, h11, X11, e11, W11, st11⟩ := stC X10 hx hZ e10 Ar11 (j := (7 : Int32)) hin11 (g := (mkF m 53 #[.val (.int p0), .unset] [(.int 74), (.int 7), (.ref b3), (.ref b3)])) rfl rfl (hb hby d1_53)
    have K11 : Keep h0 h11 [] := K10.wr W11 (Or.inr sz_b3)
    have O11 := O10.wr W11 g_b3
    have N11 := Fr.snoc X11 N10 g_b3
    have V11 : Arv Z h11 b3 k3 .char (8 : Int32) [(.int 46), (.int 109), (.int 102), (.int 106), (.int 97), (.int 114), (.int 77), (.int 74)] (.int 0) := Arv.set Ar11 q11 S11 N11_ H11 G11 (fits_nar_char _) W11 7 rfl (Nat.le_of_ble_eq_true rfl)
    obtain ⟨cl12, Ar12, -, S12, N12_, H12, G12⟩ := id (V11)
    have hin12 : ¬ ((p0 &&& (7 : Int32)) < 0 ∨ cl12.slots.size ≤ ((p0 &&& (7 : Int32))).toNatClampNeg) := inb_of S12 ⟨(own_and7 p0).1, (own_and7 p0).2⟩
    obtain ⟨cv13, u13, l13_, n13_, k13_⟩ := own_alpha (p0 &&& (7 : Int32)) (own_and7 p0).1 (own_and7 p0).2
    have hat12 : cl12.slots[((p0 &&& (7 : Int32))).toNatClampNeg]? = some (.int cv13) := H12.at hin12 u13
    have r1 : ¬ ((255 : Int32) < (nar .char cv13)) := (by rw [k13_]; exact l13_)
    have r2 : ¬ ((nar .char cv13) < (0 : Int32)) := (by rw [k13_]; exact n13_)
    have r3 : nar .char (nar .char cv13) = (nar .char cv13) := (by rw [k13_]; exact k13_)
    obtain ⟨fs, hr, hrun, hended, hW, hsame⟩ := X11.leave (v := some (.int (nar .char cv13))) (fun h => by rw [Bd.returns] at h; cases h)
    refine ⟨_, _, pre2 _ ?_, hrun, hended, _, _, rfl, ?_, ⟨_, rfl⟩, hW, hsame.mono (by decide) (by decide)⟩
    · show Steps p.tables e below (s₁.setTop (mkF m 5 #[.val (.int p0), .unset] [(.int (p0 &&& (256 : Int32)))])) _
      refine XS.ifNo X0.here hx rfl (hb hby d1_5) rfl ((if0 _ _).trans (feq hc5_1).1) ?_
      refine XS.bipush X0.here hx rfl (hb hby d1_8) ?_
      show Steps p.tables e below (s₁.setTop (mkF m 10 #[.val (.int p0), .unset] [(.int 8)])) _
      refine st3 _ ?_
      show Steps p.tables e below (T3.setTop (mkF m 12 #[.val (.int p0), .unset] [(.ref b3)])) _
      refine XS.dup X3.here hx rfl (hb hby d1_12) rfl rfl ?_
      refine XS.iconst X3.here hx rfl (hb hby d1_13) ?_
      refine XS.bipush X3.here hx rfl (hb hby d1_14) ?_
      show Steps p.tables e below (T3.setTop (mkF m 16 #[.val (.int p0), .unset] [(.int 46), (.int 0), (.ref b3), (.ref b3)])) _
      refine st4 _ ?_
      show Steps p.tables e below (T4.setTop (mkF m 17 #[.val (.int p0), .unset] [(.ref b3)])) _
      refine XS.dup X4.here hx rfl (hb hby d1_17) rfl rfl ?_
      refine XS.iconst X4.here hx rfl (hb hby d1_18) ?_
      refine XS.bipush X4.here hx rfl (hb hby d1_19) ?_
      show Steps p.tables e below (T4.setTop (mkF m 21 #[.val (.int p0), .unset] [(.int 109), (.int 1), (.ref b3), (.ref b3)])) _
      refine st5 _ ?_
      show Steps p.tables e below (T5.setTop (mkF m 22 #[.val (.int p0), .unset] [(.ref b3)])) _
      refine XS.dup X5.here hx rfl (hb hby d1_22) rfl rfl ?_
      refine XS.iconst X5.here hx rfl (hb hby d1_23) ?_
      refine XS.bipush X5.here hx rfl (hb hby d1_24) ?_
      show Steps p.tables e below (T5.setTop (mkF m 26 #[.val (.int p0), .unset] [(.int 102), (.int 2), (.ref b3), (.ref b3)])) _
      refine st6 _ ?_
      show Steps p.tables e below (T6.setTop (mkF m 27 #[.val (.int p0), .unset] [(.ref b3)])) _
      refine XS.dup X6.here hx rfl (hb hby d1_27) rfl rfl ?_
      refine XS.iconst X6.here hx rfl (hb hby d1_28) ?_
      refine XS.bipush X6.here hx rfl (hb hby d1_29) ?_
      show Steps p.tables e below (T6.setTop (mkF m 31 #[.val (.int p0), .unset] [(.int 106), (.int 3), (.ref b3), (.ref b3)])) _
      refine st7 _ ?_
      show Steps p.tables e below (T7.setTop (mkF m 32 #[.val (.int p0), .unset] [(.ref b3)])) _
      refine XS.dup X7.here hx rfl (hb hby d1_32) rfl rfl ?_
      refine XS.iconst X7.here hx rfl (hb hby d1_33) ?_
      refine XS.bipush X7.here hx rfl (hb hby d1_34) ?_
      show Steps p.tables e below (T7.setTop (mkF m 36 #[.val (.int p0), .unset] [(.int 97), (.int 4), (.ref b3), (.ref b3)])) _
      refine st8 _ ?_
      show Steps p.tables e below (T8.setTop (mkF m 37 #[.val (.int p0), .unset] [(.ref b3)])) _
      refine XS.dup X8.here hx rfl (hb hby d1_37) rfl rfl ?_
      refine XS.iconst X8.here hx rfl (hb hby d1_38) ?_
      refine XS.bipush X8.here hx rfl (hb hby d1_39) ?_
      show Steps p.tables e below (T8.setTop (mkF m 41 #[.val (.int p0), .unset] [(.int 114), (.int 5), (.ref b3), (.ref b3)])) _
      refine st9 _ ?_
      show Steps p.tables e below (T9.setTop (mkF m 42 #[.val (.int p0), .unset] [(.ref b3)])) _
      refine XS.dup X9.here hx rfl (hb hby d1_42) rfl rfl ?_
      refine XS.bipush X9.here hx rfl (hb hby d1_43) ?_
      refine XS.bipush X9.here hx rfl (hb hby d1_45) ?_
      show Steps p.tables e below (T9.setTop (mkF m 47 #[.val (.int p0), .unset] [(.int 77), (.int 6), (.ref b3), (.ref b3)])) _
      refine st10 _ ?_
      show Steps p.tables e below (T10.setTop (mkF m 48 #[.val (.int p0), .unset] [(.ref b3)])) _
      refine XS.dup X10.here hx rfl (hb hby d1_48) rfl rfl ?_
      refine XS.bipush X10.here hx rfl (hb hby d1_49) ?_
      refine XS.bipush X10.here hx rfl (hb hby d1_51) ?_
      show Steps p.tables e below (T10.setTop (mkF m 53 #[.val (.int p0), .unset] [(.int 74), (.int 7), (.ref b3), (.ref b3)])) _
      refine st11 _ ?_
      show Steps p.tables e below (T11.setTop (mkF m 54 #[.val (.int p0), .unset] [(.ref b3)])) _
      refine XS.astoreN X11.here hx rfl (hb hby d1_54) rfl rfl (l' := #[.val (.int p0), .val (.ref b3)]) rfl ?_
      refine XS.aloadN X11.here hx rfl (hb hby d1_55) rfl rfl ?_
      refine XS.iloadN X11.here hx rfl (hb hby d1_56) rfl ?_
      refine XS.bipush X11.here hx rfl (hb hby d1_57) ?_
      show Steps p.tables e below (T11.setTop (mkF m 59 #[.val (.int p0), .val (.ref b3)] [(.int 7), (.int p0), (.ref b3)])) _
      refine XS.iand X11.here hx rfl (hb hby d1_59) rfl ?_
      show Steps p.tables e below (T11.setTop (mkF m 60 #[.val (.int p0), .val (.ref b3)] [(.int (p0 &&& (7 : Int32))), (.ref b3)])) _
      refine X11.caload hx (j := (p0 &&& (7 : Int32))) (v := (.int cv13)) (by rw [e11]; exact Ar12.1) (State.isArrayOf_alike hZ.alike Ar12.2.1) Ar12.2.2 hin12 hat12 (g := (mkF m 60 #[.val (.int p0), .val (.ref b3)] [(.int (p0 &&& (7 : Int32))), (.ref b3)])) rfl rfl (hb hby d1_60) _ ?_
      show Steps p.tables e below (T11.setTop (mkF m 61 #[.val (.int p0), .val (.ref b3)] [(.int cv13)])) _
      exact retN X11 hx (t := .char) Bd.returns (by simp) (hb hby d1_61) hr
    · show Q_rmDraw n0 Z cS p0 h0 _ T11.heap _
      rw [e11]
      exact ⟨(nar .char cv13), rfl, N11, K11, r1, r2, r3⟩
theorem d2_0 : decode method_3_code 0 = .ok (.iload_n 0, 1) := by decide +kernel
theorem d2_1 : decode method_3_code 1 = .ok (.ifCond .ne 14, 3) := by decide +kernel
theorem d2_4 : decode method_3_code 4 = .ok (.new 7, 3) := by decide +kernel
theorem d2_7 : decode method_3_code 7 = .ok (.dup, 1) := by decide +kernel
theorem d2_8 : decode method_3_code 8 = .ok (.iconst 0, 1) := by decide +kernel
theorem d2_9 : decode method_3_code 9 = .ok (.newarray .char, 2) := by decide +kernel
theorem d2_11 : decode method_3_code 11 = .ok (.invokespecial 9, 3) := by decide +kernel
theorem pdv4 : parseMethodDescriptor "([C)V" = some ⟨[(.array .char)], none⟩ := by decide +kernel
theorem d2_14 : decode method_3_code 14 = .ok (.areturn, 1) := by decide +kernel
abbrev MN_6 : MethodName := ⟨"com/example/loomwire/loomwire/bundle/BundleContentIsBundleFilePinLaw", "make", "(ICCCCC)Ljava/lang/String;"⟩
theorem ef_rmMk0 (m : MethodId) (d0 : Int32) (d1 : Int32) (d2 : Int32) (d3 : Int32) (d4 : Int32) : entryFrame m #[(.int 0), (.int d0), (.int d1), (.int d2), (.int d3), (.int d4)] 6 = mkF m 0 #[.val (.int 0), .val (.int d0), .val (.int d1), .val (.int d2), .val (.int d3), .val (.int d4)] [] := by first | (simp [entryFrame, mkF, argsToLocals, Value.category]; done) | rfl
def Q_rmMk0 (n0 : Nat) (Z : State) (cS : Int32) (d0 : Int32) (d1 : Int32) (d2 : Int32) (d3 : Int32) (d4 : Int32) (h0 : Heap) (v : Option Value) (h : Heap) (L : List Loc) : Prop := ∃ b : Addr, ∃ bv : Addr, ∃ kb : ClassId, v = some (.ref b) ∧ Fr n0 L ∧ Keep h0 h [] ∧ (Exa Z h b "java/lang/String") ∧ (Fld Z h b "java/lang/String" "value" "[B" (.ref bv)) ∧ (Fld Z h b "java/lang/String" "coder" "B" (.int 0)) ∧ (Arv Z h bv kb .byte (0 : Int32) [] (.int 0))
set_option maxRecDepth 65536 in
set_option maxHeartbeats 40000000 in
theorem rmMk0 (l : Launch) (Z : State) (a0 : Array Value) (hw : ∀ d ∈ tables_1, d.before a0 Z = true) (ws : List Jvm.Cond) (cS : Int32) (d0 : Int32) (d1 : Int32) (d2 : Int32) (d3 : Int32) (d4 : Int32) (h0 : Heap) (n0 : Nat) (O0 : Old Z n0 h0) (GL : GF Z cS) (hl0 : ¬ ((255 : Int32) < d0)) (hl1 : ¬ ((255 : Int32) < d1)) (hl2 : ¬ ((255 : Int32) < d2)) (hl3 : ¬ ((255 : Int32) < d3)) (hl4 : ¬ ((255 : Int32) < d4)) (hn0 : nar .char d0 = d0) (hn1 : nar .char d1 = d1) (hn2 : nar .char d2 = d2) (hn3 : nar .char d3 = d3) (hn4 : nar .char d4 = d4) :
    MetFree l MN_6 (head1 (Jvm.Cond.code MN_6 method_3_code 6 (some (.object "java/lang/String")) :: ws) ({ frames := 3, cells := 6, slots := 12, locals := 43 } : Room)) (fun a U => a = #[(.int 0), (.int d0), (.int d1), (.int d2), (.int d3), (.int d4)] ∧ Z.Warmed39 U.vm ∧ U.heap = h0 ∧ CHv Z EL1 U.vm h0) (fun _ _ _ _ _ => True) (fun _ U o U' => ∃ v L, o = .returned v ∧ Q_rmMk0 n0 Z cS d0 d1 d2 d3 d4 h0 v U'.heap L ∧ CHr Z EL1 U.vm U.heap U'.vm U'.heap ∧ ReturnedEndW U o U' L ({ frames := 3, cells := 6, slots := 12, locals := 43 } : Room).cells ({ frames := 3, cells := 6, slots := 12, locals := 43 } : Room).slots) := by
  refine MetFree.of_bodySF (plainFor_of_name pnv2) hisR ?_
  intro p e s m args below meth c s₁ Bd hml0 hP hK
  obtain ⟨rfl, hZ, hh, H0⟩ := hP
  have hx := Bd.exec
  have hby := Bd.bytes
  have hml : c.maxLocals = 6 := hml0
  have hown : s.vm.findClass "com/example/loomwire/loomwire/bundle/BundleContentIsBundleFilePinLaw" = some m.cls := findClass_of_methodNamed Bd.named
  have hnm := (name_of_methodNamed Bd.named Bd.method).1
  have X0 : Stand p l e ({ frames := 3, cells := 6, slots := 12, locals := 43 } : Room) s m #[(.int 0), (.int d0), (.int d1), (.int d2), (.int d3), (.int d4)] below meth c s₁ [] 0 0 := Stand.of_body Bd
  have e0 : s₁.heap = h0 := by rw [← hh, Bd.state]; rfl
  have N0 := Fr.nil n0
  have pre0 : ∀ t, Steps p.tables e below (s₁.setTop (mkF m 0 #[.val (.int 0), .val (.int d0), .val (.int d1), .val (.int d2), .val (.int d3), .val (.int d4)] [])) t → Steps p.tables e below (s₁.setTop (entryFrame m #[(.int 0), (.int d0), (.int d1), (.int d2), (.int d3), (.int d4)] 6)) t := fun t k => castTop (ef_rmMk0 m d0 d1 d2 d3 d4) k
  have X0w : Stand p l e ({ frames := 3, cells := 6, slots := 12, locals := 43 } : Room) (s.setVm s.vm) m #[(.int 0), (.int d0), (.int d1), (.int d2), (.int d3), (.int d4)] below meth c s₁ [] 0 0 := X0
  have R0 : CHr Z EL1 s.vm h0 s.vm h0 := CHr.refl H0
  have hS0 : s.Since s.vm h0.size := (State.WarmedH.refl s).since _
  have GL' := GL
  obtain ⟨GCS, GCP⟩ := GL'
  obtain ⟨T1, h1, X1, e1, E1, A1, D1, -, st1⟩ := newO X0w hx hZ hown (Wd hw 9 rfl) (Wd hw 10 rfl) (Wd hw 11 rfl) e0 (g := (mkF m 4 #[.val (.int 0), .val (.int d0), .val (.int d1), .val (.int d2), .val (.int d3), .val (.int d4)] [])) rfl (hb hby d2_4) (by decide) (by decide)
  obtain ⟨b1, g1⟩ : ∃ z, z = h0.size := ⟨_, rfl⟩
  rw [← g1] at A1 D1 st1
  have g_b1 : n0 ≤ b1 := Nat.le_trans (own_sz O0) (Nat.le_of_eq g1.symm)
  have sz_b1 : h0.size ≤ b1 := Nat.le_trans (Keep.refl h0 []).1 (Nat.le_of_eq g1.symm)
  have H_2 := H0.ext E1
  have R_2 := R0.trans (CHr.ext E1 H0)
  have K1 : Keep h0 h1 [] := (Keep.refl h0 []).ext E1
  have O1 := O0.ext E1
  have F_value_b1 : Fld Z h1 b1 "java/lang/String" "value" "[B" .null := D1 (Or.inr (Wd hw 24 rfl)) (ty := (.array .byte)) (by decide)
  have F_coder_b1 : Fld Z h1 b1 "java/lang/String" "coder" "B" (.int 0) := D1 (Or.inr (Wd hw 25 rfl)) (ty := .byte) (by decide)
  obtain ⟨T3, h3, k3, X3, e3, E3, A3, A3', st3⟩ := newPE X1 hx hZ (Wd hw 5 rfl) e1 (g := (mkF m 9 #[.val (.int 0), .val (.int d0), .val (.int d1), .val (.int d2), .val (.int d3), .val (.int d4)] [(.int 0), (.ref b1), (.ref b1)])) rfl (hb hby d2_9) rfl (by decide) (cap := 0) (by decide) (by decide) (by decide) (by decide) (ad := "[C") rfl
  obtain ⟨b3, g3⟩ : ∃ z, z = h1.size := ⟨_, rfl⟩
  rw [← g3] at A3 A3' st3
  have g_b3 : n0 ≤ b3 := Nat.le_trans (own_sz O1) (Nat.le_of_eq g3.symm)
  have sz_b3 : h0.size ≤ b3 := Nat.le_trans K1.1 (Nat.le_of_eq g3.symm)
  have H_4 := H_2.ext E3
  have R_4 := R_2.trans (CHr.ext E3 H_2)
  have K3 : Keep h0 h3 [] := K1.ext E3
  have O3 := O1.ext E3
  have V_b3 : Arv Z h3 b3 k3 .char (0 : Int32) [] (.int 0) := Arv.new A3 (by decide)
  obtain ⟨_, _, ⟨T5, L5, k5, n5⟩, -, X5', hS5', hg5, ⟨Lc5, hQ5, l5, y5, z5, Rs5⟩, st5⟩ := X3.specialBackS hx (y := MN_4) rfl hown (mvT hZ (Wd hw 12 rfl)) (mvT hZ (Wd hw 13 rfl)) (mvT hZ (Wd hw 14 rfl)) (by decide) (backOfSH (W := 1) (rmIc_0 l Z a0 hw [] cS (b1) (b3) (k3) (h3) n0 O3 GL (A1.ext E3) (F_value_b1.ext E3) (F_coder_b1.ext E3) g_b1 V_b3) hZ (Wd hw 14 rfl) (Wd hw 11 rfl) (by decide) (by decide) (own_EW hw) H_4) (g := (mkF m 11 #[.val (.int 0), .val (.int d0), .val (.int d1), .val (.int d2), .val (.int d3), .val (.int d4)] [(.ref b3), (.ref b1), (.ref b1)])) rfl (by rw [hml]; rfl) (Steps.refl _) (a := b1) (argsL := [(.ref b3)]) (rest := [(.ref b1)]) (lenOf pdv4 rfl) rfl (by show 2 * 0 + _ ≤ _; exact Nat.le_of_eq rfl) (hb hby d2_11) (fun _ _ => ⟨rfl, e3, (by decide : 2 + 4 ≤ _), (by decide : 4 + 8 ≤ _)⟩)
  dsimp only [Pt.U, Pt.locs, Pt.cells, Pt.slots] at X5' l5 y5 z5 st5 hQ5 hS5' hg5 Rs5
  subst l5 y5 z5
  obtain ⟨X5, hS5, hZ5, hown5⟩ := rebS hS0 (by rw [e3]; exact (Nat.le_trans (Nat.le_trans (Nat.le_refl _) E1.1) E3.1)) X5' hS5' hg5 hZ hown
  obtain ⟨b_5, kb_5, rfl, N5q, Kc5, P5_0, P5_1, P5_2, P5_3⟩ := hQ5
  have K5 : Keep h0 T5.heap [] := K3.trans Kc5 (allS (Or.inr sz_b1) all0)
  have O5 := O3.keep Kc5 (allS g_b1 all0)
  have H_6 := Rs5.1
  have R_6 := R_4.trans Rs5
  have N5 := Fr.app N0 N5q
  obtain ⟨fs, hr, hrun, hended, hRW⟩ := X5.leaveW hS5 (Nat.le_refl _) (v := some (.ref b1)) (fun h => by rw [Bd.returns] at h; cases h)
  have hCR : CHr Z EL1 s.vm s.heap T5.vm T5.heap := by
    rw [hh]
    exact R_6.trans (CHv.at X5 hZ5 (own_EW hw) H_6)
  refine ⟨_, _, pre0 _ ?_, hrun, hended, _, _, rfl, ?_, hCR, hRW.1, hRW.2.1, hRW.2.2.1, hRW.2.2.2.mono (by decide) (by decide)⟩
  · show Steps p.tables e below (s₁.setTop (mkF m 0 #[.val (.int 0), .val (.int d0), .val (.int d1), .val (.int d2), .val (.int d3), .val (.int d4)] [])) _
    refine XS.iloadN X0w.here hx rfl (hb hby d2_0) rfl ?_
    refine XS.ifNo X0w.here hx rfl (hb hby d2_1) rfl ((if0 _ _).trans (teq (by decide : (0 : Int32) = (0 : Int32))).2) ?_
    show Steps p.tables e below (s₁.setTop (mkF m 4 #[.val (.int 0), .val (.int d0), .val (.int d1), .val (.int d2), .val (.int d3), .val (.int d4)] [])) _
    refine st1 _ ?_
    show Steps p.tables e below (T1.setTop (mkF m 7 #[.val (.int 0), .val (.int d0), .val (.int d1), .val (.int d2), .val (.int d3), .val (.int d4)] [(.ref b1)])) _
    refine XS.dup X1.here hx rfl (hb hby d2_7) rfl rfl ?_
    refine XS.iconst X1.here hx rfl (hb hby d2_8) ?_
    show Steps p.tables e below (T1.setTop (mkF m 9 #[.val (.int 0), .val (.int d0), .val (.int d1), .val (.int d2), .val (.int d3), .val (.int d4)] [(.int 0), (.ref b1), (.ref b1)])) _
    refine st3 _ ?_
    show Steps p.tables e below (T3.setTop (mkF m 11 #[.val (.int 0), .val (.int d0), .val (.int d1), .val (.int d2), .val (.int d3), .val (.int d4)] [(.ref b3), (.ref b1), (.ref b1)])) _
    refine st5.trans ?_
    show Steps p.tables e below (T5.setTop (mkF m 14 #[.val (.int 0), .val (.int d0), .val (.int d1), .val (.int d2), .val (.int d3), .val (.int d4)] [(.ref b1)])) _
    jvm_step X5.here [X5.here.top, hx, (hb hby d2_14), X5.method', Bd.returns, Value.isRef, FieldType.isReference]
    first | (intro acts; rw [hr _ acts rfl rfl rfl]) | rw [hr _ _ rfl rfl rfl]
    exact Steps.refl _
  · show Q_rmMk0 n0 Z cS d0 d1 d2 d3 d4 h0 _ T5.heap _
    exact ⟨b1, b_5, kb_5, rfl, N5, K5, P5_0, P5_1, P5_2, P5_3⟩
theorem d2_15 : decode method_3_code 15 = .ok (.iload_n 0, 1) := by decide +kernel
theorem d2_16 : decode method_3_code 16 = .ok (.iconst 1, 1) := by decide +kernel
theorem d2_17 : decode method_3_code 17 = .ok (.if_icmp .ne 18, 3) := by decide +kernel
theorem d2_20 : decode method_3_code 20 = .ok (.new 7, 3) := by decide +kernel
theorem d2_23 : decode method_3_code 23 = .ok (.dup, 1) := by decide +kernel
theorem d2_24 : decode method_3_code 24 = .ok (.iconst 1, 1) := by decide +kernel
theorem d2_25 : decode method_3_code 25 = .ok (.newarray .char, 2) := by decide +kernel
theorem d2_27 : decode method_3_code 27 = .ok (.dup, 1) := by decide +kernel
theorem d2_28 : decode method_3_code 28 = .ok (.iconst 0, 1) := by decide +kernel
theorem d2_29 : decode method_3_code 29 = .ok (.iload_n 1, 1) := by decide +kernel
theorem d2_30 : decode method_3_code 30 = .ok (.castore, 1) := by decide +kernel
theorem d2_31 : decode method_3_code 31 = .ok (.invokespecial 9, 3) := by decide +kernel
theorem d2_34 : decode method_3_code 34 = .ok (.areturn, 1) := by decide +kernel
theorem ef_rmMk1 (m : MethodId) (d0 : Int32) (d1 : Int32) (d2 : Int32) (d3 : Int32) (d4 : Int32) : entryFrame m #[(.int 1), (.int d0), (.int d1), (.int d2), (.int d3), (.int d4)] 6 = mkF m 0 #[.val (.int 1), .val (.int d0), .val (.int d1), .val (.int d2), .val (.int d3), .val (.int d4)] [] := by first | (simp [entryFrame, mkF, argsToLocals, Value.category]; done) | rfl
def Q_rmMk1 (n0 : Nat) (Z : State) (cS : Int32) (d0 : Int32) (d1 : Int32) (d2 : Int32) (d3 : Int32) (d4 : Int32) (h0 : Heap) (v : Option Value) (h : Heap) (L : List Loc) : Prop := ∃ b : Addr, ∃ bv : Addr, ∃ kb : ClassId, v = some (.ref b) ∧ Fr n0 L ∧ Keep h0 h [] ∧ (Exa Z h b "java/lang/String") ∧ (Fld Z h b "java/lang/String" "value" "[B" (.ref bv)) ∧ (Fld Z h b "java/lang/String" "coder" "B" (.int 0)) ∧ (Arv Z h bv kb .byte (1 : Int32) [(.int (d0.toInt8.toInt32))] (.int 0))
set_option maxRecDepth 65536 in
set_option maxHeartbeats 40000000 in
theorem rmMk1 (l : Launch) (Z : State) (a0 : Array Value) (hw : ∀ d ∈ tables_1, d.before a0 Z = true) (ws : List Jvm.Cond) (cS : Int32) (d0 : Int32) (d1 : Int32) (d2 : Int32) (d3 : Int32) (d4 : Int32) (h0 : Heap) (n0 : Nat) (O0 : Old Z n0 h0) (GL : GF Z cS) (hl0 : ¬ ((255 : Int32) < d0)) (hl1 : ¬ ((255 : Int32) < d1)) (hl2 : ¬ ((255 : Int32) < d2)) (hl3 : ¬ ((255 : Int32) < d3)) (hl4 : ¬ ((255 : Int32) < d4)) (hn0 : nar .char d0 = d0) (hn1 : nar .char d1 = d1) (hn2 : nar .char d2 = d2) (hn3 : nar .char d3 = d3) (hn4 : nar .char d4 = d4) :
    MetFree l MN_6 (head1 (Jvm.Cond.code MN_6 method_3_code 6 (some (.object "java/lang/String")) :: ws) ({ frames := 4, cells := 3, slots := 6, locals := 66 } : Room)) (fun a U => a = #[(.int 1), (.int d0), (.int d1), (.int d2), (.int d3), (.int d4)] ∧ Z.Warmed39 U.vm ∧ U.heap = h0) (fun _ _ _ _ _ => True) (fun _ U o U' => ∃ v L, o = .returned v ∧ Q_rmMk1 n0 Z cS d0 d1 d2 d3 d4 h0 v U'.heap L ∧ FrameEnd U o U' L ({ frames := 4, cells := 3, slots := 6, locals := 66 } : Room).cells ({ frames := 4, cells := 3, slots := 6, locals := 66 } : Room).slots) := by
  refine MetFree.of_bodySF (plainFor_of_name pnv2) hisR ?_
  intro p e s m args below meth c s₁ Bd hml0 hP hK
  obtain ⟨rfl, hZ, hh⟩ := hP
  have hx := Bd.exec
  have hby := Bd.bytes
  have hml : c.maxLocals = 6 := hml0
  have hown : s.vm.findClass "com/example/loomwire/loomwire/bundle/BundleContentIsBundleFilePinLaw" = some m.cls := findClass_of_methodNamed Bd.named
  have hnm := (name_of_methodNamed Bd.named Bd.method).1
  have X0 : Stand p l e ({ frames := 4, cells := 3, slots := 6, locals := 66 } : Room) s m #[(.int 1), (.int d0), (.int d1), (.int d2), (.int d3), (.int d4)] below meth c s₁ [] 0 0 := Stand.of_body Bd
  have e0 : s₁.heap = h0 := by rw [← hh, Bd.state]; rfl
  have N0 := Fr.nil n0
  have pre0 : ∀ t, Steps p.tables e below (s₁.setTop (mkF m 0 #[.val (.int 1), .val (.int d0), .val (.int d1), .val (.int d2), .val (.int d3), .val (.int d4)] [])) t → Steps p.tables e below (s₁.setTop (entryFrame m #[(.int 1), (.int d0), (.int d1), (.int d2), (.int d3), (.int d4)] 6)) t := fun t k => castTop (ef_rmMk1 m d0 d1 d2 d3 d4) k
  have GL' := GL
  obtain ⟨GCS, GCP⟩ := GL'
  obtain ⟨T1, h1, X1, e1, E1, A1, D1, -, st1⟩ := newO X0 hx hZ hown (Wd hw 9 rfl) (Wd hw 10 rfl) (Wd hw 11 rfl) e0 (g := (mkF m 20 #[.val (.int 1), .val (.int d0), .val (.int d1), .val (.int d2), .val (.int d3), .val (.int d4)] [])) rfl (hb hby d2_20) (by decide) (by decide)
  obtain ⟨b1, g1⟩ : ∃ z, z = h0.size := ⟨_, rfl⟩
  rw [← g1] at A1 D1 st1
  have g_b1 : n0 ≤ b1 := Nat.le_trans (own_sz O0) (Nat.le_of_eq g1.symm)
  have sz_b1 : h0.size ≤ b1 := Nat.le_trans (Keep.refl h0 []).1 (Nat.le_of_eq g1.symm)
  have K1 : Keep h0 h1 [] := (Keep.refl h0 []).ext E1
  have O1 := O0.ext E1
  have F_value_b1 : Fld Z h1 b1 "java/lang/String" "value" "[B" .null := D1 (Or.inr (Wd hw 24 rfl)) (ty := (.array .byte)) (by decide)
  have F_coder_b1 : Fld Z h1 b1 "java/lang/String" "coder" "B" (.int 0) := D1 (Or.inr (Wd hw 25 rfl)) (ty := .byte) (by decide)
  obtain ⟨T2, h2, k2, X2, e2, E2, A2, A2', st2⟩ := newPE X1 hx hZ (Wd hw 5 rfl) e1 (g := (mkF m 25 #[.val (.int 1), .val (.int d0), .val (.int d1), .val (.int d2), .val (.int d3), .val (.int d4)] [(.int 1), (.ref b1), (.ref b1)])) rfl (hb hby d2_25) rfl (by decide) (cap := 1) (by decide) (by decide) (by decide) (by decide) (ad := "[C") rfl
  obtain ⟨b2, g2⟩ : ∃ z, z = h1.size := ⟨_, rfl⟩
  rw [← g2] at A2 A2' st2
  have g_b2 : n0 ≤ b2 := Nat.le_trans (own_sz O1) (Nat.le_of_eq g2.symm)
  have sz_b2 : h0.size ≤ b2 := Nat.le_trans K1.1 (Nat.le_of_eq g2.symm)
  have K2 : Keep h0 h2 [] := K1.ext E2
  have O2 := O1.ext E2
  have V_b2 : Arv Z h2 b2 k2 .char (1 : Int32) [(.int 0)] (.int 0) := (Arv.new A2 (by decide)).pad (pad_rep [] (.int 0) 1)
  obtain ⟨cl3, Ar3, q3, S3, N3_, H3, G3⟩ := id (V_b2)
  have hin3 : ¬ ((0 : Int32) < 0 ∨ cl3.slots.size ≤ ((0 : Int32)).toNatClampNeg) := inb_of S3 ⟨(by decide), (by decide)⟩
  obtain ⟨T3, h3, X3, e3, W3, st3⟩ := stC X2 hx hZ e2 Ar3 (j := (0 : Int32)) hin3 (g := (mkF m 30 #[.val (.int 1), .val (.int d0), .val (.int d1), .val (.int d2), .val (.int d3), .val (.int d4)] [(.int d0), (.int 0), (.ref b2), (.ref b2), (.ref b1), (.ref b1)])) rfl rfl (hb hby d2_30)
  have K3 : Keep h0 h3 [] := K2.wr W3 (Or.inr sz_b2)
  have O3 := O2.wr W3 g_b2
  have N3 := Fr.snoc X3 N0 g_b2
  have V3' : Arv Z h3 b2 k2 .char (1 : Int32) [(.int (nar .char d0))] (.int 0) := Arv.set Ar3 q3 S3 N3_ H3 G3 (fits_nar_char _) W3 0 rfl (Nat.le_of_ble_eq_true rfl)
  have V3 : Arv Z h3 b2 k2 .char (1 : Int32) [(.int d0)] (.int 0) := by
    rw [hn0] at V3'
    exact V3'
  obtain ⟨_, _, ⟨T4, L4, k4, n4⟩, -, X4, ⟨Lc4, hQ4, l4, y4, z4⟩, st4⟩ := X3.specialBack hx (y := MN_4) rfl hown (mvT hZ (Wd hw 12 rfl)) (mvT hZ (Wd hw 13 rfl)) (mvT hZ (Wd hw 14 rfl)) (by decide) (backOf (W := 1) (rmIc_1 l Z a0 hw [] cS (b1) (b2) (k2) (d0) (h3) n0 O3 GL ((A1.ext E2).wr W3) ((F_value_b1.ext E2).other W3 (Or.inl (Nat.ne_of_lt (Nat.lt_of_lt_of_le A1.lt (Nat.le_of_eq g2.symm))))) ((F_coder_b1.ext E2).other W3 (Or.inl (Nat.ne_of_lt (Nat.lt_of_lt_of_le A1.lt (Nat.le_of_eq g2.symm))))) g_b1 V3 hl0) hZ (Wd hw 14 rfl) (Wd hw 11 rfl) (by decide) (by decide)) (g := (mkF m 31 #[.val (.int 1), .val (.int d0), .val (.int d1), .val (.int d2), .val (.int d3), .val (.int d4)] [(.ref b2), (.ref b1), (.ref b1)])) rfl (by rw [hml]; rfl) (Steps.refl _) (a := b1) (argsL := [(.ref b2)]) (rest := [(.ref b1)]) (lenOf pdv4 rfl) rfl (by show 2 * 0 + _ ≤ _; exact Nat.le_of_eq rfl) (hb hby d2_31) (fun _ _ => ⟨rfl, e3, (by decide : 2 + 1 ≤ _), (by decide : 5 + 1 ≤ _)⟩)
  dsimp only [Pt.U, Pt.locs, Pt.cells, Pt.slots] at X4 l4 y4 z4 st4 hQ4
  subst l4 y4 z4
  obtain ⟨b_4, kb_4, rfl, N4q, Kc4, P4_0, P4_1, P4_2, P4_3, P4_4, P4_5⟩ := hQ4
  have K4 : Keep h0 T4.heap [] := K3.trans Kc4 (allS (Or.inr sz_b1) all0)
  have O4 := O3.keep Kc4 (allS g_b1 all0)
  have g_b_4 : n0 ≤ b_4 := Nat.le_trans (own_sz O3) P4_0
  have sz_b_4 : h0.size ≤ b_4 := Nat.le_trans K3.1 P4_0
  have N4 := Fr.app N3 N4q
  obtain ⟨fs, hr, hrun, hended, hW, hsame⟩ := X4.leave (v := some (.ref b1)) (fun h => by rw [Bd.returns] at h; cases h)
  refine ⟨_, _, pre0 _ ?_, hrun, hended, _, _, rfl, ?_, ⟨_, rfl⟩, hW, hsame.mono (by decide) (by decide)⟩
  · show Steps p.tables e below (s₁.setTop (mkF m 0 #[.val (.int 1), .val (.int d0), .val (.int d1), .val (.int d2), .val (.int d3), .val (.int d4)] [])) _
    refine XS.iloadN X0.here hx rfl (hb hby d2_0) rfl ?_
    refine XS.ifYes X0.here hx rfl (pc0 := 1) (pc' := 15) rfl (hb hby d2_1) rfl ((if0 _ _).trans (feq (by decide : ¬ ((1 : Int32) = (0 : Int32)))).2) (by decide) (by decide) ?_
    refine XS.iloadN X0.here hx rfl (hb hby d2_15) rfl ?_
    refine XS.iconst X0.here hx rfl (hb hby d2_16) ?_
    show Steps p.tables e below (s₁.setTop (mkF m 17 #[.val (.int 1), .val (.int d0), .val (.int d1), .val (.int d2), .val (.int d3), .val (.int d4)] [(.int 1), (.int 1)])) _
    refine XS.icmpNo X0.here hx rfl (hb hby d2_17) rfl (teq (by decide : (1 : Int32) = (1 : Int32))).2 ?_
    show Steps p.tables e below (s₁.setTop (mkF m 20 #[.val (.int 1), .val (.int d0), .val (.int d1), .val (.int d2), .val (.int d3), .val (.int d4)] [])) _
    refine st1 _ ?_
    show Steps p.tables e below (T1.setTop (mkF m 23 #[.val (.int 1), .val (.int d0), .val (.int d1), .val (.int d2), .val (.int d3), .val (.int d4)] [(.ref b1)])) _
    refine XS.dup X1.here hx rfl (hb hby d2_23) rfl rfl ?_
    refine XS.iconst X1.here hx rfl (hb hby d2_24) ?_
    show Steps p.tables e below (T1.setTop (mkF m 25 #[.val (.int 1), .val (.int d0), .val (.int d1), .val (.int d2), .val (.int d3), .val (.int d4)] [(.int 1), (.ref b1), (.ref b1)])) _
    refine st2 _ ?_
    show Steps p.tables e below (T2.setTop (mkF m 27 #[.val (.int 1), .val (.int d0), .val (.int d1), .val (.int d2), .val (.int d3), .val (.int d4)] [(.ref b2), (.ref b1), (.ref b1)])) _
    refine XS.dup X2.here hx rfl (hb hby d2_27) rfl rfl ?_
    refine XS.iconst X2.here hx rfl (hb hby d2_28) ?_
    refine XS.iloadN X2.here hx rfl (hb hby d2_29) rfl ?_
    show Steps p.tables e below (T2.setTop (mkF m 30 #[.val (.int 1), .val (.int d0), .val (.int d1), .val (.int d2), .val (.int d3), .val (.int d4)] [(.int d0), (.int 0), (.ref b2), (.ref b2), (.ref b1), (.ref b1)])) _
    refine st3 _ ?_
    show Steps p.tables e below (T3.setTop (mkF m 31 #[.val (.int 1), .val (.int d0), .val (.int d1), .val (.int d2), .val (.int d3), .val (.int d4)] [(.ref b2), (.ref b1), (.ref b1)])) _
    refine st4.trans ?_
    show Steps p.tables e below (T4.setTop (mkF m 34 #[.val (.int 1), .val (.int d0), .val (.int d1), .val (.int d2), .val (.int d3), .val (.int d4)] [(.ref b1)])) _
    jvm_step X4.here [X4.here.top, hx, (hb hby d2_34), X4.method', Bd.returns, Value.isRef, FieldType.isReference]
    first | (intro acts; rw [hr _ acts rfl rfl rfl]) | rw [hr _ _ rfl rfl rfl]
    exact Steps.refl _
  · show Q_rmMk1 n0 Z cS d0 d1 d2 d3 d4 h0 _ T4.heap _
    exact ⟨b1, b_4, kb_4, rfl, N4, K4, P4_2, P4_3, P4_4, P4_5⟩
theorem d2_35 : decode method_3_code 35 = .ok (.iload_n 0, 1) := by decide +kernel
theorem d2_36 : decode method_3_code 36 = .ok (.iconst 2, 1) := by decide +kernel
theorem d2_37 : decode method_3_code 37 = .ok (.if_icmp .ne 22, 3) := by decide +kernel
theorem d2_40 : decode method_3_code 40 = .ok (.new 7, 3) := by decide +kernel
theorem d2_43 : decode method_3_code 43 = .ok (.dup, 1) := by decide +kernel
theorem d2_44 : decode method_3_code 44 = .ok (.iconst 2, 1) := by decide +kernel
theorem d2_45 : decode method_3_code 45 = .ok (.newarray .char, 2) := by decide +kernel
theorem d2_47 : decode method_3_code 47 = .ok (.dup, 1) := by decide +kernel
theorem d2_48 : decode method_3_code 48 = .ok (.iconst 0, 1) := by decide +kernel
theorem d2_49 : decode method_3_code 49 = .ok (.iload_n 1, 1) := by decide +kernel
theorem d2_50 : decode method_3_code 50 = .ok (.castore, 1) := by decide +kernel
theorem d2_51 : decode method_3_code 51 = .ok (.dup, 1) := by decide +kernel
theorem d2_52 : decode method_3_code 52 = .ok (.iconst 1, 1) := by decide +kernel
theorem d2_53 : decode method_3_code 53 = .ok (.iload_n 2, 1) := by decide +kernel
theorem d2_54 : decode method_3_code 54 = .ok (.castore, 1) := by decide +kernel
theorem d2_55 : decode method_3_code 55 = .ok (.invokespecial 9, 3) := by decide +kernel
theorem d2_58 : decode method_3_code 58 = .ok (.areturn, 1) := by decide +kernel
theorem ef_rmMk2 (m : MethodId) (d0 : Int32) (d1 : Int32) (d2 : Int32) (d3 : Int32) (d4 : Int32) : entryFrame m #[(.int 2), (.int d0), (.int d1), (.int d2), (.int d3), (.int d4)] 6 = mkF m 0 #[.val (.int 2), .val (.int d0), .val (.int d1), .val (.int d2), .val (.int d3), .val (.int d4)] [] := by first | (simp [entryFrame, mkF, argsToLocals, Value.category]; done) | rfl
def Q_rmMk2 (n0 : Nat) (Z : State) (cS : Int32) (d0 : Int32) (d1 : Int32) (d2 : Int32) (d3 : Int32) (d4 : Int32) (h0 : Heap) (v : Option Value) (h : Heap) (L : List Loc) : Prop := ∃ b : Addr, ∃ bv : Addr, ∃ kb : ClassId, v = some (.ref b) ∧ Fr n0 L ∧ Keep h0 h [] ∧ (Exa Z h b "java/lang/String") ∧ (Fld Z h b "java/lang/String" "value" "[B" (.ref bv)) ∧ (Fld Z h b "java/lang/String" "coder" "B" (.int 0)) ∧ (Arv Z h bv kb .byte (2 : Int32) [(.int (d0.toInt8.toInt32)), (.int (d1.toInt8.toInt32))] (.int 0))
set_option maxRecDepth 65536 in
set_option maxHeartbeats 40000000 in
theorem rmMk2 (l : Launch) (Z : State) (a0 : Array Value) (hw : ∀ d ∈ tables_1, d.before a0 Z = true) (ws : List Jvm.Cond) (cS : Int32) (d0 : Int32) (d1 : Int32) (d2 : Int32) (d3 : Int32) (d4 : Int32) (h0 : Heap) (n0 : Nat) (O0 : Old Z n0 h0) (GL : GF Z cS) (hl0 : ¬ ((255 : Int32) < d0)) (hl1 : ¬ ((255 : Int32) < d1)) (hl2 : ¬ ((255 : Int32) < d2)) (hl3 : ¬ ((255 : Int32) < d3)) (hl4 : ¬ ((255 : Int32) < d4)) (hn0 : nar .char d0 = d0) (hn1 : nar .char d1 = d1) (hn2 : nar .char d2 = d2) (hn3 : nar .char d3 = d3) (hn4 : nar .char d4 = d4) :
    MetFree l MN_6 (head1 (Jvm.Cond.code MN_6 method_3_code 6 (some (.object "java/lang/String")) :: ws) ({ frames := 4, cells := 3, slots := 8, locals := 66 } : Room)) (fun a U => a = #[(.int 2), (.int d0), (.int d1), (.int d2), (.int d3), (.int d4)] ∧ Z.Warmed39 U.vm ∧ U.heap = h0) (fun _ _ _ _ _ => True) (fun _ U o U' => ∃ v L, o = .returned v ∧ Q_rmMk2 n0 Z cS d0 d1 d2 d3 d4 h0 v U'.heap L ∧ FrameEnd U o U' L ({ frames := 4, cells := 3, slots := 8, locals := 66 } : Room).cells ({ frames := 4, cells := 3, slots := 8, locals := 66 } : Room).slots) := by
  refine MetFree.of_bodySF (plainFor_of_name pnv2) hisR ?_
  intro p e s m args below meth c s₁ Bd hml0 hP hK
  obtain ⟨rfl, hZ, hh⟩ := hP
  have hx := Bd.exec
  have hby := Bd.bytes
  have hml : c.maxLocals = 6 := hml0
  have hown : s.vm.findClass "com/example/loomwire/loomwire/bundle/BundleContentIsBundleFilePinLaw" = some m.cls := findClass_of_methodNamed Bd.named
  have hnm := (name_of_methodNamed Bd.named Bd.method).1
  have X0 : Stand p l e ({ frames := 4, cells := 3, slots := 8, locals := 66 } : Room) s m #[(.int 2), (.int d0), (.int d1), (.int d2), (.int d3), (.int d4)] below meth c s₁ [] 0 0 := Stand.of_body Bd
  have e0 : s₁.heap = h0 := by rw [← hh, Bd.state]; rfl
  have N0 := Fr.nil n0
  have pre0 : ∀ t, Steps p.tables e below (s₁.setTop (mkF m 0 #[.val (.int 2), .val (.int d0), .val (.int d1), .val (.int d2), .val (.int d3), .val (.int d4)] [])) t → Steps p.tables e below (s₁.setTop (entryFrame m #[(.int 2), (.int d0), (.int d1), (.int d2), (.int d3), (.int d4)] 6)) t := fun t k => castTop (ef_rmMk2 m d0 d1 d2 d3 d4) k
  have GL' := GL
  obtain ⟨GCS, GCP⟩ := GL'
  obtain ⟨T1, h1, X1, e1, E1, A1, D1, -, st1⟩ := newO X0 hx hZ hown (Wd hw 9 rfl) (Wd hw 10 rfl) (Wd hw 11 rfl) e0 (g := (mkF m 40 #[.val (.int 2), .val (.int d0), .val (.int d1), .val (.int d2), .val (.int d3), .val (.int d4)] [])) rfl (hb hby d2_40) (by decide) (by decide)
  obtain ⟨b1, g1⟩ : ∃ z, z = h0.size := ⟨_, rfl⟩
  rw [← g1] at A1 D1 st1
  have g_b1 : n0 ≤ b1 := Nat.le_trans (own_sz O0) (Nat.le_of_eq g1.symm)
  have sz_b1 : h0.size ≤ b1 := Nat.le_trans (Keep.refl h0 []).1 (Nat.le_of_eq g1.symm)
  have K1 : Keep h0 h1 [] := (Keep.refl h0 []).ext E1
  have O1 := O0.ext E1
  have F_value_b1 : Fld Z h1 b1 "java/lang/String" "value" "[B" .null := D1 (Or.inr (Wd hw 24 rfl)) (ty := (.array .byte)) (by decide)
  have F_coder_b1 : Fld Z h1 b1 "java/lang/String" "coder" "B" (.int 0) := D1 (Or.inr (Wd hw 25 rfl)) (ty := .byte) (by decide)
  obtain ⟨T2, h2, k2, X2, e2, E2, A2, A2', st2⟩ := newPE X1 hx hZ (Wd hw 5 rfl) e1 (g := (mkF m 45 #[.val (.int 2), .val (.int d0), .val (.int d1), .val (.int d2), .val (.int d3), .val (.int d4)] [(.int 2), (.ref b1), (.ref b1)])) rfl (hb hby d2_45) rfl (by decide) (cap := 2) (by decide) (by decide) (by decide) (by decide) (ad := "[C") rfl
  obtain ⟨b2, g2⟩ : ∃ z, z = h1.size := ⟨_, rfl⟩
  rw [← g2] at A2 A2' st2
  have g_b2 : n0 ≤ b2 := Nat.le_trans (own_sz O1) (Nat.le_of_eq g2.symm)
  have sz_b2 : h0.size ≤ b2 := Nat.le_trans K1.1 (Nat.le_of_eq g2.symm)
  have K2 : Keep h0 h2 [] := K1.ext E2
  have O2 := O1.ext E2
  have V_b2 : Arv Z h2 b2 k2 .char (2 : Int32) [(.int 0), (.int 0)] (.int 0) := (Arv.new A2 (by decide)).pad (pad_rep [] (.int 0) 2)
  obtain ⟨cl3, Ar3, q3, S3, N3_, H3, G3⟩ := id (V_b2)
  have hin3 : ¬ ((0 : Int32) < 0 ∨ cl3.slots.size ≤ ((0 : Int32)).toNatClampNeg) := inb_of S3 ⟨(by decide), (by decide)⟩
  obtain ⟨T3, h3, X3, e3, W3, st3⟩ := stC X2 hx hZ e2 Ar3 (j := (0 : Int32)) hin3 (g := (mkF m 50 #[.val (.int 2), .val (.int d0), .val (.int d1), .val (.int d2), .val (.int d3), .val (.int d4)] [(.int d0), (.int 0), (.ref b2), (.ref b2), (.ref b1), (.ref b1)])) rfl rfl (hb hby d2_50)
  have K3 : Keep h0 h3 [] := K2.wr W3 (Or.inr sz_b2)
  have O3 := O2.wr W3 g_b2
  have N3 := Fr.snoc X3 N0 g_b2
  have V3' : Arv Z h3 b2 k2 .char (2 : Int32) [(.int (nar .char d0)), (.int 0)] (.int 0) := Arv.set Ar3 q3 S3 N3_ H3 G3 (fits_nar_char _) W3 0 rfl (Nat.le_of_ble_eq_true rfl)
  have V3 : Arv Z h3 b2 k2 .char (2 : Int32) [(.int d0), (.int 0)] (.int 0) := by
    rw [hn0] at V3'
    exact V3'
  obtain ⟨cl4, Ar4, q4, S4, N4_, H4, G4⟩ := id (V3)
  have hin4 : ¬ ((1 : Int32) < 0 ∨ cl4.slots.size ≤ ((1 : Int32)).toNatClampNeg) := inb_of S4 ⟨(by decide), (by decide)⟩
  obtain ⟨T4, h4, X4, e4, W4, st4⟩ := stC X3 hx hZ e3 Ar4 (j := (1 : Int32)) hin4 (g := (mkF m 54 #[.val (.int 2), .val (.int d0), .val (.int d1), .val (.int d2), .val (.int d3), .val (.int d4)] [(.int d1), (.int 1), (.ref b2), (.ref b2), (.ref b1), (.ref b1)])) rfl rfl (hb hby d2_54)
  have K4 : Keep h0 h4 [] := K3.wr W4 (Or.inr sz_b2)
  have O4 := O3.wr W4 g_b2
  have N4 := Fr.snoc X4 N3 g_b2
  have V4' : Arv Z h4 b2 k2 .char (2 : Int32) [(.int d0), (.int (nar .char d1))] (.int 0) := Arv.set Ar4 q4 S4 N4_ H4 G4 (fits_nar_char _) W4 1 rfl (Nat.le_of_ble_eq_true rfl)
  have V4 : Arv Z h4 b2 k2 .char (2 : Int32) [(.int d0), (.int d1)] (.int 0) := by
    rw [hn1] at V4'
    exact V4'
  obtain ⟨_, _, ⟨T5, L5, k5, n5⟩, -, X5, ⟨Lc5, hQ5, l5, y5, z5⟩, st5⟩ := X4.specialBack hx (y := MN_4) rfl hown (mvT hZ (Wd hw 12 rfl)) (mvT hZ (Wd hw 13 rfl)) (mvT hZ (Wd hw 14 rfl)) (by decide) (backOf (W := 1) (rmIc_2 l Z a0 hw [] cS (b1) (b2) (k2) (d0) (d1) (h4) n0 O4 GL (((A1.ext E2).wr W3).wr W4) (((F_value_b1.ext E2).other W3 (Or.inl (Nat.ne_of_lt (Nat.lt_of_lt_of_le A1.lt (Nat.le_of_eq g2.symm))))).other W4 (Or.inl (Nat.ne_of_lt (Nat.lt_of_lt_of_le A1.lt (Nat.le_of_eq g2.symm))))) (((F_coder_b1.ext E2).other W3 (Or.inl (Nat.ne_of_lt (Nat.lt_of_lt_of_le A1.lt (Nat.le_of_eq g2.symm))))).other W4 (Or.inl (Nat.ne_of_lt (Nat.lt_of_lt_of_le A1.lt (Nat.le_of_eq g2.symm))))) g_b1 V4 hl0 hl1) hZ (Wd hw 14 rfl) (Wd hw 11 rfl) (by decide) (by decide)) (g := (mkF m 55 #[.val (.int 2), .val (.int d0), .val (.int d1), .val (.int d2), .val (.int d3), .val (.int d4)] [(.ref b2), (.ref b1), (.ref b1)])) rfl (by rw [hml]; rfl) (Steps.refl _) (a := b1) (argsL := [(.ref b2)]) (rest := [(.ref b1)]) (lenOf pdv4 rfl) rfl (by show 2 * 0 + _ ≤ _; exact Nat.le_of_eq rfl) (hb hby d2_55) (fun _ _ => ⟨rfl, e4, (by decide : 2 + 1 ≤ _), (by decide : 6 + 2 ≤ _)⟩)
  dsimp only [Pt.U, Pt.locs, Pt.cells, Pt.slots] at X5 l5 y5 z5 st5 hQ5
  subst l5 y5 z5
  obtain ⟨b_5, kb_5, rfl, N5q, Kc5, P5_0, P5_1, P5_2, P5_3, P5_4, P5_5⟩ := hQ5
  have K5 : Keep h0 T5.heap [] := K4.trans Kc5 (allS (Or.inr sz_b1) all0)
  have O5 := O4.keep Kc5 (allS g_b1 all0)
  have g_b_5 : n0 ≤ b_5 := Nat.le_trans (own_sz O4) P5_0
  have sz_b_5 : h0.size ≤ b_5 := Nat.le_trans K4.1 P5_0
  have N5 := Fr.app N4 N5q
  obtain ⟨fs, hr, hrun, hended, hW, hsame⟩ := X5.leave (v := some (.ref b1)) (fun h => by rw [Bd.returns] at h; cases h)
  refine ⟨_, _, pre0 _ ?_, hrun, hended, _, _, rfl, ?_, ⟨_, rfl⟩, hW, hsame.mono (by decide) (by decide)⟩
  · show Steps p.tables e below (s₁.setTop (mkF m 0 #[.val (.int 2), .val (.int d0), .val (.int d1), .val (.int d2), .val (.int d3), .val (.int d4)] [])) _
    refine XS.iloadN X0.here hx rfl (hb hby d2_0) rfl ?_
    refine XS.ifYes X0.here hx rfl (pc0 := 1) (pc' := 15) rfl (hb hby d2_1) rfl ((if0 _ _).trans (feq (by decide : ¬ ((2 : Int32) = (0 : Int32)))).2) (by decide) (by decide) ?_
    refine XS.iloadN X0.here hx rfl (hb hby d2_15) rfl ?_
    refine XS.iconst X0.here hx rfl (hb hby d2_16) ?_
    show Steps p.tables e below (s₁.setTop (mkF m 17 #[.val (.int 2), .val (.int d0), .val (.int d1), .val (.int d2), .val (.int d3), .val (.int d4)] [(.int 1), (.int 2)])) _
    refine XS.icmpYes X0.here hx rfl (pc0 := 17) (pc' := 35) rfl (hb hby d2_17) rfl (feq (by decide : ¬ ((2 : Int32) = (1 : Int32)))).2 (by decide) (by decide) ?_
    refine XS.iloadN X0.here hx rfl (hb hby d2_35) rfl ?_
    refine XS.iconst X0.here hx rfl (hb hby d2_36) ?_
    refine XS.icmpNo X0.here hx rfl (hb hby d2_37) rfl (teq (by decide : (2 : Int32) = (2 : Int32))).2 ?_
    show Steps p.tables e below (s₁.setTop (mkF m 40 #[.val (.int 2), .val (.int d0), .val (.int d1), .val (.int d2), .val (.int d3), .val (.int d4)] [])) _
    refine st1 _ ?_
    show Steps p.tables e below (T1.setTop (mkF m 43 #[.val (.int 2), .val (.int d0), .val (.int d1), .val (.int d2), .val (.int d3), .val (.int d4)] [(.ref b1)])) _
    refine XS.dup X1.here hx rfl (hb hby d2_43) rfl rfl ?_
    refine XS.iconst X1.here hx rfl (hb hby d2_44) ?_
    show Steps p.tables e below (T1.setTop (mkF m 45 #[.val (.int 2), .val (.int d0), .val (.int d1), .val (.int d2), .val (.int d3), .val (.int d4)] [(.int 2), (.ref b1), (.ref b1)])) _
    refine st2 _ ?_
    show Steps p.tables e below (T2.setTop (mkF m 47 #[.val (.int 2), .val (.int d0), .val (.int d1), .val (.int d2), .val (.int d3), .val (.int d4)] [(.ref b2), (.ref b1), (.ref b1)])) _
    refine XS.dup X2.here hx rfl (hb hby d2_47) rfl rfl ?_
    refine XS.iconst X2.here hx rfl (hb hby d2_48) ?_
    refine XS.iloadN X2.here hx rfl (hb hby d2_49) rfl ?_
    show Steps p.tables e below (T2.setTop (mkF m 50 #[.val (.int 2), .val (.int d0), .val (.int d1), .val (.int d2), .val (.int d3), .val (.int d4)] [(.int d0), (.int 0), (.ref b2), (.ref b2), (.ref b1), (.ref b1)])) _
    refine st3 _ ?_
    show Steps p.tables e below (T3.setTop (mkF m 51 #[.val (.int 2), .val (.int d0), .val (.int d1), .val (.int d2), .val (.int d3), .val (.int d4)] [(.ref b2), (.ref b1), (.ref b1)])) _
    refine XS.dup X3.here hx rfl (hb hby d2_51) rfl rfl ?_
    refine XS.iconst X3.here hx rfl (hb hby d2_52) ?_
    refine XS.iloadN X3.here hx rfl (hb hby d2_53) rfl ?_
    show Steps p.tables e below (T3.setTop (mkF m 54 #[.val (.int 2), .val (.int d0), .val (.int d1), .val (.int d2), .val (.int d3), .val (.int d4)] [(.int d1), (.int 1), (.ref b2), (.ref b2), (.ref b1), (.ref b1)])) _
    refine st4 _ ?_
    show Steps p.tables e below (T4.setTop (mkF m 55 #[.val (.int 2), .val (.int d0), .val (.int d1), .val (.int d2), .val (.int d3), .val (.int d4)] [(.ref b2), (.ref b1), (.ref b1)])) _
    refine st5.trans ?_
    show Steps p.tables e below (T5.setTop (mkF m 58 #[.val (.int 2), .val (.int d0), .val (.int d1), .val (.int d2), .val (.int d3), .val (.int d4)] [(.ref b1)])) _
    jvm_step X5.here [X5.here.top, hx, (hb hby d2_58), X5.method', Bd.returns, Value.isRef, FieldType.isReference]
    first | (intro acts; rw [hr _ acts rfl rfl rfl]) | rw [hr _ _ rfl rfl rfl]
    exact Steps.refl _
  · show Q_rmMk2 n0 Z cS d0 d1 d2 d3 d4 h0 _ T5.heap _
    exact ⟨b1, b_5, kb_5, rfl, N5, K5, P5_2, P5_3, P5_4, P5_5⟩
theorem d2_59 : decode method_3_code 59 = .ok (.iload_n 0, 1) := by decide +kernel
theorem d2_60 : decode method_3_code 60 = .ok (.iconst 3, 1) := by decide +kernel
theorem d2_61 : decode method_3_code 61 = .ok (.if_icmp .ne 26, 3) := by decide +kernel
theorem d2_64 : decode method_3_code 64 = .ok (.new 7, 3) := by decide +kernel
theorem d2_67 : decode method_3_code 67 = .ok (.dup, 1) := by decide +kernel
theorem d2_68 : decode method_3_code 68 = .ok (.iconst 3, 1) := by decide +kernel
theorem d2_69 : decode method_3_code 69 = .ok (.newarray .char, 2) := by decide +kernel
theorem d2_71 : decode method_3_code 71 = .ok (.dup, 1) := by decide +kernel
theorem d2_72 : decode method_3_code 72 = .ok (.iconst 0, 1) := by decide +kernel
theorem d2_73 : decode method_3_code 73 = .ok (.iload_n 1, 1) := by decide +kernel
theorem d2_74 : decode method_3_code 74 = .ok (.castore, 1) := by decide +kernel
theorem d2_75 : decode method_3_code 75 = .ok (.dup, 1) := by decide +kernel
theorem d2_76 : decode method_3_code 76 = .ok (.iconst 1, 1) := by decide +kernel
theorem d2_77 : decode method_3_code 77 = .ok (.iload_n 2, 1) := by decide +kernel
theorem d2_78 : decode method_3_code 78 = .ok (.castore, 1) := by decide +kernel
theorem d2_79 : decode method_3_code 79 = .ok (.dup, 1) := by decide +kernel
theorem d2_80 : decode method_3_code 80 = .ok (.iconst 2, 1) := by decide +kernel
theorem d2_81 : decode method_3_code 81 = .ok (.iload_n 3, 1) := by decide +kernel
theorem d2_82 : decode method_3_code 82 = .ok (.castore, 1) := by decide +kernel
theorem d2_83 : decode method_3_code 83 = .ok (.invokespecial 9, 3) := by decide +kernel
theorem d2_86 : decode method_3_code 86 = .ok (.areturn, 1) := by decide +kernel
theorem ef_rmMk3 (m : MethodId) (d0 : Int32) (d1 : Int32) (d2 : Int32) (d3 : Int32) (d4 : Int32) : entryFrame m #[(.int 3), (.int d0), (.int d1), (.int d2), (.int d3), (.int d4)] 6 = mkF m 0 #[.val (.int 3), .val (.int d0), .val (.int d1), .val (.int d2), .val (.int d3), .val (.int d4)] [] := by first | (simp [entryFrame, mkF, argsToLocals, Value.category]; done) | rfl
def Q_rmMk3 (n0 : Nat) (Z : State) (cS : Int32) (d0 : Int32) (d1 : Int32) (d2 : Int32) (d3 : Int32) (d4 : Int32) (h0 : Heap) (v : Option Value) (h : Heap) (L : List Loc) : Prop := ∃ b : Addr, ∃ bv : Addr, ∃ kb : ClassId, v = some (.ref b) ∧ Fr n0 L ∧ Keep h0 h [] ∧ (Exa Z h b "java/lang/String") ∧ (Fld Z h b "java/lang/String" "value" "[B" (.ref bv)) ∧ (Fld Z h b "java/lang/String" "coder" "B" (.int 0)) ∧ (Arv Z h bv kb .byte (3 : Int32) [(.int (d0.toInt8.toInt32)), (.int (d1.toInt8.toInt32)), (.int (d2.toInt8.toInt32))] (.int 0))
set_option maxRecDepth 65536 in
set_option maxHeartbeats 40000000 in
theorem rmMk3 (l : Launch) (Z : State) (a0 : Array Value) (hw : ∀ d ∈ tables_1, d.before a0 Z = true) (ws : List Jvm.Cond) (cS : Int32) (d0 : Int32) (d1 : Int32) (d2 : Int32) (d3 : Int32) (d4 : Int32) (h0 : Heap) (n0 : Nat) (O0 : Old Z n0 h0) (GL : GF Z cS) (hl0 : ¬ ((255 : Int32) < d0)) (hl1 : ¬ ((255 : Int32) < d1)) (hl2 : ¬ ((255 : Int32) < d2)) (hl3 : ¬ ((255 : Int32) < d3)) (hl4 : ¬ ((255 : Int32) < d4)) (hn0 : nar .char d0 = d0) (hn1 : nar .char d1 = d1) (hn2 : nar .char d2 = d2) (hn3 : nar .char d3 = d3) (hn4 : nar .char d4 = d4) :
    MetFree l MN_6 (head1 (Jvm.Cond.code MN_6 method_3_code 6 (some (.object "java/lang/String")) :: ws) ({ frames := 4, cells := 3, slots := 10, locals := 66 } : Room)) (fun a U => a = #[(.int 3), (.int d0), (.int d1), (.int d2), (.int d3), (.int d4)] ∧ Z.Warmed39 U.vm ∧ U.heap = h0) (fun _ _ _ _ _ => True) (fun _ U o U' => ∃ v L, o = .returned v ∧ Q_rmMk3 n0 Z cS d0 d1 d2 d3 d4 h0 v U'.heap L ∧ FrameEnd U o U' L ({ frames := 4, cells := 3, slots := 10, locals := 66 } : Room).cells ({ frames := 4, cells := 3, slots := 10, locals := 66 } : Room).slots) := by
  refine MetFree.of_bodySF (plainFor_of_name pnv2) hisR ?_
  intro p e s m args below meth c s₁ Bd hml0 hP hK
  obtain ⟨rfl, hZ, hh⟩ := hP
  have hx := Bd.exec
  have hby := Bd.bytes
  have hml : c.maxLocals = 6 := hml0
  have hown : s.vm.findClass "com/example/loomwire/loomwire/bundle/BundleContentIsBundleFilePinLaw" = some m.cls := findClass_of_methodNamed Bd.named
  have hnm := (name_of_methodNamed Bd.named Bd.method).1
  have X0 : Stand p l e ({ frames := 4, cells := 3, slots := 10, locals := 66 } : Room) s m #[(.int 3), (.int d0), (.int d1), (.int d2), (.int d3), (.int d4)] below meth c s₁ [] 0 0 := Stand.of_body Bd
  have e0 : s₁.heap = h0 := by rw [← hh, Bd.state]; rfl
  have N0 := Fr.nil n0
  have pre0 : ∀ t, Steps p.tables e below (s₁.setTop (mkF m 0 #[.val (.int 3), .val (.int d0), .val (.int d1), .val (.int d2), .val (.int d3), .val (.int d4)] [])) t → Steps p.tables e below (s₁.setTop (entryFrame m #[(.int 3), (.int d0), (.int d1), (.int d2), (.int d3), (.int d4)] 6)) t := fun t k => castTop (ef_rmMk3 m d0 d1 d2 d3 d4) k
  have GL' := GL
  obtain ⟨GCS, GCP⟩ := GL'
  obtain ⟨T1, h1, X1, e1, E1, A1, D1, -, st1⟩ := newO X0 hx hZ hown (Wd hw 9 rfl) (Wd hw 10 rfl) (Wd hw 11 rfl) e0 (g := (mkF m 64 #[.val (.int 3), .val (.int d0), .val (.int d1), .val (.int d2), .val (.int d3), .val (.int d4)] [])) rfl (hb hby d2_64) (by decide) (by decide)
  obtain ⟨b1, g1⟩ : ∃ z, z = h0.size := ⟨_, rfl⟩
  rw [← g1] at A1 D1 st1
  have g_b1 : n0 ≤ b1 := Nat.le_trans (own_sz O0) (Nat.le_of_eq g1.symm)
  have sz_b1 : h0.size ≤ b1 := Nat.le_trans (Keep.refl h0 []).1 (Nat.le_of_eq g1.symm)
  have K1 : Keep h0 h1 [] := (Keep.refl h0 []).ext E1
  have O1 := O0.ext E1
  have F_value_b1 : Fld Z h1 b1 "java/lang/String" "value" "[B" .null := D1 (Or.inr (Wd hw 24 rfl)) (ty := (.array .byte)) (by decide)
  have F_coder_b1 : Fld Z h1 b1 "java/lang/String" "coder" "B" (.int 0) := D1 (Or.inr (Wd hw 25 rfl)) (ty := .byte) (by decide)
  obtain ⟨T2, h2, k2, X2, e2, E2, A2, A2', st2⟩ := newPE X1 hx hZ (Wd hw 5 rfl) e1 (g := (mkF m 69 #[.val (.int 3), .val (.int d0), .val (.int d1), .val (.int d2), .val (.int d3), .val (.int d4)] [(.int 3), (.ref b1), (.ref b1)])) rfl (hb hby d2_69) rfl (by decide) (cap := 3) (by decide) (by decide) (by decide) (by decide) (ad := "[C") rfl
  obtain ⟨b2, g2⟩ : ∃ z, z = h1.size := ⟨_, rfl⟩
  rw [← g2] at A2 A2' st2
  have g_b2 : n0 ≤ b2 := Nat.le_trans (own_sz O1) (Nat.le_of_eq g2.symm)
  have sz_b2 : h0.size ≤ b2 := Nat.le_trans K1.1 (Nat.le_of_eq g2.symm)
  have K2 : Keep h0 h2 [] := K1.ext E2
  have O2 := O1.ext E2
  have V_b2 : Arv Z h2 b2 k2 .char (3 : Int32) [(.int 0), (.int 0), (.int 0)] (.int 0) := (Arv.new A2 (by decide)).pad (pad_rep [] (.int 0) 3)
  obtain ⟨cl3, Ar3, q3, S3, N3_, H3, G3⟩ := id (V_b2)
  have hin3 : ¬ ((0 : Int32) < 0 ∨ cl3.slots.size ≤ ((0 : Int32)).toNatClampNeg) := inb_of S3 ⟨(by decide), (by decide)⟩
  obtain ⟨T3, h3, X3, e3, W3, st3⟩ := stC X2 hx hZ e2 Ar3 (j := (0 : Int32)) hin3 (g := (mkF m 74 #[.val (.int 3), .val (.int d0), .val (.int d1), .val (.int d2), .val (.int d3), .val (.int d4)] [(.int d0), (.int 0), (.ref b2), (.ref b2), (.ref b1), (.ref b1)])) rfl rfl (hb hby d2_74)
  have K3 : Keep h0 h3 [] := K2.wr W3 (Or.inr sz_b2)
  have O3 := O2.wr W3 g_b2
  have N3 := Fr.snoc X3 N0 g_b2
  have V3' : Arv Z h3 b2 k2 .char (3 : Int32) [(.int (nar .char d0)), (.int 0), (.int 0)] (.int 0) := Arv.set Ar3 q3 S3 N3_ H3 G3 (fits_nar_char _) W3 0 rfl (Nat.le_of_ble_eq_true rfl)
  have V3 : Arv Z h3 b2 k2 .char (3 : Int32) [(.int d0), (.int 0), (.int 0)] (.int 0) := by
    rw [hn0] at V3'
    exact V3'
  obtain ⟨cl4, Ar4, q4, S4, N4_, H4, G4⟩ := id (V3)
  have hin4 : ¬ ((1 : Int32) < 0 ∨ cl4.slots.size ≤ ((1 : Int32)).toNatClampNeg) := inb_of S4 ⟨(by decide), (by decide)⟩
  obtain ⟨T4, h4, X4, e4, W4, st4⟩ := stC X3 hx hZ e3 Ar4 (j := (1 : Int32)) hin4 (g := (mkF m 78 #[.val (.int 3), .val (.int d0), .val (.int d1), .val (.int d2), .val (.int d3), .val (.int d4)] [(.int d1), (.int 1), (.ref b2), (.ref b2), (.ref b1), (.ref b1)])) rfl rfl (hb hby d2_78)
  have K4 : Keep h0 h4 [] := K3.wr W4 (Or.inr sz_b2)
  have O4 := O3.wr W4 g_b2
  have N4 := Fr.snoc X4 N3 g_b2
  have V4' : Arv Z h4 b2 k2 .char (3 : Int32) [(.int d0), (.int (nar .char d1)), (.int 0)] (.int 0) := Arv.set Ar4 q4 S4 N4_ H4 G4 (fits_nar_char _) W4 1 rfl (Nat.le_of_ble_eq_true rfl)
  have V4 : Arv Z h4 b2 k2 .char (3 : Int32) [(.int d0), (.int d1), (.int 0)] (.int 0) := by
    rw [hn1] at V4'
    exact V4'
  obtain ⟨cl5, Ar5, q5, S5, N5_, H5, G5⟩ := id (V4)
  have hin5 : ¬ ((2 : Int32) < 0 ∨ cl5.slots.size ≤ ((2 : Int32)).toNatClampNeg) := inb_of S5 ⟨(by decide), (by decide)⟩
  obtain ⟨T5, h5, X5, e5, W5, st5⟩ := stC X4 hx hZ e4 Ar5 (j := (2 : Int32)) hin5 (g := (mkF m 82 #[.val (.int 3), .val (.int d0), .val (.int d1), .val (.int d2), .val (.int d3), .val (.int d4)] [(.int d2), (.int 2), (.ref b2), (.ref b2), (.ref b1), (.ref b1)])) rfl rfl (hb hby d2_82)
  have K5 : Keep h0 h5 [] := K4.wr W5 (Or.inr sz_b2)
  have O5 := O4.wr W5 g_b2
  have N5 := Fr.snoc X5 N4 g_b2
  have V5' : Arv Z h5 b2 k2 .char (3 : Int32) [(.int d0), (.int d1), (.int (nar .char d2))] (.int 0) := Arv.set Ar5 q5 S5 N5_ H5 G5 (fits_nar_char _) W5 2 rfl (Nat.le_of_ble_eq_true rfl)
  have V5 : Arv Z h5 b2 k2 .char (3 : Int32) [(.int d0), (.int d1), (.int d2)] (.int 0) := by
    rw [hn2] at V5'
    exact V5'
  obtain ⟨_, _, ⟨T6, L6, k6, n6⟩, -, X6, ⟨Lc6, hQ6, l6, y6, z6⟩, st6⟩ := X5.specialBack hx (y := MN_4) rfl hown (mvT hZ (Wd hw 12 rfl)) (mvT hZ (Wd hw 13 rfl)) (mvT hZ (Wd hw 14 rfl)) (by decide) (backOf (W := 1) (rmIc_3 l Z a0 hw [] cS (b1) (b2) (k2) (d0) (d1) (d2) (h5) n0 O5 GL ((((A1.ext E2).wr W3).wr W4).wr W5) ((((F_value_b1.ext E2).other W3 (Or.inl (Nat.ne_of_lt (Nat.lt_of_lt_of_le A1.lt (Nat.le_of_eq g2.symm))))).other W4 (Or.inl (Nat.ne_of_lt (Nat.lt_of_lt_of_le A1.lt (Nat.le_of_eq g2.symm))))).other W5 (Or.inl (Nat.ne_of_lt (Nat.lt_of_lt_of_le A1.lt (Nat.le_of_eq g2.symm))))) ((((F_coder_b1.ext E2).other W3 (Or.inl (Nat.ne_of_lt (Nat.lt_of_lt_of_le A1.lt (Nat.le_of_eq g2.symm))))).other W4 (Or.inl (Nat.ne_of_lt (Nat.lt_of_lt_of_le A1.lt (Nat.le_of_eq g2.symm))))).other W5 (Or.inl (Nat.ne_of_lt (Nat.lt_of_lt_of_le A1.lt (Nat.le_of_eq g2.symm))))) g_b1 V5 hl0 hl1 hl2) hZ (Wd hw 14 rfl) (Wd hw 11 rfl) (by decide) (by decide)) (g := (mkF m 83 #[.val (.int 3), .val (.int d0), .val (.int d1), .val (.int d2), .val (.int d3), .val (.int d4)] [(.ref b2), (.ref b1), (.ref b1)])) rfl (by rw [hml]; rfl) (Steps.refl _) (a := b1) (argsL := [(.ref b2)]) (rest := [(.ref b1)]) (lenOf pdv4 rfl) rfl (by show 2 * 0 + _ ≤ _; exact Nat.le_of_eq rfl) (hb hby d2_83) (fun _ _ => ⟨rfl, e5, (by decide : 2 + 1 ≤ _), (by decide : 7 + 3 ≤ _)⟩)
  dsimp only [Pt.U, Pt.locs, Pt.cells, Pt.slots] at X6 l6 y6 z6 st6 hQ6
  subst l6 y6 z6
  obtain ⟨b_6, kb_6, rfl, N6q, Kc6, P6_0, P6_1, P6_2, P6_3, P6_4, P6_5⟩ := hQ6
  have K6 : Keep h0 T6.heap [] := K5.trans Kc6 (allS (Or.inr sz_b1) all0)
  have O6 := O5.keep Kc6 (allS g_b1 all0)
  have g_b_6 : n0 ≤ b_6 := Nat.le_trans (own_sz O5) P6_0
  have sz_b_6 : h0.size ≤ b_6 := Nat.le_trans K5.1 P6_0
  have N6 := Fr.app N5 N6q
  obtain ⟨fs, hr, hrun, hended, hW, hsame⟩ := X6.leave (v := some (.ref b1)) (fun h => by rw [Bd.returns] at h; cases h)
  refine ⟨_, _, pre0 _ ?_, hrun, hended, _, _, rfl, ?_, ⟨_, rfl⟩, hW, hsame.mono (by decide) (by decide)⟩
  · show Steps p.tables e below (s₁.setTop (mkF m 0 #[.val (.int 3), .val (.int d0), .val (.int d1), .val (.int d2), .val (.int d3), .val (.int d4)] [])) _
    refine XS.iloadN X0.here hx rfl (hb hby d2_0) rfl ?_
    refine XS.ifYes X0.here hx rfl (pc0 := 1) (pc' := 15) rfl (hb hby d2_1) rfl ((if0 _ _).trans (feq (by decide : ¬ ((3 : Int32) = (0 : Int32)))).2) (by decide) (by decide) ?_
    refine XS.iloadN X0.here hx rfl (hb hby d2_15) rfl ?_
    refine XS.iconst X0.here hx rfl (hb hby d2_16) ?_
    show Steps p.tables e below (s₁.setTop (mkF m 17 #[.val (.int 3), .val (.int d0), .val (.int d1), .val (.int d2), .val (.int d3), .val (.int d4)] [(.int 1), (.int 3)])) _
    refine XS.icmpYes X0.here hx rfl (pc0 := 17) (pc' := 35) rfl (hb hby d2_17) rfl (feq (by decide : ¬ ((3 : Int32) = (1 : Int32)))).2 (by decide) (by decide) ?_
    refine XS.iloadN X0.here hx rfl (hb hby d2_35) rfl ?_
    refine XS.iconst X0.here hx rfl (hb hby d2_36) ?_
    refine XS.icmpYes X0.here hx rfl (pc0 := 37) (pc' := 59) rfl (hb hby d2_37) rfl (feq (by decide : ¬ ((3 : Int32) = (2 : Int32)))).2 (by decide) (by decide) ?_
    show Steps p.tables e below (s₁.setTop (mkF m 59 #[.val (.int 3), .val (.int d0), .val (.int d1), .val (.int d2), .val (.int d3), .val (.int d4)] [])) _
    refine XS.iloadN X0.here hx rfl (hb hby d2_59) rfl ?_
    refine XS.iconst X0.here hx rfl (hb hby d2_60) ?_
    refine XS.icmpNo X0.here hx rfl (hb hby d2_61) rfl (teq (by decide : (3 : Int32) = (3 : Int32))).2 ?_
    show Steps p.tables e below (s₁.setTop (mkF m 64 #[.val (.int 3), .val (.int d0), .val (.int d1), .val (.int d2), .val (.int d3), .val (.int d4)] [])) _
    refine st1 _ ?_
    show Steps p.tables e below (T1.setTop (mkF m 67 #[.val (.int 3), .val (.int d0), .val (.int d1), .val (.int d2), .val (.int d3), .val (.int d4)] [(.ref b1)])) _
    refine XS.dup X1.here hx rfl (hb hby d2_67) rfl rfl ?_
    refine XS.iconst X1.here hx rfl (hb hby d2_68) ?_
    show Steps p.tables e below (T1.setTop (mkF m 69 #[.val (.int 3), .val (.int d0), .val (.int d1), .val (.int d2), .val (.int d3), .val (.int d4)] [(.int 3), (.ref b1), (.ref b1)])) _
    refine st2 _ ?_
    show Steps p.tables e below (T2.setTop (mkF m 71 #[.val (.int 3), .val (.int d0), .val (.int d1), .val (.int d2), .val (.int d3), .val (.int d4)] [(.ref b2), (.ref b1), (.ref b1)])) _
    refine XS.dup X2.here hx rfl (hb hby d2_71) rfl rfl ?_
    refine XS.iconst X2.here hx rfl (hb hby d2_72) ?_
    refine XS.iloadN X2.here hx rfl (hb hby d2_73) rfl ?_
    show Steps p.tables e below (T2.setTop (mkF m 74 #[.val (.int 3), .val (.int d0), .val (.int d1), .val (.int d2), .val (.int d3), .val (.int d4)] [(.int d0), (.int 0), (.ref b2), (.ref b2), (.ref b1), (.ref b1)])) _
    refine st3 _ ?_
    show Steps p.tables e below (T3.setTop (mkF m 75 #[.val (.int 3), .val (.int d0), .val (.int d1), .val (.int d2), .val (.int d3), .val (.int d4)] [(.ref b2), (.ref b1), (.ref b1)])) _
    refine XS.dup X3.here hx rfl (hb hby d2_75) rfl rfl ?_
    refine XS.iconst X3.here hx rfl (hb hby d2_76) ?_
    refine XS.iloadN X3.here hx rfl (hb hby d2_77) rfl ?_
    show Steps p.tables e below (T3.setTop (mkF m 78 #[.val (.int 3), .val (.int d0), .val (.int d1), .val (.int d2), .val (.int d3), .val (.int d4)] [(.int d1), (.int 1), (.ref b2), (.ref b2), (.ref b1), (.ref b1)])) _
    refine st4 _ ?_
    show Steps p.tables e below (T4.setTop (mkF m 79 #[.val (.int 3), .val (.int d0), .val (.int d1), .val (.int d2), .val (.int d3), .val (.int d4)] [(.ref b2), (.ref b1), (.ref b1)])) _
    refine XS.dup X4.here hx rfl (hb hby d2_79) rfl rfl ?_
    refine XS.iconst X4.here hx rfl (hb hby d2_80) ?_
    refine XS.iloadN X4.here hx rfl (hb hby d2_81) rfl ?_
    show Steps p.tables e below (T4.setTop (mkF m 82 #[.val (.int 3), .val (.int d0), .val (.int d1), .val (.int d2), .val (.int d3), .val (.int d4)] [(.int d2), (.int 2), (.ref b2), (.ref b2), (.ref b1), (.ref b1)])) _
    refine st5 _ ?_
    show Steps p.tables e below (T5.setTop (mkF m 83 #[.val (.int 3), .val (.int d0), .val (.int d1), .val (.int d2), .val (.int d3), .val (.int d4)] [(.ref b2), (.ref b1), (.ref b1)])) _
    refine st6.trans ?_
    show Steps p.tables e below (T6.setTop (mkF m 86 #[.val (.int 3), .val (.int d0), .val (.int d1), .val (.int d2), .val (.int d3), .val (.int d4)] [(.ref b1)])) _
    jvm_step X6.here [X6.here.top, hx, (hb hby d2_86), X6.method', Bd.returns, Value.isRef, FieldType.isReference]
    first | (intro acts; rw [hr _ acts rfl rfl rfl]) | rw [hr _ _ rfl rfl rfl]
    exact Steps.refl _
  · show Q_rmMk3 n0 Z cS d0 d1 d2 d3 d4 h0 _ T6.heap _
    exact ⟨b1, b_6, kb_6, rfl, N6, K6, P6_2, P6_3, P6_4, P6_5⟩
theorem d2_87 : decode method_3_code 87 = .ok (.iload_n 0, 1) := by decide +kernel
theorem d2_88 : decode method_3_code 88 = .ok (.iconst 4, 1) := by decide +kernel
theorem d2_89 : decode method_3_code 89 = .ok (.if_icmp .ne 31, 3) := by decide +kernel
theorem d2_92 : decode method_3_code 92 = .ok (.new 7, 3) := by decide +kernel
theorem d2_95 : decode method_3_code 95 = .ok (.dup, 1) := by decide +kernel
theorem d2_96 : decode method_3_code 96 = .ok (.iconst 4, 1) := by decide +kernel
theorem d2_97 : decode method_3_code 97 = .ok (.newarray .char, 2) := by decide +kernel
theorem d2_99 : decode method_3_code 99 = .ok (.dup, 1) := by decide +kernel
theorem d2_100 : decode method_3_code 100 = .ok (.iconst 0, 1) := by decide +kernel
theorem d2_101 : decode method_3_code 101 = .ok (.iload_n 1, 1) := by decide +kernel
theorem d2_102 : decode method_3_code 102 = .ok (.castore, 1) := by decide +kernel
theorem d2_103 : decode method_3_code 103 = .ok (.dup, 1) := by decide +kernel
theorem d2_104 : decode method_3_code 104 = .ok (.iconst 1, 1) := by decide +kernel
theorem d2_105 : decode method_3_code 105 = .ok (.iload_n 2, 1) := by decide +kernel
theorem d2_106 : decode method_3_code 106 = .ok (.castore, 1) := by decide +kernel
theorem d2_107 : decode method_3_code 107 = .ok (.dup, 1) := by decide +kernel
theorem d2_108 : decode method_3_code 108 = .ok (.iconst 2, 1) := by decide +kernel
theorem d2_109 : decode method_3_code 109 = .ok (.iload_n 3, 1) := by decide +kernel
theorem d2_110 : decode method_3_code 110 = .ok (.castore, 1) := by decide +kernel
theorem d2_111 : decode method_3_code 111 = .ok (.dup, 1) := by decide +kernel
theorem d2_112 : decode method_3_code 112 = .ok (.iconst 3, 1) := by decide +kernel
theorem d2_113 : decode method_3_code 113 = .ok (.iload 4, 2) := by decide +kernel
theorem d2_115 : decode method_3_code 115 = .ok (.castore, 1) := by decide +kernel
theorem d2_116 : decode method_3_code 116 = .ok (.invokespecial 9, 3) := by decide +kernel
theorem d2_119 : decode method_3_code 119 = .ok (.areturn, 1) := by decide +kernel
theorem ef_rmMk4 (m : MethodId) (d0 : Int32) (d1 : Int32) (d2 : Int32) (d3 : Int32) (d4 : Int32) : entryFrame m #[(.int 4), (.int d0), (.int d1), (.int d2), (.int d3), (.int d4)] 6 = mkF m 0 #[.val (.int 4), .val (.int d0), .val (.int d1), .val (.int d2), .val (.int d3), .val (.int d4)] [] := by first | (simp [entryFrame, mkF, argsToLocals, Value.category]; done) | rfl
def Q_rmMk4 (n0 : Nat) (Z : State) (cS : Int32) (d0 : Int32) (d1 : Int32) (d2 : Int32) (d3 : Int32) (d4 : Int32) (h0 : Heap) (v : Option Value) (h : Heap) (L : List Loc) : Prop := ∃ b : Addr, ∃ bv : Addr, ∃ kb : ClassId, v = some (.ref b) ∧ Fr n0 L ∧ Keep h0 h [] ∧ (Exa Z h b "java/lang/String") ∧ (Fld Z h b "java/lang/String" "value" "[B" (.ref bv)) ∧ (Fld Z h b "java/lang/String" "coder" "B" (.int 0)) ∧ (Arv Z h bv kb .byte (4 : Int32) [(.int (d0.toInt8.toInt32)), (.int (d1.toInt8.toInt32)), (.int (d2.toInt8.toInt32)), (.int (d3.toInt8.toInt32))] (.int 0))
set_option maxRecDepth 65536 in
set_option maxHeartbeats 40000000 in
theorem rmMk4 (l : Launch) (Z : State) (a0 : Array Value) (hw : ∀ d ∈ tables_1, d.before a0 Z = true) (ws : List Jvm.Cond) (cS : Int32) (d0 : Int32) (d1 : Int32) (d2 : Int32) (d3 : Int32) (d4 : Int32) (h0 : Heap) (n0 : Nat) (O0 : Old Z n0 h0) (GL : GF Z cS) (hl0 : ¬ ((255 : Int32) < d0)) (hl1 : ¬ ((255 : Int32) < d1)) (hl2 : ¬ ((255 : Int32) < d2)) (hl3 : ¬ ((255 : Int32) < d3)) (hl4 : ¬ ((255 : Int32) < d4)) (hn0 : nar .char d0 = d0) (hn1 : nar .char d1 = d1) (hn2 : nar .char d2 = d2) (hn3 : nar .char d3 = d3) (hn4 : nar .char d4 = d4) :
    MetFree l MN_6 (head1 (Jvm.Cond.code MN_6 method_3_code 6 (some (.object "java/lang/String")) :: ws) ({ frames := 4, cells := 3, slots := 12, locals := 66 } : Room)) (fun a U => a = #[(.int 4), (.int d0), (.int d1), (.int d2), (.int d3), (.int d4)] ∧ Z.Warmed39 U.vm ∧ U.heap = h0) (fun _ _ _ _ _ => True) (fun _ U o U' => ∃ v L, o = .returned v ∧ Q_rmMk4 n0 Z cS d0 d1 d2 d3 d4 h0 v U'.heap L ∧ FrameEnd U o U' L ({ frames := 4, cells := 3, slots := 12, locals := 66 } : Room).cells ({ frames := 4, cells := 3, slots := 12, locals := 66 } : Room).slots) := by
  refine MetFree.of_bodySF (plainFor_of_name pnv2) hisR ?_
  intro p e s m args below meth c s₁ Bd hml0 hP hK
  obtain ⟨rfl, hZ, hh⟩ := hP
  have hx := Bd.exec
  have hby := Bd.bytes
  have hml : c.maxLocals = 6 := hml0
  have hown : s.vm.findClass "com/example/loomwire/loomwire/bundle/BundleContentIsBundleFilePinLaw" = some m.cls := findClass_of_methodNamed Bd.named
  have hnm := (name_of_methodNamed Bd.named Bd.method).1
  have X0 : Stand p l e ({ frames := 4, cells := 3, slots := 12, locals := 66 } : Room) s m #[(.int 4), (.int d0), (.int d1), (.int d2), (.int d3), (.int d4)] below meth c s₁ [] 0 0 := Stand.of_body Bd
  have e0 : s₁.heap = h0 := by rw [← hh, Bd.state]; rfl
  have N0 := Fr.nil n0
  have pre0 : ∀ t, Steps p.tables e below (s₁.setTop (mkF m 0 #[.val (.int 4), .val (.int d0), .val (.int d1), .val (.int d2), .val (.int d3), .val (.int d4)] [])) t → Steps p.tables e below (s₁.setTop (entryFrame m #[(.int 4), (.int d0), (.int d1), (.int d2), (.int d3), (.int d4)] 6)) t := fun t k => castTop (ef_rmMk4 m d0 d1 d2 d3 d4) k
  have GL' := GL
  obtain ⟨GCS, GCP⟩ := GL'
  obtain ⟨T1, h1, X1, e1, E1, A1, D1, -, st1⟩ := newO X0 hx hZ hown (Wd hw 9 rfl) (Wd hw 10 rfl) (Wd hw 11 rfl) e0 (g := (mkF m 92 #[.val (.int 4), .val (.int d0), .val (.int d1), .val (.int d2), .val (.int d3), .val (.int d4)] [])) rfl (hb hby d2_92) (by decide) (by decide)
  obtain ⟨b1, g1⟩ : ∃ z, z = h0.size := ⟨_, rfl⟩
  rw [← g1] at A1 D1 st1
  have g_b1 : n0 ≤ b1 := Nat.le_trans (own_sz O0) (Nat.le_of_eq g1.symm)
  have sz_b1 : h0.size ≤ b1 := Nat.le_trans (Keep.refl h0 []).1 (Nat.le_of_eq g1.symm)
  have K1 : Keep h0 h1 [] := (Keep.refl h0 []).ext E1
  have O1 := O0.ext E1
  have F_value_b1 : Fld Z h1 b1 "java/lang/String" "value" "[B" .null := D1 (Or.inr (Wd hw 24 rfl)) (ty := (.array .byte)) (by decide)
  have F_coder_b1 : Fld Z h1 b1 "java/lang/String" "coder" "B" (.int 0) := D1 (Or.inr (Wd hw 25 rfl)) (ty := .byte) (by decide)
  obtain ⟨T2, h2, k2, X2, e2, E2, A2, A2', st2⟩ := newPE X1 hx hZ (Wd hw 5 rfl) e1 (g := (mkF m 97 #[.val (.int 4), .val (.int d0), .val (.int d1), .val (.int d2), .val (.int d3), .val (.int d4)] [(.int 4), (.ref b1), (.ref b1)])) rfl (hb hby d2_97) rfl (by decide) (cap := 4) (by decide) (by decide) (by decide) (by decide) (ad := "[C") rfl
  obtain ⟨b2, g2⟩ : ∃ z, z = h1.size := ⟨_, rfl⟩
  rw [← g2] at A2 A2' st2
  have g_b2 : n0 ≤ b2 := Nat.le_trans (own_sz O1) (Nat.le_of_eq g2.symm)
  have sz_b2 : h0.size ≤ b2 := Nat.le_trans K1.1 (Nat.le_of_eq g2.symm)
  have K2 : Keep h0 h2 [] := K1.ext E2
  have O2 := O1.ext E2
  have V_b2 : Arv Z h2 b2 k2 .char (4 : Int32) [(.int 0), (.int 0), (.int 0), (.int 0)] (.int 0) := (Arv.new A2 (by decide)).pad (pad_rep [] (.int 0) 4)
  obtain ⟨cl3, Ar3, q3, S3, N3_, H3, G3⟩ := id (V_b2)
  have hin3 : ¬ ((0 : Int32) < 0 ∨ cl3.slots.size ≤ ((0 : Int32)).toNatClampNeg) := inb_of S3 ⟨(by decide), (by decide)⟩
  obtain ⟨T3, h3, X3, e3, W3, st3⟩ := stC X2 hx hZ e2 Ar3 (j := (0 : Int32)) hin3 (g := (mkF m 102 #[.val (.int 4), .val (.int d0), .val (.int d1), .val (.int d2), .val (.int d3), .val (.int d4)] [(.int d0), (.int 0), (.ref b2), (.ref b2), (.ref b1), (.ref b1)])) rfl rfl (hb hby d2_102)
  have K3 : Keep h0 h3 [] := K2.wr W3 (Or.inr sz_b2)
  have O3 := O2.wr W3 g_b2
  have N3 := Fr.snoc X3 N0 g_b2
  have V3' : Arv Z h3 b2 k2 .char (4 : Int32) [(.int (nar .char d0)), (.int 0), (.int 0), (.int 0)] (.int 0) := Arv.set Ar3 q3 S3 N3_ H3 G3 (fits_nar_char _) W3 0 rfl (Nat.le_of_ble_eq_true rfl)
  have V3 : Arv Z h3 b2 k2 .char (4 : Int32) [(.int d0), (.int 0), (.int 0), (.int 0)] (.int 0) := by
    rw [hn0] at V3'
    exact V3'
  obtain ⟨cl4, Ar4, q4, S4, N4_, H4, G4⟩ := id (V3)
  have hin4 : ¬ ((1 : Int32) < 0 ∨ cl4.slots.size ≤ ((1 : Int32)).toNatClampNeg) := inb_of S4 ⟨(by decide), (by decide)⟩
  obtain ⟨T4, h4, X4, e4, W4, st4⟩ := stC X3 hx hZ e3 Ar4 (j := (1 : Int32)) hin4 (g := (mkF m 106 #[.val (.int 4), .val (.int d0), .val (.int d1), .val (.int d2), .val (.int d3), .val (.int d4)] [(.int d1), (.int 1), (.ref b2), (.ref b2), (.ref b1), (.ref b1)])) rfl rfl (hb hby d2_106)
  have K4 : Keep h0 h4 [] := K3.wr W4 (Or.inr sz_b2)
  have O4 := O3.wr W4 g_b2
  have N4 := Fr.snoc X4 N3 g_b2
  have V4' : Arv Z h4 b2 k2 .char (4 : Int32) [(.int d0), (.int (nar .char d1)), (.int 0), (.int 0)] (.int 0) := Arv.set Ar4 q4 S4 N4_ H4 G4 (fits_nar_char _) W4 1 rfl (Nat.le_of_ble_eq_true rfl)
  have V4 : Arv Z h4 b2 k2 .char (4 : Int32) [(.int d0), (.int d1), (.int 0), (.int 0)] (.int 0) := by
    rw [hn1] at V4'
    exact V4'
  obtain ⟨cl5, Ar5, q5, S5, N5_, H5, G5⟩ := id (V4)
  have hin5 : ¬ ((2 : Int32) < 0 ∨ cl5.slots.size ≤ ((2 : Int32)).toNatClampNeg) := inb_of S5 ⟨(by decide), (by decide)⟩
  obtain ⟨T5, h5, X5, e5, W5, st5⟩ := stC X4 hx hZ e4 Ar5 (j := (2 : Int32)) hin5 (g := (mkF m 110 #[.val (.int 4), .val (.int d0), .val (.int d1), .val (.int d2), .val (.int d3), .val (.int d4)] [(.int d2), (.int 2), (.ref b2), (.ref b2), (.ref b1), (.ref b1)])) rfl rfl (hb hby d2_110)
  have K5 : Keep h0 h5 [] := K4.wr W5 (Or.inr sz_b2)
  have O5 := O4.wr W5 g_b2
  have N5 := Fr.snoc X5 N4 g_b2
  have V5' : Arv Z h5 b2 k2 .char (4 : Int32) [(.int d0), (.int d1), (.int (nar .char d2)), (.int 0)] (.int 0) := Arv.set Ar5 q5 S5 N5_ H5 G5 (fits_nar_char _) W5 2 rfl (Nat.le_of_ble_eq_true rfl)
  have V5 : Arv Z h5 b2 k2 .char (4 : Int32) [(.int d0), (.int d1), (.int d2), (.int 0)] (.int 0) := by
    rw [hn2] at V5'
    exact V5'
  obtain ⟨cl6, Ar6, q6, S6, N6_, H6, G6⟩ := id (V5)
  have hin6 : ¬ ((3 : Int32) < 0 ∨ cl6.slots.size ≤ ((3 : Int32)).toNatClampNeg) := inb_of S6 ⟨(by decide), (by decide)⟩
  obtain ⟨T6, h6, X6, e6, W6, st6⟩ := stC X5 hx hZ e5 Ar6 (j := (3 : Int32)) hin6 (g := (mkF m 115 #[.val (.int 4), .val (.int d0), .val (.int d1), .val (.int d2), .val (.int d3), .val (.int d4)] [(.int d3), (.int 3), (.ref b2), (.ref b2), (.ref b1), (.ref b1)])) rfl rfl (hb hby d2_115)
  have K6 : Keep h0 h6 [] := K5.wr W6 (Or.inr sz_b2)
  have O6 := O5.wr W6 g_b2
  have N6 := Fr.snoc X6 N5 g_b2
  have V6' : Arv Z h6 b2 k2 .char (4 : Int32) [(.int d0), (.int d1), (.int d2), (.int (nar .char d3))] (.int 0) := Arv.set Ar6 q6 S6 N6_ H6 G6 (fits_nar_char _) W6 3 rfl (Nat.le_of_ble_eq_true rfl)
  have V6 : Arv Z h6 b2 k2 .char (4 : Int32) [(.int d0), (.int d1), (.int d2), (.int d3)] (.int 0) := by
    rw [hn3] at V6'
    exact V6'
  obtain ⟨_, _, ⟨T7, L7, k7, n7⟩, -, X7, ⟨Lc7, hQ7, l7, y7, z7⟩, st7⟩ := X6.specialBack hx (y := MN_4) rfl hown (mvT hZ (Wd hw 12 rfl)) (mvT hZ (Wd hw 13 rfl)) (mvT hZ (Wd hw 14 rfl)) (by decide) (backOf (W := 1) (rmIc_4 l Z a0 hw [] cS (b1) (b2) (k2) (d0) (d1) (d2) (d3) (h6) n0 O6 GL (((((A1.ext E2).wr W3).wr W4).wr W5).wr W6) (((((F_value_b1.ext E2).other W3 (Or.inl (Nat.ne_of_lt (Nat.lt_of_lt_of_le A1.lt (Nat.le_of_eq g2.symm))))).other W4 (Or.inl (Nat.ne_of_lt (Nat.lt_of_lt_of_le A1.lt (Nat.le_of_eq g2.symm))))).other W5 (Or.inl (Nat.ne_of_lt (Nat.lt_of_lt_of_le A1.lt (Nat.le_of_eq g2.symm))))).other W6 (Or.inl (Nat.ne_of_lt (Nat.lt_of_lt_of_le A1.lt (Nat.le_of_eq g2.symm))))) (((((F_coder_b1.ext E2).other W3 (Or.inl (Nat.ne_of_lt (Nat.lt_of_lt_of_le A1.lt (Nat.le_of_eq g2.symm))))).other W4 (Or.inl (Nat.ne_of_lt (Nat.lt_of_lt_of_le A1.lt (Nat.le_of_eq g2.symm))))).other W5 (Or.inl (Nat.ne_of_lt (Nat.lt_of_lt_of_le A1.lt (Nat.le_of_eq g2.symm))))).other W6 (Or.inl (Nat.ne_of_lt (Nat.lt_of_lt_of_le A1.lt (Nat.le_of_eq g2.symm))))) g_b1 V6 hl0 hl1 hl2 hl3) hZ (Wd hw 14 rfl) (Wd hw 11 rfl) (by decide) (by decide)) (g := (mkF m 116 #[.val (.int 4), .val (.int d0), .val (.int d1), .val (.int d2), .val (.int d3), .val (.int d4)] [(.ref b2), (.ref b1), (.ref b1)])) rfl (by rw [hml]; rfl) (Steps.refl _) (a := b1) (argsL := [(.ref b2)]) (rest := [(.ref b1)]) (lenOf pdv4 rfl) rfl (by show 2 * 0 + _ ≤ _; exact Nat.le_of_eq rfl) (hb hby d2_116) (fun _ _ => ⟨rfl, e6, (by decide : 2 + 1 ≤ _), (by decide : 8 + 4 ≤ _)⟩)
  dsimp only [Pt.U, Pt.locs, Pt.cells, Pt.slots] at X7 l7 y7 z7 st7 hQ7
  subst l7 y7 z7
  obtain ⟨b_7, kb_7, rfl, N7q, Kc7, P7_0, P7_1, P7_2, P7_3, P7_4, P7_5⟩ := hQ7
  have K7 : Keep h0 T7.heap [] := K6.trans Kc7 (allS (Or.inr sz_b1) all0)
  have O7 := O6.keep Kc7 (allS g_b1 all0)
  have g_b_7 : n0 ≤ b_7 := Nat.le_trans (own_sz O6) P7_0
  have sz_b_7 : h0.size ≤ b_7 := Nat.le_trans K6.1 P7_0
  have N7 := Fr.app N6 N7q
  obtain ⟨fs, hr, hrun, hended, hW, hsame⟩ := X7.leave (v := some (.ref b1)) (fun h => by rw [Bd.returns] at h; cases h)
  refine ⟨_, _, pre0 _ ?_, hrun, hended, _, _, rfl, ?_, ⟨_, rfl⟩, hW, hsame.mono (by decide) (by decide)⟩
  · show Steps p.tables e below (s₁.setTop (mkF m 0 #[.val (.int 4), .val (.int d0), .val (.int d1), .val (.int d2), .val (.int d3), .val (.int d4)] [])) _
    refine XS.iloadN X0.here hx rfl (hb hby d2_0) rfl ?_
    refine XS.ifYes X0.here hx rfl (pc0 := 1) (pc' := 15) rfl (hb hby d2_1) rfl ((if0 _ _).trans (feq (by decide : ¬ ((4 : Int32) = (0 : Int32)))).2) (by decide) (by decide) ?_
    refine XS.iloadN X0.here hx rfl (hb hby d2_15) rfl ?_
    refine XS.iconst X0.here hx rfl (hb hby d2_16) ?_
    show Steps p.tables e below (s₁.setTop (mkF m 17 #[.val (.int 4), .val (.int d0), .val (.int d1), .val (.int d2), .val (.int d3), .val (.int d4)] [(.int 1), (.int 4)])) _
    refine XS.icmpYes X0.here hx rfl (pc0 := 17) (pc' := 35) rfl (hb hby d2_17) rfl (feq (by decide : ¬ ((4 : Int32) = (1 : Int32)))).2 (by decide) (by decide) ?_
    refine XS.iloadN X0.here hx rfl (hb hby d2_35) rfl ?_
    refine XS.iconst X0.here hx rfl (hb hby d2_36) ?_
    refine XS.icmpYes X0.here hx rfl (pc0 := 37) (pc' := 59) rfl (hb hby d2_37) rfl (feq (by decide : ¬ ((4 : Int32) = (2 : Int32)))).2 (by decide) (by decide) ?_
    show Steps p.tables e below (s₁.setTop (mkF m 59 #[.val (.int 4), .val (.int d0), .val (.int d1), .val (.int d2), .val (.int d3), .val (.int d4)] [])) _
    refine XS.iloadN X0.here hx rfl (hb hby d2_59) rfl ?_
    refine XS.iconst X0.here hx rfl (hb hby d2_60) ?_
    refine XS.icmpYes X0.here hx rfl (pc0 := 61) (pc' := 87) rfl (hb hby d2_61) rfl (feq (by decide : ¬ ((4 : Int32) = (3 : Int32)))).2 (by decide) (by decide) ?_
    refine XS.iloadN X0.here hx rfl (hb hby d2_87) rfl ?_
    show Steps p.tables e below (s₁.setTop (mkF m 88 #[.val (.int 4), .val (.int d0), .val (.int d1), .val (.int d2), .val (.int d3), .val (.int d4)] [(.int 4)])) _
    refine XS.iconst X0.here hx rfl (hb hby d2_88) ?_
    refine XS.icmpNo X0.here hx rfl (hb hby d2_89) rfl (teq (by decide : (4 : Int32) = (4 : Int32))).2 ?_
    show Steps p.tables e below (s₁.setTop (mkF m 92 #[.val (.int 4), .val (.int d0), .val (.int d1), .val (.int d2), .val (.int d3), .val (.int d4)] [])) _
    refine st1 _ ?_
    show Steps p.tables e below (T1.setTop (mkF m 95 #[.val (.int 4), .val (.int d0), .val (.int d1), .val (.int d2), .val (.int d3), .val (.int d4)] [(.ref b1)])) _
    refine XS.dup X1.here hx rfl (hb hby d2_95) rfl rfl ?_
    refine XS.iconst X1.here hx rfl (hb hby d2_96) ?_
    show Steps p.tables e below (T1.setTop (mkF m 97 #[.val (.int 4), .val (.int d0), .val (.int d1), .val (.int d2), .val (.int d3), .val (.int d4)] [(.int 4), (.ref b1), (.ref b1)])) _
    refine st2 _ ?_
    show Steps p.tables e below (T2.setTop (mkF m 99 #[.val (.int 4), .val (.int d0), .val (.int d1), .val (.int d2), .val (.int d3), .val (.int d4)] [(.ref b2), (.ref b1), (.ref b1)])) _
    refine XS.dup X2.here hx rfl (hb hby d2_99) rfl rfl ?_
    refine XS.iconst X2.here hx rfl (hb hby d2_100) ?_
    refine XS.iloadN X2.here hx rfl (hb hby d2_101) rfl ?_
    show Steps p.tables e below (T2.setTop (mkF m 102 #[.val (.int 4), .val (.int d0), .val (.int d1), .val (.int d2), .val (.int d3), .val (.int d4)] [(.int d0), (.int 0), (.ref b2), (.ref b2), (.ref b1), (.ref b1)])) _
    refine st3 _ ?_
    show Steps p.tables e below (T3.setTop (mkF m 103 #[.val (.int 4), .val (.int d0), .val (.int d1), .val (.int d2), .val (.int d3), .val (.int d4)] [(.ref b2), (.ref b1), (.ref b1)])) _
    refine XS.dup X3.here hx rfl (hb hby d2_103) rfl rfl ?_
    refine XS.iconst X3.here hx rfl (hb hby d2_104) ?_
    refine XS.iloadN X3.here hx rfl (hb hby d2_105) rfl ?_
    show Steps p.tables e below (T3.setTop (mkF m 106 #[.val (.int 4), .val (.int d0), .val (.int d1), .val (.int d2), .val (.int d3), .val (.int d4)] [(.int d1), (.int 1), (.ref b2), (.ref b2), (.ref b1), (.ref b1)])) _
    refine st4 _ ?_
    show Steps p.tables e below (T4.setTop (mkF m 107 #[.val (.int 4), .val (.int d0), .val (.int d1), .val (.int d2), .val (.int d3), .val (.int d4)] [(.ref b2), (.ref b1), (.ref b1)])) _
    refine XS.dup X4.here hx rfl (hb hby d2_107) rfl rfl ?_
    refine XS.iconst X4.here hx rfl (hb hby d2_108) ?_
    refine XS.iloadN X4.here hx rfl (hb hby d2_109) rfl ?_
    show Steps p.tables e below (T4.setTop (mkF m 110 #[.val (.int 4), .val (.int d0), .val (.int d1), .val (.int d2), .val (.int d3), .val (.int d4)] [(.int d2), (.int 2), (.ref b2), (.ref b2), (.ref b1), (.ref b1)])) _
    refine st5 _ ?_
    show Steps p.tables e below (T5.setTop (mkF m 111 #[.val (.int 4), .val (.int d0), .val (.int d1), .val (.int d2), .val (.int d3), .val (.int d4)] [(.ref b2), (.ref b1), (.ref b1)])) _
    refine XS.dup X5.here hx rfl (hb hby d2_111) rfl rfl ?_
    refine XS.iconst X5.here hx rfl (hb hby d2_112) ?_
    refine XS.iload X5.here hx rfl (hb hby d2_113) rfl ?_
    show Steps p.tables e below (T5.setTop (mkF m 115 #[.val (.int 4), .val (.int d0), .val (.int d1), .val (.int d2), .val (.int d3), .val (.int d4)] [(.int d3), (.int 3), (.ref b2), (.ref b2), (.ref b1), (.ref b1)])) _
    refine st6 _ ?_
    show Steps p.tables e below (T6.setTop (mkF m 116 #[.val (.int 4), .val (.int d0), .val (.int d1), .val (.int d2), .val (.int d3), .val (.int d4)] [(.ref b2), (.ref b1), (.ref b1)])) _
    refine st7.trans ?_
    show Steps p.tables e below (T7.setTop (mkF m 119 #[.val (.int 4), .val (.int d0), .val (.int d1), .val (.int d2), .val (.int d3), .val (.int d4)] [(.ref b1)])) _
    jvm_step X7.here [X7.here.top, hx, (hb hby d2_119), X7.method', Bd.returns, Value.isRef, FieldType.isReference]
    first | (intro acts; rw [hr _ acts rfl rfl rfl]) | rw [hr _ _ rfl rfl rfl]
    exact Steps.refl _
  · show Q_rmMk4 n0 Z cS d0 d1 d2 d3 d4 h0 _ T7.heap _
    exact ⟨b1, b_7, kb_7, rfl, N7, K7, P7_2, P7_3, P7_4, P7_5⟩
theorem d2_120 : decode method_3_code 120 = .ok (.new 7, 3) := by decide +kernel
theorem d2_123 : decode method_3_code 123 = .ok (.dup, 1) := by decide +kernel
theorem d2_124 : decode method_3_code 124 = .ok (.iconst 5, 1) := by decide +kernel
theorem d2_125 : decode method_3_code 125 = .ok (.newarray .char, 2) := by decide +kernel
theorem d2_127 : decode method_3_code 127 = .ok (.dup, 1) := by decide +kernel
theorem d2_128 : decode method_3_code 128 = .ok (.iconst 0, 1) := by decide +kernel
theorem d2_129 : decode method_3_code 129 = .ok (.iload_n 1, 1) := by decide +kernel
theorem d2_130 : decode method_3_code 130 = .ok (.castore, 1) := by decide +kernel
theorem d2_131 : decode method_3_code 131 = .ok (.dup, 1) := by decide +kernel
theorem d2_132 : decode method_3_code 132 = .ok (.iconst 1, 1) := by decide +kernel
theorem d2_133 : decode method_3_code 133 = .ok (.iload_n 2, 1) := by decide +kernel
theorem d2_134 : decode method_3_code 134 = .ok (.castore, 1) := by decide +kernel
theorem d2_135 : decode method_3_code 135 = .ok (.dup, 1) := by decide +kernel
theorem d2_136 : decode method_3_code 136 = .ok (.iconst 2, 1) := by decide +kernel
theorem d2_137 : decode method_3_code 137 = .ok (.iload_n 3, 1) := by decide +kernel
theorem d2_138 : decode method_3_code 138 = .ok (.castore, 1) := by decide +kernel
theorem d2_139 : decode method_3_code 139 = .ok (.dup, 1) := by decide +kernel
theorem d2_140 : decode method_3_code 140 = .ok (.iconst 3, 1) := by decide +kernel
theorem d2_141 : decode method_3_code 141 = .ok (.iload 4, 2) := by decide +kernel
theorem d2_143 : decode method_3_code 143 = .ok (.castore, 1) := by decide +kernel
theorem d2_144 : decode method_3_code 144 = .ok (.dup, 1) := by decide +kernel
theorem d2_145 : decode method_3_code 145 = .ok (.iconst 4, 1) := by decide +kernel
theorem d2_146 : decode method_3_code 146 = .ok (.iload 5, 2) := by decide +kernel
theorem d2_148 : decode method_3_code 148 = .ok (.castore, 1) := by decide +kernel
theorem d2_149 : decode method_3_code 149 = .ok (.invokespecial 9, 3) := by decide +kernel
theorem d2_152 : decode method_3_code 152 = .ok (.areturn, 1) := by decide +kernel
theorem ef_rmMk5 (m : MethodId) (d0 : Int32) (d1 : Int32) (d2 : Int32) (d3 : Int32) (d4 : Int32) : entryFrame m #[(.int 5), (.int d0), (.int d1), (.int d2), (.int d3), (.int d4)] 6 = mkF m 0 #[.val (.int 5), .val (.int d0), .val (.int d1), .val (.int d2), .val (.int d3), .val (.int d4)] [] := by first | (simp [entryFrame, mkF, argsToLocals, Value.category]; done) | rfl
def Q_rmMk5 (n0 : Nat) (Z : State) (cS : Int32) (d0 : Int32) (d1 : Int32) (d2 : Int32) (d3 : Int32) (d4 : Int32) (h0 : Heap) (v : Option Value) (h : Heap) (L : List Loc) : Prop := ∃ b : Addr, ∃ bv : Addr, ∃ kb : ClassId, v = some (.ref b) ∧ Fr n0 L ∧ Keep h0 h [] ∧ (Exa Z h b "java/lang/String") ∧ (Fld Z h b "java/lang/String" "value" "[B" (.ref bv)) ∧ (Fld Z h b "java/lang/String" "coder" "B" (.int 0)) ∧ (Arv Z h bv kb .byte (5 : Int32) [(.int (d0.toInt8.toInt32)), (.int (d1.toInt8.toInt32)), (.int (d2.toInt8.toInt32)), (.int (d3.toInt8.toInt32)), (.int (d4.toInt8.toInt32))] (.int 0))
set_option maxRecDepth 65536 in
set_option maxHeartbeats 40000000 in
theorem rmMk5 (l : Launch) (Z : State) (a0 : Array Value) (hw : ∀ d ∈ tables_1, d.before a0 Z = true) (ws : List Jvm.Cond) (cS : Int32) (d0 : Int32) (d1 : Int32) (d2 : Int32) (d3 : Int32) (d4 : Int32) (h0 : Heap) (n0 : Nat) (O0 : Old Z n0 h0) (GL : GF Z cS) (hl0 : ¬ ((255 : Int32) < d0)) (hl1 : ¬ ((255 : Int32) < d1)) (hl2 : ¬ ((255 : Int32) < d2)) (hl3 : ¬ ((255 : Int32) < d3)) (hl4 : ¬ ((255 : Int32) < d4)) (hn0 : nar .char d0 = d0) (hn1 : nar .char d1 = d1) (hn2 : nar .char d2 = d2) (hn3 : nar .char d3 = d3) (hn4 : nar .char d4 = d4) :
    MetFree l MN_6 (head1 (Jvm.Cond.code MN_6 method_3_code 6 (some (.object "java/lang/String")) :: ws) ({ frames := 4, cells := 3, slots := 14, locals := 66 } : Room)) (fun a U => a = #[(.int 5), (.int d0), (.int d1), (.int d2), (.int d3), (.int d4)] ∧ Z.Warmed39 U.vm ∧ U.heap = h0) (fun _ _ _ _ _ => True) (fun _ U o U' => ∃ v L, o = .returned v ∧ Q_rmMk5 n0 Z cS d0 d1 d2 d3 d4 h0 v U'.heap L ∧ FrameEnd U o U' L ({ frames := 4, cells := 3, slots := 14, locals := 66 } : Room).cells ({ frames := 4, cells := 3, slots := 14, locals := 66 } : Room).slots) := by
  refine MetFree.of_bodySF (plainFor_of_name pnv2) hisR ?_
  intro p e s m args below meth c s₁ Bd hml0 hP hK
  obtain ⟨rfl, hZ, hh⟩ := hP
  have hx := Bd.exec
  have hby := Bd.bytes
  have hml : c.maxLocals = 6 := hml0
  have hown : s.vm.findClass "com/example/loomwire/loomwire/bundle/BundleContentIsBundleFilePinLaw" = some m.cls := findClass_of_methodNamed Bd.named
  have hnm := (name_of_methodNamed Bd.named Bd.method).1
  have X0 : Stand p l e ({ frames := 4, cells := 3, slots := 14, locals := 66 } : Room) s m #[(.int 5), (.int d0), (.int d1), (.int d2), (.int d3), (.int d4)] below meth c s₁ [] 0 0 := Stand.of_body Bd
  have e0 : s₁.heap = h0 := by rw [← hh, Bd.state]; rfl
  have N0 := Fr.nil n0
  have pre0 : ∀ t, Steps p.tables e below (s₁.setTop (mkF m 0 #[.val (.int 5), .val (.int d0), .val (.int d1), .val (.int d2), .val (.int d3), .val (.int d4)] [])) t → Steps p.tables e below (s₁.setTop (entryFrame m #[(.int 5), (.int d0), (.int d1), (.int d2), (.int d3), (.int d4)] 6)) t := fun t k => castTop (ef_rmMk5 m d0 d1 d2 d3 d4) k
  have GL' := GL
  obtain ⟨GCS, GCP⟩ := GL'
  obtain ⟨T1, h1, X1, e1, E1, A1, D1, -, st1⟩ := newO X0 hx hZ hown (Wd hw 9 rfl) (Wd hw 10 rfl) (Wd hw 11 rfl) e0 (g := (mkF m 120 #[.val (.int 5), .val (.int d0), .val (.int d1), .val (.int d2), .val (.int d3), .val (.int d4)] [])) rfl (hb hby d2_120) (by decide) (by decide)
  obtain ⟨b1, g1⟩ : ∃ z, z = h0.size := ⟨_, rfl⟩
  rw [← g1] at A1 D1 st1
  have g_b1 : n0 ≤ b1 := Nat.le_trans (own_sz O0) (Nat.le_of_eq g1.symm)
  have sz_b1 : h0.size ≤ b1 := Nat.le_trans (Keep.refl h0 []).1 (Nat.le_of_eq g1.symm)
  have K1 : Keep h0 h1 [] := (Keep.refl h0 []).ext E1
  have O1 := O0.ext E1
  have F_value_b1 : Fld Z h1 b1 "java/lang/String" "value" "[B" .null := D1 (Or.inr (Wd hw 24 rfl)) (ty := (.array .byte)) (by decide)
  have F_coder_b1 : Fld Z h1 b1 "java/lang/String" "coder" "B" (.int 0) := D1 (Or.inr (Wd hw 25 rfl)) (ty := .byte) (by decide)
  obtain ⟨T2, h2, k2, X2, e2, E2, A2, A2', st2⟩ := newPE X1 hx hZ (Wd hw 5 rfl) e1 (g := (mkF m 125 #[.val (.int 5), .val (.int d0), .val (.int d1), .val (.int d2), .val (.int d3), .val (.int d4)] [(.int 5), (.ref b1), (.ref b1)])) rfl (hb hby d2_125) rfl (by decide) (cap := 5) (by decide) (by decide) (by decide) (by decide) (ad := "[C") rfl
  obtain ⟨b2, g2⟩ : ∃ z, z = h1.size := ⟨_, rfl⟩
  rw [← g2] at A2 A2' st2
  have g_b2 : n0 ≤ b2 := Nat.le_trans (own_sz O1) (Nat.le_of_eq g2.symm)
  have sz_b2 : h0.size ≤ b2 := Nat.le_trans K1.1 (Nat.le_of_eq g2.symm)
  have K2 : Keep h0 h2 [] := K1.ext E2
  have O2 := O1.ext E2
  have V_b2 : Arv Z h2 b2 k2 .char (5 : Int32) [(.int 0), (.int 0), (.int 0), (.int 0), (.int 0)] (.int 0) := (Arv.new A2 (by decide)).pad (pad_rep [] (.int 0) 5)
  obtain ⟨cl3, Ar3, q3, S3, N3_, H3, G3⟩ := id (V_b2)
  have hin3 : ¬ ((0 : Int32) < 0 ∨ cl3.slots.size ≤ ((0 : Int32)).toNatClampNeg) := inb_of S3 ⟨(by decide), (by decide)⟩
  obtain ⟨T3, h3, X3, e3, W3, st3⟩ := stC X2 hx hZ e2 Ar3 (j := (0 : Int32)) hin3 (g := (mkF m 130 #[.val (.int 5), .val (.int d0), .val (.int d1), .val (.int d2), .val (.int d3), .val (.int d4)] [(.int d0), (.int 0), (.ref b2), (.ref b2), (.ref b1), (.ref b1)])) rfl rfl (hb hby d2_130)
  have K3 : Keep h0 h3 [] := K2.wr W3 (Or.inr sz_b2)
  have O3 := O2.wr W3 g_b2
  have N3 := Fr.snoc X3 N0 g_b2
  have V3' : Arv Z h3 b2 k2 .char (5 : Int32) [(.int (nar .char d0)), (.int 0), (.int 0), (.int 0), (.int 0)] (.int 0) := Arv.set Ar3 q3 S3 N3_ H3 G3 (fits_nar_char _) W3 0 rfl (Nat.le_of_ble_eq_true rfl)
  have V3 : Arv Z h3 b2 k2 .char (5 : Int32) [(.int d0), (.int 0), (.int 0), (.int 0), (.int 0)] (.int 0) := by
    rw [hn0] at V3'
    exact V3'
  obtain ⟨cl4, Ar4, q4, S4, N4_, H4, G4⟩ := id (V3)
  have hin4 : ¬ ((1 : Int32) < 0 ∨ cl4.slots.size ≤ ((1 : Int32)).toNatClampNeg) := inb_of S4 ⟨(by decide), (by decide)⟩
  obtain ⟨T4, h4, X4, e4, W4, st4⟩ := stC X3 hx hZ e3 Ar4 (j := (1 : Int32)) hin4 (g := (mkF m 134 #[.val (.int 5), .val (.int d0), .val (.int d1), .val (.int d2), .val (.int d3), .val (.int d4)] [(.int d1), (.int 1), (.ref b2), (.ref b2), (.ref b1), (.ref b1)])) rfl rfl (hb hby d2_134)
  have K4 : Keep h0 h4 [] := K3.wr W4 (Or.inr sz_b2)
  have O4 := O3.wr W4 g_b2
  have N4 := Fr.snoc X4 N3 g_b2
  have V4' : Arv Z h4 b2 k2 .char (5 : Int32) [(.int d0), (.int (nar .char d1)), (.int 0), (.int 0), (.int 0)] (.int 0) := Arv.set Ar4 q4 S4 N4_ H4 G4 (fits_nar_char _) W4 1 rfl (Nat.le_of_ble_eq_true rfl)
  have V4 : Arv Z h4 b2 k2 .char (5 : Int32) [(.int d0), (.int d1), (.int 0), (.int 0), (.int 0)] (.int 0) := by
    rw [hn1] at V4'
    exact V4'
  obtain ⟨cl5, Ar5, q5, S5, N5_, H5, G5⟩ := id (V4)
  have hin5 : ¬ ((2 : Int32) < 0 ∨ cl5.slots.size ≤ ((2 : Int32)).toNatClampNeg) := inb_of S5 ⟨(by decide), (by decide)⟩
  obtain ⟨T5, h5, X5, e5, W5, st5⟩ := stC X4 hx hZ e4 Ar5 (j := (2 : Int32)) hin5 (g := (mkF m 138 #[.val (.int 5), .val (.int d0), .val (.int d1), .val (.int d2), .val (.int d3), .val (.int d4)] [(.int d2), (.int 2), (.ref b2), (.ref b2), (.ref b1), (.ref b1)])) rfl rfl (hb hby d2_138)
  have K5 : Keep h0 h5 [] := K4.wr W5 (Or.inr sz_b2)
  have O5 := O4.wr W5 g_b2
  have N5 := Fr.snoc X5 N4 g_b2
  have V5' : Arv Z h5 b2 k2 .char (5 : Int32) [(.int d0), (.int d1), (.int (nar .char d2)), (.int 0), (.int 0)] (.int 0) := Arv.set Ar5 q5 S5 N5_ H5 G5 (fits_nar_char _) W5 2 rfl (Nat.le_of_ble_eq_true rfl)
  have V5 : Arv Z h5 b2 k2 .char (5 : Int32) [(.int d0), (.int d1), (.int d2), (.int 0), (.int 0)] (.int 0) := by
    rw [hn2] at V5'
    exact V5'
  obtain ⟨cl6, Ar6, q6, S6, N6_, H6, G6⟩ := id (V5)
  have hin6 : ¬ ((3 : Int32) < 0 ∨ cl6.slots.size ≤ ((3 : Int32)).toNatClampNeg) := inb_of S6 ⟨(by decide), (by decide)⟩
  obtain ⟨T6, h6, X6, e6, W6, st6⟩ := stC X5 hx hZ e5 Ar6 (j := (3 : Int32)) hin6 (g := (mkF m 143 #[.val (.int 5), .val (.int d0), .val (.int d1), .val (.int d2), .val (.int d3), .val (.int d4)] [(.int d3), (.int 3), (.ref b2), (.ref b2), (.ref b1), (.ref b1)])) rfl rfl (hb hby d2_143)
  have K6 : Keep h0 h6 [] := K5.wr W6 (Or.inr sz_b2)
  have O6 := O5.wr W6 g_b2
  have N6 := Fr.snoc X6 N5 g_b2
  have V6' : Arv Z h6 b2 k2 .char (5 : Int32) [(.int d0), (.int d1), (.int d2), (.int (nar .char d3)), (.int 0)] (.int 0) := Arv.set Ar6 q6 S6 N6_ H6 G6 (fits_nar_char _) W6 3 rfl (Nat.le_of_ble_eq_true rfl)
  have V6 : Arv Z h6 b2 k2 .char (5 : Int32) [(.int d0), (.int d1), (.int d2), (.int d3), (.int 0)] (.int 0) := by
    rw [hn3] at V6'
    exact V6'
  obtain ⟨cl7, Ar7, q7, S7, N7_, H7, G7⟩ := id (V6)
  have hin7 : ¬ ((4 : Int32) < 0 ∨ cl7.slots.size ≤ ((4 : Int32)).toNatClampNeg) := inb_of S7 ⟨(by decide), (by decide)⟩
  obtain ⟨T7, h7, X7, e7, W7, st7⟩ := stC X6 hx hZ e6 Ar7 (j := (4 : Int32)) hin7 (g := (mkF m 148 #[.val (.int 5), .val (.int d0), .val (.int d1), .val (.int d2), .val (.int d3), .val (.int d4)] [(.int d4), (.int 4), (.ref b2), (.ref b2), (.ref b1), (.ref b1)])) rfl rfl (hb hby d2_148)
  have K7 : Keep h0 h7 [] := K6.wr W7 (Or.inr sz_b2)
  have O7 := O6.wr W7 g_b2
  have N7 := Fr.snoc X7 N6 g_b2
  have V7' : Arv Z h7 b2 k2 .char (5 : Int32) [(.int d0), (.int d1), (.int d2), (.int d3), (.int (nar .char d4))] (.int 0) := Arv.set Ar7 q7 S7 N7_ H7 G7 (fits_nar_char _) W7 4 rfl (Nat.le_of_ble_eq_true rfl)
  have V7 : Arv Z h7 b2 k2 .char (5 : Int32) [(.int d0), (.int d1), (.int d2), (.int d3), (.int d4)] (.int 0) := by
    rw [hn4] at V7'
    exact V7'
  obtain ⟨_, _, ⟨T8, L8, k8, n8⟩, -, X8, ⟨Lc8, hQ8, l8, y8, z8⟩, st8⟩ := X7.specialBack hx (y := MN_4) rfl hown (mvT hZ (Wd hw 12 rfl)) (mvT hZ (Wd hw 13 rfl)) (mvT hZ (Wd hw 14 rfl)) (by decide) (backOf (W := 1) (rmIc_5 l Z a0 hw [] cS (b1) (b2) (k2) (d0) (d1) (d2) (d3) (d4) (h7) n0 O7 GL ((((((A1.ext E2).wr W3).wr W4).wr W5).wr W6).wr W7) ((((((F_value_b1.ext E2).other W3 (Or.inl (Nat.ne_of_lt (Nat.lt_of_lt_of_le A1.lt (Nat.le_of_eq g2.symm))))).other W4 (Or.inl (Nat.ne_of_lt (Nat.lt_of_lt_of_le A1.lt (Nat.le_of_eq g2.symm))))).other W5 (Or.inl (Nat.ne_of_lt (Nat.lt_of_lt_of_le A1.lt (Nat.le_of_eq g2.symm))))).other W6 (Or.inl (Nat.ne_of_lt (Nat.lt_of_lt_of_le A1.lt (Nat.le_of_eq g2.symm))))).other W7 (Or.inl (Nat.ne_of_lt (Nat.lt_of_lt_of_le A1.lt (Nat.le_of_eq g2.symm))))) ((((((F_coder_b1.ext E2).other W3 (Or.inl (Nat.ne_of_lt (Nat.lt_of_lt_of_le A1.lt (Nat.le_of_eq g2.symm))))).other W4 (Or.inl (Nat.ne_of_lt (Nat.lt_of_lt_of_le A1.lt (Nat.le_of_eq g2.symm))))).other W5 (Or.inl (Nat.ne_of_lt (Nat.lt_of_lt_of_le A1.lt (Nat.le_of_eq g2.symm))))).other W6 (Or.inl (Nat.ne_of_lt (Nat.lt_of_lt_of_le A1.lt (Nat.le_of_eq g2.symm))))).other W7 (Or.inl (Nat.ne_of_lt (Nat.lt_of_lt_of_le A1.lt (Nat.le_of_eq g2.symm))))) g_b1 V7 hl0 hl1 hl2 hl3 hl4) hZ (Wd hw 14 rfl) (Wd hw 11 rfl) (by decide) (by decide)) (g := (mkF m 149 #[.val (.int 5), .val (.int d0), .val (.int d1), .val (.int d2), .val (.int d3), .val (.int d4)] [(.ref b2), (.ref b1), (.ref b1)])) rfl (by rw [hml]; rfl) (Steps.refl _) (a := b1) (argsL := [(.ref b2)]) (rest := [(.ref b1)]) (lenOf pdv4 rfl) rfl (by show 2 * 0 + _ ≤ _; exact Nat.le_of_eq rfl) (hb hby d2_149) (fun _ _ => ⟨rfl, e7, (by decide : 2 + 1 ≤ _), (by decide : 9 + 5 ≤ _)⟩)
  dsimp only [Pt.U, Pt.locs, Pt.cells, Pt.slots] at X8 l8 y8 z8 st8 hQ8
  subst l8 y8 z8
  obtain ⟨b_8, kb_8, rfl, N8q, Kc8, P8_0, P8_1, P8_2, P8_3, P8_4, P8_5⟩ := hQ8
  have K8 : Keep h0 T8.heap [] := K7.trans Kc8 (allS (Or.inr sz_b1) all0)
  have O8 := O7.keep Kc8 (allS g_b1 all0)
  have g_b_8 : n0 ≤ b_8 := Nat.le_trans (own_sz O7) P8_0
  have sz_b_8 : h0.size ≤ b_8 := Nat.le_trans K7.1 P8_0
  have N8 := Fr.app N7 N8q
  obtain ⟨fs, hr, hrun, hended, hW, hsame⟩ := X8.leave (v := some (.ref b1)) (fun h => by rw [Bd.returns] at h; cases h)
  refine ⟨_, _, pre0 _ ?_, hrun, hended, _, _, rfl, ?_, ⟨_, rfl⟩, hW, hsame.mono (by decide) (by decide)⟩
  · show Steps p.tables e below (s₁.setTop (mkF m 0 #[.val (.int 5), .val (.int d0), .val (.int d1), .val (.int d2), .val (.int d3), .val (.int d4)] [])) _
    refine XS.iloadN X0.here hx rfl (hb hby d2_0) rfl ?_
    refine XS.ifYes X0.here hx rfl (pc0 := 1) (pc' := 15) rfl (hb hby d2_1) rfl ((if0 _ _).trans (feq (by decide : ¬ ((5 : Int32) = (0 : Int32)))).2) (by decide) (by decide) ?_
    refine XS.iloadN X0.here hx rfl (hb hby d2_15) rfl ?_
    refine XS.iconst X0.here hx rfl (hb hby d2_16) ?_
    show Steps p.tables e below (s₁.setTop (mkF m 17 #[.val (.int 5), .val (.int d0), .val (.int d1), .val (.int d2), .val (.int d3), .val (.int d4)] [(.int 1), (.int 5)])) _
    refine XS.icmpYes X0.here hx rfl (pc0 := 17) (pc' := 35) rfl (hb hby d2_17) rfl (feq (by decide : ¬ ((5 : Int32) = (1 : Int32)))).2 (by decide) (by decide) ?_
    refine XS.iloadN X0.here hx rfl (hb hby d2_35) rfl ?_
    refine XS.iconst X0.here hx rfl (hb hby d2_36) ?_
    refine XS.icmpYes X0.here hx rfl (pc0 := 37) (pc' := 59) rfl (hb hby d2_37) rfl (feq (by decide : ¬ ((5 : Int32) = (2 : Int32)))).2 (by decide) (by decide) ?_
    show Steps p.tables e below (s₁.setTop (mkF m 59 #[.val (.int 5), .val (.int d0), .val (.int d1), .val (.int d2), .val (.int d3), .val (.int d4)] [])) _
    refine XS.iloadN X0.here hx rfl (hb hby d2_59) rfl ?_
    refine XS.iconst X0.here hx rfl (hb hby d2_60) ?_
    refine XS.icmpYes X0.here hx rfl (pc0 := 61) (pc' := 87) rfl (hb hby d2_61) rfl (feq (by decide : ¬ ((5 : Int32) = (3 : Int32)))).2 (by decide) (by decide) ?_
    refine XS.iloadN X0.here hx rfl (hb hby d2_87) rfl ?_
    show Steps p.tables e below (s₁.setTop (mkF m 88 #[.val (.int 5), .val (.int d0), .val (.int d1), .val (.int d2), .val (.int d3), .val (.int d4)] [(.int 5)])) _
    refine XS.iconst X0.here hx rfl (hb hby d2_88) ?_
    refine XS.icmpYes X0.here hx rfl (pc0 := 89) (pc' := 120) rfl (hb hby d2_89) rfl (feq (by decide : ¬ ((5 : Int32) = (4 : Int32)))).2 (by decide) (by decide) ?_
    show Steps p.tables e below (s₁.setTop (mkF m 120 #[.val (.int 5), .val (.int d0), .val (.int d1), .val (.int d2), .val (.int d3), .val (.int d4)] [])) _
    refine st1 _ ?_
    show Steps p.tables e below (T1.setTop (mkF m 123 #[.val (.int 5), .val (.int d0), .val (.int d1), .val (.int d2), .val (.int d3), .val (.int d4)] [(.ref b1)])) _
    refine XS.dup X1.here hx rfl (hb hby d2_123) rfl rfl ?_
    refine XS.iconst X1.here hx rfl (hb hby d2_124) ?_
    show Steps p.tables e below (T1.setTop (mkF m 125 #[.val (.int 5), .val (.int d0), .val (.int d1), .val (.int d2), .val (.int d3), .val (.int d4)] [(.int 5), (.ref b1), (.ref b1)])) _
    refine st2 _ ?_
    show Steps p.tables e below (T2.setTop (mkF m 127 #[.val (.int 5), .val (.int d0), .val (.int d1), .val (.int d2), .val (.int d3), .val (.int d4)] [(.ref b2), (.ref b1), (.ref b1)])) _
    refine XS.dup X2.here hx rfl (hb hby d2_127) rfl rfl ?_
    refine XS.iconst X2.here hx rfl (hb hby d2_128) ?_
    refine XS.iloadN X2.here hx rfl (hb hby d2_129) rfl ?_
    show Steps p.tables e below (T2.setTop (mkF m 130 #[.val (.int 5), .val (.int d0), .val (.int d1), .val (.int d2), .val (.int d3), .val (.int d4)] [(.int d0), (.int 0), (.ref b2), (.ref b2), (.ref b1), (.ref b1)])) _
    refine st3 _ ?_
    show Steps p.tables e below (T3.setTop (mkF m 131 #[.val (.int 5), .val (.int d0), .val (.int d1), .val (.int d2), .val (.int d3), .val (.int d4)] [(.ref b2), (.ref b1), (.ref b1)])) _
    refine XS.dup X3.here hx rfl (hb hby d2_131) rfl rfl ?_
    refine XS.iconst X3.here hx rfl (hb hby d2_132) ?_
    refine XS.iloadN X3.here hx rfl (hb hby d2_133) rfl ?_
    show Steps p.tables e below (T3.setTop (mkF m 134 #[.val (.int 5), .val (.int d0), .val (.int d1), .val (.int d2), .val (.int d3), .val (.int d4)] [(.int d1), (.int 1), (.ref b2), (.ref b2), (.ref b1), (.ref b1)])) _
    refine st4 _ ?_
    show Steps p.tables e below (T4.setTop (mkF m 135 #[.val (.int 5), .val (.int d0), .val (.int d1), .val (.int d2), .val (.int d3), .val (.int d4)] [(.ref b2), (.ref b1), (.ref b1)])) _
    refine XS.dup X4.here hx rfl (hb hby d2_135) rfl rfl ?_
    refine XS.iconst X4.here hx rfl (hb hby d2_136) ?_
    refine XS.iloadN X4.here hx rfl (hb hby d2_137) rfl ?_
    show Steps p.tables e below (T4.setTop (mkF m 138 #[.val (.int 5), .val (.int d0), .val (.int d1), .val (.int d2), .val (.int d3), .val (.int d4)] [(.int d2), (.int 2), (.ref b2), (.ref b2), (.ref b1), (.ref b1)])) _
    refine st5 _ ?_
    show Steps p.tables e below (T5.setTop (mkF m 139 #[.val (.int 5), .val (.int d0), .val (.int d1), .val (.int d2), .val (.int d3), .val (.int d4)] [(.ref b2), (.ref b1), (.ref b1)])) _
    refine XS.dup X5.here hx rfl (hb hby d2_139) rfl rfl ?_
    refine XS.iconst X5.here hx rfl (hb hby d2_140) ?_
    refine XS.iload X5.here hx rfl (hb hby d2_141) rfl ?_
    show Steps p.tables e below (T5.setTop (mkF m 143 #[.val (.int 5), .val (.int d0), .val (.int d1), .val (.int d2), .val (.int d3), .val (.int d4)] [(.int d3), (.int 3), (.ref b2), (.ref b2), (.ref b1), (.ref b1)])) _
    refine st6 _ ?_
    show Steps p.tables e below (T6.setTop (mkF m 144 #[.val (.int 5), .val (.int d0), .val (.int d1), .val (.int d2), .val (.int d3), .val (.int d4)] [(.ref b2), (.ref b1), (.ref b1)])) _
    refine XS.dup X6.here hx rfl (hb hby d2_144) rfl rfl ?_
    refine XS.iconst X6.here hx rfl (hb hby d2_145) ?_
    refine XS.iload X6.here hx rfl (hb hby d2_146) rfl ?_
    show Steps p.tables e below (T6.setTop (mkF m 148 #[.val (.int 5), .val (.int d0), .val (.int d1), .val (.int d2), .val (.int d3), .val (.int d4)] [(.int d4), (.int 4), (.ref b2), (.ref b2), (.ref b1), (.ref b1)])) _
    refine st7 _ ?_
    show Steps p.tables e below (T7.setTop (mkF m 149 #[.val (.int 5), .val (.int d0), .val (.int d1), .val (.int d2), .val (.int d3), .val (.int d4)] [(.ref b2), (.ref b1), (.ref b1)])) _
    refine st8.trans ?_
    show Steps p.tables e below (T8.setTop (mkF m 152 #[.val (.int 5), .val (.int d0), .val (.int d1), .val (.int d2), .val (.int d3), .val (.int d4)] [(.ref b1)])) _
    jvm_step X8.here [X8.here.top, hx, (hb hby d2_152), X8.method', Bd.returns, Value.isRef, FieldType.isReference]
    first | (intro acts; rw [hr _ acts rfl rfl rfl]) | rw [hr _ _ rfl rfl rfl]
    exact Steps.refl _
  · show Q_rmMk5 n0 Z cS d0 d1 d2 d3 d4 h0 _ T8.heap _
    exact ⟨b1, b_8, kb_8, rfl, N8, K8, P8_2, P8_3, P8_4, P8_5⟩
theorem d9_0 : decode jdk_42_method_152_code 0 = .ok (.getstatic 38, 3) := by decide +kernel
theorem d9_3 : decode jdk_42_method_152_code 3 = .ok (.ifCond .eq 10, 3) := by decide +kernel
theorem d9_6 : decode jdk_42_method_152_code 6 = .ok (.aload_n 0, 1) := by decide +kernel
theorem d9_7 : decode jdk_42_method_152_code 7 = .ok (.getfield 15, 3) := by decide +kernel
theorem d9_10 : decode jdk_42_method_152_code 10 = .ok (.goto 4, 3) := by decide +kernel
theorem d9_14 : decode jdk_42_method_152_code 14 = .ok (.ireturn, 1) := by decide +kernel
abbrev MN_7 : MethodName := ⟨"java/lang/String", "coder", "()B"⟩
theorem ef_rmCod (m : MethodId) (a0s : Addr) : entryFrame m #[(.ref a0s)] 1 = mkF m 0 #[.val (.ref a0s)] [] := by first | (simp [entryFrame, mkF, argsToLocals, Value.category]; done) | rfl
def Q_rmCod (n0 : Nat) (Z : State) (cS : Int32) (a0s : Addr) (h0 : Heap) (v : Option Value) (h : Heap) (L : List Loc) : Prop := v = some (.int 0) ∧ Fr n0 L ∧ h = h0
set_option maxRecDepth 65536 in
set_option maxHeartbeats 40000000 in
theorem rmCod (l : Launch) (Z : State) (a0 : Array Value) (hw : ∀ d ∈ tables_1, d.before a0 Z = true) (ws : List Jvm.Cond) (cS : Int32) (a0s : Addr) (h0 : Heap) (n0 : Nat) (O0 : Old Z n0 h0) (GL : GF Z cS) (F_coder_a0s : Fld Z h0 a0s "java/lang/String" "coder" "B" (.int 0)) :
    MetFree l MN_7 (head1 (Jvm.Cond.code MN_7 jdk_42_method_152_code 1 (some .byte) :: ws) ({ frames := 0, cells := 0, slots := 0, locals := 0 } : Room)) (fun a U => a = #[(.ref a0s)] ∧ Z.Warmed39 U.vm ∧ U.heap = h0) (fun _ _ _ _ _ => True) (fun _ U o U' => ∃ v L, o = .returned v ∧ Q_rmCod n0 Z cS a0s h0 v U'.heap L ∧ FrameEnd U o U' L ({ frames := 0, cells := 0, slots := 0, locals := 0 } : Room).cells ({ frames := 0, cells := 0, slots := 0, locals := 0 } : Room).slots) := by
  refine MetFree.of_bodySF (plainFor_of_name pnv1) hisR ?_
  intro p e s m args below meth c s₁ Bd hml0 hP hK
  obtain ⟨rfl, hZ, hh⟩ := hP
  have hx := Bd.exec
  have hby := Bd.bytes
  have hml : c.maxLocals = 1 := hml0
  have hown : s.vm.findClass "java/lang/String" = some m.cls := findClass_of_methodNamed Bd.named
  have hnm := (name_of_methodNamed Bd.named Bd.method).1
  have X0 : Stand p l e ({ frames := 0, cells := 0, slots := 0, locals := 0 } : Room) s m #[(.ref a0s)] below meth c s₁ [] 0 0 := Stand.of_body Bd
  have e0 : s₁.heap = h0 := by rw [← hh, Bd.state]; rfl
  have N0 := Fr.nil n0
  have pre0 : ∀ t, Steps p.tables e below (s₁.setTop (mkF m 0 #[.val (.ref a0s)] [])) t → Steps p.tables e below (s₁.setTop (entryFrame m #[(.ref a0s)] 1)) t := fun t k => castTop (ef_rmCod m a0s) k
  have GL' := GL
  obtain ⟨GCS, GCP⟩ := GL'
  obtain ⟨T1, X1, e1, st1⟩ := getS2 X0 hx hZ hown (host := "") (Or.inl (Wd hw 50 rfl)) Via.refl e0 (GCS.ext O0.2) (g := (mkF m 0 #[.val (.ref a0s)] [])) rfl (hb hby d9_0)
  obtain ⟨T2, X2, e2, st2⟩ := getF X1 hx hZ hown (host := "") (Or.inl (Wd hw 29 rfl)) Via.refl e1 F_coder_a0s (g := (mkF m 7 #[.val (.ref a0s)] [(.ref a0s)])) rfl rfl (hb hby d9_7)
  obtain ⟨fs, hr, hrun, hended, hW, hsame⟩ := X2.leave (v := some (.int 0)) (fun h => by rw [Bd.returns] at h; cases h)
  refine ⟨_, _, pre0 _ ?_, hrun, hended, _, _, rfl, ?_, ⟨_, rfl⟩, hW, hsame.mono (by decide) (by decide)⟩
  · show Steps p.tables e below (s₁.setTop (mkF m 0 #[.val (.ref a0s)] [])) _
    refine st1 _ ?_
    show Steps p.tables e below (T1.setTop (mkF m 3 #[.val (.ref a0s)] [(.int cS)])) _
    refine XS.ifNo X1.here hx rfl (hb hby d9_3) rfl ((if0 _ _).trans (feq GCP).1) ?_
    refine XS.aloadN X1.here hx rfl (hb hby d9_6) rfl rfl ?_
    show Steps p.tables e below (T1.setTop (mkF m 7 #[.val (.ref a0s)] [(.ref a0s)])) _
    refine st2 _ ?_
    show Steps p.tables e below (T2.setTop (mkF m 10 #[.val (.ref a0s)] [(.int 0)])) _
    refine XS.goto X2.here hx rfl (pc0 := 10) (pc' := 14) rfl (hb hby d9_10) (by decide) (by decide) ?_
    show Steps p.tables e below (T2.setTop (mkF m 14 #[.val (.ref a0s)] [(.int 0)])) _
    exact retN X2 hx (t := .byte) Bd.returns (by simp) (hb hby d9_14) hr
  · show Q_rmCod n0 Z cS a0s h0 _ T2.heap _
    rw [e2]
    exact ⟨rfl, N0, rfl⟩
theorem d8_0 : decode jdk_42_method_54_code 0 = .ok (.aload_n 0, 1) := by decide +kernel
theorem d8_1 : decode jdk_42_method_54_code 1 = .ok (.getfield 9, 3) := by decide +kernel
theorem d8_4 : decode jdk_42_method_54_code 4 = .ok (.arraylength, 1) := by decide +kernel
theorem d8_5 : decode jdk_42_method_54_code 5 = .ok (.aload_n 0, 1) := by decide +kernel
theorem d8_6 : decode jdk_42_method_54_code 6 = .ok (.invokevirtual 335, 3) := by decide +kernel
theorem pdv5 : parseMethodDescriptor "()B" = some ⟨[], some .byte⟩ := by decide +kernel
theorem d8_9 : decode jdk_42_method_54_code 9 = .ok (.ishr, 1) := by decide +kernel
theorem d8_10 : decode jdk_42_method_54_code 10 = .ok (.ireturn, 1) := by decide +kernel
abbrev MN_8 : MethodName := ⟨"java/lang/String", "length", "()I"⟩
def Q_rmLen (n0 : Nat) (Z : State) (cS : Int32) (a0s : Addr) (av : Addr) (kv : ClassId) (nl : Int32) (vs : List Value) (h0 : Heap) (v : Option Value) (h : Heap) (L : List Loc) : Prop := v = some (.int nl) ∧ Fr n0 L ∧ h = h0
set_option maxRecDepth 65536 in
set_option maxHeartbeats 40000000 in
theorem rmLen (l : Launch) (Z : State) (a0 : Array Value) (hw : ∀ d ∈ tables_1, d.before a0 Z = true) (ws : List Jvm.Cond) (cS : Int32) (a0s : Addr) (av : Addr) (kv : ClassId) (nl : Int32) (vs : List Value) (h0 : Heap) (n0 : Nat) (O0 : Old Z n0 h0) (GL : GF Z cS) (E_a0s : Exa Z h0 a0s "java/lang/String") (F_value_a0s : Fld Z h0 a0s "java/lang/String" "value" "[B" (.ref av)) (F_coder_a0s : Fld Z h0 a0s "java/lang/String" "coder" "B" (.int 0)) (V_av : Arv Z h0 av kv .byte nl vs (.int 0)) :
    MetFree l MN_8 (head1 (Jvm.Cond.code MN_8 jdk_42_method_54_code 1 (some .int) :: ws) ({ frames := 1, cells := 0, slots := 0, locals := 13 } : Room)) (fun a U => a = #[(.ref a0s)] ∧ Z.Warmed39 U.vm ∧ U.heap = h0) (fun _ _ _ _ _ => True) (fun _ U o U' => ∃ v L, o = .returned v ∧ Q_rmLen n0 Z cS a0s av kv nl vs h0 v U'.heap L ∧ FrameEnd U o U' L ({ frames := 1, cells := 0, slots := 0, locals := 13 } : Room).cells ({ frames := 1, cells := 0, slots := 0, locals := 13 } : Room).slots) := by
  refine MetFree.of_bodySF (plainFor_of_name pnv1) hisR ?_
  intro p e s m args below meth c s₁ Bd hml0 hP hK
  obtain ⟨rfl, hZ, hh⟩ := hP
  have hx := Bd.exec
  have hby := Bd.bytes
  have hml : c.maxLocals = 1 := hml0
  have hown : s.vm.findClass "java/lang/String" = some m.cls := findClass_of_methodNamed Bd.named
  have hnm := (name_of_methodNamed Bd.named Bd.method).1
  have X0 : Stand p l e ({ frames := 1, cells := 0, slots := 0, locals := 13 } : Room) s m #[(.ref a0s)] below meth c s₁ [] 0 0 := Stand.of_body Bd
  have e0 : s₁.heap = h0 := by rw [← hh, Bd.state]; rfl
  have N0 := Fr.nil n0
  have pre0 : ∀ t, Steps p.tables e below (s₁.setTop (mkF m 0 #[.val (.ref a0s)] [])) t → Steps p.tables e below (s₁.setTop (entryFrame m #[(.ref a0s)] 1)) t := fun t k => castTop (ef_rmCod m a0s) k
  have GL' := GL
  obtain ⟨GCS, GCP⟩ := GL'
  obtain ⟨T1, X1, e1, st1⟩ := getF X0 hx hZ hown (host := "") (Or.inl (Wd hw 28 rfl)) Via.refl e0 F_value_a0s (g := (mkF m 1 #[.val (.ref a0s)] [(.ref a0s)])) rfl rfl (hb hby d8_1)
  obtain ⟨cl2, Ar2, -, S2, N2_, -, -⟩ := id (V_av)
  obtain ⟨cq3, kq3, q3a, q3b, q3c⟩ := isOf hZ e1 E_a0s
  obtain ⟨_, _, ⟨T3, L3, k3, n3⟩, -, X3, ⟨Lc3, hQ3, l3, y3, z3⟩, st3⟩ := X1.virtualBack hx (y := MN_7) (z := MN_7) hown (mvT hZ (Wd hw 45 rfl)) (mvT hZ (Wd hw 46 rfl)) (notFace_of_selects (args := #[]) (mvT hZ (Wd hw 48 rfl))) (mvT hZ (Wd hw 48 rfl)) (mvT hZ (Wd hw 47 rfl)) (by decide) (backOf (W := 1) (rmCod l Z a0 hw [] cS (a0s) (h0) n0 O0 GL F_coder_a0s) hZ (Wd hw 49 rfl) (Wd hw 11 rfl) (by decide) (by decide)) q3a q3c (g := (mkF m 6 #[.val (.ref a0s)] [(.ref a0s), (.int nl)])) rfl (by rw [hml]; rfl) (Steps.refl _) (argsL := []) (rest := [(.int nl)]) (lenOf pdv5 rfl) rfl (by show 2 * 0 + _ ≤ _; exact Nat.le_of_eq rfl) (hb hby d8_6) (fun _ _ => ⟨rfl, e1, (by decide : 0 + 0 ≤ _), (by decide : 0 + 0 ≤ _)⟩)
  dsimp only [Pt.U, Pt.locs, Pt.cells, Pt.slots] at X3 l3 y3 z3 st3 hQ3
  subst l3 y3 z3
  obtain ⟨rfl, N3q, e3⟩ := hQ3
  have N3 := Fr.app N0 N3q
  obtain ⟨fs, hr, hrun, hended, hW, hsame⟩ := X3.leave (v := some (.int nl)) (fun h => by rw [Bd.returns] at h; cases h)
  refine ⟨_, _, pre0 _ ?_, hrun, hended, _, _, rfl, ?_, ⟨_, rfl⟩, hW, hsame.mono (by decide) (by decide)⟩
  · show Steps p.tables e below (s₁.setTop (mkF m 0 #[.val (.ref a0s)] [])) _
    refine XS.aloadN X0.here hx rfl (hb hby d8_0) rfl rfl ?_
    show Steps p.tables e below (s₁.setTop (mkF m 1 #[.val (.ref a0s)] [(.ref a0s)])) _
    refine st1 _ ?_
    show Steps p.tables e below (T1.setTop (mkF m 4 #[.val (.ref a0s)] [(.ref av)])) _
    refine X1.arraylength hx (by rw [e1]; exact Ar2.1) (State.isArrayOf_alike hZ.alike Ar2.2.1) (g := (mkF m 4 #[.val (.ref a0s)] [(.ref av)])) rfl rfl (hb hby d8_4) _ ?_
    rw [len_of S2 N2_]
    show Steps p.tables e below (T1.setTop (mkF m 5 #[.val (.ref a0s)] [(.int nl)])) _
    refine XS.aloadN X1.here hx rfl (hb hby d8_5) rfl rfl ?_
    show Steps p.tables e below (T1.setTop (mkF m 6 #[.val (.ref a0s)] [(.ref a0s), (.int nl)])) _
    refine st3.trans ?_
    show Steps p.tables e below (T3.setTop (mkF m 9 #[.val (.ref a0s)] [(.int 0), (.int nl)])) _
    refine XS.ishr X3.here hx rfl (hb hby d8_9) rfl ?_
    rw [own_shr0 nl]
    show Steps p.tables e below (T3.setTop (mkF m 10 #[.val (.ref a0s)] [(.int nl)])) _
    exact retI X3 hx Bd.returns (hb hby d8_10) hr
  · show Q_rmLen n0 Z cS a0s av kv nl vs h0 _ T3.heap _
    rw [e3]
    exact ⟨rfl, N3, rfl⟩
theorem d14_0 : decode jdk_48_method_14_code 0 = .ok (.iconst 0, 1) := by decide +kernel
theorem d14_1 : decode jdk_48_method_14_code 1 = .ok (.istore 5, 2) := by decide +kernel
theorem d14_3 : decode jdk_48_method_14_code 3 = .ok (.iload 4, 2) := by decide +kernel
theorem d14_5 : decode jdk_48_method_14_code 5 = .ok (.bipush 7, 2) := by decide +kernel
theorem d14_7 : decode jdk_48_method_14_code 7 = .ok (.if_icmp .le 63, 3) := by decide +kernel
theorem d14_70 : decode jdk_48_method_14_code 70 = .ok (.iload 5, 2) := by decide +kernel
theorem d14_72 : decode jdk_48_method_14_code 72 = .ok (.iload 4, 2) := by decide +kernel
theorem d14_74 : decode jdk_48_method_14_code 74 = .ok (.if_icmp .ge 27, 3) := by decide +kernel
theorem d14_77 : decode jdk_48_method_14_code 77 = .ok (.aload_n 0, 1) := by decide +kernel
theorem d14_78 : decode jdk_48_method_14_code 78 = .ok (.iload_n 1, 1) := by decide +kernel
theorem d14_79 : decode jdk_48_method_14_code 79 = .ok (.iload 5, 2) := by decide +kernel
theorem d14_81 : decode jdk_48_method_14_code 81 = .ok (.iadd, 1) := by decide +kernel
theorem d14_82 : decode jdk_48_method_14_code 82 = .ok (.baload, 1) := by decide +kernel
theorem d14_83 : decode jdk_48_method_14_code 83 = .ok (.aload_n 2, 1) := by decide +kernel
theorem d14_84 : decode jdk_48_method_14_code 84 = .ok (.iload_n 3, 1) := by decide +kernel
theorem d14_85 : decode jdk_48_method_14_code 85 = .ok (.iload 5, 2) := by decide +kernel
theorem d14_87 : decode jdk_48_method_14_code 87 = .ok (.iadd, 1) := by decide +kernel
theorem d14_88 : decode jdk_48_method_14_code 88 = .ok (.baload, 1) := by decide +kernel
theorem d14_89 : decode jdk_48_method_14_code 89 = .ok (.if_icmp .eq 6, 3) := by decide +kernel
theorem d14_95 : decode jdk_48_method_14_code 95 = .ok (.iinc 5 1, 3) := by decide +kernel
theorem d14_98 : decode jdk_48_method_14_code 98 = .ok (.goto (-28), 3) := by decide +kernel
theorem d14_101 : decode jdk_48_method_14_code 101 = .ok (.iconst (-1), 1) := by decide +kernel
theorem d14_102 : decode jdk_48_method_14_code 102 = .ok (.ireturn, 1) := by decide +kernel
theorem pnv3 : plainName "jdk/internal/util/ArraysSupport" = true := by first | (simp [plainName, overriddenIn]; done) | decide +kernel
abbrev MN_9 : MethodName := ⟨"jdk/internal/util/ArraysSupport", "mismatch", "([BI[BII)I"⟩
theorem ef_rmMm_mfT (m : MethodId) (a0b : Addr) (off : Int32) (a2b : Addr) : entryFrame m #[(.ref a0b), (.int off), (.ref a2b), (.int 0), (.int 3)] 8 = mkF m 0 #[.val (.ref a0b), .val (.int off), .val (.ref a2b), .val (.int 0), .val (.int 3), .unset, .unset, .unset] [] := by first | (simp [entryFrame, mkF, argsToLocals, Value.category]; done) | rfl
def Q_rmMm_mfT (n0 : Nat) (Z : State) (cS : Int32) (a0b : Addr) (off : Int32) (a2b : Addr) (k0 : ClassId) (nl : Int32) (vs : List Value) (k2 : ClassId) (d0 : Int32) (d1 : Int32) (d2 : Int32) (h0 : Heap) (v : Option Value) (h : Heap) (L : List Loc) : Prop := v = some (.int (-1 : Int32)) ∧ Fr n0 L ∧ h = h0
set_option maxRecDepth 65536 in
set_option maxHeartbeats 40000000 in
theorem rmMm_mfT (l : Launch) (Z : State) (a0 : Array Value) (hw : ∀ d ∈ tables_1, d.before a0 Z = true) (ws : List Jvm.Cond) (cS : Int32) (a0b : Addr) (off : Int32) (a2b : Addr) (k0 : ClassId) (nl : Int32) (vs : List Value) (k2 : ClassId) (d0 : Int32) (d1 : Int32) (d2 : Int32) (h0 : Heap) (n0 : Nat) (O0 : Old Z n0 h0) (GL : GF Z cS) (V_a0b : Arv Z h0 a0b k0 .byte nl vs (.int 0)) (V_a2b : Arv Z h0 a2b k2 .byte (3 : Int32) [(.int 46), (.int 109), (.int 102)] (.int 0)) (gA0 : vs.getD (off + (0 : Int32)).toNatClampNeg (.int 0) = .int (d0.toInt8.toInt32)) (xA0 : ¬ ((off + (0 : Int32)) < (0 : Int32))) (yA0 : (off + (0 : Int32)) < nl) (gA1 : vs.getD (off + (1 : Int32)).toNatClampNeg (.int 0) = .int (d1.toInt8.toInt32)) (xA1 : ¬ ((off + (1 : Int32)) < (0 : Int32))) (yA1 : (off + (1 : Int32)) < nl) (gA2 : vs.getD (off + (2 : Int32)).toNatClampNeg (.int 0) = .int (d2.toInt8.toInt32)) (xA2 : ¬ ((off + (2 : Int32)) < (0 : Int32))) (yA2 : (off + (2 : Int32)) < nl) (hA : d0 = (46 : Int32) ∧ d1 = (109 : Int32) ∧ d2 = (102 : Int32)) :
    MetFree l MN_9 (head1 (Jvm.Cond.code MN_9 jdk_48_method_14_code 8 (some .int) :: ws) ({ frames := 0, cells := 0, slots := 0, locals := 0 } : Room)) (fun a U => a = #[(.ref a0b), (.int off), (.ref a2b), (.int 0), (.int 3)] ∧ Z.Warmed39 U.vm ∧ U.heap = h0) (fun _ _ _ _ _ => True) (fun _ U o U' => ∃ v L, o = .returned v ∧ Q_rmMm_mfT n0 Z cS a0b off a2b k0 nl vs k2 d0 d1 d2 h0 v U'.heap L ∧ FrameEnd U o U' L ({ frames := 0, cells := 0, slots := 0, locals := 0 } : Room).cells ({ frames := 0, cells := 0, slots := 0, locals := 0 } : Room).slots) := by
  refine MetFree.of_bodySF (plainFor_of_name pnv3) hisR ?_
  intro p e s m args below meth c s₁ Bd hml0 hP hK
  obtain ⟨rfl, hZ, hh⟩ := hP
  have hx := Bd.exec
  have hby := Bd.bytes
  have hml : c.maxLocals = 8 := hml0
  have hown : s.vm.findClass "jdk/internal/util/ArraysSupport" = some m.cls := findClass_of_methodNamed Bd.named
  have hnm := (name_of_methodNamed Bd.named Bd.method).1
  have X0 : Stand p l e ({ frames := 0, cells := 0, slots := 0, locals := 0 } : Room) s m #[(.ref a0b), (.int off), (.ref a2b), (.int 0), (.int 3)] below meth c s₁ [] 0 0 := Stand.of_body Bd
  have e0 : s₁.heap = h0 := by rw [← hh, Bd.state]; rfl
  have N0 := Fr.nil n0
  have pre0 : ∀ t, Steps p.tables e below (s₁.setTop (mkF m 0 #[.val (.ref a0b), .val (.int off), .val (.ref a2b), .val (.int 0), .val (.int 3), .unset, .unset, .unset] [])) t → Steps p.tables e below (s₁.setTop (entryFrame m #[(.ref a0b), (.int off), (.ref a2b), (.int 0), (.int 3)] 8)) t := fun t k => castTop (ef_rmMm_mfT m a0b off a2b) k
  have GL' := GL
  obtain ⟨GCS, GCP⟩ := GL'
  obtain ⟨cl1, Ar1, -, S1, N1_, H1, G1⟩ := id (V_a0b)
  have hin1 : ¬ ((off + (0 : Int32)) < 0 ∨ cl1.slots.size ≤ ((off + (0 : Int32))).toNatClampNeg) := inb_of S1 ⟨xA0, yA0⟩
  have hat1 : cl1.slots[((off + (0 : Int32))).toNatClampNeg]? = some (.int (d0.toInt8.toInt32)) := H1.at hin1 gA0
  obtain ⟨cl2, Ar2, -, S2, N2_, H2, G2⟩ := id (V_a2b)
  have hin2 : ¬ ((0 : Int32) < 0 ∨ cl2.slots.size ≤ ((0 : Int32)).toNatClampNeg) := inb_of S2 ⟨(by decide), (by decide)⟩
  have hat2 : cl2.slots[((0 : Int32)).toNatClampNeg]? = some (.int 46) := H2.at hin2 rfl
  have ht0 : (d0.toInt8.toInt32) = (46 : Int32) := (by rw [hA.1]; decide)
  obtain ⟨cl3, Ar3, -, S3, N3_, H3, G3⟩ := id (V_a0b)
  have hin3 : ¬ ((off + (1 : Int32)) < 0 ∨ cl3.slots.size ≤ ((off + (1 : Int32))).toNatClampNeg) := inb_of S3 ⟨xA1, yA1⟩
  have hat3 : cl3.slots[((off + (1 : Int32))).toNatClampNeg]? = some (.int (d1.toInt8.toInt32)) := H3.at hin3 gA1
  obtain ⟨cl4, Ar4, -, S4, N4_, H4, G4⟩ := id (V_a2b)
  have hin4 : ¬ ((1 : Int32) < 0 ∨ cl4.slots.size ≤ ((1 : Int32)).toNatClampNeg) := inb_of S4 ⟨(by decide), (by decide)⟩
  have hat4 : cl4.slots[((1 : Int32)).toNatClampNeg]? = some (.int 109) := H4.at hin4 rfl
  have ht1 : (d1.toInt8.toInt32) = (109 : Int32) := (by rw [hA.2.1]; decide)
  obtain ⟨cl5, Ar5, -, S5, N5_, H5, G5⟩ := id (V_a0b)
  have hin5 : ¬ ((off + (2 : Int32)) < 0 ∨ cl5.slots.size ≤ ((off + (2 : Int32))).toNatClampNeg) := inb_of S5 ⟨xA2, yA2⟩
  have hat5 : cl5.slots[((off + (2 : Int32))).toNatClampNeg]? = some (.int (d2.toInt8.toInt32)) := H5.at hin5 gA2
  obtain ⟨cl6, Ar6, -, S6, N6_, H6, G6⟩ := id (V_a2b)
  have hin6 : ¬ ((2 : Int32) < 0 ∨ cl6.slots.size ≤ ((2 : Int32)).toNatClampNeg) := inb_of S6 ⟨(by decide), (by decide)⟩
  have hat6 : cl6.slots[((2 : Int32)).toNatClampNeg]? = some (.int 102) := H6.at hin6 rfl
  have ht2 : (d2.toInt8.toInt32) = (102 : Int32) := (by rw [hA.2.2]; decide)
  obtain ⟨fs, hr, hrun, hended, hW, hsame⟩ := X0.leave (v := some (.int (-1 : Int32))) (fun h => by rw [Bd.returns] at h; cases h)
  refine ⟨_, _, pre0 _ ?_, hrun, hended, _, _, rfl, ?_, ⟨_, rfl⟩, hW, hsame.mono (by decide) (by decide)⟩
  · show Steps p.tables e below (s₁.setTop (mkF m 0 #[.val (.ref a0b), .val (.int off), .val (.ref a2b), .val (.int 0), .val (.int 3), .unset, .unset, .unset] [])) _
    refine XS.iconst X0.here hx rfl (hb hby d14_0) ?_
    refine XS.istore X0.here hx rfl (hb hby d14_1) rfl (l' := #[.val (.ref a0b), .val (.int off), .val (.ref a2b), .val (.int 0), .val (.int 3), .val (.int 0), .unset, .unset]) rfl ?_
    refine XS.iload X0.here hx rfl (hb hby d14_3) rfl ?_
    refine XS.bipush X0.here hx rfl (hb hby d14_5) ?_
    show Steps p.tables e below (s₁.setTop (mkF m 7 #[.val (.ref a0b), .val (.int off), .val (.ref a2b), .val (.int 0), .val (.int 3), .val (.int 0), .unset, .unset] [(.int 7), (.int 3)])) _
    refine XS.icmpYes X0.here hx rfl (pc0 := 7) (pc' := 70) rfl (hb hby d14_7) rfl (flt (by decide : ¬ ((7 : Int32) < (3 : Int32)))).2.2.2 (by decide) (by decide) ?_
    refine XS.iload X0.here hx rfl (hb hby d14_70) rfl ?_
    refine XS.iload X0.here hx rfl (hb hby d14_72) rfl ?_
    refine XS.icmpNo X0.here hx rfl (hb hby d14_74) rfl (tlt (by decide : (0 : Int32) < (3 : Int32))).2.1 ?_
    show Steps p.tables e below (s₁.setTop (mkF m 77 #[.val (.ref a0b), .val (.int off), .val (.ref a2b), .val (.int 0), .val (.int 3), .val (.int 0), .unset, .unset] [])) _
    refine XS.aloadN X0.here hx rfl (hb hby d14_77) rfl rfl ?_
    refine XS.iloadN X0.here hx rfl (hb hby d14_78) rfl ?_
    refine XS.iload X0.here hx rfl (hb hby d14_79) rfl ?_
    refine XS.iadd X0.here hx rfl (hb hby d14_81) rfl ?_
    show Steps p.tables e below (s₁.setTop (mkF m 82 #[.val (.ref a0b), .val (.int off), .val (.ref a2b), .val (.int 0), .val (.int 3), .val (.int 0), .unset, .unset] [(.int (off + (0 : Int32))), (.ref a0b)])) _
    refine X0.baloadBytes hx (j := (off + (0 : Int32))) (v := (.int (d0.toInt8.toInt32))) (by rw [e0]; exact Ar1.1) (State.isArrayOf_alike hZ.alike Ar1.2.1) Ar1.2.2 hin1 hat1 (g := (mkF m 82 #[.val (.ref a0b), .val (.int off), .val (.ref a2b), .val (.int 0), .val (.int 3), .val (.int 0), .unset, .unset] [(.int (off + (0 : Int32))), (.ref a0b)])) rfl rfl (hb hby d14_82) _ ?_
    show Steps p.tables e below (s₁.setTop (mkF m 83 #[.val (.ref a0b), .val (.int off), .val (.ref a2b), .val (.int 0), .val (.int 3), .val (.int 0), .unset, .unset] [(.int (d0.toInt8.toInt32))])) _
    refine XS.aloadN X0.here hx rfl (hb hby d14_83) rfl rfl ?_
    refine XS.iloadN X0.here hx rfl (hb hby d14_84) rfl ?_
    refine XS.iload X0.here hx rfl (hb hby d14_85) rfl ?_
    refine XS.iadd X0.here hx rfl (hb hby d14_87) rfl ?_
    show Steps p.tables e below (s₁.setTop (mkF m 88 #[.val (.ref a0b), .val (.int off), .val (.ref a2b), .val (.int 0), .val (.int 3), .val (.int 0), .unset, .unset] [(.int 0), (.ref a2b), (.int (d0.toInt8.toInt32))])) _
    refine X0.baloadBytes hx (j := (0 : Int32)) (v := (.int 46)) (by rw [e0]; exact Ar2.1) (State.isArrayOf_alike hZ.alike Ar2.2.1) Ar2.2.2 hin2 hat2 (g := (mkF m 88 #[.val (.ref a0b), .val (.int off), .val (.ref a2b), .val (.int 0), .val (.int 3), .val (.int 0), .unset, .unset] [(.int 0), (.ref a2b), (.int (d0.toInt8.toInt32))])) rfl rfl (hb hby d14_88) _ ?_
    show Steps p.tables e below (s₁.setTop (mkF m 89 #[.val (.ref a0b), .val (.int off), .val (.ref a2b), .val (.int 0), .val (.int 3), .val (.int 0), .unset, .unset] [(.int 46), (.int (d0.toInt8.toInt32))])) _
    refine XS.icmpYes X0.here hx rfl (pc0 := 89) (pc' := 95) rfl (hb hby d14_89) rfl (teq ht0).1 (by decide) (by decide) ?_
    refine XS.iinc X0.here hx rfl (hb hby d14_95) rfl (l' := #[.val (.ref a0b), .val (.int off), .val (.ref a2b), .val (.int 0), .val (.int 3), .val (.int 1), .unset, .unset]) rfl ?_
    refine XS.goto X0.here hx rfl (pc0 := 98) (pc' := 70) rfl (hb hby d14_98) (by decide) (by decide) ?_
    refine XS.iload X0.here hx rfl (hb hby d14_70) rfl ?_
    show Steps p.tables e below (s₁.setTop (mkF m 72 #[.val (.ref a0b), .val (.int off), .val (.ref a2b), .val (.int 0), .val (.int 3), .val (.int 1), .unset, .unset] [(.int 1)])) _
    refine XS.iload X0.here hx rfl (hb hby d14_72) rfl ?_
    refine XS.icmpNo X0.here hx rfl (hb hby d14_74) rfl (tlt (by decide : (1 : Int32) < (3 : Int32))).2.1 ?_
    refine XS.aloadN X0.here hx rfl (hb hby d14_77) rfl rfl ?_
    refine XS.iloadN X0.here hx rfl (hb hby d14_78) rfl ?_
    show Steps p.tables e below (s₁.setTop (mkF m 79 #[.val (.ref a0b), .val (.int off), .val (.ref a2b), .val (.int 0), .val (.int 3), .val (.int 1), .unset, .unset] [(.int off), (.ref a0b)])) _
    refine XS.iload X0.here hx rfl (hb hby d14_79) rfl ?_
    refine XS.iadd X0.here hx rfl (hb hby d14_81) rfl ?_
    show Steps p.tables e below (s₁.setTop (mkF m 82 #[.val (.ref a0b), .val (.int off), .val (.ref a2b), .val (.int 0), .val (.int 3), .val (.int 1), .unset, .unset] [(.int (off + (1 : Int32))), (.ref a0b)])) _
    refine X0.baloadBytes hx (j := (off + (1 : Int32))) (v := (.int (d1.toInt8.toInt32))) (by rw [e0]; exact Ar3.1) (State.isArrayOf_alike hZ.alike Ar3.2.1) Ar3.2.2 hin3 hat3 (g := (mkF m 82 #[.val (.ref a0b), .val (.int off), .val (.ref a2b), .val (.int 0), .val (.int 3), .val (.int 1), .unset, .unset] [(.int (off + (1 : Int32))), (.ref a0b)])) rfl rfl (hb hby d14_82) _ ?_
    show Steps p.tables e below (s₁.setTop (mkF m 83 #[.val (.ref a0b), .val (.int off), .val (.ref a2b), .val (.int 0), .val (.int 3), .val (.int 1), .unset, .unset] [(.int (d1.toInt8.toInt32))])) _
    refine XS.aloadN X0.here hx rfl (hb hby d14_83) rfl rfl ?_
    refine XS.iloadN X0.here hx rfl (hb hby d14_84) rfl ?_
    refine XS.iload X0.here hx rfl (hb hby d14_85) rfl ?_
    refine XS.iadd X0.here hx rfl (hb hby d14_87) rfl ?_
    show Steps p.tables e below (s₁.setTop (mkF m 88 #[.val (.ref a0b), .val (.int off), .val (.ref a2b), .val (.int 0), .val (.int 3), .val (.int 1), .unset, .unset] [(.int 1), (.ref a2b), (.int (d1.toInt8.toInt32))])) _
    refine X0.baloadBytes hx (j := (1 : Int32)) (v := (.int 109)) (by rw [e0]; exact Ar4.1) (State.isArrayOf_alike hZ.alike Ar4.2.1) Ar4.2.2 hin4 hat4 (g := (mkF m 88 #[.val (.ref a0b), .val (.int off), .val (.ref a2b), .val (.int 0), .val (.int 3), .val (.int 1), .unset, .unset] [(.int 1), (.ref a2b), (.int (d1.toInt8.toInt32))])) rfl rfl (hb hby d14_88) _ ?_
    show Steps p.tables e below (s₁.setTop (mkF m 89 #[.val (.ref a0b), .val (.int off), .val (.ref a2b), .val (.int 0), .val (.int 3), .val (.int 1), .unset, .unset] [(.int 109), (.int (d1.toInt8.toInt32))])) _
    refine XS.icmpYes X0.here hx rfl (pc0 := 89) (pc' := 95) rfl (hb hby d14_89) rfl (teq ht1).1 (by decide) (by decide) ?_
    refine XS.iinc X0.here hx rfl (hb hby d14_95) rfl (l' := #[.val (.ref a0b), .val (.int off), .val (.ref a2b), .val (.int 0), .val (.int 3), .val (.int 2), .unset, .unset]) rfl ?_
    refine XS.goto X0.here hx rfl (pc0 := 98) (pc' := 70) rfl (hb hby d14_98) (by decide) (by decide) ?_
    refine XS.iload X0.here hx rfl (hb hby d14_70) rfl ?_
    show Steps p.tables e below (s₁.setTop (mkF m 72 #[.val (.ref a0b), .val (.int off), .val (.ref a2b), .val (.int 0), .val (.int 3), .val (.int 2), .unset, .unset] [(.int 2)])) _
    refine XS.iload X0.here hx rfl (hb hby d14_72) rfl ?_
    refine XS.icmpNo X0.here hx rfl (hb hby d14_74) rfl (tlt (by decide : (2 : Int32) < (3 : Int32))).2.1 ?_
    refine XS.aloadN X0.here hx rfl (hb hby d14_77) rfl rfl ?_
    refine XS.iloadN X0.here hx rfl (hb hby d14_78) rfl ?_
    show Steps p.tables e below (s₁.setTop (mkF m 79 #[.val (.ref a0b), .val (.int off), .val (.ref a2b), .val (.int 0), .val (.int 3), .val (.int 2), .unset, .unset] [(.int off), (.ref a0b)])) _
    refine XS.iload X0.here hx rfl (hb hby d14_79) rfl ?_
    refine XS.iadd X0.here hx rfl (hb hby d14_81) rfl ?_
    show Steps p.tables e below (s₁.setTop (mkF m 82 #[.val (.ref a0b), .val (.int off), .val (.ref a2b), .val (.int 0), .val (.int 3), .val (.int 2), .unset, .unset] [(.int (off + (2 : Int32))), (.ref a0b)])) _
    refine X0.baloadBytes hx (j := (off + (2 : Int32))) (v := (.int (d2.toInt8.toInt32))) (by rw [e0]; exact Ar5.1) (State.isArrayOf_alike hZ.alike Ar5.2.1) Ar5.2.2 hin5 hat5 (g := (mkF m 82 #[.val (.ref a0b), .val (.int off), .val (.ref a2b), .val (.int 0), .val (.int 3), .val (.int 2), .unset, .unset] [(.int (off + (2 : Int32))), (.ref a0b)])) rfl rfl (hb hby d14_82) _ ?_
    show Steps p.tables e below (s₁.setTop (mkF m 83 #[.val (.ref a0b), .val (.int off), .val (.ref a2b), .val (.int 0), .val (.int 3), .val (.int 2), .unset, .unset] [(.int (d2.toInt8.toInt32))])) _
    refine XS.aloadN X0.here hx rfl (hb hby d14_83) rfl rfl ?_
    refine XS.iloadN X0.here hx rfl (hb hby d14_84) rfl ?_
    refine XS.iload X0.here hx rfl (hb hby d14_85) rfl ?_
    refine XS.iadd X0.here hx rfl (hb hby d14_87) rfl ?_
    show Steps p.tables e below (s₁.setTop (mkF m 88 #[.val (.ref a0b), .val (.int off), .val (.ref a2b), .val (.int 0), .val (.int 3), .val (.int 2), .unset, .unset] [(.int 2), (.ref a2b), (.int (d2.toInt8.toInt32))])) _
    refine X0.baloadBytes hx (j := (2 : Int32)) (v := (.int 102)) (by rw [e0]; exact Ar6.1) (State.isArrayOf_alike hZ.alike Ar6.2.1) Ar6.2.2 hin6 hat6 (g := (mkF m 88 #[.val (.ref a0b), .val (.int off), .val (.ref a2b), .val (.int 0), .val (.int 3), .val (.int 2), .unset, .unset] [(.int 2), (.ref a2b), (.int (d2.toInt8.toInt32))])) rfl rfl (hb hby d14_88) _ ?_
    show Steps p.tables e below (s₁.setTop (mkF m 89 #[.val (.ref a0b), .val (.int off), .val (.ref a2b), .val (.int 0), .val (.int 3), .val (.int 2), .unset, .unset] [(.int 102), (.int (d2.toInt8.toInt32))])) _
    refine XS.icmpYes X0.here hx rfl (pc0 := 89) (pc' := 95) rfl (hb hby d14_89) rfl (teq ht2).1 (by decide) (by decide) ?_
    refine XS.iinc X0.here hx rfl (hb hby d14_95) rfl (l' := #[.val (.ref a0b), .val (.int off), .val (.ref a2b), .val (.int 0), .val (.int 3), .val (.int 3), .unset, .unset]) rfl ?_
    refine XS.goto X0.here hx rfl (pc0 := 98) (pc' := 70) rfl (hb hby d14_98) (by decide) (by decide) ?_
    refine XS.iload X0.here hx rfl (hb hby d14_70) rfl ?_
    show Steps p.tables e below (s₁.setTop (mkF m 72 #[.val (.ref a0b), .val (.int off), .val (.ref a2b), .val (.int 0), .val (.int 3), .val (.int 3), .unset, .unset] [(.int 3)])) _
    refine XS.iload X0.here hx rfl (hb hby d14_72) rfl ?_
    refine XS.icmpYes X0.here hx rfl (pc0 := 74) (pc' := 101) rfl (hb hby d14_74) rfl (flt (by decide : ¬ ((3 : Int32) < (3 : Int32)))).2.1 (by decide) (by decide) ?_
    refine XS.iconst X0.here hx rfl (hb hby d14_101) ?_
    show Steps p.tables e below (s₁.setTop (mkF m 102 #[.val (.ref a0b), .val (.int off), .val (.ref a2b), .val (.int 0), .val (.int 3), .val (.int 3), .unset, .unset] [(.int (-1 : Int32))])) _
    exact retI X0 hx Bd.returns (hb hby d14_102) hr
  · show Q_rmMm_mfT n0 Z cS a0b off a2b k0 nl vs k2 d0 d1 d2 h0 _ s₁.heap _
    rw [e0]
    exact ⟨rfl, N0, rfl⟩
theorem d14_92 : decode jdk_48_method_14_code 92 = .ok (.iload 5, 2) := by decide +kernel
theorem d14_94 : decode jdk_48_method_14_code 94 = .ok (.ireturn, 1) := by decide +kernel
def Q_rmMm_mfF (n0 : Nat) (Z : State) (cS : Int32) (a0b : Addr) (off : Int32) (a2b : Addr) (k0 : ClassId) (nl : Int32) (vs : List Value) (k2 : ClassId) (d0 : Int32) (d1 : Int32) (d2 : Int32) (h0 : Heap) (v : Option Value) (h : Heap) (L : List Loc) : Prop := ∃ r : Int32, v = some (.int r) ∧ Fr n0 L ∧ h = h0 ∧ (¬ (r < (0 : Int32)))
set_option maxRecDepth 65536 in
set_option maxHeartbeats 40000000 in
theorem rmMm_mfF (l : Launch) (Z : State) (a0 : Array Value) (hw : ∀ d ∈ tables_1, d.before a0 Z = true) (ws : List Jvm.Cond) (cS : Int32) (a0b : Addr) (off : Int32) (a2b : Addr) (k0 : ClassId) (nl : Int32) (vs : List Value) (k2 : ClassId) (d0 : Int32) (d1 : Int32) (d2 : Int32) (h0 : Heap) (n0 : Nat) (O0 : Old Z n0 h0) (GL : GF Z cS) (V_a0b : Arv Z h0 a0b k0 .byte nl vs (.int 0)) (V_a2b : Arv Z h0 a2b k2 .byte (3 : Int32) [(.int 46), (.int 109), (.int 102)] (.int 0)) (gA0 : vs.getD (off + (0 : Int32)).toNatClampNeg (.int 0) = .int (d0.toInt8.toInt32)) (xA0 : ¬ ((off + (0 : Int32)) < (0 : Int32))) (yA0 : (off + (0 : Int32)) < nl) (lA0 : ¬ ((255 : Int32) < d0)) (nA0 : ¬ (d0 < (0 : Int32))) (gA1 : vs.getD (off + (1 : Int32)).toNatClampNeg (.int 0) = .int (d1.toInt8.toInt32)) (xA1 : ¬ ((off + (1 : Int32)) < (0 : Int32))) (yA1 : (off + (1 : Int32)) < nl) (lA1 : ¬ ((255 : Int32) < d1)) (nA1 : ¬ (d1 < (0 : Int32))) (gA2 : vs.getD (off + (2 : Int32)).toNatClampNeg (.int 0) = .int (d2.toInt8.toInt32)) (xA2 : ¬ ((off + (2 : Int32)) < (0 : Int32))) (yA2 : (off + (2 : Int32)) < nl) (lA2 : ¬ ((255 : Int32) < d2)) (nA2 : ¬ (d2 < (0 : Int32))) (hA : ¬ (d0 = (46 : Int32) ∧ d1 = (109 : Int32) ∧ d2 = (102 : Int32))) :
    MetFree l MN_9 (head1 (Jvm.Cond.code MN_9 jdk_48_method_14_code 8 (some .int) :: ws) ({ frames := 0, cells := 0, slots := 0, locals := 0 } : Room)) (fun a U => a = #[(.ref a0b), (.int off), (.ref a2b), (.int 0), (.int 3)] ∧ Z.Warmed39 U.vm ∧ U.heap = h0) (fun _ _ _ _ _ => True) (fun _ U o U' => ∃ v L, o = .returned v ∧ Q_rmMm_mfF n0 Z cS a0b off a2b k0 nl vs k2 d0 d1 d2 h0 v U'.heap L ∧ FrameEnd U o U' L ({ frames := 0, cells := 0, slots := 0, locals := 0 } : Room).cells ({ frames := 0, cells := 0, slots := 0, locals := 0 } : Room).slots) := by
  refine MetFree.of_bodySF (plainFor_of_name pnv3) hisR ?_
  intro p e s m args below meth c s₁ Bd hml0 hP hK
  obtain ⟨rfl, hZ, hh⟩ := hP
  have hx := Bd.exec
  have hby := Bd.bytes
  have hml : c.maxLocals = 8 := hml0
  have hown : s.vm.findClass "jdk/internal/util/ArraysSupport" = some m.cls := findClass_of_methodNamed Bd.named
  have hnm := (name_of_methodNamed Bd.named Bd.method).1
  have X0 : Stand p l e ({ frames := 0, cells := 0, slots := 0, locals := 0 } : Room) s m #[(.ref a0b), (.int off), (.ref a2b), (.int 0), (.int 3)] below meth c s₁ [] 0 0 := Stand.of_body Bd
  have e0 : s₁.heap = h0 := by rw [← hh, Bd.state]; rfl
  have N0 := Fr.nil n0
  have pre0 : ∀ t, Steps p.tables e below (s₁.setTop (mkF m 0 #[.val (.ref a0b), .val (.int off), .val (.ref a2b), .val (.int 0), .val (.int 3), .unset, .unset, .unset] [])) t → Steps p.tables e below (s₁.setTop (entryFrame m #[(.ref a0b), (.int off), (.ref a2b), (.int 0), (.int 3)] 8)) t := fun t k => castTop (ef_rmMm_mfT m a0b off a2b) k
  have GL' := GL
  obtain ⟨GCS, GCP⟩ := GL'
  obtain ⟨cl1, Ar1, -, S1, N1_, H1, G1⟩ := id (V_a0b)
  have hin1 : ¬ ((off + (0 : Int32)) < 0 ∨ cl1.slots.size ≤ ((off + (0 : Int32))).toNatClampNeg) := inb_of S1 ⟨xA0, yA0⟩
  have hat1 : cl1.slots[((off + (0 : Int32))).toNatClampNeg]? = some (.int (d0.toInt8.toInt32)) := H1.at hin1 gA0
  obtain ⟨cl2, Ar2, -, S2, N2_, H2, G2⟩ := id (V_a2b)
  have hin2 : ¬ ((0 : Int32) < 0 ∨ cl2.slots.size ≤ ((0 : Int32)).toNatClampNeg) := inb_of S2 ⟨(by decide), (by decide)⟩
  have hat2 : cl2.slots[((0 : Int32)).toNatClampNeg]? = some (.int 46) := H2.at hin2 rfl
  have pre3 : ∀ t, Steps p.tables e below (s₁.setTop (mkF m 89 #[.val (.ref a0b), .val (.int off), .val (.ref a2b), .val (.int 0), .val (.int 3), .val (.int 0), .unset, .unset] [(.int 46), (.int (d0.toInt8.toInt32))])) t → Steps p.tables e below (s₁.setTop (entryFrame m #[(.ref a0b), (.int off), (.ref a2b), (.int 0), (.int 3)] 8)) t := fun t kt => by
    refine pre0 t ?_
    show Steps p.tables e below (s₁.setTop (mkF m 0 #[.val (.ref a0b), .val (.int off), .val (.ref a2b), .val (.int 0), .val (.int 3), .unset, .unset, .unset] [])) _
    refine XS.iconst X0.here hx rfl (hb hby d14_0) ?_
    refine XS.istore X0.here hx rfl (hb hby d14_1) rfl (l' := #[.val (.ref a0b), .val (.int off), .val (.ref a2b), .val (.int 0), .val (.int 3), .val (.int 0), .unset, .unset]) rfl ?_
    refine XS.iload X0.here hx rfl (hb hby d14_3) rfl ?_
    refine XS.bipush X0.here hx rfl (hb hby d14_5) ?_
    show Steps p.tables e below (s₁.setTop (mkF m 7 #[.val (.ref a0b), .val (.int off), .val (.ref a2b), .val (.int 0), .val (.int 3), .val (.int 0), .unset, .unset] [(.int 7), (.int 3)])) _
    refine XS.icmpYes X0.here hx rfl (pc0 := 7) (pc' := 70) rfl (hb hby d14_7) rfl (flt (by decide : ¬ ((7 : Int32) < (3 : Int32)))).2.2.2 (by decide) (by decide) ?_
    refine XS.iload X0.here hx rfl (hb hby d14_70) rfl ?_
    refine XS.iload X0.here hx rfl (hb hby d14_72) rfl ?_
    refine XS.icmpNo X0.here hx rfl (hb hby d14_74) rfl (tlt (by decide : (0 : Int32) < (3 : Int32))).2.1 ?_
    show Steps p.tables e below (s₁.setTop (mkF m 77 #[.val (.ref a0b), .val (.int off), .val (.ref a2b), .val (.int 0), .val (.int 3), .val (.int 0), .unset, .unset] [])) _
    refine XS.aloadN X0.here hx rfl (hb hby d14_77) rfl rfl ?_
    refine XS.iloadN X0.here hx rfl (hb hby d14_78) rfl ?_
    refine XS.iload X0.here hx rfl (hb hby d14_79) rfl ?_
    refine XS.iadd X0.here hx rfl (hb hby d14_81) rfl ?_
    show Steps p.tables e below (s₁.setTop (mkF m 82 #[.val (.ref a0b), .val (.int off), .val (.ref a2b), .val (.int 0), .val (.int 3), .val (.int 0), .unset, .unset] [(.int (off + (0 : Int32))), (.ref a0b)])) _
    refine X0.baloadBytes hx (j := (off + (0 : Int32))) (v := (.int (d0.toInt8.toInt32))) (by rw [e0]; exact Ar1.1) (State.isArrayOf_alike hZ.alike Ar1.2.1) Ar1.2.2 hin1 hat1 (g := (mkF m 82 #[.val (.ref a0b), .val (.int off), .val (.ref a2b), .val (.int 0), .val (.int 3), .val (.int 0), .unset, .unset] [(.int (off + (0 : Int32))), (.ref a0b)])) rfl rfl (hb hby d14_82) _ ?_
    show Steps p.tables e below (s₁.setTop (mkF m 83 #[.val (.ref a0b), .val (.int off), .val (.ref a2b), .val (.int 0), .val (.int 3), .val (.int 0), .unset, .unset] [(.int (d0.toInt8.toInt32))])) _
    refine XS.aloadN X0.here hx rfl (hb hby d14_83) rfl rfl ?_
    refine XS.iloadN X0.here hx rfl (hb hby d14_84) rfl ?_
    refine XS.iload X0.here hx rfl (hb hby d14_85) rfl ?_
    refine XS.iadd X0.here hx rfl (hb hby d14_87) rfl ?_
    show Steps p.tables e below (s₁.setTop (mkF m 88 #[.val (.ref a0b), .val (.int off), .val (.ref a2b), .val (.int 0), .val (.int 3), .val (.int 0), .unset, .unset] [(.int 0), (.ref a2b), (.int (d0.toInt8.toInt32))])) _
    refine X0.baloadBytes hx (j := (0 : Int32)) (v := (.int 46)) (by rw [e0]; exact Ar2.1) (State.isArrayOf_alike hZ.alike Ar2.2.1) Ar2.2.2 hin2 hat2 (g := (mkF m 88 #[.val (.ref a0b), .val (.int off), .val (.ref a2b), .val (.int 0), .val (.int 3), .val (.int 0), .unset, .unset] [(.int 0), (.ref a2b), (.int (d0.toInt8.toInt32))])) rfl rfl (hb hby d14_88) _ ?_
    exact kt
  by_cases hf0 : (d0.toInt8.toInt32) = (46 : Int32)
  · obtain ⟨cl4, Ar4, -, S4, N4_, H4, G4⟩ := id (V_a0b)
    have hin4 : ¬ ((off + (1 : Int32)) < 0 ∨ cl4.slots.size ≤ ((off + (1 : Int32))).toNatClampNeg) := inb_of S4 ⟨xA1, yA1⟩
    have hat4 : cl4.slots[((off + (1 : Int32))).toNatClampNeg]? = some (.int (d1.toInt8.toInt32)) := H4.at hin4 gA1
    obtain ⟨cl5, Ar5, -, S5, N5_, H5, G5⟩ := id (V_a2b)
    have hin5 : ¬ ((1 : Int32) < 0 ∨ cl5.slots.size ≤ ((1 : Int32)).toNatClampNeg) := inb_of S5 ⟨(by decide), (by decide)⟩
    have hat5 : cl5.slots[((1 : Int32)).toNatClampNeg]? = some (.int 109) := H5.at hin5 rfl
    have pre6 : ∀ t, Steps p.tables e below (s₁.setTop (mkF m 89 #[.val (.ref a0b), .val (.int off), .val (.ref a2b), .val (.int 0), .val (.int 3), .val (.int 1), .unset, .unset] [(.int 109), (.int (d1.toInt8.toInt32))])) t → Steps p.tables e below (s₁.setTop (entryFrame m #[(.ref a0b), (.int off), (.ref a2b), (.int 0), (.int 3)] 8)) t := fun t kt => by
      refine pre3 t ?_
      show Steps p.tables e below (s₁.setTop (mkF m 89 #[.val (.ref a0b), .val (.int off), .val (.ref a2b), .val (.int 0), .val (.int 3), .val (.int 0), .unset, .unset] [(.int 46), (.int (d0.toInt8.toInt32))])) _
      refine XS.icmpYes X0.here hx rfl (pc0 := 89) (pc' := 95) rfl (hb hby d14_89) rfl (teq hf0).1 (by decide) (by decide) ?_
      refine XS.iinc X0.here hx rfl (hb hby d14_95) rfl (l' := #[.val (.ref a0b), .val (.int off), .val (.ref a2b), .val (.int 0), .val (.int 3), .val (.int 1), .unset, .unset]) rfl ?_
      refine XS.goto X0.here hx rfl (pc0 := 98) (pc' := 70) rfl (hb hby d14_98) (by decide) (by decide) ?_
      refine XS.iload X0.here hx rfl (hb hby d14_70) rfl ?_
      show Steps p.tables e below (s₁.setTop (mkF m 72 #[.val (.ref a0b), .val (.int off), .val (.ref a2b), .val (.int 0), .val (.int 3), .val (.int 1), .unset, .unset] [(.int 1)])) _
      refine XS.iload X0.here hx rfl (hb hby d14_72) rfl ?_
      refine XS.icmpNo X0.here hx rfl (hb hby d14_74) rfl (tlt (by decide : (1 : Int32) < (3 : Int32))).2.1 ?_
      refine XS.aloadN X0.here hx rfl (hb hby d14_77) rfl rfl ?_
      refine XS.iloadN X0.here hx rfl (hb hby d14_78) rfl ?_
      show Steps p.tables e below (s₁.setTop (mkF m 79 #[.val (.ref a0b), .val (.int off), .val (.ref a2b), .val (.int 0), .val (.int 3), .val (.int 1), .unset, .unset] [(.int off), (.ref a0b)])) _
      refine XS.iload X0.here hx rfl (hb hby d14_79) rfl ?_
      refine XS.iadd X0.here hx rfl (hb hby d14_81) rfl ?_
      show Steps p.tables e below (s₁.setTop (mkF m 82 #[.val (.ref a0b), .val (.int off), .val (.ref a2b), .val (.int 0), .val (.int 3), .val (.int 1), .unset, .unset] [(.int (off + (1 : Int32))), (.ref a0b)])) _
      refine X0.baloadBytes hx (j := (off + (1 : Int32))) (v := (.int (d1.toInt8.toInt32))) (by rw [e0]; exact Ar4.1) (State.isArrayOf_alike hZ.alike Ar4.2.1) Ar4.2.2 hin4 hat4 (g := (mkF m 82 #[.val (.ref a0b), .val (.int off), .val (.ref a2b), .val (.int 0), .val (.int 3), .val (.int 1), .unset, .unset] [(.int (off + (1 : Int32))), (.ref a0b)])) rfl rfl (hb hby d14_82) _ ?_
      show Steps p.tables e below (s₁.setTop (mkF m 83 #[.val (.ref a0b), .val (.int off), .val (.ref a2b), .val (.int 0), .val (.int 3), .val (.int 1), .unset, .unset] [(.int (d1.toInt8.toInt32))])) _
      refine XS.aloadN X0.here hx rfl (hb hby d14_83) rfl rfl ?_
      refine XS.iloadN X0.here hx rfl (hb hby d14_84) rfl ?_
      refine XS.iload X0.here hx rfl (hb hby d14_85) rfl ?_
      refine XS.iadd X0.here hx rfl (hb hby d14_87) rfl ?_
      show Steps p.tables e below (s₁.setTop (mkF m 88 #[.val (.ref a0b), .val (.int off), .val (.ref a2b), .val (.int 0), .val (.int 3), .val (.int 1), .unset, .unset] [(.int 1), (.ref a2b), (.int (d1.toInt8.toInt32))])) _
      refine X0.baloadBytes hx (j := (1 : Int32)) (v := (.int 109)) (by rw [e0]; exact Ar5.1) (State.isArrayOf_alike hZ.alike Ar5.2.1) Ar5.2.2 hin5 hat5 (g := (mkF m 88 #[.val (.ref a0b), .val (.int off), .val (.ref a2b), .val (.int 0), .val (.int 3), .val (.int 1), .unset, .unset] [(.int 1), (.ref a2b), (.int (d1.toInt8.toInt32))])) rfl rfl (hb hby d14_88) _ ?_
      exact kt
    by_cases hf1 : (d1.toInt8.toInt32) = (109 : Int32)
    · obtain ⟨cl7, Ar7, -, S7, N7_, H7, G7⟩ := id (V_a0b)
      have hin7 : ¬ ((off + (2 : Int32)) < 0 ∨ cl7.slots.size ≤ ((off + (2 : Int32))).toNatClampNeg) := inb_of S7 ⟨xA2, yA2⟩
      have hat7 : cl7.slots[((off + (2 : Int32))).toNatClampNeg]? = some (.int (d2.toInt8.toInt32)) := H7.at hin7 gA2
      obtain ⟨cl8, Ar8, -, S8, N8_, H8, G8⟩ := id (V_a2b)
      have hin8 : ¬ ((2 : Int32) < 0 ∨ cl8.slots.size ≤ ((2 : Int32)).toNatClampNeg) := inb_of S8 ⟨(by decide), (by decide)⟩
      have hat8 : cl8.slots[((2 : Int32)).toNatClampNeg]? = some (.int 102) := H8.at hin8 rfl
      have pre9 : ∀ t, Steps p.tables e below (s₁.setTop (mkF m 89 #[.val (.ref a0b), .val (.int off), .val (.ref a2b), .val (.int 0), .val (.int 3), .val (.int 2), .unset, .unset] [(.int 102), (.int (d2.toInt8.toInt32))])) t → Steps p.tables e below (s₁.setTop (entryFrame m #[(.ref a0b), (.int off), (.ref a2b), (.int 0), (.int 3)] 8)) t := fun t kt => by
        refine pre6 t ?_
        show Steps p.tables e below (s₁.setTop (mkF m 89 #[.val (.ref a0b), .val (.int off), .val (.ref a2b), .val (.int 0), .val (.int 3), .val (.int 1), .unset, .unset] [(.int 109), (.int (d1.toInt8.toInt32))])) _
        refine XS.icmpYes X0.here hx rfl (pc0 := 89) (pc' := 95) rfl (hb hby d14_89) rfl (teq hf1).1 (by decide) (by decide) ?_
        refine XS.iinc X0.here hx rfl (hb hby d14_95) rfl (l' := #[.val (.ref a0b), .val (.int off), .val (.ref a2b), .val (.int 0), .val (.int 3), .val (.int 2), .unset, .unset]) rfl ?_
        refine XS.goto X0.here hx rfl (pc0 := 98) (pc' := 70) rfl (hb hby d14_98) (by decide) (by decide) ?_
        refine XS.iload X0.here hx rfl (hb hby d14_70) rfl ?_
        show Steps p.tables e below (s₁.setTop (mkF m 72 #[.val (.ref a0b), .val (.int off), .val (.ref a2b), .val (.int 0), .val (.int 3), .val (.int 2), .unset, .unset] [(.int 2)])) _
        refine XS.iload X0.here hx rfl (hb hby d14_72) rfl ?_
        refine XS.icmpNo X0.here hx rfl (hb hby d14_74) rfl (tlt (by decide : (2 : Int32) < (3 : Int32))).2.1 ?_
        refine XS.aloadN X0.here hx rfl (hb hby d14_77) rfl rfl ?_
        refine XS.iloadN X0.here hx rfl (hb hby d14_78) rfl ?_
        show Steps p.tables e below (s₁.setTop (mkF m 79 #[.val (.ref a0b), .val (.int off), .val (.ref a2b), .val (.int 0), .val (.int 3), .val (.int 2), .unset, .unset] [(.int off), (.ref a0b)])) _
        refine XS.iload X0.here hx rfl (hb hby d14_79) rfl ?_
        refine XS.iadd X0.here hx rfl (hb hby d14_81) rfl ?_
        show Steps p.tables e below (s₁.setTop (mkF m 82 #[.val (.ref a0b), .val (.int off), .val (.ref a2b), .val (.int 0), .val (.int 3), .val (.int 2), .unset, .unset] [(.int (off + (2 : Int32))), (.ref a0b)])) _
        refine X0.baloadBytes hx (j := (off + (2 : Int32))) (v := (.int (d2.toInt8.toInt32))) (by rw [e0]; exact Ar7.1) (State.isArrayOf_alike hZ.alike Ar7.2.1) Ar7.2.2 hin7 hat7 (g := (mkF m 82 #[.val (.ref a0b), .val (.int off), .val (.ref a2b), .val (.int 0), .val (.int 3), .val (.int 2), .unset, .unset] [(.int (off + (2 : Int32))), (.ref a0b)])) rfl rfl (hb hby d14_82) _ ?_
        show Steps p.tables e below (s₁.setTop (mkF m 83 #[.val (.ref a0b), .val (.int off), .val (.ref a2b), .val (.int 0), .val (.int 3), .val (.int 2), .unset, .unset] [(.int (d2.toInt8.toInt32))])) _
        refine XS.aloadN X0.here hx rfl (hb hby d14_83) rfl rfl ?_
        refine XS.iloadN X0.here hx rfl (hb hby d14_84) rfl ?_
        refine XS.iload X0.here hx rfl (hb hby d14_85) rfl ?_
        refine XS.iadd X0.here hx rfl (hb hby d14_87) rfl ?_
        show Steps p.tables e below (s₁.setTop (mkF m 88 #[.val (.ref a0b), .val (.int off), .val (.ref a2b), .val (.int 0), .val (.int 3), .val (.int 2), .unset, .unset] [(.int 2), (.ref a2b), (.int (d2.toInt8.toInt32))])) _
        refine X0.baloadBytes hx (j := (2 : Int32)) (v := (.int 102)) (by rw [e0]; exact Ar8.1) (State.isArrayOf_alike hZ.alike Ar8.2.1) Ar8.2.2 hin8 hat8 (g := (mkF m 88 #[.val (.ref a0b), .val (.int off), .val (.ref a2b), .val (.int 0), .val (.int 3), .val (.int 2), .unset, .unset] [(.int 2), (.ref a2b), (.int (d2.toInt8.toInt32))])) rfl rfl (hb hby d14_88) _ ?_
        exact kt
      by_cases hf2 : (d2.toInt8.toInt32) = (102 : Int32)
      · exact absurd ⟨own_bq lA0 nA0 (by decide) (by decide) hf0, own_bq lA1 nA1 (by decide) (by decide) hf1, own_bq lA2 nA2 (by decide) (by decide) hf2⟩ hA
      · have hr0 : ¬ ((2 : Int32) < (0 : Int32)) := (by decide)
        obtain ⟨fs, hr, hrun, hended, hW, hsame⟩ := X0.leave (v := some (.int 2)) (fun h => by rw [Bd.returns] at h; cases h)
        refine ⟨_, _, pre9 _ ?_, hrun, hended, _, _, rfl, ?_, ⟨_, rfl⟩, hW, hsame.mono (by decide) (by decide)⟩
        · show Steps p.tables e below (s₁.setTop (mkF m 89 #[.val (.ref a0b), .val (.int off), .val (.ref a2b), .val (.int 0), .val (.int 3), .val (.int 2), .unset, .unset] [(.int 102), (.int (d2.toInt8.toInt32))])) _
          refine XS.icmpNo X0.here hx rfl (hb hby d14_89) rfl (feq hf2).1 ?_
          refine XS.iload X0.here hx rfl (hb hby d14_92) rfl ?_
          show Steps p.tables e below (s₁.setTop (mkF m 94 #[.val (.ref a0b), .val (.int off), .val (.ref a2b), .val (.int 0), .val (.int 3), .val (.int 2), .unset, .unset] [(.int 2)])) _
          exact retI X0 hx Bd.returns (hb hby d14_94) hr
        · show Q_rmMm_mfF n0 Z cS a0b off a2b k0 nl vs k2 d0 d1 d2 h0 _ s₁.heap _
          rw [e0]
          exact ⟨(2 : Int32), rfl, N0, rfl, hr0⟩
    · have hr0 : ¬ ((1 : Int32) < (0 : Int32)) := (by decide)
      obtain ⟨fs, hr, hrun, hended, hW, hsame⟩ := X0.leave (v := some (.int 1)) (fun h => by rw [Bd.returns] at h; cases h)
      refine ⟨_, _, pre6 _ ?_, hrun, hended, _, _, rfl, ?_, ⟨_, rfl⟩, hW, hsame.mono (by decide) (by decide)⟩
      · show Steps p.tables e below (s₁.setTop (mkF m 89 #[.val (.ref a0b), .val (.int off), .val (.ref a2b), .val (.int 0), .val (.int 3), .val (.int 1), .unset, .unset] [(.int 109), (.int (d1.toInt8.toInt32))])) _
        refine XS.icmpNo X0.here hx rfl (hb hby d14_89) rfl (feq hf1).1 ?_
        refine XS.iload X0.here hx rfl (hb hby d14_92) rfl ?_
        show Steps p.tables e below (s₁.setTop (mkF m 94 #[.val (.ref a0b), .val (.int off), .val (.ref a2b), .val (.int 0), .val (.int 3), .val (.int 1), .unset, .unset] [(.int 1)])) _
        exact retI X0 hx Bd.returns (hb hby d14_94) hr
      · show Q_rmMm_mfF n0 Z cS a0b off a2b k0 nl vs k2 d0 d1 d2 h0 _ s₁.heap _
        rw [e0]
        exact ⟨(1 : Int32), rfl, N0, rfl, hr0⟩
  · have hr0 : ¬ ((0 : Int32) < (0 : Int32)) := (by decide)
    obtain ⟨fs, hr, hrun, hended, hW, hsame⟩ := X0.leave (v := some (.int 0)) (fun h => by rw [Bd.returns] at h; cases h)
    refine ⟨_, _, pre3 _ ?_, hrun, hended, _, _, rfl, ?_, ⟨_, rfl⟩, hW, hsame.mono (by decide) (by decide)⟩
    · show Steps p.tables e below (s₁.setTop (mkF m 89 #[.val (.ref a0b), .val (.int off), .val (.ref a2b), .val (.int 0), .val (.int 3), .val (.int 0), .unset, .unset] [(.int 46), (.int (d0.toInt8.toInt32))])) _
      refine XS.icmpNo X0.here hx rfl (hb hby d14_89) rfl (feq hf0).1 ?_
      refine XS.iload X0.here hx rfl (hb hby d14_92) rfl ?_
      show Steps p.tables e below (s₁.setTop (mkF m 94 #[.val (.ref a0b), .val (.int off), .val (.ref a2b), .val (.int 0), .val (.int 3), .val (.int 0), .unset, .unset] [(.int 0)])) _
      exact retI X0 hx Bd.returns (hb hby d14_94) hr
    · show Q_rmMm_mfF n0 Z cS a0b off a2b k0 nl vs k2 d0 d1 d2 h0 _ s₁.heap _
      rw [e0]
      exact ⟨(0 : Int32), rfl, N0, rfl, hr0⟩
theorem d10_0 : decode jdk_42_method_75_code 0 = .ok (.iload_n 2, 1) := by decide +kernel
theorem d10_1 : decode jdk_42_method_75_code 1 = .ok (.ifCond .lt 16, 3) := by decide +kernel
theorem d10_17 : decode jdk_42_method_75_code 17 = .ok (.iconst 0, 1) := by decide +kernel
theorem d10_18 : decode jdk_42_method_75_code 18 = .ok (.ireturn, 1) := by decide +kernel
abbrev MN_10 : MethodName := ⟨"java/lang/String", "startsWith", "(Ljava/lang/String;I)Z"⟩
theorem ef_rmSw_mfneg (m : MethodId) (a0s : Addr) (a1s : Addr) (off : Int32) : entryFrame m #[(.ref a0s), (.ref a1s), (.int off)] 8 = mkF m 0 #[.val (.ref a0s), .val (.ref a1s), .val (.int off), .unset, .unset, .unset, .unset, .unset] [] := by first | (simp [entryFrame, mkF, argsToLocals, Value.category]; done) | rfl
def Q_rmSw_mfneg (n0 : Nat) (Z : State) (cS : Int32) (a0s : Addr) (a1s : Addr) (off : Int32) (a0b : Addr) (k0 : ClassId) (nl : Int32) (vs : List Value) (a2b : Addr) (k2 : ClassId) (h0 : Heap) (v : Option Value) (h : Heap) (L : List Loc) : Prop := v = some (.int 0) ∧ Fr n0 L ∧ h = h0
set_option maxRecDepth 65536 in
set_option maxHeartbeats 40000000 in
theorem rmSw_mfneg (l : Launch) (Z : State) (a0 : Array Value) (hw : ∀ d ∈ tables_1, d.before a0 Z = true) (ws : List Jvm.Cond) (cS : Int32) (a0s : Addr) (a1s : Addr) (off : Int32) (a0b : Addr) (k0 : ClassId) (nl : Int32) (vs : List Value) (a2b : Addr) (k2 : ClassId) (h0 : Heap) (n0 : Nat) (O0 : Old Z n0 h0) (GL : GF Z cS) (E_a0s : Exa Z h0 a0s "java/lang/String") (F_value_a0s : Fld Z h0 a0s "java/lang/String" "value" "[B" (.ref a0b)) (F_coder_a0s : Fld Z h0 a0s "java/lang/String" "coder" "B" (.int 0)) (V_a0b : Arv Z h0 a0b k0 .byte nl vs (.int 0)) (E_a1s : Exa Z h0 a1s "java/lang/String") (F_value_a1s : Fld Z h0 a1s "java/lang/String" "value" "[B" (.ref a2b)) (F_coder_a1s : Fld Z h0 a1s "java/lang/String" "coder" "B" (.int 0)) (V_a2b : Arv Z h0 a2b k2 .byte (3 : Int32) [(.int 46), (.int 109), (.int 102)] (.int 0)) (hng : off < (0 : Int32)) :
    MetFree l MN_10 (head1 (Jvm.Cond.code MN_10 jdk_42_method_75_code 8 (some .boolean) :: ws) ({ frames := 0, cells := 0, slots := 0, locals := 0 } : Room)) (fun a U => a = #[(.ref a0s), (.ref a1s), (.int off)] ∧ Z.Warmed39 U.vm ∧ U.heap = h0) (fun _ _ _ _ _ => True) (fun _ U o U' => ∃ v L, o = .returned v ∧ Q_rmSw_mfneg n0 Z cS a0s a1s off a0b k0 nl vs a2b k2 h0 v U'.heap L ∧ FrameEnd U o U' L ({ frames := 0, cells := 0, slots := 0, locals := 0 } : Room).cells ({ frames := 0, cells := 0, slots := 0, locals := 0 } : Room).slots) := by
  refine MetFree.of_bodySF (plainFor_of_name pnv1) hisR ?_
  intro p e s m args below meth c s₁ Bd hml0 hP hK
  obtain ⟨rfl, hZ, hh⟩ := hP
  have hx := Bd.exec
  have hby := Bd.bytes
  have hml : c.maxLocals = 8 := hml0
  have hown : s.vm.findClass "java/lang/String" = some m.cls := findClass_of_methodNamed Bd.named
  have hnm := (name_of_methodNamed Bd.named Bd.method).1
  have X0 : Stand p l e ({ frames := 0, cells := 0, slots := 0, locals := 0 } : Room) s m #[(.ref a0s), (.ref a1s), (.int off)] below meth c s₁ [] 0 0 := Stand.of_body Bd
  have e0 : s₁.heap = h0 := by rw [← hh, Bd.state]; rfl
  have N0 := Fr.nil n0
  have pre0 : ∀ t, Steps p.tables e below (s₁.setTop (mkF m 0 #[.val (.ref a0s), .val (.ref a1s), .val (.int off), .unset, .unset, .unset, .unset, .unset] [])) t → Steps p.tables e below (s₁.setTop (entryFrame m #[(.ref a0s), (.ref a1s), (.int off)] 8)) t := fun t k => castTop (ef_rmSw_mfneg m a0s a1s off) k
  have GL' := GL
  obtain ⟨GCS, GCP⟩ := GL'
  obtain ⟨fs, hr, hrun, hended, hW, hsame⟩ := X0.leave (v := some (.int 0)) (fun h => by rw [Bd.returns] at h; cases h)
  refine ⟨_, _, pre0 _ ?_, hrun, hended, _, _, rfl, ?_, ⟨_, rfl⟩, hW, hsame.mono (by decide) (by decide)⟩
  · show Steps p.tables e below (s₁.setTop (mkF m 0 #[.val (.ref a0s), .val (.ref a1s), .val (.int off), .unset, .unset, .unset, .unset, .unset] [])) _
    refine XS.iloadN X0.here hx rfl (hb hby d10_0) rfl ?_
    refine XS.ifYes X0.here hx rfl (pc0 := 1) (pc' := 17) rfl (hb hby d10_1) rfl ((if0 _ _).trans (tlt hng).1) (by decide) (by decide) ?_
    refine XS.iconst X0.here hx rfl (hb hby d10_17) ?_
    show Steps p.tables e below (s₁.setTop (mkF m 18 #[.val (.ref a0s), .val (.ref a1s), .val (.int off), .unset, .unset, .unset, .unset, .unset] [(.int 0)])) _
    exact retN X0 hx (t := .boolean) Bd.returns (by simp) (hb hby d10_18) hr
  · show Q_rmSw_mfneg n0 Z cS a0s a1s off a0b k0 nl vs a2b k2 h0 _ s₁.heap _
    rw [e0]
    exact ⟨rfl, N0, rfl⟩
theorem d7_0 : decode jdk_42_method_77_code 0 = .ok (.aload_n 0, 1) := by decide +kernel
theorem d7_1 : decode jdk_42_method_77_code 1 = .ok (.aload_n 1, 1) := by decide +kernel
theorem d7_2 : decode jdk_42_method_77_code 2 = .ok (.aload_n 0, 1) := by decide +kernel
theorem d7_3 : decode jdk_42_method_77_code 3 = .ok (.invokevirtual 505, 3) := by decide +kernel
theorem pdv6 : parseMethodDescriptor "()I" = some ⟨[], some .int⟩ := by decide +kernel
theorem d7_6 : decode jdk_42_method_77_code 6 = .ok (.aload_n 1, 1) := by decide +kernel
theorem d7_7 : decode jdk_42_method_77_code 7 = .ok (.invokevirtual 505, 3) := by decide +kernel
theorem d7_10 : decode jdk_42_method_77_code 10 = .ok (.isub, 1) := by decide +kernel
theorem d7_11 : decode jdk_42_method_77_code 11 = .ok (.invokevirtual 624, 3) := by decide +kernel
theorem pdv7 : parseMethodDescriptor "(Ljava/lang/String;I)Z" = some ⟨[(.object "java/lang/String"), .int], some .boolean⟩ := by decide +kernel
theorem d7_14 : decode jdk_42_method_77_code 14 = .ok (.ireturn, 1) := by decide +kernel
abbrev MN_11 : MethodName := ⟨"java/lang/String", "endsWith", "(Ljava/lang/String;)Z"⟩
theorem ef_rmEw_mfneg (m : MethodId) (a0s : Addr) (a1s : Addr) : entryFrame m #[(.ref a0s), (.ref a1s)] 2 = mkF m 0 #[.val (.ref a0s), .val (.ref a1s)] [] := by first | (simp [entryFrame, mkF, argsToLocals, Value.category]; done) | rfl
def Q_rmEw_mfneg (n0 : Nat) (Z : State) (cS : Int32) (a0s : Addr) (a1s : Addr) (a0b : Addr) (k0 : ClassId) (nl : Int32) (vs : List Value) (a2b : Addr) (k2 : ClassId) (h0 : Heap) (v : Option Value) (h : Heap) (L : List Loc) : Prop := v = some (.int 0) ∧ Fr n0 L ∧ h = h0
set_option maxRecDepth 65536 in
set_option maxHeartbeats 40000000 in
theorem rmEw_mfneg (l : Launch) (Z : State) (a0 : Array Value) (hw : ∀ d ∈ tables_1, d.before a0 Z = true) (ws : List Jvm.Cond) (cS : Int32) (a0s : Addr) (a1s : Addr) (a0b : Addr) (k0 : ClassId) (nl : Int32) (vs : List Value) (a2b : Addr) (k2 : ClassId) (h0 : Heap) (n0 : Nat) (O0 : Old Z n0 h0) (GL : GF Z cS) (E_a0s : Exa Z h0 a0s "java/lang/String") (F_value_a0s : Fld Z h0 a0s "java/lang/String" "value" "[B" (.ref a0b)) (F_coder_a0s : Fld Z h0 a0s "java/lang/String" "coder" "B" (.int 0)) (V_a0b : Arv Z h0 a0b k0 .byte nl vs (.int 0)) (E_a1s : Exa Z h0 a1s "java/lang/String") (F_value_a1s : Fld Z h0 a1s "java/lang/String" "value" "[B" (.ref a2b)) (F_coder_a1s : Fld Z h0 a1s "java/lang/String" "coder" "B" (.int 0)) (V_a2b : Arv Z h0 a2b k2 .byte (3 : Int32) [(.int 46), (.int 109), (.int 102)] (.int 0)) (hng : (nl - (3 : Int32)) < (0 : Int32)) :
    MetFree l MN_11 (head1 (Jvm.Cond.code MN_11 jdk_42_method_77_code 2 (some .boolean) :: ws) ({ frames := 2, cells := 0, slots := 0, locals := 28 } : Room)) (fun a U => a = #[(.ref a0s), (.ref a1s)] ∧ Z.Warmed39 U.vm ∧ U.heap = h0) (fun _ _ _ _ _ => True) (fun _ U o U' => ∃ v L, o = .returned v ∧ Q_rmEw_mfneg n0 Z cS a0s a1s a0b k0 nl vs a2b k2 h0 v U'.heap L ∧ FrameEnd U o U' L ({ frames := 2, cells := 0, slots := 0, locals := 28 } : Room).cells ({ frames := 2, cells := 0, slots := 0, locals := 28 } : Room).slots) := by
  refine MetFree.of_bodySF (plainFor_of_name pnv1) hisR ?_
  intro p e s m args below meth c s₁ Bd hml0 hP hK
  obtain ⟨rfl, hZ, hh⟩ := hP
  have hx := Bd.exec
  have hby := Bd.bytes
  have hml : c.maxLocals = 2 := hml0
  have hown : s.vm.findClass "java/lang/String" = some m.cls := findClass_of_methodNamed Bd.named
  have hnm := (name_of_methodNamed Bd.named Bd.method).1
  have X0 : Stand p l e ({ frames := 2, cells := 0, slots := 0, locals := 28 } : Room) s m #[(.ref a0s), (.ref a1s)] below meth c s₁ [] 0 0 := Stand.of_body Bd
  have e0 : s₁.heap = h0 := by rw [← hh, Bd.state]; rfl
  have N0 := Fr.nil n0
  have pre0 : ∀ t, Steps p.tables e below (s₁.setTop (mkF m 0 #[.val (.ref a0s), .val (.ref a1s)] [])) t → Steps p.tables e below (s₁.setTop (entryFrame m #[(.ref a0s), (.ref a1s)] 2)) t := fun t k => castTop (ef_rmEw_mfneg m a0s a1s) k
  have GL' := GL
  obtain ⟨GCS, GCP⟩ := GL'
  obtain ⟨cq1, kq1, q1a, q1b, q1c⟩ := isOf hZ e0 E_a0s
  obtain ⟨_, _, ⟨T1, L1, k1, n1⟩, -, X1, ⟨Lc1, hQ1, l1, y1, z1⟩, st1⟩ := X0.virtualBack hx (y := MN_8) (z := MN_8) hown (mvT hZ (Wd hw 40 rfl)) (mvT hZ (Wd hw 41 rfl)) (notFace_of_selects (args := #[]) (mvT hZ (Wd hw 43 rfl))) (mvT hZ (Wd hw 43 rfl)) (mvT hZ (Wd hw 42 rfl)) (by decide) (backOf (W := 2) (rmLen l Z a0 hw [] cS (a0s) (a0b) (k0) (nl) (vs) (h0) n0 O0 GL E_a0s F_value_a0s F_coder_a0s V_a0b) hZ (Wd hw 44 rfl) (Wd hw 11 rfl) (by decide) (by decide)) q1a q1c (g := (mkF m 3 #[.val (.ref a0s), .val (.ref a1s)] [(.ref a0s), (.ref a1s), (.ref a0s)])) rfl (by rw [hml]; rfl) (Steps.refl _) (argsL := []) (rest := [(.ref a1s), (.ref a0s)]) (lenOf pdv6 rfl) rfl (by show 2 * 0 + _ ≤ _; exact Nat.le_of_eq rfl) (hb hby d7_3) (fun _ _ => ⟨rfl, e0, (by decide : 0 + 0 ≤ _), (by decide : 0 + 0 ≤ _)⟩)
  dsimp only [Pt.U, Pt.locs, Pt.cells, Pt.slots] at X1 l1 y1 z1 st1 hQ1
  subst l1 y1 z1
  obtain ⟨rfl, N1q, e1⟩ := hQ1
  have N1 := Fr.app N0 N1q
  obtain ⟨cq2, kq2, q2a, q2b, q2c⟩ := isOf hZ e1 E_a1s
  obtain ⟨_, _, ⟨T2, L2, k2, n2⟩, -, X2, ⟨Lc2, hQ2, l2, y2, z2⟩, st2⟩ := X1.virtualBack hx (y := MN_8) (z := MN_8) hown (mvT hZ (Wd hw 40 rfl)) (mvT hZ (Wd hw 41 rfl)) (notFace_of_selects (args := #[]) (mvT hZ (Wd hw 43 rfl))) (mvT hZ (Wd hw 43 rfl)) (mvT hZ (Wd hw 42 rfl)) (by decide) (backOf (W := 3) (rmLen l Z a0 hw [] cS (a1s) (a2b) (k2) ((3 : Int32)) ([(.int 46), (.int 109), (.int 102)]) (h0) n0 O0 GL E_a1s F_value_a1s F_coder_a1s V_a2b) hZ (Wd hw 44 rfl) (Wd hw 11 rfl) (by decide) (by decide)) q2a q2c (g := (mkF m 7 #[.val (.ref a0s), .val (.ref a1s)] [(.ref a1s), (.int nl), (.ref a1s), (.ref a0s)])) rfl (by rw [hml]; rfl) (Steps.refl _) (argsL := []) (rest := [(.int nl), (.ref a1s), (.ref a0s)]) (lenOf pdv6 rfl) rfl (by show 2 * 0 + _ ≤ _; exact Nat.le_of_eq rfl) (hb hby d7_7) (fun _ _ => ⟨rfl, e1, (by decide : 0 + 0 ≤ _), (by decide : 0 + 0 ≤ _)⟩)
  dsimp only [Pt.U, Pt.locs, Pt.cells, Pt.slots] at X2 l2 y2 z2 st2 hQ2
  subst l2 y2 z2
  obtain ⟨rfl, N2q, e2⟩ := hQ2
  have N2 := Fr.app N1 N2q
  obtain ⟨cq3, kq3, q3a, q3b, q3c⟩ := isOf hZ e2 E_a0s
  obtain ⟨_, _, ⟨T3, L3, k3, n3⟩, -, X3, ⟨Lc3, hQ3, l3, y3, z3⟩, st3⟩ := X2.virtualBack hx (y := MN_10) (z := MN_10) hown (mvT hZ (Wd hw 51 rfl)) (mvT hZ (Wd hw 52 rfl)) (notFace_of_selects (args := #[]) (mvT hZ (Wd hw 54 rfl))) (mvT hZ (Wd hw 54 rfl)) (mvT hZ (Wd hw 53 rfl)) (by decide) (backOf (W := 0) (rmSw_mfneg l Z a0 hw [] cS (a0s) (a1s) ((nl - (3 : Int32))) (a0b) (k0) (nl) (vs) (a2b) (k2) (h0) n0 O0 GL E_a0s F_value_a0s F_coder_a0s V_a0b E_a1s F_value_a1s F_coder_a1s V_a2b hng) hZ (Wd hw 55 rfl) (Wd hw 11 rfl) (by decide) (by decide)) q3a q3c (g := (mkF m 11 #[.val (.ref a0s), .val (.ref a1s)] [(.int (nl - (3 : Int32))), (.ref a1s), (.ref a0s)])) rfl (by rw [hml]; rfl) (Steps.refl _) (argsL := [(.ref a1s), (.int (nl - (3 : Int32)))]) (rest := []) (lenOf pdv7 rfl) rfl (by show 2 * 0 + _ ≤ _; exact Nat.le_of_eq rfl) (hb hby d7_11) (fun _ _ => ⟨rfl, e2, (by decide : 0 + 0 ≤ _), (by decide : 0 + 0 ≤ _)⟩)
  dsimp only [Pt.U, Pt.locs, Pt.cells, Pt.slots] at X3 l3 y3 z3 st3 hQ3
  subst l3 y3 z3
  obtain ⟨rfl, N3q, e3⟩ := hQ3
  have N3 := Fr.app N2 N3q
  obtain ⟨fs, hr, hrun, hended, hW, hsame⟩ := X3.leave (v := some (.int 0)) (fun h => by rw [Bd.returns] at h; cases h)
  refine ⟨_, _, pre0 _ ?_, hrun, hended, _, _, rfl, ?_, ⟨_, rfl⟩, hW, hsame.mono (by decide) (by decide)⟩
  · show Steps p.tables e below (s₁.setTop (mkF m 0 #[.val (.ref a0s), .val (.ref a1s)] [])) _
    refine XS.aloadN X0.here hx rfl (hb hby d7_0) rfl rfl ?_
    refine XS.aloadN X0.here hx rfl (hb hby d7_1) rfl rfl ?_
    refine XS.aloadN X0.here hx rfl (hb hby d7_2) rfl rfl ?_
    show Steps p.tables e below (s₁.setTop (mkF m 3 #[.val (.ref a0s), .val (.ref a1s)] [(.ref a0s), (.ref a1s), (.ref a0s)])) _
    refine st1.trans ?_
    show Steps p.tables e below (T1.setTop (mkF m 6 #[.val (.ref a0s), .val (.ref a1s)] [(.int nl), (.ref a1s), (.ref a0s)])) _
    refine XS.aloadN X1.here hx rfl (hb hby d7_6) rfl rfl ?_
    show Steps p.tables e below (T1.setTop (mkF m 7 #[.val (.ref a0s), .val (.ref a1s)] [(.ref a1s), (.int nl), (.ref a1s), (.ref a0s)])) _
    refine st2.trans ?_
    show Steps p.tables e below (T2.setTop (mkF m 10 #[.val (.ref a0s), .val (.ref a1s)] [(.int 3), (.int nl), (.ref a1s), (.ref a0s)])) _
    refine XS.isub X2.here hx rfl (hb hby d7_10) rfl ?_
    show Steps p.tables e below (T2.setTop (mkF m 11 #[.val (.ref a0s), .val (.ref a1s)] [(.int (nl - (3 : Int32))), (.ref a1s), (.ref a0s)])) _
    refine st3.trans ?_
    show Steps p.tables e below (T3.setTop (mkF m 14 #[.val (.ref a0s), .val (.ref a1s)] [(.int 0)])) _
    exact retN X3 hx (t := .boolean) Bd.returns (by simp) (hb hby d7_14) hr
  · show Q_rmEw_mfneg n0 Z cS a0s a1s a0b k0 nl vs a2b k2 h0 _ T3.heap _
    rw [e3]
    exact ⟨rfl, N3, rfl⟩
theorem d10_4 : decode jdk_42_method_75_code 4 = .ok (.iload_n 2, 1) := by decide +kernel
theorem d10_5 : decode jdk_42_method_75_code 5 = .ok (.aload_n 0, 1) := by decide +kernel
theorem d10_6 : decode jdk_42_method_75_code 6 = .ok (.invokevirtual 505, 3) := by decide +kernel
theorem d10_9 : decode jdk_42_method_75_code 9 = .ok (.aload_n 1, 1) := by decide +kernel
theorem d10_10 : decode jdk_42_method_75_code 10 = .ok (.invokevirtual 505, 3) := by decide +kernel
theorem d10_13 : decode jdk_42_method_75_code 13 = .ok (.isub, 1) := by decide +kernel
theorem d10_14 : decode jdk_42_method_75_code 14 = .ok (.if_icmp .le 5, 3) := by decide +kernel
theorem d10_19 : decode jdk_42_method_75_code 19 = .ok (.aload_n 0, 1) := by decide +kernel
theorem d10_20 : decode jdk_42_method_75_code 20 = .ok (.getfield 9, 3) := by decide +kernel
theorem d10_23 : decode jdk_42_method_75_code 23 = .ok (.astore_n 3, 1) := by decide +kernel
theorem d10_24 : decode jdk_42_method_75_code 24 = .ok (.aload_n 1, 1) := by decide +kernel
theorem d10_25 : decode jdk_42_method_75_code 25 = .ok (.getfield 9, 3) := by decide +kernel
theorem d10_28 : decode jdk_42_method_75_code 28 = .ok (.astore 4, 2) := by decide +kernel
theorem d10_30 : decode jdk_42_method_75_code 30 = .ok (.iconst 0, 1) := by decide +kernel
theorem d10_31 : decode jdk_42_method_75_code 31 = .ok (.istore 5, 2) := by decide +kernel
theorem d10_33 : decode jdk_42_method_75_code 33 = .ok (.aload 4, 2) := by decide +kernel
theorem d10_35 : decode jdk_42_method_75_code 35 = .ok (.arraylength, 1) := by decide +kernel
theorem d10_36 : decode jdk_42_method_75_code 36 = .ok (.istore 6, 2) := by decide +kernel
theorem d10_38 : decode jdk_42_method_75_code 38 = .ok (.aload_n 0, 1) := by decide +kernel
theorem d10_39 : decode jdk_42_method_75_code 39 = .ok (.invokevirtual 335, 3) := by decide +kernel
theorem d10_42 : decode jdk_42_method_75_code 42 = .ok (.istore 7, 2) := by decide +kernel
theorem d10_44 : decode jdk_42_method_75_code 44 = .ok (.iload 7, 2) := by decide +kernel
theorem d10_46 : decode jdk_42_method_75_code 46 = .ok (.aload_n 1, 1) := by decide +kernel
theorem d10_47 : decode jdk_42_method_75_code 47 = .ok (.invokevirtual 335, 3) := by decide +kernel
theorem d10_50 : decode jdk_42_method_75_code 50 = .ok (.if_icmp .ne 32, 3) := by decide +kernel
theorem d10_53 : decode jdk_42_method_75_code 53 = .ok (.iload 7, 2) := by decide +kernel
theorem d10_55 : decode jdk_42_method_75_code 55 = .ok (.iconst 1, 1) := by decide +kernel
theorem d10_56 : decode jdk_42_method_75_code 56 = .ok (.if_icmp .ne 7, 3) := by decide +kernel
theorem d10_63 : decode jdk_42_method_75_code 63 = .ok (.aload_n 3, 1) := by decide +kernel
theorem d10_64 : decode jdk_42_method_75_code 64 = .ok (.iload_n 2, 1) := by decide +kernel
theorem d10_65 : decode jdk_42_method_75_code 65 = .ok (.aload 4, 2) := by decide +kernel
theorem d10_67 : decode jdk_42_method_75_code 67 = .ok (.iconst 0, 1) := by decide +kernel
theorem d10_68 : decode jdk_42_method_75_code 68 = .ok (.iload 6, 2) := by decide +kernel
theorem d10_70 : decode jdk_42_method_75_code 70 = .ok (.invokestatic 607, 3) := by decide +kernel
theorem pdv8 : parseMethodDescriptor "([BI[BII)I" = some ⟨[(.array .byte), .int, (.array .byte), .int, .int], some .int⟩ := by decide +kernel
theorem d10_73 : decode jdk_42_method_75_code 73 = .ok (.ifCond .ge 7, 3) := by decide +kernel
theorem d10_76 : decode jdk_42_method_75_code 76 = .ok (.iconst 1, 1) := by decide +kernel
theorem d10_77 : decode jdk_42_method_75_code 77 = .ok (.goto 4, 3) := by decide +kernel
theorem d10_81 : decode jdk_42_method_75_code 81 = .ok (.ireturn, 1) := by decide +kernel
def Q_rmSw_mfT (n0 : Nat) (Z : State) (cS : Int32) (a0s : Addr) (a1s : Addr) (off : Int32) (a0b : Addr) (k0 : ClassId) (nl : Int32) (vs : List Value) (a2b : Addr) (k2 : ClassId) (d0 : Int32) (d1 : Int32) (d2 : Int32) (h0 : Heap) (v : Option Value) (h : Heap) (L : List Loc) : Prop := v = some (.int 1) ∧ Fr n0 L ∧ h = h0
set_option maxRecDepth 65536 in
set_option maxHeartbeats 40000000 in
theorem rmSw_mfT (l : Launch) (Z : State) (a0 : Array Value) (hw : ∀ d ∈ tables_1, d.before a0 Z = true) (ws : List Jvm.Cond) (cS : Int32) (a0s : Addr) (a1s : Addr) (off : Int32) (a0b : Addr) (k0 : ClassId) (nl : Int32) (vs : List Value) (a2b : Addr) (k2 : ClassId) (d0 : Int32) (d1 : Int32) (d2 : Int32) (h0 : Heap) (n0 : Nat) (O0 : Old Z n0 h0) (GL : GF Z cS) (E_a0s : Exa Z h0 a0s "java/lang/String") (F_value_a0s : Fld Z h0 a0s "java/lang/String" "value" "[B" (.ref a0b)) (F_coder_a0s : Fld Z h0 a0s "java/lang/String" "coder" "B" (.int 0)) (V_a0b : Arv Z h0 a0b k0 .byte nl vs (.int 0)) (E_a1s : Exa Z h0 a1s "java/lang/String") (F_value_a1s : Fld Z h0 a1s "java/lang/String" "value" "[B" (.ref a2b)) (F_coder_a1s : Fld Z h0 a1s "java/lang/String" "coder" "B" (.int 0)) (V_a2b : Arv Z h0 a2b k2 .byte (3 : Int32) [(.int 46), (.int 109), (.int 102)] (.int 0)) (hng : ¬ (off < (0 : Int32))) (hle : ¬ ((nl - (3 : Int32)) < off)) (gA0 : vs.getD (off + (0 : Int32)).toNatClampNeg (.int 0) = .int (d0.toInt8.toInt32)) (xA0 : ¬ ((off + (0 : Int32)) < (0 : Int32))) (yA0 : (off + (0 : Int32)) < nl) (gA1 : vs.getD (off + (1 : Int32)).toNatClampNeg (.int 0) = .int (d1.toInt8.toInt32)) (xA1 : ¬ ((off + (1 : Int32)) < (0 : Int32))) (yA1 : (off + (1 : Int32)) < nl) (gA2 : vs.getD (off + (2 : Int32)).toNatClampNeg (.int 0) = .int (d2.toInt8.toInt32)) (xA2 : ¬ ((off + (2 : Int32)) < (0 : Int32))) (yA2 : (off + (2 : Int32)) < nl) (hA : d0 = (46 : Int32) ∧ d1 = (109 : Int32) ∧ d2 = (102 : Int32)) :
    MetFree l MN_10 (head1 (Jvm.Cond.code MN_10 jdk_42_method_75_code 8 (some .boolean) :: ws) ({ frames := 2, cells := 0, slots := 0, locals := 27 } : Room)) (fun a U => a = #[(.ref a0s), (.ref a1s), (.int off)] ∧ Z.Warmed39 U.vm ∧ U.heap = h0) (fun _ _ _ _ _ => True) (fun _ U o U' => ∃ v L, o = .returned v ∧ Q_rmSw_mfT n0 Z cS a0s a1s off a0b k0 nl vs a2b k2 d0 d1 d2 h0 v U'.heap L ∧ FrameEnd U o U' L ({ frames := 2, cells := 0, slots := 0, locals := 27 } : Room).cells ({ frames := 2, cells := 0, slots := 0, locals := 27 } : Room).slots) := by
  refine MetFree.of_bodySF (plainFor_of_name pnv1) hisR ?_
  intro p e s m args below meth c s₁ Bd hml0 hP hK
  obtain ⟨rfl, hZ, hh⟩ := hP
  have hx := Bd.exec
  have hby := Bd.bytes
  have hml : c.maxLocals = 8 := hml0
  have hown : s.vm.findClass "java/lang/String" = some m.cls := findClass_of_methodNamed Bd.named
  have hnm := (name_of_methodNamed Bd.named Bd.method).1
  have X0 : Stand p l e ({ frames := 2, cells := 0, slots := 0, locals := 27 } : Room) s m #[(.ref a0s), (.ref a1s), (.int off)] below meth c s₁ [] 0 0 := Stand.of_body Bd
  have e0 : s₁.heap = h0 := by rw [← hh, Bd.state]; rfl
  have N0 := Fr.nil n0
  have pre0 : ∀ t, Steps p.tables e below (s₁.setTop (mkF m 0 #[.val (.ref a0s), .val (.ref a1s), .val (.int off), .unset, .unset, .unset, .unset, .unset] [])) t → Steps p.tables e below (s₁.setTop (entryFrame m #[(.ref a0s), (.ref a1s), (.int off)] 8)) t := fun t k => castTop (ef_rmSw_mfneg m a0s a1s off) k
  have GL' := GL
  obtain ⟨GCS, GCP⟩ := GL'
  obtain ⟨cq1, kq1, q1a, q1b, q1c⟩ := isOf hZ e0 E_a0s
  obtain ⟨_, _, ⟨T1, L1, k1, n1⟩, -, X1, ⟨Lc1, hQ1, l1, y1, z1⟩, st1⟩ := X0.virtualBack hx (y := MN_8) (z := MN_8) hown (mvT hZ (Wd hw 40 rfl)) (mvT hZ (Wd hw 41 rfl)) (notFace_of_selects (args := #[]) (mvT hZ (Wd hw 43 rfl))) (mvT hZ (Wd hw 43 rfl)) (mvT hZ (Wd hw 42 rfl)) (by decide) (backOf (W := 1) (rmLen l Z a0 hw [] cS (a0s) (a0b) (k0) (nl) (vs) (h0) n0 O0 GL E_a0s F_value_a0s F_coder_a0s V_a0b) hZ (Wd hw 44 rfl) (Wd hw 11 rfl) (by decide) (by decide)) q1a q1c (g := (mkF m 6 #[.val (.ref a0s), .val (.ref a1s), .val (.int off), .unset, .unset, .unset, .unset, .unset] [(.ref a0s), (.int off)])) rfl (by rw [hml]; rfl) (Steps.refl _) (argsL := []) (rest := [(.int off)]) (lenOf pdv6 rfl) rfl (by show 2 * 0 + _ ≤ _; exact Nat.le_of_eq rfl) (hb hby d10_6) (fun _ _ => ⟨rfl, e0, (by decide : 0 + 0 ≤ _), (by decide : 0 + 0 ≤ _)⟩)
  dsimp only [Pt.U, Pt.locs, Pt.cells, Pt.slots] at X1 l1 y1 z1 st1 hQ1
  subst l1 y1 z1
  obtain ⟨rfl, N1q, e1⟩ := hQ1
  have N1 := Fr.app N0 N1q
  obtain ⟨cq2, kq2, q2a, q2b, q2c⟩ := isOf hZ e1 E_a1s
  obtain ⟨_, _, ⟨T2, L2, k2, n2⟩, -, X2, ⟨Lc2, hQ2, l2, y2, z2⟩, st2⟩ := X1.virtualBack hx (y := MN_8) (z := MN_8) hown (mvT hZ (Wd hw 40 rfl)) (mvT hZ (Wd hw 41 rfl)) (notFace_of_selects (args := #[]) (mvT hZ (Wd hw 43 rfl))) (mvT hZ (Wd hw 43 rfl)) (mvT hZ (Wd hw 42 rfl)) (by decide) (backOf (W := 2) (rmLen l Z a0 hw [] cS (a1s) (a2b) (k2) ((3 : Int32)) ([(.int 46), (.int 109), (.int 102)]) (h0) n0 O0 GL E_a1s F_value_a1s F_coder_a1s V_a2b) hZ (Wd hw 44 rfl) (Wd hw 11 rfl) (by decide) (by decide)) q2a q2c (g := (mkF m 10 #[.val (.ref a0s), .val (.ref a1s), .val (.int off), .unset, .unset, .unset, .unset, .unset] [(.ref a1s), (.int nl), (.int off)])) rfl (by rw [hml]; rfl) (Steps.refl _) (argsL := []) (rest := [(.int nl), (.int off)]) (lenOf pdv6 rfl) rfl (by show 2 * 0 + _ ≤ _; exact Nat.le_of_eq rfl) (hb hby d10_10) (fun _ _ => ⟨rfl, e1, (by decide : 0 + 0 ≤ _), (by decide : 0 + 0 ≤ _)⟩)
  dsimp only [Pt.U, Pt.locs, Pt.cells, Pt.slots] at X2 l2 y2 z2 st2 hQ2
  subst l2 y2 z2
  obtain ⟨rfl, N2q, e2⟩ := hQ2
  have N2 := Fr.app N1 N2q
  obtain ⟨T3, X3, e3, st3⟩ := getF X2 hx hZ hown (host := "") (Or.inl (Wd hw 28 rfl)) Via.refl e2 F_value_a0s (g := (mkF m 20 #[.val (.ref a0s), .val (.ref a1s), .val (.int off), .unset, .unset, .unset, .unset, .unset] [(.ref a0s)])) rfl rfl (hb hby d10_20)
  obtain ⟨T4, X4, e4, st4⟩ := getF X3 hx hZ hown (host := "") (Or.inl (Wd hw 28 rfl)) Via.refl e3 F_value_a1s (g := (mkF m 25 #[.val (.ref a0s), .val (.ref a1s), .val (.int off), .val (.ref a0b), .unset, .unset, .unset, .unset] [(.ref a1s)])) rfl rfl (hb hby d10_25)
  obtain ⟨cl5, Ar5, -, S5, N5_, -, -⟩ := id (V_a2b)
  obtain ⟨cq6, kq6, q6a, q6b, q6c⟩ := isOf hZ e4 E_a0s
  obtain ⟨_, _, ⟨T6, L6, k6, n6⟩, -, X6, ⟨Lc6, hQ6, l6, y6, z6⟩, st6⟩ := X4.virtualBack hx (y := MN_7) (z := MN_7) hown (mvT hZ (Wd hw 45 rfl)) (mvT hZ (Wd hw 46 rfl)) (notFace_of_selects (args := #[]) (mvT hZ (Wd hw 48 rfl))) (mvT hZ (Wd hw 48 rfl)) (mvT hZ (Wd hw 47 rfl)) (by decide) (backOf (W := 0) (rmCod l Z a0 hw [] cS (a0s) (h0) n0 O0 GL F_coder_a0s) hZ (Wd hw 49 rfl) (Wd hw 11 rfl) (by decide) (by decide)) q6a q6c (g := (mkF m 39 #[.val (.ref a0s), .val (.ref a1s), .val (.int off), .val (.ref a0b), .val (.ref a2b), .val (.int 0), .val (.int 3), .unset] [(.ref a0s)])) rfl (by rw [hml]; rfl) (Steps.refl _) (argsL := []) (rest := []) (lenOf pdv5 rfl) rfl (by show 2 * 0 + _ ≤ _; exact Nat.le_of_eq rfl) (hb hby d10_39) (fun _ _ => ⟨rfl, e4, (by decide : 0 + 0 ≤ _), (by decide : 0 + 0 ≤ _)⟩)
  dsimp only [Pt.U, Pt.locs, Pt.cells, Pt.slots] at X6 l6 y6 z6 st6 hQ6
  subst l6 y6 z6
  obtain ⟨rfl, N6q, e6⟩ := hQ6
  have N6 := Fr.app N2 N6q
  obtain ⟨cq7, kq7, q7a, q7b, q7c⟩ := isOf hZ e6 E_a1s
  obtain ⟨_, _, ⟨T7, L7, k7, n7⟩, -, X7, ⟨Lc7, hQ7, l7, y7, z7⟩, st7⟩ := X6.virtualBack hx (y := MN_7) (z := MN_7) hown (mvT hZ (Wd hw 45 rfl)) (mvT hZ (Wd hw 46 rfl)) (notFace_of_selects (args := #[]) (mvT hZ (Wd hw 48 rfl))) (mvT hZ (Wd hw 48 rfl)) (mvT hZ (Wd hw 47 rfl)) (by decide) (backOf (W := 1) (rmCod l Z a0 hw [] cS (a1s) (h0) n0 O0 GL F_coder_a1s) hZ (Wd hw 49 rfl) (Wd hw 11 rfl) (by decide) (by decide)) q7a q7c (g := (mkF m 47 #[.val (.ref a0s), .val (.ref a1s), .val (.int off), .val (.ref a0b), .val (.ref a2b), .val (.int 0), .val (.int 3), .val (.int 0)] [(.ref a1s), (.int 0)])) rfl (by rw [hml]; rfl) (Steps.refl _) (argsL := []) (rest := [(.int 0)]) (lenOf pdv5 rfl) rfl (by show 2 * 0 + _ ≤ _; exact Nat.le_of_eq rfl) (hb hby d10_47) (fun _ _ => ⟨rfl, e6, (by decide : 0 + 0 ≤ _), (by decide : 0 + 0 ≤ _)⟩)
  dsimp only [Pt.U, Pt.locs, Pt.cells, Pt.slots] at X7 l7 y7 z7 st7 hQ7
  subst l7 y7 z7
  obtain ⟨rfl, N7q, e7⟩ := hQ7
  have N7 := Fr.app N6 N7q
  obtain ⟨_, _, ⟨T8, L8, k8, n8⟩, -, X8, ⟨Lc8, hQ8, l8, y8, z8⟩, st8⟩ := Jvm.LawKit.callS X7 hx (y := MN_9) hown (mvT hZ (Wd hw 67 rfl)) (mvT hZ (Wd hw 68 rfl)) (mvT hZ (Wd hw 69 rfl)) (mvT hZ (Wd hw 70 rfl)) (by decide) (backOf (W := 0) (rmMm_mfT l Z a0 hw [] cS (a0b) (off) (a2b) (k0) (nl) (vs) (k2) (d0) (d1) (d2) (h0) n0 O0 GL V_a0b V_a2b gA0 xA0 yA0 gA1 xA1 yA1 gA2 xA2 yA2 hA) hZ (Wd hw 70 rfl) (Wd hw 69 rfl) (by decide) (by decide)) (g := (mkF m 70 #[.val (.ref a0s), .val (.ref a1s), .val (.int off), .val (.ref a0b), .val (.ref a2b), .val (.int 0), .val (.int 3), .val (.int 0)] [(.int 3), (.int 0), (.ref a2b), (.int off), (.ref a0b)])) rfl (by rw [hml]; rfl) (argsL := [(.ref a0b), (.int off), (.ref a2b), (.int 0), (.int 3)]) (rest := []) (lenOf pdv8 rfl) rfl (by show 2 * 0 + _ ≤ _; exact Nat.le_of_eq rfl) (hb hby d10_70) (fun _ _ => ⟨rfl, e7, (by decide : 0 + 0 ≤ _), (by decide : 0 + 0 ≤ _)⟩)
  dsimp only [Pt.U, Pt.locs, Pt.cells, Pt.slots] at X8 l8 y8 z8 st8 hQ8
  subst l8 y8 z8
  obtain ⟨rfl, N8q, e8⟩ := hQ8
  have N8 := Fr.app N7 N8q
  obtain ⟨fs, hr, hrun, hended, hW, hsame⟩ := X8.leave (v := some (.int 1)) (fun h => by rw [Bd.returns] at h; cases h)
  refine ⟨_, _, pre0 _ ?_, hrun, hended, _, _, rfl, ?_, ⟨_, rfl⟩, hW, hsame.mono (by decide) (by decide)⟩
  · show Steps p.tables e below (s₁.setTop (mkF m 0 #[.val (.ref a0s), .val (.ref a1s), .val (.int off), .unset, .unset, .unset, .unset, .unset] [])) _
    refine XS.iloadN X0.here hx rfl (hb hby d10_0) rfl ?_
    refine XS.ifNo X0.here hx rfl (hb hby d10_1) rfl ((if0 _ _).trans (flt hng).1) ?_
    refine XS.iloadN X0.here hx rfl (hb hby d10_4) rfl ?_
    refine XS.aloadN X0.here hx rfl (hb hby d10_5) rfl rfl ?_
    show Steps p.tables e below (s₁.setTop (mkF m 6 #[.val (.ref a0s), .val (.ref a1s), .val (.int off), .unset, .unset, .unset, .unset, .unset] [(.ref a0s), (.int off)])) _
    refine st1.trans ?_
    show Steps p.tables e below (T1.setTop (mkF m 9 #[.val (.ref a0s), .val (.ref a1s), .val (.int off), .unset, .unset, .unset, .unset, .unset] [(.int nl), (.int off)])) _
    refine XS.aloadN X1.here hx rfl (hb hby d10_9) rfl rfl ?_
    show Steps p.tables e below (T1.setTop (mkF m 10 #[.val (.ref a0s), .val (.ref a1s), .val (.int off), .unset, .unset, .unset, .unset, .unset] [(.ref a1s), (.int nl), (.int off)])) _
    refine st2.trans ?_
    show Steps p.tables e below (T2.setTop (mkF m 13 #[.val (.ref a0s), .val (.ref a1s), .val (.int off), .unset, .unset, .unset, .unset, .unset] [(.int 3), (.int nl), (.int off)])) _
    refine XS.isub X2.here hx rfl (hb hby d10_13) rfl ?_
    refine XS.icmpYes X2.here hx rfl (pc0 := 14) (pc' := 19) rfl (hb hby d10_14) rfl (flt hle).2.2.2 (by decide) (by decide) ?_
    refine XS.aloadN X2.here hx rfl (hb hby d10_19) rfl rfl ?_
    show Steps p.tables e below (T2.setTop (mkF m 20 #[.val (.ref a0s), .val (.ref a1s), .val (.int off), .unset, .unset, .unset, .unset, .unset] [(.ref a0s)])) _
    refine st3 _ ?_
    show Steps p.tables e below (T3.setTop (mkF m 23 #[.val (.ref a0s), .val (.ref a1s), .val (.int off), .unset, .unset, .unset, .unset, .unset] [(.ref a0b)])) _
    refine XS.astoreN X3.here hx rfl (hb hby d10_23) rfl rfl (l' := #[.val (.ref a0s), .val (.ref a1s), .val (.int off), .val (.ref a0b), .unset, .unset, .unset, .unset]) rfl ?_
    refine XS.aloadN X3.here hx rfl (hb hby d10_24) rfl rfl ?_
    show Steps p.tables e below (T3.setTop (mkF m 25 #[.val (.ref a0s), .val (.ref a1s), .val (.int off), .val (.ref a0b), .unset, .unset, .unset, .unset] [(.ref a1s)])) _
    refine st4 _ ?_
    show Steps p.tables e below (T4.setTop (mkF m 28 #[.val (.ref a0s), .val (.ref a1s), .val (.int off), .val (.ref a0b), .unset, .unset, .unset, .unset] [(.ref a2b)])) _
    refine XS.astore X4.here hx rfl (hb hby d10_28) rfl rfl (l' := #[.val (.ref a0s), .val (.ref a1s), .val (.int off), .val (.ref a0b), .val (.ref a2b), .unset, .unset, .unset]) rfl ?_
    refine XS.iconst X4.here hx rfl (hb hby d10_30) ?_
    refine XS.istore X4.here hx rfl (hb hby d10_31) rfl (l' := #[.val (.ref a0s), .val (.ref a1s), .val (.int off), .val (.ref a0b), .val (.ref a2b), .val (.int 0), .unset, .unset]) rfl ?_
    refine XS.aload X4.here hx rfl (hb hby d10_33) rfl rfl ?_
    show Steps p.tables e below (T4.setTop (mkF m 35 #[.val (.ref a0s), .val (.ref a1s), .val (.int off), .val (.ref a0b), .val (.ref a2b), .val (.int 0), .unset, .unset] [(.ref a2b)])) _
    refine X4.arraylength hx (by rw [e4]; exact Ar5.1) (State.isArrayOf_alike hZ.alike Ar5.2.1) (g := (mkF m 35 #[.val (.ref a0s), .val (.ref a1s), .val (.int off), .val (.ref a0b), .val (.ref a2b), .val (.int 0), .unset, .unset] [(.ref a2b)])) rfl rfl (hb hby d10_35) _ ?_
    rw [len_of S5 N5_]
    show Steps p.tables e below (T4.setTop (mkF m 36 #[.val (.ref a0s), .val (.ref a1s), .val (.int off), .val (.ref a0b), .val (.ref a2b), .val (.int 0), .unset, .unset] [(.int 3)])) _
    refine XS.istore X4.here hx rfl (hb hby d10_36) rfl (l' := #[.val (.ref a0s), .val (.ref a1s), .val (.int off), .val (.ref a0b), .val (.ref a2b), .val (.int 0), .val (.int 3), .unset]) rfl ?_
    refine XS.aloadN X4.here hx rfl (hb hby d10_38) rfl rfl ?_
    show Steps p.tables e below (T4.setTop (mkF m 39 #[.val (.ref a0s), .val (.ref a1s), .val (.int off), .val (.ref a0b), .val (.ref a2b), .val (.int 0), .val (.int 3), .unset] [(.ref a0s)])) _
    refine st6.trans ?_
    show Steps p.tables e below (T6.setTop (mkF m 42 #[.val (.ref a0s), .val (.ref a1s), .val (.int off), .val (.ref a0b), .val (.ref a2b), .val (.int 0), .val (.int 3), .unset] [(.int 0)])) _
    refine XS.istore X6.here hx rfl (hb hby d10_42) rfl (l' := #[.val (.ref a0s), .val (.ref a1s), .val (.int off), .val (.ref a0b), .val (.ref a2b), .val (.int 0), .val (.int 3), .val (.int 0)]) rfl ?_
    refine XS.iload X6.here hx rfl (hb hby d10_44) rfl ?_
    refine XS.aloadN X6.here hx rfl (hb hby d10_46) rfl rfl ?_
    show Steps p.tables e below (T6.setTop (mkF m 47 #[.val (.ref a0s), .val (.ref a1s), .val (.int off), .val (.ref a0b), .val (.ref a2b), .val (.int 0), .val (.int 3), .val (.int 0)] [(.ref a1s), (.int 0)])) _
    refine st7.trans ?_
    show Steps p.tables e below (T7.setTop (mkF m 50 #[.val (.ref a0s), .val (.ref a1s), .val (.int off), .val (.ref a0b), .val (.ref a2b), .val (.int 0), .val (.int 3), .val (.int 0)] [(.int 0), (.int 0)])) _
    refine XS.icmpNo X7.here hx rfl (hb hby d10_50) rfl (teq (by decide : (0 : Int32) = (0 : Int32))).2 ?_
    refine XS.iload X7.here hx rfl (hb hby d10_53) rfl ?_
    refine XS.iconst X7.here hx rfl (hb hby d10_55) ?_
    refine XS.icmpYes X7.here hx rfl (pc0 := 56) (pc' := 63) rfl (hb hby d10_56) rfl (feq (by decide : ¬ ((0 : Int32) = (1 : Int32)))).2 (by decide) (by decide) ?_
    show Steps p.tables e below (T7.setTop (mkF m 63 #[.val (.ref a0s), .val (.ref a1s), .val (.int off), .val (.ref a0b), .val (.ref a2b), .val (.int 0), .val (.int 3), .val (.int 0)] [])) _
    refine XS.aloadN X7.here hx rfl (hb hby d10_63) rfl rfl ?_
    refine XS.iloadN X7.here hx rfl (hb hby d10_64) rfl ?_
    refine XS.aload X7.here hx rfl (hb hby d10_65) rfl rfl ?_
    refine XS.iconst X7.here hx rfl (hb hby d10_67) ?_
    show Steps p.tables e below (T7.setTop (mkF m 68 #[.val (.ref a0s), .val (.ref a1s), .val (.int off), .val (.ref a0b), .val (.ref a2b), .val (.int 0), .val (.int 3), .val (.int 0)] [(.int 0), (.ref a2b), (.int off), (.ref a0b)])) _
    refine XS.iload X7.here hx rfl (hb hby d10_68) rfl ?_
    show Steps p.tables e below (T7.setTop (mkF m 70 #[.val (.ref a0s), .val (.ref a1s), .val (.int off), .val (.ref a0b), .val (.ref a2b), .val (.int 0), .val (.int 3), .val (.int 0)] [(.int 3), (.int 0), (.ref a2b), (.int off), (.ref a0b)])) _
    refine st8 _ ?_
    show Steps p.tables e below (T8.setTop (mkF m 73 #[.val (.ref a0s), .val (.ref a1s), .val (.int off), .val (.ref a0b), .val (.ref a2b), .val (.int 0), .val (.int 3), .val (.int 0)] [(.int (-1 : Int32))])) _
    refine XS.ifNo X8.here hx rfl (hb hby d10_73) rfl ((if0 _ _).trans (tlt (by decide : (-1 : Int32) < (0 : Int32))).2.1) ?_
    refine XS.iconst X8.here hx rfl (hb hby d10_76) ?_
    refine XS.goto X8.here hx rfl (pc0 := 77) (pc' := 81) rfl (hb hby d10_77) (by decide) (by decide) ?_
    show Steps p.tables e below (T8.setTop (mkF m 81 #[.val (.ref a0s), .val (.ref a1s), .val (.int off), .val (.ref a0b), .val (.ref a2b), .val (.int 0), .val (.int 3), .val (.int 0)] [(.int 1)])) _
    exact retN X8 hx (t := .boolean) Bd.returns (by simp) (hb hby d10_81) hr
  · show Q_rmSw_mfT n0 Z cS a0s a1s off a0b k0 nl vs a2b k2 d0 d1 d2 h0 _ T8.heap _
    rw [e8]
    exact ⟨rfl, N8, rfl⟩
def Q_rmEw_mfT (n0 : Nat) (Z : State) (cS : Int32) (a0s : Addr) (a1s : Addr) (a0b : Addr) (k0 : ClassId) (nl : Int32) (vs : List Value) (a2b : Addr) (k2 : ClassId) (d0 : Int32) (d1 : Int32) (d2 : Int32) (h0 : Heap) (v : Option Value) (h : Heap) (L : List Loc) : Prop := v = some (.int 1) ∧ Fr n0 L ∧ h = h0
set_option maxRecDepth 65536 in
set_option maxHeartbeats 40000000 in
theorem rmEw_mfT (l : Launch) (Z : State) (a0 : Array Value) (hw : ∀ d ∈ tables_1, d.before a0 Z = true) (ws : List Jvm.Cond) (cS : Int32) (a0s : Addr) (a1s : Addr) (a0b : Addr) (k0 : ClassId) (nl : Int32) (vs : List Value) (a2b : Addr) (k2 : ClassId) (d0 : Int32) (d1 : Int32) (d2 : Int32) (h0 : Heap) (n0 : Nat) (O0 : Old Z n0 h0) (GL : GF Z cS) (E_a0s : Exa Z h0 a0s "java/lang/String") (F_value_a0s : Fld Z h0 a0s "java/lang/String" "value" "[B" (.ref a0b)) (F_coder_a0s : Fld Z h0 a0s "java/lang/String" "coder" "B" (.int 0)) (V_a0b : Arv Z h0 a0b k0 .byte nl vs (.int 0)) (E_a1s : Exa Z h0 a1s "java/lang/String") (F_value_a1s : Fld Z h0 a1s "java/lang/String" "value" "[B" (.ref a2b)) (F_coder_a1s : Fld Z h0 a1s "java/lang/String" "coder" "B" (.int 0)) (V_a2b : Arv Z h0 a2b k2 .byte (3 : Int32) [(.int 46), (.int 109), (.int 102)] (.int 0)) (hng : ¬ ((nl - (3 : Int32)) < (0 : Int32))) (gA0 : vs.getD ((nl - (3 : Int32)) + (0 : Int32)).toNatClampNeg (.int 0) = .int (d0.toInt8.toInt32)) (xA0 : ¬ (((nl - (3 : Int32)) + (0 : Int32)) < (0 : Int32))) (yA0 : ((nl - (3 : Int32)) + (0 : Int32)) < nl) (gA1 : vs.getD ((nl - (3 : Int32)) + (1 : Int32)).toNatClampNeg (.int 0) = .int (d1.toInt8.toInt32)) (xA1 : ¬ (((nl - (3 : Int32)) + (1 : Int32)) < (0 : Int32))) (yA1 : ((nl - (3 : Int32)) + (1 : Int32)) < nl) (gA2 : vs.getD ((nl - (3 : Int32)) + (2 : Int32)).toNatClampNeg (.int 0) = .int (d2.toInt8.toInt32)) (xA2 : ¬ (((nl - (3 : Int32)) + (2 : Int32)) < (0 : Int32))) (yA2 : ((nl - (3 : Int32)) + (2 : Int32)) < nl) (hA : d0 = (46 : Int32) ∧ d1 = (109 : Int32) ∧ d2 = (102 : Int32)) :
    MetFree l MN_11 (head1 (Jvm.Cond.code MN_11 jdk_42_method_77_code 2 (some .boolean) :: ws) ({ frames := 3, cells := 0, slots := 0, locals := 46 } : Room)) (fun a U => a = #[(.ref a0s), (.ref a1s)] ∧ Z.Warmed39 U.vm ∧ U.heap = h0) (fun _ _ _ _ _ => True) (fun _ U o U' => ∃ v L, o = .returned v ∧ Q_rmEw_mfT n0 Z cS a0s a1s a0b k0 nl vs a2b k2 d0 d1 d2 h0 v U'.heap L ∧ FrameEnd U o U' L ({ frames := 3, cells := 0, slots := 0, locals := 46 } : Room).cells ({ frames := 3, cells := 0, slots := 0, locals := 46 } : Room).slots) := by
  refine MetFree.of_bodySF (plainFor_of_name pnv1) hisR ?_
  intro p e s m args below meth c s₁ Bd hml0 hP hK
  obtain ⟨rfl, hZ, hh⟩ := hP
  have hx := Bd.exec
  have hby := Bd.bytes
  have hml : c.maxLocals = 2 := hml0
  have hown : s.vm.findClass "java/lang/String" = some m.cls := findClass_of_methodNamed Bd.named
  have hnm := (name_of_methodNamed Bd.named Bd.method).1
  have X0 : Stand p l e ({ frames := 3, cells := 0, slots := 0, locals := 46 } : Room) s m #[(.ref a0s), (.ref a1s)] below meth c s₁ [] 0 0 := Stand.of_body Bd
  have e0 : s₁.heap = h0 := by rw [← hh, Bd.state]; rfl
  have N0 := Fr.nil n0
  have pre0 : ∀ t, Steps p.tables e below (s₁.setTop (mkF m 0 #[.val (.ref a0s), .val (.ref a1s)] [])) t → Steps p.tables e below (s₁.setTop (entryFrame m #[(.ref a0s), (.ref a1s)] 2)) t := fun t k => castTop (ef_rmEw_mfneg m a0s a1s) k
  have GL' := GL
  obtain ⟨GCS, GCP⟩ := GL'
  obtain ⟨cq1, kq1, q1a, q1b, q1c⟩ := isOf hZ e0 E_a0s
  obtain ⟨_, _, ⟨T1, L1, k1, n1⟩, -, X1, ⟨Lc1, hQ1, l1, y1, z1⟩, st1⟩ := X0.virtualBack hx (y := MN_8) (z := MN_8) hown (mvT hZ (Wd hw 40 rfl)) (mvT hZ (Wd hw 41 rfl)) (notFace_of_selects (args := #[]) (mvT hZ (Wd hw 43 rfl))) (mvT hZ (Wd hw 43 rfl)) (mvT hZ (Wd hw 42 rfl)) (by decide) (backOf (W := 2) (rmLen l Z a0 hw [] cS (a0s) (a0b) (k0) (nl) (vs) (h0) n0 O0 GL E_a0s F_value_a0s F_coder_a0s V_a0b) hZ (Wd hw 44 rfl) (Wd hw 11 rfl) (by decide) (by decide)) q1a q1c (g := (mkF m 3 #[.val (.ref a0s), .val (.ref a1s)] [(.ref a0s), (.ref a1s), (.ref a0s)])) rfl (by rw [hml]; rfl) (Steps.refl _) (argsL := []) (rest := [(.ref a1s), (.ref a0s)]) (lenOf pdv6 rfl) rfl (by show 2 * 0 + _ ≤ _; exact Nat.le_of_eq rfl) (hb hby d7_3) (fun _ _ => ⟨rfl, e0, (by decide : 0 + 0 ≤ _), (by decide : 0 + 0 ≤ _)⟩)
  dsimp only [Pt.U, Pt.locs, Pt.cells, Pt.slots] at X1 l1 y1 z1 st1 hQ1
  subst l1 y1 z1
  obtain ⟨rfl, N1q, e1⟩ := hQ1
  have N1 := Fr.app N0 N1q
  obtain ⟨cq2, kq2, q2a, q2b, q2c⟩ := isOf hZ e1 E_a1s
  obtain ⟨_, _, ⟨T2, L2, k2, n2⟩, -, X2, ⟨Lc2, hQ2, l2, y2, z2⟩, st2⟩ := X1.virtualBack hx (y := MN_8) (z := MN_8) hown (mvT hZ (Wd hw 40 rfl)) (mvT hZ (Wd hw 41 rfl)) (notFace_of_selects (args := #[]) (mvT hZ (Wd hw 43 rfl))) (mvT hZ (Wd hw 43 rfl)) (mvT hZ (Wd hw 42 rfl)) (by decide) (backOf (W := 3) (rmLen l Z a0 hw [] cS (a1s) (a2b) (k2) ((3 : Int32)) ([(.int 46), (.int 109), (.int 102)]) (h0) n0 O0 GL E_a1s F_value_a1s F_coder_a1s V_a2b) hZ (Wd hw 44 rfl) (Wd hw 11 rfl) (by decide) (by decide)) q2a q2c (g := (mkF m 7 #[.val (.ref a0s), .val (.ref a1s)] [(.ref a1s), (.int nl), (.ref a1s), (.ref a0s)])) rfl (by rw [hml]; rfl) (Steps.refl _) (argsL := []) (rest := [(.int nl), (.ref a1s), (.ref a0s)]) (lenOf pdv6 rfl) rfl (by show 2 * 0 + _ ≤ _; exact Nat.le_of_eq rfl) (hb hby d7_7) (fun _ _ => ⟨rfl, e1, (by decide : 0 + 0 ≤ _), (by decide : 0 + 0 ≤ _)⟩)
  dsimp only [Pt.U, Pt.locs, Pt.cells, Pt.slots] at X2 l2 y2 z2 st2 hQ2
  subst l2 y2 z2
  obtain ⟨rfl, N2q, e2⟩ := hQ2
  have N2 := Fr.app N1 N2q
  obtain ⟨cq3, kq3, q3a, q3b, q3c⟩ := isOf hZ e2 E_a0s
  obtain ⟨_, _, ⟨T3, L3, k3, n3⟩, -, X3, ⟨Lc3, hQ3, l3, y3, z3⟩, st3⟩ := X2.virtualBack hx (y := MN_10) (z := MN_10) hown (mvT hZ (Wd hw 51 rfl)) (mvT hZ (Wd hw 52 rfl)) (notFace_of_selects (args := #[]) (mvT hZ (Wd hw 54 rfl))) (mvT hZ (Wd hw 54 rfl)) (mvT hZ (Wd hw 53 rfl)) (by decide) (backOf (W := 0) (rmSw_mfT l Z a0 hw [] cS (a0s) (a1s) ((nl - (3 : Int32))) (a0b) (k0) (nl) (vs) (a2b) (k2) (d0) (d1) (d2) (h0) n0 O0 GL E_a0s F_value_a0s F_coder_a0s V_a0b E_a1s F_value_a1s F_coder_a1s V_a2b hng (fun h => Int32.lt_irrefl h) gA0 xA0 yA0 gA1 xA1 yA1 gA2 xA2 yA2 hA) hZ (Wd hw 55 rfl) (Wd hw 11 rfl) (by decide) (by decide)) q3a q3c (g := (mkF m 11 #[.val (.ref a0s), .val (.ref a1s)] [(.int (nl - (3 : Int32))), (.ref a1s), (.ref a0s)])) rfl (by rw [hml]; rfl) (Steps.refl _) (argsL := [(.ref a1s), (.int (nl - (3 : Int32)))]) (rest := []) (lenOf pdv7 rfl) rfl (by show 2 * 0 + _ ≤ _; exact Nat.le_of_eq rfl) (hb hby d7_11) (fun _ _ => ⟨rfl, e2, (by decide : 0 + 0 ≤ _), (by decide : 0 + 0 ≤ _)⟩)
  dsimp only [Pt.U, Pt.locs, Pt.cells, Pt.slots] at X3 l3 y3 z3 st3 hQ3
  subst l3 y3 z3
  obtain ⟨rfl, N3q, e3⟩ := hQ3
  have N3 := Fr.app N2 N3q
  obtain ⟨fs, hr, hrun, hended, hW, hsame⟩ := X3.leave (v := some (.int 1)) (fun h => by rw [Bd.returns] at h; cases h)
  refine ⟨_, _, pre0 _ ?_, hrun, hended, _, _, rfl, ?_, ⟨_, rfl⟩, hW, hsame.mono (by decide) (by decide)⟩
  · show Steps p.tables e below (s₁.setTop (mkF m 0 #[.val (.ref a0s), .val (.ref a1s)] [])) _
    refine XS.aloadN X0.here hx rfl (hb hby d7_0) rfl rfl ?_
    refine XS.aloadN X0.here hx rfl (hb hby d7_1) rfl rfl ?_
    refine XS.aloadN X0.here hx rfl (hb hby d7_2) rfl rfl ?_
    show Steps p.tables e below (s₁.setTop (mkF m 3 #[.val (.ref a0s), .val (.ref a1s)] [(.ref a0s), (.ref a1s), (.ref a0s)])) _
    refine st1.trans ?_
    show Steps p.tables e below (T1.setTop (mkF m 6 #[.val (.ref a0s), .val (.ref a1s)] [(.int nl), (.ref a1s), (.ref a0s)])) _
    refine XS.aloadN X1.here hx rfl (hb hby d7_6) rfl rfl ?_
    show Steps p.tables e below (T1.setTop (mkF m 7 #[.val (.ref a0s), .val (.ref a1s)] [(.ref a1s), (.int nl), (.ref a1s), (.ref a0s)])) _
    refine st2.trans ?_
    show Steps p.tables e below (T2.setTop (mkF m 10 #[.val (.ref a0s), .val (.ref a1s)] [(.int 3), (.int nl), (.ref a1s), (.ref a0s)])) _
    refine XS.isub X2.here hx rfl (hb hby d7_10) rfl ?_
    show Steps p.tables e below (T2.setTop (mkF m 11 #[.val (.ref a0s), .val (.ref a1s)] [(.int (nl - (3 : Int32))), (.ref a1s), (.ref a0s)])) _
    refine st3.trans ?_
    show Steps p.tables e below (T3.setTop (mkF m 14 #[.val (.ref a0s), .val (.ref a1s)] [(.int 1)])) _
    exact retN X3 hx (t := .boolean) Bd.returns (by simp) (hb hby d7_14) hr
  · show Q_rmEw_mfT n0 Z cS a0s a1s a0b k0 nl vs a2b k2 d0 d1 d2 h0 _ T3.heap _
    rw [e3]
    exact ⟨rfl, N3, rfl⟩
theorem d10_80 : decode jdk_42_method_75_code 80 = .ok (.iconst 0, 1) := by decide +kernel
def Q_rmSw_mfF (n0 : Nat) (Z : State) (cS : Int32) (a0s : Addr) (a1s : Addr) (off : Int32) (a0b : Addr) (k0 : ClassId) (nl : Int32) (vs : List Value) (a2b : Addr) (k2 : ClassId) (d0 : Int32) (d1 : Int32) (d2 : Int32) (h0 : Heap) (v : Option Value) (h : Heap) (L : List Loc) : Prop := v = some (.int 0) ∧ Fr n0 L ∧ h = h0
set_option maxRecDepth 65536 in
set_option maxHeartbeats 40000000 in
theorem rmSw_mfF (l : Launch) (Z : State) (a0 : Array Value) (hw : ∀ d ∈ tables_1, d.before a0 Z = true) (ws : List Jvm.Cond) (cS : Int32) (a0s : Addr) (a1s : Addr) (off : Int32) (a0b : Addr) (k0 : ClassId) (nl : Int32) (vs : List Value) (a2b : Addr) (k2 : ClassId) (d0 : Int32) (d1 : Int32) (d2 : Int32) (h0 : Heap) (n0 : Nat) (O0 : Old Z n0 h0) (GL : GF Z cS) (E_a0s : Exa Z h0 a0s "java/lang/String") (F_value_a0s : Fld Z h0 a0s "java/lang/String" "value" "[B" (.ref a0b)) (F_coder_a0s : Fld Z h0 a0s "java/lang/String" "coder" "B" (.int 0)) (V_a0b : Arv Z h0 a0b k0 .byte nl vs (.int 0)) (E_a1s : Exa Z h0 a1s "java/lang/String") (F_value_a1s : Fld Z h0 a1s "java/lang/String" "value" "[B" (.ref a2b)) (F_coder_a1s : Fld Z h0 a1s "java/lang/String" "coder" "B" (.int 0)) (V_a2b : Arv Z h0 a2b k2 .byte (3 : Int32) [(.int 46), (.int 109), (.int 102)] (.int 0)) (hng : ¬ (off < (0 : Int32))) (hle : ¬ ((nl - (3 : Int32)) < off)) (gA0 : vs.getD (off + (0 : Int32)).toNatClampNeg (.int 0) = .int (d0.toInt8.toInt32)) (xA0 : ¬ ((off + (0 : Int32)) < (0 : Int32))) (yA0 : (off + (0 : Int32)) < nl) (lA0 : ¬ ((255 : Int32) < d0)) (nA0 : ¬ (d0 < (0 : Int32))) (gA1 : vs.getD (off + (1 : Int32)).toNatClampNeg (.int 0) = .int (d1.toInt8.toInt32)) (xA1 : ¬ ((off + (1 : Int32)) < (0 : Int32))) (yA1 : (off + (1 : Int32)) < nl) (lA1 : ¬ ((255 : Int32) < d1)) (nA1 : ¬ (d1 < (0 : Int32))) (gA2 : vs.getD (off + (2 : Int32)).toNatClampNeg (.int 0) = .int (d2.toInt8.toInt32)) (xA2 : ¬ ((off + (2 : Int32)) < (0 : Int32))) (yA2 : (off + (2 : Int32)) < nl) (lA2 : ¬ ((255 : Int32) < d2)) (nA2 : ¬ (d2 < (0 : Int32))) (hA : ¬ (d0 = (46 : Int32) ∧ d1 = (109 : Int32) ∧ d2 = (102 : Int32))) :
    MetFree l MN_10 (head1 (Jvm.Cond.code MN_10 jdk_42_method_75_code 8 (some .boolean) :: ws) ({ frames := 2, cells := 0, slots := 0, locals := 27 } : Room)) (fun a U => a = #[(.ref a0s), (.ref a1s), (.int off)] ∧ Z.Warmed39 U.vm ∧ U.heap = h0) (fun _ _ _ _ _ => True) (fun _ U o U' => ∃ v L, o = .returned v ∧ Q_rmSw_mfF n0 Z cS a0s a1s off a0b k0 nl vs a2b k2 d0 d1 d2 h0 v U'.heap L ∧ FrameEnd U o U' L ({ frames := 2, cells := 0, slots := 0, locals := 27 } : Room).cells ({ frames := 2, cells := 0, slots := 0, locals := 27 } : Room).slots) := by
  refine MetFree.of_bodySF (plainFor_of_name pnv1) hisR ?_
  intro p e s m args below meth c s₁ Bd hml0 hP hK
  obtain ⟨rfl, hZ, hh⟩ := hP
  have hx := Bd.exec
  have hby := Bd.bytes
  have hml : c.maxLocals = 8 := hml0
  have hown : s.vm.findClass "java/lang/String" = some m.cls := findClass_of_methodNamed Bd.named
  have hnm := (name_of_methodNamed Bd.named Bd.method).1
  have X0 : Stand p l e ({ frames := 2, cells := 0, slots := 0, locals := 27 } : Room) s m #[(.ref a0s), (.ref a1s), (.int off)] below meth c s₁ [] 0 0 := Stand.of_body Bd
  have e0 : s₁.heap = h0 := by rw [← hh, Bd.state]; rfl
  have N0 := Fr.nil n0
  have pre0 : ∀ t, Steps p.tables e below (s₁.setTop (mkF m 0 #[.val (.ref a0s), .val (.ref a1s), .val (.int off), .unset, .unset, .unset, .unset, .unset] [])) t → Steps p.tables e below (s₁.setTop (entryFrame m #[(.ref a0s), (.ref a1s), (.int off)] 8)) t := fun t k => castTop (ef_rmSw_mfneg m a0s a1s off) k
  have GL' := GL
  obtain ⟨GCS, GCP⟩ := GL'
  obtain ⟨cq1, kq1, q1a, q1b, q1c⟩ := isOf hZ e0 E_a0s
  obtain ⟨_, _, ⟨T1, L1, k1, n1⟩, -, X1, ⟨Lc1, hQ1, l1, y1, z1⟩, st1⟩ := X0.virtualBack hx (y := MN_8) (z := MN_8) hown (mvT hZ (Wd hw 40 rfl)) (mvT hZ (Wd hw 41 rfl)) (notFace_of_selects (args := #[]) (mvT hZ (Wd hw 43 rfl))) (mvT hZ (Wd hw 43 rfl)) (mvT hZ (Wd hw 42 rfl)) (by decide) (backOf (W := 1) (rmLen l Z a0 hw [] cS (a0s) (a0b) (k0) (nl) (vs) (h0) n0 O0 GL E_a0s F_value_a0s F_coder_a0s V_a0b) hZ (Wd hw 44 rfl) (Wd hw 11 rfl) (by decide) (by decide)) q1a q1c (g := (mkF m 6 #[.val (.ref a0s), .val (.ref a1s), .val (.int off), .unset, .unset, .unset, .unset, .unset] [(.ref a0s), (.int off)])) rfl (by rw [hml]; rfl) (Steps.refl _) (argsL := []) (rest := [(.int off)]) (lenOf pdv6 rfl) rfl (by show 2 * 0 + _ ≤ _; exact Nat.le_of_eq rfl) (hb hby d10_6) (fun _ _ => ⟨rfl, e0, (by decide : 0 + 0 ≤ _), (by decide : 0 + 0 ≤ _)⟩)
  dsimp only [Pt.U, Pt.locs, Pt.cells, Pt.slots] at X1 l1 y1 z1 st1 hQ1
  subst l1 y1 z1
  obtain ⟨rfl, N1q, e1⟩ := hQ1
  have N1 := Fr.app N0 N1q
  obtain ⟨cq2, kq2, q2a, q2b, q2c⟩ := isOf hZ e1 E_a1s
  obtain ⟨_, _, ⟨T2, L2, k2, n2⟩, -, X2, ⟨Lc2, hQ2, l2, y2, z2⟩, st2⟩ := X1.virtualBack hx (y := MN_8) (z := MN_8) hown (mvT hZ (Wd hw 40 rfl)) (mvT hZ (Wd hw 41 rfl)) (notFace_of_selects (args := #[]) (mvT hZ (Wd hw 43 rfl))) (mvT hZ (Wd hw 43 rfl)) (mvT hZ (Wd hw 42 rfl)) (by decide) (backOf (W := 2) (rmLen l Z a0 hw [] cS (a1s) (a2b) (k2) ((3 : Int32)) ([(.int 46), (.int 109), (.int 102)]) (h0) n0 O0 GL E_a1s F_value_a1s F_coder_a1s V_a2b) hZ (Wd hw 44 rfl) (Wd hw 11 rfl) (by decide) (by decide)) q2a q2c (g := (mkF m 10 #[.val (.ref a0s), .val (.ref a1s), .val (.int off), .unset, .unset, .unset, .unset, .unset] [(.ref a1s), (.int nl), (.int off)])) rfl (by rw [hml]; rfl) (Steps.refl _) (argsL := []) (rest := [(.int nl), (.int off)]) (lenOf pdv6 rfl) rfl (by show 2 * 0 + _ ≤ _; exact Nat.le_of_eq rfl) (hb hby d10_10) (fun _ _ => ⟨rfl, e1, (by decide : 0 + 0 ≤ _), (by decide : 0 + 0 ≤ _)⟩)
  dsimp only [Pt.U, Pt.locs, Pt.cells, Pt.slots] at X2 l2 y2 z2 st2 hQ2
  subst l2 y2 z2
  obtain ⟨rfl, N2q, e2⟩ := hQ2
  have N2 := Fr.app N1 N2q
  obtain ⟨T3, X3, e3, st3⟩ := getF X2 hx hZ hown (host := "") (Or.inl (Wd hw 28 rfl)) Via.refl e2 F_value_a0s (g := (mkF m 20 #[.val (.ref a0s), .val (.ref a1s), .val (.int off), .unset, .unset, .unset, .unset, .unset] [(.ref a0s)])) rfl rfl (hb hby d10_20)
  obtain ⟨T4, X4, e4, st4⟩ := getF X3 hx hZ hown (host := "") (Or.inl (Wd hw 28 rfl)) Via.refl e3 F_value_a1s (g := (mkF m 25 #[.val (.ref a0s), .val (.ref a1s), .val (.int off), .val (.ref a0b), .unset, .unset, .unset, .unset] [(.ref a1s)])) rfl rfl (hb hby d10_25)
  obtain ⟨cl5, Ar5, -, S5, N5_, -, -⟩ := id (V_a2b)
  obtain ⟨cq6, kq6, q6a, q6b, q6c⟩ := isOf hZ e4 E_a0s
  obtain ⟨_, _, ⟨T6, L6, k6, n6⟩, -, X6, ⟨Lc6, hQ6, l6, y6, z6⟩, st6⟩ := X4.virtualBack hx (y := MN_7) (z := MN_7) hown (mvT hZ (Wd hw 45 rfl)) (mvT hZ (Wd hw 46 rfl)) (notFace_of_selects (args := #[]) (mvT hZ (Wd hw 48 rfl))) (mvT hZ (Wd hw 48 rfl)) (mvT hZ (Wd hw 47 rfl)) (by decide) (backOf (W := 0) (rmCod l Z a0 hw [] cS (a0s) (h0) n0 O0 GL F_coder_a0s) hZ (Wd hw 49 rfl) (Wd hw 11 rfl) (by decide) (by decide)) q6a q6c (g := (mkF m 39 #[.val (.ref a0s), .val (.ref a1s), .val (.int off), .val (.ref a0b), .val (.ref a2b), .val (.int 0), .val (.int 3), .unset] [(.ref a0s)])) rfl (by rw [hml]; rfl) (Steps.refl _) (argsL := []) (rest := []) (lenOf pdv5 rfl) rfl (by show 2 * 0 + _ ≤ _; exact Nat.le_of_eq rfl) (hb hby d10_39) (fun _ _ => ⟨rfl, e4, (by decide : 0 + 0 ≤ _), (by decide : 0 + 0 ≤ _)⟩)
  dsimp only [Pt.U, Pt.locs, Pt.cells, Pt.slots] at X6 l6 y6 z6 st6 hQ6
  subst l6 y6 z6
  obtain ⟨rfl, N6q, e6⟩ := hQ6
  have N6 := Fr.app N2 N6q
  obtain ⟨cq7, kq7, q7a, q7b, q7c⟩ := isOf hZ e6 E_a1s
  obtain ⟨_, _, ⟨T7, L7, k7, n7⟩, -, X7, ⟨Lc7, hQ7, l7, y7, z7⟩, st7⟩ := X6.virtualBack hx (y := MN_7) (z := MN_7) hown (mvT hZ (Wd hw 45 rfl)) (mvT hZ (Wd hw 46 rfl)) (notFace_of_selects (args := #[]) (mvT hZ (Wd hw 48 rfl))) (mvT hZ (Wd hw 48 rfl)) (mvT hZ (Wd hw 47 rfl)) (by decide) (backOf (W := 1) (rmCod l Z a0 hw [] cS (a1s) (h0) n0 O0 GL F_coder_a1s) hZ (Wd hw 49 rfl) (Wd hw 11 rfl) (by decide) (by decide)) q7a q7c (g := (mkF m 47 #[.val (.ref a0s), .val (.ref a1s), .val (.int off), .val (.ref a0b), .val (.ref a2b), .val (.int 0), .val (.int 3), .val (.int 0)] [(.ref a1s), (.int 0)])) rfl (by rw [hml]; rfl) (Steps.refl _) (argsL := []) (rest := [(.int 0)]) (lenOf pdv5 rfl) rfl (by show 2 * 0 + _ ≤ _; exact Nat.le_of_eq rfl) (hb hby d10_47) (fun _ _ => ⟨rfl, e6, (by decide : 0 + 0 ≤ _), (by decide : 0 + 0 ≤ _)⟩)
  dsimp only [Pt.U, Pt.locs, Pt.cells, Pt.slots] at X7 l7 y7 z7 st7 hQ7
  subst l7 y7 z7
  obtain ⟨rfl, N7q, e7⟩ := hQ7
  have N7 := Fr.app N6 N7q
  obtain ⟨_, _, ⟨T8, L8, k8, n8⟩, -, X8, ⟨Lc8, hQ8, l8, y8, z8⟩, st8⟩ := Jvm.LawKit.callS X7 hx (y := MN_9) hown (mvT hZ (Wd hw 67 rfl)) (mvT hZ (Wd hw 68 rfl)) (mvT hZ (Wd hw 69 rfl)) (mvT hZ (Wd hw 70 rfl)) (by decide) (backOf (W := 0) (rmMm_mfF l Z a0 hw [] cS (a0b) (off) (a2b) (k0) (nl) (vs) (k2) (d0) (d1) (d2) (h0) n0 O0 GL V_a0b V_a2b gA0 xA0 yA0 lA0 nA0 gA1 xA1 yA1 lA1 nA1 gA2 xA2 yA2 lA2 nA2 hA) hZ (Wd hw 70 rfl) (Wd hw 69 rfl) (by decide) (by decide)) (g := (mkF m 70 #[.val (.ref a0s), .val (.ref a1s), .val (.int off), .val (.ref a0b), .val (.ref a2b), .val (.int 0), .val (.int 3), .val (.int 0)] [(.int 3), (.int 0), (.ref a2b), (.int off), (.ref a0b)])) rfl (by rw [hml]; rfl) (argsL := [(.ref a0b), (.int off), (.ref a2b), (.int 0), (.int 3)]) (rest := []) (lenOf pdv8 rfl) rfl (by show 2 * 0 + _ ≤ _; exact Nat.le_of_eq rfl) (hb hby d10_70) (fun _ _ => ⟨rfl, e7, (by decide : 0 + 0 ≤ _), (by decide : 0 + 0 ≤ _)⟩)
  dsimp only [Pt.U, Pt.locs, Pt.cells, Pt.slots] at X8 l8 y8 z8 st8 hQ8
  subst l8 y8 z8
  obtain ⟨r_8, rfl, N8q, e8, P8_0⟩ := hQ8
  have N8 := Fr.app N7 N8q
  obtain ⟨fs, hr, hrun, hended, hW, hsame⟩ := X8.leave (v := some (.int 0)) (fun h => by rw [Bd.returns] at h; cases h)
  refine ⟨_, _, pre0 _ ?_, hrun, hended, _, _, rfl, ?_, ⟨_, rfl⟩, hW, hsame.mono (by decide) (by decide)⟩
  · show Steps p.tables e below (s₁.setTop (mkF m 0 #[.val (.ref a0s), .val (.ref a1s), .val (.int off), .unset, .unset, .unset, .unset, .unset] [])) _
    refine XS.iloadN X0.here hx rfl (hb hby d10_0) rfl ?_
    refine XS.ifNo X0.here hx rfl (hb hby d10_1) rfl ((if0 _ _).trans (flt hng).1) ?_
    refine XS.iloadN X0.here hx rfl (hb hby d10_4) rfl ?_
    refine XS.aloadN X0.here hx rfl (hb hby d10_5) rfl rfl ?_
    show Steps p.tables e below (s₁.setTop (mkF m 6 #[.val (.ref a0s), .val (.ref a1s), .val (.int off), .unset, .unset, .unset, .unset, .unset] [(.ref a0s), (.int off)])) _
    refine st1.trans ?_
    show Steps p.tables e below (T1.setTop (mkF m 9 #[.val (.ref a0s), .val (.ref a1s), .val (.int off), .unset, .unset, .unset, .unset, .unset] [(.int nl), (.int off)])) _
    refine XS.aloadN X1.here hx rfl (hb hby d10_9) rfl rfl ?_
    show Steps p.tables e below (T1.setTop (mkF m 10 #[.val (.ref a0s), .val (.ref a1s), .val (.int off), .unset, .unset, .unset, .unset, .unset] [(.ref a1s), (.int nl), (.int off)])) _
    refine st2.trans ?_
    show Steps p.tables e below (T2.setTop (mkF m 13 #[.val (.ref a0s), .val (.ref a1s), .val (.int off), .unset, .unset, .unset, .unset, .unset] [(.int 3), (.int nl), (.int off)])) _
    refine XS.isub X2.here hx rfl (hb hby d10_13) rfl ?_
    refine XS.icmpYes X2.here hx rfl (pc0 := 14) (pc' := 19) rfl (hb hby d10_14) rfl (flt hle).2.2.2 (by decide) (by decide) ?_
    refine XS.aloadN X2.here hx rfl (hb hby d10_19) rfl rfl ?_
    show Steps p.tables e below (T2.setTop (mkF m 20 #[.val (.ref a0s), .val (.ref a1s), .val (.int off), .unset, .unset, .unset, .unset, .unset] [(.ref a0s)])) _
    refine st3 _ ?_
    show Steps p.tables e below (T3.setTop (mkF m 23 #[.val (.ref a0s), .val (.ref a1s), .val (.int off), .unset, .unset, .unset, .unset, .unset] [(.ref a0b)])) _
    refine XS.astoreN X3.here hx rfl (hb hby d10_23) rfl rfl (l' := #[.val (.ref a0s), .val (.ref a1s), .val (.int off), .val (.ref a0b), .unset, .unset, .unset, .unset]) rfl ?_
    refine XS.aloadN X3.here hx rfl (hb hby d10_24) rfl rfl ?_
    show Steps p.tables e below (T3.setTop (mkF m 25 #[.val (.ref a0s), .val (.ref a1s), .val (.int off), .val (.ref a0b), .unset, .unset, .unset, .unset] [(.ref a1s)])) _
    refine st4 _ ?_
    show Steps p.tables e below (T4.setTop (mkF m 28 #[.val (.ref a0s), .val (.ref a1s), .val (.int off), .val (.ref a0b), .unset, .unset, .unset, .unset] [(.ref a2b)])) _
    refine XS.astore X4.here hx rfl (hb hby d10_28) rfl rfl (l' := #[.val (.ref a0s), .val (.ref a1s), .val (.int off), .val (.ref a0b), .val (.ref a2b), .unset, .unset, .unset]) rfl ?_
    refine XS.iconst X4.here hx rfl (hb hby d10_30) ?_
    refine XS.istore X4.here hx rfl (hb hby d10_31) rfl (l' := #[.val (.ref a0s), .val (.ref a1s), .val (.int off), .val (.ref a0b), .val (.ref a2b), .val (.int 0), .unset, .unset]) rfl ?_
    refine XS.aload X4.here hx rfl (hb hby d10_33) rfl rfl ?_
    show Steps p.tables e below (T4.setTop (mkF m 35 #[.val (.ref a0s), .val (.ref a1s), .val (.int off), .val (.ref a0b), .val (.ref a2b), .val (.int 0), .unset, .unset] [(.ref a2b)])) _
    refine X4.arraylength hx (by rw [e4]; exact Ar5.1) (State.isArrayOf_alike hZ.alike Ar5.2.1) (g := (mkF m 35 #[.val (.ref a0s), .val (.ref a1s), .val (.int off), .val (.ref a0b), .val (.ref a2b), .val (.int 0), .unset, .unset] [(.ref a2b)])) rfl rfl (hb hby d10_35) _ ?_
    rw [len_of S5 N5_]
    show Steps p.tables e below (T4.setTop (mkF m 36 #[.val (.ref a0s), .val (.ref a1s), .val (.int off), .val (.ref a0b), .val (.ref a2b), .val (.int 0), .unset, .unset] [(.int 3)])) _
    refine XS.istore X4.here hx rfl (hb hby d10_36) rfl (l' := #[.val (.ref a0s), .val (.ref a1s), .val (.int off), .val (.ref a0b), .val (.ref a2b), .val (.int 0), .val (.int 3), .unset]) rfl ?_
    refine XS.aloadN X4.here hx rfl (hb hby d10_38) rfl rfl ?_
    show Steps p.tables e below (T4.setTop (mkF m 39 #[.val (.ref a0s), .val (.ref a1s), .val (.int off), .val (.ref a0b), .val (.ref a2b), .val (.int 0), .val (.int 3), .unset] [(.ref a0s)])) _
    refine st6.trans ?_
    show Steps p.tables e below (T6.setTop (mkF m 42 #[.val (.ref a0s), .val (.ref a1s), .val (.int off), .val (.ref a0b), .val (.ref a2b), .val (.int 0), .val (.int 3), .unset] [(.int 0)])) _
    refine XS.istore X6.here hx rfl (hb hby d10_42) rfl (l' := #[.val (.ref a0s), .val (.ref a1s), .val (.int off), .val (.ref a0b), .val (.ref a2b), .val (.int 0), .val (.int 3), .val (.int 0)]) rfl ?_
    refine XS.iload X6.here hx rfl (hb hby d10_44) rfl ?_
    refine XS.aloadN X6.here hx rfl (hb hby d10_46) rfl rfl ?_
    show Steps p.tables e below (T6.setTop (mkF m 47 #[.val (.ref a0s), .val (.ref a1s), .val (.int off), .val (.ref a0b), .val (.ref a2b), .val (.int 0), .val (.int 3), .val (.int 0)] [(.ref a1s), (.int 0)])) _
    refine st7.trans ?_
    show Steps p.tables e below (T7.setTop (mkF m 50 #[.val (.ref a0s), .val (.ref a1s), .val (.int off), .val (.ref a0b), .val (.ref a2b), .val (.int 0), .val (.int 3), .val (.int 0)] [(.int 0), (.int 0)])) _
    refine XS.icmpNo X7.here hx rfl (hb hby d10_50) rfl (teq (by decide : (0 : Int32) = (0 : Int32))).2 ?_
    refine XS.iload X7.here hx rfl (hb hby d10_53) rfl ?_
    refine XS.iconst X7.here hx rfl (hb hby d10_55) ?_
    refine XS.icmpYes X7.here hx rfl (pc0 := 56) (pc' := 63) rfl (hb hby d10_56) rfl (feq (by decide : ¬ ((0 : Int32) = (1 : Int32)))).2 (by decide) (by decide) ?_
    show Steps p.tables e below (T7.setTop (mkF m 63 #[.val (.ref a0s), .val (.ref a1s), .val (.int off), .val (.ref a0b), .val (.ref a2b), .val (.int 0), .val (.int 3), .val (.int 0)] [])) _
    refine XS.aloadN X7.here hx rfl (hb hby d10_63) rfl rfl ?_
    refine XS.iloadN X7.here hx rfl (hb hby d10_64) rfl ?_
    refine XS.aload X7.here hx rfl (hb hby d10_65) rfl rfl ?_
    refine XS.iconst X7.here hx rfl (hb hby d10_67) ?_
    show Steps p.tables e below (T7.setTop (mkF m 68 #[.val (.ref a0s), .val (.ref a1s), .val (.int off), .val (.ref a0b), .val (.ref a2b), .val (.int 0), .val (.int 3), .val (.int 0)] [(.int 0), (.ref a2b), (.int off), (.ref a0b)])) _
    refine XS.iload X7.here hx rfl (hb hby d10_68) rfl ?_
    show Steps p.tables e below (T7.setTop (mkF m 70 #[.val (.ref a0s), .val (.ref a1s), .val (.int off), .val (.ref a0b), .val (.ref a2b), .val (.int 0), .val (.int 3), .val (.int 0)] [(.int 3), (.int 0), (.ref a2b), (.int off), (.ref a0b)])) _
    refine st8 _ ?_
    show Steps p.tables e below (T8.setTop (mkF m 73 #[.val (.ref a0s), .val (.ref a1s), .val (.int off), .val (.ref a0b), .val (.ref a2b), .val (.int 0), .val (.int 3), .val (.int 0)] [(.int r_8)])) _
    refine XS.ifYes X8.here hx rfl (pc0 := 73) (pc' := 80) rfl (hb hby d10_73) rfl ((if0 _ _).trans (flt P8_0).2.1) (by decide) (by decide) ?_
    refine XS.iconst X8.here hx rfl (hb hby d10_80) ?_
    show Steps p.tables e below (T8.setTop (mkF m 81 #[.val (.ref a0s), .val (.ref a1s), .val (.int off), .val (.ref a0b), .val (.ref a2b), .val (.int 0), .val (.int 3), .val (.int 0)] [(.int 0)])) _
    exact retN X8 hx (t := .boolean) Bd.returns (by simp) (hb hby d10_81) hr
  · show Q_rmSw_mfF n0 Z cS a0s a1s off a0b k0 nl vs a2b k2 d0 d1 d2 h0 _ T8.heap _
    rw [e8]
    exact ⟨rfl, N8, rfl⟩
def Q_rmEw_mfF (n0 : Nat) (Z : State) (cS : Int32) (a0s : Addr) (a1s : Addr) (a0b : Addr) (k0 : ClassId) (nl : Int32) (vs : List Value) (a2b : Addr) (k2 : ClassId) (d0 : Int32) (d1 : Int32) (d2 : Int32) (h0 : Heap) (v : Option Value) (h : Heap) (L : List Loc) : Prop := v = some (.int 0) ∧ Fr n0 L ∧ h = h0
set_option maxRecDepth 65536 in
set_option maxHeartbeats 40000000 in
theorem rmEw_mfF (l : Launch) (Z : State) (a0 : Array Value) (hw : ∀ d ∈ tables_1, d.before a0 Z = true) (ws : List Jvm.Cond) (cS : Int32) (a0s : Addr) (a1s : Addr) (a0b : Addr) (k0 : ClassId) (nl : Int32) (vs : List Value) (a2b : Addr) (k2 : ClassId) (d0 : Int32) (d1 : Int32) (d2 : Int32) (h0 : Heap) (n0 : Nat) (O0 : Old Z n0 h0) (GL : GF Z cS) (E_a0s : Exa Z h0 a0s "java/lang/String") (F_value_a0s : Fld Z h0 a0s "java/lang/String" "value" "[B" (.ref a0b)) (F_coder_a0s : Fld Z h0 a0s "java/lang/String" "coder" "B" (.int 0)) (V_a0b : Arv Z h0 a0b k0 .byte nl vs (.int 0)) (E_a1s : Exa Z h0 a1s "java/lang/String") (F_value_a1s : Fld Z h0 a1s "java/lang/String" "value" "[B" (.ref a2b)) (F_coder_a1s : Fld Z h0 a1s "java/lang/String" "coder" "B" (.int 0)) (V_a2b : Arv Z h0 a2b k2 .byte (3 : Int32) [(.int 46), (.int 109), (.int 102)] (.int 0)) (hng : ¬ ((nl - (3 : Int32)) < (0 : Int32))) (gA0 : vs.getD ((nl - (3 : Int32)) + (0 : Int32)).toNatClampNeg (.int 0) = .int (d0.toInt8.toInt32)) (xA0 : ¬ (((nl - (3 : Int32)) + (0 : Int32)) < (0 : Int32))) (yA0 : ((nl - (3 : Int32)) + (0 : Int32)) < nl) (lA0 : ¬ ((255 : Int32) < d0)) (nA0 : ¬ (d0 < (0 : Int32))) (gA1 : vs.getD ((nl - (3 : Int32)) + (1 : Int32)).toNatClampNeg (.int 0) = .int (d1.toInt8.toInt32)) (xA1 : ¬ (((nl - (3 : Int32)) + (1 : Int32)) < (0 : Int32))) (yA1 : ((nl - (3 : Int32)) + (1 : Int32)) < nl) (lA1 : ¬ ((255 : Int32) < d1)) (nA1 : ¬ (d1 < (0 : Int32))) (gA2 : vs.getD ((nl - (3 : Int32)) + (2 : Int32)).toNatClampNeg (.int 0) = .int (d2.toInt8.toInt32)) (xA2 : ¬ (((nl - (3 : Int32)) + (2 : Int32)) < (0 : Int32))) (yA2 : ((nl - (3 : Int32)) + (2 : Int32)) < nl) (lA2 : ¬ ((255 : Int32) < d2)) (nA2 : ¬ (d2 < (0 : Int32))) (hA : ¬ (d0 = (46 : Int32) ∧ d1 = (109 : Int32) ∧ d2 = (102 : Int32))) :
    MetFree l MN_11 (head1 (Jvm.Cond.code MN_11 jdk_42_method_77_code 2 (some .boolean) :: ws) ({ frames := 3, cells := 0, slots := 0, locals := 46 } : Room)) (fun a U => a = #[(.ref a0s), (.ref a1s)] ∧ Z.Warmed39 U.vm ∧ U.heap = h0) (fun _ _ _ _ _ => True) (fun _ U o U' => ∃ v L, o = .returned v ∧ Q_rmEw_mfF n0 Z cS a0s a1s a0b k0 nl vs a2b k2 d0 d1 d2 h0 v U'.heap L ∧ FrameEnd U o U' L ({ frames := 3, cells := 0, slots := 0, locals := 46 } : Room).cells ({ frames := 3, cells := 0, slots := 0, locals := 46 } : Room).slots) := by
  refine MetFree.of_bodySF (plainFor_of_name pnv1) hisR ?_
  intro p e s m args below meth c s₁ Bd hml0 hP hK
  obtain ⟨rfl, hZ, hh⟩ := hP
  have hx := Bd.exec
  have hby := Bd.bytes
  have hml : c.maxLocals = 2 := hml0
  have hown : s.vm.findClass "java/lang/String" = some m.cls := findClass_of_methodNamed Bd.named
  have hnm := (name_of_methodNamed Bd.named Bd.method).1
  have X0 : Stand p l e ({ frames := 3, cells := 0, slots := 0, locals := 46 } : Room) s m #[(.ref a0s), (.ref a1s)] below meth c s₁ [] 0 0 := Stand.of_body Bd
  have e0 : s₁.heap = h0 := by rw [← hh, Bd.state]; rfl
  have N0 := Fr.nil n0
  have pre0 : ∀ t, Steps p.tables e below (s₁.setTop (mkF m 0 #[.val (.ref a0s), .val (.ref a1s)] [])) t → Steps p.tables e below (s₁.setTop (entryFrame m #[(.ref a0s), (.ref a1s)] 2)) t := fun t k => castTop (ef_rmEw_mfneg m a0s a1s) k
  have GL' := GL
  obtain ⟨GCS, GCP⟩ := GL'
  obtain ⟨cq1, kq1, q1a, q1b, q1c⟩ := isOf hZ e0 E_a0s
  obtain ⟨_, _, ⟨T1, L1, k1, n1⟩, -, X1, ⟨Lc1, hQ1, l1, y1, z1⟩, st1⟩ := X0.virtualBack hx (y := MN_8) (z := MN_8) hown (mvT hZ (Wd hw 40 rfl)) (mvT hZ (Wd hw 41 rfl)) (notFace_of_selects (args := #[]) (mvT hZ (Wd hw 43 rfl))) (mvT hZ (Wd hw 43 rfl)) (mvT hZ (Wd hw 42 rfl)) (by decide) (backOf (W := 2) (rmLen l Z a0 hw [] cS (a0s) (a0b) (k0) (nl) (vs) (h0) n0 O0 GL E_a0s F_value_a0s F_coder_a0s V_a0b) hZ (Wd hw 44 rfl) (Wd hw 11 rfl) (by decide) (by decide)) q1a q1c (g := (mkF m 3 #[.val (.ref a0s), .val (.ref a1s)] [(.ref a0s), (.ref a1s), (.ref a0s)])) rfl (by rw [hml]; rfl) (Steps.refl _) (argsL := []) (rest := [(.ref a1s), (.ref a0s)]) (lenOf pdv6 rfl) rfl (by show 2 * 0 + _ ≤ _; exact Nat.le_of_eq rfl) (hb hby d7_3) (fun _ _ => ⟨rfl, e0, (by decide : 0 + 0 ≤ _), (by decide : 0 + 0 ≤ _)⟩)
  dsimp only [Pt.U, Pt.locs, Pt.cells, Pt.slots] at X1 l1 y1 z1 st1 hQ1
  subst l1 y1 z1
  obtain ⟨rfl, N1q, e1⟩ := hQ1
  have N1 := Fr.app N0 N1q
  obtain ⟨cq2, kq2, q2a, q2b, q2c⟩ := isOf hZ e1 E_a1s
  obtain ⟨_, _, ⟨T2, L2, k2, n2⟩, -, X2, ⟨Lc2, hQ2, l2, y2, z2⟩, st2⟩ := X1.virtualBack hx (y := MN_8) (z := MN_8) hown (mvT hZ (Wd hw 40 rfl)) (mvT hZ (Wd hw 41 rfl)) (notFace_of_selects (args := #[]) (mvT hZ (Wd hw 43 rfl))) (mvT hZ (Wd hw 43 rfl)) (mvT hZ (Wd hw 42 rfl)) (by decide) (backOf (W := 3) (rmLen l Z a0 hw [] cS (a1s) (a2b) (k2) ((3 : Int32)) ([(.int 46), (.int 109), (.int 102)]) (h0) n0 O0 GL E_a1s F_value_a1s F_coder_a1s V_a2b) hZ (Wd hw 44 rfl) (Wd hw 11 rfl) (by decide) (by decide)) q2a q2c (g := (mkF m 7 #[.val (.ref a0s), .val (.ref a1s)] [(.ref a1s), (.int nl), (.ref a1s), (.ref a0s)])) rfl (by rw [hml]; rfl) (Steps.refl _) (argsL := []) (rest := [(.int nl), (.ref a1s), (.ref a0s)]) (lenOf pdv6 rfl) rfl (by show 2 * 0 + _ ≤ _; exact Nat.le_of_eq rfl) (hb hby d7_7) (fun _ _ => ⟨rfl, e1, (by decide : 0 + 0 ≤ _), (by decide : 0 + 0 ≤ _)⟩)
  dsimp only [Pt.U, Pt.locs, Pt.cells, Pt.slots] at X2 l2 y2 z2 st2 hQ2
  subst l2 y2 z2
  obtain ⟨rfl, N2q, e2⟩ := hQ2
  have N2 := Fr.app N1 N2q
  obtain ⟨cq3, kq3, q3a, q3b, q3c⟩ := isOf hZ e2 E_a0s
  obtain ⟨_, _, ⟨T3, L3, k3, n3⟩, -, X3, ⟨Lc3, hQ3, l3, y3, z3⟩, st3⟩ := X2.virtualBack hx (y := MN_10) (z := MN_10) hown (mvT hZ (Wd hw 51 rfl)) (mvT hZ (Wd hw 52 rfl)) (notFace_of_selects (args := #[]) (mvT hZ (Wd hw 54 rfl))) (mvT hZ (Wd hw 54 rfl)) (mvT hZ (Wd hw 53 rfl)) (by decide) (backOf (W := 0) (rmSw_mfF l Z a0 hw [] cS (a0s) (a1s) ((nl - (3 : Int32))) (a0b) (k0) (nl) (vs) (a2b) (k2) (d0) (d1) (d2) (h0) n0 O0 GL E_a0s F_value_a0s F_coder_a0s V_a0b E_a1s F_value_a1s F_coder_a1s V_a2b hng (fun h => Int32.lt_irrefl h) gA0 xA0 yA0 lA0 nA0 gA1 xA1 yA1 lA1 nA1 gA2 xA2 yA2 lA2 nA2 hA) hZ (Wd hw 55 rfl) (Wd hw 11 rfl) (by decide) (by decide)) q3a q3c (g := (mkF m 11 #[.val (.ref a0s), .val (.ref a1s)] [(.int (nl - (3 : Int32))), (.ref a1s), (.ref a0s)])) rfl (by rw [hml]; rfl) (Steps.refl _) (argsL := [(.ref a1s), (.int (nl - (3 : Int32)))]) (rest := []) (lenOf pdv7 rfl) rfl (by show 2 * 0 + _ ≤ _; exact Nat.le_of_eq rfl) (hb hby d7_11) (fun _ _ => ⟨rfl, e2, (by decide : 0 + 0 ≤ _), (by decide : 0 + 0 ≤ _)⟩)
  dsimp only [Pt.U, Pt.locs, Pt.cells, Pt.slots] at X3 l3 y3 z3 st3 hQ3
  subst l3 y3 z3
  obtain ⟨rfl, N3q, e3⟩ := hQ3
  have N3 := Fr.app N2 N3q
  obtain ⟨fs, hr, hrun, hended, hW, hsame⟩ := X3.leave (v := some (.int 0)) (fun h => by rw [Bd.returns] at h; cases h)
  refine ⟨_, _, pre0 _ ?_, hrun, hended, _, _, rfl, ?_, ⟨_, rfl⟩, hW, hsame.mono (by decide) (by decide)⟩
  · show Steps p.tables e below (s₁.setTop (mkF m 0 #[.val (.ref a0s), .val (.ref a1s)] [])) _
    refine XS.aloadN X0.here hx rfl (hb hby d7_0) rfl rfl ?_
    refine XS.aloadN X0.here hx rfl (hb hby d7_1) rfl rfl ?_
    refine XS.aloadN X0.here hx rfl (hb hby d7_2) rfl rfl ?_
    show Steps p.tables e below (s₁.setTop (mkF m 3 #[.val (.ref a0s), .val (.ref a1s)] [(.ref a0s), (.ref a1s), (.ref a0s)])) _
    refine st1.trans ?_
    show Steps p.tables e below (T1.setTop (mkF m 6 #[.val (.ref a0s), .val (.ref a1s)] [(.int nl), (.ref a1s), (.ref a0s)])) _
    refine XS.aloadN X1.here hx rfl (hb hby d7_6) rfl rfl ?_
    show Steps p.tables e below (T1.setTop (mkF m 7 #[.val (.ref a0s), .val (.ref a1s)] [(.ref a1s), (.int nl), (.ref a1s), (.ref a0s)])) _
    refine st2.trans ?_
    show Steps p.tables e below (T2.setTop (mkF m 10 #[.val (.ref a0s), .val (.ref a1s)] [(.int 3), (.int nl), (.ref a1s), (.ref a0s)])) _
    refine XS.isub X2.here hx rfl (hb hby d7_10) rfl ?_
    show Steps p.tables e below (T2.setTop (mkF m 11 #[.val (.ref a0s), .val (.ref a1s)] [(.int (nl - (3 : Int32))), (.ref a1s), (.ref a0s)])) _
    refine st3.trans ?_
    show Steps p.tables e below (T3.setTop (mkF m 14 #[.val (.ref a0s), .val (.ref a1s)] [(.int 0)])) _
    exact retN X3 hx (t := .boolean) Bd.returns (by simp) (hb hby d7_14) hr
  · show Q_rmEw_mfF n0 Z cS a0s a1s a0b k0 nl vs a2b k2 d0 d1 d2 h0 _ T3.heap _
    rw [e3]
    exact ⟨rfl, N3, rfl⟩
theorem ef_rmMm_jarT (m : MethodId) (a0b : Addr) (off : Int32) (a2b : Addr) : entryFrame m #[(.ref a0b), (.int off), (.ref a2b), (.int 0), (.int 4)] 8 = mkF m 0 #[.val (.ref a0b), .val (.int off), .val (.ref a2b), .val (.int 0), .val (.int 4), .unset, .unset, .unset] [] := by first | (simp [entryFrame, mkF, argsToLocals, Value.category]; done) | rfl
def Q_rmMm_jarT (n0 : Nat) (Z : State) (cS : Int32) (a0b : Addr) (off : Int32) (a2b : Addr) (k0 : ClassId) (nl : Int32) (vs : List Value) (k2 : ClassId) (d0 : Int32) (d1 : Int32) (d2 : Int32) (d3 : Int32) (h0 : Heap) (v : Option Value) (h : Heap) (L : List Loc) : Prop := v = some (.int (-1 : Int32)) ∧ Fr n0 L ∧ h = h0
set_option maxRecDepth 65536 in
set_option maxHeartbeats 40000000 in
theorem rmMm_jarT (l : Launch) (Z : State) (a0 : Array Value) (hw : ∀ d ∈ tables_1, d.before a0 Z = true) (ws : List Jvm.Cond) (cS : Int32) (a0b : Addr) (off : Int32) (a2b : Addr) (k0 : ClassId) (nl : Int32) (vs : List Value) (k2 : ClassId) (d0 : Int32) (d1 : Int32) (d2 : Int32) (d3 : Int32) (h0 : Heap) (n0 : Nat) (O0 : Old Z n0 h0) (GL : GF Z cS) (V_a0b : Arv Z h0 a0b k0 .byte nl vs (.int 0)) (V_a2b : Arv Z h0 a2b k2 .byte (4 : Int32) [(.int 46), (.int 106), (.int 97), (.int 114)] (.int 0)) (gA0 : vs.getD (off + (0 : Int32)).toNatClampNeg (.int 0) = .int (d0.toInt8.toInt32)) (xA0 : ¬ ((off + (0 : Int32)) < (0 : Int32))) (yA0 : (off + (0 : Int32)) < nl) (gA1 : vs.getD (off + (1 : Int32)).toNatClampNeg (.int 0) = .int (d1.toInt8.toInt32)) (xA1 : ¬ ((off + (1 : Int32)) < (0 : Int32))) (yA1 : (off + (1 : Int32)) < nl) (gA2 : vs.getD (off + (2 : Int32)).toNatClampNeg (.int 0) = .int (d2.toInt8.toInt32)) (xA2 : ¬ ((off + (2 : Int32)) < (0 : Int32))) (yA2 : (off + (2 : Int32)) < nl) (gA3 : vs.getD (off + (3 : Int32)).toNatClampNeg (.int 0) = .int (d3.toInt8.toInt32)) (xA3 : ¬ ((off + (3 : Int32)) < (0 : Int32))) (yA3 : (off + (3 : Int32)) < nl) (hA : d0 = (46 : Int32) ∧ d1 = (106 : Int32) ∧ d2 = (97 : Int32) ∧ d3 = (114 : Int32)) :
    MetFree l MN_9 (head1 (Jvm.Cond.code MN_9 jdk_48_method_14_code 8 (some .int) :: ws) ({ frames := 0, cells := 0, slots := 0, locals := 0 } : Room)) (fun a U => a = #[(.ref a0b), (.int off), (.ref a2b), (.int 0), (.int 4)] ∧ Z.Warmed39 U.vm ∧ U.heap = h0) (fun _ _ _ _ _ => True) (fun _ U o U' => ∃ v L, o = .returned v ∧ Q_rmMm_jarT n0 Z cS a0b off a2b k0 nl vs k2 d0 d1 d2 d3 h0 v U'.heap L ∧ FrameEnd U o U' L ({ frames := 0, cells := 0, slots := 0, locals := 0 } : Room).cells ({ frames := 0, cells := 0, slots := 0, locals := 0 } : Room).slots) := by
  refine MetFree.of_bodySF (plainFor_of_name pnv3) hisR ?_
  intro p e s m args below meth c s₁ Bd hml0 hP hK
  obtain ⟨rfl, hZ, hh⟩ := hP
  have hx := Bd.exec
  have hby := Bd.bytes
  have hml : c.maxLocals = 8 := hml0
  have hown : s.vm.findClass "jdk/internal/util/ArraysSupport" = some m.cls := findClass_of_methodNamed Bd.named
  have hnm := (name_of_methodNamed Bd.named Bd.method).1
  have X0 : Stand p l e ({ frames := 0, cells := 0, slots := 0, locals := 0 } : Room) s m #[(.ref a0b), (.int off), (.ref a2b), (.int 0), (.int 4)] below meth c s₁ [] 0 0 := Stand.of_body Bd
  have e0 : s₁.heap = h0 := by rw [← hh, Bd.state]; rfl
  have N0 := Fr.nil n0
  have pre0 : ∀ t, Steps p.tables e below (s₁.setTop (mkF m 0 #[.val (.ref a0b), .val (.int off), .val (.ref a2b), .val (.int 0), .val (.int 4), .unset, .unset, .unset] [])) t → Steps p.tables e below (s₁.setTop (entryFrame m #[(.ref a0b), (.int off), (.ref a2b), (.int 0), (.int 4)] 8)) t := fun t k => castTop (ef_rmMm_jarT m a0b off a2b) k
  have GL' := GL
  obtain ⟨GCS, GCP⟩ := GL'
  obtain ⟨cl1, Ar1, -, S1, N1_, H1, G1⟩ := id (V_a0b)
  have hin1 : ¬ ((off + (0 : Int32)) < 0 ∨ cl1.slots.size ≤ ((off + (0 : Int32))).toNatClampNeg) := inb_of S1 ⟨xA0, yA0⟩
  have hat1 : cl1.slots[((off + (0 : Int32))).toNatClampNeg]? = some (.int (d0.toInt8.toInt32)) := H1.at hin1 gA0
  obtain ⟨cl2, Ar2, -, S2, N2_, H2, G2⟩ := id (V_a2b)
  have hin2 : ¬ ((0 : Int32) < 0 ∨ cl2.slots.size ≤ ((0 : Int32)).toNatClampNeg) := inb_of S2 ⟨(by decide), (by decide)⟩
  have hat2 : cl2.slots[((0 : Int32)).toNatClampNeg]? = some (.int 46) := H2.at hin2 rfl
  have ht0 : (d0.toInt8.toInt32) = (46 : Int32) := (by rw [hA.1]; decide)
  obtain ⟨cl3, Ar3, -, S3, N3_, H3, G3⟩ := id (V_a0b)
  have hin3 : ¬ ((off + (1 : Int32)) < 0 ∨ cl3.slots.size ≤ ((off + (1 : Int32))).toNatClampNeg) := inb_of S3 ⟨xA1, yA1⟩
  have hat3 : cl3.slots[((off + (1 : Int32))).toNatClampNeg]? = some (.int (d1.toInt8.toInt32)) := H3.at hin3 gA1
  obtain ⟨cl4, Ar4, -, S4, N4_, H4, G4⟩ := id (V_a2b)
  have hin4 : ¬ ((1 : Int32) < 0 ∨ cl4.slots.size ≤ ((1 : Int32)).toNatClampNeg) := inb_of S4 ⟨(by decide), (by decide)⟩
  have hat4 : cl4.slots[((1 : Int32)).toNatClampNeg]? = some (.int 106) := H4.at hin4 rfl
  have ht1 : (d1.toInt8.toInt32) = (106 : Int32) := (by rw [hA.2.1]; decide)
  obtain ⟨cl5, Ar5, -, S5, N5_, H5, G5⟩ := id (V_a0b)
  have hin5 : ¬ ((off + (2 : Int32)) < 0 ∨ cl5.slots.size ≤ ((off + (2 : Int32))).toNatClampNeg) := inb_of S5 ⟨xA2, yA2⟩
  have hat5 : cl5.slots[((off + (2 : Int32))).toNatClampNeg]? = some (.int (d2.toInt8.toInt32)) := H5.at hin5 gA2
  obtain ⟨cl6, Ar6, -, S6, N6_, H6, G6⟩ := id (V_a2b)
  have hin6 : ¬ ((2 : Int32) < 0 ∨ cl6.slots.size ≤ ((2 : Int32)).toNatClampNeg) := inb_of S6 ⟨(by decide), (by decide)⟩
  have hat6 : cl6.slots[((2 : Int32)).toNatClampNeg]? = some (.int 97) := H6.at hin6 rfl
  have ht2 : (d2.toInt8.toInt32) = (97 : Int32) := (by rw [hA.2.2.1]; decide)
  obtain ⟨cl7, Ar7, -, S7, N7_, H7, G7⟩ := id (V_a0b)
  have hin7 : ¬ ((off + (3 : Int32)) < 0 ∨ cl7.slots.size ≤ ((off + (3 : Int32))).toNatClampNeg) := inb_of S7 ⟨xA3, yA3⟩
  have hat7 : cl7.slots[((off + (3 : Int32))).toNatClampNeg]? = some (.int (d3.toInt8.toInt32)) := H7.at hin7 gA3
  obtain ⟨cl8, Ar8, -, S8, N8_, H8, G8⟩ := id (V_a2b)
  have hin8 : ¬ ((3 : Int32) < 0 ∨ cl8.slots.size ≤ ((3 : Int32)).toNatClampNeg) := inb_of S8 ⟨(by decide), (by decide)⟩
  have hat8 : cl8.slots[((3 : Int32)).toNatClampNeg]? = some (.int 114) := H8.at hin8 rfl
  have ht3 : (d3.toInt8.toInt32) = (114 : Int32) := (by rw [hA.2.2.2]; decide)
  obtain ⟨fs, hr, hrun, hended, hW, hsame⟩ := X0.leave (v := some (.int (-1 : Int32))) (fun h => by rw [Bd.returns] at h; cases h)
  refine ⟨_, _, pre0 _ ?_, hrun, hended, _, _, rfl, ?_, ⟨_, rfl⟩, hW, hsame.mono (by decide) (by decide)⟩
  · show Steps p.tables e below (s₁.setTop (mkF m 0 #[.val (.ref a0b), .val (.int off), .val (.ref a2b), .val (.int 0), .val (.int 4), .unset, .unset, .unset] [])) _
    refine XS.iconst X0.here hx rfl (hb hby d14_0) ?_
    refine XS.istore X0.here hx rfl (hb hby d14_1) rfl (l' := #[.val (.ref a0b), .val (.int off), .val (.ref a2b), .val (.int 0), .val (.int 4), .val (.int 0), .unset, .unset]) rfl ?_
    refine XS.iload X0.here hx rfl (hb hby d14_3) rfl ?_
    refine XS.bipush X0.here hx rfl (hb hby d14_5) ?_
    show Steps p.tables e below (s₁.setTop (mkF m 7 #[.val (.ref a0b), .val (.int off), .val (.ref a2b), .val (.int 0), .val (.int 4), .val (.int 0), .unset, .unset] [(.int 7), (.int 4)])) _
    refine XS.icmpYes X0.here hx rfl (pc0 := 7) (pc' := 70) rfl (hb hby d14_7) rfl (flt (by decide : ¬ ((7 : Int32) < (4 : Int32)))).2.2.2 (by decide) (by decide) ?_
    refine XS.iload X0.here hx rfl (hb hby d14_70) rfl ?_
    refine XS.iload X0.here hx rfl (hb hby d14_72) rfl ?_
    refine XS.icmpNo X0.here hx rfl (hb hby d14_74) rfl (tlt (by decide : (0 : Int32) < (4 : Int32))).2.1 ?_
    show Steps p.tables e below (s₁.setTop (mkF m 77 #[.val (.ref a0b), .val (.int off), .val (.ref a2b), .val (.int 0), .val (.int 4), .val (.int 0), .unset, .unset] [])) _
    refine XS.aloadN X0.here hx rfl (hb hby d14_77) rfl rfl ?_
    refine XS.iloadN X0.here hx rfl (hb hby d14_78) rfl ?_
    refine XS.iload X0.here hx rfl (hb hby d14_79) rfl ?_
    refine XS.iadd X0.here hx rfl (hb hby d14_81) rfl ?_
    show Steps p.tables e below (s₁.setTop (mkF m 82 #[.val (.ref a0b), .val (.int off), .val (.ref a2b), .val (.int 0), .val (.int 4), .val (.int 0), .unset, .unset] [(.int (off + (0 : Int32))), (.ref a0b)])) _
    refine X0.baloadBytes hx (j := (off + (0 : Int32))) (v := (.int (d0.toInt8.toInt32))) (by rw [e0]; exact Ar1.1) (State.isArrayOf_alike hZ.alike Ar1.2.1) Ar1.2.2 hin1 hat1 (g := (mkF m 82 #[.val (.ref a0b), .val (.int off), .val (.ref a2b), .val (.int 0), .val (.int 4), .val (.int 0), .unset, .unset] [(.int (off + (0 : Int32))), (.ref a0b)])) rfl rfl (hb hby d14_82) _ ?_
    show Steps p.tables e below (s₁.setTop (mkF m 83 #[.val (.ref a0b), .val (.int off), .val (.ref a2b), .val (.int 0), .val (.int 4), .val (.int 0), .unset, .unset] [(.int (d0.toInt8.toInt32))])) _
    refine XS.aloadN X0.here hx rfl (hb hby d14_83) rfl rfl ?_
    refine XS.iloadN X0.here hx rfl (hb hby d14_84) rfl ?_
    refine XS.iload X0.here hx rfl (hb hby d14_85) rfl ?_
    refine XS.iadd X0.here hx rfl (hb hby d14_87) rfl ?_
    show Steps p.tables e below (s₁.setTop (mkF m 88 #[.val (.ref a0b), .val (.int off), .val (.ref a2b), .val (.int 0), .val (.int 4), .val (.int 0), .unset, .unset] [(.int 0), (.ref a2b), (.int (d0.toInt8.toInt32))])) _
    refine X0.baloadBytes hx (j := (0 : Int32)) (v := (.int 46)) (by rw [e0]; exact Ar2.1) (State.isArrayOf_alike hZ.alike Ar2.2.1) Ar2.2.2 hin2 hat2 (g := (mkF m 88 #[.val (.ref a0b), .val (.int off), .val (.ref a2b), .val (.int 0), .val (.int 4), .val (.int 0), .unset, .unset] [(.int 0), (.ref a2b), (.int (d0.toInt8.toInt32))])) rfl rfl (hb hby d14_88) _ ?_
    show Steps p.tables e below (s₁.setTop (mkF m 89 #[.val (.ref a0b), .val (.int off), .val (.ref a2b), .val (.int 0), .val (.int 4), .val (.int 0), .unset, .unset] [(.int 46), (.int (d0.toInt8.toInt32))])) _
    refine XS.icmpYes X0.here hx rfl (pc0 := 89) (pc' := 95) rfl (hb hby d14_89) rfl (teq ht0).1 (by decide) (by decide) ?_
    refine XS.iinc X0.here hx rfl (hb hby d14_95) rfl (l' := #[.val (.ref a0b), .val (.int off), .val (.ref a2b), .val (.int 0), .val (.int 4), .val (.int 1), .unset, .unset]) rfl ?_
    refine XS.goto X0.here hx rfl (pc0 := 98) (pc' := 70) rfl (hb hby d14_98) (by decide) (by decide) ?_
    refine XS.iload X0.here hx rfl (hb hby d14_70) rfl ?_
    show Steps p.tables e below (s₁.setTop (mkF m 72 #[.val (.ref a0b), .val (.int off), .val (.ref a2b), .val (.int 0), .val (.int 4), .val (.int 1), .unset, .unset] [(.int 1)])) _
    refine XS.iload X0.here hx rfl (hb hby d14_72) rfl ?_
    refine XS.icmpNo X0.here hx rfl (hb hby d14_74) rfl (tlt (by decide : (1 : Int32) < (4 : Int32))).2.1 ?_
    refine XS.aloadN X0.here hx rfl (hb hby d14_77) rfl rfl ?_
    refine XS.iloadN X0.here hx rfl (hb hby d14_78) rfl ?_
    show Steps p.tables e below (s₁.setTop (mkF m 79 #[.val (.ref a0b), .val (.int off), .val (.ref a2b), .val (.int 0), .val (.int 4), .val (.int 1), .unset, .unset] [(.int off), (.ref a0b)])) _
    refine XS.iload X0.here hx rfl (hb hby d14_79) rfl ?_
    refine XS.iadd X0.here hx rfl (hb hby d14_81) rfl ?_
    show Steps p.tables e below (s₁.setTop (mkF m 82 #[.val (.ref a0b), .val (.int off), .val (.ref a2b), .val (.int 0), .val (.int 4), .val (.int 1), .unset, .unset] [(.int (off + (1 : Int32))), (.ref a0b)])) _
    refine X0.baloadBytes hx (j := (off + (1 : Int32))) (v := (.int (d1.toInt8.toInt32))) (by rw [e0]; exact Ar3.1) (State.isArrayOf_alike hZ.alike Ar3.2.1) Ar3.2.2 hin3 hat3 (g := (mkF m 82 #[.val (.ref a0b), .val (.int off), .val (.ref a2b), .val (.int 0), .val (.int 4), .val (.int 1), .unset, .unset] [(.int (off + (1 : Int32))), (.ref a0b)])) rfl rfl (hb hby d14_82) _ ?_
    show Steps p.tables e below (s₁.setTop (mkF m 83 #[.val (.ref a0b), .val (.int off), .val (.ref a2b), .val (.int 0), .val (.int 4), .val (.int 1), .unset, .unset] [(.int (d1.toInt8.toInt32))])) _
    refine XS.aloadN X0.here hx rfl (hb hby d14_83) rfl rfl ?_
    refine XS.iloadN X0.here hx rfl (hb hby d14_84) rfl ?_
    refine XS.iload X0.here hx rfl (hb hby d14_85) rfl ?_
    refine XS.iadd X0.here hx rfl (hb hby d14_87) rfl ?_
    show Steps p.tables e below (s₁.setTop (mkF m 88 #[.val (.ref a0b), .val (.int off), .val (.ref a2b), .val (.int 0), .val (.int 4), .val (.int 1), .unset, .unset] [(.int 1), (.ref a2b), (.int (d1.toInt8.toInt32))])) _
    refine X0.baloadBytes hx (j := (1 : Int32)) (v := (.int 106)) (by rw [e0]; exact Ar4.1) (State.isArrayOf_alike hZ.alike Ar4.2.1) Ar4.2.2 hin4 hat4 (g := (mkF m 88 #[.val (.ref a0b), .val (.int off), .val (.ref a2b), .val (.int 0), .val (.int 4), .val (.int 1), .unset, .unset] [(.int 1), (.ref a2b), (.int (d1.toInt8.toInt32))])) rfl rfl (hb hby d14_88) _ ?_
    show Steps p.tables e below (s₁.setTop (mkF m 89 #[.val (.ref a0b), .val (.int off), .val (.ref a2b), .val (.int 0), .val (.int 4), .val (.int 1), .unset, .unset] [(.int 106), (.int (d1.toInt8.toInt32))])) _
    refine XS.icmpYes X0.here hx rfl (pc0 := 89) (pc' := 95) rfl (hb hby d14_89) rfl (teq ht1).1 (by decide) (by decide) ?_
    refine XS.iinc X0.here hx rfl (hb hby d14_95) rfl (l' := #[.val (.ref a0b), .val (.int off), .val (.ref a2b), .val (.int 0), .val (.int 4), .val (.int 2), .unset, .unset]) rfl ?_
    refine XS.goto X0.here hx rfl (pc0 := 98) (pc' := 70) rfl (hb hby d14_98) (by decide) (by decide) ?_
    refine XS.iload X0.here hx rfl (hb hby d14_70) rfl ?_
    show Steps p.tables e below (s₁.setTop (mkF m 72 #[.val (.ref a0b), .val (.int off), .val (.ref a2b), .val (.int 0), .val (.int 4), .val (.int 2), .unset, .unset] [(.int 2)])) _
    refine XS.iload X0.here hx rfl (hb hby d14_72) rfl ?_
    refine XS.icmpNo X0.here hx rfl (hb hby d14_74) rfl (tlt (by decide : (2 : Int32) < (4 : Int32))).2.1 ?_
    refine XS.aloadN X0.here hx rfl (hb hby d14_77) rfl rfl ?_
    refine XS.iloadN X0.here hx rfl (hb hby d14_78) rfl ?_
    show Steps p.tables e below (s₁.setTop (mkF m 79 #[.val (.ref a0b), .val (.int off), .val (.ref a2b), .val (.int 0), .val (.int 4), .val (.int 2), .unset, .unset] [(.int off), (.ref a0b)])) _
    refine XS.iload X0.here hx rfl (hb hby d14_79) rfl ?_
    refine XS.iadd X0.here hx rfl (hb hby d14_81) rfl ?_
    show Steps p.tables e below (s₁.setTop (mkF m 82 #[.val (.ref a0b), .val (.int off), .val (.ref a2b), .val (.int 0), .val (.int 4), .val (.int 2), .unset, .unset] [(.int (off + (2 : Int32))), (.ref a0b)])) _
    refine X0.baloadBytes hx (j := (off + (2 : Int32))) (v := (.int (d2.toInt8.toInt32))) (by rw [e0]; exact Ar5.1) (State.isArrayOf_alike hZ.alike Ar5.2.1) Ar5.2.2 hin5 hat5 (g := (mkF m 82 #[.val (.ref a0b), .val (.int off), .val (.ref a2b), .val (.int 0), .val (.int 4), .val (.int 2), .unset, .unset] [(.int (off + (2 : Int32))), (.ref a0b)])) rfl rfl (hb hby d14_82) _ ?_
    show Steps p.tables e below (s₁.setTop (mkF m 83 #[.val (.ref a0b), .val (.int off), .val (.ref a2b), .val (.int 0), .val (.int 4), .val (.int 2), .unset, .unset] [(.int (d2.toInt8.toInt32))])) _
    refine XS.aloadN X0.here hx rfl (hb hby d14_83) rfl rfl ?_
    refine XS.iloadN X0.here hx rfl (hb hby d14_84) rfl ?_
    refine XS.iload X0.here hx rfl (hb hby d14_85) rfl ?_
    refine XS.iadd X0.here hx rfl (hb hby d14_87) rfl ?_
    show Steps p.tables e below (s₁.setTop (mkF m 88 #[.val (.ref a0b), .val (.int off), .val (.ref a2b), .val (.int 0), .val (.int 4), .val (.int 2), .unset, .unset] [(.int 2), (.ref a2b), (.int (d2.toInt8.toInt32))])) _
    refine X0.baloadBytes hx (j := (2 : Int32)) (v := (.int 97)) (by rw [e0]; exact Ar6.1) (State.isArrayOf_alike hZ.alike Ar6.2.1) Ar6.2.2 hin6 hat6 (g := (mkF m 88 #[.val (.ref a0b), .val (.int off), .val (.ref a2b), .val (.int 0), .val (.int 4), .val (.int 2), .unset, .unset] [(.int 2), (.ref a2b), (.int (d2.toInt8.toInt32))])) rfl rfl (hb hby d14_88) _ ?_
    show Steps p.tables e below (s₁.setTop (mkF m 89 #[.val (.ref a0b), .val (.int off), .val (.ref a2b), .val (.int 0), .val (.int 4), .val (.int 2), .unset, .unset] [(.int 97), (.int (d2.toInt8.toInt32))])) _
    refine XS.icmpYes X0.here hx rfl (pc0 := 89) (pc' := 95) rfl (hb hby d14_89) rfl (teq ht2).1 (by decide) (by decide) ?_
    refine XS.iinc X0.here hx rfl (hb hby d14_95) rfl (l' := #[.val (.ref a0b), .val (.int off), .val (.ref a2b), .val (.int 0), .val (.int 4), .val (.int 3), .unset, .unset]) rfl ?_
    refine XS.goto X0.here hx rfl (pc0 := 98) (pc' := 70) rfl (hb hby d14_98) (by decide) (by decide) ?_
    refine XS.iload X0.here hx rfl (hb hby d14_70) rfl ?_
    show Steps p.tables e below (s₁.setTop (mkF m 72 #[.val (.ref a0b), .val (.int off), .val (.ref a2b), .val (.int 0), .val (.int 4), .val (.int 3), .unset, .unset] [(.int 3)])) _
    refine XS.iload X0.here hx rfl (hb hby d14_72) rfl ?_
    refine XS.icmpNo X0.here hx rfl (hb hby d14_74) rfl (tlt (by decide : (3 : Int32) < (4 : Int32))).2.1 ?_
    refine XS.aloadN X0.here hx rfl (hb hby d14_77) rfl rfl ?_
    refine XS.iloadN X0.here hx rfl (hb hby d14_78) rfl ?_
    show Steps p.tables e below (s₁.setTop (mkF m 79 #[.val (.ref a0b), .val (.int off), .val (.ref a2b), .val (.int 0), .val (.int 4), .val (.int 3), .unset, .unset] [(.int off), (.ref a0b)])) _
    refine XS.iload X0.here hx rfl (hb hby d14_79) rfl ?_
    refine XS.iadd X0.here hx rfl (hb hby d14_81) rfl ?_
    show Steps p.tables e below (s₁.setTop (mkF m 82 #[.val (.ref a0b), .val (.int off), .val (.ref a2b), .val (.int 0), .val (.int 4), .val (.int 3), .unset, .unset] [(.int (off + (3 : Int32))), (.ref a0b)])) _
    refine X0.baloadBytes hx (j := (off + (3 : Int32))) (v := (.int (d3.toInt8.toInt32))) (by rw [e0]; exact Ar7.1) (State.isArrayOf_alike hZ.alike Ar7.2.1) Ar7.2.2 hin7 hat7 (g := (mkF m 82 #[.val (.ref a0b), .val (.int off), .val (.ref a2b), .val (.int 0), .val (.int 4), .val (.int 3), .unset, .unset] [(.int (off + (3 : Int32))), (.ref a0b)])) rfl rfl (hb hby d14_82) _ ?_
    show Steps p.tables e below (s₁.setTop (mkF m 83 #[.val (.ref a0b), .val (.int off), .val (.ref a2b), .val (.int 0), .val (.int 4), .val (.int 3), .unset, .unset] [(.int (d3.toInt8.toInt32))])) _
    refine XS.aloadN X0.here hx rfl (hb hby d14_83) rfl rfl ?_
    refine XS.iloadN X0.here hx rfl (hb hby d14_84) rfl ?_
    refine XS.iload X0.here hx rfl (hb hby d14_85) rfl ?_
    refine XS.iadd X0.here hx rfl (hb hby d14_87) rfl ?_
    show Steps p.tables e below (s₁.setTop (mkF m 88 #[.val (.ref a0b), .val (.int off), .val (.ref a2b), .val (.int 0), .val (.int 4), .val (.int 3), .unset, .unset] [(.int 3), (.ref a2b), (.int (d3.toInt8.toInt32))])) _
    refine X0.baloadBytes hx (j := (3 : Int32)) (v := (.int 114)) (by rw [e0]; exact Ar8.1) (State.isArrayOf_alike hZ.alike Ar8.2.1) Ar8.2.2 hin8 hat8 (g := (mkF m 88 #[.val (.ref a0b), .val (.int off), .val (.ref a2b), .val (.int 0), .val (.int 4), .val (.int 3), .unset, .unset] [(.int 3), (.ref a2b), (.int (d3.toInt8.toInt32))])) rfl rfl (hb hby d14_88) _ ?_
    show Steps p.tables e below (s₁.setTop (mkF m 89 #[.val (.ref a0b), .val (.int off), .val (.ref a2b), .val (.int 0), .val (.int 4), .val (.int 3), .unset, .unset] [(.int 114), (.int (d3.toInt8.toInt32))])) _
    refine XS.icmpYes X0.here hx rfl (pc0 := 89) (pc' := 95) rfl (hb hby d14_89) rfl (teq ht3).1 (by decide) (by decide) ?_
    refine XS.iinc X0.here hx rfl (hb hby d14_95) rfl (l' := #[.val (.ref a0b), .val (.int off), .val (.ref a2b), .val (.int 0), .val (.int 4), .val (.int 4), .unset, .unset]) rfl ?_
    refine XS.goto X0.here hx rfl (pc0 := 98) (pc' := 70) rfl (hb hby d14_98) (by decide) (by decide) ?_
    refine XS.iload X0.here hx rfl (hb hby d14_70) rfl ?_
    show Steps p.tables e below (s₁.setTop (mkF m 72 #[.val (.ref a0b), .val (.int off), .val (.ref a2b), .val (.int 0), .val (.int 4), .val (.int 4), .unset, .unset] [(.int 4)])) _
    refine XS.iload X0.here hx rfl (hb hby d14_72) rfl ?_
    refine XS.icmpYes X0.here hx rfl (pc0 := 74) (pc' := 101) rfl (hb hby d14_74) rfl (flt (by decide : ¬ ((4 : Int32) < (4 : Int32)))).2.1 (by decide) (by decide) ?_
    refine XS.iconst X0.here hx rfl (hb hby d14_101) ?_
    show Steps p.tables e below (s₁.setTop (mkF m 102 #[.val (.ref a0b), .val (.int off), .val (.ref a2b), .val (.int 0), .val (.int 4), .val (.int 4), .unset, .unset] [(.int (-1 : Int32))])) _
    exact retI X0 hx Bd.returns (hb hby d14_102) hr
  · show Q_rmMm_jarT n0 Z cS a0b off a2b k0 nl vs k2 d0 d1 d2 d3 h0 _ s₁.heap _
    rw [e0]
    exact ⟨rfl, N0, rfl⟩
def Q_rmMm_jarF (n0 : Nat) (Z : State) (cS : Int32) (a0b : Addr) (off : Int32) (a2b : Addr) (k0 : ClassId) (nl : Int32) (vs : List Value) (k2 : ClassId) (d0 : Int32) (d1 : Int32) (d2 : Int32) (d3 : Int32) (h0 : Heap) (v : Option Value) (h : Heap) (L : List Loc) : Prop := ∃ r : Int32, v = some (.int r) ∧ Fr n0 L ∧ h = h0 ∧ (¬ (r < (0 : Int32)))
set_option maxRecDepth 65536 in
set_option maxHeartbeats 40000000 in
theorem rmMm_jarF (l : Launch) (Z : State) (a0 : Array Value) (hw : ∀ d ∈ tables_1, d.before a0 Z = true) (ws : List Jvm.Cond) (cS : Int32) (a0b : Addr) (off : Int32) (a2b : Addr) (k0 : ClassId) (nl : Int32) (vs : List Value) (k2 : ClassId) (d0 : Int32) (d1 : Int32) (d2 : Int32) (d3 : Int32) (h0 : Heap) (n0 : Nat) (O0 : Old Z n0 h0) (GL : GF Z cS) (V_a0b : Arv Z h0 a0b k0 .byte nl vs (.int 0)) (V_a2b : Arv Z h0 a2b k2 .byte (4 : Int32) [(.int 46), (.int 106), (.int 97), (.int 114)] (.int 0)) (gA0 : vs.getD (off + (0 : Int32)).toNatClampNeg (.int 0) = .int (d0.toInt8.toInt32)) (xA0 : ¬ ((off + (0 : Int32)) < (0 : Int32))) (yA0 : (off + (0 : Int32)) < nl) (lA0 : ¬ ((255 : Int32) < d0)) (nA0 : ¬ (d0 < (0 : Int32))) (gA1 : vs.getD (off + (1 : Int32)).toNatClampNeg (.int 0) = .int (d1.toInt8.toInt32)) (xA1 : ¬ ((off + (1 : Int32)) < (0 : Int32))) (yA1 : (off + (1 : Int32)) < nl) (lA1 : ¬ ((255 : Int32) < d1)) (nA1 : ¬ (d1 < (0 : Int32))) (gA2 : vs.getD (off + (2 : Int32)).toNatClampNeg (.int 0) = .int (d2.toInt8.toInt32)) (xA2 : ¬ ((off + (2 : Int32)) < (0 : Int32))) (yA2 : (off + (2 : Int32)) < nl) (lA2 : ¬ ((255 : Int32) < d2)) (nA2 : ¬ (d2 < (0 : Int32))) (gA3 : vs.getD (off + (3 : Int32)).toNatClampNeg (.int 0) = .int (d3.toInt8.toInt32)) (xA3 : ¬ ((off + (3 : Int32)) < (0 : Int32))) (yA3 : (off + (3 : Int32)) < nl) (lA3 : ¬ ((255 : Int32) < d3)) (nA3 : ¬ (d3 < (0 : Int32))) (hA : ¬ (d0 = (46 : Int32) ∧ d1 = (106 : Int32) ∧ d2 = (97 : Int32) ∧ d3 = (114 : Int32))) :
    MetFree l MN_9 (head1 (Jvm.Cond.code MN_9 jdk_48_method_14_code 8 (some .int) :: ws) ({ frames := 0, cells := 0, slots := 0, locals := 0 } : Room)) (fun a U => a = #[(.ref a0b), (.int off), (.ref a2b), (.int 0), (.int 4)] ∧ Z.Warmed39 U.vm ∧ U.heap = h0) (fun _ _ _ _ _ => True) (fun _ U o U' => ∃ v L, o = .returned v ∧ Q_rmMm_jarF n0 Z cS a0b off a2b k0 nl vs k2 d0 d1 d2 d3 h0 v U'.heap L ∧ FrameEnd U o U' L ({ frames := 0, cells := 0, slots := 0, locals := 0 } : Room).cells ({ frames := 0, cells := 0, slots := 0, locals := 0 } : Room).slots) := by
  refine MetFree.of_bodySF (plainFor_of_name pnv3) hisR ?_
  intro p e s m args below meth c s₁ Bd hml0 hP hK
  obtain ⟨rfl, hZ, hh⟩ := hP
  have hx := Bd.exec
  have hby := Bd.bytes
  have hml : c.maxLocals = 8 := hml0
  have hown : s.vm.findClass "jdk/internal/util/ArraysSupport" = some m.cls := findClass_of_methodNamed Bd.named
  have hnm := (name_of_methodNamed Bd.named Bd.method).1
  have X0 : Stand p l e ({ frames := 0, cells := 0, slots := 0, locals := 0 } : Room) s m #[(.ref a0b), (.int off), (.ref a2b), (.int 0), (.int 4)] below meth c s₁ [] 0 0 := Stand.of_body Bd
  have e0 : s₁.heap = h0 := by rw [← hh, Bd.state]; rfl
  have N0 := Fr.nil n0
  have pre0 : ∀ t, Steps p.tables e below (s₁.setTop (mkF m 0 #[.val (.ref a0b), .val (.int off), .val (.ref a2b), .val (.int 0), .val (.int 4), .unset, .unset, .unset] [])) t → Steps p.tables e below (s₁.setTop (entryFrame m #[(.ref a0b), (.int off), (.ref a2b), (.int 0), (.int 4)] 8)) t := fun t k => castTop (ef_rmMm_jarT m a0b off a2b) k
  have GL' := GL
  obtain ⟨GCS, GCP⟩ := GL'
  obtain ⟨cl1, Ar1, -, S1, N1_, H1, G1⟩ := id (V_a0b)
  have hin1 : ¬ ((off + (0 : Int32)) < 0 ∨ cl1.slots.size ≤ ((off + (0 : Int32))).toNatClampNeg) := inb_of S1 ⟨xA0, yA0⟩
  have hat1 : cl1.slots[((off + (0 : Int32))).toNatClampNeg]? = some (.int (d0.toInt8.toInt32)) := H1.at hin1 gA0
  obtain ⟨cl2, Ar2, -, S2, N2_, H2, G2⟩ := id (V_a2b)
  have hin2 : ¬ ((0 : Int32) < 0 ∨ cl2.slots.size ≤ ((0 : Int32)).toNatClampNeg) := inb_of S2 ⟨(by decide), (by decide)⟩
  have hat2 : cl2.slots[((0 : Int32)).toNatClampNeg]? = some (.int 46) := H2.at hin2 rfl
  have pre3 : ∀ t, Steps p.tables e below (s₁.setTop (mkF m 89 #[.val (.ref a0b), .val (.int off), .val (.ref a2b), .val (.int 0), .val (.int 4), .val (.int 0), .unset, .unset] [(.int 46), (.int (d0.toInt8.toInt32))])) t → Steps p.tables e below (s₁.setTop (entryFrame m #[(.ref a0b), (.int off), (.ref a2b), (.int 0), (.int 4)] 8)) t := fun t kt => by
    refine pre0 t ?_
    show Steps p.tables e below (s₁.setTop (mkF m 0 #[.val (.ref a0b), .val (.int off), .val (.ref a2b), .val (.int 0), .val (.int 4), .unset, .unset, .unset] [])) _
    refine XS.iconst X0.here hx rfl (hb hby d14_0) ?_
    refine XS.istore X0.here hx rfl (hb hby d14_1) rfl (l' := #[.val (.ref a0b), .val (.int off), .val (.ref a2b), .val (.int 0), .val (.int 4), .val (.int 0), .unset, .unset]) rfl ?_
    refine XS.iload X0.here hx rfl (hb hby d14_3) rfl ?_
    refine XS.bipush X0.here hx rfl (hb hby d14_5) ?_
    show Steps p.tables e below (s₁.setTop (mkF m 7 #[.val (.ref a0b), .val (.int off), .val (.ref a2b), .val (.int 0), .val (.int 4), .val (.int 0), .unset, .unset] [(.int 7), (.int 4)])) _
    refine XS.icmpYes X0.here hx rfl (pc0 := 7) (pc' := 70) rfl (hb hby d14_7) rfl (flt (by decide : ¬ ((7 : Int32) < (4 : Int32)))).2.2.2 (by decide) (by decide) ?_
    refine XS.iload X0.here hx rfl (hb hby d14_70) rfl ?_
    refine XS.iload X0.here hx rfl (hb hby d14_72) rfl ?_
    refine XS.icmpNo X0.here hx rfl (hb hby d14_74) rfl (tlt (by decide : (0 : Int32) < (4 : Int32))).2.1 ?_
    show Steps p.tables e below (s₁.setTop (mkF m 77 #[.val (.ref a0b), .val (.int off), .val (.ref a2b), .val (.int 0), .val (.int 4), .val (.int 0), .unset, .unset] [])) _
    refine XS.aloadN X0.here hx rfl (hb hby d14_77) rfl rfl ?_
    refine XS.iloadN X0.here hx rfl (hb hby d14_78) rfl ?_
    refine XS.iload X0.here hx rfl (hb hby d14_79) rfl ?_
    refine XS.iadd X0.here hx rfl (hb hby d14_81) rfl ?_
    show Steps p.tables e below (s₁.setTop (mkF m 82 #[.val (.ref a0b), .val (.int off), .val (.ref a2b), .val (.int 0), .val (.int 4), .val (.int 0), .unset, .unset] [(.int (off + (0 : Int32))), (.ref a0b)])) _
    refine X0.baloadBytes hx (j := (off + (0 : Int32))) (v := (.int (d0.toInt8.toInt32))) (by rw [e0]; exact Ar1.1) (State.isArrayOf_alike hZ.alike Ar1.2.1) Ar1.2.2 hin1 hat1 (g := (mkF m 82 #[.val (.ref a0b), .val (.int off), .val (.ref a2b), .val (.int 0), .val (.int 4), .val (.int 0), .unset, .unset] [(.int (off + (0 : Int32))), (.ref a0b)])) rfl rfl (hb hby d14_82) _ ?_
    show Steps p.tables e below (s₁.setTop (mkF m 83 #[.val (.ref a0b), .val (.int off), .val (.ref a2b), .val (.int 0), .val (.int 4), .val (.int 0), .unset, .unset] [(.int (d0.toInt8.toInt32))])) _
    refine XS.aloadN X0.here hx rfl (hb hby d14_83) rfl rfl ?_
    refine XS.iloadN X0.here hx rfl (hb hby d14_84) rfl ?_
    refine XS.iload X0.here hx rfl (hb hby d14_85) rfl ?_
    refine XS.iadd X0.here hx rfl (hb hby d14_87) rfl ?_
    show Steps p.tables e below (s₁.setTop (mkF m 88 #[.val (.ref a0b), .val (.int off), .val (.ref a2b), .val (.int 0), .val (.int 4), .val (.int 0), .unset, .unset] [(.int 0), (.ref a2b), (.int (d0.toInt8.toInt32))])) _
    refine X0.baloadBytes hx (j := (0 : Int32)) (v := (.int 46)) (by rw [e0]; exact Ar2.1) (State.isArrayOf_alike hZ.alike Ar2.2.1) Ar2.2.2 hin2 hat2 (g := (mkF m 88 #[.val (.ref a0b), .val (.int off), .val (.ref a2b), .val (.int 0), .val (.int 4), .val (.int 0), .unset, .unset] [(.int 0), (.ref a2b), (.int (d0.toInt8.toInt32))])) rfl rfl (hb hby d14_88) _ ?_
    exact kt
  by_cases hf0 : (d0.toInt8.toInt32) = (46 : Int32)
  · obtain ⟨cl4, Ar4, -, S4, N4_, H4, G4⟩ := id (V_a0b)
    have hin4 : ¬ ((off + (1 : Int32)) < 0 ∨ cl4.slots.size ≤ ((off + (1 : Int32))).toNatClampNeg) := inb_of S4 ⟨xA1, yA1⟩
    have hat4 : cl4.slots[((off + (1 : Int32))).toNatClampNeg]? = some (.int (d1.toInt8.toInt32)) := H4.at hin4 gA1
    obtain ⟨cl5, Ar5, -, S5, N5_, H5, G5⟩ := id (V_a2b)
    have hin5 : ¬ ((1 : Int32) < 0 ∨ cl5.slots.size ≤ ((1 : Int32)).toNatClampNeg) := inb_of S5 ⟨(by decide), (by decide)⟩
    have hat5 : cl5.slots[((1 : Int32)).toNatClampNeg]? = some (.int 106) := H5.at hin5 rfl
    have pre6 : ∀ t, Steps p.tables e below (s₁.setTop (mkF m 89 #[.val (.ref a0b), .val (.int off), .val (.ref a2b), .val (.int 0), .val (.int 4), .val (.int 1), .unset, .unset] [(.int 106), (.int (d1.toInt8.toInt32))])) t → Steps p.tables e below (s₁.setTop (entryFrame m #[(.ref a0b), (.int off), (.ref a2b), (.int 0), (.int 4)] 8)) t := fun t kt => by
      refine pre3 t ?_
      show Steps p.tables e below (s₁.setTop (mkF m 89 #[.val (.ref a0b), .val (.int off), .val (.ref a2b), .val (.int 0), .val (.int 4), .val (.int 0), .unset, .unset] [(.int 46), (.int (d0.toInt8.toInt32))])) _
      refine XS.icmpYes X0.here hx rfl (pc0 := 89) (pc' := 95) rfl (hb hby d14_89) rfl (teq hf0).1 (by decide) (by decide) ?_
      refine XS.iinc X0.here hx rfl (hb hby d14_95) rfl (l' := #[.val (.ref a0b), .val (.int off), .val (.ref a2b), .val (.int 0), .val (.int 4), .val (.int 1), .unset, .unset]) rfl ?_
      refine XS.goto X0.here hx rfl (pc0 := 98) (pc' := 70) rfl (hb hby d14_98) (by decide) (by decide) ?_
      refine XS.iload X0.here hx rfl (hb hby d14_70) rfl ?_
      show Steps p.tables e below (s₁.setTop (mkF m 72 #[.val (.ref a0b), .val (.int off), .val (.ref a2b), .val (.int 0), .val (.int 4), .val (.int 1), .unset, .unset] [(.int 1)])) _
      refine XS.iload X0.here hx rfl (hb hby d14_72) rfl ?_
      refine XS.icmpNo X0.here hx rfl (hb hby d14_74) rfl (tlt (by decide : (1 : Int32) < (4 : Int32))).2.1 ?_
      refine XS.aloadN X0.here hx rfl (hb hby d14_77) rfl rfl ?_
      refine XS.iloadN X0.here hx rfl (hb hby d14_78) rfl ?_
      show Steps p.tables e below (s₁.setTop (mkF m 79 #[.val (.ref a0b), .val (.int off), .val (.ref a2b), .val (.int 0), .val (.int 4), .val (.int 1), .unset, .unset] [(.int off), (.ref a0b)])) _
      refine XS.iload X0.here hx rfl (hb hby d14_79) rfl ?_
      refine XS.iadd X0.here hx rfl (hb hby d14_81) rfl ?_
      show Steps p.tables e below (s₁.setTop (mkF m 82 #[.val (.ref a0b), .val (.int off), .val (.ref a2b), .val (.int 0), .val (.int 4), .val (.int 1), .unset, .unset] [(.int (off + (1 : Int32))), (.ref a0b)])) _
      refine X0.baloadBytes hx (j := (off + (1 : Int32))) (v := (.int (d1.toInt8.toInt32))) (by rw [e0]; exact Ar4.1) (State.isArrayOf_alike hZ.alike Ar4.2.1) Ar4.2.2 hin4 hat4 (g := (mkF m 82 #[.val (.ref a0b), .val (.int off), .val (.ref a2b), .val (.int 0), .val (.int 4), .val (.int 1), .unset, .unset] [(.int (off + (1 : Int32))), (.ref a0b)])) rfl rfl (hb hby d14_82) _ ?_
      show Steps p.tables e below (s₁.setTop (mkF m 83 #[.val (.ref a0b), .val (.int off), .val (.ref a2b), .val (.int 0), .val (.int 4), .val (.int 1), .unset, .unset] [(.int (d1.toInt8.toInt32))])) _
      refine XS.aloadN X0.here hx rfl (hb hby d14_83) rfl rfl ?_
      refine XS.iloadN X0.here hx rfl (hb hby d14_84) rfl ?_
      refine XS.iload X0.here hx rfl (hb hby d14_85) rfl ?_
      refine XS.iadd X0.here hx rfl (hb hby d14_87) rfl ?_
      show Steps p.tables e below (s₁.setTop (mkF m 88 #[.val (.ref a0b), .val (.int off), .val (.ref a2b), .val (.int 0), .val (.int 4), .val (.int 1), .unset, .unset] [(.int 1), (.ref a2b), (.int (d1.toInt8.toInt32))])) _
      refine X0.baloadBytes hx (j := (1 : Int32)) (v := (.int 106)) (by rw [e0]; exact Ar5.1) (State.isArrayOf_alike hZ.alike Ar5.2.1) Ar5.2.2 hin5 hat5 (g := (mkF m 88 #[.val (.ref a0b), .val (.int off), .val (.ref a2b), .val (.int 0), .val (.int 4), .val (.int 1), .unset, .unset] [(.int 1), (.ref a2b), (.int (d1.toInt8.toInt32))])) rfl rfl (hb hby d14_88) _ ?_
      exact kt
    by_cases hf1 : (d1.toInt8.toInt32) = (106 : Int32)
    · obtain ⟨cl7, Ar7, -, S7, N7_, H7, G7⟩ := id (V_a0b)
      have hin7 : ¬ ((off + (2 : Int32)) < 0 ∨ cl7.slots.size ≤ ((off + (2 : Int32))).toNatClampNeg) := inb_of S7 ⟨xA2, yA2⟩
      have hat7 : cl7.slots[((off + (2 : Int32))).toNatClampNeg]? = some (.int (d2.toInt8.toInt32)) := H7.at hin7 gA2
      obtain ⟨cl8, Ar8, -, S8, N8_, H8, G8⟩ := id (V_a2b)
      have hin8 : ¬ ((2 : Int32) < 0 ∨ cl8.slots.size ≤ ((2 : Int32)).toNatClampNeg) := inb_of S8 ⟨(by decide), (by decide)⟩
      have hat8 : cl8.slots[((2 : Int32)).toNatClampNeg]? = some (.int 97) := H8.at hin8 rfl
      have pre9 : ∀ t, Steps p.tables e below (s₁.setTop (mkF m 89 #[.val (.ref a0b), .val (.int off), .val (.ref a2b), .val (.int 0), .val (.int 4), .val (.int 2), .unset, .unset] [(.int 97), (.int (d2.toInt8.toInt32))])) t → Steps p.tables e below (s₁.setTop (entryFrame m #[(.ref a0b), (.int off), (.ref a2b), (.int 0), (.int 4)] 8)) t := fun t kt => by
        refine pre6 t ?_
        show Steps p.tables e below (s₁.setTop (mkF m 89 #[.val (.ref a0b), .val (.int off), .val (.ref a2b), .val (.int 0), .val (.int 4), .val (.int 1), .unset, .unset] [(.int 106), (.int (d1.toInt8.toInt32))])) _
        refine XS.icmpYes X0.here hx rfl (pc0 := 89) (pc' := 95) rfl (hb hby d14_89) rfl (teq hf1).1 (by decide) (by decide) ?_
        refine XS.iinc X0.here hx rfl (hb hby d14_95) rfl (l' := #[.val (.ref a0b), .val (.int off), .val (.ref a2b), .val (.int 0), .val (.int 4), .val (.int 2), .unset, .unset]) rfl ?_
        refine XS.goto X0.here hx rfl (pc0 := 98) (pc' := 70) rfl (hb hby d14_98) (by decide) (by decide) ?_
        refine XS.iload X0.here hx rfl (hb hby d14_70) rfl ?_
        show Steps p.tables e below (s₁.setTop (mkF m 72 #[.val (.ref a0b), .val (.int off), .val (.ref a2b), .val (.int 0), .val (.int 4), .val (.int 2), .unset, .unset] [(.int 2)])) _
        refine XS.iload X0.here hx rfl (hb hby d14_72) rfl ?_
        refine XS.icmpNo X0.here hx rfl (hb hby d14_74) rfl (tlt (by decide : (2 : Int32) < (4 : Int32))).2.1 ?_
        refine XS.aloadN X0.here hx rfl (hb hby d14_77) rfl rfl ?_
        refine XS.iloadN X0.here hx rfl (hb hby d14_78) rfl ?_
        show Steps p.tables e below (s₁.setTop (mkF m 79 #[.val (.ref a0b), .val (.int off), .val (.ref a2b), .val (.int 0), .val (.int 4), .val (.int 2), .unset, .unset] [(.int off), (.ref a0b)])) _
        refine XS.iload X0.here hx rfl (hb hby d14_79) rfl ?_
        refine XS.iadd X0.here hx rfl (hb hby d14_81) rfl ?_
        show Steps p.tables e below (s₁.setTop (mkF m 82 #[.val (.ref a0b), .val (.int off), .val (.ref a2b), .val (.int 0), .val (.int 4), .val (.int 2), .unset, .unset] [(.int (off + (2 : Int32))), (.ref a0b)])) _
        refine X0.baloadBytes hx (j := (off + (2 : Int32))) (v := (.int (d2.toInt8.toInt32))) (by rw [e0]; exact Ar7.1) (State.isArrayOf_alike hZ.alike Ar7.2.1) Ar7.2.2 hin7 hat7 (g := (mkF m 82 #[.val (.ref a0b), .val (.int off), .val (.ref a2b), .val (.int 0), .val (.int 4), .val (.int 2), .unset, .unset] [(.int (off + (2 : Int32))), (.ref a0b)])) rfl rfl (hb hby d14_82) _ ?_
        show Steps p.tables e below (s₁.setTop (mkF m 83 #[.val (.ref a0b), .val (.int off), .val (.ref a2b), .val (.int 0), .val (.int 4), .val (.int 2), .unset, .unset] [(.int (d2.toInt8.toInt32))])) _
        refine XS.aloadN X0.here hx rfl (hb hby d14_83) rfl rfl ?_
        refine XS.iloadN X0.here hx rfl (hb hby d14_84) rfl ?_
        refine XS.iload X0.here hx rfl (hb hby d14_85) rfl ?_
        refine XS.iadd X0.here hx rfl (hb hby d14_87) rfl ?_
        show Steps p.tables e below (s₁.setTop (mkF m 88 #[.val (.ref a0b), .val (.int off), .val (.ref a2b), .val (.int 0), .val (.int 4), .val (.int 2), .unset, .unset] [(.int 2), (.ref a2b), (.int (d2.toInt8.toInt32))])) _
        refine X0.baloadBytes hx (j := (2 : Int32)) (v := (.int 97)) (by rw [e0]; exact Ar8.1) (State.isArrayOf_alike hZ.alike Ar8.2.1) Ar8.2.2 hin8 hat8 (g := (mkF m 88 #[.val (.ref a0b), .val (.int off), .val (.ref a2b), .val (.int 0), .val (.int 4), .val (.int 2), .unset, .unset] [(.int 2), (.ref a2b), (.int (d2.toInt8.toInt32))])) rfl rfl (hb hby d14_88) _ ?_
        exact kt
      by_cases hf2 : (d2.toInt8.toInt32) = (97 : Int32)
      · obtain ⟨cl10, Ar10, -, S10, N10_, H10, G10⟩ := id (V_a0b)
        have hin10 : ¬ ((off + (3 : Int32)) < 0 ∨ cl10.slots.size ≤ ((off + (3 : Int32))).toNatClampNeg) := inb_of S10 ⟨xA3, yA3⟩
        have hat10 : cl10.slots[((off + (3 : Int32))).toNatClampNeg]? = some (.int (d3.toInt8.toInt32)) := H10.at hin10 gA3
        obtain ⟨cl11, Ar11, -, S11, N11_, H11, G11⟩ := id (V_a2b)
        have hin11 : ¬ ((3 : Int32) < 0 ∨ cl11.slots.size ≤ ((3 : Int32)).toNatClampNeg) := inb_of S11 ⟨(by decide), (by decide)⟩
        have hat11 : cl11.slots[((3 : Int32)).toNatClampNeg]? = some (.int 114) := H11.at hin11 rfl
        have pre12 : ∀ t, Steps p.tables e below (s₁.setTop (mkF m 89 #[.val (.ref a0b), .val (.int off), .val (.ref a2b), .val (.int 0), .val (.int 4), .val (.int 3), .unset, .unset] [(.int 114), (.int (d3.toInt8.toInt32))])) t → Steps p.tables e below (s₁.setTop (entryFrame m #[(.ref a0b), (.int off), (.ref a2b), (.int 0), (.int 4)] 8)) t := fun t kt => by
          refine pre9 t ?_
          show Steps p.tables e below (s₁.setTop (mkF m 89 #[.val (.ref a0b), .val (.int off), .val (.ref a2b), .val (.int 0), .val (.int 4), .val (.int 2), .unset, .unset] [(.int 97), (.int (d2.toInt8.toInt32))])) _
          refine XS.icmpYes X0.here hx rfl (pc0 := 89) (pc' := 95) rfl (hb hby d14_89) rfl (teq hf2).1 (by decide) (by decide) ?_
          refine XS.iinc X0.here hx rfl (hb hby d14_95) rfl (l' := #[.val (.ref a0b), .val (.int off), .val (.ref a2b), .val (.int 0), .val (.int 4), .val (.int 3), .unset, .unset]) rfl ?_
          refine XS.goto X0.here hx rfl (pc0 := 98) (pc' := 70) rfl (hb hby d14_98) (by decide) (by decide) ?_
          refine XS.iload X0.here hx rfl (hb hby d14_70) rfl ?_
          show Steps p.tables e below (s₁.setTop (mkF m 72 #[.val (.ref a0b), .val (.int off), .val (.ref a2b), .val (.int 0), .val (.int 4), .val (.int 3), .unset, .unset] [(.int 3)])) _
          refine XS.iload X0.here hx rfl (hb hby d14_72) rfl ?_
          refine XS.icmpNo X0.here hx rfl (hb hby d14_74) rfl (tlt (by decide : (3 : Int32) < (4 : Int32))).2.1 ?_
          refine XS.aloadN X0.here hx rfl (hb hby d14_77) rfl rfl ?_
          refine XS.iloadN X0.here hx rfl (hb hby d14_78) rfl ?_
          show Steps p.tables e below (s₁.setTop (mkF m 79 #[.val (.ref a0b), .val (.int off), .val (.ref a2b), .val (.int 0), .val (.int 4), .val (.int 3), .unset, .unset] [(.int off), (.ref a0b)])) _
          refine XS.iload X0.here hx rfl (hb hby d14_79) rfl ?_
          refine XS.iadd X0.here hx rfl (hb hby d14_81) rfl ?_
          show Steps p.tables e below (s₁.setTop (mkF m 82 #[.val (.ref a0b), .val (.int off), .val (.ref a2b), .val (.int 0), .val (.int 4), .val (.int 3), .unset, .unset] [(.int (off + (3 : Int32))), (.ref a0b)])) _
          refine X0.baloadBytes hx (j := (off + (3 : Int32))) (v := (.int (d3.toInt8.toInt32))) (by rw [e0]; exact Ar10.1) (State.isArrayOf_alike hZ.alike Ar10.2.1) Ar10.2.2 hin10 hat10 (g := (mkF m 82 #[.val (.ref a0b), .val (.int off), .val (.ref a2b), .val (.int 0), .val (.int 4), .val (.int 3), .unset, .unset] [(.int (off + (3 : Int32))), (.ref a0b)])) rfl rfl (hb hby d14_82) _ ?_
          show Steps p.tables e below (s₁.setTop (mkF m 83 #[.val (.ref a0b), .val (.int off), .val (.ref a2b), .val (.int 0), .val (.int 4), .val (.int 3), .unset, .unset] [(.int (d3.toInt8.toInt32))])) _
          refine XS.aloadN X0.here hx rfl (hb hby d14_83) rfl rfl ?_
          refine XS.iloadN X0.here hx rfl (hb hby d14_84) rfl ?_
          refine XS.iload X0.here hx rfl (hb hby d14_85) rfl ?_
          refine XS.iadd X0.here hx rfl (hb hby d14_87) rfl ?_
          show Steps p.tables e below (s₁.setTop (mkF m 88 #[.val (.ref a0b), .val (.int off), .val (.ref a2b), .val (.int 0), .val (.int 4), .val (.int 3), .unset, .unset] [(.int 3), (.ref a2b), (.int (d3.toInt8.toInt32))])) _
          refine X0.baloadBytes hx (j := (3 : Int32)) (v := (.int 114)) (by rw [e0]; exact Ar11.1) (State.isArrayOf_alike hZ.alike Ar11.2.1) Ar11.2.2 hin11 hat11 (g := (mkF m 88 #[.val (.ref a0b), .val (.int off), .val (.ref a2b), .val (.int 0), .val (.int 4), .val (.int 3), .unset, .unset] [(.int 3), (.ref a2b), (.int (d3.toInt8.toInt32))])) rfl rfl (hb hby d14_88) _ ?_
          exact kt
        by_cases hf3 : (d3.toInt8.toInt32) = (114 : Int32)
        · exact absurd ⟨own_bq lA0 nA0 (by decide) (by decide) hf0, own_bq lA1 nA1 (by decide) (by decide) hf1, own_bq lA2 nA2 (by decide) (by decide) hf2, own_bq lA3 nA3 (by decide) (by decide) hf3⟩ hA
        · have hr0 : ¬ ((3 : Int32) < (0 : Int32)) := (by decide)
          obtain ⟨fs, hr, hrun, hended, hW, hsame⟩ := X0.leave (v := some (.int 3)) (fun h => by rw [Bd.returns] at h; cases h)
          refine ⟨_, _, pre12 _ ?_, hrun, hended, _, _, rfl, ?_, ⟨_, rfl⟩, hW, hsame.mono (by decide) (by decide)⟩
          · show Steps p.tables e below (s₁.setTop (mkF m 89 #[.val (.ref a0b), .val (.int off), .val (.ref a2b), .val (.int 0), .val (.int 4), .val (.int 3), .unset, .unset] [(.int 114), (.int (d3.toInt8.toInt32))])) _
            refine XS.icmpNo X0.here hx rfl (hb hby d14_89) rfl (feq hf3).1 ?_
            refine XS.iload X0.here hx rfl (hb hby d14_92) rfl ?_
            show Steps p.tables e below (s₁.setTop (mkF m 94 #[.val (.ref a0b), .val (.int off), .val (.ref a2b), .val (.int 0), .val (.int 4), .val (.int 3), .unset, .unset] [(.int 3)])) _
            exact retI X0 hx Bd.returns (hb hby d14_94) hr
          · show Q_rmMm_jarF n0 Z cS a0b off a2b k0 nl vs k2 d0 d1 d2 d3 h0 _ s₁.heap _
            rw [e0]
            exact ⟨(3 : Int32), rfl, N0, rfl, hr0⟩
      · have hr0 : ¬ ((2 : Int32) < (0 : Int32)) := (by decide)
        obtain ⟨fs, hr, hrun, hended, hW, hsame⟩ := X0.leave (v := some (.int 2)) (fun h => by rw [Bd.returns] at h; cases h)
        refine ⟨_, _, pre9 _ ?_, hrun, hended, _, _, rfl, ?_, ⟨_, rfl⟩, hW, hsame.mono (by decide) (by decide)⟩
        · show Steps p.tables e below (s₁.setTop (mkF m 89 #[.val (.ref a0b), .val (.int off), .val (.ref a2b), .val (.int 0), .val (.int 4), .val (.int 2), .unset, .unset] [(.int 97), (.int (d2.toInt8.toInt32))])) _
          refine XS.icmpNo X0.here hx rfl (hb hby d14_89) rfl (feq hf2).1 ?_
          refine XS.iload X0.here hx rfl (hb hby d14_92) rfl ?_
          show Steps p.tables e below (s₁.setTop (mkF m 94 #[.val (.ref a0b), .val (.int off), .val (.ref a2b), .val (.int 0), .val (.int 4), .val (.int 2), .unset, .unset] [(.int 2)])) _
          exact retI X0 hx Bd.returns (hb hby d14_94) hr
        · show Q_rmMm_jarF n0 Z cS a0b off a2b k0 nl vs k2 d0 d1 d2 d3 h0 _ s₁.heap _
          rw [e0]
          exact ⟨(2 : Int32), rfl, N0, rfl, hr0⟩
    · have hr0 : ¬ ((1 : Int32) < (0 : Int32)) := (by decide)
      obtain ⟨fs, hr, hrun, hended, hW, hsame⟩ := X0.leave (v := some (.int 1)) (fun h => by rw [Bd.returns] at h; cases h)
      refine ⟨_, _, pre6 _ ?_, hrun, hended, _, _, rfl, ?_, ⟨_, rfl⟩, hW, hsame.mono (by decide) (by decide)⟩
      · show Steps p.tables e below (s₁.setTop (mkF m 89 #[.val (.ref a0b), .val (.int off), .val (.ref a2b), .val (.int 0), .val (.int 4), .val (.int 1), .unset, .unset] [(.int 106), (.int (d1.toInt8.toInt32))])) _
        refine XS.icmpNo X0.here hx rfl (hb hby d14_89) rfl (feq hf1).1 ?_
        refine XS.iload X0.here hx rfl (hb hby d14_92) rfl ?_
        show Steps p.tables e below (s₁.setTop (mkF m 94 #[.val (.ref a0b), .val (.int off), .val (.ref a2b), .val (.int 0), .val (.int 4), .val (.int 1), .unset, .unset] [(.int 1)])) _
        exact retI X0 hx Bd.returns (hb hby d14_94) hr
      · show Q_rmMm_jarF n0 Z cS a0b off a2b k0 nl vs k2 d0 d1 d2 d3 h0 _ s₁.heap _
        rw [e0]
        exact ⟨(1 : Int32), rfl, N0, rfl, hr0⟩
  · have hr0 : ¬ ((0 : Int32) < (0 : Int32)) := (by decide)
    obtain ⟨fs, hr, hrun, hended, hW, hsame⟩ := X0.leave (v := some (.int 0)) (fun h => by rw [Bd.returns] at h; cases h)
    refine ⟨_, _, pre3 _ ?_, hrun, hended, _, _, rfl, ?_, ⟨_, rfl⟩, hW, hsame.mono (by decide) (by decide)⟩
    · show Steps p.tables e below (s₁.setTop (mkF m 89 #[.val (.ref a0b), .val (.int off), .val (.ref a2b), .val (.int 0), .val (.int 4), .val (.int 0), .unset, .unset] [(.int 46), (.int (d0.toInt8.toInt32))])) _
      refine XS.icmpNo X0.here hx rfl (hb hby d14_89) rfl (feq hf0).1 ?_
      refine XS.iload X0.here hx rfl (hb hby d14_92) rfl ?_
      show Steps p.tables e below (s₁.setTop (mkF m 94 #[.val (.ref a0b), .val (.int off), .val (.ref a2b), .val (.int 0), .val (.int 4), .val (.int 0), .unset, .unset] [(.int 0)])) _
      exact retI X0 hx Bd.returns (hb hby d14_94) hr
    · show Q_rmMm_jarF n0 Z cS a0b off a2b k0 nl vs k2 d0 d1 d2 d3 h0 _ s₁.heap _
      rw [e0]
      exact ⟨(0 : Int32), rfl, N0, rfl, hr0⟩
def Q_rmSw_jarneg (n0 : Nat) (Z : State) (cS : Int32) (a0s : Addr) (a1s : Addr) (off : Int32) (a0b : Addr) (k0 : ClassId) (nl : Int32) (vs : List Value) (a2b : Addr) (k2 : ClassId) (h0 : Heap) (v : Option Value) (h : Heap) (L : List Loc) : Prop := v = some (.int 0) ∧ Fr n0 L ∧ h = h0
set_option maxRecDepth 65536 in
set_option maxHeartbeats 40000000 in
theorem rmSw_jarneg (l : Launch) (Z : State) (a0 : Array Value) (hw : ∀ d ∈ tables_1, d.before a0 Z = true) (ws : List Jvm.Cond) (cS : Int32) (a0s : Addr) (a1s : Addr) (off : Int32) (a0b : Addr) (k0 : ClassId) (nl : Int32) (vs : List Value) (a2b : Addr) (k2 : ClassId) (h0 : Heap) (n0 : Nat) (O0 : Old Z n0 h0) (GL : GF Z cS) (E_a0s : Exa Z h0 a0s "java/lang/String") (F_value_a0s : Fld Z h0 a0s "java/lang/String" "value" "[B" (.ref a0b)) (F_coder_a0s : Fld Z h0 a0s "java/lang/String" "coder" "B" (.int 0)) (V_a0b : Arv Z h0 a0b k0 .byte nl vs (.int 0)) (E_a1s : Exa Z h0 a1s "java/lang/String") (F_value_a1s : Fld Z h0 a1s "java/lang/String" "value" "[B" (.ref a2b)) (F_coder_a1s : Fld Z h0 a1s "java/lang/String" "coder" "B" (.int 0)) (V_a2b : Arv Z h0 a2b k2 .byte (4 : Int32) [(.int 46), (.int 106), (.int 97), (.int 114)] (.int 0)) (hng : off < (0 : Int32)) :
    MetFree l MN_10 (head1 (Jvm.Cond.code MN_10 jdk_42_method_75_code 8 (some .boolean) :: ws) ({ frames := 0, cells := 0, slots := 0, locals := 0 } : Room)) (fun a U => a = #[(.ref a0s), (.ref a1s), (.int off)] ∧ Z.Warmed39 U.vm ∧ U.heap = h0) (fun _ _ _ _ _ => True) (fun _ U o U' => ∃ v L, o = .returned v ∧ Q_rmSw_jarneg n0 Z cS a0s a1s off a0b k0 nl vs a2b k2 h0 v U'.heap L ∧ FrameEnd U o U' L ({ frames := 0, cells := 0, slots := 0, locals := 0 } : Room).cells ({ frames := 0, cells := 0, slots := 0, locals := 0 } : Room).slots) := by
  refine MetFree.of_bodySF (plainFor_of_name pnv1) hisR ?_
  intro p e s m args below meth c s₁ Bd hml0 hP hK
  obtain ⟨rfl, hZ, hh⟩ := hP
  have hx := Bd.exec
  have hby := Bd.bytes
  have hml : c.maxLocals = 8 := hml0
  have hown : s.vm.findClass "java/lang/String" = some m.cls := findClass_of_methodNamed Bd.named
  have hnm := (name_of_methodNamed Bd.named Bd.method).1
  have X0 : Stand p l e ({ frames := 0, cells := 0, slots := 0, locals := 0 } : Room) s m #[(.ref a0s), (.ref a1s), (.int off)] below meth c s₁ [] 0 0 := Stand.of_body Bd
  have e0 : s₁.heap = h0 := by rw [← hh, Bd.state]; rfl
  have N0 := Fr.nil n0
  have pre0 : ∀ t, Steps p.tables e below (s₁.setTop (mkF m 0 #[.val (.ref a0s), .val (.ref a1s), .val (.int off), .unset, .unset, .unset, .unset, .unset] [])) t → Steps p.tables e below (s₁.setTop (entryFrame m #[(.ref a0s), (.ref a1s), (.int off)] 8)) t := fun t k => castTop (ef_rmSw_mfneg m a0s a1s off) k
  have GL' := GL
  obtain ⟨GCS, GCP⟩ := GL'
  obtain ⟨fs, hr, hrun, hended, hW, hsame⟩ := X0.leave (v := some (.int 0)) (fun h => by rw [Bd.returns] at h; cases h)
  refine ⟨_, _, pre0 _ ?_, hrun, hended, _, _, rfl, ?_, ⟨_, rfl⟩, hW, hsame.mono (by decide) (by decide)⟩
  · show Steps p.tables e below (s₁.setTop (mkF m 0 #[.val (.ref a0s), .val (.ref a1s), .val (.int off), .unset, .unset, .unset, .unset, .unset] [])) _
    refine XS.iloadN X0.here hx rfl (hb hby d10_0) rfl ?_
    refine XS.ifYes X0.here hx rfl (pc0 := 1) (pc' := 17) rfl (hb hby d10_1) rfl ((if0 _ _).trans (tlt hng).1) (by decide) (by decide) ?_
    refine XS.iconst X0.here hx rfl (hb hby d10_17) ?_
    show Steps p.tables e below (s₁.setTop (mkF m 18 #[.val (.ref a0s), .val (.ref a1s), .val (.int off), .unset, .unset, .unset, .unset, .unset] [(.int 0)])) _
    exact retN X0 hx (t := .boolean) Bd.returns (by simp) (hb hby d10_18) hr
  · show Q_rmSw_jarneg n0 Z cS a0s a1s off a0b k0 nl vs a2b k2 h0 _ s₁.heap _
    rw [e0]
    exact ⟨rfl, N0, rfl⟩
def Q_rmEw_jarneg (n0 : Nat) (Z : State) (cS : Int32) (a0s : Addr) (a1s : Addr) (a0b : Addr) (k0 : ClassId) (nl : Int32) (vs : List Value) (a2b : Addr) (k2 : ClassId) (h0 : Heap) (v : Option Value) (h : Heap) (L : List Loc) : Prop := v = some (.int 0) ∧ Fr n0 L ∧ h = h0
set_option maxRecDepth 65536 in
set_option maxHeartbeats 40000000 in
theorem rmEw_jarneg (l : Launch) (Z : State) (a0 : Array Value) (hw : ∀ d ∈ tables_1, d.before a0 Z = true) (ws : List Jvm.Cond) (cS : Int32) (a0s : Addr) (a1s : Addr) (a0b : Addr) (k0 : ClassId) (nl : Int32) (vs : List Value) (a2b : Addr) (k2 : ClassId) (h0 : Heap) (n0 : Nat) (O0 : Old Z n0 h0) (GL : GF Z cS) (E_a0s : Exa Z h0 a0s "java/lang/String") (F_value_a0s : Fld Z h0 a0s "java/lang/String" "value" "[B" (.ref a0b)) (F_coder_a0s : Fld Z h0 a0s "java/lang/String" "coder" "B" (.int 0)) (V_a0b : Arv Z h0 a0b k0 .byte nl vs (.int 0)) (E_a1s : Exa Z h0 a1s "java/lang/String") (F_value_a1s : Fld Z h0 a1s "java/lang/String" "value" "[B" (.ref a2b)) (F_coder_a1s : Fld Z h0 a1s "java/lang/String" "coder" "B" (.int 0)) (V_a2b : Arv Z h0 a2b k2 .byte (4 : Int32) [(.int 46), (.int 106), (.int 97), (.int 114)] (.int 0)) (hng : (nl - (4 : Int32)) < (0 : Int32)) :
    MetFree l MN_11 (head1 (Jvm.Cond.code MN_11 jdk_42_method_77_code 2 (some .boolean) :: ws) ({ frames := 2, cells := 0, slots := 0, locals := 28 } : Room)) (fun a U => a = #[(.ref a0s), (.ref a1s)] ∧ Z.Warmed39 U.vm ∧ U.heap = h0) (fun _ _ _ _ _ => True) (fun _ U o U' => ∃ v L, o = .returned v ∧ Q_rmEw_jarneg n0 Z cS a0s a1s a0b k0 nl vs a2b k2 h0 v U'.heap L ∧ FrameEnd U o U' L ({ frames := 2, cells := 0, slots := 0, locals := 28 } : Room).cells ({ frames := 2, cells := 0, slots := 0, locals := 28 } : Room).slots) := by
  refine MetFree.of_bodySF (plainFor_of_name pnv1) hisR ?_
  intro p e s m args below meth c s₁ Bd hml0 hP hK
  obtain ⟨rfl, hZ, hh⟩ := hP
  have hx := Bd.exec
  have hby := Bd.bytes
  have hml : c.maxLocals = 2 := hml0
  have hown : s.vm.findClass "java/lang/String" = some m.cls := findClass_of_methodNamed Bd.named
  have hnm := (name_of_methodNamed Bd.named Bd.method).1
  have X0 : Stand p l e ({ frames := 2, cells := 0, slots := 0, locals := 28 } : Room) s m #[(.ref a0s), (.ref a1s)] below meth c s₁ [] 0 0 := Stand.of_body Bd
  have e0 : s₁.heap = h0 := by rw [← hh, Bd.state]; rfl
  have N0 := Fr.nil n0
  have pre0 : ∀ t, Steps p.tables e below (s₁.setTop (mkF m 0 #[.val (.ref a0s), .val (.ref a1s)] [])) t → Steps p.tables e below (s₁.setTop (entryFrame m #[(.ref a0s), (.ref a1s)] 2)) t := fun t k => castTop (ef_rmEw_mfneg m a0s a1s) k
  have GL' := GL
  obtain ⟨GCS, GCP⟩ := GL'
  obtain ⟨cq1, kq1, q1a, q1b, q1c⟩ := isOf hZ e0 E_a0s
  obtain ⟨_, _, ⟨T1, L1, k1, n1⟩, -, X1, ⟨Lc1, hQ1, l1, y1, z1⟩, st1⟩ := X0.virtualBack hx (y := MN_8) (z := MN_8) hown (mvT hZ (Wd hw 40 rfl)) (mvT hZ (Wd hw 41 rfl)) (notFace_of_selects (args := #[]) (mvT hZ (Wd hw 43 rfl))) (mvT hZ (Wd hw 43 rfl)) (mvT hZ (Wd hw 42 rfl)) (by decide) (backOf (W := 2) (rmLen l Z a0 hw [] cS (a0s) (a0b) (k0) (nl) (vs) (h0) n0 O0 GL E_a0s F_value_a0s F_coder_a0s V_a0b) hZ (Wd hw 44 rfl) (Wd hw 11 rfl) (by decide) (by decide)) q1a q1c (g := (mkF m 3 #[.val (.ref a0s), .val (.ref a1s)] [(.ref a0s), (.ref a1s), (.ref a0s)])) rfl (by rw [hml]; rfl) (Steps.refl _) (argsL := []) (rest := [(.ref a1s), (.ref a0s)]) (lenOf pdv6 rfl) rfl (by show 2 * 0 + _ ≤ _; exact Nat.le_of_eq rfl) (hb hby d7_3) (fun _ _ => ⟨rfl, e0, (by decide : 0 + 0 ≤ _), (by decide : 0 + 0 ≤ _)⟩)
  dsimp only [Pt.U, Pt.locs, Pt.cells, Pt.slots] at X1 l1 y1 z1 st1 hQ1
  subst l1 y1 z1
  obtain ⟨rfl, N1q, e1⟩ := hQ1
  have N1 := Fr.app N0 N1q
  obtain ⟨cq2, kq2, q2a, q2b, q2c⟩ := isOf hZ e1 E_a1s
  obtain ⟨_, _, ⟨T2, L2, k2, n2⟩, -, X2, ⟨Lc2, hQ2, l2, y2, z2⟩, st2⟩ := X1.virtualBack hx (y := MN_8) (z := MN_8) hown (mvT hZ (Wd hw 40 rfl)) (mvT hZ (Wd hw 41 rfl)) (notFace_of_selects (args := #[]) (mvT hZ (Wd hw 43 rfl))) (mvT hZ (Wd hw 43 rfl)) (mvT hZ (Wd hw 42 rfl)) (by decide) (backOf (W := 3) (rmLen l Z a0 hw [] cS (a1s) (a2b) (k2) ((4 : Int32)) ([(.int 46), (.int 106), (.int 97), (.int 114)]) (h0) n0 O0 GL E_a1s F_value_a1s F_coder_a1s V_a2b) hZ (Wd hw 44 rfl) (Wd hw 11 rfl) (by decide) (by decide)) q2a q2c (g := (mkF m 7 #[.val (.ref a0s), .val (.ref a1s)] [(.ref a1s), (.int nl), (.ref a1s), (.ref a0s)])) rfl (by rw [hml]; rfl) (Steps.refl _) (argsL := []) (rest := [(.int nl), (.ref a1s), (.ref a0s)]) (lenOf pdv6 rfl) rfl (by show 2 * 0 + _ ≤ _; exact Nat.le_of_eq rfl) (hb hby d7_7) (fun _ _ => ⟨rfl, e1, (by decide : 0 + 0 ≤ _), (by decide : 0 + 0 ≤ _)⟩)
  dsimp only [Pt.U, Pt.locs, Pt.cells, Pt.slots] at X2 l2 y2 z2 st2 hQ2
  subst l2 y2 z2
  obtain ⟨rfl, N2q, e2⟩ := hQ2
  have N2 := Fr.app N1 N2q
  obtain ⟨cq3, kq3, q3a, q3b, q3c⟩ := isOf hZ e2 E_a0s
  obtain ⟨_, _, ⟨T3, L3, k3, n3⟩, -, X3, ⟨Lc3, hQ3, l3, y3, z3⟩, st3⟩ := X2.virtualBack hx (y := MN_10) (z := MN_10) hown (mvT hZ (Wd hw 51 rfl)) (mvT hZ (Wd hw 52 rfl)) (notFace_of_selects (args := #[]) (mvT hZ (Wd hw 54 rfl))) (mvT hZ (Wd hw 54 rfl)) (mvT hZ (Wd hw 53 rfl)) (by decide) (backOf (W := 0) (rmSw_jarneg l Z a0 hw [] cS (a0s) (a1s) ((nl - (4 : Int32))) (a0b) (k0) (nl) (vs) (a2b) (k2) (h0) n0 O0 GL E_a0s F_value_a0s F_coder_a0s V_a0b E_a1s F_value_a1s F_coder_a1s V_a2b hng) hZ (Wd hw 55 rfl) (Wd hw 11 rfl) (by decide) (by decide)) q3a q3c (g := (mkF m 11 #[.val (.ref a0s), .val (.ref a1s)] [(.int (nl - (4 : Int32))), (.ref a1s), (.ref a0s)])) rfl (by rw [hml]; rfl) (Steps.refl _) (argsL := [(.ref a1s), (.int (nl - (4 : Int32)))]) (rest := []) (lenOf pdv7 rfl) rfl (by show 2 * 0 + _ ≤ _; exact Nat.le_of_eq rfl) (hb hby d7_11) (fun _ _ => ⟨rfl, e2, (by decide : 0 + 0 ≤ _), (by decide : 0 + 0 ≤ _)⟩)
  dsimp only [Pt.U, Pt.locs, Pt.cells, Pt.slots] at X3 l3 y3 z3 st3 hQ3
  subst l3 y3 z3
  obtain ⟨rfl, N3q, e3⟩ := hQ3
  have N3 := Fr.app N2 N3q
  obtain ⟨fs, hr, hrun, hended, hW, hsame⟩ := X3.leave (v := some (.int 0)) (fun h => by rw [Bd.returns] at h; cases h)
  refine ⟨_, _, pre0 _ ?_, hrun, hended, _, _, rfl, ?_, ⟨_, rfl⟩, hW, hsame.mono (by decide) (by decide)⟩
  · show Steps p.tables e below (s₁.setTop (mkF m 0 #[.val (.ref a0s), .val (.ref a1s)] [])) _
    refine XS.aloadN X0.here hx rfl (hb hby d7_0) rfl rfl ?_
    refine XS.aloadN X0.here hx rfl (hb hby d7_1) rfl rfl ?_
    refine XS.aloadN X0.here hx rfl (hb hby d7_2) rfl rfl ?_
    show Steps p.tables e below (s₁.setTop (mkF m 3 #[.val (.ref a0s), .val (.ref a1s)] [(.ref a0s), (.ref a1s), (.ref a0s)])) _
    refine st1.trans ?_
    show Steps p.tables e below (T1.setTop (mkF m 6 #[.val (.ref a0s), .val (.ref a1s)] [(.int nl), (.ref a1s), (.ref a0s)])) _
    refine XS.aloadN X1.here hx rfl (hb hby d7_6) rfl rfl ?_
    show Steps p.tables e below (T1.setTop (mkF m 7 #[.val (.ref a0s), .val (.ref a1s)] [(.ref a1s), (.int nl), (.ref a1s), (.ref a0s)])) _
    refine st2.trans ?_
    show Steps p.tables e below (T2.setTop (mkF m 10 #[.val (.ref a0s), .val (.ref a1s)] [(.int 4), (.int nl), (.ref a1s), (.ref a0s)])) _
    refine XS.isub X2.here hx rfl (hb hby d7_10) rfl ?_
    show Steps p.tables e below (T2.setTop (mkF m 11 #[.val (.ref a0s), .val (.ref a1s)] [(.int (nl - (4 : Int32))), (.ref a1s), (.ref a0s)])) _
    refine st3.trans ?_
    show Steps p.tables e below (T3.setTop (mkF m 14 #[.val (.ref a0s), .val (.ref a1s)] [(.int 0)])) _
    exact retN X3 hx (t := .boolean) Bd.returns (by simp) (hb hby d7_14) hr
  · show Q_rmEw_jarneg n0 Z cS a0s a1s a0b k0 nl vs a2b k2 h0 _ T3.heap _
    rw [e3]
    exact ⟨rfl, N3, rfl⟩
def Q_rmSw_jarT (n0 : Nat) (Z : State) (cS : Int32) (a0s : Addr) (a1s : Addr) (off : Int32) (a0b : Addr) (k0 : ClassId) (nl : Int32) (vs : List Value) (a2b : Addr) (k2 : ClassId) (d0 : Int32) (d1 : Int32) (d2 : Int32) (d3 : Int32) (h0 : Heap) (v : Option Value) (h : Heap) (L : List Loc) : Prop := v = some (.int 1) ∧ Fr n0 L ∧ h = h0
set_option maxRecDepth 65536 in
set_option maxHeartbeats 40000000 in
theorem rmSw_jarT (l : Launch) (Z : State) (a0 : Array Value) (hw : ∀ d ∈ tables_1, d.before a0 Z = true) (ws : List Jvm.Cond) (cS : Int32) (a0s : Addr) (a1s : Addr) (off : Int32) (a0b : Addr) (k0 : ClassId) (nl : Int32) (vs : List Value) (a2b : Addr) (k2 : ClassId) (d0 : Int32) (d1 : Int32) (d2 : Int32) (d3 : Int32) (h0 : Heap) (n0 : Nat) (O0 : Old Z n0 h0) (GL : GF Z cS) (E_a0s : Exa Z h0 a0s "java/lang/String") (F_value_a0s : Fld Z h0 a0s "java/lang/String" "value" "[B" (.ref a0b)) (F_coder_a0s : Fld Z h0 a0s "java/lang/String" "coder" "B" (.int 0)) (V_a0b : Arv Z h0 a0b k0 .byte nl vs (.int 0)) (E_a1s : Exa Z h0 a1s "java/lang/String") (F_value_a1s : Fld Z h0 a1s "java/lang/String" "value" "[B" (.ref a2b)) (F_coder_a1s : Fld Z h0 a1s "java/lang/String" "coder" "B" (.int 0)) (V_a2b : Arv Z h0 a2b k2 .byte (4 : Int32) [(.int 46), (.int 106), (.int 97), (.int 114)] (.int 0)) (hng : ¬ (off < (0 : Int32))) (hle : ¬ ((nl - (4 : Int32)) < off)) (gA0 : vs.getD (off + (0 : Int32)).toNatClampNeg (.int 0) = .int (d0.toInt8.toInt32)) (xA0 : ¬ ((off + (0 : Int32)) < (0 : Int32))) (yA0 : (off + (0 : Int32)) < nl) (gA1 : vs.getD (off + (1 : Int32)).toNatClampNeg (.int 0) = .int (d1.toInt8.toInt32)) (xA1 : ¬ ((off + (1 : Int32)) < (0 : Int32))) (yA1 : (off + (1 : Int32)) < nl) (gA2 : vs.getD (off + (2 : Int32)).toNatClampNeg (.int 0) = .int (d2.toInt8.toInt32)) (xA2 : ¬ ((off + (2 : Int32)) < (0 : Int32))) (yA2 : (off + (2 : Int32)) < nl) (gA3 : vs.getD (off + (3 : Int32)).toNatClampNeg (.int 0) = .int (d3.toInt8.toInt32)) (xA3 : ¬ ((off + (3 : Int32)) < (0 : Int32))) (yA3 : (off + (3 : Int32)) < nl) (hA : d0 = (46 : Int32) ∧ d1 = (106 : Int32) ∧ d2 = (97 : Int32) ∧ d3 = (114 : Int32)) :
    MetFree l MN_10 (head1 (Jvm.Cond.code MN_10 jdk_42_method_75_code 8 (some .boolean) :: ws) ({ frames := 2, cells := 0, slots := 0, locals := 27 } : Room)) (fun a U => a = #[(.ref a0s), (.ref a1s), (.int off)] ∧ Z.Warmed39 U.vm ∧ U.heap = h0) (fun _ _ _ _ _ => True) (fun _ U o U' => ∃ v L, o = .returned v ∧ Q_rmSw_jarT n0 Z cS a0s a1s off a0b k0 nl vs a2b k2 d0 d1 d2 d3 h0 v U'.heap L ∧ FrameEnd U o U' L ({ frames := 2, cells := 0, slots := 0, locals := 27 } : Room).cells ({ frames := 2, cells := 0, slots := 0, locals := 27 } : Room).slots) := by
  refine MetFree.of_bodySF (plainFor_of_name pnv1) hisR ?_
  intro p e s m args below meth c s₁ Bd hml0 hP hK
  obtain ⟨rfl, hZ, hh⟩ := hP
  have hx := Bd.exec
  have hby := Bd.bytes
  have hml : c.maxLocals = 8 := hml0
  have hown : s.vm.findClass "java/lang/String" = some m.cls := findClass_of_methodNamed Bd.named
  have hnm := (name_of_methodNamed Bd.named Bd.method).1
  have X0 : Stand p l e ({ frames := 2, cells := 0, slots := 0, locals := 27 } : Room) s m #[(.ref a0s), (.ref a1s), (.int off)] below meth c s₁ [] 0 0 := Stand.of_body Bd
  have e0 : s₁.heap = h0 := by rw [← hh, Bd.state]; rfl
  have N0 := Fr.nil n0
  have pre0 : ∀ t, Steps p.tables e below (s₁.setTop (mkF m 0 #[.val (.ref a0s), .val (.ref a1s), .val (.int off), .unset, .unset, .unset, .unset, .unset] [])) t → Steps p.tables e below (s₁.setTop (entryFrame m #[(.ref a0s), (.ref a1s), (.int off)] 8)) t := fun t k => castTop (ef_rmSw_mfneg m a0s a1s off) k
  have GL' := GL
  obtain ⟨GCS, GCP⟩ := GL'
  obtain ⟨cq1, kq1, q1a, q1b, q1c⟩ := isOf hZ e0 E_a0s
  obtain ⟨_, _, ⟨T1, L1, k1, n1⟩, -, X1, ⟨Lc1, hQ1, l1, y1, z1⟩, st1⟩ := X0.virtualBack hx (y := MN_8) (z := MN_8) hown (mvT hZ (Wd hw 40 rfl)) (mvT hZ (Wd hw 41 rfl)) (notFace_of_selects (args := #[]) (mvT hZ (Wd hw 43 rfl))) (mvT hZ (Wd hw 43 rfl)) (mvT hZ (Wd hw 42 rfl)) (by decide) (backOf (W := 1) (rmLen l Z a0 hw [] cS (a0s) (a0b) (k0) (nl) (vs) (h0) n0 O0 GL E_a0s F_value_a0s F_coder_a0s V_a0b) hZ (Wd hw 44 rfl) (Wd hw 11 rfl) (by decide) (by decide)) q1a q1c (g := (mkF m 6 #[.val (.ref a0s), .val (.ref a1s), .val (.int off), .unset, .unset, .unset, .unset, .unset] [(.ref a0s), (.int off)])) rfl (by rw [hml]; rfl) (Steps.refl _) (argsL := []) (rest := [(.int off)]) (lenOf pdv6 rfl) rfl (by show 2 * 0 + _ ≤ _; exact Nat.le_of_eq rfl) (hb hby d10_6) (fun _ _ => ⟨rfl, e0, (by decide : 0 + 0 ≤ _), (by decide : 0 + 0 ≤ _)⟩)
  dsimp only [Pt.U, Pt.locs, Pt.cells, Pt.slots] at X1 l1 y1 z1 st1 hQ1
  subst l1 y1 z1
  obtain ⟨rfl, N1q, e1⟩ := hQ1
  have N1 := Fr.app N0 N1q
  obtain ⟨cq2, kq2, q2a, q2b, q2c⟩ := isOf hZ e1 E_a1s
  obtain ⟨_, _, ⟨T2, L2, k2, n2⟩, -, X2, ⟨Lc2, hQ2, l2, y2, z2⟩, st2⟩ := X1.virtualBack hx (y := MN_8) (z := MN_8) hown (mvT hZ (Wd hw 40 rfl)) (mvT hZ (Wd hw 41 rfl)) (notFace_of_selects (args := #[]) (mvT hZ (Wd hw 43 rfl))) (mvT hZ (Wd hw 43 rfl)) (mvT hZ (Wd hw 42 rfl)) (by decide) (backOf (W := 2) (rmLen l Z a0 hw [] cS (a1s) (a2b) (k2) ((4 : Int32)) ([(.int 46), (.int 106), (.int 97), (.int 114)]) (h0) n0 O0 GL E_a1s F_value_a1s F_coder_a1s V_a2b) hZ (Wd hw 44 rfl) (Wd hw 11 rfl) (by decide) (by decide)) q2a q2c (g := (mkF m 10 #[.val (.ref a0s), .val (.ref a1s), .val (.int off), .unset, .unset, .unset, .unset, .unset] [(.ref a1s), (.int nl), (.int off)])) rfl (by rw [hml]; rfl) (Steps.refl _) (argsL := []) (rest := [(.int nl), (.int off)]) (lenOf pdv6 rfl) rfl (by show 2 * 0 + _ ≤ _; exact Nat.le_of_eq rfl) (hb hby d10_10) (fun _ _ => ⟨rfl, e1, (by decide : 0 + 0 ≤ _), (by decide : 0 + 0 ≤ _)⟩)
  dsimp only [Pt.U, Pt.locs, Pt.cells, Pt.slots] at X2 l2 y2 z2 st2 hQ2
  subst l2 y2 z2
  obtain ⟨rfl, N2q, e2⟩ := hQ2
  have N2 := Fr.app N1 N2q
  obtain ⟨T3, X3, e3, st3⟩ := getF X2 hx hZ hown (host := "") (Or.inl (Wd hw 28 rfl)) Via.refl e2 F_value_a0s (g := (mkF m 20 #[.val (.ref a0s), .val (.ref a1s), .val (.int off), .unset, .unset, .unset, .unset, .unset] [(.ref a0s)])) rfl rfl (hb hby d10_20)
  obtain ⟨T4, X4, e4, st4⟩ := getF X3 hx hZ hown (host := "") (Or.inl (Wd hw 28 rfl)) Via.refl e3 F_value_a1s (g := (mkF m 25 #[.val (.ref a0s), .val (.ref a1s), .val (.int off), .val (.ref a0b), .unset, .unset, .unset, .unset] [(.ref a1s)])) rfl rfl (hb hby d10_25)
  obtain ⟨cl5, Ar5, -, S5, N5_, -, -⟩ := id (V_a2b)
  obtain ⟨cq6, kq6, q6a, q6b, q6c⟩ := isOf hZ e4 E_a0s
  obtain ⟨_, _, ⟨T6, L6, k6, n6⟩, -, X6, ⟨Lc6, hQ6, l6, y6, z6⟩, st6⟩ := X4.virtualBack hx (y := MN_7) (z := MN_7) hown (mvT hZ (Wd hw 45 rfl)) (mvT hZ (Wd hw 46 rfl)) (notFace_of_selects (args := #[]) (mvT hZ (Wd hw 48 rfl))) (mvT hZ (Wd hw 48 rfl)) (mvT hZ (Wd hw 47 rfl)) (by decide) (backOf (W := 0) (rmCod l Z a0 hw [] cS (a0s) (h0) n0 O0 GL F_coder_a0s) hZ (Wd hw 49 rfl) (Wd hw 11 rfl) (by decide) (by decide)) q6a q6c (g := (mkF m 39 #[.val (.ref a0s), .val (.ref a1s), .val (.int off), .val (.ref a0b), .val (.ref a2b), .val (.int 0), .val (.int 4), .unset] [(.ref a0s)])) rfl (by rw [hml]; rfl) (Steps.refl _) (argsL := []) (rest := []) (lenOf pdv5 rfl) rfl (by show 2 * 0 + _ ≤ _; exact Nat.le_of_eq rfl) (hb hby d10_39) (fun _ _ => ⟨rfl, e4, (by decide : 0 + 0 ≤ _), (by decide : 0 + 0 ≤ _)⟩)
  dsimp only [Pt.U, Pt.locs, Pt.cells, Pt.slots] at X6 l6 y6 z6 st6 hQ6
  subst l6 y6 z6
  obtain ⟨rfl, N6q, e6⟩ := hQ6
  have N6 := Fr.app N2 N6q
  obtain ⟨cq7, kq7, q7a, q7b, q7c⟩ := isOf hZ e6 E_a1s
  obtain ⟨_, _, ⟨T7, L7, k7, n7⟩, -, X7, ⟨Lc7, hQ7, l7, y7, z7⟩, st7⟩ := X6.virtualBack hx (y := MN_7) (z := MN_7) hown (mvT hZ (Wd hw 45 rfl)) (mvT hZ (Wd hw 46 rfl)) (notFace_of_selects (args := #[]) (mvT hZ (Wd hw 48 rfl))) (mvT hZ (Wd hw 48 rfl)) (mvT hZ (Wd hw 47 rfl)) (by decide) (backOf (W := 1) (rmCod l Z a0 hw [] cS (a1s) (h0) n0 O0 GL F_coder_a1s) hZ (Wd hw 49 rfl) (Wd hw 11 rfl) (by decide) (by decide)) q7a q7c (g := (mkF m 47 #[.val (.ref a0s), .val (.ref a1s), .val (.int off), .val (.ref a0b), .val (.ref a2b), .val (.int 0), .val (.int 4), .val (.int 0)] [(.ref a1s), (.int 0)])) rfl (by rw [hml]; rfl) (Steps.refl _) (argsL := []) (rest := [(.int 0)]) (lenOf pdv5 rfl) rfl (by show 2 * 0 + _ ≤ _; exact Nat.le_of_eq rfl) (hb hby d10_47) (fun _ _ => ⟨rfl, e6, (by decide : 0 + 0 ≤ _), (by decide : 0 + 0 ≤ _)⟩)
  dsimp only [Pt.U, Pt.locs, Pt.cells, Pt.slots] at X7 l7 y7 z7 st7 hQ7
  subst l7 y7 z7
  obtain ⟨rfl, N7q, e7⟩ := hQ7
  have N7 := Fr.app N6 N7q
  obtain ⟨_, _, ⟨T8, L8, k8, n8⟩, -, X8, ⟨Lc8, hQ8, l8, y8, z8⟩, st8⟩ := Jvm.LawKit.callS X7 hx (y := MN_9) hown (mvT hZ (Wd hw 67 rfl)) (mvT hZ (Wd hw 68 rfl)) (mvT hZ (Wd hw 69 rfl)) (mvT hZ (Wd hw 70 rfl)) (by decide) (backOf (W := 0) (rmMm_jarT l Z a0 hw [] cS (a0b) (off) (a2b) (k0) (nl) (vs) (k2) (d0) (d1) (d2) (d3) (h0) n0 O0 GL V_a0b V_a2b gA0 xA0 yA0 gA1 xA1 yA1 gA2 xA2 yA2 gA3 xA3 yA3 hA) hZ (Wd hw 70 rfl) (Wd hw 69 rfl) (by decide) (by decide)) (g := (mkF m 70 #[.val (.ref a0s), .val (.ref a1s), .val (.int off), .val (.ref a0b), .val (.ref a2b), .val (.int 0), .val (.int 4), .val (.int 0)] [(.int 4), (.int 0), (.ref a2b), (.int off), (.ref a0b)])) rfl (by rw [hml]; rfl) (argsL := [(.ref a0b), (.int off), (.ref a2b), (.int 0), (.int 4)]) (rest := []) (lenOf pdv8 rfl) rfl (by show 2 * 0 + _ ≤ _; exact Nat.le_of_eq rfl) (hb hby d10_70) (fun _ _ => ⟨rfl, e7, (by decide : 0 + 0 ≤ _), (by decide : 0 + 0 ≤ _)⟩)
  dsimp only [Pt.U, Pt.locs, Pt.cells, Pt.slots] at X8 l8 y8 z8 st8 hQ8
  subst l8 y8 z8
  obtain ⟨rfl, N8q, e8⟩ := hQ8
  have N8 := Fr.app N7 N8q
  obtain ⟨fs, hr, hrun, hended, hW, hsame⟩ := X8.leave (v := some (.int 1)) (fun h => by rw [Bd.returns] at h; cases h)
  refine ⟨_, _, pre0 _ ?_, hrun, hended, _, _, rfl, ?_, ⟨_, rfl⟩, hW, hsame.mono (by decide) (by decide)⟩
  · show Steps p.tables e below (s₁.setTop (mkF m 0 #[.val (.ref a0s), .val (.ref a1s), .val (.int off), .unset, .unset, .unset, .unset, .unset] [])) _
    refine XS.iloadN X0.here hx rfl (hb hby d10_0) rfl ?_
    refine XS.ifNo X0.here hx rfl (hb hby d10_1) rfl ((if0 _ _).trans (flt hng).1) ?_
    refine XS.iloadN X0.here hx rfl (hb hby d10_4) rfl ?_
    refine XS.aloadN X0.here hx rfl (hb hby d10_5) rfl rfl ?_
    show Steps p.tables e below (s₁.setTop (mkF m 6 #[.val (.ref a0s), .val (.ref a1s), .val (.int off), .unset, .unset, .unset, .unset, .unset] [(.ref a0s), (.int off)])) _
    refine st1.trans ?_
    show Steps p.tables e below (T1.setTop (mkF m 9 #[.val (.ref a0s), .val (.ref a1s), .val (.int off), .unset, .unset, .unset, .unset, .unset] [(.int nl), (.int off)])) _
    refine XS.aloadN X1.here hx rfl (hb hby d10_9) rfl rfl ?_
    show Steps p.tables e below (T1.setTop (mkF m 10 #[.val (.ref a0s), .val (.ref a1s), .val (.int off), .unset, .unset, .unset, .unset, .unset] [(.ref a1s), (.int nl), (.int off)])) _
    refine st2.trans ?_
    show Steps p.tables e below (T2.setTop (mkF m 13 #[.val (.ref a0s), .val (.ref a1s), .val (.int off), .unset, .unset, .unset, .unset, .unset] [(.int 4), (.int nl), (.int off)])) _
    refine XS.isub X2.here hx rfl (hb hby d10_13) rfl ?_
    refine XS.icmpYes X2.here hx rfl (pc0 := 14) (pc' := 19) rfl (hb hby d10_14) rfl (flt hle).2.2.2 (by decide) (by decide) ?_
    refine XS.aloadN X2.here hx rfl (hb hby d10_19) rfl rfl ?_
    show Steps p.tables e below (T2.setTop (mkF m 20 #[.val (.ref a0s), .val (.ref a1s), .val (.int off), .unset, .unset, .unset, .unset, .unset] [(.ref a0s)])) _
    refine st3 _ ?_
    show Steps p.tables e below (T3.setTop (mkF m 23 #[.val (.ref a0s), .val (.ref a1s), .val (.int off), .unset, .unset, .unset, .unset, .unset] [(.ref a0b)])) _
    refine XS.astoreN X3.here hx rfl (hb hby d10_23) rfl rfl (l' := #[.val (.ref a0s), .val (.ref a1s), .val (.int off), .val (.ref a0b), .unset, .unset, .unset, .unset]) rfl ?_
    refine XS.aloadN X3.here hx rfl (hb hby d10_24) rfl rfl ?_
    show Steps p.tables e below (T3.setTop (mkF m 25 #[.val (.ref a0s), .val (.ref a1s), .val (.int off), .val (.ref a0b), .unset, .unset, .unset, .unset] [(.ref a1s)])) _
    refine st4 _ ?_
    show Steps p.tables e below (T4.setTop (mkF m 28 #[.val (.ref a0s), .val (.ref a1s), .val (.int off), .val (.ref a0b), .unset, .unset, .unset, .unset] [(.ref a2b)])) _
    refine XS.astore X4.here hx rfl (hb hby d10_28) rfl rfl (l' := #[.val (.ref a0s), .val (.ref a1s), .val (.int off), .val (.ref a0b), .val (.ref a2b), .unset, .unset, .unset]) rfl ?_
    refine XS.iconst X4.here hx rfl (hb hby d10_30) ?_
    refine XS.istore X4.here hx rfl (hb hby d10_31) rfl (l' := #[.val (.ref a0s), .val (.ref a1s), .val (.int off), .val (.ref a0b), .val (.ref a2b), .val (.int 0), .unset, .unset]) rfl ?_
    refine XS.aload X4.here hx rfl (hb hby d10_33) rfl rfl ?_
    show Steps p.tables e below (T4.setTop (mkF m 35 #[.val (.ref a0s), .val (.ref a1s), .val (.int off), .val (.ref a0b), .val (.ref a2b), .val (.int 0), .unset, .unset] [(.ref a2b)])) _
    refine X4.arraylength hx (by rw [e4]; exact Ar5.1) (State.isArrayOf_alike hZ.alike Ar5.2.1) (g := (mkF m 35 #[.val (.ref a0s), .val (.ref a1s), .val (.int off), .val (.ref a0b), .val (.ref a2b), .val (.int 0), .unset, .unset] [(.ref a2b)])) rfl rfl (hb hby d10_35) _ ?_
    rw [len_of S5 N5_]
    show Steps p.tables e below (T4.setTop (mkF m 36 #[.val (.ref a0s), .val (.ref a1s), .val (.int off), .val (.ref a0b), .val (.ref a2b), .val (.int 0), .unset, .unset] [(.int 4)])) _
    refine XS.istore X4.here hx rfl (hb hby d10_36) rfl (l' := #[.val (.ref a0s), .val (.ref a1s), .val (.int off), .val (.ref a0b), .val (.ref a2b), .val (.int 0), .val (.int 4), .unset]) rfl ?_
    refine XS.aloadN X4.here hx rfl (hb hby d10_38) rfl rfl ?_
    show Steps p.tables e below (T4.setTop (mkF m 39 #[.val (.ref a0s), .val (.ref a1s), .val (.int off), .val (.ref a0b), .val (.ref a2b), .val (.int 0), .val (.int 4), .unset] [(.ref a0s)])) _
    refine st6.trans ?_
    show Steps p.tables e below (T6.setTop (mkF m 42 #[.val (.ref a0s), .val (.ref a1s), .val (.int off), .val (.ref a0b), .val (.ref a2b), .val (.int 0), .val (.int 4), .unset] [(.int 0)])) _
    refine XS.istore X6.here hx rfl (hb hby d10_42) rfl (l' := #[.val (.ref a0s), .val (.ref a1s), .val (.int off), .val (.ref a0b), .val (.ref a2b), .val (.int 0), .val (.int 4), .val (.int 0)]) rfl ?_
    refine XS.iload X6.here hx rfl (hb hby d10_44) rfl ?_
    refine XS.aloadN X6.here hx rfl (hb hby d10_46) rfl rfl ?_
    show Steps p.tables e below (T6.setTop (mkF m 47 #[.val (.ref a0s), .val (.ref a1s), .val (.int off), .val (.ref a0b), .val (.ref a2b), .val (.int 0), .val (.int 4), .val (.int 0)] [(.ref a1s), (.int 0)])) _
    refine st7.trans ?_
    show Steps p.tables e below (T7.setTop (mkF m 50 #[.val (.ref a0s), .val (.ref a1s), .val (.int off), .val (.ref a0b), .val (.ref a2b), .val (.int 0), .val (.int 4), .val (.int 0)] [(.int 0), (.int 0)])) _
    refine XS.icmpNo X7.here hx rfl (hb hby d10_50) rfl (teq (by decide : (0 : Int32) = (0 : Int32))).2 ?_
    refine XS.iload X7.here hx rfl (hb hby d10_53) rfl ?_
    refine XS.iconst X7.here hx rfl (hb hby d10_55) ?_
    refine XS.icmpYes X7.here hx rfl (pc0 := 56) (pc' := 63) rfl (hb hby d10_56) rfl (feq (by decide : ¬ ((0 : Int32) = (1 : Int32)))).2 (by decide) (by decide) ?_
    show Steps p.tables e below (T7.setTop (mkF m 63 #[.val (.ref a0s), .val (.ref a1s), .val (.int off), .val (.ref a0b), .val (.ref a2b), .val (.int 0), .val (.int 4), .val (.int 0)] [])) _
    refine XS.aloadN X7.here hx rfl (hb hby d10_63) rfl rfl ?_
    refine XS.iloadN X7.here hx rfl (hb hby d10_64) rfl ?_
    refine XS.aload X7.here hx rfl (hb hby d10_65) rfl rfl ?_
    refine XS.iconst X7.here hx rfl (hb hby d10_67) ?_
    show Steps p.tables e below (T7.setTop (mkF m 68 #[.val (.ref a0s), .val (.ref a1s), .val (.int off), .val (.ref a0b), .val (.ref a2b), .val (.int 0), .val (.int 4), .val (.int 0)] [(.int 0), (.ref a2b), (.int off), (.ref a0b)])) _
    refine XS.iload X7.here hx rfl (hb hby d10_68) rfl ?_
    show Steps p.tables e below (T7.setTop (mkF m 70 #[.val (.ref a0s), .val (.ref a1s), .val (.int off), .val (.ref a0b), .val (.ref a2b), .val (.int 0), .val (.int 4), .val (.int 0)] [(.int 4), (.int 0), (.ref a2b), (.int off), (.ref a0b)])) _
    refine st8 _ ?_
    show Steps p.tables e below (T8.setTop (mkF m 73 #[.val (.ref a0s), .val (.ref a1s), .val (.int off), .val (.ref a0b), .val (.ref a2b), .val (.int 0), .val (.int 4), .val (.int 0)] [(.int (-1 : Int32))])) _
    refine XS.ifNo X8.here hx rfl (hb hby d10_73) rfl ((if0 _ _).trans (tlt (by decide : (-1 : Int32) < (0 : Int32))).2.1) ?_
    refine XS.iconst X8.here hx rfl (hb hby d10_76) ?_
    refine XS.goto X8.here hx rfl (pc0 := 77) (pc' := 81) rfl (hb hby d10_77) (by decide) (by decide) ?_
    show Steps p.tables e below (T8.setTop (mkF m 81 #[.val (.ref a0s), .val (.ref a1s), .val (.int off), .val (.ref a0b), .val (.ref a2b), .val (.int 0), .val (.int 4), .val (.int 0)] [(.int 1)])) _
    exact retN X8 hx (t := .boolean) Bd.returns (by simp) (hb hby d10_81) hr
  · show Q_rmSw_jarT n0 Z cS a0s a1s off a0b k0 nl vs a2b k2 d0 d1 d2 d3 h0 _ T8.heap _
    rw [e8]
    exact ⟨rfl, N8, rfl⟩
def Q_rmEw_jarT (n0 : Nat) (Z : State) (cS : Int32) (a0s : Addr) (a1s : Addr) (a0b : Addr) (k0 : ClassId) (nl : Int32) (vs : List Value) (a2b : Addr) (k2 : ClassId) (d0 : Int32) (d1 : Int32) (d2 : Int32) (d3 : Int32) (h0 : Heap) (v : Option Value) (h : Heap) (L : List Loc) : Prop := v = some (.int 1) ∧ Fr n0 L ∧ h = h0
set_option maxRecDepth 65536 in
set_option maxHeartbeats 40000000 in
theorem rmEw_jarT (l : Launch) (Z : State) (a0 : Array Value) (hw : ∀ d ∈ tables_1, d.before a0 Z = true) (ws : List Jvm.Cond) (cS : Int32) (a0s : Addr) (a1s : Addr) (a0b : Addr) (k0 : ClassId) (nl : Int32) (vs : List Value) (a2b : Addr) (k2 : ClassId) (d0 : Int32) (d1 : Int32) (d2 : Int32) (d3 : Int32) (h0 : Heap) (n0 : Nat) (O0 : Old Z n0 h0) (GL : GF Z cS) (E_a0s : Exa Z h0 a0s "java/lang/String") (F_value_a0s : Fld Z h0 a0s "java/lang/String" "value" "[B" (.ref a0b)) (F_coder_a0s : Fld Z h0 a0s "java/lang/String" "coder" "B" (.int 0)) (V_a0b : Arv Z h0 a0b k0 .byte nl vs (.int 0)) (E_a1s : Exa Z h0 a1s "java/lang/String") (F_value_a1s : Fld Z h0 a1s "java/lang/String" "value" "[B" (.ref a2b)) (F_coder_a1s : Fld Z h0 a1s "java/lang/String" "coder" "B" (.int 0)) (V_a2b : Arv Z h0 a2b k2 .byte (4 : Int32) [(.int 46), (.int 106), (.int 97), (.int 114)] (.int 0)) (hng : ¬ ((nl - (4 : Int32)) < (0 : Int32))) (gA0 : vs.getD ((nl - (4 : Int32)) + (0 : Int32)).toNatClampNeg (.int 0) = .int (d0.toInt8.toInt32)) (xA0 : ¬ (((nl - (4 : Int32)) + (0 : Int32)) < (0 : Int32))) (yA0 : ((nl - (4 : Int32)) + (0 : Int32)) < nl) (gA1 : vs.getD ((nl - (4 : Int32)) + (1 : Int32)).toNatClampNeg (.int 0) = .int (d1.toInt8.toInt32)) (xA1 : ¬ (((nl - (4 : Int32)) + (1 : Int32)) < (0 : Int32))) (yA1 : ((nl - (4 : Int32)) + (1 : Int32)) < nl) (gA2 : vs.getD ((nl - (4 : Int32)) + (2 : Int32)).toNatClampNeg (.int 0) = .int (d2.toInt8.toInt32)) (xA2 : ¬ (((nl - (4 : Int32)) + (2 : Int32)) < (0 : Int32))) (yA2 : ((nl - (4 : Int32)) + (2 : Int32)) < nl) (gA3 : vs.getD ((nl - (4 : Int32)) + (3 : Int32)).toNatClampNeg (.int 0) = .int (d3.toInt8.toInt32)) (xA3 : ¬ (((nl - (4 : Int32)) + (3 : Int32)) < (0 : Int32))) (yA3 : ((nl - (4 : Int32)) + (3 : Int32)) < nl) (hA : d0 = (46 : Int32) ∧ d1 = (106 : Int32) ∧ d2 = (97 : Int32) ∧ d3 = (114 : Int32)) :
    MetFree l MN_11 (head1 (Jvm.Cond.code MN_11 jdk_42_method_77_code 2 (some .boolean) :: ws) ({ frames := 3, cells := 0, slots := 0, locals := 46 } : Room)) (fun a U => a = #[(.ref a0s), (.ref a1s)] ∧ Z.Warmed39 U.vm ∧ U.heap = h0) (fun _ _ _ _ _ => True) (fun _ U o U' => ∃ v L, o = .returned v ∧ Q_rmEw_jarT n0 Z cS a0s a1s a0b k0 nl vs a2b k2 d0 d1 d2 d3 h0 v U'.heap L ∧ FrameEnd U o U' L ({ frames := 3, cells := 0, slots := 0, locals := 46 } : Room).cells ({ frames := 3, cells := 0, slots := 0, locals := 46 } : Room).slots) := by
  refine MetFree.of_bodySF (plainFor_of_name pnv1) hisR ?_
  intro p e s m args below meth c s₁ Bd hml0 hP hK
  obtain ⟨rfl, hZ, hh⟩ := hP
  have hx := Bd.exec
  have hby := Bd.bytes
  have hml : c.maxLocals = 2 := hml0
  have hown : s.vm.findClass "java/lang/String" = some m.cls := findClass_of_methodNamed Bd.named
  have hnm := (name_of_methodNamed Bd.named Bd.method).1
  have X0 : Stand p l e ({ frames := 3, cells := 0, slots := 0, locals := 46 } : Room) s m #[(.ref a0s), (.ref a1s)] below meth c s₁ [] 0 0 := Stand.of_body Bd
  have e0 : s₁.heap = h0 := by rw [← hh, Bd.state]; rfl
  have N0 := Fr.nil n0
  have pre0 : ∀ t, Steps p.tables e below (s₁.setTop (mkF m 0 #[.val (.ref a0s), .val (.ref a1s)] [])) t → Steps p.tables e below (s₁.setTop (entryFrame m #[(.ref a0s), (.ref a1s)] 2)) t := fun t k => castTop (ef_rmEw_mfneg m a0s a1s) k
  have GL' := GL
  obtain ⟨GCS, GCP⟩ := GL'
  obtain ⟨cq1, kq1, q1a, q1b, q1c⟩ := isOf hZ e0 E_a0s
  obtain ⟨_, _, ⟨T1, L1, k1, n1⟩, -, X1, ⟨Lc1, hQ1, l1, y1, z1⟩, st1⟩ := X0.virtualBack hx (y := MN_8) (z := MN_8) hown (mvT hZ (Wd hw 40 rfl)) (mvT hZ (Wd hw 41 rfl)) (notFace_of_selects (args := #[]) (mvT hZ (Wd hw 43 rfl))) (mvT hZ (Wd hw 43 rfl)) (mvT hZ (Wd hw 42 rfl)) (by decide) (backOf (W := 2) (rmLen l Z a0 hw [] cS (a0s) (a0b) (k0) (nl) (vs) (h0) n0 O0 GL E_a0s F_value_a0s F_coder_a0s V_a0b) hZ (Wd hw 44 rfl) (Wd hw 11 rfl) (by decide) (by decide)) q1a q1c (g := (mkF m 3 #[.val (.ref a0s), .val (.ref a1s)] [(.ref a0s), (.ref a1s), (.ref a0s)])) rfl (by rw [hml]; rfl) (Steps.refl _) (argsL := []) (rest := [(.ref a1s), (.ref a0s)]) (lenOf pdv6 rfl) rfl (by show 2 * 0 + _ ≤ _; exact Nat.le_of_eq rfl) (hb hby d7_3) (fun _ _ => ⟨rfl, e0, (by decide : 0 + 0 ≤ _), (by decide : 0 + 0 ≤ _)⟩)
  dsimp only [Pt.U, Pt.locs, Pt.cells, Pt.slots] at X1 l1 y1 z1 st1 hQ1
  subst l1 y1 z1
  obtain ⟨rfl, N1q, e1⟩ := hQ1
  have N1 := Fr.app N0 N1q
  obtain ⟨cq2, kq2, q2a, q2b, q2c⟩ := isOf hZ e1 E_a1s
  obtain ⟨_, _, ⟨T2, L2, k2, n2⟩, -, X2, ⟨Lc2, hQ2, l2, y2, z2⟩, st2⟩ := X1.virtualBack hx (y := MN_8) (z := MN_8) hown (mvT hZ (Wd hw 40 rfl)) (mvT hZ (Wd hw 41 rfl)) (notFace_of_selects (args := #[]) (mvT hZ (Wd hw 43 rfl))) (mvT hZ (Wd hw 43 rfl)) (mvT hZ (Wd hw 42 rfl)) (by decide) (backOf (W := 3) (rmLen l Z a0 hw [] cS (a1s) (a2b) (k2) ((4 : Int32)) ([(.int 46), (.int 106), (.int 97), (.int 114)]) (h0) n0 O0 GL E_a1s F_value_a1s F_coder_a1s V_a2b) hZ (Wd hw 44 rfl) (Wd hw 11 rfl) (by decide) (by decide)) q2a q2c (g := (mkF m 7 #[.val (.ref a0s), .val (.ref a1s)] [(.ref a1s), (.int nl), (.ref a1s), (.ref a0s)])) rfl (by rw [hml]; rfl) (Steps.refl _) (argsL := []) (rest := [(.int nl), (.ref a1s), (.ref a0s)]) (lenOf pdv6 rfl) rfl (by show 2 * 0 + _ ≤ _; exact Nat.le_of_eq rfl) (hb hby d7_7) (fun _ _ => ⟨rfl, e1, (by decide : 0 + 0 ≤ _), (by decide : 0 + 0 ≤ _)⟩)
  dsimp only [Pt.U, Pt.locs, Pt.cells, Pt.slots] at X2 l2 y2 z2 st2 hQ2
  subst l2 y2 z2
  obtain ⟨rfl, N2q, e2⟩ := hQ2
  have N2 := Fr.app N1 N2q
  obtain ⟨cq3, kq3, q3a, q3b, q3c⟩ := isOf hZ e2 E_a0s
  obtain ⟨_, _, ⟨T3, L3, k3, n3⟩, -, X3, ⟨Lc3, hQ3, l3, y3, z3⟩, st3⟩ := X2.virtualBack hx (y := MN_10) (z := MN_10) hown (mvT hZ (Wd hw 51 rfl)) (mvT hZ (Wd hw 52 rfl)) (notFace_of_selects (args := #[]) (mvT hZ (Wd hw 54 rfl))) (mvT hZ (Wd hw 54 rfl)) (mvT hZ (Wd hw 53 rfl)) (by decide) (backOf (W := 0) (rmSw_jarT l Z a0 hw [] cS (a0s) (a1s) ((nl - (4 : Int32))) (a0b) (k0) (nl) (vs) (a2b) (k2) (d0) (d1) (d2) (d3) (h0) n0 O0 GL E_a0s F_value_a0s F_coder_a0s V_a0b E_a1s F_value_a1s F_coder_a1s V_a2b hng (fun h => Int32.lt_irrefl h) gA0 xA0 yA0 gA1 xA1 yA1 gA2 xA2 yA2 gA3 xA3 yA3 hA) hZ (Wd hw 55 rfl) (Wd hw 11 rfl) (by decide) (by decide)) q3a q3c (g := (mkF m 11 #[.val (.ref a0s), .val (.ref a1s)] [(.int (nl - (4 : Int32))), (.ref a1s), (.ref a0s)])) rfl (by rw [hml]; rfl) (Steps.refl _) (argsL := [(.ref a1s), (.int (nl - (4 : Int32)))]) (rest := []) (lenOf pdv7 rfl) rfl (by show 2 * 0 + _ ≤ _; exact Nat.le_of_eq rfl) (hb hby d7_11) (fun _ _ => ⟨rfl, e2, (by decide : 0 + 0 ≤ _), (by decide : 0 + 0 ≤ _)⟩)
  dsimp only [Pt.U, Pt.locs, Pt.cells, Pt.slots] at X3 l3 y3 z3 st3 hQ3
  subst l3 y3 z3
  obtain ⟨rfl, N3q, e3⟩ := hQ3
  have N3 := Fr.app N2 N3q
  obtain ⟨fs, hr, hrun, hended, hW, hsame⟩ := X3.leave (v := some (.int 1)) (fun h => by rw [Bd.returns] at h; cases h)
  refine ⟨_, _, pre0 _ ?_, hrun, hended, _, _, rfl, ?_, ⟨_, rfl⟩, hW, hsame.mono (by decide) (by decide)⟩
  · show Steps p.tables e below (s₁.setTop (mkF m 0 #[.val (.ref a0s), .val (.ref a1s)] [])) _
    refine XS.aloadN X0.here hx rfl (hb hby d7_0) rfl rfl ?_
    refine XS.aloadN X0.here hx rfl (hb hby d7_1) rfl rfl ?_
    refine XS.aloadN X0.here hx rfl (hb hby d7_2) rfl rfl ?_
    show Steps p.tables e below (s₁.setTop (mkF m 3 #[.val (.ref a0s), .val (.ref a1s)] [(.ref a0s), (.ref a1s), (.ref a0s)])) _
    refine st1.trans ?_
    show Steps p.tables e below (T1.setTop (mkF m 6 #[.val (.ref a0s), .val (.ref a1s)] [(.int nl), (.ref a1s), (.ref a0s)])) _
    refine XS.aloadN X1.here hx rfl (hb hby d7_6) rfl rfl ?_
    show Steps p.tables e below (T1.setTop (mkF m 7 #[.val (.ref a0s), .val (.ref a1s)] [(.ref a1s), (.int nl), (.ref a1s), (.ref a0s)])) _
    refine st2.trans ?_
    show Steps p.tables e below (T2.setTop (mkF m 10 #[.val (.ref a0s), .val (.ref a1s)] [(.int 4), (.int nl), (.ref a1s), (.ref a0s)])) _
    refine XS.isub X2.here hx rfl (hb hby d7_10) rfl ?_
    show Steps p.tables e below (T2.setTop (mkF m 11 #[.val (.ref a0s), .val (.ref a1s)] [(.int (nl - (4 : Int32))), (.ref a1s), (.ref a0s)])) _
    refine st3.trans ?_
    show Steps p.tables e below (T3.setTop (mkF m 14 #[.val (.ref a0s), .val (.ref a1s)] [(.int 1)])) _
    exact retN X3 hx (t := .boolean) Bd.returns (by simp) (hb hby d7_14) hr
  · show Q_rmEw_jarT n0 Z cS a0s a1s a0b k0 nl vs a2b k2 d0 d1 d2 d3 h0 _ T3.heap _
    rw [e3]
    exact ⟨rfl, N3, rfl⟩
def Q_rmSw_jarF (n0 : Nat) (Z : State) (cS : Int32) (a0s : Addr) (a1s : Addr) (off : Int32) (a0b : Addr) (k0 : ClassId) (nl : Int32) (vs : List Value) (a2b : Addr) (k2 : ClassId) (d0 : Int32) (d1 : Int32) (d2 : Int32) (d3 : Int32) (h0 : Heap) (v : Option Value) (h : Heap) (L : List Loc) : Prop := v = some (.int 0) ∧ Fr n0 L ∧ h = h0
set_option maxRecDepth 65536 in
set_option maxHeartbeats 40000000 in
theorem rmSw_jarF (l : Launch) (Z : State) (a0 : Array Value) (hw : ∀ d ∈ tables_1, d.before a0 Z = true) (ws : List Jvm.Cond) (cS : Int32) (a0s : Addr) (a1s : Addr) (off : Int32) (a0b : Addr) (k0 : ClassId) (nl : Int32) (vs : List Value) (a2b : Addr) (k2 : ClassId) (d0 : Int32) (d1 : Int32) (d2 : Int32) (d3 : Int32) (h0 : Heap) (n0 : Nat) (O0 : Old Z n0 h0) (GL : GF Z cS) (E_a0s : Exa Z h0 a0s "java/lang/String") (F_value_a0s : Fld Z h0 a0s "java/lang/String" "value" "[B" (.ref a0b)) (F_coder_a0s : Fld Z h0 a0s "java/lang/String" "coder" "B" (.int 0)) (V_a0b : Arv Z h0 a0b k0 .byte nl vs (.int 0)) (E_a1s : Exa Z h0 a1s "java/lang/String") (F_value_a1s : Fld Z h0 a1s "java/lang/String" "value" "[B" (.ref a2b)) (F_coder_a1s : Fld Z h0 a1s "java/lang/String" "coder" "B" (.int 0)) (V_a2b : Arv Z h0 a2b k2 .byte (4 : Int32) [(.int 46), (.int 106), (.int 97), (.int 114)] (.int 0)) (hng : ¬ (off < (0 : Int32))) (hle : ¬ ((nl - (4 : Int32)) < off)) (gA0 : vs.getD (off + (0 : Int32)).toNatClampNeg (.int 0) = .int (d0.toInt8.toInt32)) (xA0 : ¬ ((off + (0 : Int32)) < (0 : Int32))) (yA0 : (off + (0 : Int32)) < nl) (lA0 : ¬ ((255 : Int32) < d0)) (nA0 : ¬ (d0 < (0 : Int32))) (gA1 : vs.getD (off + (1 : Int32)).toNatClampNeg (.int 0) = .int (d1.toInt8.toInt32)) (xA1 : ¬ ((off + (1 : Int32)) < (0 : Int32))) (yA1 : (off + (1 : Int32)) < nl) (lA1 : ¬ ((255 : Int32) < d1)) (nA1 : ¬ (d1 < (0 : Int32))) (gA2 : vs.getD (off + (2 : Int32)).toNatClampNeg (.int 0) = .int (d2.toInt8.toInt32)) (xA2 : ¬ ((off + (2 : Int32)) < (0 : Int32))) (yA2 : (off + (2 : Int32)) < nl) (lA2 : ¬ ((255 : Int32) < d2)) (nA2 : ¬ (d2 < (0 : Int32))) (gA3 : vs.getD (off + (3 : Int32)).toNatClampNeg (.int 0) = .int (d3.toInt8.toInt32)) (xA3 : ¬ ((off + (3 : Int32)) < (0 : Int32))) (yA3 : (off + (3 : Int32)) < nl) (lA3 : ¬ ((255 : Int32) < d3)) (nA3 : ¬ (d3 < (0 : Int32))) (hA : ¬ (d0 = (46 : Int32) ∧ d1 = (106 : Int32) ∧ d2 = (97 : Int32) ∧ d3 = (114 : Int32))) :
    MetFree l MN_10 (head1 (Jvm.Cond.code MN_10 jdk_42_method_75_code 8 (some .boolean) :: ws) ({ frames := 2, cells := 0, slots := 0, locals := 27 } : Room)) (fun a U => a = #[(.ref a0s), (.ref a1s), (.int off)] ∧ Z.Warmed39 U.vm ∧ U.heap = h0) (fun _ _ _ _ _ => True) (fun _ U o U' => ∃ v L, o = .returned v ∧ Q_rmSw_jarF n0 Z cS a0s a1s off a0b k0 nl vs a2b k2 d0 d1 d2 d3 h0 v U'.heap L ∧ FrameEnd U o U' L ({ frames := 2, cells := 0, slots := 0, locals := 27 } : Room).cells ({ frames := 2, cells := 0, slots := 0, locals := 27 } : Room).slots) := by
  refine MetFree.of_bodySF (plainFor_of_name pnv1) hisR ?_
  intro p e s m args below meth c s₁ Bd hml0 hP hK
  obtain ⟨rfl, hZ, hh⟩ := hP
  have hx := Bd.exec
  have hby := Bd.bytes
  have hml : c.maxLocals = 8 := hml0
  have hown : s.vm.findClass "java/lang/String" = some m.cls := findClass_of_methodNamed Bd.named
  have hnm := (name_of_methodNamed Bd.named Bd.method).1
  have X0 : Stand p l e ({ frames := 2, cells := 0, slots := 0, locals := 27 } : Room) s m #[(.ref a0s), (.ref a1s), (.int off)] below meth c s₁ [] 0 0 := Stand.of_body Bd
  have e0 : s₁.heap = h0 := by rw [← hh, Bd.state]; rfl
  have N0 := Fr.nil n0
  have pre0 : ∀ t, Steps p.tables e below (s₁.setTop (mkF m 0 #[.val (.ref a0s), .val (.ref a1s), .val (.int off), .unset, .unset, .unset, .unset, .unset] [])) t → Steps p.tables e below (s₁.setTop (entryFrame m #[(.ref a0s), (.ref a1s), (.int off)] 8)) t := fun t k => castTop (ef_rmSw_mfneg m a0s a1s off) k
  have GL' := GL
  obtain ⟨GCS, GCP⟩ := GL'
  obtain ⟨cq1, kq1, q1a, q1b, q1c⟩ := isOf hZ e0 E_a0s
  obtain ⟨_, _, ⟨T1, L1, k1, n1⟩, -, X1, ⟨Lc1, hQ1, l1, y1, z1⟩, st1⟩ := X0.virtualBack hx (y := MN_8) (z := MN_8) hown (mvT hZ (Wd hw 40 rfl)) (mvT hZ (Wd hw 41 rfl)) (notFace_of_selects (args := #[]) (mvT hZ (Wd hw 43 rfl))) (mvT hZ (Wd hw 43 rfl)) (mvT hZ (Wd hw 42 rfl)) (by decide) (backOf (W := 1) (rmLen l Z a0 hw [] cS (a0s) (a0b) (k0) (nl) (vs) (h0) n0 O0 GL E_a0s F_value_a0s F_coder_a0s V_a0b) hZ (Wd hw 44 rfl) (Wd hw 11 rfl) (by decide) (by decide)) q1a q1c (g := (mkF m 6 #[.val (.ref a0s), .val (.ref a1s), .val (.int off), .unset, .unset, .unset, .unset, .unset] [(.ref a0s), (.int off)])) rfl (by rw [hml]; rfl) (Steps.refl _) (argsL := []) (rest := [(.int off)]) (lenOf pdv6 rfl) rfl (by show 2 * 0 + _ ≤ _; exact Nat.le_of_eq rfl) (hb hby d10_6) (fun _ _ => ⟨rfl, e0, (by decide : 0 + 0 ≤ _), (by decide : 0 + 0 ≤ _)⟩)
  dsimp only [Pt.U, Pt.locs, Pt.cells, Pt.slots] at X1 l1 y1 z1 st1 hQ1
  subst l1 y1 z1
  obtain ⟨rfl, N1q, e1⟩ := hQ1
  have N1 := Fr.app N0 N1q
  obtain ⟨cq2, kq2, q2a, q2b, q2c⟩ := isOf hZ e1 E_a1s
  obtain ⟨_, _, ⟨T2, L2, k2, n2⟩, -, X2, ⟨Lc2, hQ2, l2, y2, z2⟩, st2⟩ := X1.virtualBack hx (y := MN_8) (z := MN_8) hown (mvT hZ (Wd hw 40 rfl)) (mvT hZ (Wd hw 41 rfl)) (notFace_of_selects (args := #[]) (mvT hZ (Wd hw 43 rfl))) (mvT hZ (Wd hw 43 rfl)) (mvT hZ (Wd hw 42 rfl)) (by decide) (backOf (W := 2) (rmLen l Z a0 hw [] cS (a1s) (a2b) (k2) ((4 : Int32)) ([(.int 46), (.int 106), (.int 97), (.int 114)]) (h0) n0 O0 GL E_a1s F_value_a1s F_coder_a1s V_a2b) hZ (Wd hw 44 rfl) (Wd hw 11 rfl) (by decide) (by decide)) q2a q2c (g := (mkF m 10 #[.val (.ref a0s), .val (.ref a1s), .val (.int off), .unset, .unset, .unset, .unset, .unset] [(.ref a1s), (.int nl), (.int off)])) rfl (by rw [hml]; rfl) (Steps.refl _) (argsL := []) (rest := [(.int nl), (.int off)]) (lenOf pdv6 rfl) rfl (by show 2 * 0 + _ ≤ _; exact Nat.le_of_eq rfl) (hb hby d10_10) (fun _ _ => ⟨rfl, e1, (by decide : 0 + 0 ≤ _), (by decide : 0 + 0 ≤ _)⟩)
  dsimp only [Pt.U, Pt.locs, Pt.cells, Pt.slots] at X2 l2 y2 z2 st2 hQ2
  subst l2 y2 z2
  obtain ⟨rfl, N2q, e2⟩ := hQ2
  have N2 := Fr.app N1 N2q
  obtain ⟨T3, X3, e3, st3⟩ := getF X2 hx hZ hown (host := "") (Or.inl (Wd hw 28 rfl)) Via.refl e2 F_value_a0s (g := (mkF m 20 #[.val (.ref a0s), .val (.ref a1s), .val (.int off), .unset, .unset, .unset, .unset, .unset] [(.ref a0s)])) rfl rfl (hb hby d10_20)
  obtain ⟨T4, X4, e4, st4⟩ := getF X3 hx hZ hown (host := "") (Or.inl (Wd hw 28 rfl)) Via.refl e3 F_value_a1s (g := (mkF m 25 #[.val (.ref a0s), .val (.ref a1s), .val (.int off), .val (.ref a0b), .unset, .unset, .unset, .unset] [(.ref a1s)])) rfl rfl (hb hby d10_25)
  obtain ⟨cl5, Ar5, -, S5, N5_, -, -⟩ := id (V_a2b)
  obtain ⟨cq6, kq6, q6a, q6b, q6c⟩ := isOf hZ e4 E_a0s
  obtain ⟨_, _, ⟨T6, L6, k6, n6⟩, -, X6, ⟨Lc6, hQ6, l6, y6, z6⟩, st6⟩ := X4.virtualBack hx (y := MN_7) (z := MN_7) hown (mvT hZ (Wd hw 45 rfl)) (mvT hZ (Wd hw 46 rfl)) (notFace_of_selects (args := #[]) (mvT hZ (Wd hw 48 rfl))) (mvT hZ (Wd hw 48 rfl)) (mvT hZ (Wd hw 47 rfl)) (by decide) (backOf (W := 0) (rmCod l Z a0 hw [] cS (a0s) (h0) n0 O0 GL F_coder_a0s) hZ (Wd hw 49 rfl) (Wd hw 11 rfl) (by decide) (by decide)) q6a q6c (g := (mkF m 39 #[.val (.ref a0s), .val (.ref a1s), .val (.int off), .val (.ref a0b), .val (.ref a2b), .val (.int 0), .val (.int 4), .unset] [(.ref a0s)])) rfl (by rw [hml]; rfl) (Steps.refl _) (argsL := []) (rest := []) (lenOf pdv5 rfl) rfl (by show 2 * 0 + _ ≤ _; exact Nat.le_of_eq rfl) (hb hby d10_39) (fun _ _ => ⟨rfl, e4, (by decide : 0 + 0 ≤ _), (by decide : 0 + 0 ≤ _)⟩)
  dsimp only [Pt.U, Pt.locs, Pt.cells, Pt.slots] at X6 l6 y6 z6 st6 hQ6
  subst l6 y6 z6
  obtain ⟨rfl, N6q, e6⟩ := hQ6
  have N6 := Fr.app N2 N6q
  obtain ⟨cq7, kq7, q7a, q7b, q7c⟩ := isOf hZ e6 E_a1s
  obtain ⟨_, _, ⟨T7, L7, k7, n7⟩, -, X7, ⟨Lc7, hQ7, l7, y7, z7⟩, st7⟩ := X6.virtualBack hx (y := MN_7) (z := MN_7) hown (mvT hZ (Wd hw 45 rfl)) (mvT hZ (Wd hw 46 rfl)) (notFace_of_selects (args := #[]) (mvT hZ (Wd hw 48 rfl))) (mvT hZ (Wd hw 48 rfl)) (mvT hZ (Wd hw 47 rfl)) (by decide) (backOf (W := 1) (rmCod l Z a0 hw [] cS (a1s) (h0) n0 O0 GL F_coder_a1s) hZ (Wd hw 49 rfl) (Wd hw 11 rfl) (by decide) (by decide)) q7a q7c (g := (mkF m 47 #[.val (.ref a0s), .val (.ref a1s), .val (.int off), .val (.ref a0b), .val (.ref a2b), .val (.int 0), .val (.int 4), .val (.int 0)] [(.ref a1s), (.int 0)])) rfl (by rw [hml]; rfl) (Steps.refl _) (argsL := []) (rest := [(.int 0)]) (lenOf pdv5 rfl) rfl (by show 2 * 0 + _ ≤ _; exact Nat.le_of_eq rfl) (hb hby d10_47) (fun _ _ => ⟨rfl, e6, (by decide : 0 + 0 ≤ _), (by decide : 0 + 0 ≤ _)⟩)
  dsimp only [Pt.U, Pt.locs, Pt.cells, Pt.slots] at X7 l7 y7 z7 st7 hQ7
  subst l7 y7 z7
  obtain ⟨rfl, N7q, e7⟩ := hQ7
  have N7 := Fr.app N6 N7q
  obtain ⟨_, _, ⟨T8, L8, k8, n8⟩, -, X8, ⟨Lc8, hQ8, l8, y8, z8⟩, st8⟩ := Jvm.LawKit.callS X7 hx (y := MN_9) hown (mvT hZ (Wd hw 67 rfl)) (mvT hZ (Wd hw 68 rfl)) (mvT hZ (Wd hw 69 rfl)) (mvT hZ (Wd hw 70 rfl)) (by decide) (backOf (W := 0) (rmMm_jarF l Z a0 hw [] cS (a0b) (off) (a2b) (k0) (nl) (vs) (k2) (d0) (d1) (d2) (d3) (h0) n0 O0 GL V_a0b V_a2b gA0 xA0 yA0 lA0 nA0 gA1 xA1 yA1 lA1 nA1 gA2 xA2 yA2 lA2 nA2 gA3 xA3 yA3 lA3 nA3 hA) hZ (Wd hw 70 rfl) (Wd hw 69 rfl) (by decide) (by decide)) (g := (mkF m 70 #[.val (.ref a0s), .val (.ref a1s), .val (.int off), .val (.ref a0b), .val (.ref a2b), .val (.int 0), .val (.int 4), .val (.int 0)] [(.int 4), (.int 0), (.ref a2b), (.int off), (.ref a0b)])) rfl (by rw [hml]; rfl) (argsL := [(.ref a0b), (.int off), (.ref a2b), (.int 0), (.int 4)]) (rest := []) (lenOf pdv8 rfl) rfl (by show 2 * 0 + _ ≤ _; exact Nat.le_of_eq rfl) (hb hby d10_70) (fun _ _ => ⟨rfl, e7, (by decide : 0 + 0 ≤ _), (by decide : 0 + 0 ≤ _)⟩)
  dsimp only [Pt.U, Pt.locs, Pt.cells, Pt.slots] at X8 l8 y8 z8 st8 hQ8
  subst l8 y8 z8
  obtain ⟨r_8, rfl, N8q, e8, P8_0⟩ := hQ8
  have N8 := Fr.app N7 N8q
  obtain ⟨fs, hr, hrun, hended, hW, hsame⟩ := X8.leave (v := some (.int 0)) (fun h => by rw [Bd.returns] at h; cases h)
  refine ⟨_, _, pre0 _ ?_, hrun, hended, _, _, rfl, ?_, ⟨_, rfl⟩, hW, hsame.mono (by decide) (by decide)⟩
  · show Steps p.tables e below (s₁.setTop (mkF m 0 #[.val (.ref a0s), .val (.ref a1s), .val (.int off), .unset, .unset, .unset, .unset, .unset] [])) _
    refine XS.iloadN X0.here hx rfl (hb hby d10_0) rfl ?_
    refine XS.ifNo X0.here hx rfl (hb hby d10_1) rfl ((if0 _ _).trans (flt hng).1) ?_
    refine XS.iloadN X0.here hx rfl (hb hby d10_4) rfl ?_
    refine XS.aloadN X0.here hx rfl (hb hby d10_5) rfl rfl ?_
    show Steps p.tables e below (s₁.setTop (mkF m 6 #[.val (.ref a0s), .val (.ref a1s), .val (.int off), .unset, .unset, .unset, .unset, .unset] [(.ref a0s), (.int off)])) _
    refine st1.trans ?_
    show Steps p.tables e below (T1.setTop (mkF m 9 #[.val (.ref a0s), .val (.ref a1s), .val (.int off), .unset, .unset, .unset, .unset, .unset] [(.int nl), (.int off)])) _
    refine XS.aloadN X1.here hx rfl (hb hby d10_9) rfl rfl ?_
    show Steps p.tables e below (T1.setTop (mkF m 10 #[.val (.ref a0s), .val (.ref a1s), .val (.int off), .unset, .unset, .unset, .unset, .unset] [(.ref a1s), (.int nl), (.int off)])) _
    refine st2.trans ?_
    show Steps p.tables e below (T2.setTop (mkF m 13 #[.val (.ref a0s), .val (.ref a1s), .val (.int off), .unset, .unset, .unset, .unset, .unset] [(.int 4), (.int nl), (.int off)])) _
    refine XS.isub X2.here hx rfl (hb hby d10_13) rfl ?_
    refine XS.icmpYes X2.here hx rfl (pc0 := 14) (pc' := 19) rfl (hb hby d10_14) rfl (flt hle).2.2.2 (by decide) (by decide) ?_
    refine XS.aloadN X2.here hx rfl (hb hby d10_19) rfl rfl ?_
    show Steps p.tables e below (T2.setTop (mkF m 20 #[.val (.ref a0s), .val (.ref a1s), .val (.int off), .unset, .unset, .unset, .unset, .unset] [(.ref a0s)])) _
    refine st3 _ ?_
    show Steps p.tables e below (T3.setTop (mkF m 23 #[.val (.ref a0s), .val (.ref a1s), .val (.int off), .unset, .unset, .unset, .unset, .unset] [(.ref a0b)])) _
    refine XS.astoreN X3.here hx rfl (hb hby d10_23) rfl rfl (l' := #[.val (.ref a0s), .val (.ref a1s), .val (.int off), .val (.ref a0b), .unset, .unset, .unset, .unset]) rfl ?_
    refine XS.aloadN X3.here hx rfl (hb hby d10_24) rfl rfl ?_
    show Steps p.tables e below (T3.setTop (mkF m 25 #[.val (.ref a0s), .val (.ref a1s), .val (.int off), .val (.ref a0b), .unset, .unset, .unset, .unset] [(.ref a1s)])) _
    refine st4 _ ?_
    show Steps p.tables e below (T4.setTop (mkF m 28 #[.val (.ref a0s), .val (.ref a1s), .val (.int off), .val (.ref a0b), .unset, .unset, .unset, .unset] [(.ref a2b)])) _
    refine XS.astore X4.here hx rfl (hb hby d10_28) rfl rfl (l' := #[.val (.ref a0s), .val (.ref a1s), .val (.int off), .val (.ref a0b), .val (.ref a2b), .unset, .unset, .unset]) rfl ?_
    refine XS.iconst X4.here hx rfl (hb hby d10_30) ?_
    refine XS.istore X4.here hx rfl (hb hby d10_31) rfl (l' := #[.val (.ref a0s), .val (.ref a1s), .val (.int off), .val (.ref a0b), .val (.ref a2b), .val (.int 0), .unset, .unset]) rfl ?_
    refine XS.aload X4.here hx rfl (hb hby d10_33) rfl rfl ?_
    show Steps p.tables e below (T4.setTop (mkF m 35 #[.val (.ref a0s), .val (.ref a1s), .val (.int off), .val (.ref a0b), .val (.ref a2b), .val (.int 0), .unset, .unset] [(.ref a2b)])) _
    refine X4.arraylength hx (by rw [e4]; exact Ar5.1) (State.isArrayOf_alike hZ.alike Ar5.2.1) (g := (mkF m 35 #[.val (.ref a0s), .val (.ref a1s), .val (.int off), .val (.ref a0b), .val (.ref a2b), .val (.int 0), .unset, .unset] [(.ref a2b)])) rfl rfl (hb hby d10_35) _ ?_
    rw [len_of S5 N5_]
    show Steps p.tables e below (T4.setTop (mkF m 36 #[.val (.ref a0s), .val (.ref a1s), .val (.int off), .val (.ref a0b), .val (.ref a2b), .val (.int 0), .unset, .unset] [(.int 4)])) _
    refine XS.istore X4.here hx rfl (hb hby d10_36) rfl (l' := #[.val (.ref a0s), .val (.ref a1s), .val (.int off), .val (.ref a0b), .val (.ref a2b), .val (.int 0), .val (.int 4), .unset]) rfl ?_
    refine XS.aloadN X4.here hx rfl (hb hby d10_38) rfl rfl ?_
    show Steps p.tables e below (T4.setTop (mkF m 39 #[.val (.ref a0s), .val (.ref a1s), .val (.int off), .val (.ref a0b), .val (.ref a2b), .val (.int 0), .val (.int 4), .unset] [(.ref a0s)])) _
    refine st6.trans ?_
    show Steps p.tables e below (T6.setTop (mkF m 42 #[.val (.ref a0s), .val (.ref a1s), .val (.int off), .val (.ref a0b), .val (.ref a2b), .val (.int 0), .val (.int 4), .unset] [(.int 0)])) _
    refine XS.istore X6.here hx rfl (hb hby d10_42) rfl (l' := #[.val (.ref a0s), .val (.ref a1s), .val (.int off), .val (.ref a0b), .val (.ref a2b), .val (.int 0), .val (.int 4), .val (.int 0)]) rfl ?_
    refine XS.iload X6.here hx rfl (hb hby d10_44) rfl ?_
    refine XS.aloadN X6.here hx rfl (hb hby d10_46) rfl rfl ?_
    show Steps p.tables e below (T6.setTop (mkF m 47 #[.val (.ref a0s), .val (.ref a1s), .val (.int off), .val (.ref a0b), .val (.ref a2b), .val (.int 0), .val (.int 4), .val (.int 0)] [(.ref a1s), (.int 0)])) _
    refine st7.trans ?_
    show Steps p.tables e below (T7.setTop (mkF m 50 #[.val (.ref a0s), .val (.ref a1s), .val (.int off), .val (.ref a0b), .val (.ref a2b), .val (.int 0), .val (.int 4), .val (.int 0)] [(.int 0), (.int 0)])) _
    refine XS.icmpNo X7.here hx rfl (hb hby d10_50) rfl (teq (by decide : (0 : Int32) = (0 : Int32))).2 ?_
    refine XS.iload X7.here hx rfl (hb hby d10_53) rfl ?_
    refine XS.iconst X7.here hx rfl (hb hby d10_55) ?_
    refine XS.icmpYes X7.here hx rfl (pc0 := 56) (pc' := 63) rfl (hb hby d10_56) rfl (feq (by decide : ¬ ((0 : Int32) = (1 : Int32)))).2 (by decide) (by decide) ?_
    show Steps p.tables e below (T7.setTop (mkF m 63 #[.val (.ref a0s), .val (.ref a1s), .val (.int off), .val (.ref a0b), .val (.ref a2b), .val (.int 0), .val (.int 4), .val (.int 0)] [])) _
    refine XS.aloadN X7.here hx rfl (hb hby d10_63) rfl rfl ?_
    refine XS.iloadN X7.here hx rfl (hb hby d10_64) rfl ?_
    refine XS.aload X7.here hx rfl (hb hby d10_65) rfl rfl ?_
    refine XS.iconst X7.here hx rfl (hb hby d10_67) ?_
    show Steps p.tables e below (T7.setTop (mkF m 68 #[.val (.ref a0s), .val (.ref a1s), .val (.int off), .val (.ref a0b), .val (.ref a2b), .val (.int 0), .val (.int 4), .val (.int 0)] [(.int 0), (.ref a2b), (.int off), (.ref a0b)])) _
    refine XS.iload X7.here hx rfl (hb hby d10_68) rfl ?_
    show Steps p.tables e below (T7.setTop (mkF m 70 #[.val (.ref a0s), .val (.ref a1s), .val (.int off), .val (.ref a0b), .val (.ref a2b), .val (.int 0), .val (.int 4), .val (.int 0)] [(.int 4), (.int 0), (.ref a2b), (.int off), (.ref a0b)])) _
    refine st8 _ ?_
    show Steps p.tables e below (T8.setTop (mkF m 73 #[.val (.ref a0s), .val (.ref a1s), .val (.int off), .val (.ref a0b), .val (.ref a2b), .val (.int 0), .val (.int 4), .val (.int 0)] [(.int r_8)])) _
    refine XS.ifYes X8.here hx rfl (pc0 := 73) (pc' := 80) rfl (hb hby d10_73) rfl ((if0 _ _).trans (flt P8_0).2.1) (by decide) (by decide) ?_
    refine XS.iconst X8.here hx rfl (hb hby d10_80) ?_
    show Steps p.tables e below (T8.setTop (mkF m 81 #[.val (.ref a0s), .val (.ref a1s), .val (.int off), .val (.ref a0b), .val (.ref a2b), .val (.int 0), .val (.int 4), .val (.int 0)] [(.int 0)])) _
    exact retN X8 hx (t := .boolean) Bd.returns (by simp) (hb hby d10_81) hr
  · show Q_rmSw_jarF n0 Z cS a0s a1s off a0b k0 nl vs a2b k2 d0 d1 d2 d3 h0 _ T8.heap _
    rw [e8]
    exact ⟨rfl, N8, rfl⟩
def Q_rmEw_jarF (n0 : Nat) (Z : State) (cS : Int32) (a0s : Addr) (a1s : Addr) (a0b : Addr) (k0 : ClassId) (nl : Int32) (vs : List Value) (a2b : Addr) (k2 : ClassId) (d0 : Int32) (d1 : Int32) (d2 : Int32) (d3 : Int32) (h0 : Heap) (v : Option Value) (h : Heap) (L : List Loc) : Prop := v = some (.int 0) ∧ Fr n0 L ∧ h = h0
set_option maxRecDepth 65536 in
set_option maxHeartbeats 40000000 in
theorem rmEw_jarF (l : Launch) (Z : State) (a0 : Array Value) (hw : ∀ d ∈ tables_1, d.before a0 Z = true) (ws : List Jvm.Cond) (cS : Int32) (a0s : Addr) (a1s : Addr) (a0b : Addr) (k0 : ClassId) (nl : Int32) (vs : List Value) (a2b : Addr) (k2 : ClassId) (d0 : Int32) (d1 : Int32) (d2 : Int32) (d3 : Int32) (h0 : Heap) (n0 : Nat) (O0 : Old Z n0 h0) (GL : GF Z cS) (E_a0s : Exa Z h0 a0s "java/lang/String") (F_value_a0s : Fld Z h0 a0s "java/lang/String" "value" "[B" (.ref a0b)) (F_coder_a0s : Fld Z h0 a0s "java/lang/String" "coder" "B" (.int 0)) (V_a0b : Arv Z h0 a0b k0 .byte nl vs (.int 0)) (E_a1s : Exa Z h0 a1s "java/lang/String") (F_value_a1s : Fld Z h0 a1s "java/lang/String" "value" "[B" (.ref a2b)) (F_coder_a1s : Fld Z h0 a1s "java/lang/String" "coder" "B" (.int 0)) (V_a2b : Arv Z h0 a2b k2 .byte (4 : Int32) [(.int 46), (.int 106), (.int 97), (.int 114)] (.int 0)) (hng : ¬ ((nl - (4 : Int32)) < (0 : Int32))) (gA0 : vs.getD ((nl - (4 : Int32)) + (0 : Int32)).toNatClampNeg (.int 0) = .int (d0.toInt8.toInt32)) (xA0 : ¬ (((nl - (4 : Int32)) + (0 : Int32)) < (0 : Int32))) (yA0 : ((nl - (4 : Int32)) + (0 : Int32)) < nl) (lA0 : ¬ ((255 : Int32) < d0)) (nA0 : ¬ (d0 < (0 : Int32))) (gA1 : vs.getD ((nl - (4 : Int32)) + (1 : Int32)).toNatClampNeg (.int 0) = .int (d1.toInt8.toInt32)) (xA1 : ¬ (((nl - (4 : Int32)) + (1 : Int32)) < (0 : Int32))) (yA1 : ((nl - (4 : Int32)) + (1 : Int32)) < nl) (lA1 : ¬ ((255 : Int32) < d1)) (nA1 : ¬ (d1 < (0 : Int32))) (gA2 : vs.getD ((nl - (4 : Int32)) + (2 : Int32)).toNatClampNeg (.int 0) = .int (d2.toInt8.toInt32)) (xA2 : ¬ (((nl - (4 : Int32)) + (2 : Int32)) < (0 : Int32))) (yA2 : ((nl - (4 : Int32)) + (2 : Int32)) < nl) (lA2 : ¬ ((255 : Int32) < d2)) (nA2 : ¬ (d2 < (0 : Int32))) (gA3 : vs.getD ((nl - (4 : Int32)) + (3 : Int32)).toNatClampNeg (.int 0) = .int (d3.toInt8.toInt32)) (xA3 : ¬ (((nl - (4 : Int32)) + (3 : Int32)) < (0 : Int32))) (yA3 : ((nl - (4 : Int32)) + (3 : Int32)) < nl) (lA3 : ¬ ((255 : Int32) < d3)) (nA3 : ¬ (d3 < (0 : Int32))) (hA : ¬ (d0 = (46 : Int32) ∧ d1 = (106 : Int32) ∧ d2 = (97 : Int32) ∧ d3 = (114 : Int32))) :
    MetFree l MN_11 (head1 (Jvm.Cond.code MN_11 jdk_42_method_77_code 2 (some .boolean) :: ws) ({ frames := 3, cells := 0, slots := 0, locals := 46 } : Room)) (fun a U => a = #[(.ref a0s), (.ref a1s)] ∧ Z.Warmed39 U.vm ∧ U.heap = h0) (fun _ _ _ _ _ => True) (fun _ U o U' => ∃ v L, o = .returned v ∧ Q_rmEw_jarF n0 Z cS a0s a1s a0b k0 nl vs a2b k2 d0 d1 d2 d3 h0 v U'.heap L ∧ FrameEnd U o U' L ({ frames := 3, cells := 0, slots := 0, locals := 46 } : Room).cells ({ frames := 3, cells := 0, slots := 0, locals := 46 } : Room).slots) := by
  refine MetFree.of_bodySF (plainFor_of_name pnv1) hisR ?_
  intro p e s m args below meth c s₁ Bd hml0 hP hK
  obtain ⟨rfl, hZ, hh⟩ := hP
  have hx := Bd.exec
  have hby := Bd.bytes
  have hml : c.maxLocals = 2 := hml0
  have hown : s.vm.findClass "java/lang/String" = some m.cls := findClass_of_methodNamed Bd.named
  have hnm := (name_of_methodNamed Bd.named Bd.method).1
  have X0 : Stand p l e ({ frames := 3, cells := 0, slots := 0, locals := 46 } : Room) s m #[(.ref a0s), (.ref a1s)] below meth c s₁ [] 0 0 := Stand.of_body Bd
  have e0 : s₁.heap = h0 := by rw [← hh, Bd.state]; rfl
  have N0 := Fr.nil n0
  have pre0 : ∀ t, Steps p.tables e below (s₁.setTop (mkF m 0 #[.val (.ref a0s), .val (.ref a1s)] [])) t → Steps p.tables e below (s₁.setTop (entryFrame m #[(.ref a0s), (.ref a1s)] 2)) t := fun t k => castTop (ef_rmEw_mfneg m a0s a1s) k
  have GL' := GL
  obtain ⟨GCS, GCP⟩ := GL'
  obtain ⟨cq1, kq1, q1a, q1b, q1c⟩ := isOf hZ e0 E_a0s
  obtain ⟨_, _, ⟨T1, L1, k1, n1⟩, -, X1, ⟨Lc1, hQ1, l1, y1, z1⟩, st1⟩ := X0.virtualBack hx (y := MN_8) (z := MN_8) hown (mvT hZ (Wd hw 40 rfl)) (mvT hZ (Wd hw 41 rfl)) (notFace_of_selects (args := #[]) (mvT hZ (Wd hw 43 rfl))) (mvT hZ (Wd hw 43 rfl)) (mvT hZ (Wd hw 42 rfl)) (by decide) (backOf (W := 2) (rmLen l Z a0 hw [] cS (a0s) (a0b) (k0) (nl) (vs) (h0) n0 O0 GL E_a0s F_value_a0s F_coder_a0s V_a0b) hZ (Wd hw 44 rfl) (Wd hw 11 rfl) (by decide) (by decide)) q1a q1c (g := (mkF m 3 #[.val (.ref a0s), .val (.ref a1s)] [(.ref a0s), (.ref a1s), (.ref a0s)])) rfl (by rw [hml]; rfl) (Steps.refl _) (argsL := []) (rest := [(.ref a1s), (.ref a0s)]) (lenOf pdv6 rfl) rfl (by show 2 * 0 + _ ≤ _; exact Nat.le_of_eq rfl) (hb hby d7_3) (fun _ _ => ⟨rfl, e0, (by decide : 0 + 0 ≤ _), (by decide : 0 + 0 ≤ _)⟩)
  dsimp only [Pt.U, Pt.locs, Pt.cells, Pt.slots] at X1 l1 y1 z1 st1 hQ1
  subst l1 y1 z1
  obtain ⟨rfl, N1q, e1⟩ := hQ1
  have N1 := Fr.app N0 N1q
  obtain ⟨cq2, kq2, q2a, q2b, q2c⟩ := isOf hZ e1 E_a1s
  obtain ⟨_, _, ⟨T2, L2, k2, n2⟩, -, X2, ⟨Lc2, hQ2, l2, y2, z2⟩, st2⟩ := X1.virtualBack hx (y := MN_8) (z := MN_8) hown (mvT hZ (Wd hw 40 rfl)) (mvT hZ (Wd hw 41 rfl)) (notFace_of_selects (args := #[]) (mvT hZ (Wd hw 43 rfl))) (mvT hZ (Wd hw 43 rfl)) (mvT hZ (Wd hw 42 rfl)) (by decide) (backOf (W := 3) (rmLen l Z a0 hw [] cS (a1s) (a2b) (k2) ((4 : Int32)) ([(.int 46), (.int 106), (.int 97), (.int 114)]) (h0) n0 O0 GL E_a1s F_value_a1s F_coder_a1s V_a2b) hZ (Wd hw 44 rfl) (Wd hw 11 rfl) (by decide) (by decide)) q2a q2c (g := (mkF m 7 #[.val (.ref a0s), .val (.ref a1s)] [(.ref a1s), (.int nl), (.ref a1s), (.ref a0s)])) rfl (by rw [hml]; rfl) (Steps.refl _) (argsL := []) (rest := [(.int nl), (.ref a1s), (.ref a0s)]) (lenOf pdv6 rfl) rfl (by show 2 * 0 + _ ≤ _; exact Nat.le_of_eq rfl) (hb hby d7_7) (fun _ _ => ⟨rfl, e1, (by decide : 0 + 0 ≤ _), (by decide : 0 + 0 ≤ _)⟩)
  dsimp only [Pt.U, Pt.locs, Pt.cells, Pt.slots] at X2 l2 y2 z2 st2 hQ2
  subst l2 y2 z2
  obtain ⟨rfl, N2q, e2⟩ := hQ2
  have N2 := Fr.app N1 N2q
  obtain ⟨cq3, kq3, q3a, q3b, q3c⟩ := isOf hZ e2 E_a0s
  obtain ⟨_, _, ⟨T3, L3, k3, n3⟩, -, X3, ⟨Lc3, hQ3, l3, y3, z3⟩, st3⟩ := X2.virtualBack hx (y := MN_10) (z := MN_10) hown (mvT hZ (Wd hw 51 rfl)) (mvT hZ (Wd hw 52 rfl)) (notFace_of_selects (args := #[]) (mvT hZ (Wd hw 54 rfl))) (mvT hZ (Wd hw 54 rfl)) (mvT hZ (Wd hw 53 rfl)) (by decide) (backOf (W := 0) (rmSw_jarF l Z a0 hw [] cS (a0s) (a1s) ((nl - (4 : Int32))) (a0b) (k0) (nl) (vs) (a2b) (k2) (d0) (d1) (d2) (d3) (h0) n0 O0 GL E_a0s F_value_a0s F_coder_a0s V_a0b E_a1s F_value_a1s F_coder_a1s V_a2b hng (fun h => Int32.lt_irrefl h) gA0 xA0 yA0 lA0 nA0 gA1 xA1 yA1 lA1 nA1 gA2 xA2 yA2 lA2 nA2 gA3 xA3 yA3 lA3 nA3 hA) hZ (Wd hw 55 rfl) (Wd hw 11 rfl) (by decide) (by decide)) q3a q3c (g := (mkF m 11 #[.val (.ref a0s), .val (.ref a1s)] [(.int (nl - (4 : Int32))), (.ref a1s), (.ref a0s)])) rfl (by rw [hml]; rfl) (Steps.refl _) (argsL := [(.ref a1s), (.int (nl - (4 : Int32)))]) (rest := []) (lenOf pdv7 rfl) rfl (by show 2 * 0 + _ ≤ _; exact Nat.le_of_eq rfl) (hb hby d7_11) (fun _ _ => ⟨rfl, e2, (by decide : 0 + 0 ≤ _), (by decide : 0 + 0 ≤ _)⟩)
  dsimp only [Pt.U, Pt.locs, Pt.cells, Pt.slots] at X3 l3 y3 z3 st3 hQ3
  subst l3 y3 z3
  obtain ⟨rfl, N3q, e3⟩ := hQ3
  have N3 := Fr.app N2 N3q
  obtain ⟨fs, hr, hrun, hended, hW, hsame⟩ := X3.leave (v := some (.int 0)) (fun h => by rw [Bd.returns] at h; cases h)
  refine ⟨_, _, pre0 _ ?_, hrun, hended, _, _, rfl, ?_, ⟨_, rfl⟩, hW, hsame.mono (by decide) (by decide)⟩
  · show Steps p.tables e below (s₁.setTop (mkF m 0 #[.val (.ref a0s), .val (.ref a1s)] [])) _
    refine XS.aloadN X0.here hx rfl (hb hby d7_0) rfl rfl ?_
    refine XS.aloadN X0.here hx rfl (hb hby d7_1) rfl rfl ?_
    refine XS.aloadN X0.here hx rfl (hb hby d7_2) rfl rfl ?_
    show Steps p.tables e below (s₁.setTop (mkF m 3 #[.val (.ref a0s), .val (.ref a1s)] [(.ref a0s), (.ref a1s), (.ref a0s)])) _
    refine st1.trans ?_
    show Steps p.tables e below (T1.setTop (mkF m 6 #[.val (.ref a0s), .val (.ref a1s)] [(.int nl), (.ref a1s), (.ref a0s)])) _
    refine XS.aloadN X1.here hx rfl (hb hby d7_6) rfl rfl ?_
    show Steps p.tables e below (T1.setTop (mkF m 7 #[.val (.ref a0s), .val (.ref a1s)] [(.ref a1s), (.int nl), (.ref a1s), (.ref a0s)])) _
    refine st2.trans ?_
    show Steps p.tables e below (T2.setTop (mkF m 10 #[.val (.ref a0s), .val (.ref a1s)] [(.int 4), (.int nl), (.ref a1s), (.ref a0s)])) _
    refine XS.isub X2.here hx rfl (hb hby d7_10) rfl ?_
    show Steps p.tables e below (T2.setTop (mkF m 11 #[.val (.ref a0s), .val (.ref a1s)] [(.int (nl - (4 : Int32))), (.ref a1s), (.ref a0s)])) _
    refine st3.trans ?_
    show Steps p.tables e below (T3.setTop (mkF m 14 #[.val (.ref a0s), .val (.ref a1s)] [(.int 0)])) _
    exact retN X3 hx (t := .boolean) Bd.returns (by simp) (hb hby d7_14) hr
  · show Q_rmEw_jarF n0 Z cS a0s a1s a0b k0 nl vs a2b k2 d0 d1 d2 d3 h0 _ T3.heap _
    rw [e3]
    exact ⟨rfl, N3, rfl⟩
theorem d6_0 : decode prog_1_method_4_code 0 = .ok (.aload_n 0, 1) := by decide +kernel
theorem d6_1 : decode prog_1_method_4_code 1 = .ok (.ldc 28, 2) := by decide +kernel
theorem d6_3 : decode prog_1_method_4_code 3 = .ok (.invokevirtual 30, 3) := by decide +kernel
theorem pdv9 : parseMethodDescriptor "(Ljava/lang/String;)Z" = some ⟨[(.object "java/lang/String")], some .boolean⟩ := by decide +kernel
theorem d6_6 : decode prog_1_method_4_code 6 = .ok (.ifCond .ne 12, 3) := by decide +kernel
theorem d6_9 : decode prog_1_method_4_code 9 = .ok (.aload_n 0, 1) := by decide +kernel
theorem d6_10 : decode prog_1_method_4_code 10 = .ok (.ldc 39, 2) := by decide +kernel
theorem d6_12 : decode prog_1_method_4_code 12 = .ok (.invokevirtual 30, 3) := by decide +kernel
theorem d6_15 : decode prog_1_method_4_code 15 = .ok (.ifCond .eq 7, 3) := by decide +kernel
theorem d6_22 : decode prog_1_method_4_code 22 = .ok (.iconst 0, 1) := by decide +kernel
theorem d6_23 : decode prog_1_method_4_code 23 = .ok (.ireturn, 1) := by decide +kernel
theorem pnv4 : plainName "com/example/loomwire/loomwire/bundle/BundleContent" = true := by first | (simp [plainName, overriddenIn]; done) | decide +kernel
abbrev MN_12 : MethodName := ⟨"com/example/loomwire/loomwire/bundle/BundleContent", "isBundleFile", "(Ljava/lang/String;)Z"⟩
def Q_rmIbnegneg (n0 : Nat) (Z : State) (cS : Int32) (a0s : Addr) (a0b : Addr) (k0 : ClassId) (nl : Int32) (vs : List Value) (h0 : Heap) (v : Option Value) (h : Heap) (L : List Loc) : Prop := v = some (.int 0) ∧ Fr n0 L ∧ Keep h0 h []
set_option maxRecDepth 65536 in
set_option maxHeartbeats 40000000 in
theorem rmIbnegneg (l : Launch) (Z : State) (a0 : Array Value) (hw : ∀ d ∈ tables_1, d.before a0 Z = true) (ws : List Jvm.Cond) (cS : Int32) (a0s : Addr) (a0b : Addr) (k0 : ClassId) (nl : Int32) (vs : List Value) (h0 : Heap) (n0 : Nat) (O0 : Old Z n0 h0) (GL : GF Z cS) (E_a0s : Exa Z h0 a0s "java/lang/String") (F_value_a0s : Fld Z h0 a0s "java/lang/String" "value" "[B" (.ref a0b)) (F_coder_a0s : Fld Z h0 a0s "java/lang/String" "coder" "B" (.int 0)) (V_a0b : Arv Z h0 a0b k0 .byte nl vs (.int 0)) (hnA : (nl - (3 : Int32)) < (0 : Int32)) (hnB : (nl - (4 : Int32)) < (0 : Int32)) :
    MetFree l MN_12 (head1 (Jvm.Cond.code MN_12 prog_1_method_4_code 1 (some .boolean) :: ws) ({ frames := 3, cells := 4, slots := 36, locals := 41 } : Room)) (fun a U => a = #[(.ref a0s)] ∧ Z.Warmed39 U.vm ∧ U.heap = h0 ∧ CHv Z EL1 U.vm h0) (fun _ _ _ _ _ => True) (fun _ U o U' => ∃ v L, o = .returned v ∧ Q_rmIbnegneg n0 Z cS a0s a0b k0 nl vs h0 v U'.heap L ∧ CHr Z EL1 U.vm U.heap U'.vm U'.heap ∧ ReturnedEndW U o U' L ({ frames := 3, cells := 4, slots := 36, locals := 41 } : Room).cells ({ frames := 3, cells := 4, slots := 36, locals := 41 } : Room).slots) := by
  refine MetFree.of_bodySF (plainFor_of_name pnv4) hisR ?_
  intro p e s m args below meth c s₁ Bd hml0 hP hK
  obtain ⟨rfl, hZ, hh, H0⟩ := hP
  have hx := Bd.exec
  have hby := Bd.bytes
  have hml : c.maxLocals = 1 := hml0
  have hown : s.vm.findClass "com/example/loomwire/loomwire/bundle/BundleContent" = some m.cls := findClass_of_methodNamed Bd.named
  have hnm := (name_of_methodNamed Bd.named Bd.method).1
  have X0 : Stand p l e ({ frames := 3, cells := 4, slots := 36, locals := 41 } : Room) s m #[(.ref a0s)] below meth c s₁ [] 0 0 := Stand.of_body Bd
  have e0 : s₁.heap = h0 := by rw [← hh, Bd.state]; rfl
  have N0 := Fr.nil n0
  have pre0 : ∀ t, Steps p.tables e below (s₁.setTop (mkF m 0 #[.val (.ref a0s)] [])) t → Steps p.tables e below (s₁.setTop (entryFrame m #[(.ref a0s)] 1)) t := fun t k => castTop (ef_rmCod m a0s) k
  have X0w : Stand p l e ({ frames := 3, cells := 4, slots := 36, locals := 41 } : Room) (s.setVm s.vm) m #[(.ref a0s)] below meth c s₁ [] 0 0 := X0
  have R0 : CHr Z EL1 s.vm h0 s.vm h0 := CHr.refl H0
  have hS0 : s.Since s.vm h0.size := (State.WarmedH.refl s).since _
  have GL' := GL
  obtain ⟨GCS, GCP⟩ := GL'
  obtain ⟨a1, T1, h1, k11, b1, kc1, X1, e1, E1, hS1, hk1, hZ1, hown1, A1, Fc1, Fv1, V1, la1, lb1, Rs1, Li1, nel1, st1⟩ := ldcCH X0w hx hZ hown (Wd hw 34 rfl) (own_wS hw) e0 hS0 (Nat.le_refl _) (own_EW hw) (List.mem_of_getElem? (i := 0) rfl) H0 (vs := [(.int 46), (.int 109), (.int 102)]) (z := (3 : Int32)) ⟨by decide, by decide⟩ (by decide) rfl (g := (mkF m 1 #[.val (.ref a0s)] [(.ref a0s)])) rfl (hb hby d6_1) (n := 12) (by decide) (by decide) (by decide) (by decide)
  have H_2 := Rs1.1
  have R_2 := R0.trans Rs1
  have K1 : Keep h0 h1 [] := (Keep.refl h0 []).ext E1
  have O1 := O0.ext E1
  obtain ⟨cq3, kq3, q3a, q3b, q3c⟩ := isOf hZ1 e1 (E_a0s.ext E1)
  obtain ⟨_, _, ⟨T3, L3, k3, n3⟩, -, X3, ⟨Lc3, hQ3, l3, y3, z3⟩, st3⟩ := X1.virtualBack hx (y := MN_11) (z := MN_11) hown1 (mvT hZ1 (Wd hw 35 rfl)) (mvT hZ1 (Wd hw 36 rfl)) (notFace_of_selects (args := #[]) (mvT hZ1 (Wd hw 38 rfl))) (mvT hZ1 (Wd hw 38 rfl)) (mvT hZ1 (Wd hw 37 rfl)) (by decide) (backOf (W := 0) (rmEw_mfneg l Z a0 hw [] cS (a0s) (a1) (a0b) (k0) (nl) (vs) (b1) (kc1) (h1) n0 O1 GL (E_a0s.ext E1) (F_value_a0s.ext E1) (F_coder_a0s.ext E1) (V_a0b.ext E1) A1 Fv1 Fc1 V1 hnA) hZ1 (Wd hw 39 rfl) (Wd hw 11 rfl) (by decide) (by decide)) q3a q3c (g := (mkF m 3 #[.val (.ref a0s)] [(.ref a1), (.ref a0s)])) rfl (by rw [hml]; rfl) (Steps.refl _) (argsL := [(.ref a1)]) (rest := []) (lenOf pdv9 rfl) rfl (by show 2 * 0 + _ ≤ _; exact Nat.le_of_eq rfl) (hb hby d6_3) (fun _ _ => ⟨rfl, e1, (by decide : 2 + 0 ≤ _), (by decide : 16 + 0 ≤ _)⟩)
  dsimp only [Pt.U, Pt.locs, Pt.cells, Pt.slots] at X3 l3 y3 z3 st3 hQ3
  subst l3 y3 z3
  obtain ⟨rfl, N3q, e3⟩ := hQ3
  have N3 := Fr.app N0 N3q
  obtain ⟨a4, T4, h4, k14, b4, kc4, X4, e4, E4, hS4, hk4, hZ4, hown4, A4, Fc4, Fv4, V4, la4, lb4, Rs4, Li4, nel4, st4⟩ := ldcCH X3 hx hZ1 hown1 (Wd hw 56 rfl) (own_wS hw) e3 hS1 hk1 (own_EW hw) (List.mem_of_getElem? (i := 1) rfl) H_2 (vs := [(.int 46), (.int 106), (.int 97), (.int 114)]) (z := (4 : Int32)) ⟨by decide, by decide⟩ (by decide) rfl (g := (mkF m 10 #[.val (.ref a0s)] [(.ref a0s)])) rfl (hb hby d6_10) (n := 16) (by decide) (by decide) (by decide) (by decide)
  have H_5 := Rs4.1
  have R_5 := R_2.trans Rs4
  have K4 : Keep h0 h4 [] := K1.ext E4
  have O4 := O1.ext E4
  obtain ⟨cq6, kq6, q6a, q6b, q6c⟩ := isOf hZ4 e4 ((E_a0s.ext E1).ext E4)
  obtain ⟨_, _, ⟨T6, L6, k6, n6⟩, -, X6, ⟨Lc6, hQ6, l6, y6, z6⟩, st6⟩ := X4.virtualBack hx (y := MN_11) (z := MN_11) hown4 (mvT hZ4 (Wd hw 35 rfl)) (mvT hZ4 (Wd hw 36 rfl)) (notFace_of_selects (args := #[]) (mvT hZ4 (Wd hw 38 rfl))) (mvT hZ4 (Wd hw 38 rfl)) (mvT hZ4 (Wd hw 37 rfl)) (by decide) (backOf (W := 0) (rmEw_jarneg l Z a0 hw [] cS (a0s) (a4) (a0b) (k0) (nl) (vs) (b4) (kc4) (h4) n0 O4 GL ((E_a0s.ext E1).ext E4) ((F_value_a0s.ext E1).ext E4) ((F_coder_a0s.ext E1).ext E4) ((V_a0b.ext E1).ext E4) A4 Fv4 Fc4 V4 hnB) hZ4 (Wd hw 39 rfl) (Wd hw 11 rfl) (by decide) (by decide)) q6a q6c (g := (mkF m 12 #[.val (.ref a0s)] [(.ref a4), (.ref a0s)])) rfl (by rw [hml]; rfl) (Steps.refl _) (argsL := [(.ref a4)]) (rest := []) (lenOf pdv9 rfl) rfl (by show 2 * 0 + _ ≤ _; exact Nat.le_of_eq rfl) (hb hby d6_12) (fun _ _ => ⟨rfl, e4, (by decide : 4 + 0 ≤ _), (by decide : 36 + 0 ≤ _)⟩)
  dsimp only [Pt.U, Pt.locs, Pt.cells, Pt.slots] at X6 l6 y6 z6 st6 hQ6
  subst l6 y6 z6
  obtain ⟨rfl, N6q, e6⟩ := hQ6
  have N6 := Fr.app N3 N6q
  obtain ⟨fs, hr, hrun, hended, hRW⟩ := X6.leaveW hS4 (by rw [e6]; exact hk4) (v := some (.int 0)) (fun h => by rw [Bd.returns] at h; cases h)
  have hCR : CHr Z EL1 s.vm s.heap T6.vm T6.heap := by
    rw [hh, e6]
    exact R_5.trans (CHv.at X6 hZ4 (own_EW hw) H_5)
  refine ⟨_, _, pre0 _ ?_, hrun, hended, _, _, rfl, ?_, hCR, hRW.1, hRW.2.1, hRW.2.2.1, hRW.2.2.2.mono (by decide) (by decide)⟩
  · show Steps p.tables e below (s₁.setTop (mkF m 0 #[.val (.ref a0s)] [])) _
    refine XS.aloadN X0w.here hx rfl (hb hby d6_0) rfl rfl ?_
    show Steps p.tables e below (s₁.setTop (mkF m 1 #[.val (.ref a0s)] [(.ref a0s)])) _
    refine st1 _ ?_
    show Steps p.tables e below (T1.setTop (mkF m 3 #[.val (.ref a0s)] [(.ref a1), (.ref a0s)])) _
    refine st3.trans ?_
    show Steps p.tables e below (T3.setTop (mkF m 6 #[.val (.ref a0s)] [(.int 0)])) _
    refine XS.ifNo X3.here hx rfl (hb hby d6_6) rfl ((if0 _ _).trans (teq (by decide : (0 : Int32) = (0 : Int32))).2) ?_
    refine XS.aloadN X3.here hx rfl (hb hby d6_9) rfl rfl ?_
    show Steps p.tables e below (T3.setTop (mkF m 10 #[.val (.ref a0s)] [(.ref a0s)])) _
    refine st4 _ ?_
    show Steps p.tables e below (T4.setTop (mkF m 12 #[.val (.ref a0s)] [(.ref a4), (.ref a0s)])) _
    refine st6.trans ?_
    show Steps p.tables e below (T6.setTop (mkF m 15 #[.val (.ref a0s)] [(.int 0)])) _
    refine XS.ifYes X6.here hx rfl (pc0 := 15) (pc' := 22) rfl (hb hby d6_15) rfl ((if0 _ _).trans (teq (by decide : (0 : Int32) = (0 : Int32))).1) (by decide) (by decide) ?_
    refine XS.iconst X6.here hx rfl (hb hby d6_22) ?_
    show Steps p.tables e below (T6.setTop (mkF m 23 #[.val (.ref a0s)] [(.int 0)])) _
    exact retN X6 hx (t := .boolean) Bd.returns (by simp) (hb hby d6_23) hr
  · show Q_rmIbnegneg n0 Z cS a0s a0b k0 nl vs h0 _ T6.heap _
    rw [e6]
    exact ⟨rfl, N6, K4⟩
theorem d6_18 : decode prog_1_method_4_code 18 = .ok (.iconst 1, 1) := by decide +kernel
theorem d6_19 : decode prog_1_method_4_code 19 = .ok (.goto 4, 3) := by decide +kernel
def Q_rmIbTx (n0 : Nat) (Z : State) (cS : Int32) (a0s : Addr) (a0b : Addr) (k0 : ClassId) (nl : Int32) (vs : List Value) (d0 : Int32) (d1 : Int32) (d2 : Int32) (h0 : Heap) (v : Option Value) (h : Heap) (L : List Loc) : Prop := v = some (.int 1) ∧ Fr n0 L ∧ Keep h0 h []
set_option maxRecDepth 65536 in
set_option maxHeartbeats 40000000 in
theorem rmIbTx (l : Launch) (Z : State) (a0 : Array Value) (hw : ∀ d ∈ tables_1, d.before a0 Z = true) (ws : List Jvm.Cond) (cS : Int32) (a0s : Addr) (a0b : Addr) (k0 : ClassId) (nl : Int32) (vs : List Value) (d0 : Int32) (d1 : Int32) (d2 : Int32) (h0 : Heap) (n0 : Nat) (O0 : Old Z n0 h0) (GL : GF Z cS) (E_a0s : Exa Z h0 a0s "java/lang/String") (F_value_a0s : Fld Z h0 a0s "java/lang/String" "value" "[B" (.ref a0b)) (F_coder_a0s : Fld Z h0 a0s "java/lang/String" "coder" "B" (.int 0)) (V_a0b : Arv Z h0 a0b k0 .byte nl vs (.int 0)) (hnA : ¬ ((nl - (3 : Int32)) < (0 : Int32))) (gA0 : vs.getD ((nl - (3 : Int32)) + (0 : Int32)).toNatClampNeg (.int 0) = .int (d0.toInt8.toInt32)) (xA0 : ¬ (((nl - (3 : Int32)) + (0 : Int32)) < (0 : Int32))) (yA0 : ((nl - (3 : Int32)) + (0 : Int32)) < nl) (gA1 : vs.getD ((nl - (3 : Int32)) + (1 : Int32)).toNatClampNeg (.int 0) = .int (d1.toInt8.toInt32)) (xA1 : ¬ (((nl - (3 : Int32)) + (1 : Int32)) < (0 : Int32))) (yA1 : ((nl - (3 : Int32)) + (1 : Int32)) < nl) (gA2 : vs.getD ((nl - (3 : Int32)) + (2 : Int32)).toNatClampNeg (.int 0) = .int (d2.toInt8.toInt32)) (xA2 : ¬ (((nl - (3 : Int32)) + (2 : Int32)) < (0 : Int32))) (yA2 : ((nl - (3 : Int32)) + (2 : Int32)) < nl) (hA : d0 = (46 : Int32) ∧ d1 = (109 : Int32) ∧ d2 = (102 : Int32)) :
    MetFree l MN_12 (head1 (Jvm.Cond.code MN_12 prog_1_method_4_code 1 (some .boolean) :: ws) ({ frames := 4, cells := 2, slots := 16, locals := 59 } : Room)) (fun a U => a = #[(.ref a0s)] ∧ Z.Warmed39 U.vm ∧ U.heap = h0 ∧ CHv Z EL1 U.vm h0) (fun _ _ _ _ _ => True) (fun _ U o U' => ∃ v L, o = .returned v ∧ Q_rmIbTx n0 Z cS a0s a0b k0 nl vs d0 d1 d2 h0 v U'.heap L ∧ CHr Z EL1 U.vm U.heap U'.vm U'.heap ∧ ReturnedEndW U o U' L ({ frames := 4, cells := 2, slots := 16, locals := 59 } : Room).cells ({ frames := 4, cells := 2, slots := 16, locals := 59 } : Room).slots) := by
  refine MetFree.of_bodySF (plainFor_of_name pnv4) hisR ?_
  intro p e s m args below meth c s₁ Bd hml0 hP hK
  obtain ⟨rfl, hZ, hh, H0⟩ := hP
  have hx := Bd.exec
  have hby := Bd.bytes
  have hml : c.maxLocals = 1 := hml0
  have hown : s.vm.findClass "com/example/loomwire/loomwire/bundle/BundleContent" = some m.cls := findClass_of_methodNamed Bd.named
  have hnm := (name_of_methodNamed Bd.named Bd.method).1
  have X0 : Stand p l e ({ frames := 4, cells := 2, slots := 16, locals := 59 } : Room) s m #[(.ref a0s)] below meth c s₁ [] 0 0 := Stand.of_body Bd
  have e0 : s₁.heap = h0 := by rw [← hh, Bd.state]; rfl
  have N0 := Fr.nil n0
  have pre0 : ∀ t, Steps p.tables e below (s₁.setTop (mkF m 0 #[.val (.ref a0s)] [])) t → Steps p.tables e below (s₁.setTop (entryFrame m #[(.ref a0s)] 1)) t := fun t k => castTop (ef_rmCod m a0s) k
  have X0w : Stand p l e ({ frames := 4, cells := 2, slots := 16, locals := 59 } : Room) (s.setVm s.vm) m #[(.ref a0s)] below meth c s₁ [] 0 0 := X0
  have R0 : CHr Z EL1 s.vm h0 s.vm h0 := CHr.refl H0
  have hS0 : s.Since s.vm h0.size := (State.WarmedH.refl s).since _
  have GL' := GL
  obtain ⟨GCS, GCP⟩ := GL'
  obtain ⟨a1, T1, h1, k11, b1, kc1, X1, e1, E1, hS1, hk1, hZ1, hown1, A1, Fc1, Fv1, V1, la1, lb1, Rs1, Li1, nel1, st1⟩ := ldcCH X0w hx hZ hown (Wd hw 34 rfl) (own_wS hw) e0 hS0 (Nat.le_refl _) (own_EW hw) (List.mem_of_getElem? (i := 0) rfl) H0 (vs := [(.int 46), (.int 109), (.int 102)]) (z := (3 : Int32)) ⟨by decide, by decide⟩ (by decide) rfl (g := (mkF m 1 #[.val (.ref a0s)] [(.ref a0s)])) rfl (hb hby d6_1) (n := 12) (by decide) (by decide) (by decide) (by decide)
  have H_2 := Rs1.1
  have R_2 := R0.trans Rs1
  have K1 : Keep h0 h1 [] := (Keep.refl h0 []).ext E1
  have O1 := O0.ext E1
  obtain ⟨cq3, kq3, q3a, q3b, q3c⟩ := isOf hZ1 e1 (E_a0s.ext E1)
  obtain ⟨_, _, ⟨T3, L3, k3, n3⟩, -, X3, ⟨Lc3, hQ3, l3, y3, z3⟩, st3⟩ := X1.virtualBack hx (y := MN_11) (z := MN_11) hown1 (mvT hZ1 (Wd hw 35 rfl)) (mvT hZ1 (Wd hw 36 rfl)) (notFace_of_selects (args := #[]) (mvT hZ1 (Wd hw 38 rfl))) (mvT hZ1 (Wd hw 38 rfl)) (mvT hZ1 (Wd hw 37 rfl)) (by decide) (backOf (W := 0) (rmEw_mfT l Z a0 hw [] cS (a0s) (a1) (a0b) (k0) (nl) (vs) (b1) (kc1) (d0) (d1) (d2) (h1) n0 O1 GL (E_a0s.ext E1) (F_value_a0s.ext E1) (F_coder_a0s.ext E1) (V_a0b.ext E1) A1 Fv1 Fc1 V1 hnA gA0 xA0 yA0 gA1 xA1 yA1 gA2 xA2 yA2 hA) hZ1 (Wd hw 39 rfl) (Wd hw 11 rfl) (by decide) (by decide)) q3a q3c (g := (mkF m 3 #[.val (.ref a0s)] [(.ref a1), (.ref a0s)])) rfl (by rw [hml]; rfl) (Steps.refl _) (argsL := [(.ref a1)]) (rest := []) (lenOf pdv9 rfl) rfl (by show 2 * 0 + _ ≤ _; exact Nat.le_of_eq rfl) (hb hby d6_3) (fun _ _ => ⟨rfl, e1, (by decide : 2 + 0 ≤ _), (by decide : 16 + 0 ≤ _)⟩)
  dsimp only [Pt.U, Pt.locs, Pt.cells, Pt.slots] at X3 l3 y3 z3 st3 hQ3
  subst l3 y3 z3
  obtain ⟨rfl, N3q, e3⟩ := hQ3
  have N3 := Fr.app N0 N3q
  obtain ⟨fs, hr, hrun, hended, hRW⟩ := X3.leaveW hS1 (by rw [e3]; exact hk1) (v := some (.int 1)) (fun h => by rw [Bd.returns] at h; cases h)
  have hCR : CHr Z EL1 s.vm s.heap T3.vm T3.heap := by
    rw [hh, e3]
    exact R_2.trans (CHv.at X3 hZ1 (own_EW hw) H_2)
  refine ⟨_, _, pre0 _ ?_, hrun, hended, _, _, rfl, ?_, hCR, hRW.1, hRW.2.1, hRW.2.2.1, hRW.2.2.2.mono (by decide) (by decide)⟩
  · show Steps p.tables e below (s₁.setTop (mkF m 0 #[.val (.ref a0s)] [])) _
    refine XS.aloadN X0w.here hx rfl (hb hby d6_0) rfl rfl ?_
    show Steps p.tables e below (s₁.setTop (mkF m 1 #[.val (.ref a0s)] [(.ref a0s)])) _
    refine st1 _ ?_
    show Steps p.tables e below (T1.setTop (mkF m 3 #[.val (.ref a0s)] [(.ref a1), (.ref a0s)])) _
    refine st3.trans ?_
    show Steps p.tables e below (T3.setTop (mkF m 6 #[.val (.ref a0s)] [(.int 1)])) _
    refine XS.ifYes X3.here hx rfl (pc0 := 6) (pc' := 18) rfl (hb hby d6_6) rfl ((if0 _ _).trans (feq (by decide : ¬ ((1 : Int32) = (0 : Int32)))).2) (by decide) (by decide) ?_
    refine XS.iconst X3.here hx rfl (hb hby d6_18) ?_
    refine XS.goto X3.here hx rfl (pc0 := 19) (pc' := 23) rfl (hb hby d6_19) (by decide) (by decide) ?_
    show Steps p.tables e below (T3.setTop (mkF m 23 #[.val (.ref a0s)] [(.int 1)])) _
    exact retN X3 hx (t := .boolean) Bd.returns (by simp) (hb hby d6_23) hr
  · show Q_rmIbTx n0 Z cS a0s a0b k0 nl vs d0 d1 d2 h0 _ T3.heap _
    rw [e3]
    exact ⟨rfl, N3, K1⟩
def Q_rmIbFneg (n0 : Nat) (Z : State) (cS : Int32) (a0s : Addr) (a0b : Addr) (k0 : ClassId) (nl : Int32) (vs : List Value) (d0 : Int32) (d1 : Int32) (d2 : Int32) (h0 : Heap) (v : Option Value) (h : Heap) (L : List Loc) : Prop := v = some (.int 0) ∧ Fr n0 L ∧ Keep h0 h []
set_option maxRecDepth 65536 in
set_option maxHeartbeats 40000000 in
theorem rmIbFneg (l : Launch) (Z : State) (a0 : Array Value) (hw : ∀ d ∈ tables_1, d.before a0 Z = true) (ws : List Jvm.Cond) (cS : Int32) (a0s : Addr) (a0b : Addr) (k0 : ClassId) (nl : Int32) (vs : List Value) (d0 : Int32) (d1 : Int32) (d2 : Int32) (h0 : Heap) (n0 : Nat) (O0 : Old Z n0 h0) (GL : GF Z cS) (E_a0s : Exa Z h0 a0s "java/lang/String") (F_value_a0s : Fld Z h0 a0s "java/lang/String" "value" "[B" (.ref a0b)) (F_coder_a0s : Fld Z h0 a0s "java/lang/String" "coder" "B" (.int 0)) (V_a0b : Arv Z h0 a0b k0 .byte nl vs (.int 0)) (hnA : ¬ ((nl - (3 : Int32)) < (0 : Int32))) (gA0 : vs.getD ((nl - (3 : Int32)) + (0 : Int32)).toNatClampNeg (.int 0) = .int (d0.toInt8.toInt32)) (xA0 : ¬ (((nl - (3 : Int32)) + (0 : Int32)) < (0 : Int32))) (yA0 : ((nl - (3 : Int32)) + (0 : Int32)) < nl) (lA0 : ¬ ((255 : Int32) < d0)) (nA0 : ¬ (d0 < (0 : Int32))) (gA1 : vs.getD ((nl - (3 : Int32)) + (1 : Int32)).toNatClampNeg (.int 0) = .int (d1.toInt8.toInt32)) (xA1 : ¬ (((nl - (3 : Int32)) + (1 : Int32)) < (0 : Int32))) (yA1 : ((nl - (3 : Int32)) + (1 : Int32)) < nl) (lA1 : ¬ ((255 : Int32) < d1)) (nA1 : ¬ (d1 < (0 : Int32))) (gA2 : vs.getD ((nl - (3 : Int32)) + (2 : Int32)).toNatClampNeg (.int 0) = .int (d2.toInt8.toInt32)) (xA2 : ¬ (((nl - (3 : Int32)) + (2 : Int32)) < (0 : Int32))) (yA2 : ((nl - (3 : Int32)) + (2 : Int32)) < nl) (lA2 : ¬ ((255 : Int32) < d2)) (nA2 : ¬ (d2 < (0 : Int32))) (hA : ¬ (d0 = (46 : Int32) ∧ d1 = (109 : Int32) ∧ d2 = (102 : Int32))) (hnB : (nl - (4 : Int32)) < (0 : Int32)) :
    MetFree l MN_12 (head1 (Jvm.Cond.code MN_12 prog_1_method_4_code 1 (some .boolean) :: ws) ({ frames := 4, cells := 4, slots := 36, locals := 59 } : Room)) (fun a U => a = #[(.ref a0s)] ∧ Z.Warmed39 U.vm ∧ U.heap = h0 ∧ CHv Z EL1 U.vm h0) (fun _ _ _ _ _ => True) (fun _ U o U' => ∃ v L, o = .returned v ∧ Q_rmIbFneg n0 Z cS a0s a0b k0 nl vs d0 d1 d2 h0 v U'.heap L ∧ CHr Z EL1 U.vm U.heap U'.vm U'.heap ∧ ReturnedEndW U o U' L ({ frames := 4, cells := 4, slots := 36, locals := 59 } : Room).cells ({ frames := 4, cells := 4, slots := 36, locals := 59 } : Room).slots) := by
  refine MetFree.of_bodySF (plainFor_of_name pnv4) hisR ?_
  intro p e s m args below meth c s₁ Bd hml0 hP hK
  obtain ⟨rfl, hZ, hh, H0⟩ := hP
  have hx := Bd.exec
  have hby := Bd.bytes
  have hml : c.maxLocals = 1 := hml0
  have hown : s.vm.findClass "com/example/loomwire/loomwire/bundle/BundleContent" = some m.cls := findClass_of_methodNamed Bd.named
  have hnm := (name_of_methodNamed Bd.named Bd.method).1
  have X0 : Stand p l e ({ frames := 4, cells := 4, slots := 36, locals := 59 } : Room) s m #[(.ref a0s)] below meth c s₁ [] 0 0 := Stand.of_body Bd
  have e0 : s₁.heap = h0 := by rw [← hh, Bd.state]; rfl
  have N0 := Fr.nil n0
  have pre0 : ∀ t, Steps p.tables e below (s₁.setTop (mkF m 0 #[.val (.ref a0s)] [])) t → Steps p.tables e below (s₁.setTop (entryFrame m #[(.ref a0s)] 1)) t := fun t k => castTop (ef_rmCod m a0s) k
  have X0w : Stand p l e ({ frames := 4, cells := 4, slots := 36, locals := 59 } : Room) (s.setVm s.vm) m #[(.ref a0s)] below meth c s₁ [] 0 0 := X0
  have R0 : CHr Z EL1 s.vm h0 s.vm h0 := CHr.refl H0
  have hS0 : s.Since s.vm h0.size := (State.WarmedH.refl s).since _
  have GL' := GL
  obtain ⟨GCS, GCP⟩ := GL'
  obtain ⟨a1, T1, h1, k11, b1, kc1, X1, e1, E1, hS1, hk1, hZ1, hown1, A1, Fc1, Fv1, V1, la1, lb1, Rs1, Li1, nel1, st1⟩ := ldcCH X0w hx hZ hown (Wd hw 34 rfl) (own_wS hw) e0 hS0 (Nat.le_refl _) (own_EW hw) (List.mem_of_getElem? (i := 0) rfl) H0 (vs := [(.int 46), (.int 109), (.int 102)]) (z := (3 : Int32)) ⟨by decide, by decide⟩ (by decide) rfl (g := (mkF m 1 #[.val (.ref a0s)] [(.ref a0s)])) rfl (hb hby d6_1) (n := 12) (by decide) (by decide) (by decide) (by decide)
  have H_2 := Rs1.1
  have R_2 := R0.trans Rs1
  have K1 : Keep h0 h1 [] := (Keep.refl h0 []).ext E1
  have O1 := O0.ext E1
  obtain ⟨cq3, kq3, q3a, q3b, q3c⟩ := isOf hZ1 e1 (E_a0s.ext E1)
  obtain ⟨_, _, ⟨T3, L3, k3, n3⟩, -, X3, ⟨Lc3, hQ3, l3, y3, z3⟩, st3⟩ := X1.virtualBack hx (y := MN_11) (z := MN_11) hown1 (mvT hZ1 (Wd hw 35 rfl)) (mvT hZ1 (Wd hw 36 rfl)) (notFace_of_selects (args := #[]) (mvT hZ1 (Wd hw 38 rfl))) (mvT hZ1 (Wd hw 38 rfl)) (mvT hZ1 (Wd hw 37 rfl)) (by decide) (backOf (W := 0) (rmEw_mfF l Z a0 hw [] cS (a0s) (a1) (a0b) (k0) (nl) (vs) (b1) (kc1) (d0) (d1) (d2) (h1) n0 O1 GL (E_a0s.ext E1) (F_value_a0s.ext E1) (F_coder_a0s.ext E1) (V_a0b.ext E1) A1 Fv1 Fc1 V1 hnA gA0 xA0 yA0 lA0 nA0 gA1 xA1 yA1 lA1 nA1 gA2 xA2 yA2 lA2 nA2 hA) hZ1 (Wd hw 39 rfl) (Wd hw 11 rfl) (by decide) (by decide)) q3a q3c (g := (mkF m 3 #[.val (.ref a0s)] [(.ref a1), (.ref a0s)])) rfl (by rw [hml]; rfl) (Steps.refl _) (argsL := [(.ref a1)]) (rest := []) (lenOf pdv9 rfl) rfl (by show 2 * 0 + _ ≤ _; exact Nat.le_of_eq rfl) (hb hby d6_3) (fun _ _ => ⟨rfl, e1, (by decide : 2 + 0 ≤ _), (by decide : 16 + 0 ≤ _)⟩)
  dsimp only [Pt.U, Pt.locs, Pt.cells, Pt.slots] at X3 l3 y3 z3 st3 hQ3
  subst l3 y3 z3
  obtain ⟨rfl, N3q, e3⟩ := hQ3
  have N3 := Fr.app N0 N3q
  obtain ⟨a4, T4, h4, k14, b4, kc4, X4, e4, E4, hS4, hk4, hZ4, hown4, A4, Fc4, Fv4, V4, la4, lb4, Rs4, Li4, nel4, st4⟩ := ldcCH X3 hx hZ1 hown1 (Wd hw 56 rfl) (own_wS hw) e3 hS1 hk1 (own_EW hw) (List.mem_of_getElem? (i := 1) rfl) H_2 (vs := [(.int 46), (.int 106), (.int 97), (.int 114)]) (z := (4 : Int32)) ⟨by decide, by decide⟩ (by decide) rfl (g := (mkF m 10 #[.val (.ref a0s)] [(.ref a0s)])) rfl (hb hby d6_10) (n := 16) (by decide) (by decide) (by decide) (by decide)
  have H_5 := Rs4.1
  have R_5 := R_2.trans Rs4
  have K4 : Keep h0 h4 [] := K1.ext E4
  have O4 := O1.ext E4
  obtain ⟨cq6, kq6, q6a, q6b, q6c⟩ := isOf hZ4 e4 ((E_a0s.ext E1).ext E4)
  obtain ⟨_, _, ⟨T6, L6, k6, n6⟩, -, X6, ⟨Lc6, hQ6, l6, y6, z6⟩, st6⟩ := X4.virtualBack hx (y := MN_11) (z := MN_11) hown4 (mvT hZ4 (Wd hw 35 rfl)) (mvT hZ4 (Wd hw 36 rfl)) (notFace_of_selects (args := #[]) (mvT hZ4 (Wd hw 38 rfl))) (mvT hZ4 (Wd hw 38 rfl)) (mvT hZ4 (Wd hw 37 rfl)) (by decide) (backOf (W := 0) (rmEw_jarneg l Z a0 hw [] cS (a0s) (a4) (a0b) (k0) (nl) (vs) (b4) (kc4) (h4) n0 O4 GL ((E_a0s.ext E1).ext E4) ((F_value_a0s.ext E1).ext E4) ((F_coder_a0s.ext E1).ext E4) ((V_a0b.ext E1).ext E4) A4 Fv4 Fc4 V4 hnB) hZ4 (Wd hw 39 rfl) (Wd hw 11 rfl) (by decide) (by decide)) q6a q6c (g := (mkF m 12 #[.val (.ref a0s)] [(.ref a4), (.ref a0s)])) rfl (by rw [hml]; rfl) (Steps.refl _) (argsL := [(.ref a4)]) (rest := []) (lenOf pdv9 rfl) rfl (by show 2 * 0 + _ ≤ _; exact Nat.le_of_eq rfl) (hb hby d6_12) (fun _ _ => ⟨rfl, e4, (by decide : 4 + 0 ≤ _), (by decide : 36 + 0 ≤ _)⟩)
  dsimp only [Pt.U, Pt.locs, Pt.cells, Pt.slots] at X6 l6 y6 z6 st6 hQ6
  subst l6 y6 z6
  obtain ⟨rfl, N6q, e6⟩ := hQ6
  have N6 := Fr.app N3 N6q
  obtain ⟨fs, hr, hrun, hended, hRW⟩ := X6.leaveW hS4 (by rw [e6]; exact hk4) (v := some (.int 0)) (fun h => by rw [Bd.returns] at h; cases h)
  have hCR : CHr Z EL1 s.vm s.heap T6.vm T6.heap := by
    rw [hh, e6]
    exact R_5.trans (CHv.at X6 hZ4 (own_EW hw) H_5)
  refine ⟨_, _, pre0 _ ?_, hrun, hended, _, _, rfl, ?_, hCR, hRW.1, hRW.2.1, hRW.2.2.1, hRW.2.2.2.mono (by decide) (by decide)⟩
  · show Steps p.tables e below (s₁.setTop (mkF m 0 #[.val (.ref a0s)] [])) _
    refine XS.aloadN X0w.here hx rfl (hb hby d6_0) rfl rfl ?_
    show Steps p.tables e below (s₁.setTop (mkF m 1 #[.val (.ref a0s)] [(.ref a0s)])) _
    refine st1 _ ?_
    show Steps p.tables e below (T1.setTop (mkF m 3 #[.val (.ref a0s)] [(.ref a1), (.ref a0s)])) _
    refine st3.trans ?_
    show Steps p.tables e below (T3.setTop (mkF m 6 #[.val (.ref a0s)] [(.int 0)])) _
    refine XS.ifNo X3.here hx rfl (hb hby d6_6) rfl ((if0 _ _).trans (teq (by decide : (0 : Int32) = (0 : Int32))).2) ?_
    refine XS.aloadN X3.here hx rfl (hb hby d6_9) rfl rfl ?_
    show Steps p.tables e below (T3.setTop (mkF m 10 #[.val (.ref a0s)] [(.ref a0s)])) _
    refine st4 _ ?_
    show Steps p.tables e below (T4.setTop (mkF m 12 #[.val (.ref a0s)] [(.ref a4), (.ref a0s)])) _
    refine st6.trans ?_
    show Steps p.tables e below (T6.setTop (mkF m 15 #[.val (.ref a0s)] [(.int 0)])) _
    refine XS.ifYes X6.here hx rfl (pc0 := 15) (pc' := 22) rfl (hb hby d6_15) rfl ((if0 _ _).trans (teq (by decide : (0 : Int32) = (0 : Int32))).1) (by decide) (by decide) ?_
    refine XS.iconst X6.here hx rfl (hb hby d6_22) ?_
    show Steps p.tables e below (T6.setTop (mkF m 23 #[.val (.ref a0s)] [(.int 0)])) _
    exact retN X6 hx (t := .boolean) Bd.returns (by simp) (hb hby d6_23) hr
  · show Q_rmIbFneg n0 Z cS a0s a0b k0 nl vs d0 d1 d2 h0 _ T6.heap _
    rw [e6]
    exact ⟨rfl, N6, K4⟩
def Q_rmIbFT (n0 : Nat) (Z : State) (cS : Int32) (a0s : Addr) (a0b : Addr) (k0 : ClassId) (nl : Int32) (vs : List Value) (d0 : Int32) (d1 : Int32) (d2 : Int32) (f0 : Int32) (f1 : Int32) (f2 : Int32) (f3 : Int32) (h0 : Heap) (v : Option Value) (h : Heap) (L : List Loc) : Prop := v = some (.int 1) ∧ Fr n0 L ∧ Keep h0 h []
set_option maxRecDepth 65536 in
set_option maxHeartbeats 40000000 in
theorem rmIbFT (l : Launch) (Z : State) (a0 : Array Value) (hw : ∀ d ∈ tables_1, d.before a0 Z = true) (ws : List Jvm.Cond) (cS : Int32) (a0s : Addr) (a0b : Addr) (k0 : ClassId) (nl : Int32) (vs : List Value) (d0 : Int32) (d1 : Int32) (d2 : Int32) (f0 : Int32) (f1 : Int32) (f2 : Int32) (f3 : Int32) (h0 : Heap) (n0 : Nat) (O0 : Old Z n0 h0) (GL : GF Z cS) (E_a0s : Exa Z h0 a0s "java/lang/String") (F_value_a0s : Fld Z h0 a0s "java/lang/String" "value" "[B" (.ref a0b)) (F_coder_a0s : Fld Z h0 a0s "java/lang/String" "coder" "B" (.int 0)) (V_a0b : Arv Z h0 a0b k0 .byte nl vs (.int 0)) (hnA : ¬ ((nl - (3 : Int32)) < (0 : Int32))) (gA0 : vs.getD ((nl - (3 : Int32)) + (0 : Int32)).toNatClampNeg (.int 0) = .int (d0.toInt8.toInt32)) (xA0 : ¬ (((nl - (3 : Int32)) + (0 : Int32)) < (0 : Int32))) (yA0 : ((nl - (3 : Int32)) + (0 : Int32)) < nl) (lA0 : ¬ ((255 : Int32) < d0)) (nA0 : ¬ (d0 < (0 : Int32))) (gA1 : vs.getD ((nl - (3 : Int32)) + (1 : Int32)).toNatClampNeg (.int 0) = .int (d1.toInt8.toInt32)) (xA1 : ¬ (((nl - (3 : Int32)) + (1 : Int32)) < (0 : Int32))) (yA1 : ((nl - (3 : Int32)) + (1 : Int32)) < nl) (lA1 : ¬ ((255 : Int32) < d1)) (nA1 : ¬ (d1 < (0 : Int32))) (gA2 : vs.getD ((nl - (3 : Int32)) + (2 : Int32)).toNatClampNeg (.int 0) = .int (d2.toInt8.toInt32)) (xA2 : ¬ (((nl - (3 : Int32)) + (2 : Int32)) < (0 : Int32))) (yA2 : ((nl - (3 : Int32)) + (2 : Int32)) < nl) (lA2 : ¬ ((255 : Int32) < d2)) (nA2 : ¬ (d2 < (0 : Int32))) (hA : ¬ (d0 = (46 : Int32) ∧ d1 = (109 : Int32) ∧ d2 = (102 : Int32))) (hnB : ¬ ((nl - (4 : Int32)) < (0 : Int32))) (gB0 : vs.getD ((nl - (4 : Int32)) + (0 : Int32)).toNatClampNeg (.int 0) = .int (f0.toInt8.toInt32)) (xB0 : ¬ (((nl - (4 : Int32)) + (0 : Int32)) < (0 : Int32))) (yB0 : ((nl - (4 : Int32)) + (0 : Int32)) < nl) (gB1 : vs.getD ((nl - (4 : Int32)) + (1 : Int32)).toNatClampNeg (.int 0) = .int (f1.toInt8.toInt32)) (xB1 : ¬ (((nl - (4 : Int32)) + (1 : Int32)) < (0 : Int32))) (yB1 : ((nl - (4 : Int32)) + (1 : Int32)) < nl) (gB2 : vs.getD ((nl - (4 : Int32)) + (2 : Int32)).toNatClampNeg (.int 0) = .int (f2.toInt8.toInt32)) (xB2 : ¬ (((nl - (4 : Int32)) + (2 : Int32)) < (0 : Int32))) (yB2 : ((nl - (4 : Int32)) + (2 : Int32)) < nl) (gB3 : vs.getD ((nl - (4 : Int32)) + (3 : Int32)).toNatClampNeg (.int 0) = .int (f3.toInt8.toInt32)) (xB3 : ¬ (((nl - (4 : Int32)) + (3 : Int32)) < (0 : Int32))) (yB3 : ((nl - (4 : Int32)) + (3 : Int32)) < nl) (hB : f0 = (46 : Int32) ∧ f1 = (106 : Int32) ∧ f2 = (97 : Int32) ∧ f3 = (114 : Int32)) :
    MetFree l MN_12 (head1 (Jvm.Cond.code MN_12 prog_1_method_4_code 1 (some .boolean) :: ws) ({ frames := 4, cells := 4, slots := 36, locals := 59 } : Room)) (fun a U => a = #[(.ref a0s)] ∧ Z.Warmed39 U.vm ∧ U.heap = h0 ∧ CHv Z EL1 U.vm h0) (fun _ _ _ _ _ => True) (fun _ U o U' => ∃ v L, o = .returned v ∧ Q_rmIbFT n0 Z cS a0s a0b k0 nl vs d0 d1 d2 f0 f1 f2 f3 h0 v U'.heap L ∧ CHr Z EL1 U.vm U.heap U'.vm U'.heap ∧ ReturnedEndW U o U' L ({ frames := 4, cells := 4, slots := 36, locals := 59 } : Room).cells ({ frames := 4, cells := 4, slots := 36, locals := 59 } : Room).slots) := by
  refine MetFree.of_bodySF (plainFor_of_name pnv4) hisR ?_
  intro p e s m args below meth c s₁ Bd hml0 hP hK
  obtain ⟨rfl, hZ, hh, H0⟩ := hP
  have hx := Bd.exec
  have hby := Bd.bytes
  have hml : c.maxLocals = 1 := hml0
  have hown : s.vm.findClass "com/example/loomwire/loomwire/bundle/BundleContent" = some m.cls := findClass_of_methodNamed Bd.named
  have hnm := (name_of_methodNamed Bd.named Bd.method).1
  have X0 : Stand p l e ({ frames := 4, cells := 4, slots := 36, locals := 59 } : Room) s m #[(.ref a0s)] below meth c s₁ [] 0 0 := Stand.of_body Bd
  have e0 : s₁.heap = h0 := by rw [← hh, Bd.state]; rfl
  have N0 := Fr.nil n0
  have pre0 : ∀ t, Steps p.tables e below (s₁.setTop (mkF m 0 #[.val (.ref a0s)] [])) t → Steps p.tables e below (s₁.setTop (entryFrame m #[(.ref a0s)] 1)) t := fun t k => castTop (ef_rmCod m a0s) k
  have X0w : Stand p l e ({ frames := 4, cells := 4, slots := 36, locals := 59 } : Room) (s.setVm s.vm) m #[(.ref a0s)] below meth c s₁ [] 0 0 := X0
  have R0 : CHr Z EL1 s.vm h0 s.vm h0 := CHr.refl H0
  have hS0 : s.Since s.vm h0.size := (State.WarmedH.refl s).since _
  have GL' := GL
  obtain ⟨GCS, GCP⟩ := GL'
  obtain ⟨a1, T1, h1, k11, b1, kc1, X1, e1, E1, hS1, hk1, hZ1, hown1, A1, Fc1, Fv1, V1, la1, lb1, Rs1, Li1, nel1, st1⟩ := ldcCH X0w hx hZ hown (Wd hw 34 rfl) (own_wS hw) e0 hS0 (Nat.le_refl _) (own_EW hw) (List.mem_of_getElem? (i := 0) rfl) H0 (vs := [(.int 46), (.int 109), (.int 102)]) (z := (3 : Int32)) ⟨by decide, by decide⟩ (by decide) rfl (g := (mkF m 1 #[.val (.ref a0s)] [(.ref a0s)])) rfl (hb hby d6_1) (n := 12) (by decide) (by decide) (by decide) (by decide)
  have H_2 := Rs1.1
  have R_2 := R0.trans Rs1
  have K1 : Keep h0 h1 [] := (Keep.refl h0 []).ext E1
  have O1 := O0.ext E1
  obtain ⟨cq3, kq3, q3a, q3b, q3c⟩ := isOf hZ1 e1 (E_a0s.ext E1)
  obtain ⟨_, _, ⟨T3, L3, k3, n3⟩, -, X3, ⟨Lc3, hQ3, l3, y3, z3⟩, st3⟩ := X1.virtualBack hx (y := MN_11) (z := MN_11) hown1 (mvT hZ1 (Wd hw 35 rfl)) (mvT hZ1 (Wd hw 36 rfl)) (notFace_of_selects (args := #[]) (mvT hZ1 (Wd hw 38 rfl))) (mvT hZ1 (Wd hw 38 rfl)) (mvT hZ1 (Wd hw 37 rfl)) (by decide) (backOf (W := 0) (rmEw_mfF l Z a0 hw [] cS (a0s) (a1) (a0b) (k0) (nl) (vs) (b1) (kc1) (d0) (d1) (d2) (h1) n0 O1 GL (E_a0s.ext E1) (F_value_a0s.ext E1) (F_coder_a0s.ext E1) (V_a0b.ext E1) A1 Fv1 Fc1 V1 hnA gA0 xA0 yA0 lA0 nA0 gA1 xA1 yA1 lA1 nA1 gA2 xA2 yA2 lA2 nA2 hA) hZ1 (Wd hw 39 rfl) (Wd hw 11 rfl) (by decide) (by decide)) q3a q3c (g := (mkF m 3 #[.val (.ref a0s)] [(.ref a1), (.ref a0s)])) rfl (by rw [hml]; rfl) (Steps.refl _) (argsL := [(.ref a1)]) (rest := []) (lenOf pdv9 rfl) rfl (by show 2 * 0 + _ ≤ _; exact Nat.le_of_eq rfl) (hb hby d6_3) (fun _ _ => ⟨rfl, e1, (by decide : 2 + 0 ≤ _), (by decide : 16 + 0 ≤ _)⟩)
  dsimp only [Pt.U, Pt.locs, Pt.cells, Pt.slots] at X3 l3 y3 z3 st3 hQ3
  subst l3 y3 z3
  obtain ⟨rfl, N3q, e3⟩ := hQ3
  have N3 := Fr.app N0 N3q
  obtain ⟨a4, T4, h4, k14, b4, kc4, X4, e4, E4, hS4, hk4, hZ4, hown4, A4, Fc4, Fv4, V4, la4, lb4, Rs4, Li4, nel4, st4⟩ := ldcCH X3 hx hZ1 hown1 (Wd hw 56 rfl) (own_wS hw) e3 hS1 hk1 (own_EW hw) (List.mem_of_getElem? (i := 1) rfl) H_2 (vs := [(.int 46), (.int 106), (.int 97), (.int 114)]) (z := (4 : Int32)) ⟨by decide, by decide⟩ (by decide) rfl (g := (mkF m 10 #[.val (.ref a0s)] [(.ref a0s)])) rfl (hb hby d6_10) (n := 16) (by decide) (by decide) (by decide) (by decide)
  have H_5 := Rs4.1
  have R_5 := R_2.trans Rs4
  have K4 : Keep h0 h4 [] := K1.ext E4
  have O4 := O1.ext E4
  obtain ⟨cq6, kq6, q6a, q6b, q6c⟩ := isOf hZ4 e4 ((E_a0s.ext E1).ext E4)
  obtain ⟨_, _, ⟨T6, L6, k6, n6⟩, -, X6, ⟨Lc6, hQ6, l6, y6, z6⟩, st6⟩ := X4.virtualBack hx (y := MN_11) (z := MN_11) hown4 (mvT hZ4 (Wd hw 35 rfl)) (mvT hZ4 (Wd hw 36 rfl)) (notFace_of_selects (args := #[]) (mvT hZ4 (Wd hw 38 rfl))) (mvT hZ4 (Wd hw 38 rfl)) (mvT hZ4 (Wd hw 37 rfl)) (by decide) (backOf (W := 0) (rmEw_jarT l Z a0 hw [] cS (a0s) (a4) (a0b) (k0) (nl) (vs) (b4) (kc4) (f0) (f1) (f2) (f3) (h4) n0 O4 GL ((E_a0s.ext E1).ext E4) ((F_value_a0s.ext E1).ext E4) ((F_coder_a0s.ext E1).ext E4) ((V_a0b.ext E1).ext E4) A4 Fv4 Fc4 V4 hnB gB0 xB0 yB0 gB1 xB1 yB1 gB2 xB2 yB2 gB3 xB3 yB3 hB) hZ4 (Wd hw 39 rfl) (Wd hw 11 rfl) (by decide) (by decide)) q6a q6c (g := (mkF m 12 #[.val (.ref a0s)] [(.ref a4), (.ref a0s)])) rfl (by rw [hml]; rfl) (Steps.refl _) (argsL := [(.ref a4)]) (rest := []) (lenOf pdv9 rfl) rfl (by show 2 * 0 + _ ≤ _; exact Nat.le_of_eq rfl) (hb hby d6_12) (fun _ _ => ⟨rfl, e4, (by decide : 4 + 0 ≤ _), (by decide : 36 + 0 ≤ _)⟩)
  dsimp only [Pt.U, Pt.locs, Pt.cells, Pt.slots] at X6 l6 y6 z6 st6 hQ6
  subst l6 y6 z6
  obtain ⟨rfl, N6q, e6⟩ := hQ6
  have N6 := Fr.app N3 N6q
  obtain ⟨fs, hr, hrun, hended, hRW⟩ := X6.leaveW hS4 (by rw [e6]; exact hk4) (v := some (.int 1)) (fun h => by rw [Bd.returns] at h; cases h)
  have hCR : CHr Z EL1 s.vm s.heap T6.vm T6.heap := by
    rw [hh, e6]
    exact R_5.trans (CHv.at X6 hZ4 (own_EW hw) H_5)
  refine ⟨_, _, pre0 _ ?_, hrun, hended, _, _, rfl, ?_, hCR, hRW.1, hRW.2.1, hRW.2.2.1, hRW.2.2.2.mono (by decide) (by decide)⟩
  · show Steps p.tables e below (s₁.setTop (mkF m 0 #[.val (.ref a0s)] [])) _
    refine XS.aloadN X0w.here hx rfl (hb hby d6_0) rfl rfl ?_
    show Steps p.tables e below (s₁.setTop (mkF m 1 #[.val (.ref a0s)] [(.ref a0s)])) _
    refine st1 _ ?_
    show Steps p.tables e below (T1.setTop (mkF m 3 #[.val (.ref a0s)] [(.ref a1), (.ref a0s)])) _
    refine st3.trans ?_
    show Steps p.tables e below (T3.setTop (mkF m 6 #[.val (.ref a0s)] [(.int 0)])) _
    refine XS.ifNo X3.here hx rfl (hb hby d6_6) rfl ((if0 _ _).trans (teq (by decide : (0 : Int32) = (0 : Int32))).2) ?_
    refine XS.aloadN X3.here hx rfl (hb hby d6_9) rfl rfl ?_
    show Steps p.tables e below (T3.setTop (mkF m 10 #[.val (.ref a0s)] [(.ref a0s)])) _
    refine st4 _ ?_
    show Steps p.tables e below (T4.setTop (mkF m 12 #[.val (.ref a0s)] [(.ref a4), (.ref a0s)])) _
    refine st6.trans ?_
    show Steps p.tables e below (T6.setTop (mkF m 15 #[.val (.ref a0s)] [(.int 1)])) _
    refine XS.ifNo X6.here hx rfl (hb hby d6_15) rfl ((if0 _ _).trans (feq (by decide : ¬ ((1 : Int32) = (0 : Int32)))).1) ?_
    refine XS.iconst X6.here hx rfl (hb hby d6_18) ?_
    refine XS.goto X6.here hx rfl (pc0 := 19) (pc' := 23) rfl (hb hby d6_19) (by decide) (by decide) ?_
    show Steps p.tables e below (T6.setTop (mkF m 23 #[.val (.ref a0s)] [(.int 1)])) _
    exact retN X6 hx (t := .boolean) Bd.returns (by simp) (hb hby d6_23) hr
  · show Q_rmIbFT n0 Z cS a0s a0b k0 nl vs d0 d1 d2 f0 f1 f2 f3 h0 _ T6.heap _
    rw [e6]
    exact ⟨rfl, N6, K4⟩
def Q_rmIbFF (n0 : Nat) (Z : State) (cS : Int32) (a0s : Addr) (a0b : Addr) (k0 : ClassId) (nl : Int32) (vs : List Value) (d0 : Int32) (d1 : Int32) (d2 : Int32) (f0 : Int32) (f1 : Int32) (f2 : Int32) (f3 : Int32) (h0 : Heap) (v : Option Value) (h : Heap) (L : List Loc) : Prop := v = some (.int 0) ∧ Fr n0 L ∧ Keep h0 h []
set_option maxRecDepth 65536 in
set_option maxHeartbeats 40000000 in
theorem rmIbFF (l : Launch) (Z : State) (a0 : Array Value) (hw : ∀ d ∈ tables_1, d.before a0 Z = true) (ws : List Jvm.Cond) (cS : Int32) (a0s : Addr) (a0b : Addr) (k0 : ClassId) (nl : Int32) (vs : List Value) (d0 : Int32) (d1 : Int32) (d2 : Int32) (f0 : Int32) (f1 : Int32) (f2 : Int32) (f3 : Int32) (h0 : Heap) (n0 : Nat) (O0 : Old Z n0 h0) (GL : GF Z cS) (E_a0s : Exa Z h0 a0s "java/lang/String") (F_value_a0s : Fld Z h0 a0s "java/lang/String" "value" "[B" (.ref a0b)) (F_coder_a0s : Fld Z h0 a0s "java/lang/String" "coder" "B" (.int 0)) (V_a0b : Arv Z h0 a0b k0 .byte nl vs (.int 0)) (hnA : ¬ ((nl - (3 : Int32)) < (0 : Int32))) (gA0 : vs.getD ((nl - (3 : Int32)) + (0 : Int32)).toNatClampNeg (.int 0) = .int (d0.toInt8.toInt32)) (xA0 : ¬ (((nl - (3 : Int32)) + (0 : Int32)) < (0 : Int32))) (yA0 : ((nl - (3 : Int32)) + (0 : Int32)) < nl) (lA0 : ¬ ((255 : Int32) < d0)) (nA0 : ¬ (d0 < (0 : Int32))) (gA1 : vs.getD ((nl - (3 : Int32)) + (1 : Int32)).toNatClampNeg (.int 0) = .int (d1.toInt8.toInt32)) (xA1 : ¬ (((nl - (3 : Int32)) + (1 : Int32)) < (0 : Int32))) (yA1 : ((nl - (3 : Int32)) + (1 : Int32)) < nl) (lA1 : ¬ ((255 : Int32) < d1)) (nA1 : ¬ (d1 < (0 : Int32))) (gA2 : vs.getD ((nl - (3 : Int32)) + (2 : Int32)).toNatClampNeg (.int 0) = .int (d2.toInt8.toInt32)) (xA2 : ¬ (((nl - (3 : Int32)) + (2 : Int32)) < (0 : Int32))) (yA2 : ((nl - (3 : Int32)) + (2 : Int32)) < nl) (lA2 : ¬ ((255 : Int32) < d2)) (nA2 : ¬ (d2 < (0 : Int32))) (hA : ¬ (d0 = (46 : Int32) ∧ d1 = (109 : Int32) ∧ d2 = (102 : Int32))) (hnB : ¬ ((nl - (4 : Int32)) < (0 : Int32))) (gB0 : vs.getD ((nl - (4 : Int32)) + (0 : Int32)).toNatClampNeg (.int 0) = .int (f0.toInt8.toInt32)) (xB0 : ¬ (((nl - (4 : Int32)) + (0 : Int32)) < (0 : Int32))) (yB0 : ((nl - (4 : Int32)) + (0 : Int32)) < nl) (lB0 : ¬ ((255 : Int32) < f0)) (nB0 : ¬ (f0 < (0 : Int32))) (gB1 : vs.getD ((nl - (4 : Int32)) + (1 : Int32)).toNatClampNeg (.int 0) = .int (f1.toInt8.toInt32)) (xB1 : ¬ (((nl - (4 : Int32)) + (1 : Int32)) < (0 : Int32))) (yB1 : ((nl - (4 : Int32)) + (1 : Int32)) < nl) (lB1 : ¬ ((255 : Int32) < f1)) (nB1 : ¬ (f1 < (0 : Int32))) (gB2 : vs.getD ((nl - (4 : Int32)) + (2 : Int32)).toNatClampNeg (.int 0) = .int (f2.toInt8.toInt32)) (xB2 : ¬ (((nl - (4 : Int32)) + (2 : Int32)) < (0 : Int32))) (yB2 : ((nl - (4 : Int32)) + (2 : Int32)) < nl) (lB2 : ¬ ((255 : Int32) < f2)) (nB2 : ¬ (f2 < (0 : Int32))) (gB3 : vs.getD ((nl - (4 : Int32)) + (3 : Int32)).toNatClampNeg (.int 0) = .int (f3.toInt8.toInt32)) (xB3 : ¬ (((nl - (4 : Int32)) + (3 : Int32)) < (0 : Int32))) (yB3 : ((nl - (4 : Int32)) + (3 : Int32)) < nl) (lB3 : ¬ ((255 : Int32) < f3)) (nB3 : ¬ (f3 < (0 : Int32))) (hB : ¬ (f0 = (46 : Int32) ∧ f1 = (106 : Int32) ∧ f2 = (97 : Int32) ∧ f3 = (114 : Int32))) :
    MetFree l MN_12 (head1 (Jvm.Cond.code MN_12 prog_1_method_4_code 1 (some .boolean) :: ws) ({ frames := 4, cells := 4, slots := 36, locals := 59 } : Room)) (fun a U => a = #[(.ref a0s)] ∧ Z.Warmed39 U.vm ∧ U.heap = h0 ∧ CHv Z EL1 U.vm h0) (fun _ _ _ _ _ => True) (fun _ U o U' => ∃ v L, o = .returned v ∧ Q_rmIbFF n0 Z cS a0s a0b k0 nl vs d0 d1 d2 f0 f1 f2 f3 h0 v U'.heap L ∧ CHr Z EL1 U.vm U.heap U'.vm U'.heap ∧ ReturnedEndW U o U' L ({ frames := 4, cells := 4, slots := 36, locals := 59 } : Room).cells ({ frames := 4, cells := 4, slots := 36, locals := 59 } : Room).slots) := by
  refine MetFree.of_bodySF (plainFor_of_name pnv4) hisR ?_
  intro p e s m args below meth c s₁ Bd hml0 hP hK
  obtain ⟨rfl, hZ, hh, H0⟩ := hP
  have hx := Bd.exec
  have hby := Bd.bytes
  have hml : c.maxLocals = 1 := hml0
  have hown : s.vm.findClass "com/example/loomwire/loomwire/bundle/BundleContent" = some m.cls := findClass_of_methodNamed Bd.named
  have hnm := (name_of_methodNamed Bd.named Bd.method).1
  have X0 : Stand p l e ({ frames := 4, cells := 4, slots := 36, locals := 59 } : Room) s m #[(.ref a0s)] below meth c s₁ [] 0 0 := Stand.of_body Bd
  have e0 : s₁.heap = h0 := by rw [← hh, Bd.state]; rfl
  have N0 := Fr.nil n0
  have pre0 : ∀ t, Steps p.tables e below (s₁.setTop (mkF m 0 #[.val (.ref a0s)] [])) t → Steps p.tables e below (s₁.setTop (entryFrame m #[(.ref a0s)] 1)) t := fun t k => castTop (ef_rmCod m a0s) k
  have X0w : Stand p l e ({ frames := 4, cells := 4, slots := 36, locals := 59 } : Room) (s.setVm s.vm) m #[(.ref a0s)] below meth c s₁ [] 0 0 := X0
  have R0 : CHr Z EL1 s.vm h0 s.vm h0 := CHr.refl H0
  have hS0 : s.Since s.vm h0.size := (State.WarmedH.refl s).since _
  have GL' := GL
  obtain ⟨GCS, GCP⟩ := GL'
  obtain ⟨a1, T1, h1, k11, b1, kc1, X1, e1, E1, hS1, hk1, hZ1, hown1, A1, Fc1, Fv1, V1, la1, lb1, Rs1, Li1, nel1, st1⟩ := ldcCH X0w hx hZ hown (Wd hw 34 rfl) (own_wS hw) e0 hS0 (Nat.le_refl _) (own_EW hw) (List.mem_of_getElem? (i := 0) rfl) H0 (vs := [(.int 46), (.int 109), (.int 102)]) (z := (3 : Int32)) ⟨by decide, by decide⟩ (by decide) rfl (g := (mkF m 1 #[.val (.ref a0s)] [(.ref a0s)])) rfl (hb hby d6_1) (n := 12) (by decide) (by decide) (by decide) (by decide)
  have H_2 := Rs1.1
  have R_2 := R0.trans Rs1
  have K1 : Keep h0 h1 [] := (Keep.refl h0 []).ext E1
  have O1 := O0.ext E1
  obtain ⟨cq3, kq3, q3a, q3b, q3c⟩ := isOf hZ1 e1 (E_a0s.ext E1)
  obtain ⟨_, _, ⟨T3, L3, k3, n3⟩, -, X3, ⟨Lc3, hQ3, l3, y3, z3⟩, st3⟩ := X1.virtualBack hx (y := MN_11) (z := MN_11) hown1 (mvT hZ1 (Wd hw 35 rfl)) (mvT hZ1 (Wd hw 36 rfl)) (notFace_of_selects (args := #[]) (mvT hZ1 (Wd hw 38 rfl))) (mvT hZ1 (Wd hw 38 rfl)) (mvT hZ1 (Wd hw 37 rfl)) (by decide) (backOf (W := 0) (rmEw_mfF l Z a0 hw [] cS (a0s) (a1) (a0b) (k0) (nl) (vs) (b1) (kc1) (d0) (d1) (d2) (h1) n0 O1 GL (E_a0s.ext E1) (F_value_a0s.ext E1) (F_coder_a0s.ext E1) (V_a0b.ext E1) A1 Fv1 Fc1 V1 hnA gA0 xA0 yA0 lA0 nA0 gA1 xA1 yA1 lA1 nA1 gA2 xA2 yA2 lA2 nA2 hA) hZ1 (Wd hw 39 rfl) (Wd hw 11 rfl) (by decide) (by decide)) q3a q3c (g := (mkF m 3 #[.val (.ref a0s)] [(.ref a1), (.ref a0s)])) rfl (by rw [hml]; rfl) (Steps.refl _) (argsL := [(.ref a1)]) (rest := []) (lenOf pdv9 rfl) rfl (by show 2 * 0 + _ ≤ _; exact Nat.le_of_eq rfl) (hb hby d6_3) (fun _ _ => ⟨rfl, e1, (by decide : 2 + 0 ≤ _), (by decide : 16 + 0 ≤ _)⟩)
  dsimp only [Pt.U, Pt.locs, Pt.cells, Pt.slots] at X3 l3 y3 z3 st3 hQ3
  subst l3 y3 z3
  obtain ⟨rfl, N3q, e3⟩ := hQ3
  have N3 := Fr.app N0 N3q
  obtain ⟨a4, T4, h4, k14, b4, kc4, X4, e4, E4, hS4, hk4, hZ4, hown4, A4, Fc4, Fv4, V4, la4, lb4, Rs4, Li4, nel4, st4⟩ := ldcCH X3 hx hZ1 hown1 (Wd hw 56 rfl) (own_wS hw) e3 hS1 hk1 (own_EW hw) (List.mem_of_getElem? (i := 1) rfl) H_2 (vs := [(.int 46), (.int 106), (.int 97), (.int 114)]) (z := (4 : Int32)) ⟨by decide, by decide⟩ (by decide) rfl (g := (mkF m 10 #[.val (.ref a0s)] [(.ref a0s)])) rfl (hb hby d6_10) (n := 16) (by decide) (by decide) (by decide) (by decide)
  have H_5 := Rs4.1
  have R_5 := R_2.trans Rs4
  have K4 : Keep h0 h4 [] := K1.ext E4
  have O4 := O1.ext E4
  obtain ⟨cq6, kq6, q6a, q6b, q6c⟩ := isOf hZ4 e4 ((E_a0s.ext E1).ext E4)
  obtain ⟨_, _, ⟨T6, L6, k6, n6⟩, -, X6, ⟨Lc6, hQ6, l6, y6, z6⟩, st6⟩ := X4.virtualBack hx (y := MN_11) (z := MN_11) hown4 (mvT hZ4 (Wd hw 35 rfl)) (mvT hZ4 (Wd hw 36 rfl)) (notFace_of_selects (args := #[]) (mvT hZ4 (Wd hw 38 rfl))) (mvT hZ4 (Wd hw 38 rfl)) (mvT hZ4 (Wd hw 37 rfl)) (by decide) (backOf (W := 0) (rmEw_jarF l Z a0 hw [] cS (a0s) (a4) (a0b) (k0) (nl) (vs) (b4) (kc4) (f0) (f1) (f2) (f3) (h4) n0 O4 GL ((E_a0s.ext E1).ext E4) ((F_value_a0s.ext E1).ext E4) ((F_coder_a0s.ext E1).ext E4) ((V_a0b.ext E1).ext E4) A4 Fv4 Fc4 V4 hnB gB0 xB0 yB0 lB0 nB0 gB1 xB1 yB1 lB1 nB1 gB2 xB2 yB2 lB2 nB2 gB3 xB3 yB3 lB3 nB3 hB) hZ4 (Wd hw 39 rfl) (Wd hw 11 rfl) (by decide) (by decide)) q6a q6c (g := (mkF m 12 #[.val (.ref a0s)] [(.ref a4), (.ref a0s)])) rfl (by rw [hml]; rfl) (Steps.refl _) (argsL := [(.ref a4)]) (rest := []) (lenOf pdv9 rfl) rfl (by show 2 * 0 + _ ≤ _; exact Nat.le_of_eq rfl) (hb hby d6_12) (fun _ _ => ⟨rfl, e4, (by decide : 4 + 0 ≤ _), (by decide : 36 + 0 ≤ _)⟩)
  dsimp only [Pt.U, Pt.locs, Pt.cells, Pt.slots] at X6 l6 y6 z6 st6 hQ6
  subst l6 y6 z6
  obtain ⟨rfl, N6q, e6⟩ := hQ6
  have N6 := Fr.app N3 N6q
  obtain ⟨fs, hr, hrun, hended, hRW⟩ := X6.leaveW hS4 (by rw [e6]; exact hk4) (v := some (.int 0)) (fun h => by rw [Bd.returns] at h; cases h)
  have hCR : CHr Z EL1 s.vm s.heap T6.vm T6.heap := by
    rw [hh, e6]
    exact R_5.trans (CHv.at X6 hZ4 (own_EW hw) H_5)
  refine ⟨_, _, pre0 _ ?_, hrun, hended, _, _, rfl, ?_, hCR, hRW.1, hRW.2.1, hRW.2.2.1, hRW.2.2.2.mono (by decide) (by decide)⟩
  · show Steps p.tables e below (s₁.setTop (mkF m 0 #[.val (.ref a0s)] [])) _
    refine XS.aloadN X0w.here hx rfl (hb hby d6_0) rfl rfl ?_
    show Steps p.tables e below (s₁.setTop (mkF m 1 #[.val (.ref a0s)] [(.ref a0s)])) _
    refine st1 _ ?_
    show Steps p.tables e below (T1.setTop (mkF m 3 #[.val (.ref a0s)] [(.ref a1), (.ref a0s)])) _
    refine st3.trans ?_
    show Steps p.tables e below (T3.setTop (mkF m 6 #[.val (.ref a0s)] [(.int 0)])) _
    refine XS.ifNo X3.here hx rfl (hb hby d6_6) rfl ((if0 _ _).trans (teq (by decide : (0 : Int32) = (0 : Int32))).2) ?_
    refine XS.aloadN X3.here hx rfl (hb hby d6_9) rfl rfl ?_
    show Steps p.tables e below (T3.setTop (mkF m 10 #[.val (.ref a0s)] [(.ref a0s)])) _
    refine st4 _ ?_
    show Steps p.tables e below (T4.setTop (mkF m 12 #[.val (.ref a0s)] [(.ref a4), (.ref a0s)])) _
    refine st6.trans ?_
    show Steps p.tables e below (T6.setTop (mkF m 15 #[.val (.ref a0s)] [(.int 0)])) _
    refine XS.ifYes X6.here hx rfl (pc0 := 15) (pc' := 22) rfl (hb hby d6_15) rfl ((if0 _ _).trans (teq (by decide : (0 : Int32) = (0 : Int32))).1) (by decide) (by decide) ?_
    refine XS.iconst X6.here hx rfl (hb hby d6_22) ?_
    show Steps p.tables e below (T6.setTop (mkF m 23 #[.val (.ref a0s)] [(.int 0)])) _
    exact retN X6 hx (t := .boolean) Bd.returns (by simp) (hb hby d6_23) hr
  · show Q_rmIbFF n0 Z cS a0s a0b k0 nl vs d0 d1 d2 f0 f1 f2 f3 h0 _ T6.heap _
    rw [e6]
    exact ⟨rfl, N6, K4⟩
theorem pdv10 : parseMethodDescriptor "(I)C" = some ⟨[.int], some .char⟩ := by decide +kernel
theorem pdv11 : parseMethodDescriptor "(ICCCCC)Ljava/lang/String;" = some ⟨[.int, .char, .char, .char, .char, .char], some (.object "java/lang/String")⟩ := by decide +kernel
set_option maxRecDepth 65536 in
set_option maxHeartbeats 40000000 in
theorem sg_mf3 {p : Program} {l : Launch} {e : Env} {s : State} {m : MethodId} {below : List Frame} {meth : Method} {c : Code} {T0 : State} {locs : List Loc} {Z : State} {a0 : Array Value} (cS : Int32) (p0 : Int32) (p1 : Int32) (p2 : Int32) (p3 : Int32) (p4 : Int32) (p5 : Int32) (d0 : Int32) (d1 : Int32) (d2 : Int32) (d3 : Int32) (d4 : Int32) (aa : Addr) (as : Addr) (ka : ClassId) {h0 : Heap} {n0 : Nat} (X0 : Stand p l e room_1 s m #[(.int p0), (.int p1), (.int p2), (.int p3), (.int p4), (.int p5)] below meth c T0 locs 9 55) (hx : p.tables.exec = Jvm.exec) (hZ : Z.Warmed39 s.vm) (hw : ∀ d ∈ tables_1, d.before a0 Z = true) (hby : c.code = code) (hml : c.maxLocals = 16) (hown : s.vm.findClass "com/example/loomwire/loomwire/bundle/BundleContentIsBundleFilePinLaw" = some m.cls) (e0 : T0.heap = h0) (N0 : Fr n0 locs) (O0 : Old Z n0 h0) (GL : GF Z cS) (V_aa : Arv Z h0 aa ka .char (5 : Int32) [(.int d0), (.int d1), (.int d2), (.int d3), (.int d4)] (.int 0)) :
    ∃ v : Int32, ∃ (T' : State) (locs' : List Loc), Stand p l e room_1 s m #[(.int p0), (.int p1), (.int p2), (.int p3), (.int p4), (.int p5)] below meth c T' locs' 9 55 ∧ T'.heap = h0 ∧ Fr n0 locs' ∧ ((v = (1 : Int32) ∧ d0 = (46 : Int32) ∧ d1 = (109 : Int32) ∧ d2 = (102 : Int32)) ∨ (v = (0 : Int32) ∧ ¬ (d0 = (46 : Int32) ∧ d1 = (109 : Int32) ∧ d2 = (102 : Int32)))) ∧
      ∀ target, Steps p.tables e below (T'.setTop (mkF m 137 #[.val (.int p0), .val (.int p1), .val (.int p2), .val (.int p3), .val (.int p4), .val (.int p5), .val (.int 3), .val (.int d0), .val (.int d1), .val (.int d2), .val (.int d3), .val (.int d4), .val (.ref aa), .val (.ref as), .val (.int v), .unset] [])) target → Steps p.tables e below (T0.setTop (mkF m 88 #[.val (.int p0), .val (.int p1), .val (.int p2), .val (.int p3), .val (.int p4), .val (.int p5), .val (.int 3), .val (.int d0), .val (.int d1), .val (.int d2), .val (.int d3), .val (.int d4), .val (.ref aa), .val (.ref as), .unset, .unset] [])) target := by
  have GL' := GL
  obtain ⟨GCS, GCP⟩ := GL'
  obtain ⟨cl1, Ar1, -, S1, N1_, H1, G1⟩ := id (V_aa)
  have hin1 : ¬ ((0 : Int32) < 0 ∨ cl1.slots.size ≤ ((0 : Int32)).toNatClampNeg) := inb_of S1 ⟨(by decide), (by decide)⟩
  have hat1 : cl1.slots[((0 : Int32)).toNatClampNeg]? = some (.int d0) := H1.at hin1 rfl
  have pre3 : ∀ t, Steps p.tables e below (T0.setTop (mkF m 103 #[.val (.int p0), .val (.int p1), .val (.int p2), .val (.int p3), .val (.int p4), .val (.int p5), .val (.int 3), .val (.int d0), .val (.int d1), .val (.int d2), .val (.int d3), .val (.int d4), .val (.ref aa), .val (.ref as), .unset, .unset] [(.int 46), (.int d0)])) t → Steps p.tables e below (T0.setTop (mkF m 88 #[.val (.int p0), .val (.int p1), .val (.int p2), .val (.int p3), .val (.int p4), .val (.int p5), .val (.int 3), .val (.int d0), .val (.int d1), .val (.int d2), .val (.int d3), .val (.int d4), .val (.ref aa), .val (.ref as), .unset, .unset] [])) t := fun t kt => by
    show Steps p.tables e below (T0.setTop (mkF m 88 #[.val (.int p0), .val (.int p1), .val (.int p2), .val (.int p3), .val (.int p4), .val (.int p5), .val (.int 3), .val (.int d0), .val (.int d1), .val (.int d2), .val (.int d3), .val (.int d4), .val (.ref aa), .val (.ref as), .unset, .unset] [])) _
    refine XS.iload X0.here hx rfl (hb hby at_88) rfl ?_
    refine XS.iconst X0.here hx rfl (hb hby at_90) ?_
    refine XS.icmpNo X0.here hx rfl (hb hby at_91) rfl (flt (by decide : ¬ ((3 : Int32) < (3 : Int32)))).1 ?_
    refine XS.aload X0.here hx rfl (hb hby at_94) rfl rfl ?_
    show Steps p.tables e below (T0.setTop (mkF m 96 #[.val (.int p0), .val (.int p1), .val (.int p2), .val (.int p3), .val (.int p4), .val (.int p5), .val (.int 3), .val (.int d0), .val (.int d1), .val (.int d2), .val (.int d3), .val (.int d4), .val (.ref aa), .val (.ref as), .unset, .unset] [(.ref aa)])) _
    refine XS.iload X0.here hx rfl (hb hby at_96) rfl ?_
    refine XS.iconst X0.here hx rfl (hb hby at_98) ?_
    refine XS.isub X0.here hx rfl (hb hby at_99) rfl ?_
    show Steps p.tables e below (T0.setTop (mkF m 100 #[.val (.int p0), .val (.int p1), .val (.int p2), .val (.int p3), .val (.int p4), .val (.int p5), .val (.int 3), .val (.int d0), .val (.int d1), .val (.int d2), .val (.int d3), .val (.int d4), .val (.ref aa), .val (.ref as), .unset, .unset] [(.int 0), (.ref aa)])) _
    refine X0.caload hx (j := (0 : Int32)) (v := (.int d0)) (by rw [e0]; exact Ar1.1) (State.isArrayOf_alike hZ.alike Ar1.2.1) Ar1.2.2 hin1 hat1 (g := (mkF m 100 #[.val (.int p0), .val (.int p1), .val (.int p2), .val (.int p3), .val (.int p4), .val (.int p5), .val (.int 3), .val (.int d0), .val (.int d1), .val (.int d2), .val (.int d3), .val (.int d4), .val (.ref aa), .val (.ref as), .unset, .unset] [(.int 0), (.ref aa)])) rfl rfl (hb hby at_100) _ ?_
    show Steps p.tables e below (T0.setTop (mkF m 101 #[.val (.int p0), .val (.int p1), .val (.int p2), .val (.int p3), .val (.int p4), .val (.int p5), .val (.int 3), .val (.int d0), .val (.int d1), .val (.int d2), .val (.int d3), .val (.int d4), .val (.ref aa), .val (.ref as), .unset, .unset] [(.int d0)])) _
    refine XS.bipush X0.here hx rfl (hb hby at_101) ?_
    exact kt
  by_cases hc103_2 : d0 = (46 : Int32)
  · obtain ⟨cl4, Ar4, -, S4, N4_, H4, G4⟩ := id (V_aa)
    have hin4 : ¬ ((1 : Int32) < 0 ∨ cl4.slots.size ≤ ((1 : Int32)).toNatClampNeg) := inb_of S4 ⟨(by decide), (by decide)⟩
    have hat4 : cl4.slots[((1 : Int32)).toNatClampNeg]? = some (.int d1) := H4.at hin4 rfl
    have pre6 : ∀ t, Steps p.tables e below (T0.setTop (mkF m 115 #[.val (.int p0), .val (.int p1), .val (.int p2), .val (.int p3), .val (.int p4), .val (.int p5), .val (.int 3), .val (.int d0), .val (.int d1), .val (.int d2), .val (.int d3), .val (.int d4), .val (.ref aa), .val (.ref as), .unset, .unset] [(.int 109), (.int d1)])) t → Steps p.tables e below (T0.setTop (mkF m 88 #[.val (.int p0), .val (.int p1), .val (.int p2), .val (.int p3), .val (.int p4), .val (.int p5), .val (.int 3), .val (.int d0), .val (.int d1), .val (.int d2), .val (.int d3), .val (.int d4), .val (.ref aa), .val (.ref as), .unset, .unset] [])) t := fun t kt => by
      refine pre3 t ?_
      show Steps p.tables e below (T0.setTop (mkF m 103 #[.val (.int p0), .val (.int p1), .val (.int p2), .val (.int p3), .val (.int p4), .val (.int p5), .val (.int 3), .val (.int d0), .val (.int d1), .val (.int d2), .val (.int d3), .val (.int d4), .val (.ref aa), .val (.ref as), .unset, .unset] [(.int 46), (.int d0)])) _
      refine XS.icmpNo X0.here hx rfl (hb hby at_103) rfl (teq hc103_2).2 ?_
      refine XS.aload X0.here hx rfl (hb hby at_106) rfl rfl ?_
      refine XS.iload X0.here hx rfl (hb hby at_108) rfl ?_
      refine XS.iconst X0.here hx rfl (hb hby at_110) ?_
      show Steps p.tables e below (T0.setTop (mkF m 111 #[.val (.int p0), .val (.int p1), .val (.int p2), .val (.int p3), .val (.int p4), .val (.int p5), .val (.int 3), .val (.int d0), .val (.int d1), .val (.int d2), .val (.int d3), .val (.int d4), .val (.ref aa), .val (.ref as), .unset, .unset] [(.int 2), (.int 3), (.ref aa)])) _
      refine XS.isub X0.here hx rfl (hb hby at_111) rfl ?_
      show Steps p.tables e below (T0.setTop (mkF m 112 #[.val (.int p0), .val (.int p1), .val (.int p2), .val (.int p3), .val (.int p4), .val (.int p5), .val (.int 3), .val (.int d0), .val (.int d1), .val (.int d2), .val (.int d3), .val (.int d4), .val (.ref aa), .val (.ref as), .unset, .unset] [(.int 1), (.ref aa)])) _
      refine X0.caload hx (j := (1 : Int32)) (v := (.int d1)) (by rw [e0]; exact Ar4.1) (State.isArrayOf_alike hZ.alike Ar4.2.1) Ar4.2.2 hin4 hat4 (g := (mkF m 112 #[.val (.int p0), .val (.int p1), .val (.int p2), .val (.int p3), .val (.int p4), .val (.int p5), .val (.int 3), .val (.int d0), .val (.int d1), .val (.int d2), .val (.int d3), .val (.int d4), .val (.ref aa), .val (.ref as), .unset, .unset] [(.int 1), (.ref aa)])) rfl rfl (hb hby at_112) _ ?_
      show Steps p.tables e below (T0.setTop (mkF m 113 #[.val (.int p0), .val (.int p1), .val (.int p2), .val (.int p3), .val (.int p4), .val (.int p5), .val (.int 3), .val (.int d0), .val (.int d1), .val (.int d2), .val (.int d3), .val (.int d4), .val (.ref aa), .val (.ref as), .unset, .unset] [(.int d1)])) _
      refine XS.bipush X0.here hx rfl (hb hby at_113) ?_
      exact kt
    by_cases hc115_5 : d1 = (109 : Int32)
    · obtain ⟨cl7, Ar7, -, S7, N7_, H7, G7⟩ := id (V_aa)
      have hin7 : ¬ ((2 : Int32) < 0 ∨ cl7.slots.size ≤ ((2 : Int32)).toNatClampNeg) := inb_of S7 ⟨(by decide), (by decide)⟩
      have hat7 : cl7.slots[((2 : Int32)).toNatClampNeg]? = some (.int d2) := H7.at hin7 rfl
      have pre9 : ∀ t, Steps p.tables e below (T0.setTop (mkF m 127 #[.val (.int p0), .val (.int p1), .val (.int p2), .val (.int p3), .val (.int p4), .val (.int p5), .val (.int 3), .val (.int d0), .val (.int d1), .val (.int d2), .val (.int d3), .val (.int d4), .val (.ref aa), .val (.ref as), .unset, .unset] [(.int 102), (.int d2)])) t → Steps p.tables e below (T0.setTop (mkF m 88 #[.val (.int p0), .val (.int p1), .val (.int p2), .val (.int p3), .val (.int p4), .val (.int p5), .val (.int 3), .val (.int d0), .val (.int d1), .val (.int d2), .val (.int d3), .val (.int d4), .val (.ref aa), .val (.ref as), .unset, .unset] [])) t := fun t kt => by
        refine pre6 t ?_
        show Steps p.tables e below (T0.setTop (mkF m 115 #[.val (.int p0), .val (.int p1), .val (.int p2), .val (.int p3), .val (.int p4), .val (.int p5), .val (.int 3), .val (.int d0), .val (.int d1), .val (.int d2), .val (.int d3), .val (.int d4), .val (.ref aa), .val (.ref as), .unset, .unset] [(.int 109), (.int d1)])) _
        refine XS.icmpNo X0.here hx rfl (hb hby at_115) rfl (teq hc115_5).2 ?_
        refine XS.aload X0.here hx rfl (hb hby at_118) rfl rfl ?_
        refine XS.iload X0.here hx rfl (hb hby at_120) rfl ?_
        refine XS.iconst X0.here hx rfl (hb hby at_122) ?_
        show Steps p.tables e below (T0.setTop (mkF m 123 #[.val (.int p0), .val (.int p1), .val (.int p2), .val (.int p3), .val (.int p4), .val (.int p5), .val (.int 3), .val (.int d0), .val (.int d1), .val (.int d2), .val (.int d3), .val (.int d4), .val (.ref aa), .val (.ref as), .unset, .unset] [(.int 1), (.int 3), (.ref aa)])) _
        refine XS.isub X0.here hx rfl (hb hby at_123) rfl ?_
        show Steps p.tables e below (T0.setTop (mkF m 124 #[.val (.int p0), .val (.int p1), .val (.int p2), .val (.int p3), .val (.int p4), .val (.int p5), .val (.int 3), .val (.int d0), .val (.int d1), .val (.int d2), .val (.int d3), .val (.int d4), .val (.ref aa), .val (.ref as), .unset, .unset] [(.int 2), (.ref aa)])) _
        refine X0.caload hx (j := (2 : Int32)) (v := (.int d2)) (by rw [e0]; exact Ar7.1) (State.isArrayOf_alike hZ.alike Ar7.2.1) Ar7.2.2 hin7 hat7 (g := (mkF m 124 #[.val (.int p0), .val (.int p1), .val (.int p2), .val (.int p3), .val (.int p4), .val (.int p5), .val (.int 3), .val (.int d0), .val (.int d1), .val (.int d2), .val (.int d3), .val (.int d4), .val (.ref aa), .val (.ref as), .unset, .unset] [(.int 2), (.ref aa)])) rfl rfl (hb hby at_124) _ ?_
        show Steps p.tables e below (T0.setTop (mkF m 125 #[.val (.int p0), .val (.int p1), .val (.int p2), .val (.int p3), .val (.int p4), .val (.int p5), .val (.int 3), .val (.int d0), .val (.int d1), .val (.int d2), .val (.int d3), .val (.int d4), .val (.ref aa), .val (.ref as), .unset, .unset] [(.int d2)])) _
        refine XS.bipush X0.here hx rfl (hb hby at_125) ?_
        exact kt
      by_cases hc127_8 : d2 = (102 : Int32)
      · have hpost : ((1 : Int32) = (1 : Int32) ∧ d0 = (46 : Int32) ∧ d1 = (109 : Int32) ∧ d2 = (102 : Int32)) ∨ ((1 : Int32) = (0 : Int32) ∧ ¬ (d0 = (46 : Int32) ∧ d1 = (109 : Int32) ∧ d2 = (102 : Int32))) := Or.inl ⟨rfl, hc103_2, hc115_5, hc127_8⟩
        refine ⟨(1 : Int32), T0, _, X0, e0, N0, hpost, fun target kt => ?_⟩
        refine pre9 target ?_
        show Steps p.tables e below (T0.setTop (mkF m 127 #[.val (.int p0), .val (.int p1), .val (.int p2), .val (.int p3), .val (.int p4), .val (.int p5), .val (.int 3), .val (.int d0), .val (.int d1), .val (.int d2), .val (.int d3), .val (.int d4), .val (.ref aa), .val (.ref as), .unset, .unset] [(.int 102), (.int d2)])) _
        refine XS.icmpNo X0.here hx rfl (hb hby at_127) rfl (teq hc127_8).2 ?_
        refine XS.iconst X0.here hx rfl (hb hby at_130) ?_
        refine XS.goto X0.here hx rfl (pc0 := 131) (pc' := 135) rfl (hb hby at_131) (by decide) (by decide) ?_
        refine XS.istore X0.here hx rfl (hb hby at_135) rfl (l' := #[.val (.int p0), .val (.int p1), .val (.int p2), .val (.int p3), .val (.int p4), .val (.int p5), .val (.int 3), .val (.int d0), .val (.int d1), .val (.int d2), .val (.int d3), .val (.int d4), .val (.ref aa), .val (.ref as), .val (.int 1), .unset]) rfl ?_
        exact kt
      · have hpost : ((0 : Int32) = (1 : Int32) ∧ d0 = (46 : Int32) ∧ d1 = (109 : Int32) ∧ d2 = (102 : Int32)) ∨ ((0 : Int32) = (0 : Int32) ∧ ¬ (d0 = (46 : Int32) ∧ d1 = (109 : Int32) ∧ d2 = (102 : Int32))) := Or.inr ⟨rfl, fun q => hc127_8 q.2.2⟩
        refine ⟨(0 : Int32), T0, _, X0, e0, N0, hpost, fun target kt => ?_⟩
        refine pre9 target ?_
        show Steps p.tables e below (T0.setTop (mkF m 127 #[.val (.int p0), .val (.int p1), .val (.int p2), .val (.int p3), .val (.int p4), .val (.int p5), .val (.int 3), .val (.int d0), .val (.int d1), .val (.int d2), .val (.int d3), .val (.int d4), .val (.ref aa), .val (.ref as), .unset, .unset] [(.int 102), (.int d2)])) _
        refine XS.icmpYes X0.here hx rfl (pc0 := 127) (pc' := 134) rfl (hb hby at_127) rfl (feq hc127_8).2 (by decide) (by decide) ?_
        refine XS.iconst X0.here hx rfl (hb hby at_134) ?_
        refine XS.istore X0.here hx rfl (hb hby at_135) rfl (l' := #[.val (.int p0), .val (.int p1), .val (.int p2), .val (.int p3), .val (.int p4), .val (.int p5), .val (.int 3), .val (.int d0), .val (.int d1), .val (.int d2), .val (.int d3), .val (.int d4), .val (.ref aa), .val (.ref as), .val (.int 0), .unset]) rfl ?_
        exact kt
    · have hpost : ((0 : Int32) = (1 : Int32) ∧ d0 = (46 : Int32) ∧ d1 = (109 : Int32) ∧ d2 = (102 : Int32)) ∨ ((0 : Int32) = (0 : Int32) ∧ ¬ (d0 = (46 : Int32) ∧ d1 = (109 : Int32) ∧ d2 = (102 : Int32))) := Or.inr ⟨rfl, fun q => hc115_5 q.2.1⟩
      refine ⟨(0 : Int32), T0, _, X0, e0, N0, hpost, fun target kt => ?_⟩
      refine pre6 target ?_
      show Steps p.tables e below (T0.setTop (mkF m 115 #[.val (.int p0), .val (.int p1), .val (.int p2), .val (.int p3), .val (.int p4), .val (.int p5), .val (.int 3), .val (.int d0), .val (.int d1), .val (.int d2), .val (.int d3), .val (.int d4), .val (.ref aa), .val (.ref as), .unset, .unset] [(.int 109), (.int d1)])) _
      refine XS.icmpYes X0.here hx rfl (pc0 := 115) (pc' := 134) rfl (hb hby at_115) rfl (feq hc115_5).2 (by decide) (by decide) ?_
      refine XS.iconst X0.here hx rfl (hb hby at_134) ?_
      refine XS.istore X0.here hx rfl (hb hby at_135) rfl (l' := #[.val (.int p0), .val (.int p1), .val (.int p2), .val (.int p3), .val (.int p4), .val (.int p5), .val (.int 3), .val (.int d0), .val (.int d1), .val (.int d2), .val (.int d3), .val (.int d4), .val (.ref aa), .val (.ref as), .val (.int 0), .unset]) rfl ?_
      exact kt
  · have hpost : ((0 : Int32) = (1 : Int32) ∧ d0 = (46 : Int32) ∧ d1 = (109 : Int32) ∧ d2 = (102 : Int32)) ∨ ((0 : Int32) = (0 : Int32) ∧ ¬ (d0 = (46 : Int32) ∧ d1 = (109 : Int32) ∧ d2 = (102 : Int32))) := Or.inr ⟨rfl, fun q => hc103_2 q.1⟩
    refine ⟨(0 : Int32), T0, _, X0, e0, N0, hpost, fun target kt => ?_⟩
    refine pre3 target ?_
    show Steps p.tables e below (T0.setTop (mkF m 103 #[.val (.int p0), .val (.int p1), .val (.int p2), .val (.int p3), .val (.int p4), .val (.int p5), .val (.int 3), .val (.int d0), .val (.int d1), .val (.int d2), .val (.int d3), .val (.int d4), .val (.ref aa), .val (.ref as), .unset, .unset] [(.int 46), (.int d0)])) _
    refine XS.icmpYes X0.here hx rfl (pc0 := 103) (pc' := 134) rfl (hb hby at_103) rfl (feq hc103_2).2 (by decide) (by decide) ?_
    refine XS.iconst X0.here hx rfl (hb hby at_134) ?_
    refine XS.istore X0.here hx rfl (hb hby at_135) rfl (l' := #[.val (.int p0), .val (.int p1), .val (.int p2), .val (.int p3), .val (.int p4), .val (.int p5), .val (.int 3), .val (.int d0), .val (.int d1), .val (.int d2), .val (.int d3), .val (.int d4), .val (.ref aa), .val (.ref as), .val (.int 0), .unset]) rfl ?_
    exact kt
set_option maxRecDepth 65536 in
set_option maxHeartbeats 40000000 in
theorem sg_mf4 {p : Program} {l : Launch} {e : Env} {s : State} {m : MethodId} {below : List Frame} {meth : Method} {c : Code} {T0 : State} {locs : List Loc} {Z : State} {a0 : Array Value} (cS : Int32) (p0 : Int32) (p1 : Int32) (p2 : Int32) (p3 : Int32) (p4 : Int32) (p5 : Int32) (d0 : Int32) (d1 : Int32) (d2 : Int32) (d3 : Int32) (d4 : Int32) (aa : Addr) (as : Addr) (ka : ClassId) {h0 : Heap} {n0 : Nat} (X0 : Stand p l e room_1 s m #[(.int p0), (.int p1), (.int p2), (.int p3), (.int p4), (.int p5)] below meth c T0 locs 9 57) (hx : p.tables.exec = Jvm.exec) (hZ : Z.Warmed39 s.vm) (hw : ∀ d ∈ tables_1, d.before a0 Z = true) (hby : c.code = code) (hml : c.maxLocals = 16) (hown : s.vm.findClass "com/example/loomwire/loomwire/bundle/BundleContentIsBundleFilePinLaw" = some m.cls) (e0 : T0.heap = h0) (N0 : Fr n0 locs) (O0 : Old Z n0 h0) (GL : GF Z cS) (V_aa : Arv Z h0 aa ka .char (5 : Int32) [(.int d0), (.int d1), (.int d2), (.int d3), (.int d4)] (.int 0)) :
    ∃ v : Int32, ∃ (T' : State) (locs' : List Loc), Stand p l e room_1 s m #[(.int p0), (.int p1), (.int p2), (.int p3), (.int p4), (.int p5)] below meth c T' locs' 9 57 ∧ T'.heap = h0 ∧ Fr n0 locs' ∧ ((v = (1 : Int32) ∧ d1 = (46 : Int32) ∧ d2 = (109 : Int32) ∧ d3 = (102 : Int32)) ∨ (v = (0 : Int32) ∧ ¬ (d1 = (46 : Int32) ∧ d2 = (109 : Int32) ∧ d3 = (102 : Int32)))) ∧
      ∀ target, Steps p.tables e below (T'.setTop (mkF m 137 #[.val (.int p0), .val (.int p1), .val (.int p2), .val (.int p3), .val (.int p4), .val (.int p5), .val (.int 4), .val (.int d0), .val (.int d1), .val (.int d2), .val (.int d3), .val (.int d4), .val (.ref aa), .val (.ref as), .val (.int v), .unset] [])) target → Steps p.tables e below (T0.setTop (mkF m 88 #[.val (.int p0), .val (.int p1), .val (.int p2), .val (.int p3), .val (.int p4), .val (.int p5), .val (.int 4), .val (.int d0), .val (.int d1), .val (.int d2), .val (.int d3), .val (.int d4), .val (.ref aa), .val (.ref as), .unset, .unset] [])) target := by
  have GL' := GL
  obtain ⟨GCS, GCP⟩ := GL'
  obtain ⟨cl1, Ar1, -, S1, N1_, H1, G1⟩ := id (V_aa)
  have hin1 : ¬ ((1 : Int32) < 0 ∨ cl1.slots.size ≤ ((1 : Int32)).toNatClampNeg) := inb_of S1 ⟨(by decide), (by decide)⟩
  have hat1 : cl1.slots[((1 : Int32)).toNatClampNeg]? = some (.int d1) := H1.at hin1 rfl
  have pre3 : ∀ t, Steps p.tables e below (T0.setTop (mkF m 103 #[.val (.int p0), .val (.int p1), .val (.int p2), .val (.int p3), .val (.int p4), .val (.int p5), .val (.int 4), .val (.int d0), .val (.int d1), .val (.int d2), .val (.int d3), .val (.int d4), .val (.ref aa), .val (.ref as), .unset, .unset] [(.int 46), (.int d1)])) t → Steps p.tables e below (T0.setTop (mkF m 88 #[.val (.int p0), .val (.int p1), .val (.int p2), .val (.int p3), .val (.int p4), .val (.int p5), .val (.int 4), .val (.int d0), .val (.int d1), .val (.int d2), .val (.int d3), .val (.int d4), .val (.ref aa), .val (.ref as), .unset, .unset] [])) t := fun t kt => by
    show Steps p.tables e below (T0.setTop (mkF m 88 #[.val (.int p0), .val (.int p1), .val (.int p2), .val (.int p3), .val (.int p4), .val (.int p5), .val (.int 4), .val (.int d0), .val (.int d1), .val (.int d2), .val (.int d3), .val (.int d4), .val (.ref aa), .val (.ref as), .unset, .unset] [])) _
    refine XS.iload X0.here hx rfl (hb hby at_88) rfl ?_
    refine XS.iconst X0.here hx rfl (hb hby at_90) ?_
    refine XS.icmpNo X0.here hx rfl (hb hby at_91) rfl (flt (by decide : ¬ ((4 : Int32) < (3 : Int32)))).1 ?_
    refine XS.aload X0.here hx rfl (hb hby at_94) rfl rfl ?_
    show Steps p.tables e below (T0.setTop (mkF m 96 #[.val (.int p0), .val (.int p1), .val (.int p2), .val (.int p3), .val (.int p4), .val (.int p5), .val (.int 4), .val (.int d0), .val (.int d1), .val (.int d2), .val (.int d3), .val (.int d4), .val (.ref aa), .val (.ref as), .unset, .unset] [(.ref aa)])) _
    refine XS.iload X0.here hx rfl (hb hby at_96) rfl ?_
    refine XS.iconst X0.here hx rfl (hb hby at_98) ?_
    refine XS.isub X0.here hx rfl (hb hby at_99) rfl ?_
    show Steps p.tables e below (T0.setTop (mkF m 100 #[.val (.int p0), .val (.int p1), .val (.int p2), .val (.int p3), .val (.int p4), .val (.int p5), .val (.int 4), .val (.int d0), .val (.int d1), .val (.int d2), .val (.int d3), .val (.int d4), .val (.ref aa), .val (.ref as), .unset, .unset] [(.int 1), (.ref aa)])) _
    refine X0.caload hx (j := (1 : Int32)) (v := (.int d1)) (by rw [e0]; exact Ar1.1) (State.isArrayOf_alike hZ.alike Ar1.2.1) Ar1.2.2 hin1 hat1 (g := (mkF m 100 #[.val (.int p0), .val (.int p1), .val (.int p2), .val (.int p3), .val (.int p4), .val (.int p5), .val (.int 4), .val (.int d0), .val (.int d1), .val (.int d2), .val (.int d3), .val (.int d4), .val (.ref aa), .val (.ref as), .unset, .unset] [(.int 1), (.ref aa)])) rfl rfl (hb hby at_100) _ ?_
    show Steps p.tables e below (T0.setTop (mkF m 101 #[.val (.int p0), .val (.int p1), .val (.int p2), .val (.int p3), .val (.int p4), .val (.int p5), .val (.int 4), .val (.int d0), .val (.int d1), .val (.int d2), .val (.int d3), .val (.int d4), .val (.ref aa), .val (.ref as), .unset, .unset] [(.int d1)])) _
    refine XS.bipush X0.here hx rfl (hb hby at_101) ?_
    exact kt
  by_cases hc103_2 : d1 = (46 : Int32)
  · obtain ⟨cl4, Ar4, -, S4, N4_, H4, G4⟩ := id (V_aa)
    have hin4 : ¬ ((2 : Int32) < 0 ∨ cl4.slots.size ≤ ((2 : Int32)).toNatClampNeg) := inb_of S4 ⟨(by decide), (by decide)⟩
    have hat4 : cl4.slots[((2 : Int32)).toNatClampNeg]? = some (.int d2) := H4.at hin4 rfl
    have pre6 : ∀ t, Steps p.tables e below (T0.setTop (mkF m 115 #[.val (.int p0), .val (.int p1), .val (.int p2), .val (.int p3), .val (.int p4), .val (.int p5), .val (.int 4), .val (.int d0), .val (.int d1), .val (.int d2), .val (.int d3), .val (.int d4), .val (.ref aa), .val (.ref as), .unset, .unset] [(.int 109), (.int d2)])) t → Steps p.tables e below (T0.setTop (mkF m 88 #[.val (.int p0), .val (.int p1), .val (.int p2), .val (.int p3), .val (.int p4), .val (.int p5), .val (.int 4), .val (.int d0), .val (.int d1), .val (.int d2), .val (.int d3), .val (.int d4), .val (.ref aa), .val (.ref as), .unset, .unset] [])) t := fun t kt => by
      refine pre3 t ?_
      show Steps p.tables e below (T0.setTop (mkF m 103 #[.val (.int p0), .val (.int p1), .val (.int p2), .val (.int p3), .val (.int p4), .val (.int p5), .val (.int 4), .val (.int d0), .val (.int d1), .val (.int d2), .val (.int d3), .val (.int d4), .val (.ref aa), .val (.ref as), .unset, .unset] [(.int 46), (.int d1)])) _
      refine XS.icmpNo X0.here hx rfl (hb hby at_103) rfl (teq hc103_2).2 ?_
      refine XS.aload X0.here hx rfl (hb hby at_106) rfl rfl ?_
      refine XS.iload X0.here hx rfl (hb hby at_108) rfl ?_
      refine XS.iconst X0.here hx rfl (hb hby at_110) ?_
      show Steps p.tables e below (T0.setTop (mkF m 111 #[.val (.int p0), .val (.int p1), .val (.int p2), .val (.int p3), .val (.int p4), .val (.int p5), .val (.int 4), .val (.int d0), .val (.int d1), .val (.int d2), .val (.int d3), .val (.int d4), .val (.ref aa), .val (.ref as), .unset, .unset] [(.int 2), (.int 4), (.ref aa)])) _
      refine XS.isub X0.here hx rfl (hb hby at_111) rfl ?_
      show Steps p.tables e below (T0.setTop (mkF m 112 #[.val (.int p0), .val (.int p1), .val (.int p2), .val (.int p3), .val (.int p4), .val (.int p5), .val (.int 4), .val (.int d0), .val (.int d1), .val (.int d2), .val (.int d3), .val (.int d4), .val (.ref aa), .val (.ref as), .unset, .unset] [(.int 2), (.ref aa)])) _
      refine X0.caload hx (j := (2 : Int32)) (v := (.int d2)) (by rw [e0]; exact Ar4.1) (State.isArrayOf_alike hZ.alike Ar4.2.1) Ar4.2.2 hin4 hat4 (g := (mkF m 112 #[.val (.int p0), .val (.int p1), .val (.int p2), .val (.int p3), .val (.int p4), .val (.int p5), .val (.int 4), .val (.int d0), .val (.int d1), .val (.int d2), .val (.int d3), .val (.int d4), .val (.ref aa), .val (.ref as), .unset, .unset] [(.int 2), (.ref aa)])) rfl rfl (hb hby at_112) _ ?_
      show Steps p.tables e below (T0.setTop (mkF m 113 #[.val (.int p0), .val (.int p1), .val (.int p2), .val (.int p3), .val (.int p4), .val (.int p5), .val (.int 4), .val (.int d0), .val (.int d1), .val (.int d2), .val (.int d3), .val (.int d4), .val (.ref aa), .val (.ref as), .unset, .unset] [(.int d2)])) _
      refine XS.bipush X0.here hx rfl (hb hby at_113) ?_
      exact kt
    by_cases hc115_5 : d2 = (109 : Int32)
    · obtain ⟨cl7, Ar7, -, S7, N7_, H7, G7⟩ := id (V_aa)
      have hin7 : ¬ ((3 : Int32) < 0 ∨ cl7.slots.size ≤ ((3 : Int32)).toNatClampNeg) := inb_of S7 ⟨(by decide), (by decide)⟩
      have hat7 : cl7.slots[((3 : Int32)).toNatClampNeg]? = some (.int d3) := H7.at hin7 rfl
      have pre9 : ∀ t, Steps p.tables e below (T0.setTop (mkF m 127 #[.val (.int p0), .val (.int p1), .val (.int p2), .val (.int p3), .val (.int p4), .val (.int p5), .val (.int 4), .val (.int d0), .val (.int d1), .val (.int d2), .val (.int d3), .val (.int d4), .val (.ref aa), .val (.ref as), .unset, .unset] [(.int 102), (.int d3)])) t → Steps p.tables e below (T0.setTop (mkF m 88 #[.val (.int p0), .val (.int p1), .val (.int p2), .val (.int p3), .val (.int p4), .val (.int p5), .val (.int 4), .val (.int d0), .val (.int d1), .val (.int d2), .val (.int d3), .val (.int d4), .val (.ref aa), .val (.ref as), .unset, .unset] [])) t := fun t kt => by
        refine pre6 t ?_
        show Steps p.tables e below (T0.setTop (mkF m 115 #[.val (.int p0), .val (.int p1), .val (.int p2), .val (.int p3), .val (.int p4), .val (.int p5), .val (.int 4), .val (.int d0), .val (.int d1), .val (.int d2), .val (.int d3), .val (.int d4), .val (.ref aa), .val (.ref as), .unset, .unset] [(.int 109), (.int d2)])) _
        refine XS.icmpNo X0.here hx rfl (hb hby at_115) rfl (teq hc115_5).2 ?_
        refine XS.aload X0.here hx rfl (hb hby at_118) rfl rfl ?_
        refine XS.iload X0.here hx rfl (hb hby at_120) rfl ?_
        refine XS.iconst X0.here hx rfl (hb hby at_122) ?_
        show Steps p.tables e below (T0.setTop (mkF m 123 #[.val (.int p0), .val (.int p1), .val (.int p2), .val (.int p3), .val (.int p4), .val (.int p5), .val (.int 4), .val (.int d0), .val (.int d1), .val (.int d2), .val (.int d3), .val (.int d4), .val (.ref aa), .val (.ref as), .unset, .unset] [(.int 1), (.int 4), (.ref aa)])) _
        refine XS.isub X0.here hx rfl (hb hby at_123) rfl ?_
        show Steps p.tables e below (T0.setTop (mkF m 124 #[.val (.int p0), .val (.int p1), .val (.int p2), .val (.int p3), .val (.int p4), .val (.int p5), .val (.int 4), .val (.int d0), .val (.int d1), .val (.int d2), .val (.int d3), .val (.int d4), .val (.ref aa), .val (.ref as), .unset, .unset] [(.int 3), (.ref aa)])) _
        refine X0.caload hx (j := (3 : Int32)) (v := (.int d3)) (by rw [e0]; exact Ar7.1) (State.isArrayOf_alike hZ.alike Ar7.2.1) Ar7.2.2 hin7 hat7 (g := (mkF m 124 #[.val (.int p0), .val (.int p1), .val (.int p2), .val (.int p3), .val (.int p4), .val (.int p5), .val (.int 4), .val (.int d0), .val (.int d1), .val (.int d2), .val (.int d3), .val (.int d4), .val (.ref aa), .val (.ref as), .unset, .unset] [(.int 3), (.ref aa)])) rfl rfl (hb hby at_124) _ ?_
        show Steps p.tables e below (T0.setTop (mkF m 125 #[.val (.int p0), .val (.int p1), .val (.int p2), .val (.int p3), .val (.int p4), .val (.int p5), .val (.int 4), .val (.int d0), .val (.int d1), .val (.int d2), .val (.int d3), .val (.int d4), .val (.ref aa), .val (.ref as), .unset, .unset] [(.int d3)])) _
        refine XS.bipush X0.here hx rfl (hb hby at_125) ?_
        exact kt
      by_cases hc127_8 : d3 = (102 : Int32)
      · have hpost : ((1 : Int32) = (1 : Int32) ∧ d1 = (46 : Int32) ∧ d2 = (109 : Int32) ∧ d3 = (102 : Int32)) ∨ ((1 : Int32) = (0 : Int32) ∧ ¬ (d1 = (46 : Int32) ∧ d2 = (109 : Int32) ∧ d3 = (102 : Int32))) := Or.inl ⟨rfl, hc103_2, hc115_5, hc127_8⟩
        refine ⟨(1 : Int32), T0, _, X0, e0, N0, hpost, fun target kt => ?_⟩
        refine pre9 target ?_
        show Steps p.tables e below (T0.setTop (mkF m 127 #[.val (.int p0), .val (.int p1), .val (.int p2), .val (.int p3), .val (.int p4), .val (.int p5), .val (.int 4), .val (.int d0), .val (.int d1), .val (.int d2), .val (.int d3), .val (.int d4), .val (.ref aa), .val (.ref as), .unset, .unset] [(.int 102), (.int d3)])) _
        refine XS.icmpNo X0.here hx rfl (hb hby at_127) rfl (teq hc127_8).2 ?_
        refine XS.iconst X0.here hx rfl (hb hby at_130) ?_
        refine XS.goto X0.here hx rfl (pc0 := 131) (pc' := 135) rfl (hb hby at_131) (by decide) (by decide) ?_
        refine XS.istore X0.here hx rfl (hb hby at_135) rfl (l' := #[.val (.int p0), .val (.int p1), .val (.int p2), .val (.int p3), .val (.int p4), .val (.int p5), .val (.int 4), .val (.int d0), .val (.int d1), .val (.int d2), .val (.int d3), .val (.int d4), .val (.ref aa), .val (.ref as), .val (.int 1), .unset]) rfl ?_
        exact kt
      · have hpost : ((0 : Int32) = (1 : Int32) ∧ d1 = (46 : Int32) ∧ d2 = (109 : Int32) ∧ d3 = (102 : Int32)) ∨ ((0 : Int32) = (0 : Int32) ∧ ¬ (d1 = (46 : Int32) ∧ d2 = (109 : Int32) ∧ d3 = (102 : Int32))) := Or.inr ⟨rfl, fun q => hc127_8 q.2.2⟩
        refine ⟨(0 : Int32), T0, _, X0, e0, N0, hpost, fun target kt => ?_⟩
        refine pre9 target ?_
        show Steps p.tables e below (T0.setTop (mkF m 127 #[.val (.int p0), .val (.int p1), .val (.int p2), .val (.int p3), .val (.int p4), .val (.int p5), .val (.int 4), .val (.int d0), .val (.int d1), .val (.int d2), .val (.int d3), .val (.int d4), .val (.ref aa), .val (.ref as), .unset, .unset] [(.int 102), (.int d3)])) _
        refine XS.icmpYes X0.here hx rfl (pc0 := 127) (pc' := 134) rfl (hb hby at_127) rfl (feq hc127_8).2 (by decide) (by decide) ?_
        refine XS.iconst X0.here hx rfl (hb hby at_134) ?_
        refine XS.istore X0.here hx rfl (hb hby at_135) rfl (l' := #[.val (.int p0), .val (.int p1), .val (.int p2), .val (.int p3), .val (.int p4), .val (.int p5), .val (.int 4), .val (.int d0), .val (.int d1), .val (.int d2), .val (.int d3), .val (.int d4), .val (.ref aa), .val (.ref as), .val (.int 0), .unset]) rfl ?_
        exact kt
    · have hpost : ((0 : Int32) = (1 : Int32) ∧ d1 = (46 : Int32) ∧ d2 = (109 : Int32) ∧ d3 = (102 : Int32)) ∨ ((0 : Int32) = (0 : Int32) ∧ ¬ (d1 = (46 : Int32) ∧ d2 = (109 : Int32) ∧ d3 = (102 : Int32))) := Or.inr ⟨rfl, fun q => hc115_5 q.2.1⟩
      refine ⟨(0 : Int32), T0, _, X0, e0, N0, hpost, fun target kt => ?_⟩
      refine pre6 target ?_
      show Steps p.tables e below (T0.setTop (mkF m 115 #[.val (.int p0), .val (.int p1), .val (.int p2), .val (.int p3), .val (.int p4), .val (.int p5), .val (.int 4), .val (.int d0), .val (.int d1), .val (.int d2), .val (.int d3), .val (.int d4), .val (.ref aa), .val (.ref as), .unset, .unset] [(.int 109), (.int d2)])) _
      refine XS.icmpYes X0.here hx rfl (pc0 := 115) (pc' := 134) rfl (hb hby at_115) rfl (feq hc115_5).2 (by decide) (by decide) ?_
      refine XS.iconst X0.here hx rfl (hb hby at_134) ?_
      refine XS.istore X0.here hx rfl (hb hby at_135) rfl (l' := #[.val (.int p0), .val (.int p1), .val (.int p2), .val (.int p3), .val (.int p4), .val (.int p5), .val (.int 4), .val (.int d0), .val (.int d1), .val (.int d2), .val (.int d3), .val (.int d4), .val (.ref aa), .val (.ref as), .val (.int 0), .unset]) rfl ?_
      exact kt
  · have hpost : ((0 : Int32) = (1 : Int32) ∧ d1 = (46 : Int32) ∧ d2 = (109 : Int32) ∧ d3 = (102 : Int32)) ∨ ((0 : Int32) = (0 : Int32) ∧ ¬ (d1 = (46 : Int32) ∧ d2 = (109 : Int32) ∧ d3 = (102 : Int32))) := Or.inr ⟨rfl, fun q => hc103_2 q.1⟩
    refine ⟨(0 : Int32), T0, _, X0, e0, N0, hpost, fun target kt => ?_⟩
    refine pre3 target ?_
    show Steps p.tables e below (T0.setTop (mkF m 103 #[.val (.int p0), .val (.int p1), .val (.int p2), .val (.int p3), .val (.int p4), .val (.int p5), .val (.int 4), .val (.int d0), .val (.int d1), .val (.int d2), .val (.int d3), .val (.int d4), .val (.ref aa), .val (.ref as), .unset, .unset] [(.int 46), (.int d1)])) _
    refine XS.icmpYes X0.here hx rfl (pc0 := 103) (pc' := 134) rfl (hb hby at_103) rfl (feq hc103_2).2 (by decide) (by decide) ?_
    refine XS.iconst X0.here hx rfl (hb hby at_134) ?_
    refine XS.istore X0.here hx rfl (hb hby at_135) rfl (l' := #[.val (.int p0), .val (.int p1), .val (.int p2), .val (.int p3), .val (.int p4), .val (.int p5), .val (.int 4), .val (.int d0), .val (.int d1), .val (.int d2), .val (.int d3), .val (.int d4), .val (.ref aa), .val (.ref as), .val (.int 0), .unset]) rfl ?_
    exact kt
set_option maxRecDepth 65536 in
set_option maxHeartbeats 40000000 in
theorem sg_jar4 {p : Program} {l : Launch} {e : Env} {s : State} {m : MethodId} {below : List Frame} {meth : Method} {c : Code} {T0 : State} {locs : List Loc} {Z : State} {a0 : Array Value} (cS : Int32) (p0 : Int32) (p1 : Int32) (p2 : Int32) (p3 : Int32) (p4 : Int32) (p5 : Int32) (d0 : Int32) (d1 : Int32) (d2 : Int32) (d3 : Int32) (d4 : Int32) (aa : Addr) (as : Addr) (ka : ClassId) (mf : Int32) {h0 : Heap} {n0 : Nat} (X0 : Stand p l e room_1 s m #[(.int p0), (.int p1), (.int p2), (.int p3), (.int p4), (.int p5)] below meth c T0 locs 9 57) (hx : p.tables.exec = Jvm.exec) (hZ : Z.Warmed39 s.vm) (hw : ∀ d ∈ tables_1, d.before a0 Z = true) (hby : c.code = code) (hml : c.maxLocals = 16) (hown : s.vm.findClass "com/example/loomwire/loomwire/bundle/BundleContentIsBundleFilePinLaw" = some m.cls) (e0 : T0.heap = h0) (N0 : Fr n0 locs) (O0 : Old Z n0 h0) (GL : GF Z cS) (V_aa : Arv Z h0 aa ka .char (5 : Int32) [(.int d0), (.int d1), (.int d2), (.int d3), (.int d4)] (.int 0)) :
    ∃ v : Int32, ∃ (T' : State) (locs' : List Loc), Stand p l e room_1 s m #[(.int p0), (.int p1), (.int p2), (.int p3), (.int p4), (.int p5)] below meth c T' locs' 9 57 ∧ T'.heap = h0 ∧ Fr n0 locs' ∧ ((v = (1 : Int32) ∧ d0 = (46 : Int32) ∧ d1 = (106 : Int32) ∧ d2 = (97 : Int32) ∧ d3 = (114 : Int32)) ∨ (v = (0 : Int32) ∧ ¬ (d0 = (46 : Int32) ∧ d1 = (106 : Int32) ∧ d2 = (97 : Int32) ∧ d3 = (114 : Int32)))) ∧
      ∀ target, Steps p.tables e below (T'.setTop (mkF m 198 #[.val (.int p0), .val (.int p1), .val (.int p2), .val (.int p3), .val (.int p4), .val (.int p5), .val (.int 4), .val (.int d0), .val (.int d1), .val (.int d2), .val (.int d3), .val (.int d4), .val (.ref aa), .val (.ref as), .val (.int mf), .val (.int v)] [])) target → Steps p.tables e below (T0.setTop (mkF m 137 #[.val (.int p0), .val (.int p1), .val (.int p2), .val (.int p3), .val (.int p4), .val (.int p5), .val (.int 4), .val (.int d0), .val (.int d1), .val (.int d2), .val (.int d3), .val (.int d4), .val (.ref aa), .val (.ref as), .val (.int mf), .unset] [])) target := by
  have GL' := GL
  obtain ⟨GCS, GCP⟩ := GL'
  obtain ⟨cl1, Ar1, -, S1, N1_, H1, G1⟩ := id (V_aa)
  have hin1 : ¬ ((0 : Int32) < 0 ∨ cl1.slots.size ≤ ((0 : Int32)).toNatClampNeg) := inb_of S1 ⟨(by decide), (by decide)⟩
  have hat1 : cl1.slots[((0 : Int32)).toNatClampNeg]? = some (.int d0) := H1.at hin1 rfl
  have pre3 : ∀ t, Steps p.tables e below (T0.setTop (mkF m 152 #[.val (.int p0), .val (.int p1), .val (.int p2), .val (.int p3), .val (.int p4), .val (.int p5), .val (.int 4), .val (.int d0), .val (.int d1), .val (.int d2), .val (.int d3), .val (.int d4), .val (.ref aa), .val (.ref as), .val (.int mf), .unset] [(.int 46), (.int d0)])) t → Steps p.tables e below (T0.setTop (mkF m 137 #[.val (.int p0), .val (.int p1), .val (.int p2), .val (.int p3), .val (.int p4), .val (.int p5), .val (.int 4), .val (.int d0), .val (.int d1), .val (.int d2), .val (.int d3), .val (.int d4), .val (.ref aa), .val (.ref as), .val (.int mf), .unset] [])) t := fun t kt => by
    show Steps p.tables e below (T0.setTop (mkF m 137 #[.val (.int p0), .val (.int p1), .val (.int p2), .val (.int p3), .val (.int p4), .val (.int p5), .val (.int 4), .val (.int d0), .val (.int d1), .val (.int d2), .val (.int d3), .val (.int d4), .val (.ref aa), .val (.ref as), .val (.int mf), .unset] [])) _
    refine XS.iload X0.here hx rfl (hb hby at_137) rfl ?_
    refine XS.iconst X0.here hx rfl (hb hby at_139) ?_
    refine XS.icmpNo X0.here hx rfl (hb hby at_140) rfl (flt (by decide : ¬ ((4 : Int32) < (4 : Int32)))).1 ?_
    refine XS.aload X0.here hx rfl (hb hby at_143) rfl rfl ?_
    show Steps p.tables e below (T0.setTop (mkF m 145 #[.val (.int p0), .val (.int p1), .val (.int p2), .val (.int p3), .val (.int p4), .val (.int p5), .val (.int 4), .val (.int d0), .val (.int d1), .val (.int d2), .val (.int d3), .val (.int d4), .val (.ref aa), .val (.ref as), .val (.int mf), .unset] [(.ref aa)])) _
    refine XS.iload X0.here hx rfl (hb hby at_145) rfl ?_
    refine XS.iconst X0.here hx rfl (hb hby at_147) ?_
    refine XS.isub X0.here hx rfl (hb hby at_148) rfl ?_
    show Steps p.tables e below (T0.setTop (mkF m 149 #[.val (.int p0), .val (.int p1), .val (.int p2), .val (.int p3), .val (.int p4), .val (.int p5), .val (.int 4), .val (.int d0), .val (.int d1), .val (.int d2), .val (.int d3), .val (.int d4), .val (.ref aa), .val (.ref as), .val (.int mf), .unset] [(.int 0), (.ref aa)])) _
    refine X0.caload hx (j := (0 : Int32)) (v := (.int d0)) (by rw [e0]; exact Ar1.1) (State.isArrayOf_alike hZ.alike Ar1.2.1) Ar1.2.2 hin1 hat1 (g := (mkF m 149 #[.val (.int p0), .val (.int p1), .val (.int p2), .val (.int p3), .val (.int p4), .val (.int p5), .val (.int 4), .val (.int d0), .val (.int d1), .val (.int d2), .val (.int d3), .val (.int d4), .val (.ref aa), .val (.ref as), .val (.int mf), .unset] [(.int 0), (.ref aa)])) rfl rfl (hb hby at_149) _ ?_
    show Steps p.tables e below (T0.setTop (mkF m 150 #[.val (.int p0), .val (.int p1), .val (.int p2), .val (.int p3), .val (.int p4), .val (.int p5), .val (.int 4), .val (.int d0), .val (.int d1), .val (.int d2), .val (.int d3), .val (.int d4), .val (.ref aa), .val (.ref as), .val (.int mf), .unset] [(.int d0)])) _
    refine XS.bipush X0.here hx rfl (hb hby at_150) ?_
    exact kt
  by_cases hc152_2 : d0 = (46 : Int32)
  · obtain ⟨cl4, Ar4, -, S4, N4_, H4, G4⟩ := id (V_aa)
    have hin4 : ¬ ((1 : Int32) < 0 ∨ cl4.slots.size ≤ ((1 : Int32)).toNatClampNeg) := inb_of S4 ⟨(by decide), (by decide)⟩
    have hat4 : cl4.slots[((1 : Int32)).toNatClampNeg]? = some (.int d1) := H4.at hin4 rfl
    have pre6 : ∀ t, Steps p.tables e below (T0.setTop (mkF m 164 #[.val (.int p0), .val (.int p1), .val (.int p2), .val (.int p3), .val (.int p4), .val (.int p5), .val (.int 4), .val (.int d0), .val (.int d1), .val (.int d2), .val (.int d3), .val (.int d4), .val (.ref aa), .val (.ref as), .val (.int mf), .unset] [(.int 106), (.int d1)])) t → Steps p.tables e below (T0.setTop (mkF m 137 #[.val (.int p0), .val (.int p1), .val (.int p2), .val (.int p3), .val (.int p4), .val (.int p5), .val (.int 4), .val (.int d0), .val (.int d1), .val (.int d2), .val (.int d3), .val (.int d4), .val (.ref aa), .val (.ref as), .val (.int mf), .unset] [])) t := fun t kt => by
      refine pre3 t ?_
      show Steps p.tables e below (T0.setTop (mkF m 152 #[.val (.int p0), .val (.int p1), .val (.int p2), .val (.int p3), .val (.int p4), .val (.int p5), .val (.int 4), .val (.int d0), .val (.int d1), .val (.int d2), .val (.int d3), .val (.int d4), .val (.ref aa), .val (.ref as), .val (.int mf), .unset] [(.int 46), (.int d0)])) _
      refine XS.icmpNo X0.here hx rfl (hb hby at_152) rfl (teq hc152_2).2 ?_
      refine XS.aload X0.here hx rfl (hb hby at_155) rfl rfl ?_
      refine XS.iload X0.here hx rfl (hb hby at_157) rfl ?_
      refine XS.iconst X0.here hx rfl (hb hby at_159) ?_
      show Steps p.tables e below (T0.setTop (mkF m 160 #[.val (.int p0), .val (.int p1), .val (.int p2), .val (.int p3), .val (.int p4), .val (.int p5), .val (.int 4), .val (.int d0), .val (.int d1), .val (.int d2), .val (.int d3), .val (.int d4), .val (.ref aa), .val (.ref as), .val (.int mf), .unset] [(.int 3), (.int 4), (.ref aa)])) _
      refine XS.isub X0.here hx rfl (hb hby at_160) rfl ?_
      show Steps p.tables e below (T0.setTop (mkF m 161 #[.val (.int p0), .val (.int p1), .val (.int p2), .val (.int p3), .val (.int p4), .val (.int p5), .val (.int 4), .val (.int d0), .val (.int d1), .val (.int d2), .val (.int d3), .val (.int d4), .val (.ref aa), .val (.ref as), .val (.int mf), .unset] [(.int 1), (.ref aa)])) _
      refine X0.caload hx (j := (1 : Int32)) (v := (.int d1)) (by rw [e0]; exact Ar4.1) (State.isArrayOf_alike hZ.alike Ar4.2.1) Ar4.2.2 hin4 hat4 (g := (mkF m 161 #[.val (.int p0), .val (.int p1), .val (.int p2), .val (.int p3), .val (.int p4), .val (.int p5), .val (.int 4), .val (.int d0), .val (.int d1), .val (.int d2), .val (.int d3), .val (.int d4), .val (.ref aa), .val (.ref as), .val (.int mf), .unset] [(.int 1), (.ref aa)])) rfl rfl (hb hby at_161) _ ?_
      show Steps p.tables e below (T0.setTop (mkF m 162 #[.val (.int p0), .val (.int p1), .val (.int p2), .val (.int p3), .val (.int p4), .val (.int p5), .val (.int 4), .val (.int d0), .val (.int d1), .val (.int d2), .val (.int d3), .val (.int d4), .val (.ref aa), .val (.ref as), .val (.int mf), .unset] [(.int d1)])) _
      refine XS.bipush X0.here hx rfl (hb hby at_162) ?_
      exact kt
    by_cases hc164_5 : d1 = (106 : Int32)
    · obtain ⟨cl7, Ar7, -, S7, N7_, H7, G7⟩ := id (V_aa)
      have hin7 : ¬ ((2 : Int32) < 0 ∨ cl7.slots.size ≤ ((2 : Int32)).toNatClampNeg) := inb_of S7 ⟨(by decide), (by decide)⟩
      have hat7 : cl7.slots[((2 : Int32)).toNatClampNeg]? = some (.int d2) := H7.at hin7 rfl
      have pre9 : ∀ t, Steps p.tables e below (T0.setTop (mkF m 176 #[.val (.int p0), .val (.int p1), .val (.int p2), .val (.int p3), .val (.int p4), .val (.int p5), .val (.int 4), .val (.int d0), .val (.int d1), .val (.int d2), .val (.int d3), .val (.int d4), .val (.ref aa), .val (.ref as), .val (.int mf), .unset] [(.int 97), (.int d2)])) t → Steps p.tables e below (T0.setTop (mkF m 137 #[.val (.int p0), .val (.int p1), .val (.int p2), .val (.int p3), .val (.int p4), .val (.int p5), .val (.int 4), .val (.int d0), .val (.int d1), .val (.int d2), .val (.int d3), .val (.int d4), .val (.ref aa), .val (.ref as), .val (.int mf), .unset] [])) t := fun t kt => by
        refine pre6 t ?_
        show Steps p.tables e below (T0.setTop (mkF m 164 #[.val (.int p0), .val (.int p1), .val (.int p2), .val (.int p3), .val (.int p4), .val (.int p5), .val (.int 4), .val (.int d0), .val (.int d1), .val (.int d2), .val (.int d3), .val (.int d4), .val (.ref aa), .val (.ref as), .val (.int mf), .unset] [(.int 106), (.int d1)])) _
        refine XS.icmpNo X0.here hx rfl (hb hby at_164) rfl (teq hc164_5).2 ?_
        refine XS.aload X0.here hx rfl (hb hby at_167) rfl rfl ?_
        refine XS.iload X0.here hx rfl (hb hby at_169) rfl ?_
        refine XS.iconst X0.here hx rfl (hb hby at_171) ?_
        show Steps p.tables e below (T0.setTop (mkF m 172 #[.val (.int p0), .val (.int p1), .val (.int p2), .val (.int p3), .val (.int p4), .val (.int p5), .val (.int 4), .val (.int d0), .val (.int d1), .val (.int d2), .val (.int d3), .val (.int d4), .val (.ref aa), .val (.ref as), .val (.int mf), .unset] [(.int 2), (.int 4), (.ref aa)])) _
        refine XS.isub X0.here hx rfl (hb hby at_172) rfl ?_
        show Steps p.tables e below (T0.setTop (mkF m 173 #[.val (.int p0), .val (.int p1), .val (.int p2), .val (.int p3), .val (.int p4), .val (.int p5), .val (.int 4), .val (.int d0), .val (.int d1), .val (.int d2), .val (.int d3), .val (.int d4), .val (.ref aa), .val (.ref as), .val (.int mf), .unset] [(.int 2), (.ref aa)])) _
        refine X0.caload hx (j := (2 : Int32)) (v := (.int d2)) (by rw [e0]; exact Ar7.1) (State.isArrayOf_alike hZ.alike Ar7.2.1) Ar7.2.2 hin7 hat7 (g := (mkF m 173 #[.val (.int p0), .val (.int p1), .val (.int p2), .val (.int p3), .val (.int p4), .val (.int p5), .val (.int 4), .val (.int d0), .val (.int d1), .val (.int d2), .val (.int d3), .val (.int d4), .val (.ref aa), .val (.ref as), .val (.int mf), .unset] [(.int 2), (.ref aa)])) rfl rfl (hb hby at_173) _ ?_
        show Steps p.tables e below (T0.setTop (mkF m 174 #[.val (.int p0), .val (.int p1), .val (.int p2), .val (.int p3), .val (.int p4), .val (.int p5), .val (.int 4), .val (.int d0), .val (.int d1), .val (.int d2), .val (.int d3), .val (.int d4), .val (.ref aa), .val (.ref as), .val (.int mf), .unset] [(.int d2)])) _
        refine XS.bipush X0.here hx rfl (hb hby at_174) ?_
        exact kt
      by_cases hc176_8 : d2 = (97 : Int32)
      · obtain ⟨cl10, Ar10, -, S10, N10_, H10, G10⟩ := id (V_aa)
        have hin10 : ¬ ((3 : Int32) < 0 ∨ cl10.slots.size ≤ ((3 : Int32)).toNatClampNeg) := inb_of S10 ⟨(by decide), (by decide)⟩
        have hat10 : cl10.slots[((3 : Int32)).toNatClampNeg]? = some (.int d3) := H10.at hin10 rfl
        have pre12 : ∀ t, Steps p.tables e below (T0.setTop (mkF m 188 #[.val (.int p0), .val (.int p1), .val (.int p2), .val (.int p3), .val (.int p4), .val (.int p5), .val (.int 4), .val (.int d0), .val (.int d1), .val (.int d2), .val (.int d3), .val (.int d4), .val (.ref aa), .val (.ref as), .val (.int mf), .unset] [(.int 114), (.int d3)])) t → Steps p.tables e below (T0.setTop (mkF m 137 #[.val (.int p0), .val (.int p1), .val (.int p2), .val (.int p3), .val (.int p4), .val (.int p5), .val (.int 4), .val (.int d0), .val (.int d1), .val (.int d2), .val (.int d3), .val (.int d4), .val (.ref aa), .val (.ref as), .val (.int mf), .unset] [])) t := fun t kt => by
          refine pre9 t ?_
          show Steps p.tables e below (T0.setTop (mkF m 176 #[.val (.int p0), .val (.int p1), .val (.int p2), .val (.int p3), .val (.int p4), .val (.int p5), .val (.int 4), .val (.int d0), .val (.int d1), .val (.int d2), .val (.int d3), .val (.int d4), .val (.ref aa), .val (.ref as), .val (.int mf), .unset] [(.int 97), (.int d2)])) _
          refine XS.icmpNo X0.here hx rfl (hb hby at_176) rfl (teq hc176_8).2 ?_
          refine XS.aload X0.here hx rfl (hb hby at_179) rfl rfl ?_
          refine XS.iload X0.here hx rfl (hb hby at_181) rfl ?_
          refine XS.iconst X0.here hx rfl (hb hby at_183) ?_
          show Steps p.tables e below (T0.setTop (mkF m 184 #[.val (.int p0), .val (.int p1), .val (.int p2), .val (.int p3), .val (.int p4), .val (.int p5), .val (.int 4), .val (.int d0), .val (.int d1), .val (.int d2), .val (.int d3), .val (.int d4), .val (.ref aa), .val (.ref as), .val (.int mf), .unset] [(.int 1), (.int 4), (.ref aa)])) _
          refine XS.isub X0.here hx rfl (hb hby at_184) rfl ?_
          show Steps p.tables e below (T0.setTop (mkF m 185 #[.val (.int p0), .val (.int p1), .val (.int p2), .val (.int p3), .val (.int p4), .val (.int p5), .val (.int 4), .val (.int d0), .val (.int d1), .val (.int d2), .val (.int d3), .val (.int d4), .val (.ref aa), .val (.ref as), .val (.int mf), .unset] [(.int 3), (.ref aa)])) _
          refine X0.caload hx (j := (3 : Int32)) (v := (.int d3)) (by rw [e0]; exact Ar10.1) (State.isArrayOf_alike hZ.alike Ar10.2.1) Ar10.2.2 hin10 hat10 (g := (mkF m 185 #[.val (.int p0), .val (.int p1), .val (.int p2), .val (.int p3), .val (.int p4), .val (.int p5), .val (.int 4), .val (.int d0), .val (.int d1), .val (.int d2), .val (.int d3), .val (.int d4), .val (.ref aa), .val (.ref as), .val (.int mf), .unset] [(.int 3), (.ref aa)])) rfl rfl (hb hby at_185) _ ?_
          show Steps p.tables e below (T0.setTop (mkF m 186 #[.val (.int p0), .val (.int p1), .val (.int p2), .val (.int p3), .val (.int p4), .val (.int p5), .val (.int 4), .val (.int d0), .val (.int d1), .val (.int d2), .val (.int d3), .val (.int d4), .val (.ref aa), .val (.ref as), .val (.int mf), .unset] [(.int d3)])) _
          refine XS.bipush X0.here hx rfl (hb hby at_186) ?_
          exact kt
        by_cases hc188_11 : d3 = (114 : Int32)
        · have hpost : ((1 : Int32) = (1 : Int32) ∧ d0 = (46 : Int32) ∧ d1 = (106 : Int32) ∧ d2 = (97 : Int32) ∧ d3 = (114 : Int32)) ∨ ((1 : Int32) = (0 : Int32) ∧ ¬ (d0 = (46 : Int32) ∧ d1 = (106 : Int32) ∧ d2 = (97 : Int32) ∧ d3 = (114 : Int32))) := Or.inl ⟨rfl, hc152_2, hc164_5, hc176_8, hc188_11⟩
          refine ⟨(1 : Int32), T0, _, X0, e0, N0, hpost, fun target kt => ?_⟩
          refine pre12 target ?_
          show Steps p.tables e below (T0.setTop (mkF m 188 #[.val (.int p0), .val (.int p1), .val (.int p2), .val (.int p3), .val (.int p4), .val (.int p5), .val (.int 4), .val (.int d0), .val (.int d1), .val (.int d2), .val (.int d3), .val (.int d4), .val (.ref aa), .val (.ref as), .val (.int mf), .unset] [(.int 114), (.int d3)])) _
          refine XS.icmpNo X0.here hx rfl (hb hby at_188) rfl (teq hc188_11).2 ?_
          refine XS.iconst X0.here hx rfl (hb hby at_191) ?_
          refine XS.goto X0.here hx rfl (pc0 := 192) (pc' := 196) rfl (hb hby at_192) (by decide) (by decide) ?_
          refine XS.istore X0.here hx rfl (hb hby at_196) rfl (l' := #[.val (.int p0), .val (.int p1), .val (.int p2), .val (.int p3), .val (.int p4), .val (.int p5), .val (.int 4), .val (.int d0), .val (.int d1), .val (.int d2), .val (.int d3), .val (.int d4), .val (.ref aa), .val (.ref as), .val (.int mf), .val (.int 1)]) rfl ?_
          exact kt
        · have hpost : ((0 : Int32) = (1 : Int32) ∧ d0 = (46 : Int32) ∧ d1 = (106 : Int32) ∧ d2 = (97 : Int32) ∧ d3 = (114 : Int32)) ∨ ((0 : Int32) = (0 : Int32) ∧ ¬ (d0 = (46 : Int32) ∧ d1 = (106 : Int32) ∧ d2 = (97 : Int32) ∧ d3 = (114 : Int32))) := Or.inr ⟨rfl, fun q => hc188_11 q.2.2.2⟩
          refine ⟨(0 : Int32), T0, _, X0, e0, N0, hpost, fun target kt => ?_⟩
          refine pre12 target ?_
          show Steps p.tables e below (T0.setTop (mkF m 188 #[.val (.int p0), .val (.int p1), .val (.int p2), .val (.int p3), .val (.int p4), .val (.int p5), .val (.int 4), .val (.int d0), .val (.int d1), .val (.int d2), .val (.int d3), .val (.int d4), .val (.ref aa), .val (.ref as), .val (.int mf), .unset] [(.int 114), (.int d3)])) _
          refine XS.icmpYes X0.here hx rfl (pc0 := 188) (pc' := 195) rfl (hb hby at_188) rfl (feq hc188_11).2 (by decide) (by decide) ?_
          refine XS.iconst X0.here hx rfl (hb hby at_195) ?_
          refine XS.istore X0.here hx rfl (hb hby at_196) rfl (l' := #[.val (.int p0), .val (.int p1), .val (.int p2), .val (.int p3), .val (.int p4), .val (.int p5), .val (.int 4), .val (.int d0), .val (.int d1), .val (.int d2), .val (.int d3), .val (.int d4), .val (.ref aa), .val (.ref as), .val (.int mf), .val (.int 0)]) rfl ?_
          exact kt
      · have hpost : ((0 : Int32) = (1 : Int32) ∧ d0 = (46 : Int32) ∧ d1 = (106 : Int32) ∧ d2 = (97 : Int32) ∧ d3 = (114 : Int32)) ∨ ((0 : Int32) = (0 : Int32) ∧ ¬ (d0 = (46 : Int32) ∧ d1 = (106 : Int32) ∧ d2 = (97 : Int32) ∧ d3 = (114 : Int32))) := Or.inr ⟨rfl, fun q => hc176_8 q.2.2.1⟩
        refine ⟨(0 : Int32), T0, _, X0, e0, N0, hpost, fun target kt => ?_⟩
        refine pre9 target ?_
        show Steps p.tables e below (T0.setTop (mkF m 176 #[.val (.int p0), .val (.int p1), .val (.int p2), .val (.int p3), .val (.int p4), .val (.int p5), .val (.int 4), .val (.int d0), .val (.int d1), .val (.int d2), .val (.int d3), .val (.int d4), .val (.ref aa), .val (.ref as), .val (.int mf), .unset] [(.int 97), (.int d2)])) _
        refine XS.icmpYes X0.here hx rfl (pc0 := 176) (pc' := 195) rfl (hb hby at_176) rfl (feq hc176_8).2 (by decide) (by decide) ?_
        refine XS.iconst X0.here hx rfl (hb hby at_195) ?_
        refine XS.istore X0.here hx rfl (hb hby at_196) rfl (l' := #[.val (.int p0), .val (.int p1), .val (.int p2), .val (.int p3), .val (.int p4), .val (.int p5), .val (.int 4), .val (.int d0), .val (.int d1), .val (.int d2), .val (.int d3), .val (.int d4), .val (.ref aa), .val (.ref as), .val (.int mf), .val (.int 0)]) rfl ?_
        exact kt
    · have hpost : ((0 : Int32) = (1 : Int32) ∧ d0 = (46 : Int32) ∧ d1 = (106 : Int32) ∧ d2 = (97 : Int32) ∧ d3 = (114 : Int32)) ∨ ((0 : Int32) = (0 : Int32) ∧ ¬ (d0 = (46 : Int32) ∧ d1 = (106 : Int32) ∧ d2 = (97 : Int32) ∧ d3 = (114 : Int32))) := Or.inr ⟨rfl, fun q => hc164_5 q.2.1⟩
      refine ⟨(0 : Int32), T0, _, X0, e0, N0, hpost, fun target kt => ?_⟩
      refine pre6 target ?_
      show Steps p.tables e below (T0.setTop (mkF m 164 #[.val (.int p0), .val (.int p1), .val (.int p2), .val (.int p3), .val (.int p4), .val (.int p5), .val (.int 4), .val (.int d0), .val (.int d1), .val (.int d2), .val (.int d3), .val (.int d4), .val (.ref aa), .val (.ref as), .val (.int mf), .unset] [(.int 106), (.int d1)])) _
      refine XS.icmpYes X0.here hx rfl (pc0 := 164) (pc' := 195) rfl (hb hby at_164) rfl (feq hc164_5).2 (by decide) (by decide) ?_
      refine XS.iconst X0.here hx rfl (hb hby at_195) ?_
      refine XS.istore X0.here hx rfl (hb hby at_196) rfl (l' := #[.val (.int p0), .val (.int p1), .val (.int p2), .val (.int p3), .val (.int p4), .val (.int p5), .val (.int 4), .val (.int d0), .val (.int d1), .val (.int d2), .val (.int d3), .val (.int d4), .val (.ref aa), .val (.ref as), .val (.int mf), .val (.int 0)]) rfl ?_
      exact kt
  · have hpost : ((0 : Int32) = (1 : Int32) ∧ d0 = (46 : Int32) ∧ d1 = (106 : Int32) ∧ d2 = (97 : Int32) ∧ d3 = (114 : Int32)) ∨ ((0 : Int32) = (0 : Int32) ∧ ¬ (d0 = (46 : Int32) ∧ d1 = (106 : Int32) ∧ d2 = (97 : Int32) ∧ d3 = (114 : Int32))) := Or.inr ⟨rfl, fun q => hc152_2 q.1⟩
    refine ⟨(0 : Int32), T0, _, X0, e0, N0, hpost, fun target kt => ?_⟩
    refine pre3 target ?_
    show Steps p.tables e below (T0.setTop (mkF m 152 #[.val (.int p0), .val (.int p1), .val (.int p2), .val (.int p3), .val (.int p4), .val (.int p5), .val (.int 4), .val (.int d0), .val (.int d1), .val (.int d2), .val (.int d3), .val (.int d4), .val (.ref aa), .val (.ref as), .val (.int mf), .unset] [(.int 46), (.int d0)])) _
    refine XS.icmpYes X0.here hx rfl (pc0 := 152) (pc' := 195) rfl (hb hby at_152) rfl (feq hc152_2).2 (by decide) (by decide) ?_
    refine XS.iconst X0.here hx rfl (hb hby at_195) ?_
    refine XS.istore X0.here hx rfl (hb hby at_196) rfl (l' := #[.val (.int p0), .val (.int p1), .val (.int p2), .val (.int p3), .val (.int p4), .val (.int p5), .val (.int 4), .val (.int d0), .val (.int d1), .val (.int d2), .val (.int d3), .val (.int d4), .val (.ref aa), .val (.ref as), .val (.int mf), .val (.int 0)]) rfl ?_
    exact kt
set_option maxRecDepth 65536 in
set_option maxHeartbeats 40000000 in
theorem sg_mf5 {p : Program} {l : Launch} {e : Env} {s : State} {m : MethodId} {below : List Frame} {meth : Method} {c : Code} {T0 : State} {locs : List Loc} {Z : State} {a0 : Array Value} (cS : Int32) (p0 : Int32) (p1 : Int32) (p2 : Int32) (p3 : Int32) (p4 : Int32) (p5 : Int32) (d0 : Int32) (d1 : Int32) (d2 : Int32) (d3 : Int32) (d4 : Int32) (aa : Addr) (as : Addr) (ka : ClassId) {h0 : Heap} {n0 : Nat} (X0 : Stand p l e room_1 s m #[(.int p0), (.int p1), (.int p2), (.int p3), (.int p4), (.int p5)] below meth c T0 locs 9 59) (hx : p.tables.exec = Jvm.exec) (hZ : Z.Warmed39 s.vm) (hw : ∀ d ∈ tables_1, d.before a0 Z = true) (hby : c.code = code) (hml : c.maxLocals = 16) (hown : s.vm.findClass "com/example/loomwire/loomwire/bundle/BundleContentIsBundleFilePinLaw" = some m.cls) (e0 : T0.heap = h0) (N0 : Fr n0 locs) (O0 : Old Z n0 h0) (GL : GF Z cS) (V_aa : Arv Z h0 aa ka .char (5 : Int32) [(.int d0), (.int d1), (.int d2), (.int d3), (.int d4)] (.int 0)) :
    ∃ v : Int32, ∃ (T' : State) (locs' : List Loc), Stand p l e room_1 s m #[(.int p0), (.int p1), (.int p2), (.int p3), (.int p4), (.int p5)] below meth c T' locs' 9 59 ∧ T'.heap = h0 ∧ Fr n0 locs' ∧ ((v = (1 : Int32) ∧ d2 = (46 : Int32) ∧ d3 = (109 : Int32) ∧ d4 = (102 : Int32)) ∨ (v = (0 : Int32) ∧ ¬ (d2 = (46 : Int32) ∧ d3 = (109 : Int32) ∧ d4 = (102 : Int32)))) ∧
      ∀ target, Steps p.tables e below (T'.setTop (mkF m 137 #[.val (.int p0), .val (.int p1), .val (.int p2), .val (.int p3), .val (.int p4), .val (.int p5), .val (.int 5), .val (.int d0), .val (.int d1), .val (.int d2), .val (.int d3), .val (.int d4), .val (.ref aa), .val (.ref as), .val (.int v), .unset] [])) target → Steps p.tables e below (T0.setTop (mkF m 88 #[.val (.int p0), .val (.int p1), .val (.int p2), .val (.int p3), .val (.int p4), .val (.int p5), .val (.int 5), .val (.int d0), .val (.int d1), .val (.int d2), .val (.int d3), .val (.int d4), .val (.ref aa), .val (.ref as), .unset, .unset] [])) target := by
  have GL' := GL
  obtain ⟨GCS, GCP⟩ := GL'
  obtain ⟨cl1, Ar1, -, S1, N1_, H1, G1⟩ := id (V_aa)
  have hin1 : ¬ ((2 : Int32) < 0 ∨ cl1.slots.size ≤ ((2 : Int32)).toNatClampNeg) := inb_of S1 ⟨(by decide), (by decide)⟩
  have hat1 : cl1.slots[((2 : Int32)).toNatClampNeg]? = some (.int d2) := H1.at hin1 rfl
  have pre3 : ∀ t, Steps p.tables e below (T0.setTop (mkF m 103 #[.val (.int p0), .val (.int p1), .val (.int p2), .val (.int p3), .val (.int p4), .val (.int p5), .val (.int 5), .val (.int d0), .val (.int d1), .val (.int d2), .val (.int d3), .val (.int d4), .val (.ref aa), .val (.ref as), .unset, .unset] [(.int 46), (.int d2)])) t → Steps p.tables e below (T0.setTop (mkF m 88 #[.val (.int p0), .val (.int p1), .val (.int p2), .val (.int p3), .val (.int p4), .val (.int p5), .val (.int 5), .val (.int d0), .val (.int d1), .val (.int d2), .val (.int d3), .val (.int d4), .val (.ref aa), .val (.ref as), .unset, .unset] [])) t := fun t kt => by
    show Steps p.tables e below (T0.setTop (mkF m 88 #[.val (.int p0), .val (.int p1), .val (.int p2), .val (.int p3), .val (.int p4), .val (.int p5), .val (.int 5), .val (.int d0), .val (.int d1), .val (.int d2), .val (.int d3), .val (.int d4), .val (.ref aa), .val (.ref as), .unset, .unset] [])) _
    refine XS.iload X0.here hx rfl (hb hby at_88) rfl ?_
    refine XS.iconst X0.here hx rfl (hb hby at_90) ?_
    refine XS.icmpNo X0.here hx rfl (hb hby at_91) rfl (flt (by decide : ¬ ((5 : Int32) < (3 : Int32)))).1 ?_
    refine XS.aload X0.here hx rfl (hb hby at_94) rfl rfl ?_
    show Steps p.tables e below (T0.setTop (mkF m 96 #[.val (.int p0), .val (.int p1), .val (.int p2), .val (.int p3), .val (.int p4), .val (.int p5), .val (.int 5), .val (.int d0), .val (.int d1), .val (.int d2), .val (.int d3), .val (.int d4), .val (.ref aa), .val (.ref as), .unset, .unset] [(.ref aa)])) _
    refine XS.iload X0.here hx rfl (hb hby at_96) rfl ?_
    refine XS.iconst X0.here hx rfl (hb hby at_98) ?_
    refine XS.isub X0.here hx rfl (hb hby at_99) rfl ?_
    show Steps p.tables e below (T0.setTop (mkF m 100 #[.val (.int p0), .val (.int p1), .val (.int p2), .val (.int p3), .val (.int p4), .val (.int p5), .val (.int 5), .val (.int d0), .val (.int d1), .val (.int d2), .val (.int d3), .val (.int d4), .val (.ref aa), .val (.ref as), .unset, .unset] [(.int 2), (.ref aa)])) _
    refine X0.caload hx (j := (2 : Int32)) (v := (.int d2)) (by rw [e0]; exact Ar1.1) (State.isArrayOf_alike hZ.alike Ar1.2.1) Ar1.2.2 hin1 hat1 (g := (mkF m 100 #[.val (.int p0), .val (.int p1), .val (.int p2), .val (.int p3), .val (.int p4), .val (.int p5), .val (.int 5), .val (.int d0), .val (.int d1), .val (.int d2), .val (.int d3), .val (.int d4), .val (.ref aa), .val (.ref as), .unset, .unset] [(.int 2), (.ref aa)])) rfl rfl (hb hby at_100) _ ?_
    show Steps p.tables e below (T0.setTop (mkF m 101 #[.val (.int p0), .val (.int p1), .val (.int p2), .val (.int p3), .val (.int p4), .val (.int p5), .val (.int 5), .val (.int d0), .val (.int d1), .val (.int d2), .val (.int d3), .val (.int d4), .val (.ref aa), .val (.ref as), .unset, .unset] [(.int d2)])) _
    refine XS.bipush X0.here hx rfl (hb hby at_101) ?_
    exact kt
  by_cases hc103_2 : d2 = (46 : Int32)
  · obtain ⟨cl4, Ar4, -, S4, N4_, H4, G4⟩ := id (V_aa)
    have hin4 : ¬ ((3 : Int32) < 0 ∨ cl4.slots.size ≤ ((3 : Int32)).toNatClampNeg) := inb_of S4 ⟨(by decide), (by decide)⟩
    have hat4 : cl4.slots[((3 : Int32)).toNatClampNeg]? = some (.int d3) := H4.at hin4 rfl
    have pre6 : ∀ t, Steps p.tables e below (T0.setTop (mkF m 115 #[.val (.int p0), .val (.int p1), .val (.int p2), .val (.int p3), .val (.int p4), .val (.int p5), .val (.int 5), .val (.int d0), .val (.int d1), .val (.int d2), .val (.int d3), .val (.int d4), .val (.ref aa), .val (.ref as), .unset, .unset] [(.int 109), (.int d3)])) t → Steps p.tables e below (T0.setTop (mkF m 88 #[.val (.int p0), .val (.int p1), .val (.int p2), .val (.int p3), .val (.int p4), .val (.int p5), .val (.int 5), .val (.int d0), .val (.int d1), .val (.int d2), .val (.int d3), .val (.int d4), .val (.ref aa), .val (.ref as), .unset, .unset] [])) t := fun t kt => by
      refine pre3 t ?_
      show Steps p.tables e below (T0.setTop (mkF m 103 #[.val (.int p0), .val (.int p1), .val (.int p2), .val (.int p3), .val (.int p4), .val (.int p5), .val (.int 5), .val (.int d0), .val (.int d1), .val (.int d2), .val (.int d3), .val (.int d4), .val (.ref aa), .val (.ref as), .unset, .unset] [(.int 46), (.int d2)])) _
      refine XS.icmpNo X0.here hx rfl (hb hby at_103) rfl (teq hc103_2).2 ?_
      refine XS.aload X0.here hx rfl (hb hby at_106) rfl rfl ?_
      refine XS.iload X0.here hx rfl (hb hby at_108) rfl ?_
      refine XS.iconst X0.here hx rfl (hb hby at_110) ?_
      show Steps p.tables e below (T0.setTop (mkF m 111 #[.val (.int p0), .val (.int p1), .val (.int p2), .val (.int p3), .val (.int p4), .val (.int p5), .val (.int 5), .val (.int d0), .val (.int d1), .val (.int d2), .val (.int d3), .val (.int d4), .val (.ref aa), .val (.ref as), .unset, .unset] [(.int 2), (.int 5), (.ref aa)])) _
      refine XS.isub X0.here hx rfl (hb hby at_111) rfl ?_
      show Steps p.tables e below (T0.setTop (mkF m 112 #[.val (.int p0), .val (.int p1), .val (.int p2), .val (.int p3), .val (.int p4), .val (.int p5), .val (.int 5), .val (.int d0), .val (.int d1), .val (.int d2), .val (.int d3), .val (.int d4), .val (.ref aa), .val (.ref as), .unset, .unset] [(.int 3), (.ref aa)])) _
      refine X0.caload hx (j := (3 : Int32)) (v := (.int d3)) (by rw [e0]; exact Ar4.1) (State.isArrayOf_alike hZ.alike Ar4.2.1) Ar4.2.2 hin4 hat4 (g := (mkF m 112 #[.val (.int p0), .val (.int p1), .val (.int p2), .val (.int p3), .val (.int p4), .val (.int p5), .val (.int 5), .val (.int d0), .val (.int d1), .val (.int d2), .val (.int d3), .val (.int d4), .val (.ref aa), .val (.ref as), .unset, .unset] [(.int 3), (.ref aa)])) rfl rfl (hb hby at_112) _ ?_
      show Steps p.tables e below (T0.setTop (mkF m 113 #[.val (.int p0), .val (.int p1), .val (.int p2), .val (.int p3), .val (.int p4), .val (.int p5), .val (.int 5), .val (.int d0), .val (.int d1), .val (.int d2), .val (.int d3), .val (.int d4), .val (.ref aa), .val (.ref as), .unset, .unset] [(.int d3)])) _
      refine XS.bipush X0.here hx rfl (hb hby at_113) ?_
      exact kt
    by_cases hc115_5 : d3 = (109 : Int32)
    · obtain ⟨cl7, Ar7, -, S7, N7_, H7, G7⟩ := id (V_aa)
      have hin7 : ¬ ((4 : Int32) < 0 ∨ cl7.slots.size ≤ ((4 : Int32)).toNatClampNeg) := inb_of S7 ⟨(by decide), (by decide)⟩
      have hat7 : cl7.slots[((4 : Int32)).toNatClampNeg]? = some (.int d4) := H7.at hin7 rfl
      have pre9 : ∀ t, Steps p.tables e below (T0.setTop (mkF m 127 #[.val (.int p0), .val (.int p1), .val (.int p2), .val (.int p3), .val (.int p4), .val (.int p5), .val (.int 5), .val (.int d0), .val (.int d1), .val (.int d2), .val (.int d3), .val (.int d4), .val (.ref aa), .val (.ref as), .unset, .unset] [(.int 102), (.int d4)])) t → Steps p.tables e below (T0.setTop (mkF m 88 #[.val (.int p0), .val (.int p1), .val (.int p2), .val (.int p3), .val (.int p4), .val (.int p5), .val (.int 5), .val (.int d0), .val (.int d1), .val (.int d2), .val (.int d3), .val (.int d4), .val (.ref aa), .val (.ref as), .unset, .unset] [])) t := fun t kt => by
        refine pre6 t ?_
        show Steps p.tables e below (T0.setTop (mkF m 115 #[.val (.int p0), .val (.int p1), .val (.int p2), .val (.int p3), .val (.int p4), .val (.int p5), .val (.int 5), .val (.int d0), .val (.int d1), .val (.int d2), .val (.int d3), .val (.int d4), .val (.ref aa), .val (.ref as), .unset, .unset] [(.int 109), (.int d3)])) _
        refine XS.icmpNo X0.here hx rfl (hb hby at_115) rfl (teq hc115_5).2 ?_
        refine XS.aload X0.here hx rfl (hb hby at_118) rfl rfl ?_
        refine XS.iload X0.here hx rfl (hb hby at_120) rfl ?_
        refine XS.iconst X0.here hx rfl (hb hby at_122) ?_
        show Steps p.tables e below (T0.setTop (mkF m 123 #[.val (.int p0), .val (.int p1), .val (.int p2), .val (.int p3), .val (.int p4), .val (.int p5), .val (.int 5), .val (.int d0), .val (.int d1), .val (.int d2), .val (.int d3), .val (.int d4), .val (.ref aa), .val (.ref as), .unset, .unset] [(.int 1), (.int 5), (.ref aa)])) _
        refine XS.isub X0.here hx rfl (hb hby at_123) rfl ?_
        show Steps p.tables e below (T0.setTop (mkF m 124 #[.val (.int p0), .val (.int p1), .val (.int p2), .val (.int p3), .val (.int p4), .val (.int p5), .val (.int 5), .val (.int d0), .val (.int d1), .val (.int d2), .val (.int d3), .val (.int d4), .val (.ref aa), .val (.ref as), .unset, .unset] [(.int 4), (.ref aa)])) _
        refine X0.caload hx (j := (4 : Int32)) (v := (.int d4)) (by rw [e0]; exact Ar7.1) (State.isArrayOf_alike hZ.alike Ar7.2.1) Ar7.2.2 hin7 hat7 (g := (mkF m 124 #[.val (.int p0), .val (.int p1), .val (.int p2), .val (.int p3), .val (.int p4), .val (.int p5), .val (.int 5), .val (.int d0), .val (.int d1), .val (.int d2), .val (.int d3), .val (.int d4), .val (.ref aa), .val (.ref as), .unset, .unset] [(.int 4), (.ref aa)])) rfl rfl (hb hby at_124) _ ?_
        show Steps p.tables e below (T0.setTop (mkF m 125 #[.val (.int p0), .val (.int p1), .val (.int p2), .val (.int p3), .val (.int p4), .val (.int p5), .val (.int 5), .val (.int d0), .val (.int d1), .val (.int d2), .val (.int d3), .val (.int d4), .val (.ref aa), .val (.ref as), .unset, .unset] [(.int d4)])) _
        refine XS.bipush X0.here hx rfl (hb hby at_125) ?_
        exact kt
      by_cases hc127_8 : d4 = (102 : Int32)
      · have hpost : ((1 : Int32) = (1 : Int32) ∧ d2 = (46 : Int32) ∧ d3 = (109 : Int32) ∧ d4 = (102 : Int32)) ∨ ((1 : Int32) = (0 : Int32) ∧ ¬ (d2 = (46 : Int32) ∧ d3 = (109 : Int32) ∧ d4 = (102 : Int32))) := Or.inl ⟨rfl, hc103_2, hc115_5, hc127_8⟩
        refine ⟨(1 : Int32), T0, _, X0, e0, N0, hpost, fun target kt => ?_⟩
        refine pre9 target ?_
        show Steps p.tables e below (T0.setTop (mkF m 127 #[.val (.int p0), .val (.int p1), .val (.int p2), .val (.int p3), .val (.int p4), .val (.int p5), .val (.int 5), .val (.int d0), .val (.int d1), .val (.int d2), .val (.int d3), .val (.int d4), .val (.ref aa), .val (.ref as), .unset, .unset] [(.int 102), (.int d4)])) _
        refine XS.icmpNo X0.here hx rfl (hb hby at_127) rfl (teq hc127_8).2 ?_
        refine XS.iconst X0.here hx rfl (hb hby at_130) ?_
        refine XS.goto X0.here hx rfl (pc0 := 131) (pc' := 135) rfl (hb hby at_131) (by decide) (by decide) ?_
        refine XS.istore X0.here hx rfl (hb hby at_135) rfl (l' := #[.val (.int p0), .val (.int p1), .val (.int p2), .val (.int p3), .val (.int p4), .val (.int p5), .val (.int 5), .val (.int d0), .val (.int d1), .val (.int d2), .val (.int d3), .val (.int d4), .val (.ref aa), .val (.ref as), .val (.int 1), .unset]) rfl ?_
        exact kt
      · have hpost : ((0 : Int32) = (1 : Int32) ∧ d2 = (46 : Int32) ∧ d3 = (109 : Int32) ∧ d4 = (102 : Int32)) ∨ ((0 : Int32) = (0 : Int32) ∧ ¬ (d2 = (46 : Int32) ∧ d3 = (109 : Int32) ∧ d4 = (102 : Int32))) := Or.inr ⟨rfl, fun q => hc127_8 q.2.2⟩
        refine ⟨(0 : Int32), T0, _, X0, e0, N0, hpost, fun target kt => ?_⟩
        refine pre9 target ?_
        show Steps p.tables e below (T0.setTop (mkF m 127 #[.val (.int p0), .val (.int p1), .val (.int p2), .val (.int p3), .val (.int p4), .val (.int p5), .val (.int 5), .val (.int d0), .val (.int d1), .val (.int d2), .val (.int d3), .val (.int d4), .val (.ref aa), .val (.ref as), .unset, .unset] [(.int 102), (.int d4)])) _
        refine XS.icmpYes X0.here hx rfl (pc0 := 127) (pc' := 134) rfl (hb hby at_127) rfl (feq hc127_8).2 (by decide) (by decide) ?_
        refine XS.iconst X0.here hx rfl (hb hby at_134) ?_
        refine XS.istore X0.here hx rfl (hb hby at_135) rfl (l' := #[.val (.int p0), .val (.int p1), .val (.int p2), .val (.int p3), .val (.int p4), .val (.int p5), .val (.int 5), .val (.int d0), .val (.int d1), .val (.int d2), .val (.int d3), .val (.int d4), .val (.ref aa), .val (.ref as), .val (.int 0), .unset]) rfl ?_
        exact kt
    · have hpost : ((0 : Int32) = (1 : Int32) ∧ d2 = (46 : Int32) ∧ d3 = (109 : Int32) ∧ d4 = (102 : Int32)) ∨ ((0 : Int32) = (0 : Int32) ∧ ¬ (d2 = (46 : Int32) ∧ d3 = (109 : Int32) ∧ d4 = (102 : Int32))) := Or.inr ⟨rfl, fun q => hc115_5 q.2.1⟩
      refine ⟨(0 : Int32), T0, _, X0, e0, N0, hpost, fun target kt => ?_⟩
      refine pre6 target ?_
      show Steps p.tables e below (T0.setTop (mkF m 115 #[.val (.int p0), .val (.int p1), .val (.int p2), .val (.int p3), .val (.int p4), .val (.int p5), .val (.int 5), .val (.int d0), .val (.int d1), .val (.int d2), .val (.int d3), .val (.int d4), .val (.ref aa), .val (.ref as), .unset, .unset] [(.int 109), (.int d3)])) _
      refine XS.icmpYes X0.here hx rfl (pc0 := 115) (pc' := 134) rfl (hb hby at_115) rfl (feq hc115_5).2 (by decide) (by decide) ?_
      refine XS.iconst X0.here hx rfl (hb hby at_134) ?_
      refine XS.istore X0.here hx rfl (hb hby at_135) rfl (l' := #[.val (.int p0), .val (.int p1), .val (.int p2), .val (.int p3), .val (.int p4), .val (.int p5), .val (.int 5), .val (.int d0), .val (.int d1), .val (.int d2), .val (.int d3), .val (.int d4), .val (.ref aa), .val (.ref as), .val (.int 0), .unset]) rfl ?_
      exact kt
  · have hpost : ((0 : Int32) = (1 : Int32) ∧ d2 = (46 : Int32) ∧ d3 = (109 : Int32) ∧ d4 = (102 : Int32)) ∨ ((0 : Int32) = (0 : Int32) ∧ ¬ (d2 = (46 : Int32) ∧ d3 = (109 : Int32) ∧ d4 = (102 : Int32))) := Or.inr ⟨rfl, fun q => hc103_2 q.1⟩
    refine ⟨(0 : Int32), T0, _, X0, e0, N0, hpost, fun target kt => ?_⟩
    refine pre3 target ?_
    show Steps p.tables e below (T0.setTop (mkF m 103 #[.val (.int p0), .val (.int p1), .val (.int p2), .val (.int p3), .val (.int p4), .val (.int p5), .val (.int 5), .val (.int d0), .val (.int d1), .val (.int d2), .val (.int d3), .val (.int d4), .val (.ref aa), .val (.ref as), .unset, .unset] [(.int 46), (.int d2)])) _
    refine XS.icmpYes X0.here hx rfl (pc0 := 103) (pc' := 134) rfl (hb hby at_103) rfl (feq hc103_2).2 (by decide) (by decide) ?_
    refine XS.iconst X0.here hx rfl (hb hby at_134) ?_
    refine XS.istore X0.here hx rfl (hb hby at_135) rfl (l' := #[.val (.int p0), .val (.int p1), .val (.int p2), .val (.int p3), .val (.int p4), .val (.int p5), .val (.int 5), .val (.int d0), .val (.int d1), .val (.int d2), .val (.int d3), .val (.int d4), .val (.ref aa), .val (.ref as), .val (.int 0), .unset]) rfl ?_
    exact kt
set_option maxRecDepth 65536 in
set_option maxHeartbeats 40000000 in
theorem sg_jar5 {p : Program} {l : Launch} {e : Env} {s : State} {m : MethodId} {below : List Frame} {meth : Method} {c : Code} {T0 : State} {locs : List Loc} {Z : State} {a0 : Array Value} (cS : Int32) (p0 : Int32) (p1 : Int32) (p2 : Int32) (p3 : Int32) (p4 : Int32) (p5 : Int32) (d0 : Int32) (d1 : Int32) (d2 : Int32) (d3 : Int32) (d4 : Int32) (aa : Addr) (as : Addr) (ka : ClassId) (mf : Int32) {h0 : Heap} {n0 : Nat} (X0 : Stand p l e room_1 s m #[(.int p0), (.int p1), (.int p2), (.int p3), (.int p4), (.int p5)] below meth c T0 locs 9 59) (hx : p.tables.exec = Jvm.exec) (hZ : Z.Warmed39 s.vm) (hw : ∀ d ∈ tables_1, d.before a0 Z = true) (hby : c.code = code) (hml : c.maxLocals = 16) (hown : s.vm.findClass "com/example/loomwire/loomwire/bundle/BundleContentIsBundleFilePinLaw" = some m.cls) (e0 : T0.heap = h0) (N0 : Fr n0 locs) (O0 : Old Z n0 h0) (GL : GF Z cS) (V_aa : Arv Z h0 aa ka .char (5 : Int32) [(.int d0), (.int d1), (.int d2), (.int d3), (.int d4)] (.int 0)) :
    ∃ v : Int32, ∃ (T' : State) (locs' : List Loc), Stand p l e room_1 s m #[(.int p0), (.int p1), (.int p2), (.int p3), (.int p4), (.int p5)] below meth c T' locs' 9 59 ∧ T'.heap = h0 ∧ Fr n0 locs' ∧ ((v = (1 : Int32) ∧ d1 = (46 : Int32) ∧ d2 = (106 : Int32) ∧ d3 = (97 : Int32) ∧ d4 = (114 : Int32)) ∨ (v = (0 : Int32) ∧ ¬ (d1 = (46 : Int32) ∧ d2 = (106 : Int32) ∧ d3 = (97 : Int32) ∧ d4 = (114 : Int32)))) ∧
      ∀ target, Steps p.tables e below (T'.setTop (mkF m 198 #[.val (.int p0), .val (.int p1), .val (.int p2), .val (.int p3), .val (.int p4), .val (.int p5), .val (.int 5), .val (.int d0), .val (.int d1), .val (.int d2), .val (.int d3), .val (.int d4), .val (.ref aa), .val (.ref as), .val (.int mf), .val (.int v)] [])) target → Steps p.tables e below (T0.setTop (mkF m 137 #[.val (.int p0), .val (.int p1), .val (.int p2), .val (.int p3), .val (.int p4), .val (.int p5), .val (.int 5), .val (.int d0), .val (.int d1), .val (.int d2), .val (.int d3), .val (.int d4), .val (.ref aa), .val (.ref as), .val (.int mf), .unset] [])) target := by
  have GL' := GL
  obtain ⟨GCS, GCP⟩ := GL'
  obtain ⟨cl1, Ar1, -, S1, N1_, H1, G1⟩ := id (V_aa)
  have hin1 : ¬ ((1 : Int32) < 0 ∨ cl1.slots.size ≤ ((1 : Int32)).toNatClampNeg) := inb_of S1 ⟨(by decide), (by decide)⟩
  have hat1 : cl1.slots[((1 : Int32)).toNatClampNeg]? = some (.int d1) := H1.at hin1 rfl
  have pre3 : ∀ t, Steps p.tables e below (T0.setTop (mkF m 152 #[.val (.int p0), .val (.int p1), .val (.int p2), .val (.int p3), .val (.int p4), .val (.int p5), .val (.int 5), .val (.int d0), .val (.int d1), .val (.int d2), .val (.int d3), .val (.int d4), .val (.ref aa), .val (.ref as), .val (.int mf), .unset] [(.int 46), (.int d1)])) t → Steps p.tables e below (T0.setTop (mkF m 137 #[.val (.int p0), .val (.int p1), .val (.int p2), .val (.int p3), .val (.int p4), .val (.int p5), .val (.int 5), .val (.int d0), .val (.int d1), .val (.int d2), .val (.int d3), .val (.int d4), .val (.ref aa), .val (.ref as), .val (.int mf), .unset] [])) t := fun t kt => by
    show Steps p.tables e below (T0.setTop (mkF m 137 #[.val (.int p0), .val (.int p1), .val (.int p2), .val (.int p3), .val (.int p4), .val (.int p5), .val (.int 5), .val (.int d0), .val (.int d1), .val (.int d2), .val (.int d3), .val (.int d4), .val (.ref aa), .val (.ref as), .val (.int mf), .unset] [])) _
    refine XS.iload X0.here hx rfl (hb hby at_137) rfl ?_
    refine XS.iconst X0.here hx rfl (hb hby at_139) ?_
    refine XS.icmpNo X0.here hx rfl (hb hby at_140) rfl (flt (by decide : ¬ ((5 : Int32) < (4 : Int32)))).1 ?_
    refine XS.aload X0.here hx rfl (hb hby at_143) rfl rfl ?_
    show Steps p.tables e below (T0.setTop (mkF m 145 #[.val (.int p0), .val (.int p1), .val (.int p2), .val (.int p3), .val (.int p4), .val (.int p5), .val (.int 5), .val (.int d0), .val (.int d1), .val (.int d2), .val (.int d3), .val (.int d4), .val (.ref aa), .val (.ref as), .val (.int mf), .unset] [(.ref aa)])) _
    refine XS.iload X0.here hx rfl (hb hby at_145) rfl ?_
    refine XS.iconst X0.here hx rfl (hb hby at_147) ?_
    refine XS.isub X0.here hx rfl (hb hby at_148) rfl ?_
    show Steps p.tables e below (T0.setTop (mkF m 149 #[.val (.int p0), .val (.int p1), .val (.int p2), .val (.int p3), .val (.int p4), .val (.int p5), .val (.int 5), .val (.int d0), .val (.int d1), .val (.int d2), .val (.int d3), .val (.int d4), .val (.ref aa), .val (.ref as), .val (.int mf), .unset] [(.int 1), (.ref aa)])) _
    refine X0.caload hx (j := (1 : Int32)) (v := (.int d1)) (by rw [e0]; exact Ar1.1) (State.isArrayOf_alike hZ.alike Ar1.2.1) Ar1.2.2 hin1 hat1 (g := (mkF m 149 #[.val (.int p0), .val (.int p1), .val (.int p2), .val (.int p3), .val (.int p4), .val (.int p5), .val (.int 5), .val (.int d0), .val (.int d1), .val (.int d2), .val (.int d3), .val (.int d4), .val (.ref aa), .val (.ref as), .val (.int mf), .unset] [(.int 1), (.ref aa)])) rfl rfl (hb hby at_149) _ ?_
    show Steps p.tables e below (T0.setTop (mkF m 150 #[.val (.int p0), .val (.int p1), .val (.int p2), .val (.int p3), .val (.int p4), .val (.int p5), .val (.int 5), .val (.int d0), .val (.int d1), .val (.int d2), .val (.int d3), .val (.int d4), .val (.ref aa), .val (.ref as), .val (.int mf), .unset] [(.int d1)])) _
    refine XS.bipush X0.here hx rfl (hb hby at_150) ?_
    exact kt
  by_cases hc152_2 : d1 = (46 : Int32)
  · obtain ⟨cl4, Ar4, -, S4, N4_, H4, G4⟩ := id (V_aa)
    have hin4 : ¬ ((2 : Int32) < 0 ∨ cl4.slots.size ≤ ((2 : Int32)).toNatClampNeg) := inb_of S4 ⟨(by decide), (by decide)⟩
    have hat4 : cl4.slots[((2 : Int32)).toNatClampNeg]? = some (.int d2) := H4.at hin4 rfl
    have pre6 : ∀ t, Steps p.tables e below (T0.setTop (mkF m 164 #[.val (.int p0), .val (.int p1), .val (.int p2), .val (.int p3), .val (.int p4), .val (.int p5), .val (.int 5), .val (.int d0), .val (.int d1), .val (.int d2), .val (.int d3), .val (.int d4), .val (.ref aa), .val (.ref as), .val (.int mf), .unset] [(.int 106), (.int d2)])) t → Steps p.tables e below (T0.setTop (mkF m 137 #[.val (.int p0), .val (.int p1), .val (.int p2), .val (.int p3), .val (.int p4), .val (.int p5), .val (.int 5), .val (.int d0), .val (.int d1), .val (.int d2), .val (.int d3), .val (.int d4), .val (.ref aa), .val (.ref as), .val (.int mf), .unset] [])) t := fun t kt => by
      refine pre3 t ?_
      show Steps p.tables e below (T0.setTop (mkF m 152 #[.val (.int p0), .val (.int p1), .val (.int p2), .val (.int p3), .val (.int p4), .val (.int p5), .val (.int 5), .val (.int d0), .val (.int d1), .val (.int d2), .val (.int d3), .val (.int d4), .val (.ref aa), .val (.ref as), .val (.int mf), .unset] [(.int 46), (.int d1)])) _
      refine XS.icmpNo X0.here hx rfl (hb hby at_152) rfl (teq hc152_2).2 ?_
      refine XS.aload X0.here hx rfl (hb hby at_155) rfl rfl ?_
      refine XS.iload X0.here hx rfl (hb hby at_157) rfl ?_
      refine XS.iconst X0.here hx rfl (hb hby at_159) ?_
      show Steps p.tables e below (T0.setTop (mkF m 160 #[.val (.int p0), .val (.int p1), .val (.int p2), .val (.int p3), .val (.int p4), .val (.int p5), .val (.int 5), .val (.int d0), .val (.int d1), .val (.int d2), .val (.int d3), .val (.int d4), .val (.ref aa), .val (.ref as), .val (.int mf), .unset] [(.int 3), (.int 5), (.ref aa)])) _
      refine XS.isub X0.here hx rfl (hb hby at_160) rfl ?_
      show Steps p.tables e below (T0.setTop (mkF m 161 #[.val (.int p0), .val (.int p1), .val (.int p2), .val (.int p3), .val (.int p4), .val (.int p5), .val (.int 5), .val (.int d0), .val (.int d1), .val (.int d2), .val (.int d3), .val (.int d4), .val (.ref aa), .val (.ref as), .val (.int mf), .unset] [(.int 2), (.ref aa)])) _
      refine X0.caload hx (j := (2 : Int32)) (v := (.int d2)) (by rw [e0]; exact Ar4.1) (State.isArrayOf_alike hZ.alike Ar4.2.1) Ar4.2.2 hin4 hat4 (g := (mkF m 161 #[.val (.int p0), .val (.int p1), .val (.int p2), .val (.int p3), .val (.int p4), .val (.int p5), .val (.int 5), .val (.int d0), .val (.int d1), .val (.int d2), .val (.int d3), .val (.int d4), .val (.ref aa), .val (.ref as), .val (.int mf), .unset] [(.int 2), (.ref aa)])) rfl rfl (hb hby at_161) _ ?_
      show Steps p.tables e below (T0.setTop (mkF m 162 #[.val (.int p0), .val (.int p1), .val (.int p2), .val (.int p3), .val (.int p4), .val (.int p5), .val (.int 5), .val (.int d0), .val (.int d1), .val (.int d2), .val (.int d3), .val (.int d4), .val (.ref aa), .val (.ref as), .val (.int mf), .unset] [(.int d2)])) _
      refine XS.bipush X0.here hx rfl (hb hby at_162) ?_
      exact kt
    by_cases hc164_5 : d2 = (106 : Int32)
    · obtain ⟨cl7, Ar7, -, S7, N7_, H7, G7⟩ := id (V_aa)
      have hin7 : ¬ ((3 : Int32) < 0 ∨ cl7.slots.size ≤ ((3 : Int32)).toNatClampNeg) := inb_of S7 ⟨(by decide), (by decide)⟩
      have hat7 : cl7.slots[((3 : Int32)).toNatClampNeg]? = some (.int d3) := H7.at hin7 rfl
      have pre9 : ∀ t, Steps p.tables e below (T0.setTop (mkF m 176 #[.val (.int p0), .val (.int p1), .val (.int p2), .val (.int p3), .val (.int p4), .val (.int p5), .val (.int 5), .val (.int d0), .val (.int d1), .val (.int d2), .val (.int d3), .val (.int d4), .val (.ref aa), .val (.ref as), .val (.int mf), .unset] [(.int 97), (.int d3)])) t → Steps p.tables e below (T0.setTop (mkF m 137 #[.val (.int p0), .val (.int p1), .val (.int p2), .val (.int p3), .val (.int p4), .val (.int p5), .val (.int 5), .val (.int d0), .val (.int d1), .val (.int d2), .val (.int d3), .val (.int d4), .val (.ref aa), .val (.ref as), .val (.int mf), .unset] [])) t := fun t kt => by
        refine pre6 t ?_
        show Steps p.tables e below (T0.setTop (mkF m 164 #[.val (.int p0), .val (.int p1), .val (.int p2), .val (.int p3), .val (.int p4), .val (.int p5), .val (.int 5), .val (.int d0), .val (.int d1), .val (.int d2), .val (.int d3), .val (.int d4), .val (.ref aa), .val (.ref as), .val (.int mf), .unset] [(.int 106), (.int d2)])) _
        refine XS.icmpNo X0.here hx rfl (hb hby at_164) rfl (teq hc164_5).2 ?_
        refine XS.aload X0.here hx rfl (hb hby at_167) rfl rfl ?_
        refine XS.iload X0.here hx rfl (hb hby at_169) rfl ?_
        refine XS.iconst X0.here hx rfl (hb hby at_171) ?_
        show Steps p.tables e below (T0.setTop (mkF m 172 #[.val (.int p0), .val (.int p1), .val (.int p2), .val (.int p3), .val (.int p4), .val (.int p5), .val (.int 5), .val (.int d0), .val (.int d1), .val (.int d2), .val (.int d3), .val (.int d4), .val (.ref aa), .val (.ref as), .val (.int mf), .unset] [(.int 2), (.int 5), (.ref aa)])) _
        refine XS.isub X0.here hx rfl (hb hby at_172) rfl ?_
        show Steps p.tables e below (T0.setTop (mkF m 173 #[.val (.int p0), .val (.int p1), .val (.int p2), .val (.int p3), .val (.int p4), .val (.int p5), .val (.int 5), .val (.int d0), .val (.int d1), .val (.int d2), .val (.int d3), .val (.int d4), .val (.ref aa), .val (.ref as), .val (.int mf), .unset] [(.int 3), (.ref aa)])) _
        refine X0.caload hx (j := (3 : Int32)) (v := (.int d3)) (by rw [e0]; exact Ar7.1) (State.isArrayOf_alike hZ.alike Ar7.2.1) Ar7.2.2 hin7 hat7 (g := (mkF m 173 #[.val (.int p0), .val (.int p1), .val (.int p2), .val (.int p3), .val (.int p4), .val (.int p5), .val (.int 5), .val (.int d0), .val (.int d1), .val (.int d2), .val (.int d3), .val (.int d4), .val (.ref aa), .val (.ref as), .val (.int mf), .unset] [(.int 3), (.ref aa)])) rfl rfl (hb hby at_173) _ ?_
        show Steps p.tables e below (T0.setTop (mkF m 174 #[.val (.int p0), .val (.int p1), .val (.int p2), .val (.int p3), .val (.int p4), .val (.int p5), .val (.int 5), .val (.int d0), .val (.int d1), .val (.int d2), .val (.int d3), .val (.int d4), .val (.ref aa), .val (.ref as), .val (.int mf), .unset] [(.int d3)])) _
        refine XS.bipush X0.here hx rfl (hb hby at_174) ?_
        exact kt
      by_cases hc176_8 : d3 = (97 : Int32)
      · obtain ⟨cl10, Ar10, -, S10, N10_, H10, G10⟩ := id (V_aa)
        have hin10 : ¬ ((4 : Int32) < 0 ∨ cl10.slots.size ≤ ((4 : Int32)).toNatClampNeg) := inb_of S10 ⟨(by decide), (by decide)⟩
        have hat10 : cl10.slots[((4 : Int32)).toNatClampNeg]? = some (.int d4) := H10.at hin10 rfl
        have pre12 : ∀ t, Steps p.tables e below (T0.setTop (mkF m 188 #[.val (.int p0), .val (.int p1), .val (.int p2), .val (.int p3), .val (.int p4), .val (.int p5), .val (.int 5), .val (.int d0), .val (.int d1), .val (.int d2), .val (.int d3), .val (.int d4), .val (.ref aa), .val (.ref as), .val (.int mf), .unset] [(.int 114), (.int d4)])) t → Steps p.tables e below (T0.setTop (mkF m 137 #[.val (.int p0), .val (.int p1), .val (.int p2), .val (.int p3), .val (.int p4), .val (.int p5), .val (.int 5), .val (.int d0), .val (.int d1), .val (.int d2), .val (.int d3), .val (.int d4), .val (.ref aa), .val (.ref as), .val (.int mf), .unset] [])) t := fun t kt => by
          refine pre9 t ?_
          show Steps p.tables e below (T0.setTop (mkF m 176 #[.val (.int p0), .val (.int p1), .val (.int p2), .val (.int p3), .val (.int p4), .val (.int p5), .val (.int 5), .val (.int d0), .val (.int d1), .val (.int d2), .val (.int d3), .val (.int d4), .val (.ref aa), .val (.ref as), .val (.int mf), .unset] [(.int 97), (.int d3)])) _
          refine XS.icmpNo X0.here hx rfl (hb hby at_176) rfl (teq hc176_8).2 ?_
          refine XS.aload X0.here hx rfl (hb hby at_179) rfl rfl ?_
          refine XS.iload X0.here hx rfl (hb hby at_181) rfl ?_
          refine XS.iconst X0.here hx rfl (hb hby at_183) ?_
          show Steps p.tables e below (T0.setTop (mkF m 184 #[.val (.int p0), .val (.int p1), .val (.int p2), .val (.int p3), .val (.int p4), .val (.int p5), .val (.int 5), .val (.int d0), .val (.int d1), .val (.int d2), .val (.int d3), .val (.int d4), .val (.ref aa), .val (.ref as), .val (.int mf), .unset] [(.int 1), (.int 5), (.ref aa)])) _
          refine XS.isub X0.here hx rfl (hb hby at_184) rfl ?_
          show Steps p.tables e below (T0.setTop (mkF m 185 #[.val (.int p0), .val (.int p1), .val (.int p2), .val (.int p3), .val (.int p4), .val (.int p5), .val (.int 5), .val (.int d0), .val (.int d1), .val (.int d2), .val (.int d3), .val (.int d4), .val (.ref aa), .val (.ref as), .val (.int mf), .unset] [(.int 4), (.ref aa)])) _
          refine X0.caload hx (j := (4 : Int32)) (v := (.int d4)) (by rw [e0]; exact Ar10.1) (State.isArrayOf_alike hZ.alike Ar10.2.1) Ar10.2.2 hin10 hat10 (g := (mkF m 185 #[.val (.int p0), .val (.int p1), .val (.int p2), .val (.int p3), .val (.int p4), .val (.int p5), .val (.int 5), .val (.int d0), .val (.int d1), .val (.int d2), .val (.int d3), .val (.int d4), .val (.ref aa), .val (.ref as), .val (.int mf), .unset] [(.int 4), (.ref aa)])) rfl rfl (hb hby at_185) _ ?_
          show Steps p.tables e below (T0.setTop (mkF m 186 #[.val (.int p0), .val (.int p1), .val (.int p2), .val (.int p3), .val (.int p4), .val (.int p5), .val (.int 5), .val (.int d0), .val (.int d1), .val (.int d2), .val (.int d3), .val (.int d4), .val (.ref aa), .val (.ref as), .val (.int mf), .unset] [(.int d4)])) _
          refine XS.bipush X0.here hx rfl (hb hby at_186) ?_
          exact kt
        by_cases hc188_11 : d4 = (114 : Int32)
        · have hpost : ((1 : Int32) = (1 : Int32) ∧ d1 = (46 : Int32) ∧ d2 = (106 : Int32) ∧ d3 = (97 : Int32) ∧ d4 = (114 : Int32)) ∨ ((1 : Int32) = (0 : Int32) ∧ ¬ (d1 = (46 : Int32) ∧ d2 = (106 : Int32) ∧ d3 = (97 : Int32) ∧ d4 = (114 : Int32))) := Or.inl ⟨rfl, hc152_2, hc164_5, hc176_8, hc188_11⟩
          refine ⟨(1 : Int32), T0, _, X0, e0, N0, hpost, fun target kt => ?_⟩
          refine pre12 target ?_
          show Steps p.tables e below (T0.setTop (mkF m 188 #[.val (.int p0), .val (.int p1), .val (.int p2), .val (.int p3), .val (.int p4), .val (.int p5), .val (.int 5), .val (.int d0), .val (.int d1), .val (.int d2), .val (.int d3), .val (.int d4), .val (.ref aa), .val (.ref as), .val (.int mf), .unset] [(.int 114), (.int d4)])) _
          refine XS.icmpNo X0.here hx rfl (hb hby at_188) rfl (teq hc188_11).2 ?_
          refine XS.iconst X0.here hx rfl (hb hby at_191) ?_
          refine XS.goto X0.here hx rfl (pc0 := 192) (pc' := 196) rfl (hb hby at_192) (by decide) (by decide) ?_
          refine XS.istore X0.here hx rfl (hb hby at_196) rfl (l' := #[.val (.int p0), .val (.int p1), .val (.int p2), .val (.int p3), .val (.int p4), .val (.int p5), .val (.int 5), .val (.int d0), .val (.int d1), .val (.int d2), .val (.int d3), .val (.int d4), .val (.ref aa), .val (.ref as), .val (.int mf), .val (.int 1)]) rfl ?_
          exact kt
        · have hpost : ((0 : Int32) = (1 : Int32) ∧ d1 = (46 : Int32) ∧ d2 = (106 : Int32) ∧ d3 = (97 : Int32) ∧ d4 = (114 : Int32)) ∨ ((0 : Int32) = (0 : Int32) ∧ ¬ (d1 = (46 : Int32) ∧ d2 = (106 : Int32) ∧ d3 = (97 : Int32) ∧ d4 = (114 : Int32))) := Or.inr ⟨rfl, fun q => hc188_11 q.2.2.2⟩
          refine ⟨(0 : Int32), T0, _, X0, e0, N0, hpost, fun target kt => ?_⟩
          refine pre12 target ?_
          show Steps p.tables e below (T0.setTop (mkF m 188 #[.val (.int p0), .val (.int p1), .val (.int p2), .val (.int p3), .val (.int p4), .val (.int p5), .val (.int 5), .val (.int d0), .val (.int d1), .val (.int d2), .val (.int d3), .val (.int d4), .val (.ref aa), .val (.ref as), .val (.int mf), .unset] [(.int 114), (.int d4)])) _
          refine XS.icmpYes X0.here hx rfl (pc0 := 188) (pc' := 195) rfl (hb hby at_188) rfl (feq hc188_11).2 (by decide) (by decide) ?_
          refine XS.iconst X0.here hx rfl (hb hby at_195) ?_
          refine XS.istore X0.here hx rfl (hb hby at_196) rfl (l' := #[.val (.int p0), .val (.int p1), .val (.int p2), .val (.int p3), .val (.int p4), .val (.int p5), .val (.int 5), .val (.int d0), .val (.int d1), .val (.int d2), .val (.int d3), .val (.int d4), .val (.ref aa), .val (.ref as), .val (.int mf), .val (.int 0)]) rfl ?_
          exact kt
      · have hpost : ((0 : Int32) = (1 : Int32) ∧ d1 = (46 : Int32) ∧ d2 = (106 : Int32) ∧ d3 = (97 : Int32) ∧ d4 = (114 : Int32)) ∨ ((0 : Int32) = (0 : Int32) ∧ ¬ (d1 = (46 : Int32) ∧ d2 = (106 : Int32) ∧ d3 = (97 : Int32) ∧ d4 = (114 : Int32))) := Or.inr ⟨rfl, fun q => hc176_8 q.2.2.1⟩
        refine ⟨(0 : Int32), T0, _, X0, e0, N0, hpost, fun target kt => ?_⟩
        refine pre9 target ?_
        show Steps p.tables e below (T0.setTop (mkF m 176 #[.val (.int p0), .val (.int p1), .val (.int p2), .val (.int p3), .val (.int p4), .val (.int p5), .val (.int 5), .val (.int d0), .val (.int d1), .val (.int d2), .val (.int d3), .val (.int d4), .val (.ref aa), .val (.ref as), .val (.int mf), .unset] [(.int 97), (.int d3)])) _
        refine XS.icmpYes X0.here hx rfl (pc0 := 176) (pc' := 195) rfl (hb hby at_176) rfl (feq hc176_8).2 (by decide) (by decide) ?_
        refine XS.iconst X0.here hx rfl (hb hby at_195) ?_
        refine XS.istore X0.here hx rfl (hb hby at_196) rfl (l' := #[.val (.int p0), .val (.int p1), .val (.int p2), .val (.int p3), .val (.int p4), .val (.int p5), .val (.int 5), .val (.int d0), .val (.int d1), .val (.int d2), .val (.int d3), .val (.int d4), .val (.ref aa), .val (.ref as), .val (.int mf), .val (.int 0)]) rfl ?_
        exact kt
    · have hpost : ((0 : Int32) = (1 : Int32) ∧ d1 = (46 : Int32) ∧ d2 = (106 : Int32) ∧ d3 = (97 : Int32) ∧ d4 = (114 : Int32)) ∨ ((0 : Int32) = (0 : Int32) ∧ ¬ (d1 = (46 : Int32) ∧ d2 = (106 : Int32) ∧ d3 = (97 : Int32) ∧ d4 = (114 : Int32))) := Or.inr ⟨rfl, fun q => hc164_5 q.2.1⟩
      refine ⟨(0 : Int32), T0, _, X0, e0, N0, hpost, fun target kt => ?_⟩
      refine pre6 target ?_
      show Steps p.tables e below (T0.setTop (mkF m 164 #[.val (.int p0), .val (.int p1), .val (.int p2), .val (.int p3), .val (.int p4), .val (.int p5), .val (.int 5), .val (.int d0), .val (.int d1), .val (.int d2), .val (.int d3), .val (.int d4), .val (.ref aa), .val (.ref as), .val (.int mf), .unset] [(.int 106), (.int d2)])) _
      refine XS.icmpYes X0.here hx rfl (pc0 := 164) (pc' := 195) rfl (hb hby at_164) rfl (feq hc164_5).2 (by decide) (by decide) ?_
      refine XS.iconst X0.here hx rfl (hb hby at_195) ?_
      refine XS.istore X0.here hx rfl (hb hby at_196) rfl (l' := #[.val (.int p0), .val (.int p1), .val (.int p2), .val (.int p3), .val (.int p4), .val (.int p5), .val (.int 5), .val (.int d0), .val (.int d1), .val (.int d2), .val (.int d3), .val (.int d4), .val (.ref aa), .val (.ref as), .val (.int mf), .val (.int 0)]) rfl ?_
      exact kt
  · have hpost : ((0 : Int32) = (1 : Int32) ∧ d1 = (46 : Int32) ∧ d2 = (106 : Int32) ∧ d3 = (97 : Int32) ∧ d4 = (114 : Int32)) ∨ ((0 : Int32) = (0 : Int32) ∧ ¬ (d1 = (46 : Int32) ∧ d2 = (106 : Int32) ∧ d3 = (97 : Int32) ∧ d4 = (114 : Int32))) := Or.inr ⟨rfl, fun q => hc152_2 q.1⟩
    refine ⟨(0 : Int32), T0, _, X0, e0, N0, hpost, fun target kt => ?_⟩
    refine pre3 target ?_
    show Steps p.tables e below (T0.setTop (mkF m 152 #[.val (.int p0), .val (.int p1), .val (.int p2), .val (.int p3), .val (.int p4), .val (.int p5), .val (.int 5), .val (.int d0), .val (.int d1), .val (.int d2), .val (.int d3), .val (.int d4), .val (.ref aa), .val (.ref as), .val (.int mf), .unset] [(.int 46), (.int d1)])) _
    refine XS.icmpYes X0.here hx rfl (pc0 := 152) (pc' := 195) rfl (hb hby at_152) rfl (feq hc152_2).2 (by decide) (by decide) ?_
    refine XS.iconst X0.here hx rfl (hb hby at_195) ?_
    refine XS.istore X0.here hx rfl (hb hby at_196) rfl (l' := #[.val (.int p0), .val (.int p1), .val (.int p2), .val (.int p3), .val (.int p4), .val (.int p5), .val (.int 5), .val (.int d0), .val (.int d1), .val (.int d2), .val (.int d3), .val (.int d4), .val (.ref aa), .val (.ref as), .val (.int mf), .val (.int 0)]) rfl ?_
    exact kt
theorem ef_rm0 (m : MethodId) (p0 : Int32) (p1 : Int32) (p2 : Int32) (p3 : Int32) (p4 : Int32) (p5 : Int32) : entryFrame m #[(.int p0), (.int p1), (.int p2), (.int p3), (.int p4), (.int p5)] maxLocals = mkF m 0 #[.val (.int p0), .val (.int p1), .val (.int p2), .val (.int p3), .val (.int p4), .val (.int p5), .unset, .unset, .unset, .unset, .unset, .unset, .unset, .unset, .unset, .unset] [] := by first | (simp [entryFrame, mkF, argsToLocals, Value.category, maxLocals]; done) | rfl
def Q_rm0 (n0 : Nat) (v : Option Value) (h : Heap) (L : List Loc) : Prop := v = some (.int 1) ∧ Fr n0 L
set_option maxRecDepth 65536 in
set_option maxHeartbeats 40000000 in
theorem rm0 (l : Launch) (Z : State) (a0 : Array Value) (hw : ∀ d ∈ tables_1, d.before a0 Z = true) (ws : List Jvm.Cond) (cS : Int32) (p0 : Int32) (p1 : Int32) (p2 : Int32) (p3 : Int32) (p4 : Int32) (p5 : Int32) (h0 : Heap) (n0 : Nat) (O0 : Old Z n0 h0) (GL : GF Z cS) :
    MetFree l x (head1 (Jvm.Cond.code x code maxLocals ret :: ws) room_1) (fun a U => a = #[(.int p0), (.int p1), (.int p2), (.int p3), (.int p4), (.int p5)] ∧ Z.Warmed39 U.vm ∧ U.heap = h0 ∧ CHv Z EL1 U.vm h0) (fun _ _ _ _ _ => True) (fun _ U o U' => ∃ v L, o = .returned v ∧ Q_rm0 n0 v U'.heap L ∧ CHr Z EL1 U.vm U.heap U'.vm U'.heap ∧ ReturnedEndW U o U' L room_1.cells room_1.slots) := by
  refine MetFree.of_bodySF (plainFor_of_name pnv2) hisR ?_
  intro p e s m args below meth c s₁ Bd hml0 hP hK
  obtain ⟨rfl, hZ, hh, H0⟩ := hP
  have hx := Bd.exec
  have hby := Bd.bytes
  have hml : c.maxLocals = 16 := hml0
  have hown : s.vm.findClass "com/example/loomwire/loomwire/bundle/BundleContentIsBundleFilePinLaw" = some m.cls := findClass_of_methodNamed Bd.named
  have hnm := (name_of_methodNamed Bd.named Bd.method).1
  have X0 : Stand p l e room_1 s m #[(.int p0), (.int p1), (.int p2), (.int p3), (.int p4), (.int p5)] below meth c s₁ [] 0 0 := Stand.of_body Bd
  have e0 : s₁.heap = h0 := by rw [← hh, Bd.state]; rfl
  have N0 := Fr.nil n0
  have pre0 : ∀ t, Steps p.tables e below (s₁.setTop (mkF m 0 #[.val (.int p0), .val (.int p1), .val (.int p2), .val (.int p3), .val (.int p4), .val (.int p5), .unset, .unset, .unset, .unset, .unset, .unset, .unset, .unset, .unset, .unset] [])) t → Steps p.tables e below (s₁.setTop (entryFrame m #[(.int p0), (.int p1), (.int p2), (.int p3), (.int p4), (.int p5)] maxLocals)) t := fun t k => castTop (ef_rm0 m p0 p1 p2 p3 p4 p5) k
  have X0w : Stand p l e room_1 (s.setVm s.vm) m #[(.int p0), (.int p1), (.int p2), (.int p3), (.int p4), (.int p5)] below meth c s₁ [] 0 0 := X0
  have R0 : CHr Z EL1 s.vm h0 s.vm h0 := CHr.refl H0
  have hS0 : s.Since s.vm h0.size := (State.WarmedH.refl s).since _
  have GL' := GL
  obtain ⟨GCS, GCP⟩ := GL'
  obtain ⟨_, _, ⟨T1, L1, k1, n1⟩, -, X1, ⟨Lc1, hQ1, l1, y1, z1⟩, st1⟩ := Jvm.LawKit.callS X0w hx (y := MN_5) hown (mvT hZ (Wd hw 1 rfl)) (mvT hZ (Wd hw 2 rfl)) (mvT hZ (Wd hw 3 rfl)) (mvT hZ (Wd hw 4 rfl)) (by decide) (backOf (W := 0) (rmDraw l Z a0 hw [] cS (p1) (h0) n0 O0 GL) hZ (Wd hw 4 rfl) (Wd hw 3 rfl) (by decide) (by decide)) (g := (mkF m 10 #[.val (.int p0), .val (.int p1), .val (.int p2), .val (.int p3), .val (.int p4), .val (.int p5), .val (.int ((p0 &&& (2147483647 : Int32)) % (6 : Int32))), .unset, .unset, .unset, .unset, .unset, .unset, .unset, .unset, .unset] [(.int p1)])) rfl (by rw [hml]; rfl) (argsL := [(.int p1)]) (rest := []) (lenOf pdv10 rfl) rfl (by show 2 * 0 + _ ≤ _; exact Nat.le_of_eq rfl) (hb hby at_10) (fun _ _ => ⟨rfl, e0, (by decide : 0 + 1 ≤ _), (by decide : 0 + 8 ≤ _)⟩)
  dsimp only [Pt.U, Pt.locs, Pt.cells, Pt.slots] at X1 l1 y1 z1 st1 hQ1
  subst l1 y1 z1
  obtain ⟨c_1, rfl, N1q, Kc1, P1_0, P1_1, P1_2⟩ := hQ1
  have O1 := O0.keep Kc1 all0
  have H_2 := H0.keep Kc1 sf0
  have R_2 := R0.trans (CHr.keep Kc1 sf0 H0)
  have N1 := Fr.app N0 N1q
  obtain ⟨_, _, ⟨T3, L3, k3, n3⟩, -, X3, ⟨Lc3, hQ3, l3, y3, z3⟩, st3⟩ := Jvm.LawKit.callS X1 hx (y := MN_5) hown (mvT hZ (Wd hw 1 rfl)) (mvT hZ (Wd hw 2 rfl)) (mvT hZ (Wd hw 3 rfl)) (mvT hZ (Wd hw 4 rfl)) (by decide) (backOf (W := 0) (rmDraw l Z a0 hw [] cS (p2) (T1.heap) n0 O1 GL) hZ (Wd hw 4 rfl) (Wd hw 3 rfl) (by decide) (by decide)) (g := (mkF m 16 #[.val (.int p0), .val (.int p1), .val (.int p2), .val (.int p3), .val (.int p4), .val (.int p5), .val (.int ((p0 &&& (2147483647 : Int32)) % (6 : Int32))), .val (.int c_1), .unset, .unset, .unset, .unset, .unset, .unset, .unset, .unset] [(.int p2)])) rfl (by rw [hml]; rfl) (argsL := [(.int p2)]) (rest := []) (lenOf pdv10 rfl) rfl (by show 2 * 0 + _ ≤ _; exact Nat.le_of_eq rfl) (hb hby at_16) (fun _ _ => ⟨rfl, rfl, (by decide : 1 + 1 ≤ _), (by decide : 8 + 8 ≤ _)⟩)
  dsimp only [Pt.U, Pt.locs, Pt.cells, Pt.slots] at X3 l3 y3 z3 st3 hQ3
  subst l3 y3 z3
  obtain ⟨c_3, rfl, N3q, Kc3, P3_0, P3_1, P3_2⟩ := hQ3
  have O3 := O1.keep Kc3 all0
  have H_4 := H_2.keep Kc3 sf0
  have R_4 := R_2.trans (CHr.keep Kc3 sf0 H_2)
  have N3 := Fr.app N1 N3q
  obtain ⟨_, _, ⟨T5, L5, k5, n5⟩, -, X5, ⟨Lc5, hQ5, l5, y5, z5⟩, st5⟩ := Jvm.LawKit.callS X3 hx (y := MN_5) hown (mvT hZ (Wd hw 1 rfl)) (mvT hZ (Wd hw 2 rfl)) (mvT hZ (Wd hw 3 rfl)) (mvT hZ (Wd hw 4 rfl)) (by decide) (backOf (W := 0) (rmDraw l Z a0 hw [] cS (p3) (T3.heap) n0 O3 GL) hZ (Wd hw 4 rfl) (Wd hw 3 rfl) (by decide) (by decide)) (g := (mkF m 22 #[.val (.int p0), .val (.int p1), .val (.int p2), .val (.int p3), .val (.int p4), .val (.int p5), .val (.int ((p0 &&& (2147483647 : Int32)) % (6 : Int32))), .val (.int c_1), .val (.int c_3), .unset, .unset, .unset, .unset, .unset, .unset, .unset] [(.int p3)])) rfl (by rw [hml]; rfl) (argsL := [(.int p3)]) (rest := []) (lenOf pdv10 rfl) rfl (by show 2 * 0 + _ ≤ _; exact Nat.le_of_eq rfl) (hb hby at_22) (fun _ _ => ⟨rfl, rfl, (by decide : 2 + 1 ≤ _), (by decide : 16 + 8 ≤ _)⟩)
  dsimp only [Pt.U, Pt.locs, Pt.cells, Pt.slots] at X5 l5 y5 z5 st5 hQ5
  subst l5 y5 z5
  obtain ⟨c_5, rfl, N5q, Kc5, P5_0, P5_1, P5_2⟩ := hQ5
  have O5 := O3.keep Kc5 all0
  have H_6 := H_4.keep Kc5 sf0
  have R_6 := R_4.trans (CHr.keep Kc5 sf0 H_4)
  have N5 := Fr.app N3 N5q
  obtain ⟨_, _, ⟨T7, L7, k7, n7⟩, -, X7, ⟨Lc7, hQ7, l7, y7, z7⟩, st7⟩ := Jvm.LawKit.callS X5 hx (y := MN_5) hown (mvT hZ (Wd hw 1 rfl)) (mvT hZ (Wd hw 2 rfl)) (mvT hZ (Wd hw 3 rfl)) (mvT hZ (Wd hw 4 rfl)) (by decide) (backOf (W := 0) (rmDraw l Z a0 hw [] cS (p4) (T5.heap) n0 O5 GL) hZ (Wd hw 4 rfl) (Wd hw 3 rfl) (by decide) (by decide)) (g := (mkF m 29 #[.val (.int p0), .val (.int p1), .val (.int p2), .val (.int p3), .val (.int p4), .val (.int p5), .val (.int ((p0 &&& (2147483647 : Int32)) % (6 : Int32))), .val (.int c_1), .val (.int c_3), .val (.int c_5), .unset, .unset, .unset, .unset, .unset, .unset] [(.int p4)])) rfl (by rw [hml]; rfl) (argsL := [(.int p4)]) (rest := []) (lenOf pdv10 rfl) rfl (by show 2 * 0 + _ ≤ _; exact Nat.le_of_eq rfl) (hb hby at_29) (fun _ _ => ⟨rfl, rfl, (by decide : 3 + 1 ≤ _), (by decide : 24 + 8 ≤ _)⟩)
  dsimp only [Pt.U, Pt.locs, Pt.cells, Pt.slots] at X7 l7 y7 z7 st7 hQ7
  subst l7 y7 z7
  obtain ⟨c_7, rfl, N7q, Kc7, P7_0, P7_1, P7_2⟩ := hQ7
  have O7 := O5.keep Kc7 all0
  have H_8 := H_6.keep Kc7 sf0
  have R_8 := R_6.trans (CHr.keep Kc7 sf0 H_6)
  have N7 := Fr.app N5 N7q
  obtain ⟨_, _, ⟨T9, L9, k9, n9⟩, -, X9, ⟨Lc9, hQ9, l9, y9, z9⟩, st9⟩ := Jvm.LawKit.callS X7 hx (y := MN_5) hown (mvT hZ (Wd hw 1 rfl)) (mvT hZ (Wd hw 2 rfl)) (mvT hZ (Wd hw 3 rfl)) (mvT hZ (Wd hw 4 rfl)) (by decide) (backOf (W := 0) (rmDraw l Z a0 hw [] cS (p5) (T7.heap) n0 O7 GL) hZ (Wd hw 4 rfl) (Wd hw 3 rfl) (by decide) (by decide)) (g := (mkF m 36 #[.val (.int p0), .val (.int p1), .val (.int p2), .val (.int p3), .val (.int p4), .val (.int p5), .val (.int ((p0 &&& (2147483647 : Int32)) % (6 : Int32))), .val (.int c_1), .val (.int c_3), .val (.int c_5), .val (.int c_7), .unset, .unset, .unset, .unset, .unset] [(.int p5)])) rfl (by rw [hml]; rfl) (argsL := [(.int p5)]) (rest := []) (lenOf pdv10 rfl) rfl (by show 2 * 0 + _ ≤ _; exact Nat.le_of_eq rfl) (hb hby at_36) (fun _ _ => ⟨rfl, rfl, (by decide : 4 + 1 ≤ _), (by decide : 32 + 8 ≤ _)⟩)
  dsimp only [Pt.U, Pt.locs, Pt.cells, Pt.slots] at X9 l9 y9 z9 st9 hQ9
  subst l9 y9 z9
  obtain ⟨c_9, rfl, N9q, Kc9, P9_0, P9_1, P9_2⟩ := hQ9
  have O9 := O7.keep Kc9 all0
  have H_10 := H_8.keep Kc9 sf0
  have R_10 := R_8.trans (CHr.keep Kc9 sf0 H_8)
  have N9 := Fr.app N7 N9q
  obtain ⟨T11, h11, k11, X11, e11, E11, A11, A11', st11⟩ := newPE X9 hx hZ (Wd hw 5 rfl) rfl (g := (mkF m 42 #[.val (.int p0), .val (.int p1), .val (.int p2), .val (.int p3), .val (.int p4), .val (.int p5), .val (.int ((p0 &&& (2147483647 : Int32)) % (6 : Int32))), .val (.int c_1), .val (.int c_3), .val (.int c_5), .val (.int c_7), .val (.int c_9), .unset, .unset, .unset, .unset] [(.int 5)])) rfl (hb hby at_42) rfl (by decide) (cap := 5) (by decide) (by decide) (by decide) (by decide) (ad := "[C") rfl
  obtain ⟨b11, g11⟩ : ∃ z, z = T9.heap.size := ⟨_, rfl⟩
  rw [← g11] at A11 A11' st11
  have g_b11 : n0 ≤ b11 := Nat.le_trans (own_sz O9) (Nat.le_of_eq g11.symm)
  have H_12 := H_10.ext E11
  have R_12 := R_10.trans (CHr.ext E11 H_10)
  have O11 := O9.ext E11
  have V_b11 : Arv Z h11 b11 k11 .char (5 : Int32) [(.int 0), (.int 0), (.int 0), (.int 0), (.int 0)] (.int 0) := (Arv.new A11 (by decide)).pad (pad_rep [] (.int 0) 5)
  obtain ⟨cl13, Ar13, q13, S13, N13_, H13, G13⟩ := id (V_b11)
  have hin13 : ¬ ((0 : Int32) < 0 ∨ cl13.slots.size ≤ ((0 : Int32)).toNatClampNeg) := inb_of S13 ⟨(by decide), (by decide)⟩
  obtain ⟨T13, h13, X13, e13, W13, st13⟩ := stC X11 hx hZ e11 Ar13 (j := (0 : Int32)) hin13 (g := (mkF m 48 #[.val (.int p0), .val (.int p1), .val (.int p2), .val (.int p3), .val (.int p4), .val (.int p5), .val (.int ((p0 &&& (2147483647 : Int32)) % (6 : Int32))), .val (.int c_1), .val (.int c_3), .val (.int c_5), .val (.int c_7), .val (.int c_9), .unset, .unset, .unset, .unset] [(.int c_1), (.int 0), (.ref b11), (.ref b11)])) rfl rfl (hb hby at_48)
  have Sf15 : Safe Z EL1 s.vm h11 b11 := Safe.exa (EL := EL1) hZ.alike A11' (by decide) (by decide)
  have H_14 := H_12.wr W13 Sf15
  have R_14 := R_12.trans (CHr.wr W13 Sf15 H_12)
  have O13 := O11.wr W13 g_b11
  have N13 := Fr.snoc X13 N9 g_b11
  have V13' : Arv Z h13 b11 k11 .char (5 : Int32) [(.int (nar .char c_1)), (.int 0), (.int 0), (.int 0), (.int 0)] (.int 0) := Arv.set Ar13 q13 S13 N13_ H13 G13 (fits_nar_char _) W13 0 rfl (Nat.le_of_ble_eq_true rfl)
  have V13 : Arv Z h13 b11 k11 .char (5 : Int32) [(.int c_1), (.int 0), (.int 0), (.int 0), (.int 0)] (.int 0) := by
    rw [P1_2] at V13'
    exact V13'
  obtain ⟨cl16, Ar16, q16, S16, N16_, H16, G16⟩ := id (V13)
  have hin16 : ¬ ((1 : Int32) < 0 ∨ cl16.slots.size ≤ ((1 : Int32)).toNatClampNeg) := inb_of S16 ⟨(by decide), (by decide)⟩
  obtain ⟨T16, h16, X16, e16, W16, st16⟩ := stC X13 hx hZ e13 Ar16 (j := (1 : Int32)) hin16 (g := (mkF m 53 #[.val (.int p0), .val (.int p1), .val (.int p2), .val (.int p3), .val (.int p4), .val (.int p5), .val (.int ((p0 &&& (2147483647 : Int32)) % (6 : Int32))), .val (.int c_1), .val (.int c_3), .val (.int c_5), .val (.int c_7), .val (.int c_9), .unset, .unset, .unset, .unset] [(.int c_3), (.int 1), (.ref b11), (.ref b11)])) rfl rfl (hb hby at_53)
  have Sf18 : Safe Z EL1 s.vm h13 b11 := Safe.exa (EL := EL1) hZ.alike (A11'.wr W13) (by decide) (by decide)
  have H_17 := H_14.wr W16 Sf18
  have R_17 := R_14.trans (CHr.wr W16 Sf18 H_14)
  have O16 := O13.wr W16 g_b11
  have N16 := Fr.snoc X16 N13 g_b11
  have V16' : Arv Z h16 b11 k11 .char (5 : Int32) [(.int c_1), (.int (nar .char c_3)), (.int 0), (.int 0), (.int 0)] (.int 0) := Arv.set Ar16 q16 S16 N16_ H16 G16 (fits_nar_char _) W16 1 rfl (Nat.le_of_ble_eq_true rfl)
  have V16 : Arv Z h16 b11 k11 .char (5 : Int32) [(.int c_1), (.int c_3), (.int 0), (.int 0), (.int 0)] (.int 0) := by
    rw [P3_2] at V16'
    exact V16'
  obtain ⟨cl19, Ar19, q19, S19, N19_, H19, G19⟩ := id (V16)
  have hin19 : ¬ ((2 : Int32) < 0 ∨ cl19.slots.size ≤ ((2 : Int32)).toNatClampNeg) := inb_of S19 ⟨(by decide), (by decide)⟩
  obtain ⟨T19, h19, X19, e19, W19, st19⟩ := stC X16 hx hZ e16 Ar19 (j := (2 : Int32)) hin19 (g := (mkF m 58 #[.val (.int p0), .val (.int p1), .val (.int p2), .val (.int p3), .val (.int p4), .val (.int p5), .val (.int ((p0 &&& (2147483647 : Int32)) % (6 : Int32))), .val (.int c_1), .val (.int c_3), .val (.int c_5), .val (.int c_7), .val (.int c_9), .unset, .unset, .unset, .unset] [(.int c_5), (.int 2), (.ref b11), (.ref b11)])) rfl rfl (hb hby at_58)
  have Sf21 : Safe Z EL1 s.vm h16 b11 := Safe.exa (EL := EL1) hZ.alike ((A11'.wr W13).wr W16) (by decide) (by decide)
  have H_20 := H_17.wr W19 Sf21
  have R_20 := R_17.trans (CHr.wr W19 Sf21 H_17)
  have O19 := O16.wr W19 g_b11
  have N19 := Fr.snoc X19 N16 g_b11
  have V19' : Arv Z h19 b11 k11 .char (5 : Int32) [(.int c_1), (.int c_3), (.int (nar .char c_5)), (.int 0), (.int 0)] (.int 0) := Arv.set Ar19 q19 S19 N19_ H19 G19 (fits_nar_char _) W19 2 rfl (Nat.le_of_ble_eq_true rfl)
  have V19 : Arv Z h19 b11 k11 .char (5 : Int32) [(.int c_1), (.int c_3), (.int c_5), (.int 0), (.int 0)] (.int 0) := by
    rw [P5_2] at V19'
    exact V19'
  obtain ⟨cl22, Ar22, q22, S22, N22_, H22, G22⟩ := id (V19)
  have hin22 : ¬ ((3 : Int32) < 0 ∨ cl22.slots.size ≤ ((3 : Int32)).toNatClampNeg) := inb_of S22 ⟨(by decide), (by decide)⟩
  obtain ⟨T22, h22, X22, e22, W22, st22⟩ := stC X19 hx hZ e19 Ar22 (j := (3 : Int32)) hin22 (g := (mkF m 63 #[.val (.int p0), .val (.int p1), .val (.int p2), .val (.int p3), .val (.int p4), .val (.int p5), .val (.int ((p0 &&& (2147483647 : Int32)) % (6 : Int32))), .val (.int c_1), .val (.int c_3), .val (.int c_5), .val (.int c_7), .val (.int c_9), .unset, .unset, .unset, .unset] [(.int c_7), (.int 3), (.ref b11), (.ref b11)])) rfl rfl (hb hby at_63)
  have Sf24 : Safe Z EL1 s.vm h19 b11 := Safe.exa (EL := EL1) hZ.alike (((A11'.wr W13).wr W16).wr W19) (by decide) (by decide)
  have H_23 := H_20.wr W22 Sf24
  have R_23 := R_20.trans (CHr.wr W22 Sf24 H_20)
  have O22 := O19.wr W22 g_b11
  have N22 := Fr.snoc X22 N19 g_b11
  have V22' : Arv Z h22 b11 k11 .char (5 : Int32) [(.int c_1), (.int c_3), (.int c_5), (.int (nar .char c_7)), (.int 0)] (.int 0) := Arv.set Ar22 q22 S22 N22_ H22 G22 (fits_nar_char _) W22 3 rfl (Nat.le_of_ble_eq_true rfl)
  have V22 : Arv Z h22 b11 k11 .char (5 : Int32) [(.int c_1), (.int c_3), (.int c_5), (.int c_7), (.int 0)] (.int 0) := by
    rw [P7_2] at V22'
    exact V22'
  obtain ⟨cl25, Ar25, q25, S25, N25_, H25, G25⟩ := id (V22)
  have hin25 : ¬ ((4 : Int32) < 0 ∨ cl25.slots.size ≤ ((4 : Int32)).toNatClampNeg) := inb_of S25 ⟨(by decide), (by decide)⟩
  obtain ⟨T25, h25, X25, e25, W25, st25⟩ := stC X22 hx hZ e22 Ar25 (j := (4 : Int32)) hin25 (g := (mkF m 68 #[.val (.int p0), .val (.int p1), .val (.int p2), .val (.int p3), .val (.int p4), .val (.int p5), .val (.int ((p0 &&& (2147483647 : Int32)) % (6 : Int32))), .val (.int c_1), .val (.int c_3), .val (.int c_5), .val (.int c_7), .val (.int c_9), .unset, .unset, .unset, .unset] [(.int c_9), (.int 4), (.ref b11), (.ref b11)])) rfl rfl (hb hby at_68)
  have Sf27 : Safe Z EL1 s.vm h22 b11 := Safe.exa (EL := EL1) hZ.alike ((((A11'.wr W13).wr W16).wr W19).wr W22) (by decide) (by decide)
  have H_26 := H_23.wr W25 Sf27
  have R_26 := R_23.trans (CHr.wr W25 Sf27 H_23)
  have O25 := O22.wr W25 g_b11
  have N25 := Fr.snoc X25 N22 g_b11
  have V25' : Arv Z h25 b11 k11 .char (5 : Int32) [(.int c_1), (.int c_3), (.int c_5), (.int c_7), (.int (nar .char c_9))] (.int 0) := Arv.set Ar25 q25 S25 N25_ H25 G25 (fits_nar_char _) W25 4 rfl (Nat.le_of_ble_eq_true rfl)
  have V25 : Arv Z h25 b11 k11 .char (5 : Int32) [(.int c_1), (.int c_3), (.int c_5), (.int c_7), (.int c_9)] (.int 0) := by
    rw [P9_2] at V25'
    exact V25'
  have pre28 : ∀ t, Steps p.tables e below (T25.setTop (mkF m 71 #[.val (.int p0), .val (.int p1), .val (.int p2), .val (.int p3), .val (.int p4), .val (.int p5), .val (.int ((p0 &&& (2147483647 : Int32)) % (6 : Int32))), .val (.int c_1), .val (.int c_3), .val (.int c_5), .val (.int c_7), .val (.int c_9), .val (.ref b11), .unset, .unset, .unset] [])) t → Steps p.tables e below (s₁.setTop (entryFrame m #[(.int p0), (.int p1), (.int p2), (.int p3), (.int p4), (.int p5)] maxLocals)) t := fun t kt => by
    refine pre0 t ?_
    show Steps p.tables e below (s₁.setTop (mkF m 0 #[.val (.int p0), .val (.int p1), .val (.int p2), .val (.int p3), .val (.int p4), .val (.int p5), .unset, .unset, .unset, .unset, .unset, .unset, .unset, .unset, .unset, .unset] [])) _
    refine XS.iloadN X0w.here hx rfl (hb hby at_0) rfl ?_
    show Steps p.tables e below (s₁.setTop (mkF m 1 #[.val (.int p0), .val (.int p1), .val (.int p2), .val (.int p3), .val (.int p4), .val (.int p5), .unset, .unset, .unset, .unset, .unset, .unset, .unset, .unset, .unset, .unset] [(.int p0)])) _
    refine X0w.ldcInt hx hown (mvT hZ (Wd hw 0 rfl)) (g := (mkF m 1 #[.val (.int p0), .val (.int p1), .val (.int p2), .val (.int p3), .val (.int p4), .val (.int p5), .unset, .unset, .unset, .unset, .unset, .unset, .unset, .unset, .unset, .unset] [(.int p0)])) rfl (hb hby at_1) _ ?_
    show Steps p.tables e below (s₁.setTop (mkF m 3 #[.val (.int p0), .val (.int p1), .val (.int p2), .val (.int p3), .val (.int p4), .val (.int p5), .unset, .unset, .unset, .unset, .unset, .unset, .unset, .unset, .unset, .unset] [(.int 2147483647), (.int p0)])) _
    refine XS.iand X0w.here hx rfl (hb hby at_3) rfl ?_
    refine XS.bipush X0w.here hx rfl (hb hby at_4) ?_
    show Steps p.tables e below (s₁.setTop (mkF m 6 #[.val (.int p0), .val (.int p1), .val (.int p2), .val (.int p3), .val (.int p4), .val (.int p5), .unset, .unset, .unset, .unset, .unset, .unset, .unset, .unset, .unset, .unset] [(.int 6), (.int (p0 &&& (2147483647 : Int32)))])) _
    refine Jvm.RoadKit.iremM X0w hx rfl (hb hby at_6) rfl (by decide) ?_
    show Steps p.tables e below (s₁.setTop (mkF m 7 #[.val (.int p0), .val (.int p1), .val (.int p2), .val (.int p3), .val (.int p4), .val (.int p5), .unset, .unset, .unset, .unset, .unset, .unset, .unset, .unset, .unset, .unset] [(.int ((p0 &&& (2147483647 : Int32)) % (6 : Int32)))])) _
    refine XS.istore X0w.here hx rfl (hb hby at_7) rfl (l' := #[.val (.int p0), .val (.int p1), .val (.int p2), .val (.int p3), .val (.int p4), .val (.int p5), .val (.int ((p0 &&& (2147483647 : Int32)) % (6 : Int32))), .unset, .unset, .unset, .unset, .unset, .unset, .unset, .unset, .unset]) rfl ?_
    refine XS.iloadN X0w.here hx rfl (hb hby at_9) rfl ?_
    show Steps p.tables e below (s₁.setTop (mkF m 10 #[.val (.int p0), .val (.int p1), .val (.int p2), .val (.int p3), .val (.int p4), .val (.int p5), .val (.int ((p0 &&& (2147483647 : Int32)) % (6 : Int32))), .unset, .unset, .unset, .unset, .unset, .unset, .unset, .unset, .unset] [(.int p1)])) _
    refine st1 _ ?_
    show Steps p.tables e below (T1.setTop (mkF m 13 #[.val (.int p0), .val (.int p1), .val (.int p2), .val (.int p3), .val (.int p4), .val (.int p5), .val (.int ((p0 &&& (2147483647 : Int32)) % (6 : Int32))), .unset, .unset, .unset, .unset, .unset, .unset, .unset, .unset, .unset] [(.int c_1)])) _
    refine XS.istore X1.here hx rfl (hb hby at_13) rfl (l' := #[.val (.int p0), .val (.int p1), .val (.int p2), .val (.int p3), .val (.int p4), .val (.int p5), .val (.int ((p0 &&& (2147483647 : Int32)) % (6 : Int32))), .val (.int c_1), .unset, .unset, .unset, .unset, .unset, .unset, .unset, .unset]) rfl ?_
    refine XS.iloadN X1.here hx rfl (hb hby at_15) rfl ?_
    show Steps p.tables e below (T1.setTop (mkF m 16 #[.val (.int p0), .val (.int p1), .val (.int p2), .val (.int p3), .val (.int p4), .val (.int p5), .val (.int ((p0 &&& (2147483647 : Int32)) % (6 : Int32))), .val (.int c_1), .unset, .unset, .unset, .unset, .unset, .unset, .unset, .unset] [(.int p2)])) _
    refine st3 _ ?_
    show Steps p.tables e below (T3.setTop (mkF m 19 #[.val (.int p0), .val (.int p1), .val (.int p2), .val (.int p3), .val (.int p4), .val (.int p5), .val (.int ((p0 &&& (2147483647 : Int32)) % (6 : Int32))), .val (.int c_1), .unset, .unset, .unset, .unset, .unset, .unset, .unset, .unset] [(.int c_3)])) _
    refine XS.istore X3.here hx rfl (hb hby at_19) rfl (l' := #[.val (.int p0), .val (.int p1), .val (.int p2), .val (.int p3), .val (.int p4), .val (.int p5), .val (.int ((p0 &&& (2147483647 : Int32)) % (6 : Int32))), .val (.int c_1), .val (.int c_3), .unset, .unset, .unset, .unset, .unset, .unset, .unset]) rfl ?_
    refine XS.iloadN X3.here hx rfl (hb hby at_21) rfl ?_
    show Steps p.tables e below (T3.setTop (mkF m 22 #[.val (.int p0), .val (.int p1), .val (.int p2), .val (.int p3), .val (.int p4), .val (.int p5), .val (.int ((p0 &&& (2147483647 : Int32)) % (6 : Int32))), .val (.int c_1), .val (.int c_3), .unset, .unset, .unset, .unset, .unset, .unset, .unset] [(.int p3)])) _
    refine st5 _ ?_
    show Steps p.tables e below (T5.setTop (mkF m 25 #[.val (.int p0), .val (.int p1), .val (.int p2), .val (.int p3), .val (.int p4), .val (.int p5), .val (.int ((p0 &&& (2147483647 : Int32)) % (6 : Int32))), .val (.int c_1), .val (.int c_3), .unset, .unset, .unset, .unset, .unset, .unset, .unset] [(.int c_5)])) _
    refine XS.istore X5.here hx rfl (hb hby at_25) rfl (l' := #[.val (.int p0), .val (.int p1), .val (.int p2), .val (.int p3), .val (.int p4), .val (.int p5), .val (.int ((p0 &&& (2147483647 : Int32)) % (6 : Int32))), .val (.int c_1), .val (.int c_3), .val (.int c_5), .unset, .unset, .unset, .unset, .unset, .unset]) rfl ?_
    refine XS.iload X5.here hx rfl (hb hby at_27) rfl ?_
    show Steps p.tables e below (T5.setTop (mkF m 29 #[.val (.int p0), .val (.int p1), .val (.int p2), .val (.int p3), .val (.int p4), .val (.int p5), .val (.int ((p0 &&& (2147483647 : Int32)) % (6 : Int32))), .val (.int c_1), .val (.int c_3), .val (.int c_5), .unset, .unset, .unset, .unset, .unset, .unset] [(.int p4)])) _
    refine st7 _ ?_
    show Steps p.tables e below (T7.setTop (mkF m 32 #[.val (.int p0), .val (.int p1), .val (.int p2), .val (.int p3), .val (.int p4), .val (.int p5), .val (.int ((p0 &&& (2147483647 : Int32)) % (6 : Int32))), .val (.int c_1), .val (.int c_3), .val (.int c_5), .unset, .unset, .unset, .unset, .unset, .unset] [(.int c_7)])) _
    refine XS.istore X7.here hx rfl (hb hby at_32) rfl (l' := #[.val (.int p0), .val (.int p1), .val (.int p2), .val (.int p3), .val (.int p4), .val (.int p5), .val (.int ((p0 &&& (2147483647 : Int32)) % (6 : Int32))), .val (.int c_1), .val (.int c_3), .val (.int c_5), .val (.int c_7), .unset, .unset, .unset, .unset, .unset]) rfl ?_
    refine XS.iload X7.here hx rfl (hb hby at_34) rfl ?_
    show Steps p.tables e below (T7.setTop (mkF m 36 #[.val (.int p0), .val (.int p1), .val (.int p2), .val (.int p3), .val (.int p4), .val (.int p5), .val (.int ((p0 &&& (2147483647 : Int32)) % (6 : Int32))), .val (.int c_1), .val (.int c_3), .val (.int c_5), .val (.int c_7), .unset, .unset, .unset, .unset, .unset] [(.int p5)])) _
    refine st9 _ ?_
    show Steps p.tables e below (T9.setTop (mkF m 39 #[.val (.int p0), .val (.int p1), .val (.int p2), .val (.int p3), .val (.int p4), .val (.int p5), .val (.int ((p0 &&& (2147483647 : Int32)) % (6 : Int32))), .val (.int c_1), .val (.int c_3), .val (.int c_5), .val (.int c_7), .unset, .unset, .unset, .unset, .unset] [(.int c_9)])) _
    refine XS.istore X9.here hx rfl (hb hby at_39) rfl (l' := #[.val (.int p0), .val (.int p1), .val (.int p2), .val (.int p3), .val (.int p4), .val (.int p5), .val (.int ((p0 &&& (2147483647 : Int32)) % (6 : Int32))), .val (.int c_1), .val (.int c_3), .val (.int c_5), .val (.int c_7), .val (.int c_9), .unset, .unset, .unset, .unset]) rfl ?_
    refine XS.iconst X9.here hx rfl (hb hby at_41) ?_
    show Steps p.tables e below (T9.setTop (mkF m 42 #[.val (.int p0), .val (.int p1), .val (.int p2), .val (.int p3), .val (.int p4), .val (.int p5), .val (.int ((p0 &&& (2147483647 : Int32)) % (6 : Int32))), .val (.int c_1), .val (.int c_3), .val (.int c_5), .val (.int c_7), .val (.int c_9), .unset, .unset, .unset, .unset] [(.int 5)])) _
    refine st11 _ ?_
    show Steps p.tables e below (T11.setTop (mkF m 44 #[.val (.int p0), .val (.int p1), .val (.int p2), .val (.int p3), .val (.int p4), .val (.int p5), .val (.int ((p0 &&& (2147483647 : Int32)) % (6 : Int32))), .val (.int c_1), .val (.int c_3), .val (.int c_5), .val (.int c_7), .val (.int c_9), .unset, .unset, .unset, .unset] [(.ref b11)])) _
    refine XS.dup X11.here hx rfl (hb hby at_44) rfl rfl ?_
    refine XS.iconst X11.here hx rfl (hb hby at_45) ?_
    refine XS.iload X11.here hx rfl (hb hby at_46) rfl ?_
    show Steps p.tables e below (T11.setTop (mkF m 48 #[.val (.int p0), .val (.int p1), .val (.int p2), .val (.int p3), .val (.int p4), .val (.int p5), .val (.int ((p0 &&& (2147483647 : Int32)) % (6 : Int32))), .val (.int c_1), .val (.int c_3), .val (.int c_5), .val (.int c_7), .val (.int c_9), .unset, .unset, .unset, .unset] [(.int c_1), (.int 0), (.ref b11), (.ref b11)])) _
    refine st13 _ ?_
    show Steps p.tables e below (T13.setTop (mkF m 49 #[.val (.int p0), .val (.int p1), .val (.int p2), .val (.int p3), .val (.int p4), .val (.int p5), .val (.int ((p0 &&& (2147483647 : Int32)) % (6 : Int32))), .val (.int c_1), .val (.int c_3), .val (.int c_5), .val (.int c_7), .val (.int c_9), .unset, .unset, .unset, .unset] [(.ref b11)])) _
    refine XS.dup X13.here hx rfl (hb hby at_49) rfl rfl ?_
    refine XS.iconst X13.here hx rfl (hb hby at_50) ?_
    refine XS.iload X13.here hx rfl (hb hby at_51) rfl ?_
    show Steps p.tables e below (T13.setTop (mkF m 53 #[.val (.int p0), .val (.int p1), .val (.int p2), .val (.int p3), .val (.int p4), .val (.int p5), .val (.int ((p0 &&& (2147483647 : Int32)) % (6 : Int32))), .val (.int c_1), .val (.int c_3), .val (.int c_5), .val (.int c_7), .val (.int c_9), .unset, .unset, .unset, .unset] [(.int c_3), (.int 1), (.ref b11), (.ref b11)])) _
    refine st16 _ ?_
    show Steps p.tables e below (T16.setTop (mkF m 54 #[.val (.int p0), .val (.int p1), .val (.int p2), .val (.int p3), .val (.int p4), .val (.int p5), .val (.int ((p0 &&& (2147483647 : Int32)) % (6 : Int32))), .val (.int c_1), .val (.int c_3), .val (.int c_5), .val (.int c_7), .val (.int c_9), .unset, .unset, .unset, .unset] [(.ref b11)])) _
    refine XS.dup X16.here hx rfl (hb hby at_54) rfl rfl ?_
    refine XS.iconst X16.here hx rfl (hb hby at_55) ?_
    refine XS.iload X16.here hx rfl (hb hby at_56) rfl ?_
    show Steps p.tables e below (T16.setTop (mkF m 58 #[.val (.int p0), .val (.int p1), .val (.int p2), .val (.int p3), .val (.int p4), .val (.int p5), .val (.int ((p0 &&& (2147483647 : Int32)) % (6 : Int32))), .val (.int c_1), .val (.int c_3), .val (.int c_5), .val (.int c_7), .val (.int c_9), .unset, .unset, .unset, .unset] [(.int c_5), (.int 2), (.ref b11), (.ref b11)])) _
    refine st19 _ ?_
    show Steps p.tables e below (T19.setTop (mkF m 59 #[.val (.int p0), .val (.int p1), .val (.int p2), .val (.int p3), .val (.int p4), .val (.int p5), .val (.int ((p0 &&& (2147483647 : Int32)) % (6 : Int32))), .val (.int c_1), .val (.int c_3), .val (.int c_5), .val (.int c_7), .val (.int c_9), .unset, .unset, .unset, .unset] [(.ref b11)])) _
    refine XS.dup X19.here hx rfl (hb hby at_59) rfl rfl ?_
    refine XS.iconst X19.here hx rfl (hb hby at_60) ?_
    refine XS.iload X19.here hx rfl (hb hby at_61) rfl ?_
    show Steps p.tables e below (T19.setTop (mkF m 63 #[.val (.int p0), .val (.int p1), .val (.int p2), .val (.int p3), .val (.int p4), .val (.int p5), .val (.int ((p0 &&& (2147483647 : Int32)) % (6 : Int32))), .val (.int c_1), .val (.int c_3), .val (.int c_5), .val (.int c_7), .val (.int c_9), .unset, .unset, .unset, .unset] [(.int c_7), (.int 3), (.ref b11), (.ref b11)])) _
    refine st22 _ ?_
    show Steps p.tables e below (T22.setTop (mkF m 64 #[.val (.int p0), .val (.int p1), .val (.int p2), .val (.int p3), .val (.int p4), .val (.int p5), .val (.int ((p0 &&& (2147483647 : Int32)) % (6 : Int32))), .val (.int c_1), .val (.int c_3), .val (.int c_5), .val (.int c_7), .val (.int c_9), .unset, .unset, .unset, .unset] [(.ref b11)])) _
    refine XS.dup X22.here hx rfl (hb hby at_64) rfl rfl ?_
    refine XS.iconst X22.here hx rfl (hb hby at_65) ?_
    refine XS.iload X22.here hx rfl (hb hby at_66) rfl ?_
    show Steps p.tables e below (T22.setTop (mkF m 68 #[.val (.int p0), .val (.int p1), .val (.int p2), .val (.int p3), .val (.int p4), .val (.int p5), .val (.int ((p0 &&& (2147483647 : Int32)) % (6 : Int32))), .val (.int c_1), .val (.int c_3), .val (.int c_5), .val (.int c_7), .val (.int c_9), .unset, .unset, .unset, .unset] [(.int c_9), (.int 4), (.ref b11), (.ref b11)])) _
    refine st25 _ ?_
    show Steps p.tables e below (T25.setTop (mkF m 69 #[.val (.int p0), .val (.int p1), .val (.int p2), .val (.int p3), .val (.int p4), .val (.int p5), .val (.int ((p0 &&& (2147483647 : Int32)) % (6 : Int32))), .val (.int c_1), .val (.int c_3), .val (.int c_5), .val (.int c_7), .val (.int c_9), .unset, .unset, .unset, .unset] [(.ref b11)])) _
    refine XS.astore X25.here hx rfl (hb hby at_69) rfl rfl (l' := #[.val (.int p0), .val (.int p1), .val (.int p2), .val (.int p3), .val (.int p4), .val (.int p5), .val (.int ((p0 &&& (2147483647 : Int32)) % (6 : Int32))), .val (.int c_1), .val (.int c_3), .val (.int c_5), .val (.int c_7), .val (.int c_9), .val (.ref b11), .unset, .unset, .unset]) rfl ?_
    exact kt
  rcases own_n6 p0 with hN | hN | hN | hN | hN | hN
  · obtain ⟨_, _, ⟨T29, L29, k29, n29⟩, -, X29', hS29', hg29, ⟨Lc29, hQ29, l29, y29, z29, Rs29⟩, st29⟩ := callSS X25 hx (y := MN_6) hown (mvT hZ (Wd hw 6 rfl)) (mvT hZ (Wd hw 7 rfl)) (mvT hZ (Wd hw 3 rfl)) (mvT hZ (Wd hw 8 rfl)) (by decide) (backOfSH (W := 0) (rmMk0 l Z a0 hw [] cS (c_1) (c_3) (c_5) (c_7) (c_9) (h25) n0 O25 GL P1_0 P3_0 P5_0 P7_0 P9_0 P1_2 P3_2 P5_2 P7_2 P9_2) hZ (Wd hw 8 rfl) (Wd hw 3 rfl) (by decide) (by decide) (own_EW hw) H_26) (g := (mkF m 83 #[.val (.int p0), .val (.int p1), .val (.int p2), .val (.int p3), .val (.int p4), .val (.int p5), .val (.int 0), .val (.int c_1), .val (.int c_3), .val (.int c_5), .val (.int c_7), .val (.int c_9), .val (.ref b11), .unset, .unset, .unset] [(.int c_9), (.int c_7), (.int c_5), (.int c_3), (.int c_1), (.int 0)])) rfl (by rw [hml]; rfl) (argsL := [(.int 0), (.int c_1), (.int c_3), (.int c_5), (.int c_7), (.int c_9)]) (rest := []) (lenOf pdv11 rfl) rfl (by show 2 * 0 + _ ≤ _; exact Nat.le_of_eq rfl) (hb hby at_83) (fun _ _ => ⟨rfl, e25, (by decide : 6 + 6 ≤ _), (by decide : 45 + 12 ≤ _)⟩)
    dsimp only [Pt.U, Pt.locs, Pt.cells, Pt.slots] at X29' l29 y29 z29 st29 hQ29 hS29' hg29 Rs29
    subst l29 y29 z29
    obtain ⟨X29, hS29, hZ29, hown29⟩ := rebS hS0 (by rw [e25]; exact (Nat.le_trans (Nat.le_trans (Nat.le_trans (Nat.le_trans (Nat.le_trans (Nat.le_trans (Nat.le_trans (Nat.le_trans (Nat.le_trans (Nat.le_trans (Nat.le_trans (Nat.le_refl _) Kc1.1) Kc3.1) Kc5.1) Kc7.1) Kc9.1) E11.1) (Keep.of_wr W13).1) (Keep.of_wr W16).1) (Keep.of_wr W19).1) (Keep.of_wr W22).1) (Keep.of_wr W25).1)) X29' hS29' hg29 hZ hown
    obtain ⟨b_29, bv_29, kb_29, rfl, N29q, Kc29, P29_0, P29_1, P29_2, P29_3⟩ := hQ29
    have O29 := O25.keep Kc29 all0
    have H_30 := Rs29.1
    have R_30 := R_26.trans Rs29
    have N29 := Fr.app N25 N29q
    obtain ⟨_, _, ⟨T31, L31, k31, n31⟩, -, X31', hS31', hg31, ⟨Lc31, hQ31, l31, y31, z31, Rs31⟩, st31⟩ := callSS X29 hx (y := MN_12) hown29 (mvT hZ29 (Wd hw 30 rfl)) (mvT hZ29 (Wd hw 31 rfl)) (mvT hZ29 (Wd hw 32 rfl)) (mvT hZ29 (Wd hw 33 rfl)) (by decide) (backOfSH (W := 0) (rmIbnegneg l Z a0 hw [] cS (b_29) (bv_29) (kb_29) ((0 : Int32)) ([]) (T29.heap) n0 O29 GL P29_0 P29_1 P29_2 P29_3 (by decide) (by decide)) hZ29 (Wd hw 33 rfl) (Wd hw 32 rfl) (by decide) (by decide) (own_EW hw) H_30) (g := (mkF m 200 #[.val (.int p0), .val (.int p1), .val (.int p2), .val (.int p3), .val (.int p4), .val (.int p5), .val (.int 0), .val (.int c_1), .val (.int c_3), .val (.int c_5), .val (.int c_7), .val (.int c_9), .val (.ref b11), .val (.ref b_29), .val (.int 0), .val (.int 0)] [(.ref b_29)])) rfl (by rw [hml]; rfl) (argsL := [(.ref b_29)]) (rest := []) (lenOf pdv9 rfl) rfl (by show 2 * 0 + _ ≤ _; exact Nat.le_of_eq rfl) (hb hby at_200) (fun _ _ => ⟨rfl, rfl, (by decide : 12 + 4 ≤ _), (by decide : 57 + 36 ≤ _)⟩)
    dsimp only [Pt.U, Pt.locs, Pt.cells, Pt.slots] at X31' l31 y31 z31 st31 hQ31 hS31' hg31 Rs31
    subst l31 y31 z31
    obtain ⟨X31, hS31, hZ31, hown31⟩ := rebS hS29 (Nat.le_refl _) X31' hS31' hg31 hZ29 hown29
    obtain ⟨rfl, N31q, Kc31⟩ := hQ31
    have O31 := O29.keep Kc31 all0
    have H_32 := Rs31.1
    have R_32 := R_30.trans Rs31
    have N31 := Fr.app N29 N31q
    obtain ⟨fs, hr, hrun, hended, hRW⟩ := X31.leaveW hS31 (Nat.le_refl _) (v := some (.int 1)) (fun h => by rw [Bd.returns] at h; cases h)
    have hCR : CHr Z EL1 s.vm s.heap T31.vm T31.heap := by
      rw [hh]
      exact R_32.trans (CHv.at X31 hZ31 (own_EW hw) H_32)
    refine ⟨_, _, pre28 _ ?_, hrun, hended, _, _, rfl, ?_, hCR, hRW.1, hRW.2.1, hRW.2.2.1, hRW.2.2.2.mono (by decide) (by decide)⟩
    · rw [hN]
      show Steps p.tables e below (T25.setTop (mkF m 71 #[.val (.int p0), .val (.int p1), .val (.int p2), .val (.int p3), .val (.int p4), .val (.int p5), .val (.int 0), .val (.int c_1), .val (.int c_3), .val (.int c_5), .val (.int c_7), .val (.int c_9), .val (.ref b11), .unset, .unset, .unset] [])) _
      refine XS.iload X25.here hx rfl (hb hby at_71) rfl ?_
      refine XS.iload X25.here hx rfl (hb hby at_73) rfl ?_
      refine XS.iload X25.here hx rfl (hb hby at_75) rfl ?_
      refine XS.iload X25.here hx rfl (hb hby at_77) rfl ?_
      show Steps p.tables e below (T25.setTop (mkF m 79 #[.val (.int p0), .val (.int p1), .val (.int p2), .val (.int p3), .val (.int p4), .val (.int p5), .val (.int 0), .val (.int c_1), .val (.int c_3), .val (.int c_5), .val (.int c_7), .val (.int c_9), .val (.ref b11), .unset, .unset, .unset] [(.int c_5), (.int c_3), (.int c_1), (.int 0)])) _
      refine XS.iload X25.here hx rfl (hb hby at_79) rfl ?_
      refine XS.iload X25.here hx rfl (hb hby at_81) rfl ?_
      show Steps p.tables e below (T25.setTop (mkF m 83 #[.val (.int p0), .val (.int p1), .val (.int p2), .val (.int p3), .val (.int p4), .val (.int p5), .val (.int 0), .val (.int c_1), .val (.int c_3), .val (.int c_5), .val (.int c_7), .val (.int c_9), .val (.ref b11), .unset, .unset, .unset] [(.int c_9), (.int c_7), (.int c_5), (.int c_3), (.int c_1), (.int 0)])) _
      refine st29.trans ?_
      show Steps p.tables e below (T29.setTop (mkF m 86 #[.val (.int p0), .val (.int p1), .val (.int p2), .val (.int p3), .val (.int p4), .val (.int p5), .val (.int 0), .val (.int c_1), .val (.int c_3), .val (.int c_5), .val (.int c_7), .val (.int c_9), .val (.ref b11), .unset, .unset, .unset] [(.ref b_29)])) _
      refine XS.astore X29.here hx rfl (hb hby at_86) rfl rfl (l' := #[.val (.int p0), .val (.int p1), .val (.int p2), .val (.int p3), .val (.int p4), .val (.int p5), .val (.int 0), .val (.int c_1), .val (.int c_3), .val (.int c_5), .val (.int c_7), .val (.int c_9), .val (.ref b11), .val (.ref b_29), .unset, .unset]) rfl ?_
      refine XS.iload X29.here hx rfl (hb hby at_88) rfl ?_
      refine XS.iconst X29.here hx rfl (hb hby at_90) ?_
      refine XS.icmpYes X29.here hx rfl (pc0 := 91) (pc' := 134) rfl (hb hby at_91) rfl (tlt (by decide : (0 : Int32) < (3 : Int32))).1 (by decide) (by decide) ?_
      show Steps p.tables e below (T29.setTop (mkF m 134 #[.val (.int p0), .val (.int p1), .val (.int p2), .val (.int p3), .val (.int p4), .val (.int p5), .val (.int 0), .val (.int c_1), .val (.int c_3), .val (.int c_5), .val (.int c_7), .val (.int c_9), .val (.ref b11), .val (.ref b_29), .unset, .unset] [])) _
      refine XS.iconst X29.here hx rfl (hb hby at_134) ?_
      refine XS.istore X29.here hx rfl (hb hby at_135) rfl (l' := #[.val (.int p0), .val (.int p1), .val (.int p2), .val (.int p3), .val (.int p4), .val (.int p5), .val (.int 0), .val (.int c_1), .val (.int c_3), .val (.int c_5), .val (.int c_7), .val (.int c_9), .val (.ref b11), .val (.ref b_29), .val (.int 0), .unset]) rfl ?_
      refine XS.iload X29.here hx rfl (hb hby at_137) rfl ?_
      refine XS.iconst X29.here hx rfl (hb hby at_139) ?_
      show Steps p.tables e below (T29.setTop (mkF m 140 #[.val (.int p0), .val (.int p1), .val (.int p2), .val (.int p3), .val (.int p4), .val (.int p5), .val (.int 0), .val (.int c_1), .val (.int c_3), .val (.int c_5), .val (.int c_7), .val (.int c_9), .val (.ref b11), .val (.ref b_29), .val (.int 0), .unset] [(.int 4), (.int 0)])) _
      refine XS.icmpYes X29.here hx rfl (pc0 := 140) (pc' := 195) rfl (hb hby at_140) rfl (tlt (by decide : (0 : Int32) < (4 : Int32))).1 (by decide) (by decide) ?_
      refine XS.iconst X29.here hx rfl (hb hby at_195) ?_
      refine XS.istore X29.here hx rfl (hb hby at_196) rfl (l' := #[.val (.int p0), .val (.int p1), .val (.int p2), .val (.int p3), .val (.int p4), .val (.int p5), .val (.int 0), .val (.int c_1), .val (.int c_3), .val (.int c_5), .val (.int c_7), .val (.int c_9), .val (.ref b11), .val (.ref b_29), .val (.int 0), .val (.int 0)]) rfl ?_
      refine XS.aload X29.here hx rfl (hb hby at_198) rfl rfl ?_
      show Steps p.tables e below (T29.setTop (mkF m 200 #[.val (.int p0), .val (.int p1), .val (.int p2), .val (.int p3), .val (.int p4), .val (.int p5), .val (.int 0), .val (.int c_1), .val (.int c_3), .val (.int c_5), .val (.int c_7), .val (.int c_9), .val (.ref b11), .val (.ref b_29), .val (.int 0), .val (.int 0)] [(.ref b_29)])) _
      refine st31.trans ?_
      show Steps p.tables e below (T31.setTop (mkF m 203 #[.val (.int p0), .val (.int p1), .val (.int p2), .val (.int p3), .val (.int p4), .val (.int p5), .val (.int 0), .val (.int c_1), .val (.int c_3), .val (.int c_5), .val (.int c_7), .val (.int c_9), .val (.ref b11), .val (.ref b_29), .val (.int 0), .val (.int 0)] [(.int 0)])) _
      refine XS.iload X31.here hx rfl (hb hby at_203) rfl ?_
      refine XS.ifNo X31.here hx rfl (hb hby at_205) rfl ((if0 _ _).trans (teq (by decide : (0 : Int32) = (0 : Int32))).2) ?_
      refine XS.iload X31.here hx rfl (hb hby at_208) rfl ?_
      refine XS.ifYes X31.here hx rfl (pc0 := 210) (pc' := 217) rfl (hb hby at_210) rfl ((if0 _ _).trans (teq (by decide : (0 : Int32) = (0 : Int32))).1) (by decide) (by decide) ?_
      show Steps p.tables e below (T31.setTop (mkF m 217 #[.val (.int p0), .val (.int p1), .val (.int p2), .val (.int p3), .val (.int p4), .val (.int p5), .val (.int 0), .val (.int c_1), .val (.int c_3), .val (.int c_5), .val (.int c_7), .val (.int c_9), .val (.ref b11), .val (.ref b_29), .val (.int 0), .val (.int 0)] [(.int 0)])) _
      refine XS.iconst X31.here hx rfl (hb hby at_217) ?_
      refine XS.icmpNo X31.here hx rfl (hb hby at_218) rfl (teq (by decide : (0 : Int32) = (0 : Int32))).2 ?_
      refine XS.iconst X31.here hx rfl (hb hby at_221) ?_
      refine XS.goto X31.here hx rfl (pc0 := 222) (pc' := 226) rfl (hb hby at_222) (by decide) (by decide) ?_
      show Steps p.tables e below (T31.setTop (mkF m 226 #[.val (.int p0), .val (.int p1), .val (.int p2), .val (.int p3), .val (.int p4), .val (.int p5), .val (.int 0), .val (.int c_1), .val (.int c_3), .val (.int c_5), .val (.int c_7), .val (.int c_9), .val (.ref b11), .val (.ref b_29), .val (.int 0), .val (.int 0)] [(.int 1)])) _
      exact retN X31 hx (t := .boolean) Bd.returns (by simp) (hb hby at_226) hr
    · show Q_rm0 n0 _ T31.heap _
      exact ⟨rfl, N31⟩
  · obtain ⟨_, _, ⟨T33, L33, k33, n33⟩, -, X33, ⟨Lc33, hQ33, l33, y33, z33⟩, st33⟩ := Jvm.LawKit.callS X25 hx (y := MN_6) hown (mvT hZ (Wd hw 6 rfl)) (mvT hZ (Wd hw 7 rfl)) (mvT hZ (Wd hw 3 rfl)) (mvT hZ (Wd hw 8 rfl)) (by decide) (backOf (W := 0) (rmMk1 l Z a0 hw [] cS (c_1) (c_3) (c_5) (c_7) (c_9) (h25) n0 O25 GL P1_0 P3_0 P5_0 P7_0 P9_0 P1_2 P3_2 P5_2 P7_2 P9_2) hZ (Wd hw 8 rfl) (Wd hw 3 rfl) (by decide) (by decide)) (g := (mkF m 83 #[.val (.int p0), .val (.int p1), .val (.int p2), .val (.int p3), .val (.int p4), .val (.int p5), .val (.int 1), .val (.int c_1), .val (.int c_3), .val (.int c_5), .val (.int c_7), .val (.int c_9), .val (.ref b11), .unset, .unset, .unset] [(.int c_9), (.int c_7), (.int c_5), (.int c_3), (.int c_1), (.int 1)])) rfl (by rw [hml]; rfl) (argsL := [(.int 1), (.int c_1), (.int c_3), (.int c_5), (.int c_7), (.int c_9)]) (rest := []) (lenOf pdv11 rfl) rfl (by show 2 * 0 + _ ≤ _; exact Nat.le_of_eq rfl) (hb hby at_83) (fun _ _ => ⟨rfl, e25, (by decide : 6 + 3 ≤ _), (by decide : 45 + 6 ≤ _)⟩)
    dsimp only [Pt.U, Pt.locs, Pt.cells, Pt.slots] at X33 l33 y33 z33 st33 hQ33
    subst l33 y33 z33
    obtain ⟨b_33, bv_33, kb_33, rfl, N33q, Kc33, P33_0, P33_1, P33_2, P33_3⟩ := hQ33
    have O33 := O25.keep Kc33 all0
    have H_34 := H_26.keep Kc33 sf0
    have R_34 := R_26.trans (CHr.keep Kc33 sf0 H_26)
    have N33 := Fr.app N25 N33q
    obtain ⟨_, _, ⟨T35, L35, k35, n35⟩, -, X35', hS35', hg35, ⟨Lc35, hQ35, l35, y35, z35, Rs35⟩, st35⟩ := callSS X33 hx (y := MN_12) hown (mvT hZ (Wd hw 30 rfl)) (mvT hZ (Wd hw 31 rfl)) (mvT hZ (Wd hw 32 rfl)) (mvT hZ (Wd hw 33 rfl)) (by decide) (backOfSH (W := 0) (rmIbnegneg l Z a0 hw [] cS (b_33) (bv_33) (kb_33) ((1 : Int32)) ([(.int (c_1.toInt8.toInt32))]) (T33.heap) n0 O33 GL P33_0 P33_1 P33_2 P33_3 (by decide) (by decide)) hZ (Wd hw 33 rfl) (Wd hw 32 rfl) (by decide) (by decide) (own_EW hw) H_34) (g := (mkF m 200 #[.val (.int p0), .val (.int p1), .val (.int p2), .val (.int p3), .val (.int p4), .val (.int p5), .val (.int 1), .val (.int c_1), .val (.int c_3), .val (.int c_5), .val (.int c_7), .val (.int c_9), .val (.ref b11), .val (.ref b_33), .val (.int 0), .val (.int 0)] [(.ref b_33)])) rfl (by rw [hml]; rfl) (argsL := [(.ref b_33)]) (rest := []) (lenOf pdv9 rfl) rfl (by show 2 * 0 + _ ≤ _; exact Nat.le_of_eq rfl) (hb hby at_200) (fun _ _ => ⟨rfl, rfl, (by decide : 9 + 4 ≤ _), (by decide : 51 + 36 ≤ _)⟩)
    dsimp only [Pt.U, Pt.locs, Pt.cells, Pt.slots] at X35' l35 y35 z35 st35 hQ35 hS35' hg35 Rs35
    subst l35 y35 z35
    obtain ⟨X35, hS35, hZ35, hown35⟩ := rebS hS0 (Nat.le_trans (Nat.le_trans (Nat.le_trans (Nat.le_trans (Nat.le_trans (Nat.le_trans (Nat.le_trans (Nat.le_trans (Nat.le_trans (Nat.le_trans (Nat.le_trans (Nat.le_trans (Nat.le_refl _) Kc1.1) Kc3.1) Kc5.1) Kc7.1) Kc9.1) E11.1) (Keep.of_wr W13).1) (Keep.of_wr W16).1) (Keep.of_wr W19).1) (Keep.of_wr W22).1) (Keep.of_wr W25).1) Kc33.1) X35' hS35' hg35 hZ hown
    obtain ⟨rfl, N35q, Kc35⟩ := hQ35
    have O35 := O33.keep Kc35 all0
    have H_36 := Rs35.1
    have R_36 := R_34.trans Rs35
    have N35 := Fr.app N33 N35q
    obtain ⟨fs, hr, hrun, hended, hRW⟩ := X35.leaveW hS35 (Nat.le_refl _) (v := some (.int 1)) (fun h => by rw [Bd.returns] at h; cases h)
    have hCR : CHr Z EL1 s.vm s.heap T35.vm T35.heap := by
      rw [hh]
      exact R_36.trans (CHv.at X35 hZ35 (own_EW hw) H_36)
    refine ⟨_, _, pre28 _ ?_, hrun, hended, _, _, rfl, ?_, hCR, hRW.1, hRW.2.1, hRW.2.2.1, hRW.2.2.2.mono (by decide) (by decide)⟩
    · rw [hN]
      show Steps p.tables e below (T25.setTop (mkF m 71 #[.val (.int p0), .val (.int p1), .val (.int p2), .val (.int p3), .val (.int p4), .val (.int p5), .val (.int 1), .val (.int c_1), .val (.int c_3), .val (.int c_5), .val (.int c_7), .val (.int c_9), .val (.ref b11), .unset, .unset, .unset] [])) _
      refine XS.iload X25.here hx rfl (hb hby at_71) rfl ?_
      refine XS.iload X25.here hx rfl (hb hby at_73) rfl ?_
      refine XS.iload X25.here hx rfl (hb hby at_75) rfl ?_
      refine XS.iload X25.here hx rfl (hb hby at_77) rfl ?_
      show Steps p.tables e below (T25.setTop (mkF m 79 #[.val (.int p0), .val (.int p1), .val (.int p2), .val (.int p3), .val (.int p4), .val (.int p5), .val (.int 1), .val (.int c_1), .val (.int c_3), .val (.int c_5), .val (.int c_7), .val (.int c_9), .val (.ref b11), .unset, .unset, .unset] [(.int c_5), (.int c_3), (.int c_1), (.int 1)])) _
      refine XS.iload X25.here hx rfl (hb hby at_79) rfl ?_
      refine XS.iload X25.here hx rfl (hb hby at_81) rfl ?_
      show Steps p.tables e below (T25.setTop (mkF m 83 #[.val (.int p0), .val (.int p1), .val (.int p2), .val (.int p3), .val (.int p4), .val (.int p5), .val (.int 1), .val (.int c_1), .val (.int c_3), .val (.int c_5), .val (.int c_7), .val (.int c_9), .val (.ref b11), .unset, .unset, .unset] [(.int c_9), (.int c_7), (.int c_5), (.int c_3), (.int c_1), (.int 1)])) _
      refine st33 _ ?_
      show Steps p.tables e below (T33.setTop (mkF m 86 #[.val (.int p0), .val (.int p1), .val (.int p2), .val (.int p3), .val (.int p4), .val (.int p5), .val (.int 1), .val (.int c_1), .val (.int c_3), .val (.int c_5), .val (.int c_7), .val (.int c_9), .val (.ref b11), .unset, .unset, .unset] [(.ref b_33)])) _
      refine XS.astore X33.here hx rfl (hb hby at_86) rfl rfl (l' := #[.val (.int p0), .val (.int p1), .val (.int p2), .val (.int p3), .val (.int p4), .val (.int p5), .val (.int 1), .val (.int c_1), .val (.int c_3), .val (.int c_5), .val (.int c_7), .val (.int c_9), .val (.ref b11), .val (.ref b_33), .unset, .unset]) rfl ?_
      refine XS.iload X33.here hx rfl (hb hby at_88) rfl ?_
      refine XS.iconst X33.here hx rfl (hb hby at_90) ?_
      refine XS.icmpYes X33.here hx rfl (pc0 := 91) (pc' := 134) rfl (hb hby at_91) rfl (tlt (by decide : (1 : Int32) < (3 : Int32))).1 (by decide) (by decide) ?_
      show Steps p.tables e below (T33.setTop (mkF m 134 #[.val (.int p0), .val (.int p1), .val (.int p2), .val (.int p3), .val (.int p4), .val (.int p5), .val (.int 1), .val (.int c_1), .val (.int c_3), .val (.int c_5), .val (.int c_7), .val (.int c_9), .val (.ref b11), .val (.ref b_33), .unset, .unset] [])) _
      refine XS.iconst X33.here hx rfl (hb hby at_134) ?_
      refine XS.istore X33.here hx rfl (hb hby at_135) rfl (l' := #[.val (.int p0), .val (.int p1), .val (.int p2), .val (.int p3), .val (.int p4), .val (.int p5), .val (.int 1), .val (.int c_1), .val (.int c_3), .val (.int c_5), .val (.int c_7), .val (.int c_9), .val (.ref b11), .val (.ref b_33), .val (.int 0), .unset]) rfl ?_
      refine XS.iload X33.here hx rfl (hb hby at_137) rfl ?_
      refine XS.iconst X33.here hx rfl (hb hby at_139) ?_
      show Steps p.tables e below (T33.setTop (mkF m 140 #[.val (.int p0), .val (.int p1), .val (.int p2), .val (.int p3), .val (.int p4), .val (.int p5), .val (.int 1), .val (.int c_1), .val (.int c_3), .val (.int c_5), .val (.int c_7), .val (.int c_9), .val (.ref b11), .val (.ref b_33), .val (.int 0), .unset] [(.int 4), (.int 1)])) _
      refine XS.icmpYes X33.here hx rfl (pc0 := 140) (pc' := 195) rfl (hb hby at_140) rfl (tlt (by decide : (1 : Int32) < (4 : Int32))).1 (by decide) (by decide) ?_
      refine XS.iconst X33.here hx rfl (hb hby at_195) ?_
      refine XS.istore X33.here hx rfl (hb hby at_196) rfl (l' := #[.val (.int p0), .val (.int p1), .val (.int p2), .val (.int p3), .val (.int p4), .val (.int p5), .val (.int 1), .val (.int c_1), .val (.int c_3), .val (.int c_5), .val (.int c_7), .val (.int c_9), .val (.ref b11), .val (.ref b_33), .val (.int 0), .val (.int 0)]) rfl ?_
      refine XS.aload X33.here hx rfl (hb hby at_198) rfl rfl ?_
      show Steps p.tables e below (T33.setTop (mkF m 200 #[.val (.int p0), .val (.int p1), .val (.int p2), .val (.int p3), .val (.int p4), .val (.int p5), .val (.int 1), .val (.int c_1), .val (.int c_3), .val (.int c_5), .val (.int c_7), .val (.int c_9), .val (.ref b11), .val (.ref b_33), .val (.int 0), .val (.int 0)] [(.ref b_33)])) _
      refine st35.trans ?_
      show Steps p.tables e below (T35.setTop (mkF m 203 #[.val (.int p0), .val (.int p1), .val (.int p2), .val (.int p3), .val (.int p4), .val (.int p5), .val (.int 1), .val (.int c_1), .val (.int c_3), .val (.int c_5), .val (.int c_7), .val (.int c_9), .val (.ref b11), .val (.ref b_33), .val (.int 0), .val (.int 0)] [(.int 0)])) _
      refine XS.iload X35.here hx rfl (hb hby at_203) rfl ?_
      refine XS.ifNo X35.here hx rfl (hb hby at_205) rfl ((if0 _ _).trans (teq (by decide : (0 : Int32) = (0 : Int32))).2) ?_
      refine XS.iload X35.here hx rfl (hb hby at_208) rfl ?_
      refine XS.ifYes X35.here hx rfl (pc0 := 210) (pc' := 217) rfl (hb hby at_210) rfl ((if0 _ _).trans (teq (by decide : (0 : Int32) = (0 : Int32))).1) (by decide) (by decide) ?_
      show Steps p.tables e below (T35.setTop (mkF m 217 #[.val (.int p0), .val (.int p1), .val (.int p2), .val (.int p3), .val (.int p4), .val (.int p5), .val (.int 1), .val (.int c_1), .val (.int c_3), .val (.int c_5), .val (.int c_7), .val (.int c_9), .val (.ref b11), .val (.ref b_33), .val (.int 0), .val (.int 0)] [(.int 0)])) _
      refine XS.iconst X35.here hx rfl (hb hby at_217) ?_
      refine XS.icmpNo X35.here hx rfl (hb hby at_218) rfl (teq (by decide : (0 : Int32) = (0 : Int32))).2 ?_
      refine XS.iconst X35.here hx rfl (hb hby at_221) ?_
      refine XS.goto X35.here hx rfl (pc0 := 222) (pc' := 226) rfl (hb hby at_222) (by decide) (by decide) ?_
      show Steps p.tables e below (T35.setTop (mkF m 226 #[.val (.int p0), .val (.int p1), .val (.int p2), .val (.int p3), .val (.int p4), .val (.int p5), .val (.int 1), .val (.int c_1), .val (.int c_3), .val (.int c_5), .val (.int c_7), .val (.int c_9), .val (.ref b11), .val (.ref b_33), .val (.int 0), .val (.int 0)] [(.int 1)])) _
      exact retN X35 hx (t := .boolean) Bd.returns (by simp) (hb hby at_226) hr
    · show Q_rm0 n0 _ T35.heap _
      exact ⟨rfl, N35⟩
  · obtain ⟨_, _, ⟨T37, L37, k37, n37⟩, -, X37, ⟨Lc37, hQ37, l37, y37, z37⟩, st37⟩ := Jvm.LawKit.callS X25 hx (y := MN_6) hown (mvT hZ (Wd hw 6 rfl)) (mvT hZ (Wd hw 7 rfl)) (mvT hZ (Wd hw 3 rfl)) (mvT hZ (Wd hw 8 rfl)) (by decide) (backOf (W := 0) (rmMk2 l Z a0 hw [] cS (c_1) (c_3) (c_5) (c_7) (c_9) (h25) n0 O25 GL P1_0 P3_0 P5_0 P7_0 P9_0 P1_2 P3_2 P5_2 P7_2 P9_2) hZ (Wd hw 8 rfl) (Wd hw 3 rfl) (by decide) (by decide)) (g := (mkF m 83 #[.val (.int p0), .val (.int p1), .val (.int p2), .val (.int p3), .val (.int p4), .val (.int p5), .val (.int 2), .val (.int c_1), .val (.int c_3), .val (.int c_5), .val (.int c_7), .val (.int c_9), .val (.ref b11), .unset, .unset, .unset] [(.int c_9), (.int c_7), (.int c_5), (.int c_3), (.int c_1), (.int 2)])) rfl (by rw [hml]; rfl) (argsL := [(.int 2), (.int c_1), (.int c_3), (.int c_5), (.int c_7), (.int c_9)]) (rest := []) (lenOf pdv11 rfl) rfl (by show 2 * 0 + _ ≤ _; exact Nat.le_of_eq rfl) (hb hby at_83) (fun _ _ => ⟨rfl, e25, (by decide : 6 + 3 ≤ _), (by decide : 45 + 8 ≤ _)⟩)
    dsimp only [Pt.U, Pt.locs, Pt.cells, Pt.slots] at X37 l37 y37 z37 st37 hQ37
    subst l37 y37 z37
    obtain ⟨b_37, bv_37, kb_37, rfl, N37q, Kc37, P37_0, P37_1, P37_2, P37_3⟩ := hQ37
    have O37 := O25.keep Kc37 all0
    have H_38 := H_26.keep Kc37 sf0
    have R_38 := R_26.trans (CHr.keep Kc37 sf0 H_26)
    have N37 := Fr.app N25 N37q
    obtain ⟨_, _, ⟨T39, L39, k39, n39⟩, -, X39', hS39', hg39, ⟨Lc39, hQ39, l39, y39, z39, Rs39⟩, st39⟩ := callSS X37 hx (y := MN_12) hown (mvT hZ (Wd hw 30 rfl)) (mvT hZ (Wd hw 31 rfl)) (mvT hZ (Wd hw 32 rfl)) (mvT hZ (Wd hw 33 rfl)) (by decide) (backOfSH (W := 0) (rmIbnegneg l Z a0 hw [] cS (b_37) (bv_37) (kb_37) ((2 : Int32)) ([(.int (c_1.toInt8.toInt32)), (.int (c_3.toInt8.toInt32))]) (T37.heap) n0 O37 GL P37_0 P37_1 P37_2 P37_3 (by decide) (by decide)) hZ (Wd hw 33 rfl) (Wd hw 32 rfl) (by decide) (by decide) (own_EW hw) H_38) (g := (mkF m 200 #[.val (.int p0), .val (.int p1), .val (.int p2), .val (.int p3), .val (.int p4), .val (.int p5), .val (.int 2), .val (.int c_1), .val (.int c_3), .val (.int c_5), .val (.int c_7), .val (.int c_9), .val (.ref b11), .val (.ref b_37), .val (.int 0), .val (.int 0)] [(.ref b_37)])) rfl (by rw [hml]; rfl) (argsL := [(.ref b_37)]) (rest := []) (lenOf pdv9 rfl) rfl (by show 2 * 0 + _ ≤ _; exact Nat.le_of_eq rfl) (hb hby at_200) (fun _ _ => ⟨rfl, rfl, (by decide : 9 + 4 ≤ _), (by decide : 53 + 36 ≤ _)⟩)
    dsimp only [Pt.U, Pt.locs, Pt.cells, Pt.slots] at X39' l39 y39 z39 st39 hQ39 hS39' hg39 Rs39
    subst l39 y39 z39
    obtain ⟨X39, hS39, hZ39, hown39⟩ := rebS hS0 (Nat.le_trans (Nat.le_trans (Nat.le_trans (Nat.le_trans (Nat.le_trans (Nat.le_trans (Nat.le_trans (Nat.le_trans (Nat.le_trans (Nat.le_trans (Nat.le_trans (Nat.le_trans (Nat.le_refl _) Kc1.1) Kc3.1) Kc5.1) Kc7.1) Kc9.1) E11.1) (Keep.of_wr W13).1) (Keep.of_wr W16).1) (Keep.of_wr W19).1) (Keep.of_wr W22).1) (Keep.of_wr W25).1) Kc37.1) X39' hS39' hg39 hZ hown
    obtain ⟨rfl, N39q, Kc39⟩ := hQ39
    have O39 := O37.keep Kc39 all0
    have H_40 := Rs39.1
    have R_40 := R_38.trans Rs39
    have N39 := Fr.app N37 N39q
    obtain ⟨fs, hr, hrun, hended, hRW⟩ := X39.leaveW hS39 (Nat.le_refl _) (v := some (.int 1)) (fun h => by rw [Bd.returns] at h; cases h)
    have hCR : CHr Z EL1 s.vm s.heap T39.vm T39.heap := by
      rw [hh]
      exact R_40.trans (CHv.at X39 hZ39 (own_EW hw) H_40)
    refine ⟨_, _, pre28 _ ?_, hrun, hended, _, _, rfl, ?_, hCR, hRW.1, hRW.2.1, hRW.2.2.1, hRW.2.2.2.mono (by decide) (by decide)⟩
    · rw [hN]
      show Steps p.tables e below (T25.setTop (mkF m 71 #[.val (.int p0), .val (.int p1), .val (.int p2), .val (.int p3), .val (.int p4), .val (.int p5), .val (.int 2), .val (.int c_1), .val (.int c_3), .val (.int c_5), .val (.int c_7), .val (.int c_9), .val (.ref b11), .unset, .unset, .unset] [])) _
      refine XS.iload X25.here hx rfl (hb hby at_71) rfl ?_
      refine XS.iload X25.here hx rfl (hb hby at_73) rfl ?_
      refine XS.iload X25.here hx rfl (hb hby at_75) rfl ?_
      refine XS.iload X25.here hx rfl (hb hby at_77) rfl ?_
      show Steps p.tables e below (T25.setTop (mkF m 79 #[.val (.int p0), .val (.int p1), .val (.int p2), .val (.int p3), .val (.int p4), .val (.int p5), .val (.int 2), .val (.int c_1), .val (.int c_3), .val (.int c_5), .val (.int c_7), .val (.int c_9), .val (.ref b11), .unset, .unset, .unset] [(.int c_5), (.int c_3), (.int c_1), (.int 2)])) _
      refine XS.iload X25.here hx rfl (hb hby at_79) rfl ?_
      refine XS.iload X25.here hx rfl (hb hby at_81) rfl ?_
      show Steps p.tables e below (T25.setTop (mkF m 83 #[.val (.int p0), .val (.int p1), .val (.int p2), .val (.int p3), .val (.int p4), .val (.int p5), .val (.int 2), .val (.int c_1), .val (.int c_3), .val (.int c_5), .val (.int c_7), .val (.int c_9), .val (.ref b11), .unset, .unset, .unset] [(.int c_9), (.int c_7), (.int c_5), (.int c_3), (.int c_1), (.int 2)])) _
      refine st37 _ ?_
      show Steps p.tables e below (T37.setTop (mkF m 86 #[.val (.int p0), .val (.int p1), .val (.int p2), .val (.int p3), .val (.int p4), .val (.int p5), .val (.int 2), .val (.int c_1), .val (.int c_3), .val (.int c_5), .val (.int c_7), .val (.int c_9), .val (.ref b11), .unset, .unset, .unset] [(.ref b_37)])) _
      refine XS.astore X37.here hx rfl (hb hby at_86) rfl rfl (l' := #[.val (.int p0), .val (.int p1), .val (.int p2), .val (.int p3), .val (.int p4), .val (.int p5), .val (.int 2), .val (.int c_1), .val (.int c_3), .val (.int c_5), .val (.int c_7), .val (.int c_9), .val (.ref b11), .val (.ref b_37), .unset, .unset]) rfl ?_
      refine XS.iload X37.here hx rfl (hb hby at_88) rfl ?_
      refine XS.iconst X37.here hx rfl (hb hby at_90) ?_
      refine XS.icmpYes X37.here hx rfl (pc0 := 91) (pc' := 134) rfl (hb hby at_91) rfl (tlt (by decide : (2 : Int32) < (3 : Int32))).1 (by decide) (by decide) ?_
      show Steps p.tables e below (T37.setTop (mkF m 134 #[.val (.int p0), .val (.int p1), .val (.int p2), .val (.int p3), .val (.int p4), .val (.int p5), .val (.int 2), .val (.int c_1), .val (.int c_3), .val (.int c_5), .val (.int c_7), .val (.int c_9), .val (.ref b11), .val (.ref b_37), .unset, .unset] [])) _
      refine XS.iconst X37.here hx rfl (hb hby at_134) ?_
      refine XS.istore X37.here hx rfl (hb hby at_135) rfl (l' := #[.val (.int p0), .val (.int p1), .val (.int p2), .val (.int p3), .val (.int p4), .val (.int p5), .val (.int 2), .val (.int c_1), .val (.int c_3), .val (.int c_5), .val (.int c_7), .val (.int c_9), .val (.ref b11), .val (.ref b_37), .val (.int 0), .unset]) rfl ?_
      refine XS.iload X37.here hx rfl (hb hby at_137) rfl ?_
      refine XS.iconst X37.here hx rfl (hb hby at_139) ?_
      show Steps p.tables e below (T37.setTop (mkF m 140 #[.val (.int p0), .val (.int p1), .val (.int p2), .val (.int p3), .val (.int p4), .val (.int p5), .val (.int 2), .val (.int c_1), .val (.int c_3), .val (.int c_5), .val (.int c_7), .val (.int c_9), .val (.ref b11), .val (.ref b_37), .val (.int 0), .unset] [(.int 4), (.int 2)])) _
      refine XS.icmpYes X37.here hx rfl (pc0 := 140) (pc' := 195) rfl (hb hby at_140) rfl (tlt (by decide : (2 : Int32) < (4 : Int32))).1 (by decide) (by decide) ?_
      refine XS.iconst X37.here hx rfl (hb hby at_195) ?_
      refine XS.istore X37.here hx rfl (hb hby at_196) rfl (l' := #[.val (.int p0), .val (.int p1), .val (.int p2), .val (.int p3), .val (.int p4), .val (.int p5), .val (.int 2), .val (.int c_1), .val (.int c_3), .val (.int c_5), .val (.int c_7), .val (.int c_9), .val (.ref b11), .val (.ref b_37), .val (.int 0), .val (.int 0)]) rfl ?_
      refine XS.aload X37.here hx rfl (hb hby at_198) rfl rfl ?_
      show Steps p.tables e below (T37.setTop (mkF m 200 #[.val (.int p0), .val (.int p1), .val (.int p2), .val (.int p3), .val (.int p4), .val (.int p5), .val (.int 2), .val (.int c_1), .val (.int c_3), .val (.int c_5), .val (.int c_7), .val (.int c_9), .val (.ref b11), .val (.ref b_37), .val (.int 0), .val (.int 0)] [(.ref b_37)])) _
      refine st39.trans ?_
      show Steps p.tables e below (T39.setTop (mkF m 203 #[.val (.int p0), .val (.int p1), .val (.int p2), .val (.int p3), .val (.int p4), .val (.int p5), .val (.int 2), .val (.int c_1), .val (.int c_3), .val (.int c_5), .val (.int c_7), .val (.int c_9), .val (.ref b11), .val (.ref b_37), .val (.int 0), .val (.int 0)] [(.int 0)])) _
      refine XS.iload X39.here hx rfl (hb hby at_203) rfl ?_
      refine XS.ifNo X39.here hx rfl (hb hby at_205) rfl ((if0 _ _).trans (teq (by decide : (0 : Int32) = (0 : Int32))).2) ?_
      refine XS.iload X39.here hx rfl (hb hby at_208) rfl ?_
      refine XS.ifYes X39.here hx rfl (pc0 := 210) (pc' := 217) rfl (hb hby at_210) rfl ((if0 _ _).trans (teq (by decide : (0 : Int32) = (0 : Int32))).1) (by decide) (by decide) ?_
      show Steps p.tables e below (T39.setTop (mkF m 217 #[.val (.int p0), .val (.int p1), .val (.int p2), .val (.int p3), .val (.int p4), .val (.int p5), .val (.int 2), .val (.int c_1), .val (.int c_3), .val (.int c_5), .val (.int c_7), .val (.int c_9), .val (.ref b11), .val (.ref b_37), .val (.int 0), .val (.int 0)] [(.int 0)])) _
      refine XS.iconst X39.here hx rfl (hb hby at_217) ?_
      refine XS.icmpNo X39.here hx rfl (hb hby at_218) rfl (teq (by decide : (0 : Int32) = (0 : Int32))).2 ?_
      refine XS.iconst X39.here hx rfl (hb hby at_221) ?_
      refine XS.goto X39.here hx rfl (pc0 := 222) (pc' := 226) rfl (hb hby at_222) (by decide) (by decide) ?_
      show Steps p.tables e below (T39.setTop (mkF m 226 #[.val (.int p0), .val (.int p1), .val (.int p2), .val (.int p3), .val (.int p4), .val (.int p5), .val (.int 2), .val (.int c_1), .val (.int c_3), .val (.int c_5), .val (.int c_7), .val (.int c_9), .val (.ref b11), .val (.ref b_37), .val (.int 0), .val (.int 0)] [(.int 1)])) _
      exact retN X39 hx (t := .boolean) Bd.returns (by simp) (hb hby at_226) hr
    · show Q_rm0 n0 _ T39.heap _
      exact ⟨rfl, N39⟩
  · obtain ⟨_, _, ⟨T41, L41, k41, n41⟩, -, X41, ⟨Lc41, hQ41, l41, y41, z41⟩, st41⟩ := Jvm.LawKit.callS X25 hx (y := MN_6) hown (mvT hZ (Wd hw 6 rfl)) (mvT hZ (Wd hw 7 rfl)) (mvT hZ (Wd hw 3 rfl)) (mvT hZ (Wd hw 8 rfl)) (by decide) (backOf (W := 0) (rmMk3 l Z a0 hw [] cS (c_1) (c_3) (c_5) (c_7) (c_9) (h25) n0 O25 GL P1_0 P3_0 P5_0 P7_0 P9_0 P1_2 P3_2 P5_2 P7_2 P9_2) hZ (Wd hw 8 rfl) (Wd hw 3 rfl) (by decide) (by decide)) (g := (mkF m 83 #[.val (.int p0), .val (.int p1), .val (.int p2), .val (.int p3), .val (.int p4), .val (.int p5), .val (.int 3), .val (.int c_1), .val (.int c_3), .val (.int c_5), .val (.int c_7), .val (.int c_9), .val (.ref b11), .unset, .unset, .unset] [(.int c_9), (.int c_7), (.int c_5), (.int c_3), (.int c_1), (.int 3)])) rfl (by rw [hml]; rfl) (argsL := [(.int 3), (.int c_1), (.int c_3), (.int c_5), (.int c_7), (.int c_9)]) (rest := []) (lenOf pdv11 rfl) rfl (by show 2 * 0 + _ ≤ _; exact Nat.le_of_eq rfl) (hb hby at_83) (fun _ _ => ⟨rfl, e25, (by decide : 6 + 3 ≤ _), (by decide : 45 + 10 ≤ _)⟩)
    dsimp only [Pt.U, Pt.locs, Pt.cells, Pt.slots] at X41 l41 y41 z41 st41 hQ41
    subst l41 y41 z41
    obtain ⟨b_41, bv_41, kb_41, rfl, N41q, Kc41, P41_0, P41_1, P41_2, P41_3⟩ := hQ41
    have O41 := O25.keep Kc41 all0
    have H_42 := H_26.keep Kc41 sf0
    have R_42 := R_26.trans (CHr.keep Kc41 sf0 H_26)
    have N41 := Fr.app N25 N41q
    obtain ⟨v_43, T43, Lq43, X43, e43, N43, P43_0, st43⟩ := sg_mf3 cS p0 p1 p2 p3 p4 p5 (c_1) (c_3) (c_5) (c_7) (c_9) (b11) (b_41) (k11) X41 hx hZ hw hby hml hown rfl N41 O41 GL (V25.keep Kc41 nin0)
    have pre44 : ∀ t, Steps p.tables e below (T43.setTop (mkF m 137 #[.val (.int p0), .val (.int p1), .val (.int p2), .val (.int p3), .val (.int p4), .val (.int p5), .val (.int 3), .val (.int c_1), .val (.int c_3), .val (.int c_5), .val (.int c_7), .val (.int c_9), .val (.ref b11), .val (.ref b_41), .val (.int v_43), .unset] [])) t → Steps p.tables e below (s₁.setTop (entryFrame m #[(.int p0), (.int p1), (.int p2), (.int p3), (.int p4), (.int p5)] maxLocals)) t := fun t kt => by
      refine pre28 t ?_
      rw [hN]
      show Steps p.tables e below (T25.setTop (mkF m 71 #[.val (.int p0), .val (.int p1), .val (.int p2), .val (.int p3), .val (.int p4), .val (.int p5), .val (.int 3), .val (.int c_1), .val (.int c_3), .val (.int c_5), .val (.int c_7), .val (.int c_9), .val (.ref b11), .unset, .unset, .unset] [])) _
      refine XS.iload X25.here hx rfl (hb hby at_71) rfl ?_
      refine XS.iload X25.here hx rfl (hb hby at_73) rfl ?_
      refine XS.iload X25.here hx rfl (hb hby at_75) rfl ?_
      refine XS.iload X25.here hx rfl (hb hby at_77) rfl ?_
      show Steps p.tables e below (T25.setTop (mkF m 79 #[.val (.int p0), .val (.int p1), .val (.int p2), .val (.int p3), .val (.int p4), .val (.int p5), .val (.int 3), .val (.int c_1), .val (.int c_3), .val (.int c_5), .val (.int c_7), .val (.int c_9), .val (.ref b11), .unset, .unset, .unset] [(.int c_5), (.int c_3), (.int c_1), (.int 3)])) _
      refine XS.iload X25.here hx rfl (hb hby at_79) rfl ?_
      refine XS.iload X25.here hx rfl (hb hby at_81) rfl ?_
      show Steps p.tables e below (T25.setTop (mkF m 83 #[.val (.int p0), .val (.int p1), .val (.int p2), .val (.int p3), .val (.int p4), .val (.int p5), .val (.int 3), .val (.int c_1), .val (.int c_3), .val (.int c_5), .val (.int c_7), .val (.int c_9), .val (.ref b11), .unset, .unset, .unset] [(.int c_9), (.int c_7), (.int c_5), (.int c_3), (.int c_1), (.int 3)])) _
      refine st41 _ ?_
      show Steps p.tables e below (T41.setTop (mkF m 86 #[.val (.int p0), .val (.int p1), .val (.int p2), .val (.int p3), .val (.int p4), .val (.int p5), .val (.int 3), .val (.int c_1), .val (.int c_3), .val (.int c_5), .val (.int c_7), .val (.int c_9), .val (.ref b11), .unset, .unset, .unset] [(.ref b_41)])) _
      refine XS.astore X41.here hx rfl (hb hby at_86) rfl rfl (l' := #[.val (.int p0), .val (.int p1), .val (.int p2), .val (.int p3), .val (.int p4), .val (.int p5), .val (.int 3), .val (.int c_1), .val (.int c_3), .val (.int c_5), .val (.int c_7), .val (.int c_9), .val (.ref b11), .val (.ref b_41), .unset, .unset]) rfl ?_
      show Steps p.tables e below (T41.setTop (mkF m 88 #[.val (.int p0), .val (.int p1), .val (.int p2), .val (.int p3), .val (.int p4), .val (.int p5), .val (.int 3), .val (.int c_1), .val (.int c_3), .val (.int c_5), .val (.int c_7), .val (.int c_9), .val (.ref b11), .val (.ref b_41), .unset, .unset] [])) _
      refine st43 _ ?_
      exact kt
    rcases P43_0 with ⟨ev, hA14⟩ | ⟨ev, hA14⟩
    · subst ev
      obtain ⟨_, _, ⟨T45, L45, k45, n45⟩, -, X45', hS45', hg45, ⟨Lc45, hQ45, l45, y45, z45, Rs45⟩, st45⟩ := callSS X43 hx (y := MN_12) hown (mvT hZ (Wd hw 30 rfl)) (mvT hZ (Wd hw 31 rfl)) (mvT hZ (Wd hw 32 rfl)) (mvT hZ (Wd hw 33 rfl)) (by decide) (backOfSH (W := 0) (rmIbTx l Z a0 hw [] cS (b_41) (bv_41) (kb_41) ((3 : Int32)) ([(.int (c_1.toInt8.toInt32)), (.int (c_3.toInt8.toInt32)), (.int (c_5.toInt8.toInt32))]) (c_1) (c_3) (c_5) (T41.heap) n0 O41 GL P41_0 P41_1 P41_2 P41_3 (by decide) rfl (by decide) (by decide) rfl (by decide) (by decide) rfl (by decide) (by decide) hA14) hZ (Wd hw 33 rfl) (Wd hw 32 rfl) (by decide) (by decide) (own_EW hw) H_42) (g := (mkF m 200 #[.val (.int p0), .val (.int p1), .val (.int p2), .val (.int p3), .val (.int p4), .val (.int p5), .val (.int 3), .val (.int c_1), .val (.int c_3), .val (.int c_5), .val (.int c_7), .val (.int c_9), .val (.ref b11), .val (.ref b_41), .val (.int 1), .val (.int 0)] [(.ref b_41)])) rfl (by rw [hml]; rfl) (argsL := [(.ref b_41)]) (rest := []) (lenOf pdv9 rfl) rfl (by show 2 * 0 + _ ≤ _; exact Nat.le_of_eq rfl) (hb hby at_200) (fun _ _ => ⟨rfl, e43, (by decide : 9 + 2 ≤ _), (by decide : 55 + 16 ≤ _)⟩)
      dsimp only [Pt.U, Pt.locs, Pt.cells, Pt.slots] at X45' l45 y45 z45 st45 hQ45 hS45' hg45 Rs45
      subst l45 y45 z45
      obtain ⟨X45, hS45, hZ45, hown45⟩ := rebS hS0 (by rw [e43]; exact (Nat.le_trans (Nat.le_trans (Nat.le_trans (Nat.le_trans (Nat.le_trans (Nat.le_trans (Nat.le_trans (Nat.le_trans (Nat.le_trans (Nat.le_trans (Nat.le_trans (Nat.le_trans (Nat.le_refl _) Kc1.1) Kc3.1) Kc5.1) Kc7.1) Kc9.1) E11.1) (Keep.of_wr W13).1) (Keep.of_wr W16).1) (Keep.of_wr W19).1) (Keep.of_wr W22).1) (Keep.of_wr W25).1) Kc41.1)) X45' hS45' hg45 hZ hown
      obtain ⟨rfl, N45q, Kc45⟩ := hQ45
      have O45 := O41.keep Kc45 all0
      have H_46 := Rs45.1
      have R_46 := R_42.trans Rs45
      have N45 := Fr.app N43 N45q
      obtain ⟨fs, hr, hrun, hended, hRW⟩ := X45.leaveW hS45 (Nat.le_refl _) (v := some (.int 1)) (fun h => by rw [Bd.returns] at h; cases h)
      have hCR : CHr Z EL1 s.vm s.heap T45.vm T45.heap := by
        rw [hh]
        exact R_46.trans (CHv.at X45 hZ45 (own_EW hw) H_46)
      refine ⟨_, _, pre44 _ ?_, hrun, hended, _, _, rfl, ?_, hCR, hRW.1, hRW.2.1, hRW.2.2.1, hRW.2.2.2.mono (by decide) (by decide)⟩
      · show Steps p.tables e below (T43.setTop (mkF m 137 #[.val (.int p0), .val (.int p1), .val (.int p2), .val (.int p3), .val (.int p4), .val (.int p5), .val (.int 3), .val (.int c_1), .val (.int c_3), .val (.int c_5), .val (.int c_7), .val (.int c_9), .val (.ref b11), .val (.ref b_41), .val (.int 1), .unset] [])) _
        refine XS.iload X43.here hx rfl (hb hby at_137) rfl ?_
        refine XS.iconst X43.here hx rfl (hb hby at_139) ?_
        refine XS.icmpYes X43.here hx rfl (pc0 := 140) (pc' := 195) rfl (hb hby at_140) rfl (tlt (by decide : (3 : Int32) < (4 : Int32))).1 (by decide) (by decide) ?_
        refine XS.iconst X43.here hx rfl (hb hby at_195) ?_
        show Steps p.tables e below (T43.setTop (mkF m 196 #[.val (.int p0), .val (.int p1), .val (.int p2), .val (.int p3), .val (.int p4), .val (.int p5), .val (.int 3), .val (.int c_1), .val (.int c_3), .val (.int c_5), .val (.int c_7), .val (.int c_9), .val (.ref b11), .val (.ref b_41), .val (.int 1), .unset] [(.int 0)])) _
        refine XS.istore X43.here hx rfl (hb hby at_196) rfl (l' := #[.val (.int p0), .val (.int p1), .val (.int p2), .val (.int p3), .val (.int p4), .val (.int p5), .val (.int 3), .val (.int c_1), .val (.int c_3), .val (.int c_5), .val (.int c_7), .val (.int c_9), .val (.ref b11), .val (.ref b_41), .val (.int 1), .val (.int 0)]) rfl ?_
        refine XS.aload X43.here hx rfl (hb hby at_198) rfl rfl ?_
        show Steps p.tables e below (T43.setTop (mkF m 200 #[.val (.int p0), .val (.int p1), .val (.int p2), .val (.int p3), .val (.int p4), .val (.int p5), .val (.int 3), .val (.int c_1), .val (.int c_3), .val (.int c_5), .val (.int c_7), .val (.int c_9), .val (.ref b11), .val (.ref b_41), .val (.int 1), .val (.int 0)] [(.ref b_41)])) _
        refine st45.trans ?_
        show Steps p.tables e below (T45.setTop (mkF m 203 #[.val (.int p0), .val (.int p1), .val (.int p2), .val (.int p3), .val (.int p4), .val (.int p5), .val (.int 3), .val (.int c_1), .val (.int c_3), .val (.int c_5), .val (.int c_7), .val (.int c_9), .val (.ref b11), .val (.ref b_41), .val (.int 1), .val (.int 0)] [(.int 1)])) _
        refine XS.iload X45.here hx rfl (hb hby at_203) rfl ?_
        refine XS.ifYes X45.here hx rfl (pc0 := 205) (pc' := 213) rfl (hb hby at_205) rfl ((if0 _ _).trans (feq (by decide : ¬ ((1 : Int32) = (0 : Int32)))).2) (by decide) (by decide) ?_
        refine XS.iconst X45.here hx rfl (hb hby at_213) ?_
        refine XS.goto X45.here hx rfl (pc0 := 214) (pc' := 218) rfl (hb hby at_214) (by decide) (by decide) ?_
        show Steps p.tables e below (T45.setTop (mkF m 218 #[.val (.int p0), .val (.int p1), .val (.int p2), .val (.int p3), .val (.int p4), .val (.int p5), .val (.int 3), .val (.int c_1), .val (.int c_3), .val (.int c_5), .val (.int c_7), .val (.int c_9), .val (.ref b11), .val (.ref b_41), .val (.int 1), .val (.int 0)] [(.int 1), (.int 1)])) _
        refine XS.icmpNo X45.here hx rfl (hb hby at_218) rfl (teq (by decide : (1 : Int32) = (1 : Int32))).2 ?_
        refine XS.iconst X45.here hx rfl (hb hby at_221) ?_
        refine XS.goto X45.here hx rfl (pc0 := 222) (pc' := 226) rfl (hb hby at_222) (by decide) (by decide) ?_
        show Steps p.tables e below (T45.setTop (mkF m 226 #[.val (.int p0), .val (.int p1), .val (.int p2), .val (.int p3), .val (.int p4), .val (.int p5), .val (.int 3), .val (.int c_1), .val (.int c_3), .val (.int c_5), .val (.int c_7), .val (.int c_9), .val (.ref b11), .val (.ref b_41), .val (.int 1), .val (.int 0)] [(.int 1)])) _
        exact retN X45 hx (t := .boolean) Bd.returns (by simp) (hb hby at_226) hr
      · show Q_rm0 n0 _ T45.heap _
        exact ⟨rfl, N45⟩
    · subst ev
      obtain ⟨_, _, ⟨T47, L47, k47, n47⟩, -, X47', hS47', hg47, ⟨Lc47, hQ47, l47, y47, z47, Rs47⟩, st47⟩ := callSS X43 hx (y := MN_12) hown (mvT hZ (Wd hw 30 rfl)) (mvT hZ (Wd hw 31 rfl)) (mvT hZ (Wd hw 32 rfl)) (mvT hZ (Wd hw 33 rfl)) (by decide) (backOfSH (W := 0) (rmIbFneg l Z a0 hw [] cS (b_41) (bv_41) (kb_41) ((3 : Int32)) ([(.int (c_1.toInt8.toInt32)), (.int (c_3.toInt8.toInt32)), (.int (c_5.toInt8.toInt32))]) (c_1) (c_3) (c_5) (T41.heap) n0 O41 GL P41_0 P41_1 P41_2 P41_3 (by decide) rfl (by decide) (by decide) P1_0 P1_1 rfl (by decide) (by decide) P3_0 P3_1 rfl (by decide) (by decide) P5_0 P5_1 hA14 (by decide)) hZ (Wd hw 33 rfl) (Wd hw 32 rfl) (by decide) (by decide) (own_EW hw) H_42) (g := (mkF m 200 #[.val (.int p0), .val (.int p1), .val (.int p2), .val (.int p3), .val (.int p4), .val (.int p5), .val (.int 3), .val (.int c_1), .val (.int c_3), .val (.int c_5), .val (.int c_7), .val (.int c_9), .val (.ref b11), .val (.ref b_41), .val (.int 0), .val (.int 0)] [(.ref b_41)])) rfl (by rw [hml]; rfl) (argsL := [(.ref b_41)]) (rest := []) (lenOf pdv9 rfl) rfl (by show 2 * 0 + _ ≤ _; exact Nat.le_of_eq rfl) (hb hby at_200) (fun _ _ => ⟨rfl, e43, (by decide : 9 + 4 ≤ _), (by decide : 55 + 36 ≤ _)⟩)
      dsimp only [Pt.U, Pt.locs, Pt.cells, Pt.slots] at X47' l47 y47 z47 st47 hQ47 hS47' hg47 Rs47
      subst l47 y47 z47
      obtain ⟨X47, hS47, hZ47, hown47⟩ := rebS hS0 (by rw [e43]; exact (Nat.le_trans (Nat.le_trans (Nat.le_trans (Nat.le_trans (Nat.le_trans (Nat.le_trans (Nat.le_trans (Nat.le_trans (Nat.le_trans (Nat.le_trans (Nat.le_trans (Nat.le_trans (Nat.le_refl _) Kc1.1) Kc3.1) Kc5.1) Kc7.1) Kc9.1) E11.1) (Keep.of_wr W13).1) (Keep.of_wr W16).1) (Keep.of_wr W19).1) (Keep.of_wr W22).1) (Keep.of_wr W25).1) Kc41.1)) X47' hS47' hg47 hZ hown
      obtain ⟨rfl, N47q, Kc47⟩ := hQ47
      have O47 := O41.keep Kc47 all0
      have H_48 := Rs47.1
      have R_48 := R_42.trans Rs47
      have N47 := Fr.app N43 N47q
      obtain ⟨fs, hr, hrun, hended, hRW⟩ := X47.leaveW hS47 (Nat.le_refl _) (v := some (.int 1)) (fun h => by rw [Bd.returns] at h; cases h)
      have hCR : CHr Z EL1 s.vm s.heap T47.vm T47.heap := by
        rw [hh]
        exact R_48.trans (CHv.at X47 hZ47 (own_EW hw) H_48)
      refine ⟨_, _, pre44 _ ?_, hrun, hended, _, _, rfl, ?_, hCR, hRW.1, hRW.2.1, hRW.2.2.1, hRW.2.2.2.mono (by decide) (by decide)⟩
      · show Steps p.tables e below (T43.setTop (mkF m 137 #[.val (.int p0), .val (.int p1), .val (.int p2), .val (.int p3), .val (.int p4), .val (.int p5), .val (.int 3), .val (.int c_1), .val (.int c_3), .val (.int c_5), .val (.int c_7), .val (.int c_9), .val (.ref b11), .val (.ref b_41), .val (.int 0), .unset] [])) _
        refine XS.iload X43.here hx rfl (hb hby at_137) rfl ?_
        refine XS.iconst X43.here hx rfl (hb hby at_139) ?_
        refine XS.icmpYes X43.here hx rfl (pc0 := 140) (pc' := 195) rfl (hb hby at_140) rfl (tlt (by decide : (3 : Int32) < (4 : Int32))).1 (by decide) (by decide) ?_
        refine XS.iconst X43.here hx rfl (hb hby at_195) ?_
        show Steps p.tables e below (T43.setTop (mkF m 196 #[.val (.int p0), .val (.int p1), .val (.int p2), .val (.int p3), .val (.int p4), .val (.int p5), .val (.int 3), .val (.int c_1), .val (.int c_3), .val (.int c_5), .val (.int c_7), .val (.int c_9), .val (.ref b11), .val (.ref b_41), .val (.int 0), .unset] [(.int 0)])) _
        refine XS.istore X43.here hx rfl (hb hby at_196) rfl (l' := #[.val (.int p0), .val (.int p1), .val (.int p2), .val (.int p3), .val (.int p4), .val (.int p5), .val (.int 3), .val (.int c_1), .val (.int c_3), .val (.int c_5), .val (.int c_7), .val (.int c_9), .val (.ref b11), .val (.ref b_41), .val (.int 0), .val (.int 0)]) rfl ?_
        refine XS.aload X43.here hx rfl (hb hby at_198) rfl rfl ?_
        show Steps p.tables e below (T43.setTop (mkF m 200 #[.val (.int p0), .val (.int p1), .val (.int p2), .val (.int p3), .val (.int p4), .val (.int p5), .val (.int 3), .val (.int c_1), .val (.int c_3), .val (.int c_5), .val (.int c_7), .val (.int c_9), .val (.ref b11), .val (.ref b_41), .val (.int 0), .val (.int 0)] [(.ref b_41)])) _
        refine st47.trans ?_
        show Steps p.tables e below (T47.setTop (mkF m 203 #[.val (.int p0), .val (.int p1), .val (.int p2), .val (.int p3), .val (.int p4), .val (.int p5), .val (.int 3), .val (.int c_1), .val (.int c_3), .val (.int c_5), .val (.int c_7), .val (.int c_9), .val (.ref b11), .val (.ref b_41), .val (.int 0), .val (.int 0)] [(.int 0)])) _
        refine XS.iload X47.here hx rfl (hb hby at_203) rfl ?_
        refine XS.ifNo X47.here hx rfl (hb hby at_205) rfl ((if0 _ _).trans (teq (by decide : (0 : Int32) = (0 : Int32))).2) ?_
        refine XS.iload X47.here hx rfl (hb hby at_208) rfl ?_
        refine XS.ifYes X47.here hx rfl (pc0 := 210) (pc' := 217) rfl (hb hby at_210) rfl ((if0 _ _).trans (teq (by decide : (0 : Int32) = (0 : Int32))).1) (by decide) (by decide) ?_
        show Steps p.tables e below (T47.setTop (mkF m 217 #[.val (.int p0), .val (.int p1), .val (.int p2), .val (.int p3), .val (.int p4), .val (.int p5), .val (.int 3), .val (.int c_1), .val (.int c_3), .val (.int c_5), .val (.int c_7), .val (.int c_9), .val (.ref b11), .val (.ref b_41), .val (.int 0), .val (.int 0)] [(.int 0)])) _
        refine XS.iconst X47.here hx rfl (hb hby at_217) ?_
        refine XS.icmpNo X47.here hx rfl (hb hby at_218) rfl (teq (by decide : (0 : Int32) = (0 : Int32))).2 ?_
        refine XS.iconst X47.here hx rfl (hb hby at_221) ?_
        refine XS.goto X47.here hx rfl (pc0 := 222) (pc' := 226) rfl (hb hby at_222) (by decide) (by decide) ?_
        show Steps p.tables e below (T47.setTop (mkF m 226 #[.val (.int p0), .val (.int p1), .val (.int p2), .val (.int p3), .val (.int p4), .val (.int p5), .val (.int 3), .val (.int c_1), .val (.int c_3), .val (.int c_5), .val (.int c_7), .val (.int c_9), .val (.ref b11), .val (.ref b_41), .val (.int 0), .val (.int 0)] [(.int 1)])) _
        exact retN X47 hx (t := .boolean) Bd.returns (by simp) (hb hby at_226) hr
      · show Q_rm0 n0 _ T47.heap _
        exact ⟨rfl, N47⟩
  · obtain ⟨_, _, ⟨T49, L49, k49, n49⟩, -, X49, ⟨Lc49, hQ49, l49, y49, z49⟩, st49⟩ := Jvm.LawKit.callS X25 hx (y := MN_6) hown (mvT hZ (Wd hw 6 rfl)) (mvT hZ (Wd hw 7 rfl)) (mvT hZ (Wd hw 3 rfl)) (mvT hZ (Wd hw 8 rfl)) (by decide) (backOf (W := 0) (rmMk4 l Z a0 hw [] cS (c_1) (c_3) (c_5) (c_7) (c_9) (h25) n0 O25 GL P1_0 P3_0 P5_0 P7_0 P9_0 P1_2 P3_2 P5_2 P7_2 P9_2) hZ (Wd hw 8 rfl) (Wd hw 3 rfl) (by decide) (by decide)) (g := (mkF m 83 #[.val (.int p0), .val (.int p1), .val (.int p2), .val (.int p3), .val (.int p4), .val (.int p5), .val (.int 4), .val (.int c_1), .val (.int c_3), .val (.int c_5), .val (.int c_7), .val (.int c_9), .val (.ref b11), .unset, .unset, .unset] [(.int c_9), (.int c_7), (.int c_5), (.int c_3), (.int c_1), (.int 4)])) rfl (by rw [hml]; rfl) (argsL := [(.int 4), (.int c_1), (.int c_3), (.int c_5), (.int c_7), (.int c_9)]) (rest := []) (lenOf pdv11 rfl) rfl (by show 2 * 0 + _ ≤ _; exact Nat.le_of_eq rfl) (hb hby at_83) (fun _ _ => ⟨rfl, e25, (by decide : 6 + 3 ≤ _), (by decide : 45 + 12 ≤ _)⟩)
    dsimp only [Pt.U, Pt.locs, Pt.cells, Pt.slots] at X49 l49 y49 z49 st49 hQ49
    subst l49 y49 z49
    obtain ⟨b_49, bv_49, kb_49, rfl, N49q, Kc49, P49_0, P49_1, P49_2, P49_3⟩ := hQ49
    have O49 := O25.keep Kc49 all0
    have H_50 := H_26.keep Kc49 sf0
    have R_50 := R_26.trans (CHr.keep Kc49 sf0 H_26)
    have N49 := Fr.app N25 N49q
    obtain ⟨v_51, T51, Lq51, X51, e51, N51, P51_0, st51⟩ := sg_mf4 cS p0 p1 p2 p3 p4 p5 (c_1) (c_3) (c_5) (c_7) (c_9) (b11) (b_49) (k11) X49 hx hZ hw hby hml hown rfl N49 O49 GL (V25.keep Kc49 nin0)
    have pre52 : ∀ t, Steps p.tables e below (T51.setTop (mkF m 137 #[.val (.int p0), .val (.int p1), .val (.int p2), .val (.int p3), .val (.int p4), .val (.int p5), .val (.int 4), .val (.int c_1), .val (.int c_3), .val (.int c_5), .val (.int c_7), .val (.int c_9), .val (.ref b11), .val (.ref b_49), .val (.int v_51), .unset] [])) t → Steps p.tables e below (s₁.setTop (entryFrame m #[(.int p0), (.int p1), (.int p2), (.int p3), (.int p4), (.int p5)] maxLocals)) t := fun t kt => by
      refine pre28 t ?_
      rw [hN]
      show Steps p.tables e below (T25.setTop (mkF m 71 #[.val (.int p0), .val (.int p1), .val (.int p2), .val (.int p3), .val (.int p4), .val (.int p5), .val (.int 4), .val (.int c_1), .val (.int c_3), .val (.int c_5), .val (.int c_7), .val (.int c_9), .val (.ref b11), .unset, .unset, .unset] [])) _
      refine XS.iload X25.here hx rfl (hb hby at_71) rfl ?_
      refine XS.iload X25.here hx rfl (hb hby at_73) rfl ?_
      refine XS.iload X25.here hx rfl (hb hby at_75) rfl ?_
      refine XS.iload X25.here hx rfl (hb hby at_77) rfl ?_
      show Steps p.tables e below (T25.setTop (mkF m 79 #[.val (.int p0), .val (.int p1), .val (.int p2), .val (.int p3), .val (.int p4), .val (.int p5), .val (.int 4), .val (.int c_1), .val (.int c_3), .val (.int c_5), .val (.int c_7), .val (.int c_9), .val (.ref b11), .unset, .unset, .unset] [(.int c_5), (.int c_3), (.int c_1), (.int 4)])) _
      refine XS.iload X25.here hx rfl (hb hby at_79) rfl ?_
      refine XS.iload X25.here hx rfl (hb hby at_81) rfl ?_
      show Steps p.tables e below (T25.setTop (mkF m 83 #[.val (.int p0), .val (.int p1), .val (.int p2), .val (.int p3), .val (.int p4), .val (.int p5), .val (.int 4), .val (.int c_1), .val (.int c_3), .val (.int c_5), .val (.int c_7), .val (.int c_9), .val (.ref b11), .unset, .unset, .unset] [(.int c_9), (.int c_7), (.int c_5), (.int c_3), (.int c_1), (.int 4)])) _
      refine st49 _ ?_
      show Steps p.tables e below (T49.setTop (mkF m 86 #[.val (.int p0), .val (.int p1), .val (.int p2), .val (.int p3), .val (.int p4), .val (.int p5), .val (.int 4), .val (.int c_1), .val (.int c_3), .val (.int c_5), .val (.int c_7), .val (.int c_9), .val (.ref b11), .unset, .unset, .unset] [(.ref b_49)])) _
      refine XS.astore X49.here hx rfl (hb hby at_86) rfl rfl (l' := #[.val (.int p0), .val (.int p1), .val (.int p2), .val (.int p3), .val (.int p4), .val (.int p5), .val (.int 4), .val (.int c_1), .val (.int c_3), .val (.int c_5), .val (.int c_7), .val (.int c_9), .val (.ref b11), .val (.ref b_49), .unset, .unset]) rfl ?_
      show Steps p.tables e below (T49.setTop (mkF m 88 #[.val (.int p0), .val (.int p1), .val (.int p2), .val (.int p3), .val (.int p4), .val (.int p5), .val (.int 4), .val (.int c_1), .val (.int c_3), .val (.int c_5), .val (.int c_7), .val (.int c_9), .val (.ref b11), .val (.ref b_49), .unset, .unset] [])) _
      refine st51 _ ?_
      exact kt
    rcases P51_0 with ⟨ev, hA14⟩ | ⟨ev, hA14⟩
    · subst ev
      obtain ⟨v_53, T53, Lq53, X53, e53, N53, P53_0, st53⟩ := sg_jar4 cS p0 p1 p2 p3 p4 p5 (c_1) (c_3) (c_5) (c_7) (c_9) (b11) (b_49) (k11) ((1 : Int32)) X51 hx hZ hw hby hml hown e51 N51 O49 GL (V25.keep Kc49 nin0)
      have pre54 : ∀ t, Steps p.tables e below (T53.setTop (mkF m 198 #[.val (.int p0), .val (.int p1), .val (.int p2), .val (.int p3), .val (.int p4), .val (.int p5), .val (.int 4), .val (.int c_1), .val (.int c_3), .val (.int c_5), .val (.int c_7), .val (.int c_9), .val (.ref b11), .val (.ref b_49), .val (.int 1), .val (.int v_53)] [])) t → Steps p.tables e below (s₁.setTop (entryFrame m #[(.int p0), (.int p1), (.int p2), (.int p3), (.int p4), (.int p5)] maxLocals)) t := fun t kt => by
        refine pre52 t ?_
        show Steps p.tables e below (T51.setTop (mkF m 137 #[.val (.int p0), .val (.int p1), .val (.int p2), .val (.int p3), .val (.int p4), .val (.int p5), .val (.int 4), .val (.int c_1), .val (.int c_3), .val (.int c_5), .val (.int c_7), .val (.int c_9), .val (.ref b11), .val (.ref b_49), .val (.int 1), .unset] [])) _
        refine st53 _ ?_
        exact kt
      rcases P53_0 with ⟨ev, hA15⟩ | ⟨ev, hA15⟩
      · subst ev
        obtain ⟨_, _, ⟨T55, L55, k55, n55⟩, -, X55', hS55', hg55, ⟨Lc55, hQ55, l55, y55, z55, Rs55⟩, st55⟩ := callSS X53 hx (y := MN_12) hown (mvT hZ (Wd hw 30 rfl)) (mvT hZ (Wd hw 31 rfl)) (mvT hZ (Wd hw 32 rfl)) (mvT hZ (Wd hw 33 rfl)) (by decide) (backOfSH (W := 0) (rmIbTx l Z a0 hw [] cS (b_49) (bv_49) (kb_49) ((4 : Int32)) ([(.int (c_1.toInt8.toInt32)), (.int (c_3.toInt8.toInt32)), (.int (c_5.toInt8.toInt32)), (.int (c_7.toInt8.toInt32))]) (c_3) (c_5) (c_7) (T49.heap) n0 O49 GL P49_0 P49_1 P49_2 P49_3 (by decide) rfl (by decide) (by decide) rfl (by decide) (by decide) rfl (by decide) (by decide) hA14) hZ (Wd hw 33 rfl) (Wd hw 32 rfl) (by decide) (by decide) (own_EW hw) H_50) (g := (mkF m 200 #[.val (.int p0), .val (.int p1), .val (.int p2), .val (.int p3), .val (.int p4), .val (.int p5), .val (.int 4), .val (.int c_1), .val (.int c_3), .val (.int c_5), .val (.int c_7), .val (.int c_9), .val (.ref b11), .val (.ref b_49), .val (.int 1), .val (.int 1)] [(.ref b_49)])) rfl (by rw [hml]; rfl) (argsL := [(.ref b_49)]) (rest := []) (lenOf pdv9 rfl) rfl (by show 2 * 0 + _ ≤ _; exact Nat.le_of_eq rfl) (hb hby at_200) (fun _ _ => ⟨rfl, e53, (by decide : 9 + 2 ≤ _), (by decide : 57 + 16 ≤ _)⟩)
        dsimp only [Pt.U, Pt.locs, Pt.cells, Pt.slots] at X55' l55 y55 z55 st55 hQ55 hS55' hg55 Rs55
        subst l55 y55 z55
        obtain ⟨X55, hS55, hZ55, hown55⟩ := rebS hS0 (by rw [e53]; exact (Nat.le_trans (Nat.le_trans (Nat.le_trans (Nat.le_trans (Nat.le_trans (Nat.le_trans (Nat.le_trans (Nat.le_trans (Nat.le_trans (Nat.le_trans (Nat.le_trans (Nat.le_trans (Nat.le_refl _) Kc1.1) Kc3.1) Kc5.1) Kc7.1) Kc9.1) E11.1) (Keep.of_wr W13).1) (Keep.of_wr W16).1) (Keep.of_wr W19).1) (Keep.of_wr W22).1) (Keep.of_wr W25).1) Kc49.1)) X55' hS55' hg55 hZ hown
        obtain ⟨rfl, N55q, Kc55⟩ := hQ55
        have O55 := O49.keep Kc55 all0
        have H_56 := Rs55.1
        have R_56 := R_50.trans Rs55
        have N55 := Fr.app N53 N55q
        obtain ⟨fs, hr, hrun, hended, hRW⟩ := X55.leaveW hS55 (Nat.le_refl _) (v := some (.int 1)) (fun h => by rw [Bd.returns] at h; cases h)
        have hCR : CHr Z EL1 s.vm s.heap T55.vm T55.heap := by
          rw [hh]
          exact R_56.trans (CHv.at X55 hZ55 (own_EW hw) H_56)
        refine ⟨_, _, pre54 _ ?_, hrun, hended, _, _, rfl, ?_, hCR, hRW.1, hRW.2.1, hRW.2.2.1, hRW.2.2.2.mono (by decide) (by decide)⟩
        · show Steps p.tables e below (T53.setTop (mkF m 198 #[.val (.int p0), .val (.int p1), .val (.int p2), .val (.int p3), .val (.int p4), .val (.int p5), .val (.int 4), .val (.int c_1), .val (.int c_3), .val (.int c_5), .val (.int c_7), .val (.int c_9), .val (.ref b11), .val (.ref b_49), .val (.int 1), .val (.int 1)] [])) _
          refine XS.aload X53.here hx rfl (hb hby at_198) rfl rfl ?_
          show Steps p.tables e below (T53.setTop (mkF m 200 #[.val (.int p0), .val (.int p1), .val (.int p2), .val (.int p3), .val (.int p4), .val (.int p5), .val (.int 4), .val (.int c_1), .val (.int c_3), .val (.int c_5), .val (.int c_7), .val (.int c_9), .val (.ref b11), .val (.ref b_49), .val (.int 1), .val (.int 1)] [(.ref b_49)])) _
          refine st55.trans ?_
          show Steps p.tables e below (T55.setTop (mkF m 203 #[.val (.int p0), .val (.int p1), .val (.int p2), .val (.int p3), .val (.int p4), .val (.int p5), .val (.int 4), .val (.int c_1), .val (.int c_3), .val (.int c_5), .val (.int c_7), .val (.int c_9), .val (.ref b11), .val (.ref b_49), .val (.int 1), .val (.int 1)] [(.int 1)])) _
          refine XS.iload X55.here hx rfl (hb hby at_203) rfl ?_
          refine XS.ifYes X55.here hx rfl (pc0 := 205) (pc' := 213) rfl (hb hby at_205) rfl ((if0 _ _).trans (feq (by decide : ¬ ((1 : Int32) = (0 : Int32)))).2) (by decide) (by decide) ?_
          refine XS.iconst X55.here hx rfl (hb hby at_213) ?_
          refine XS.goto X55.here hx rfl (pc0 := 214) (pc' := 218) rfl (hb hby at_214) (by decide) (by decide) ?_
          show Steps p.tables e below (T55.setTop (mkF m 218 #[.val (.int p0), .val (.int p1), .val (.int p2), .val (.int p3), .val (.int p4), .val (.int p5), .val (.int 4), .val (.int c_1), .val (.int c_3), .val (.int c_5), .val (.int c_7), .val (.int c_9), .val (.ref b11), .val (.ref b_49), .val (.int 1), .val (.int 1)] [(.int 1), (.int 1)])) _
          refine XS.icmpNo X55.here hx rfl (hb hby at_218) rfl (teq (by decide : (1 : Int32) = (1 : Int32))).2 ?_
          refine XS.iconst X55.here hx rfl (hb hby at_221) ?_
          refine XS.goto X55.here hx rfl (pc0 := 222) (pc' := 226) rfl (hb hby at_222) (by decide) (by decide) ?_
          show Steps p.tables e below (T55.setTop (mkF m 226 #[.val (.int p0), .val (.int p1), .val (.int p2), .val (.int p3), .val (.int p4), .val (.int p5), .val (.int 4), .val (.int c_1), .val (.int c_3), .val (.int c_5), .val (.int c_7), .val (.int c_9), .val (.ref b11), .val (.ref b_49), .val (.int 1), .val (.int 1)] [(.int 1)])) _
          exact retN X55 hx (t := .boolean) Bd.returns (by simp) (hb hby at_226) hr
        · show Q_rm0 n0 _ T55.heap _
          exact ⟨rfl, N55⟩
      · subst ev
        obtain ⟨_, _, ⟨T57, L57, k57, n57⟩, -, X57', hS57', hg57, ⟨Lc57, hQ57, l57, y57, z57, Rs57⟩, st57⟩ := callSS X53 hx (y := MN_12) hown (mvT hZ (Wd hw 30 rfl)) (mvT hZ (Wd hw 31 rfl)) (mvT hZ (Wd hw 32 rfl)) (mvT hZ (Wd hw 33 rfl)) (by decide) (backOfSH (W := 0) (rmIbTx l Z a0 hw [] cS (b_49) (bv_49) (kb_49) ((4 : Int32)) ([(.int (c_1.toInt8.toInt32)), (.int (c_3.toInt8.toInt32)), (.int (c_5.toInt8.toInt32)), (.int (c_7.toInt8.toInt32))]) (c_3) (c_5) (c_7) (T49.heap) n0 O49 GL P49_0 P49_1 P49_2 P49_3 (by decide) rfl (by decide) (by decide) rfl (by decide) (by decide) rfl (by decide) (by decide) hA14) hZ (Wd hw 33 rfl) (Wd hw 32 rfl) (by decide) (by decide) (own_EW hw) H_50) (g := (mkF m 200 #[.val (.int p0), .val (.int p1), .val (.int p2), .val (.int p3), .val (.int p4), .val (.int p5), .val (.int 4), .val (.int c_1), .val (.int c_3), .val (.int c_5), .val (.int c_7), .val (.int c_9), .val (.ref b11), .val (.ref b_49), .val (.int 1), .val (.int 0)] [(.ref b_49)])) rfl (by rw [hml]; rfl) (argsL := [(.ref b_49)]) (rest := []) (lenOf pdv9 rfl) rfl (by show 2 * 0 + _ ≤ _; exact Nat.le_of_eq rfl) (hb hby at_200) (fun _ _ => ⟨rfl, e53, (by decide : 9 + 2 ≤ _), (by decide : 57 + 16 ≤ _)⟩)
        dsimp only [Pt.U, Pt.locs, Pt.cells, Pt.slots] at X57' l57 y57 z57 st57 hQ57 hS57' hg57 Rs57
        subst l57 y57 z57
        obtain ⟨X57, hS57, hZ57, hown57⟩ := rebS hS0 (by rw [e53]; exact (Nat.le_trans (Nat.le_trans (Nat.le_trans (Nat.le_trans (Nat.le_trans (Nat.le_trans (Nat.le_trans (Nat.le_trans (Nat.le_trans (Nat.le_trans (Nat.le_trans (Nat.le_trans (Nat.le_refl _) Kc1.1) Kc3.1) Kc5.1) Kc7.1) Kc9.1) E11.1) (Keep.of_wr W13).1) (Keep.of_wr W16).1) (Keep.of_wr W19).1) (Keep.of_wr W22).1) (Keep.of_wr W25).1) Kc49.1)) X57' hS57' hg57 hZ hown
        obtain ⟨rfl, N57q, Kc57⟩ := hQ57
        have O57 := O49.keep Kc57 all0
        have H_58 := Rs57.1
        have R_58 := R_50.trans Rs57
        have N57 := Fr.app N53 N57q
        obtain ⟨fs, hr, hrun, hended, hRW⟩ := X57.leaveW hS57 (Nat.le_refl _) (v := some (.int 1)) (fun h => by rw [Bd.returns] at h; cases h)
        have hCR : CHr Z EL1 s.vm s.heap T57.vm T57.heap := by
          rw [hh]
          exact R_58.trans (CHv.at X57 hZ57 (own_EW hw) H_58)
        refine ⟨_, _, pre54 _ ?_, hrun, hended, _, _, rfl, ?_, hCR, hRW.1, hRW.2.1, hRW.2.2.1, hRW.2.2.2.mono (by decide) (by decide)⟩
        · show Steps p.tables e below (T53.setTop (mkF m 198 #[.val (.int p0), .val (.int p1), .val (.int p2), .val (.int p3), .val (.int p4), .val (.int p5), .val (.int 4), .val (.int c_1), .val (.int c_3), .val (.int c_5), .val (.int c_7), .val (.int c_9), .val (.ref b11), .val (.ref b_49), .val (.int 1), .val (.int 0)] [])) _
          refine XS.aload X53.here hx rfl (hb hby at_198) rfl rfl ?_
          show Steps p.tables e below (T53.setTop (mkF m 200 #[.val (.int p0), .val (.int p1), .val (.int p2), .val (.int p3), .val (.int p4), .val (.int p5), .val (.int 4), .val (.int c_1), .val (.int c_3), .val (.int c_5), .val (.int c_7), .val (.int c_9), .val (.ref b11), .val (.ref b_49), .val (.int 1), .val (.int 0)] [(.ref b_49)])) _
          refine st57.trans ?_
          show Steps p.tables e below (T57.setTop (mkF m 203 #[.val (.int p0), .val (.int p1), .val (.int p2), .val (.int p3), .val (.int p4), .val (.int p5), .val (.int 4), .val (.int c_1), .val (.int c_3), .val (.int c_5), .val (.int c_7), .val (.int c_9), .val (.ref b11), .val (.ref b_49), .val (.int 1), .val (.int 0)] [(.int 1)])) _
          refine XS.iload X57.here hx rfl (hb hby at_203) rfl ?_
          refine XS.ifYes X57.here hx rfl (pc0 := 205) (pc' := 213) rfl (hb hby at_205) rfl ((if0 _ _).trans (feq (by decide : ¬ ((1 : Int32) = (0 : Int32)))).2) (by decide) (by decide) ?_
          refine XS.iconst X57.here hx rfl (hb hby at_213) ?_
          refine XS.goto X57.here hx rfl (pc0 := 214) (pc' := 218) rfl (hb hby at_214) (by decide) (by decide) ?_
          show Steps p.tables e below (T57.setTop (mkF m 218 #[.val (.int p0), .val (.int p1), .val (.int p2), .val (.int p3), .val (.int p4), .val (.int p5), .val (.int 4), .val (.int c_1), .val (.int c_3), .val (.int c_5), .val (.int c_7), .val (.int c_9), .val (.ref b11), .val (.ref b_49), .val (.int 1), .val (.int 0)] [(.int 1), (.int 1)])) _
          refine XS.icmpNo X57.here hx rfl (hb hby at_218) rfl (teq (by decide : (1 : Int32) = (1 : Int32))).2 ?_
          refine XS.iconst X57.here hx rfl (hb hby at_221) ?_
          refine XS.goto X57.here hx rfl (pc0 := 222) (pc' := 226) rfl (hb hby at_222) (by decide) (by decide) ?_
          show Steps p.tables e below (T57.setTop (mkF m 226 #[.val (.int p0), .val (.int p1), .val (.int p2), .val (.int p3), .val (.int p4), .val (.int p5), .val (.int 4), .val (.int c_1), .val (.int c_3), .val (.int c_5), .val (.int c_7), .val (.int c_9), .val (.ref b11), .val (.ref b_49), .val (.int 1), .val (.int 0)] [(.int 1)])) _
          exact retN X57 hx (t := .boolean) Bd.returns (by simp) (hb hby at_226) hr
        · show Q_rm0 n0 _ T57.heap _
          exact ⟨rfl, N57⟩
    · subst ev
      obtain ⟨v_59, T59, Lq59, X59, e59, N59, P59_0, st59⟩ := sg_jar4 cS p0 p1 p2 p3 p4 p5 (c_1) (c_3) (c_5) (c_7) (c_9) (b11) (b_49) (k11) ((0 : Int32)) X51 hx hZ hw hby hml hown e51 N51 O49 GL (V25.keep Kc49 nin0)
      have pre60 : ∀ t, Steps p.tables e below (T59.setTop (mkF m 198 #[.val (.int p0), .val (.int p1), .val (.int p2), .val (.int p3), .val (.int p4), .val (.int p5), .val (.int 4), .val (.int c_1), .val (.int c_3), .val (.int c_5), .val (.int c_7), .val (.int c_9), .val (.ref b11), .val (.ref b_49), .val (.int 0), .val (.int v_59)] [])) t → Steps p.tables e below (s₁.setTop (entryFrame m #[(.int p0), (.int p1), (.int p2), (.int p3), (.int p4), (.int p5)] maxLocals)) t := fun t kt => by
        refine pre52 t ?_
        show Steps p.tables e below (T51.setTop (mkF m 137 #[.val (.int p0), .val (.int p1), .val (.int p2), .val (.int p3), .val (.int p4), .val (.int p5), .val (.int 4), .val (.int c_1), .val (.int c_3), .val (.int c_5), .val (.int c_7), .val (.int c_9), .val (.ref b11), .val (.ref b_49), .val (.int 0), .unset] [])) _
        refine st59 _ ?_
        exact kt
      rcases P59_0 with ⟨ev, hA15⟩ | ⟨ev, hA15⟩
      · subst ev
        obtain ⟨_, _, ⟨T61, L61, k61, n61⟩, -, X61', hS61', hg61, ⟨Lc61, hQ61, l61, y61, z61, Rs61⟩, st61⟩ := callSS X59 hx (y := MN_12) hown (mvT hZ (Wd hw 30 rfl)) (mvT hZ (Wd hw 31 rfl)) (mvT hZ (Wd hw 32 rfl)) (mvT hZ (Wd hw 33 rfl)) (by decide) (backOfSH (W := 0) (rmIbFT l Z a0 hw [] cS (b_49) (bv_49) (kb_49) ((4 : Int32)) ([(.int (c_1.toInt8.toInt32)), (.int (c_3.toInt8.toInt32)), (.int (c_5.toInt8.toInt32)), (.int (c_7.toInt8.toInt32))]) (c_3) (c_5) (c_7) (c_1) (c_3) (c_5) (c_7) (T49.heap) n0 O49 GL P49_0 P49_1 P49_2 P49_3 (by decide) rfl (by decide) (by decide) P3_0 P3_1 rfl (by decide) (by decide) P5_0 P5_1 rfl (by decide) (by decide) P7_0 P7_1 hA14 (by decide) rfl (by decide) (by decide) rfl (by decide) (by decide) rfl (by decide) (by decide) rfl (by decide) (by decide) hA15) hZ (Wd hw 33 rfl) (Wd hw 32 rfl) (by decide) (by decide) (own_EW hw) H_50) (g := (mkF m 200 #[.val (.int p0), .val (.int p1), .val (.int p2), .val (.int p3), .val (.int p4), .val (.int p5), .val (.int 4), .val (.int c_1), .val (.int c_3), .val (.int c_5), .val (.int c_7), .val (.int c_9), .val (.ref b11), .val (.ref b_49), .val (.int 0), .val (.int 1)] [(.ref b_49)])) rfl (by rw [hml]; rfl) (argsL := [(.ref b_49)]) (rest := []) (lenOf pdv9 rfl) rfl (by show 2 * 0 + _ ≤ _; exact Nat.le_of_eq rfl) (hb hby at_200) (fun _ _ => ⟨rfl, e59, (by decide : 9 + 4 ≤ _), (by decide : 57 + 36 ≤ _)⟩)
        dsimp only [Pt.U, Pt.locs, Pt.cells, Pt.slots] at X61' l61 y61 z61 st61 hQ61 hS61' hg61 Rs61
        subst l61 y61 z61
        obtain ⟨X61, hS61, hZ61, hown61⟩ := rebS hS0 (by rw [e59]; exact (Nat.le_trans (Nat.le_trans (Nat.le_trans (Nat.le_trans (Nat.le_trans (Nat.le_trans (Nat.le_trans (Nat.le_trans (Nat.le_trans (Nat.le_trans (Nat.le_trans (Nat.le_trans (Nat.le_refl _) Kc1.1) Kc3.1) Kc5.1) Kc7.1) Kc9.1) E11.1) (Keep.of_wr W13).1) (Keep.of_wr W16).1) (Keep.of_wr W19).1) (Keep.of_wr W22).1) (Keep.of_wr W25).1) Kc49.1)) X61' hS61' hg61 hZ hown
        obtain ⟨rfl, N61q, Kc61⟩ := hQ61
        have O61 := O49.keep Kc61 all0
        have H_62 := Rs61.1
        have R_62 := R_50.trans Rs61
        have N61 := Fr.app N59 N61q
        obtain ⟨fs, hr, hrun, hended, hRW⟩ := X61.leaveW hS61 (Nat.le_refl _) (v := some (.int 1)) (fun h => by rw [Bd.returns] at h; cases h)
        have hCR : CHr Z EL1 s.vm s.heap T61.vm T61.heap := by
          rw [hh]
          exact R_62.trans (CHv.at X61 hZ61 (own_EW hw) H_62)
        refine ⟨_, _, pre60 _ ?_, hrun, hended, _, _, rfl, ?_, hCR, hRW.1, hRW.2.1, hRW.2.2.1, hRW.2.2.2.mono (by decide) (by decide)⟩
        · show Steps p.tables e below (T59.setTop (mkF m 198 #[.val (.int p0), .val (.int p1), .val (.int p2), .val (.int p3), .val (.int p4), .val (.int p5), .val (.int 4), .val (.int c_1), .val (.int c_3), .val (.int c_5), .val (.int c_7), .val (.int c_9), .val (.ref b11), .val (.ref b_49), .val (.int 0), .val (.int 1)] [])) _
          refine XS.aload X59.here hx rfl (hb hby at_198) rfl rfl ?_
          show Steps p.tables e below (T59.setTop (mkF m 200 #[.val (.int p0), .val (.int p1), .val (.int p2), .val (.int p3), .val (.int p4), .val (.int p5), .val (.int 4), .val (.int c_1), .val (.int c_3), .val (.int c_5), .val (.int c_7), .val (.int c_9), .val (.ref b11), .val (.ref b_49), .val (.int 0), .val (.int 1)] [(.ref b_49)])) _
          refine st61.trans ?_
          show Steps p.tables e below (T61.setTop (mkF m 203 #[.val (.int p0), .val (.int p1), .val (.int p2), .val (.int p3), .val (.int p4), .val (.int p5), .val (.int 4), .val (.int c_1), .val (.int c_3), .val (.int c_5), .val (.int c_7), .val (.int c_9), .val (.ref b11), .val (.ref b_49), .val (.int 0), .val (.int 1)] [(.int 1)])) _
          refine XS.iload X61.here hx rfl (hb hby at_203) rfl ?_
          refine XS.ifNo X61.here hx rfl (hb hby at_205) rfl ((if0 _ _).trans (teq (by decide : (0 : Int32) = (0 : Int32))).2) ?_
          refine XS.iload X61.here hx rfl (hb hby at_208) rfl ?_
          refine XS.ifNo X61.here hx rfl (hb hby at_210) rfl ((if0 _ _).trans (feq (by decide : ¬ ((1 : Int32) = (0 : Int32)))).1) ?_
          show Steps p.tables e below (T61.setTop (mkF m 213 #[.val (.int p0), .val (.int p1), .val (.int p2), .val (.int p3), .val (.int p4), .val (.int p5), .val (.int 4), .val (.int c_1), .val (.int c_3), .val (.int c_5), .val (.int c_7), .val (.int c_9), .val (.ref b11), .val (.ref b_49), .val (.int 0), .val (.int 1)] [(.int 1)])) _
          refine XS.iconst X61.here hx rfl (hb hby at_213) ?_
          refine XS.goto X61.here hx rfl (pc0 := 214) (pc' := 218) rfl (hb hby at_214) (by decide) (by decide) ?_
          refine XS.icmpNo X61.here hx rfl (hb hby at_218) rfl (teq (by decide : (1 : Int32) = (1 : Int32))).2 ?_
          refine XS.iconst X61.here hx rfl (hb hby at_221) ?_
          show Steps p.tables e below (T61.setTop (mkF m 222 #[.val (.int p0), .val (.int p1), .val (.int p2), .val (.int p3), .val (.int p4), .val (.int p5), .val (.int 4), .val (.int c_1), .val (.int c_3), .val (.int c_5), .val (.int c_7), .val (.int c_9), .val (.ref b11), .val (.ref b_49), .val (.int 0), .val (.int 1)] [(.int 1)])) _
          refine XS.goto X61.here hx rfl (pc0 := 222) (pc' := 226) rfl (hb hby at_222) (by decide) (by decide) ?_
          show Steps p.tables e below (T61.setTop (mkF m 226 #[.val (.int p0), .val (.int p1), .val (.int p2), .val (.int p3), .val (.int p4), .val (.int p5), .val (.int 4), .val (.int c_1), .val (.int c_3), .val (.int c_5), .val (.int c_7), .val (.int c_9), .val (.ref b11), .val (.ref b_49), .val (.int 0), .val (.int 1)] [(.int 1)])) _
          exact retN X61 hx (t := .boolean) Bd.returns (by simp) (hb hby at_226) hr
        · show Q_rm0 n0 _ T61.heap _
          exact ⟨rfl, N61⟩
      · subst ev
        obtain ⟨_, _, ⟨T63, L63, k63, n63⟩, -, X63', hS63', hg63, ⟨Lc63, hQ63, l63, y63, z63, Rs63⟩, st63⟩ := callSS X59 hx (y := MN_12) hown (mvT hZ (Wd hw 30 rfl)) (mvT hZ (Wd hw 31 rfl)) (mvT hZ (Wd hw 32 rfl)) (mvT hZ (Wd hw 33 rfl)) (by decide) (backOfSH (W := 0) (rmIbFF l Z a0 hw [] cS (b_49) (bv_49) (kb_49) ((4 : Int32)) ([(.int (c_1.toInt8.toInt32)), (.int (c_3.toInt8.toInt32)), (.int (c_5.toInt8.toInt32)), (.int (c_7.toInt8.toInt32))]) (c_3) (c_5) (c_7) (c_1) (c_3) (c_5) (c_7) (T49.heap) n0 O49 GL P49_0 P49_1 P49_2 P49_3 (by decide) rfl (by decide) (by decide) P3_0 P3_1 rfl (by decide) (by decide) P5_0 P5_1 rfl (by decide) (by decide) P7_0 P7_1 hA14 (by decide) rfl (by decide) (by decide) P1_0 P1_1 rfl (by decide) (by decide) P3_0 P3_1 rfl (by decide) (by decide) P5_0 P5_1 rfl (by decide) (by decide) P7_0 P7_1 hA15) hZ (Wd hw 33 rfl) (Wd hw 32 rfl) (by decide) (by decide) (own_EW hw) H_50) (g := (mkF m 200 #[.val (.int p0), .val (.int p1), .val (.int p2), .val (.int p3), .val (.int p4), .val (.int p5), .val (.int 4), .val (.int c_1), .val (.int c_3), .val (.int c_5), .val (.int c_7), .val (.int c_9), .val (.ref b11), .val (.ref b_49), .val (.int 0), .val (.int 0)] [(.ref b_49)])) rfl (by rw [hml]; rfl) (argsL := [(.ref b_49)]) (rest := []) (lenOf pdv9 rfl) rfl (by show 2 * 0 + _ ≤ _; exact Nat.le_of_eq rfl) (hb hby at_200) (fun _ _ => ⟨rfl, e59, (by decide : 9 + 4 ≤ _), (by decide : 57 + 36 ≤ _)⟩)
        dsimp only [Pt.U, Pt.locs, Pt.cells, Pt.slots] at X63' l63 y63 z63 st63 hQ63 hS63' hg63 Rs63
        subst l63 y63 z63
        obtain ⟨X63, hS63, hZ63, hown63⟩ := rebS hS0 (by rw [e59]; exact (Nat.le_trans (Nat.le_trans (Nat.le_trans (Nat.le_trans (Nat.le_trans (Nat.le_trans (Nat.le_trans (Nat.le_trans (Nat.le_trans (Nat.le_trans (Nat.le_trans (Nat.le_trans (Nat.le_refl _) Kc1.1) Kc3.1) Kc5.1) Kc7.1) Kc9.1) E11.1) (Keep.of_wr W13).1) (Keep.of_wr W16).1) (Keep.of_wr W19).1) (Keep.of_wr W22).1) (Keep.of_wr W25).1) Kc49.1)) X63' hS63' hg63 hZ hown
        obtain ⟨rfl, N63q, Kc63⟩ := hQ63
        have O63 := O49.keep Kc63 all0
        have H_64 := Rs63.1
        have R_64 := R_50.trans Rs63
        have N63 := Fr.app N59 N63q
        obtain ⟨fs, hr, hrun, hended, hRW⟩ := X63.leaveW hS63 (Nat.le_refl _) (v := some (.int 1)) (fun h => by rw [Bd.returns] at h; cases h)
        have hCR : CHr Z EL1 s.vm s.heap T63.vm T63.heap := by
          rw [hh]
          exact R_64.trans (CHv.at X63 hZ63 (own_EW hw) H_64)
        refine ⟨_, _, pre60 _ ?_, hrun, hended, _, _, rfl, ?_, hCR, hRW.1, hRW.2.1, hRW.2.2.1, hRW.2.2.2.mono (by decide) (by decide)⟩
        · show Steps p.tables e below (T59.setTop (mkF m 198 #[.val (.int p0), .val (.int p1), .val (.int p2), .val (.int p3), .val (.int p4), .val (.int p5), .val (.int 4), .val (.int c_1), .val (.int c_3), .val (.int c_5), .val (.int c_7), .val (.int c_9), .val (.ref b11), .val (.ref b_49), .val (.int 0), .val (.int 0)] [])) _
          refine XS.aload X59.here hx rfl (hb hby at_198) rfl rfl ?_
          show Steps p.tables e below (T59.setTop (mkF m 200 #[.val (.int p0), .val (.int p1), .val (.int p2), .val (.int p3), .val (.int p4), .val (.int p5), .val (.int 4), .val (.int c_1), .val (.int c_3), .val (.int c_5), .val (.int c_7), .val (.int c_9), .val (.ref b11), .val (.ref b_49), .val (.int 0), .val (.int 0)] [(.ref b_49)])) _
          refine st63.trans ?_
          show Steps p.tables e below (T63.setTop (mkF m 203 #[.val (.int p0), .val (.int p1), .val (.int p2), .val (.int p3), .val (.int p4), .val (.int p5), .val (.int 4), .val (.int c_1), .val (.int c_3), .val (.int c_5), .val (.int c_7), .val (.int c_9), .val (.ref b11), .val (.ref b_49), .val (.int 0), .val (.int 0)] [(.int 0)])) _
          refine XS.iload X63.here hx rfl (hb hby at_203) rfl ?_
          refine XS.ifNo X63.here hx rfl (hb hby at_205) rfl ((if0 _ _).trans (teq (by decide : (0 : Int32) = (0 : Int32))).2) ?_
          refine XS.iload X63.here hx rfl (hb hby at_208) rfl ?_
          refine XS.ifYes X63.here hx rfl (pc0 := 210) (pc' := 217) rfl (hb hby at_210) rfl ((if0 _ _).trans (teq (by decide : (0 : Int32) = (0 : Int32))).1) (by decide) (by decide) ?_
          show Steps p.tables e below (T63.setTop (mkF m 217 #[.val (.int p0), .val (.int p1), .val (.int p2), .val (.int p3), .val (.int p4), .val (.int p5), .val (.int 4), .val (.int c_1), .val (.int c_3), .val (.int c_5), .val (.int c_7), .val (.int c_9), .val (.ref b11), .val (.ref b_49), .val (.int 0), .val (.int 0)] [(.int 0)])) _
          refine XS.iconst X63.here hx rfl (hb hby at_217) ?_
          refine XS.icmpNo X63.here hx rfl (hb hby at_218) rfl (teq (by decide : (0 : Int32) = (0 : Int32))).2 ?_
          refine XS.iconst X63.here hx rfl (hb hby at_221) ?_
          refine XS.goto X63.here hx rfl (pc0 := 222) (pc' := 226) rfl (hb hby at_222) (by decide) (by decide) ?_
          show Steps p.tables e below (T63.setTop (mkF m 226 #[.val (.int p0), .val (.int p1), .val (.int p2), .val (.int p3), .val (.int p4), .val (.int p5), .val (.int 4), .val (.int c_1), .val (.int c_3), .val (.int c_5), .val (.int c_7), .val (.int c_9), .val (.ref b11), .val (.ref b_49), .val (.int 0), .val (.int 0)] [(.int 1)])) _
          exact retN X63 hx (t := .boolean) Bd.returns (by simp) (hb hby at_226) hr
        · show Q_rm0 n0 _ T63.heap _
          exact ⟨rfl, N63⟩
  · obtain ⟨_, _, ⟨T65, L65, k65, n65⟩, -, X65, ⟨Lc65, hQ65, l65, y65, z65⟩, st65⟩ := Jvm.LawKit.callS X25 hx (y := MN_6) hown (mvT hZ (Wd hw 6 rfl)) (mvT hZ (Wd hw 7 rfl)) (mvT hZ (Wd hw 3 rfl)) (mvT hZ (Wd hw 8 rfl)) (by decide) (backOf (W := 0) (rmMk5 l Z a0 hw [] cS (c_1) (c_3) (c_5) (c_7) (c_9) (h25) n0 O25 GL P1_0 P3_0 P5_0 P7_0 P9_0 P1_2 P3_2 P5_2 P7_2 P9_2) hZ (Wd hw 8 rfl) (Wd hw 3 rfl) (by decide) (by decide)) (g := (mkF m 83 #[.val (.int p0), .val (.int p1), .val (.int p2), .val (.int p3), .val (.int p4), .val (.int p5), .val (.int 5), .val (.int c_1), .val (.int c_3), .val (.int c_5), .val (.int c_7), .val (.int c_9), .val (.ref b11), .unset, .unset, .unset] [(.int c_9), (.int c_7), (.int c_5), (.int c_3), (.int c_1), (.int 5)])) rfl (by rw [hml]; rfl) (argsL := [(.int 5), (.int c_1), (.int c_3), (.int c_5), (.int c_7), (.int c_9)]) (rest := []) (lenOf pdv11 rfl) rfl (by show 2 * 0 + _ ≤ _; exact Nat.le_of_eq rfl) (hb hby at_83) (fun _ _ => ⟨rfl, e25, (by decide : 6 + 3 ≤ _), (by decide : 45 + 14 ≤ _)⟩)
    dsimp only [Pt.U, Pt.locs, Pt.cells, Pt.slots] at X65 l65 y65 z65 st65 hQ65
    subst l65 y65 z65
    obtain ⟨b_65, bv_65, kb_65, rfl, N65q, Kc65, P65_0, P65_1, P65_2, P65_3⟩ := hQ65
    have O65 := O25.keep Kc65 all0
    have H_66 := H_26.keep Kc65 sf0
    have R_66 := R_26.trans (CHr.keep Kc65 sf0 H_26)
    have N65 := Fr.app N25 N65q
    obtain ⟨v_67, T67, Lq67, X67, e67, N67, P67_0, st67⟩ := sg_mf5 cS p0 p1 p2 p3 p4 p5 (c_1) (c_3) (c_5) (c_7) (c_9) (b11) (b_65) (k11) X65 hx hZ hw hby hml hown rfl N65 O65 GL (V25.keep Kc65 nin0)
    have pre68 : ∀ t, Steps p.tables e below (T67.setTop (mkF m 137 #[.val (.int p0), .val (.int p1), .val (.int p2), .val (.int p3), .val (.int p4), .val (.int p5), .val (.int 5), .val (.int c_1), .val (.int c_3), .val (.int c_5), .val (.int c_7), .val (.int c_9), .val (.ref b11), .val (.ref b_65), .val (.int v_67), .unset] [])) t → Steps p.tables e below (s₁.setTop (entryFrame m #[(.int p0), (.int p1), (.int p2), (.int p3), (.int p4), (.int p5)] maxLocals)) t := fun t kt => by
      refine pre28 t ?_
      rw [hN]
      show Steps p.tables e below (T25.setTop (mkF m 71 #[.val (.int p0), .val (.int p1), .val (.int p2), .val (.int p3), .val (.int p4), .val (.int p5), .val (.int 5), .val (.int c_1), .val (.int c_3), .val (.int c_5), .val (.int c_7), .val (.int c_9), .val (.ref b11), .unset, .unset, .unset] [])) _
      refine XS.iload X25.here hx rfl (hb hby at_71) rfl ?_
      refine XS.iload X25.here hx rfl (hb hby at_73) rfl ?_
      refine XS.iload X25.here hx rfl (hb hby at_75) rfl ?_
      refine XS.iload X25.here hx rfl (hb hby at_77) rfl ?_
      show Steps p.tables e below (T25.setTop (mkF m 79 #[.val (.int p0), .val (.int p1), .val (.int p2), .val (.int p3), .val (.int p4), .val (.int p5), .val (.int 5), .val (.int c_1), .val (.int c_3), .val (.int c_5), .val (.int c_7), .val (.int c_9), .val (.ref b11), .unset, .unset, .unset] [(.int c_5), (.int c_3), (.int c_1), (.int 5)])) _
      refine XS.iload X25.here hx rfl (hb hby at_79) rfl ?_
      refine XS.iload X25.here hx rfl (hb hby at_81) rfl ?_
      show Steps p.tables e below (T25.setTop (mkF m 83 #[.val (.int p0), .val (.int p1), .val (.int p2), .val (.int p3), .val (.int p4), .val (.int p5), .val (.int 5), .val (.int c_1), .val (.int c_3), .val (.int c_5), .val (.int c_7), .val (.int c_9), .val (.ref b11), .unset, .unset, .unset] [(.int c_9), (.int c_7), (.int c_5), (.int c_3), (.int c_1), (.int 5)])) _
      refine st65 _ ?_
      show Steps p.tables e below (T65.setTop (mkF m 86 #[.val (.int p0), .val (.int p1), .val (.int p2), .val (.int p3), .val (.int p4), .val (.int p5), .val (.int 5), .val (.int c_1), .val (.int c_3), .val (.int c_5), .val (.int c_7), .val (.int c_9), .val (.ref b11), .unset, .unset, .unset] [(.ref b_65)])) _
      refine XS.astore X65.here hx rfl (hb hby at_86) rfl rfl (l' := #[.val (.int p0), .val (.int p1), .val (.int p2), .val (.int p3), .val (.int p4), .val (.int p5), .val (.int 5), .val (.int c_1), .val (.int c_3), .val (.int c_5), .val (.int c_7), .val (.int c_9), .val (.ref b11), .val (.ref b_65), .unset, .unset]) rfl ?_
      show Steps p.tables e below (T65.setTop (mkF m 88 #[.val (.int p0), .val (.int p1), .val (.int p2), .val (.int p3), .val (.int p4), .val (.int p5), .val (.int 5), .val (.int c_1), .val (.int c_3), .val (.int c_5), .val (.int c_7), .val (.int c_9), .val (.ref b11), .val (.ref b_65), .unset, .unset] [])) _
      refine st67 _ ?_
      exact kt
    rcases P67_0 with ⟨ev, hA14⟩ | ⟨ev, hA14⟩
    · subst ev
      obtain ⟨v_69, T69, Lq69, X69, e69, N69, P69_0, st69⟩ := sg_jar5 cS p0 p1 p2 p3 p4 p5 (c_1) (c_3) (c_5) (c_7) (c_9) (b11) (b_65) (k11) ((1 : Int32)) X67 hx hZ hw hby hml hown e67 N67 O65 GL (V25.keep Kc65 nin0)
      have pre70 : ∀ t, Steps p.tables e below (T69.setTop (mkF m 198 #[.val (.int p0), .val (.int p1), .val (.int p2), .val (.int p3), .val (.int p4), .val (.int p5), .val (.int 5), .val (.int c_1), .val (.int c_3), .val (.int c_5), .val (.int c_7), .val (.int c_9), .val (.ref b11), .val (.ref b_65), .val (.int 1), .val (.int v_69)] [])) t → Steps p.tables e below (s₁.setTop (entryFrame m #[(.int p0), (.int p1), (.int p2), (.int p3), (.int p4), (.int p5)] maxLocals)) t := fun t kt => by
        refine pre68 t ?_
        show Steps p.tables e below (T67.setTop (mkF m 137 #[.val (.int p0), .val (.int p1), .val (.int p2), .val (.int p3), .val (.int p4), .val (.int p5), .val (.int 5), .val (.int c_1), .val (.int c_3), .val (.int c_5), .val (.int c_7), .val (.int c_9), .val (.ref b11), .val (.ref b_65), .val (.int 1), .unset] [])) _
        refine st69 _ ?_
        exact kt
      rcases P69_0 with ⟨ev, hA15⟩ | ⟨ev, hA15⟩
      · subst ev
        obtain ⟨_, _, ⟨T71, L71, k71, n71⟩, -, X71', hS71', hg71, ⟨Lc71, hQ71, l71, y71, z71, Rs71⟩, st71⟩ := callSS X69 hx (y := MN_12) hown (mvT hZ (Wd hw 30 rfl)) (mvT hZ (Wd hw 31 rfl)) (mvT hZ (Wd hw 32 rfl)) (mvT hZ (Wd hw 33 rfl)) (by decide) (backOfSH (W := 0) (rmIbTx l Z a0 hw [] cS (b_65) (bv_65) (kb_65) ((5 : Int32)) ([(.int (c_1.toInt8.toInt32)), (.int (c_3.toInt8.toInt32)), (.int (c_5.toInt8.toInt32)), (.int (c_7.toInt8.toInt32)), (.int (c_9.toInt8.toInt32))]) (c_5) (c_7) (c_9) (T65.heap) n0 O65 GL P65_0 P65_1 P65_2 P65_3 (by decide) rfl (by decide) (by decide) rfl (by decide) (by decide) rfl (by decide) (by decide) hA14) hZ (Wd hw 33 rfl) (Wd hw 32 rfl) (by decide) (by decide) (own_EW hw) H_66) (g := (mkF m 200 #[.val (.int p0), .val (.int p1), .val (.int p2), .val (.int p3), .val (.int p4), .val (.int p5), .val (.int 5), .val (.int c_1), .val (.int c_3), .val (.int c_5), .val (.int c_7), .val (.int c_9), .val (.ref b11), .val (.ref b_65), .val (.int 1), .val (.int 1)] [(.ref b_65)])) rfl (by rw [hml]; rfl) (argsL := [(.ref b_65)]) (rest := []) (lenOf pdv9 rfl) rfl (by show 2 * 0 + _ ≤ _; exact Nat.le_of_eq rfl) (hb hby at_200) (fun _ _ => ⟨rfl, e69, (by decide : 9 + 2 ≤ _), (by decide : 59 + 16 ≤ _)⟩)
        dsimp only [Pt.U, Pt.locs, Pt.cells, Pt.slots] at X71' l71 y71 z71 st71 hQ71 hS71' hg71 Rs71
        subst l71 y71 z71
        obtain ⟨X71, hS71, hZ71, hown71⟩ := rebS hS0 (by rw [e69]; exact (Nat.le_trans (Nat.le_trans (Nat.le_trans (Nat.le_trans (Nat.le_trans (Nat.le_trans (Nat.le_trans (Nat.le_trans (Nat.le_trans (Nat.le_trans (Nat.le_trans (Nat.le_trans (Nat.le_refl _) Kc1.1) Kc3.1) Kc5.1) Kc7.1) Kc9.1) E11.1) (Keep.of_wr W13).1) (Keep.of_wr W16).1) (Keep.of_wr W19).1) (Keep.of_wr W22).1) (Keep.of_wr W25).1) Kc65.1)) X71' hS71' hg71 hZ hown
        obtain ⟨rfl, N71q, Kc71⟩ := hQ71
        have O71 := O65.keep Kc71 all0
        have H_72 := Rs71.1
        have R_72 := R_66.trans Rs71
        have N71 := Fr.app N69 N71q
        obtain ⟨fs, hr, hrun, hended, hRW⟩ := X71.leaveW hS71 (Nat.le_refl _) (v := some (.int 1)) (fun h => by rw [Bd.returns] at h; cases h)
        have hCR : CHr Z EL1 s.vm s.heap T71.vm T71.heap := by
          rw [hh]
          exact R_72.trans (CHv.at X71 hZ71 (own_EW hw) H_72)
        refine ⟨_, _, pre70 _ ?_, hrun, hended, _, _, rfl, ?_, hCR, hRW.1, hRW.2.1, hRW.2.2.1, hRW.2.2.2.mono (by decide) (by decide)⟩
        · show Steps p.tables e below (T69.setTop (mkF m 198 #[.val (.int p0), .val (.int p1), .val (.int p2), .val (.int p3), .val (.int p4), .val (.int p5), .val (.int 5), .val (.int c_1), .val (.int c_3), .val (.int c_5), .val (.int c_7), .val (.int c_9), .val (.ref b11), .val (.ref b_65), .val (.int 1), .val (.int 1)] [])) _
          refine XS.aload X69.here hx rfl (hb hby at_198) rfl rfl ?_
          show Steps p.tables e below (T69.setTop (mkF m 200 #[.val (.int p0), .val (.int p1), .val (.int p2), .val (.int p3), .val (.int p4), .val (.int p5), .val (.int 5), .val (.int c_1), .val (.int c_3), .val (.int c_5), .val (.int c_7), .val (.int c_9), .val (.ref b11), .val (.ref b_65), .val (.int 1), .val (.int 1)] [(.ref b_65)])) _
          refine st71.trans ?_
          show Steps p.tables e below (T71.setTop (mkF m 203 #[.val (.int p0), .val (.int p1), .val (.int p2), .val (.int p3), .val (.int p4), .val (.int p5), .val (.int 5), .val (.int c_1), .val (.int c_3), .val (.int c_5), .val (.int c_7), .val (.int c_9), .val (.ref b11), .val (.ref b_65), .val (.int 1), .val (.int 1)] [(.int 1)])) _
          refine XS.iload X71.here hx rfl (hb hby at_203) rfl ?_
          refine XS.ifYes X71.here hx rfl (pc0 := 205) (pc' := 213) rfl (hb hby at_205) rfl ((if0 _ _).trans (feq (by decide : ¬ ((1 : Int32) = (0 : Int32)))).2) (by decide) (by decide) ?_
          refine XS.iconst X71.here hx rfl (hb hby at_213) ?_
          refine XS.goto X71.here hx rfl (pc0 := 214) (pc' := 218) rfl (hb hby at_214) (by decide) (by decide) ?_
          show Steps p.tables e below (T71.setTop (mkF m 218 #[.val (.int p0), .val (.int p1), .val (.int p2), .val (.int p3), .val (.int p4), .val (.int p5), .val (.int 5), .val (.int c_1), .val (.int c_3), .val (.int c_5), .val (.int c_7), .val (.int c_9), .val (.ref b11), .val (.ref b_65), .val (.int 1), .val (.int 1)] [(.int 1), (.int 1)])) _
          refine XS.icmpNo X71.here hx rfl (hb hby at_218) rfl (teq (by decide : (1 : Int32) = (1 : Int32))).2 ?_
          refine XS.iconst X71.here hx rfl (hb hby at_221) ?_
          refine XS.goto X71.here hx rfl (pc0 := 222) (pc' := 226) rfl (hb hby at_222) (by decide) (by decide) ?_
          show Steps p.tables e below (T71.setTop (mkF m 226 #[.val (.int p0), .val (.int p1), .val (.int p2), .val (.int p3), .val (.int p4), .val (.int p5), .val (.int 5), .val (.int c_1), .val (.int c_3), .val (.int c_5), .val (.int c_7), .val (.int c_9), .val (.ref b11), .val (.ref b_65), .val (.int 1), .val (.int 1)] [(.int 1)])) _
          exact retN X71 hx (t := .boolean) Bd.returns (by simp) (hb hby at_226) hr
        · show Q_rm0 n0 _ T71.heap _
          exact ⟨rfl, N71⟩
      · subst ev
        obtain ⟨_, _, ⟨T73, L73, k73, n73⟩, -, X73', hS73', hg73, ⟨Lc73, hQ73, l73, y73, z73, Rs73⟩, st73⟩ := callSS X69 hx (y := MN_12) hown (mvT hZ (Wd hw 30 rfl)) (mvT hZ (Wd hw 31 rfl)) (mvT hZ (Wd hw 32 rfl)) (mvT hZ (Wd hw 33 rfl)) (by decide) (backOfSH (W := 0) (rmIbTx l Z a0 hw [] cS (b_65) (bv_65) (kb_65) ((5 : Int32)) ([(.int (c_1.toInt8.toInt32)), (.int (c_3.toInt8.toInt32)), (.int (c_5.toInt8.toInt32)), (.int (c_7.toInt8.toInt32)), (.int (c_9.toInt8.toInt32))]) (c_5) (c_7) (c_9) (T65.heap) n0 O65 GL P65_0 P65_1 P65_2 P65_3 (by decide) rfl (by decide) (by decide) rfl (by decide) (by decide) rfl (by decide) (by decide) hA14) hZ (Wd hw 33 rfl) (Wd hw 32 rfl) (by decide) (by decide) (own_EW hw) H_66) (g := (mkF m 200 #[.val (.int p0), .val (.int p1), .val (.int p2), .val (.int p3), .val (.int p4), .val (.int p5), .val (.int 5), .val (.int c_1), .val (.int c_3), .val (.int c_5), .val (.int c_7), .val (.int c_9), .val (.ref b11), .val (.ref b_65), .val (.int 1), .val (.int 0)] [(.ref b_65)])) rfl (by rw [hml]; rfl) (argsL := [(.ref b_65)]) (rest := []) (lenOf pdv9 rfl) rfl (by show 2 * 0 + _ ≤ _; exact Nat.le_of_eq rfl) (hb hby at_200) (fun _ _ => ⟨rfl, e69, (by decide : 9 + 2 ≤ _), (by decide : 59 + 16 ≤ _)⟩)
        dsimp only [Pt.U, Pt.locs, Pt.cells, Pt.slots] at X73' l73 y73 z73 st73 hQ73 hS73' hg73 Rs73
        subst l73 y73 z73
        obtain ⟨X73, hS73, hZ73, hown73⟩ := rebS hS0 (by rw [e69]; exact (Nat.le_trans (Nat.le_trans (Nat.le_trans (Nat.le_trans (Nat.le_trans (Nat.le_trans (Nat.le_trans (Nat.le_trans (Nat.le_trans (Nat.le_trans (Nat.le_trans (Nat.le_trans (Nat.le_refl _) Kc1.1) Kc3.1) Kc5.1) Kc7.1) Kc9.1) E11.1) (Keep.of_wr W13).1) (Keep.of_wr W16).1) (Keep.of_wr W19).1) (Keep.of_wr W22).1) (Keep.of_wr W25).1) Kc65.1)) X73' hS73' hg73 hZ hown
        obtain ⟨rfl, N73q, Kc73⟩ := hQ73
        have O73 := O65.keep Kc73 all0
        have H_74 := Rs73.1
        have R_74 := R_66.trans Rs73
        have N73 := Fr.app N69 N73q
        obtain ⟨fs, hr, hrun, hended, hRW⟩ := X73.leaveW hS73 (Nat.le_refl _) (v := some (.int 1)) (fun h => by rw [Bd.returns] at h; cases h)
        have hCR : CHr Z EL1 s.vm s.heap T73.vm T73.heap := by
          rw [hh]
          exact R_74.trans (CHv.at X73 hZ73 (own_EW hw) H_74)
        refine ⟨_, _, pre70 _ ?_, hrun, hended, _, _, rfl, ?_, hCR, hRW.1, hRW.2.1, hRW.2.2.1, hRW.2.2.2.mono (by decide) (by decide)⟩
        · show Steps p.tables e below (T69.setTop (mkF m 198 #[.val (.int p0), .val (.int p1), .val (.int p2), .val (.int p3), .val (.int p4), .val (.int p5), .val (.int 5), .val (.int c_1), .val (.int c_3), .val (.int c_5), .val (.int c_7), .val (.int c_9), .val (.ref b11), .val (.ref b_65), .val (.int 1), .val (.int 0)] [])) _
          refine XS.aload X69.here hx rfl (hb hby at_198) rfl rfl ?_
          show Steps p.tables e below (T69.setTop (mkF m 200 #[.val (.int p0), .val (.int p1), .val (.int p2), .val (.int p3), .val (.int p4), .val (.int p5), .val (.int 5), .val (.int c_1), .val (.int c_3), .val (.int c_5), .val (.int c_7), .val (.int c_9), .val (.ref b11), .val (.ref b_65), .val (.int 1), .val (.int 0)] [(.ref b_65)])) _
          refine st73.trans ?_
          show Steps p.tables e below (T73.setTop (mkF m 203 #[.val (.int p0), .val (.int p1), .val (.int p2), .val (.int p3), .val (.int p4), .val (.int p5), .val (.int 5), .val (.int c_1), .val (.int c_3), .val (.int c_5), .val (.int c_7), .val (.int c_9), .val (.ref b11), .val (.ref b_65), .val (.int 1), .val (.int 0)] [(.int 1)])) _
          refine XS.iload X73.here hx rfl (hb hby at_203) rfl ?_
          refine XS.ifYes X73.here hx rfl (pc0 := 205) (pc' := 213) rfl (hb hby at_205) rfl ((if0 _ _).trans (feq (by decide : ¬ ((1 : Int32) = (0 : Int32)))).2) (by decide) (by decide) ?_
          refine XS.iconst X73.here hx rfl (hb hby at_213) ?_
          refine XS.goto X73.here hx rfl (pc0 := 214) (pc' := 218) rfl (hb hby at_214) (by decide) (by decide) ?_
          show Steps p.tables e below (T73.setTop (mkF m 218 #[.val (.int p0), .val (.int p1), .val (.int p2), .val (.int p3), .val (.int p4), .val (.int p5), .val (.int 5), .val (.int c_1), .val (.int c_3), .val (.int c_5), .val (.int c_7), .val (.int c_9), .val (.ref b11), .val (.ref b_65), .val (.int 1), .val (.int 0)] [(.int 1), (.int 1)])) _
          refine XS.icmpNo X73.here hx rfl (hb hby at_218) rfl (teq (by decide : (1 : Int32) = (1 : Int32))).2 ?_
          refine XS.iconst X73.here hx rfl (hb hby at_221) ?_
          refine XS.goto X73.here hx rfl (pc0 := 222) (pc' := 226) rfl (hb hby at_222) (by decide) (by decide) ?_
          show Steps p.tables e below (T73.setTop (mkF m 226 #[.val (.int p0), .val (.int p1), .val (.int p2), .val (.int p3), .val (.int p4), .val (.int p5), .val (.int 5), .val (.int c_1), .val (.int c_3), .val (.int c_5), .val (.int c_7), .val (.int c_9), .val (.ref b11), .val (.ref b_65), .val (.int 1), .val (.int 0)] [(.int 1)])) _
          exact retN X73 hx (t := .boolean) Bd.returns (by simp) (hb hby at_226) hr
        · show Q_rm0 n0 _ T73.heap _
          exact ⟨rfl, N73⟩
    · subst ev
      obtain ⟨v_75, T75, Lq75, X75, e75, N75, P75_0, st75⟩ := sg_jar5 cS p0 p1 p2 p3 p4 p5 (c_1) (c_3) (c_5) (c_7) (c_9) (b11) (b_65) (k11) ((0 : Int32)) X67 hx hZ hw hby hml hown e67 N67 O65 GL (V25.keep Kc65 nin0)
      have pre76 : ∀ t, Steps p.tables e below (T75.setTop (mkF m 198 #[.val (.int p0), .val (.int p1), .val (.int p2), .val (.int p3), .val (.int p4), .val (.int p5), .val (.int 5), .val (.int c_1), .val (.int c_3), .val (.int c_5), .val (.int c_7), .val (.int c_9), .val (.ref b11), .val (.ref b_65), .val (.int 0), .val (.int v_75)] [])) t → Steps p.tables e below (s₁.setTop (entryFrame m #[(.int p0), (.int p1), (.int p2), (.int p3), (.int p4), (.int p5)] maxLocals)) t := fun t kt => by
        refine pre68 t ?_
        show Steps p.tables e below (T67.setTop (mkF m 137 #[.val (.int p0), .val (.int p1), .val (.int p2), .val (.int p3), .val (.int p4), .val (.int p5), .val (.int 5), .val (.int c_1), .val (.int c_3), .val (.int c_5), .val (.int c_7), .val (.int c_9), .val (.ref b11), .val (.ref b_65), .val (.int 0), .unset] [])) _
        refine st75 _ ?_
        exact kt
      rcases P75_0 with ⟨ev, hA15⟩ | ⟨ev, hA15⟩
      · subst ev
        obtain ⟨_, _, ⟨T77, L77, k77, n77⟩, -, X77', hS77', hg77, ⟨Lc77, hQ77, l77, y77, z77, Rs77⟩, st77⟩ := callSS X75 hx (y := MN_12) hown (mvT hZ (Wd hw 30 rfl)) (mvT hZ (Wd hw 31 rfl)) (mvT hZ (Wd hw 32 rfl)) (mvT hZ (Wd hw 33 rfl)) (by decide) (backOfSH (W := 0) (rmIbFT l Z a0 hw [] cS (b_65) (bv_65) (kb_65) ((5 : Int32)) ([(.int (c_1.toInt8.toInt32)), (.int (c_3.toInt8.toInt32)), (.int (c_5.toInt8.toInt32)), (.int (c_7.toInt8.toInt32)), (.int (c_9.toInt8.toInt32))]) (c_5) (c_7) (c_9) (c_3) (c_5) (c_7) (c_9) (T65.heap) n0 O65 GL P65_0 P65_1 P65_2 P65_3 (by decide) rfl (by decide) (by decide) P5_0 P5_1 rfl (by decide) (by decide) P7_0 P7_1 rfl (by decide) (by decide) P9_0 P9_1 hA14 (by decide) rfl (by decide) (by decide) rfl (by decide) (by decide) rfl (by decide) (by decide) rfl (by decide) (by decide) hA15) hZ (Wd hw 33 rfl) (Wd hw 32 rfl) (by decide) (by decide) (own_EW hw) H_66) (g := (mkF m 200 #[.val (.int p0), .val (.int p1), .val (.int p2), .val (.int p3), .val (.int p4), .val (.int p5), .val (.int 5), .val (.int c_1), .val (.int c_3), .val (.int c_5), .val (.int c_7), .val (.int c_9), .val (.ref b11), .val (.ref b_65), .val (.int 0), .val (.int 1)] [(.ref b_65)])) rfl (by rw [hml]; rfl) (argsL := [(.ref b_65)]) (rest := []) (lenOf pdv9 rfl) rfl (by show 2 * 0 + _ ≤ _; exact Nat.le_of_eq rfl) (hb hby at_200) (fun _ _ => ⟨rfl, e75, (by decide : 9 + 4 ≤ _), (by decide : 59 + 36 ≤ _)⟩)
        dsimp only [Pt.U, Pt.locs, Pt.cells, Pt.slots] at X77' l77 y77 z77 st77 hQ77 hS77' hg77 Rs77
        subst l77 y77 z77
        obtain ⟨X77, hS77, hZ77, hown77⟩ := rebS hS0 (by rw [e75]; exact (Nat.le_trans (Nat.le_trans (Nat.le_trans (Nat.le_trans (Nat.le_trans (Nat.le_trans (Nat.le_trans (Nat.le_trans (Nat.le_trans (Nat.le_trans (Nat.le_trans (Nat.le_trans (Nat.le_refl _) Kc1.1) Kc3.1) Kc5.1) Kc7.1) Kc9.1) E11.1) (Keep.of_wr W13).1) (Keep.of_wr W16).1) (Keep.of_wr W19).1) (Keep.of_wr W22).1) (Keep.of_wr W25).1) Kc65.1)) X77' hS77' hg77 hZ hown
        obtain ⟨rfl, N77q, Kc77⟩ := hQ77
        have O77 := O65.keep Kc77 all0
        have H_78 := Rs77.1
        have R_78 := R_66.trans Rs77
        have N77 := Fr.app N75 N77q
        obtain ⟨fs, hr, hrun, hended, hRW⟩ := X77.leaveW hS77 (Nat.le_refl _) (v := some (.int 1)) (fun h => by rw [Bd.returns] at h; cases h)
        have hCR : CHr Z EL1 s.vm s.heap T77.vm T77.heap := by
          rw [hh]
          exact R_78.trans (CHv.at X77 hZ77 (own_EW hw) H_78)
        refine ⟨_, _, pre76 _ ?_, hrun, hended, _, _, rfl, ?_, hCR, hRW.1, hRW.2.1, hRW.2.2.1, hRW.2.2.2.mono (by decide) (by decide)⟩
        · show Steps p.tables e below (T75.setTop (mkF m 198 #[.val (.int p0), .val (.int p1), .val (.int p2), .val (.int p3), .val (.int p4), .val (.int p5), .val (.int 5), .val (.int c_1), .val (.int c_3), .val (.int c_5), .val (.int c_7), .val (.int c_9), .val (.ref b11), .val (.ref b_65), .val (.int 0), .val (.int 1)] [])) _
          refine XS.aload X75.here hx rfl (hb hby at_198) rfl rfl ?_
          show Steps p.tables e below (T75.setTop (mkF m 200 #[.val (.int p0), .val (.int p1), .val (.int p2), .val (.int p3), .val (.int p4), .val (.int p5), .val (.int 5), .val (.int c_1), .val (.int c_3), .val (.int c_5), .val (.int c_7), .val (.int c_9), .val (.ref b11), .val (.ref b_65), .val (.int 0), .val (.int 1)] [(.ref b_65)])) _
          refine st77.trans ?_
          show Steps p.tables e below (T77.setTop (mkF m 203 #[.val (.int p0), .val (.int p1), .val (.int p2), .val (.int p3), .val (.int p4), .val (.int p5), .val (.int 5), .val (.int c_1), .val (.int c_3), .val (.int c_5), .val (.int c_7), .val (.int c_9), .val (.ref b11), .val (.ref b_65), .val (.int 0), .val (.int 1)] [(.int 1)])) _
          refine XS.iload X77.here hx rfl (hb hby at_203) rfl ?_
          refine XS.ifNo X77.here hx rfl (hb hby at_205) rfl ((if0 _ _).trans (teq (by decide : (0 : Int32) = (0 : Int32))).2) ?_
          refine XS.iload X77.here hx rfl (hb hby at_208) rfl ?_
          refine XS.ifNo X77.here hx rfl (hb hby at_210) rfl ((if0 _ _).trans (feq (by decide : ¬ ((1 : Int32) = (0 : Int32)))).1) ?_
          show Steps p.tables e below (T77.setTop (mkF m 213 #[.val (.int p0), .val (.int p1), .val (.int p2), .val (.int p3), .val (.int p4), .val (.int p5), .val (.int 5), .val (.int c_1), .val (.int c_3), .val (.int c_5), .val (.int c_7), .val (.int c_9), .val (.ref b11), .val (.ref b_65), .val (.int 0), .val (.int 1)] [(.int 1)])) _
          refine XS.iconst X77.here hx rfl (hb hby at_213) ?_
          refine XS.goto X77.here hx rfl (pc0 := 214) (pc' := 218) rfl (hb hby at_214) (by decide) (by decide) ?_
          refine XS.icmpNo X77.here hx rfl (hb hby at_218) rfl (teq (by decide : (1 : Int32) = (1 : Int32))).2 ?_
          refine XS.iconst X77.here hx rfl (hb hby at_221) ?_
          show Steps p.tables e below (T77.setTop (mkF m 222 #[.val (.int p0), .val (.int p1), .val (.int p2), .val (.int p3), .val (.int p4), .val (.int p5), .val (.int 5), .val (.int c_1), .val (.int c_3), .val (.int c_5), .val (.int c_7), .val (.int c_9), .val (.ref b11), .val (.ref b_65), .val (.int 0), .val (.int 1)] [(.int 1)])) _
          refine XS.goto X77.here hx rfl (pc0 := 222) (pc' := 226) rfl (hb hby at_222) (by decide) (by decide) ?_
          show Steps p.tables e below (T77.setTop (mkF m 226 #[.val (.int p0), .val (.int p1), .val (.int p2), .val (.int p3), .val (.int p4), .val (.int p5), .val (.int 5), .val (.int c_1), .val (.int c_3), .val (.int c_5), .val (.int c_7), .val (.int c_9), .val (.ref b11), .val (.ref b_65), .val (.int 0), .val (.int 1)] [(.int 1)])) _
          exact retN X77 hx (t := .boolean) Bd.returns (by simp) (hb hby at_226) hr
        · show Q_rm0 n0 _ T77.heap _
          exact ⟨rfl, N77⟩
      · subst ev
        obtain ⟨_, _, ⟨T79, L79, k79, n79⟩, -, X79', hS79', hg79, ⟨Lc79, hQ79, l79, y79, z79, Rs79⟩, st79⟩ := callSS X75 hx (y := MN_12) hown (mvT hZ (Wd hw 30 rfl)) (mvT hZ (Wd hw 31 rfl)) (mvT hZ (Wd hw 32 rfl)) (mvT hZ (Wd hw 33 rfl)) (by decide) (backOfSH (W := 0) (rmIbFF l Z a0 hw [] cS (b_65) (bv_65) (kb_65) ((5 : Int32)) ([(.int (c_1.toInt8.toInt32)), (.int (c_3.toInt8.toInt32)), (.int (c_5.toInt8.toInt32)), (.int (c_7.toInt8.toInt32)), (.int (c_9.toInt8.toInt32))]) (c_5) (c_7) (c_9) (c_3) (c_5) (c_7) (c_9) (T65.heap) n0 O65 GL P65_0 P65_1 P65_2 P65_3 (by decide) rfl (by decide) (by decide) P5_0 P5_1 rfl (by decide) (by decide) P7_0 P7_1 rfl (by decide) (by decide) P9_0 P9_1 hA14 (by decide) rfl (by decide) (by decide) P3_0 P3_1 rfl (by decide) (by decide) P5_0 P5_1 rfl (by decide) (by decide) P7_0 P7_1 rfl (by decide) (by decide) P9_0 P9_1 hA15) hZ (Wd hw 33 rfl) (Wd hw 32 rfl) (by decide) (by decide) (own_EW hw) H_66) (g := (mkF m 200 #[.val (.int p0), .val (.int p1), .val (.int p2), .val (.int p3), .val (.int p4), .val (.int p5), .val (.int 5), .val (.int c_1), .val (.int c_3), .val (.int c_5), .val (.int c_7), .val (.int c_9), .val (.ref b11), .val (.ref b_65), .val (.int 0), .val (.int 0)] [(.ref b_65)])) rfl (by rw [hml]; rfl) (argsL := [(.ref b_65)]) (rest := []) (lenOf pdv9 rfl) rfl (by show 2 * 0 + _ ≤ _; exact Nat.le_of_eq rfl) (hb hby at_200) (fun _ _ => ⟨rfl, e75, (by decide : 9 + 4 ≤ _), (by decide : 59 + 36 ≤ _)⟩)
        dsimp only [Pt.U, Pt.locs, Pt.cells, Pt.slots] at X79' l79 y79 z79 st79 hQ79 hS79' hg79 Rs79
        subst l79 y79 z79
        obtain ⟨X79, hS79, hZ79, hown79⟩ := rebS hS0 (by rw [e75]; exact (Nat.le_trans (Nat.le_trans (Nat.le_trans (Nat.le_trans (Nat.le_trans (Nat.le_trans (Nat.le_trans (Nat.le_trans (Nat.le_trans (Nat.le_trans (Nat.le_trans (Nat.le_trans (Nat.le_refl _) Kc1.1) Kc3.1) Kc5.1) Kc7.1) Kc9.1) E11.1) (Keep.of_wr W13).1) (Keep.of_wr W16).1) (Keep.of_wr W19).1) (Keep.of_wr W22).1) (Keep.of_wr W25).1) Kc65.1)) X79' hS79' hg79 hZ hown
        obtain ⟨rfl, N79q, Kc79⟩ := hQ79
        have O79 := O65.keep Kc79 all0
        have H_80 := Rs79.1
        have R_80 := R_66.trans Rs79
        have N79 := Fr.app N75 N79q
        obtain ⟨fs, hr, hrun, hended, hRW⟩ := X79.leaveW hS79 (Nat.le_refl _) (v := some (.int 1)) (fun h => by rw [Bd.returns] at h; cases h)
        have hCR : CHr Z EL1 s.vm s.heap T79.vm T79.heap := by
          rw [hh]
          exact R_80.trans (CHv.at X79 hZ79 (own_EW hw) H_80)
        refine ⟨_, _, pre76 _ ?_, hrun, hended, _, _, rfl, ?_, hCR, hRW.1, hRW.2.1, hRW.2.2.1, hRW.2.2.2.mono (by decide) (by decide)⟩
        · show Steps p.tables e below (T75.setTop (mkF m 198 #[.val (.int p0), .val (.int p1), .val (.int p2), .val (.int p3), .val (.int p4), .val (.int p5), .val (.int 5), .val (.int c_1), .val (.int c_3), .val (.int c_5), .val (.int c_7), .val (.int c_9), .val (.ref b11), .val (.ref b_65), .val (.int 0), .val (.int 0)] [])) _
          refine XS.aload X75.here hx rfl (hb hby at_198) rfl rfl ?_
          show Steps p.tables e below (T75.setTop (mkF m 200 #[.val (.int p0), .val (.int p1), .val (.int p2), .val (.int p3), .val (.int p4), .val (.int p5), .val (.int 5), .val (.int c_1), .val (.int c_3), .val (.int c_5), .val (.int c_7), .val (.int c_9), .val (.ref b11), .val (.ref b_65), .val (.int 0), .val (.int 0)] [(.ref b_65)])) _
          refine st79.trans ?_
          show Steps p.tables e below (T79.setTop (mkF m 203 #[.val (.int p0), .val (.int p1), .val (.int p2), .val (.int p3), .val (.int p4), .val (.int p5), .val (.int 5), .val (.int c_1), .val (.int c_3), .val (.int c_5), .val (.int c_7), .val (.int c_9), .val (.ref b11), .val (.ref b_65), .val (.int 0), .val (.int 0)] [(.int 0)])) _
          refine XS.iload X79.here hx rfl (hb hby at_203) rfl ?_
          refine XS.ifNo X79.here hx rfl (hb hby at_205) rfl ((if0 _ _).trans (teq (by decide : (0 : Int32) = (0 : Int32))).2) ?_
          refine XS.iload X79.here hx rfl (hb hby at_208) rfl ?_
          refine XS.ifYes X79.here hx rfl (pc0 := 210) (pc' := 217) rfl (hb hby at_210) rfl ((if0 _ _).trans (teq (by decide : (0 : Int32) = (0 : Int32))).1) (by decide) (by decide) ?_
          show Steps p.tables e below (T79.setTop (mkF m 217 #[.val (.int p0), .val (.int p1), .val (.int p2), .val (.int p3), .val (.int p4), .val (.int p5), .val (.int 5), .val (.int c_1), .val (.int c_3), .val (.int c_5), .val (.int c_7), .val (.int c_9), .val (.ref b11), .val (.ref b_65), .val (.int 0), .val (.int 0)] [(.int 0)])) _
          refine XS.iconst X79.here hx rfl (hb hby at_217) ?_
          refine XS.icmpNo X79.here hx rfl (hb hby at_218) rfl (teq (by decide : (0 : Int32) = (0 : Int32))).2 ?_
          refine XS.iconst X79.here hx rfl (hb hby at_221) ?_
          refine XS.goto X79.here hx rfl (pc0 := 222) (pc' := 226) rfl (hb hby at_222) (by decide) (by decide) ?_
          show Steps p.tables e below (T79.setTop (mkF m 226 #[.val (.int p0), .val (.int p1), .val (.int p2), .val (.int p3), .val (.int p4), .val (.int p5), .val (.int 5), .val (.int c_1), .val (.int c_3), .val (.int c_5), .val (.int c_7), .val (.int c_9), .val (.ref b11), .val (.ref b_65), .val (.int 0), .val (.int 0)] [(.int 1)])) _
          exact retN X79 hx (t := .boolean) Bd.returns (by simp) (hb hby at_226) hr
        · show Q_rm0 n0 _ T79.heap _
          exact ⟨rfl, N79⟩
set_option maxRecDepth 65536 in
set_option maxHeartbeats 40000000 in
theorem comes_1 {Post : Tables → Env → Array Value → State → Outcome → State → Prop} (hpost : ∀ tb e args s v u, (limb_1_1.after args s (.returned v) u = true ∧ limb_1_2.after args s (.returned v) u = true ∧ True) → ReturnedEndW s (.returned v) u (Jvm.fieldLocs frame_1_writes args s ++ Jvm.arrayLocs frame_1_arrays args s ++ Jvm.staticLocs frame_1_statics s) 32 3328 → Post tb e args s (.returned v) u) :
    ArmFor flags0 classFile x code maxLocals ret World_1 tables_1 room_1 Calls_1 rest_1 Pre_1 Post := by
  intro l hfl _ _ p e ha hc hk s m args below hf hA hF happ hP
  obtain ⟨hcalls, hrest, hpre⟩ := hP
  obtain ⟨-, -, -, hnamed, -, -, -, hat⟩ := (Spec.applies_iff hf).mp happ
  obtain ⟨hg, hn⟩ := and_e (Cond.before_iff.mp (show (Jvm.Cond.and given_1 narrow_1).before args s = true from hpre))
  obtain ⟨gv_l0, gv_r0⟩ := and_e hg
  obtain ⟨gv_l2, gv_r2⟩ := and_e gv_r0
  obtain ⟨gv_l4, gv_r4⟩ := and_e gv_r2
  obtain ⟨gv_l6, gv_r6⟩ := and_e gv_r4
  obtain ⟨gv_l8, gv_r8⟩ := and_e gv_r6
  obtain ⟨gv_l10, gv_r10⟩ := and_e gv_r8
  obtain ⟨w0, w1, w2, w3, w4, w5, rfl⟩ : ∃ w0 w1 w2 w3 w4 w5 : Value, args = #[w0, w1, w2, w3, w4, w5] := by
    have hs : args.size = 6 := by simpa [Cond.value, given_1] using gv_l0
    obtain ⟨L⟩ := args
    match L, hs with
    | [w0, w1, w2, w3, w4, w5], _ => exact ⟨w0, w1, w2, w3, w4, w5, rfl⟩
  have hw := fun d (hd : d ∈ tables_1) => atoms_spec (ws := Jvm.Cond.code x code maxLocals ret :: tables_1) hat d (List.mem_cons_of_mem _ hd)
  have hfit : Fit s := fun {y c} hc i hi => by
    obtain ⟨ha, rfl⟩ := Array.getElem?_eq_some_iff.mp hc
    have q := List.all_eq_true.mp ((Array.all_eq_true_iff_forall_mem.mp hF) _ (Array.getElem_mem ha)) i (List.mem_range.mpr hi)
    simpa [Array.getElem?_eq_getElem hi] using q
  obtain ⟨hsets, hown0⟩ := atoms_of _ (rest_1_c_eq ▸ (show rest_1_c.before _ s = true from hrest))
  have hr0 := Cond.before_iff.mp hown0
  obtain ⟨i0, ei0⟩ := is_v gv_l2
  obtain rfl : w0 = (.int i0) := Option.some.inj ei0
  obtain ⟨i1, ei1⟩ := is_v gv_l4
  obtain rfl : w1 = (.int i1) := Option.some.inj ei1
  obtain ⟨i2, ei2⟩ := is_v gv_l6
  obtain rfl : w2 = (.int i2) := Option.some.inj ei2
  obtain ⟨i3, ei3⟩ := is_v gv_l8
  obtain rfl : w3 = (.int i3) := Option.some.inj ei3
  obtain ⟨i4, ei4⟩ := is_v gv_l10
  obtain rfl : w4 = (.int i4) := Option.some.inj ei4
  obtain ⟨i5, ei5⟩ := is_v gv_r10
  obtain rfl : w5 = (.int i5) := Option.some.inj ei5
  obtain ⟨cS, eCS⟩ := is_v (Cond.before_iff.mp (hsets _ (List.mem_of_getElem? (i := 1) rfl)))
  have SCS := Sta.start eCS (Or.inl (hsets _ (List.mem_of_getElem? (i := 0) rfl)))
  have PCS : ¬ (cS = (0 : Int32)) := gotF (Cond.eq_ints eCS (Term.int_eval (0 : Int32))) (not_v (Cond.before_iff.mp (hsets _ (List.mem_of_getElem? (i := 2) rfl))))
  have GL : GF s cS := ⟨SCS, PCS⟩
  have H0 : CHv s EL1 s.vm s.heap := CHv.start (own_EW hw) hcalls.1 (hsets _ (List.mem_of_getElem? (i := 2) rfl)) (Wd hw 23 rfl) (Wd hw 10 rfl)
  obtain ⟨n, o, h1, h2, h3, _, L, rfl, ⟨rfl, N⟩, -, hq⟩ := rm0 l s _ hw tables_1 cS i0 i1 i2 i3 i4 i5 s.heap s.heap.size (Old.start s) GL p e ha hc hk s m _ below hf ((Spec.applies_iff_loose hf).mp happ).1 ⟨rfl, State.Warmed39.refl s, rfl, H0⟩ trivial
  refine ⟨n, _, h1, h2, h3, hpost _ _ _ _ _ _ ⟨Cond.after_iff.mpr rfl, Cond.after_iff.mpr (eq_i res_at (Term.int_eval (1)) rfl), trivial⟩ ⟨hq.1, hq.2.1, hq.2.2.1, (hq.2.2.2.sift fun y hy => Or.inr (N y hy)).mono (by decide) (by decide)⟩⟩
theorem main_1_1 : Claimed_1_1 := comes_1 fun _ _ _ _ _ _ h hF => ⟨h.1, hF⟩
theorem main_1_2 : Claimed_1_2 := comes_1 fun _ _ _ _ _ _ h hF => ⟨h.2.1, hF⟩
end Jvm.Pilot.@@N@@
namespace Jvm.Pilot.@@N@@
open Jvm Jvm.ClassFile Sem Op Lib Jvm.Free Jvm.Stand Jvm.Pilot.@@N@@.Jvm.D
/-! MADE BY PROGRAM (witnessworld.py) out of the Statement's table words and the real class files: 22 classes; the members and pool entries that the words name. The judged class is class 1, her method 3. -/
namespace start1
open Jvm.ClassFile
def u (s : String) : CpInfo := .utf8 (stringToUtf16 s)
/-- a pool by its gaps: so many unusable entries, then the entry; so many at the end -/
def gap : Nat → List CpInfo → List CpInfo
  | 0, r => r
  | n + 1, r => .unusable :: gap n r
def poolList (es : List (Nat × CpInfo)) (last : Nat) : List CpInfo := es.foldr (fun e r => gap e.1 (e.2 :: r)) (gap last [])
def pool (es : List (Nat × CpInfo)) (last : Nat) : Array CpInfo := ⟨poolList es last⟩
def fileOf (pool : Array CpInfo) (this : Nat) (attrs : Array Attribute := #[]) (ms : Array MethodInfo := #[]) (fl : Nat := 33) (sup : Nat := 0) (ifs : Array Nat := #[]) (fds : Array FieldInfo := #[]) : ClassFile where
  minorVersion := 0
  majorVersion := 65
  constantPool := pool
  accessFlags := fl
  thisClass := this
  superClass := sup
  interfaces := ifs
  fields := fds
  methods := ms
  attributes := attrs
def plain (name : String) (sup : Option ClassId) : Class where
  name := name
  kind := .ordinary
  loader := none
  accessFlags := 33
  super := sup
  interfaces := #[]
  cf := none
  fields := #[]
  methods := #[]
  instanceTypes := #[]
  staticTypes := #[]
  resolved := #[]
  callSites := []
  init := .initialized
  statics := none
  mirror := none

def pool0 : Array CpInfo := pool [(5, u "<init>"), (0, u "()V"), (1, .class_ 10), (1, u "java/lang/Object")] 113

def k0c0 : Code := { maxStack := 0, maxLocals := 1, code := object_method_1_code, exceptionTable := #[], attributes := #[] }
def k0m0 : Method := { name := "<init>", desc := "()V", sig := { parameters := [], returnType := none }, accessFlags := 1, code := some k0c0 }
/-- java/lang/Object -/
def k0 : Class := { plain "java/lang/Object" none with
  accessFlags := 33
  interfaces := #[]
  cf := some (fileOf pool0 8 #[] #[{ accessFlags := 1, nameIndex := 5, descriptorIndex := 6, attributes := #[] }] 33 0 #[] #[])
  fields := #[]
  methods := #[k0m0]
  instanceTypes := #[]
  staticTypes := #[]
  resolved := Array.replicate 124 none
  statics := none }

def pool1 : Array CpInfo := pool [(2, .class_ 4), (1, u "java/lang/Object"), (0, u "<init>"), (0, u "()V"), (0, .class_ 8), (0, u "java/lang/String"), (0, .methodref 7 10), (0, .nameAndType 5 11), (0, u "([C)V"), (0, .integer 2147483647), (0, .methodref 14 15), (0, .class_ 16), (0, .nameAndType 17 18), (0, u "com/example/loomwire/loomwire/bundle/BundleContentIsBundleFilePinLaw"), (0, u "draw"), (0, u "(I)C"), (0, .methodref 14 20), (0, .nameAndType 21 22), (0, u "make"), (0, u "(ICCCCC)Ljava/lang/String;"), (0, .methodref 24 25), (0, .class_ 26), (0, .nameAndType 27 28), (0, u "com/example/loomwire/loomwire/bundle/BundleContent"), (0, u "isBundleFile"), (0, u "(Ljava/lang/String;)Z"), (3, u "law"), (0, u "(IIIIII)Z")] 4

def k1m0 : Method := { name := "<init>", desc := "()V", sig := { parameters := [], returnType := none }, accessFlags := 2, code := none }
def k1c1 : Code := { maxStack := 4, maxLocals := 2, code := method_2_code, exceptionTable := #[], attributes := #[] }
def k1m1 : Method := { name := "draw", desc := "(I)C", sig := { parameters := [.int], returnType := some .char }, accessFlags := 10, code := some k1c1 }
def k1c2 : Code := { maxStack := 6, maxLocals := 6, code := method_3_code, exceptionTable := #[], attributes := #[] }
def k1m2 : Method := { name := "make", desc := "(ICCCCC)Ljava/lang/String;", sig := { parameters := [.int, .char, .char, .char, .char, .char], returnType := some (.object "java/lang/String") }, accessFlags := 10, code := some k1c2 }
def k1c3 : Code := { maxStack := 6, maxLocals := 16, code := code, exceptionTable := #[], attributes := #[] }
def k1m3 : Method := { name := "law", desc := "(IIIIII)Z", sig := { parameters := [.int, .int, .int, .int, .int, .int], returnType := some .boolean }, accessFlags := 9, code := some k1c3 }
/-- com/example/loomwire/loomwire/bundle/BundleContentIsBundleFilePinLaw -/
def k1 : Class := { plain "com/example/loomwire/loomwire/bundle/BundleContentIsBundleFilePinLaw" (some 0) with
  accessFlags := 49
  interfaces := #[]
  cf := some (fileOf pool1 14 #[] #[{ accessFlags := 2, nameIndex := 5, descriptorIndex := 6, attributes := #[] }, { accessFlags := 10, nameIndex := 17, descriptorIndex := 18, attributes := #[] }, { accessFlags := 10, nameIndex := 21, descriptorIndex := 22, attributes := #[] }, { accessFlags := 9, nameIndex := 32, descriptorIndex := 33, attributes := #[] }] 49 2 #[] #[])
  fields := #[]
  methods := #[k1m0, k1m1, k1m2, k1m3]
  instanceTypes := #[]
  staticTypes := #[]
  resolved := Array.replicate 38 none
  statics := none }

def pool2 : Array CpInfo := pool [(1, .class_ 2), (0, u "java/io/Serializable"), (0, .class_ 4), (0, u "java/lang/Object")] 2

/-- java/io/Serializable -/
def k2 : Class := { plain "java/io/Serializable" (some 0) with
  accessFlags := 1537
  interfaces := #[]
  cf := some (fileOf pool2 1 #[] #[] 1537 3 #[] #[])
  fields := #[]
  methods := #[]
  instanceTypes := #[]
  staticTypes := #[]
  resolved := Array.replicate 7 none
  statics := none }

def pool3 : Array CpInfo := pool [(1, .class_ 2), (0, u "java/lang/Comparable"), (0, .class_ 4), (0, u "java/lang/Object")] 7

/-- java/lang/Comparable -/
def k3 : Class := { plain "java/lang/Comparable" (some 0) with
  accessFlags := 1537
  interfaces := #[]
  cf := some (fileOf pool3 1 #[] #[] 1537 3 #[] #[])
  fields := #[]
  methods := #[]
  instanceTypes := #[]
  staticTypes := #[]
  resolved := Array.replicate 12 none
  statics := none }

def pool4 : Array CpInfo := pool [(2, .class_ 4), (1, u "java/lang/CharSequence"), (42, .class_ 48), (0, u "java/lang/CharSequence$1CodePointIterator"), (10, .class_ 60), (0, u "java/lang/CharSequence$1CharIterator"), (5, .class_ 67), (0, u "java/lang/Object")] 63

/-- java/lang/CharSequence -/
def k4 : Class := { plain "java/lang/CharSequence" (some 0) with
  accessFlags := 1537
  interfaces := #[]
  cf := some (fileOf pool4 2 #[.nestMembers #[47, 59]] #[] 1537 66 #[] #[])
  fields := #[]
  methods := #[]
  instanceTypes := #[]
  staticTypes := #[]
  resolved := Array.replicate 131 none
  statics := none }

def pool5 : Array CpInfo := pool [(1, .class_ 2), (0, u "java/lang/constant/Constable"), (0, .class_ 4), (0, u "java/lang/Object")] 6

/-- java/lang/constant/Constable -/
def k5 : Class := { plain "java/lang/constant/Constable" (some 0) with
  accessFlags := 1537
  interfaces := #[]
  cf := some (fileOf pool5 1 #[] #[] 1537 3 #[] #[])
  fields := #[]
  methods := #[]
  instanceTypes := #[]
  staticTypes := #[]
  resolved := Array.replicate 11 none
  statics := none }

def pool6 : Array CpInfo := pool [(1, .class_ 2), (0, u "java/lang/constant/ConstantDesc"), (0, .class_ 4), (0, u "java/lang/Object")] 32

/-- java/lang/constant/ConstantDesc -/
def k6 : Class := { plain "java/lang/constant/ConstantDesc" (some 0) with
  accessFlags := 1537
  interfaces := #[]
  cf := some (fileOf pool6 1 #[] #[] 1537 3 #[] #[])
  fields := #[]
  methods := #[]
  instanceTypes := #[]
  staticTypes := #[]
  resolved := Array.replicate 37 none
  statics := none }

def pool7 : Array CpInfo := pool [(1, .methodref 2 3), (0, .class_ 4), (0, .nameAndType 5 6), (0, u "java/lang/Object"), (0, u "<init>"), (0, u "()V"), (0, .string 8), (0, u ""), (0, .fieldref 10 11), (0, .class_ 12), (0, .nameAndType 13 14), (0, u "java/lang/String"), (0, u "value"), (0, u "[B"), (0, .fieldref 10 16), (0, .nameAndType 17 18), (0, u "coder"), (0, u "B"), (2, u "hash"), (0, u "I"), (2, u "hashIsZero"), (0, u "Z"), (0, .methodref 10 28), (0, .nameAndType 5 29), (0, u "([CIILjava/lang/Void;)V"), (8, .fieldref 10 39), (0, .nameAndType 40 26), (0, u "COMPACT_STRINGS"), (1, .class_ 44), (1, u "java/lang/StringUTF16"), (0, u "compress"), (1, .methodref 42 48), (0, .nameAndType 49 50), (0, u "coderFromArrayLen"), (0, u "([BI)B"), (126, .methodref 42 178), (0, .nameAndType 45 179), (0, u "([CII)[B"), (154, u "()I"), (0, .methodref 10 336), (0, .nameAndType 17 337), (0, u "()B"), (38, u "([BI[BII)I"), (128, .methodref 10 506), (0, .nameAndType 507 334), (0, u "length"), (51, .class_ 561), (1, u "jdk/internal/util/ArraysSupport"), (0, u "mismatch"), (12, .class_ 576), (0, u "java/lang/CharSequence"), (22, u "CASE_INSENSITIVE_ORDER"), (0, u "Ljava/util/Comparator;"), (6, .methodref 559 608), (0, .nameAndType 562 376), (15, .methodref 10 625), (0, .nameAndType 626 627), (0, u "startsWith"), (0, u "(Ljava/lang/String;I)Z"), (382, u "([C)V"), (90, u "serialPersistentFields"), (0, u "[Ljava/io/ObjectStreamField;"), (0, .class_ 1104), (0, u "java/lang/String$CaseInsensitiveComparator"), (1, .class_ 1107), (0, u "java/io/Serializable"), (0, .class_ 1109), (0, u "java/lang/Comparable"), (0, .class_ 1111), (0, u "java/lang/constant/Constable"), (0, .class_ 1113), (0, u "java/lang/constant/ConstantDesc"), (2, u "serialVersionUID"), (0, u "J"), (3, u "REPL"), (0, u "C"), (2, u "LATIN1"), (1, u "UTF16"), (129, u "(Ljava/lang/String;)Z"), (14, u "endsWith")] 178

def k7m0 : Method := { name := "<init>", desc := "()V", sig := { parameters := [], returnType := none }, accessFlags := 1, code := none }
def k7c1 : Code := { maxStack := 5, maxLocals := 2, code := jdk_42_method_3_code, exceptionTable := #[], attributes := #[] }
def k7m1 : Method := { name := "<init>", desc := "([C)V", sig := { parameters := [(.array .char)], returnType := none }, accessFlags := 1, code := some k7c1 }
def k7c2 : Code := { maxStack := 2, maxLocals := 1, code := jdk_42_method_54_code, exceptionTable := #[], attributes := #[] }
def k7m2 : Method := { name := "length", desc := "()I", sig := { parameters := [], returnType := some .int }, accessFlags := 1, code := some k7c2 }
def k7c3 : Code := { maxStack := 5, maxLocals := 8, code := jdk_42_method_75_code, exceptionTable := #[], attributes := #[] }
def k7m3 : Method := { name := "startsWith", desc := "(Ljava/lang/String;I)Z", sig := { parameters := [(.object "java/lang/String"), .int], returnType := some .boolean }, accessFlags := 1, code := some k7c3 }
def k7c4 : Code := { maxStack := 4, maxLocals := 2, code := jdk_42_method_77_code, exceptionTable := #[], attributes := #[] }
def k7m4 : Method := { name := "endsWith", desc := "(Ljava/lang/String;)Z", sig := { parameters := [(.object "java/lang/String")], returnType := some .boolean }, accessFlags := 1, code := some k7c4 }
def k7c5 : Code := { maxStack := 4, maxLocals := 6, code := jdk_42_method_149_code, exceptionTable := #[], attributes := #[] }
def k7m5 : Method := { name := "<init>", desc := "([CIILjava/lang/Void;)V", sig := { parameters := [(.array .char), .int, .int, (.object "java/lang/Void")], returnType := none }, accessFlags := 2, code := some k7c5 }
def k7c6 : Code := { maxStack := 1, maxLocals := 1, code := jdk_42_method_152_code, exceptionTable := #[], attributes := #[] }
def k7m6 : Method := { name := "coder", desc := "()B", sig := { parameters := [], returnType := some .byte }, accessFlags := 0, code := some k7c6 }
/-- java/lang/String -/
def k7 : Class := { plain "java/lang/String" (some 0) with
  accessFlags := 49
  interfaces := #[2, 3, 4, 5, 6]
  cf := some (fileOf pool7 10 #[.nestMembers #[1103]] #[{ accessFlags := 1, nameIndex := 5, descriptorIndex := 6, attributes := #[] }, { accessFlags := 1, nameIndex := 5, descriptorIndex := 1010, attributes := #[] }, { accessFlags := 1, nameIndex := 507, descriptorIndex := 334, attributes := #[] }, { accessFlags := 1, nameIndex := 626, descriptorIndex := 627, attributes := #[] }, { accessFlags := 1, nameIndex := 1272, descriptorIndex := 1257, attributes := #[] }, { accessFlags := 2, nameIndex := 5, descriptorIndex := 29, attributes := #[] }, { accessFlags := 0, nameIndex := 17, descriptorIndex := 337, attributes := #[] }] 49 2 #[1106, 1108, 575, 1110, 1112] #[{ accessFlags := 18, nameIndex := 13, descriptorIndex := 14, attributes := #[] }, { accessFlags := 18, nameIndex := 17, descriptorIndex := 18, attributes := #[] }, { accessFlags := 2, nameIndex := 21, descriptorIndex := 22, attributes := #[] }, { accessFlags := 2, nameIndex := 25, descriptorIndex := 26, attributes := #[] }, { accessFlags := 26, nameIndex := 1116, descriptorIndex := 1117, attributes := #[] }, { accessFlags := 24, nameIndex := 40, descriptorIndex := 26, attributes := #[] }, { accessFlags := 26, nameIndex := 1101, descriptorIndex := 1102, attributes := #[] }, { accessFlags := 26, nameIndex := 1121, descriptorIndex := 1122, attributes := #[] }, { accessFlags := 25, nameIndex := 599, descriptorIndex := 600, attributes := #[] }, { accessFlags := 24, nameIndex := 1125, descriptorIndex := 18, attributes := #[] }, { accessFlags := 24, nameIndex := 1127, descriptorIndex := 18, attributes := #[] }])
  fields := #[{ name := "value", type := (.array .byte), accessFlags := 18, slot := 0, constantValue := 0 }, { name := "coder", type := .byte, accessFlags := 18, slot := 1, constantValue := 0 }, { name := "hash", type := .int, accessFlags := 2, slot := 2, constantValue := 0 }, { name := "hashIsZero", type := .boolean, accessFlags := 2, slot := 3, constantValue := 0 }, { name := "serialVersionUID", type := .long, accessFlags := 26, slot := 0, constantValue := 0 }, { name := "COMPACT_STRINGS", type := .boolean, accessFlags := 24, slot := 1, constantValue := 0 }, { name := "serialPersistentFields", type := (.array (.object "java/io/ObjectStreamField")), accessFlags := 26, slot := 2, constantValue := 0 }, { name := "REPL", type := .char, accessFlags := 26, slot := 3, constantValue := 0 }, { name := "CASE_INSENSITIVE_ORDER", type := (.object "java/util/Comparator"), accessFlags := 25, slot := 4, constantValue := 0 }, { name := "LATIN1", type := .byte, accessFlags := 24, slot := 5, constantValue := 0 }, { name := "UTF16", type := .byte, accessFlags := 24, slot := 6, constantValue := 0 }]
  methods := #[k7m0, k7m1, k7m2, k7m3, k7m4, k7m5, k7m6]
  instanceTypes := #[(.array .byte), .byte, .int, .boolean]
  staticTypes := #[.long, .boolean, (.array (.object "java/io/ObjectStreamField")), .char, (.object "java/util/Comparator"), .byte, .byte]
  resolved := Array.replicate 1451 none
  statics := some 0 }

def pool8 : Array CpInfo := pool [(1, .class_ 2), (0, u "java/lang/AutoCloseable"), (0, .class_ 4), (0, u "java/lang/Object")] 7

/-- java/lang/AutoCloseable -/
def k8 : Class := { plain "java/lang/AutoCloseable" (some 0) with
  accessFlags := 1537
  interfaces := #[]
  cf := some (fileOf pool8 1 #[] #[] 1537 3 #[] #[])
  fields := #[]
  methods := #[]
  instanceTypes := #[]
  staticTypes := #[]
  resolved := Array.replicate 12 none
  statics := none }

def pool9 : Array CpInfo := pool [(1, .class_ 2), (0, u "java/io/Closeable"), (0, .class_ 4), (0, u "java/lang/Object"), (0, .class_ 6), (0, u "java/lang/AutoCloseable")] 7

/-- java/io/Closeable -/
def k9 : Class := { plain "java/io/Closeable" (some 0) with
  accessFlags := 1537
  interfaces := #[8]
  cf := some (fileOf pool9 1 #[] #[] 1537 3 #[5] #[])
  fields := #[]
  methods := #[]
  instanceTypes := #[]
  staticTypes := #[]
  resolved := Array.replicate 14 none
  statics := none }

def pool10 : Array CpInfo := pool [(2, .class_ 4), (1, u "java/lang/Object"), (0, u "<init>"), (0, u "()V"), (14, .class_ 22), (0, u "com/example/loomwire/loomwire/bundle/BundleContent$Folder"), (3, .class_ 27), (0, u "com/example/loomwire/loomwire/bundle/BundleContent"), (0, .string 29), (0, u ".mf"), (0, .methodref 31 32), (0, .class_ 33), (0, .nameAndType 34 35), (0, u "java/lang/String"), (0, u "endsWith"), (0, u "(Ljava/lang/String;)Z"), (0, .class_ 37), (0, u "com/example/loomwire/loomwire/bundle/BundleContent$ManifestOnly"), (1, .string 40), (0, u ".jar"), (0, .class_ 42), (0, u "com/example/loomwire/loomwire/bundle/BundleContent$Jar"), (56, .class_ 100), (0, u "java/io/Closeable"), (0, u "MANIFEST_ONLY_SUFFIX"), (0, u "Ljava/lang/String;"), (1, u "JAR_SUFFIX"), (0, u "MANIFEST_ENTRY"), (16, u "isBundleFile")] 20

def k10m0 : Method := { name := "<init>", desc := "()V", sig := { parameters := [], returnType := none }, accessFlags := 2, code := none }
def k10c1 : Code := { maxStack := 2, maxLocals := 1, code := prog_1_method_4_code, exceptionTable := #[], attributes := #[] }
def k10m1 : Method := { name := "isBundleFile", desc := "(Ljava/lang/String;)Z", sig := { parameters := [(.object "java/lang/String")], returnType := some .boolean }, accessFlags := 8, code := some k10c1 }
/-- com/example/loomwire/loomwire/bundle/BundleContent -/
def k10 : Class := { plain "com/example/loomwire/loomwire/bundle/BundleContent" (some 0) with
  accessFlags := 1057
  interfaces := #[9]
  cf := some (fileOf pool10 26 #[.nestMembers #[36, 41, 21]] #[{ accessFlags := 2, nameIndex := 5, descriptorIndex := 6, attributes := #[] }, { accessFlags := 8, nameIndex := 122, descriptorIndex := 35, attributes := #[] }] 1057 2 #[99] #[{ accessFlags := 26, nameIndex := 101, descriptorIndex := 102, attributes := #[] }, { accessFlags := 26, nameIndex := 104, descriptorIndex := 102, attributes := #[] }, { accessFlags := 24, nameIndex := 105, descriptorIndex := 102, attributes := #[] }])
  fields := #[{ name := "MANIFEST_ONLY_SUFFIX", type := (.object "java/lang/String"), accessFlags := 26, slot := 0, constantValue := 0 }, { name := "JAR_SUFFIX", type := (.object "java/lang/String"), accessFlags := 26, slot := 1, constantValue := 0 }, { name := "MANIFEST_ENTRY", type := (.object "java/lang/String"), accessFlags := 24, slot := 2, constantValue := 0 }]
  methods := #[k10m0, k10m1]
  instanceTypes := #[]
  staticTypes := #[(.object "java/lang/String"), (.object "java/lang/String"), (.object "java/lang/String")]
  resolved := Array.replicate 143 none
  statics := none }

def pool11 : Array CpInfo := pool [(6, .class_ 8), (1, u "java/lang/Object"), (0, u "<init>"), (0, u "()V"), (1, .class_ 14), (1, u "java/lang/StringUTF16"), (31, u "$assertionsDisabled"), (0, u "Z"), (13, u "HI_BYTE_SHIFT"), (0, u "I"), (2, u "LO_BYTE_SHIFT"), (49, .methodref 12 116), (0, .nameAndType 117 118), (0, u "compress"), (0, u "([CI[BII)I"), (3, u "([CII)[B"), (138, u "coderFromArrayLen"), (0, u "([BI)B"), (106, .class_ 371), (1, u "java/lang/StringUTF16$LinesSpliterator"), (58, u "MAX_LENGTH"), (196, .class_ 628), (0, u "java/lang/StringUTF16$CodePointsSpliterator"), (0, .class_ 630), (0, u "java/lang/StringUTF16$CharsSpliterator")] 4

def k11m0 : Method := { name := "<init>", desc := "()V", sig := { parameters := [], returnType := none }, accessFlags := 0, code := none }
def k11c1 : Code := { maxStack := 2, maxLocals := 2, code := jdk_52_method_15_code, exceptionTable := #[], attributes := #[] }
def k11m1 : Method := { name := "coderFromArrayLen", desc := "([BI)B", sig := { parameters := [(.array .byte), .int], returnType := some .byte }, accessFlags := 8, code := some k11c1 }
def k11c2 : Code := { maxStack := 5, maxLocals := 6, code := jdk_52_method_16_code, exceptionTable := #[], attributes := #[] }
def k11m2 : Method := { name := "compress", desc := "([CII)[B", sig := { parameters := [(.array .char), .int, .int], returnType := some (.array .byte) }, accessFlags := 9, code := some k11c2 }
def k11c3 : Code := { maxStack := 3, maxLocals := 7, code := jdk_52_method_21_code, exceptionTable := #[], attributes := #[] }
def k11m3 : Method := { name := "compress", desc := "([CI[BII)I", sig := { parameters := [(.array .char), .int, (.array .byte), .int, .int], returnType := some .int }, accessFlags := 9, code := some k11c3 }
/-- java/lang/StringUTF16 -/
def k11 : Class := { plain "java/lang/StringUTF16" (some 0) with
  accessFlags := 48
  interfaces := #[]
  cf := some (fileOf pool11 12 #[.nestMembers #[627, 629, 369]] #[{ accessFlags := 0, nameIndex := 9, descriptorIndex := 10, attributes := #[] }, { accessFlags := 8, nameIndex := 261, descriptorIndex := 262, attributes := #[] }, { accessFlags := 9, nameIndex := 117, descriptorIndex := 122, attributes := #[] }, { accessFlags := 9, nameIndex := 117, descriptorIndex := 118, attributes := #[] }] 48 6 #[] #[{ accessFlags := 26, nameIndex := 61, descriptorIndex := 62, attributes := #[] }, { accessFlags := 26, nameIndex := 65, descriptorIndex := 62, attributes := #[] }, { accessFlags := 24, nameIndex := 430, descriptorIndex := 62, attributes := #[] }, { accessFlags := 4120, nameIndex := 46, descriptorIndex := 47, attributes := #[] }])
  fields := #[{ name := "HI_BYTE_SHIFT", type := .int, accessFlags := 26, slot := 0, constantValue := 0 }, { name := "LO_BYTE_SHIFT", type := .int, accessFlags := 26, slot := 1, constantValue := 0 }, { name := "MAX_LENGTH", type := .int, accessFlags := 24, slot := 2, constantValue := 0 }, { name := "$assertionsDisabled", type := .boolean, accessFlags := 4120, slot := 3, constantValue := 0 }]
  methods := #[k11m0, k11m1, k11m2, k11m3]
  instanceTypes := #[]
  staticTypes := #[.int, .int, .int, .boolean]
  resolved := Array.replicate 635 none
  statics := none }

def pool12 : Array CpInfo := pool [(9, u "<init>"), (6, .class_ 18), (1, u "java/lang/Object"), (0, u "()V"), (1, .class_ 23), (1, u "jdk/internal/util/ArraysSupport"), (0, u "LOG2_ARRAY_LONG_INDEX_SCALE"), (0, u "I"), (2, u "U"), (0, u "Ljdk/internal/misc/Unsafe;"), (8, u "BIG_ENDIAN"), (0, u "Z"), (8, u "LOG2_BYTE_BIT_SIZE"), (4, u "LOG2_ARRAY_INT_INDEX_SCALE"), (54, u "JLA"), (0, u "Ljdk/internal/access/JavaLangAccess;"), (11, u "LOG2_ARRAY_BOOLEAN_INDEX_SCALE"), (9, u "LOG2_ARRAY_BYTE_INDEX_SCALE"), (5, u "LOG2_ARRAY_CHAR_INDEX_SCALE"), (5, u "LOG2_ARRAY_SHORT_INDEX_SCALE"), (5, u "mismatch"), (12, u "LOG2_ARRAY_FLOAT_INDEX_SCALE"), (24, u "LOG2_ARRAY_DOUBLE_INDEX_SCALE"), (89, u "T_BOOLEAN"), (2, u "T_CHAR"), (1, u "T_FLOAT"), (1, u "T_DOUBLE"), (1, u "T_BYTE"), (1, u "T_SHORT"), (1, u "T_INT"), (1, u "T_LONG"), (1, u "SOFT_MAX_ARRAY_LENGTH"), (42, u "([BI[BII)I")] 40

def k12m0 : Method := { name := "<init>", desc := "()V", sig := { parameters := [], returnType := none }, accessFlags := 2, code := none }
def k12c1 : Code := { maxStack := 8, maxLocals := 8, code := jdk_48_method_14_code, exceptionTable := #[], attributes := #[] }
def k12m1 : Method := { name := "mismatch", desc := "([BI[BII)I", sig := { parameters := [(.array .byte), .int, (.array .byte), .int, .int], returnType := some .int }, accessFlags := 9, code := some k12c1 }
/-- jdk/internal/util/ArraysSupport -/
def k12 : Class := { plain "jdk/internal/util/ArraysSupport" (some 0) with
  accessFlags := 33
  interfaces := #[]
  cf := some (fileOf pool12 21 #[] #[{ accessFlags := 2, nameIndex := 9, descriptorIndex := 19, attributes := #[] }, { accessFlags := 9, nameIndex := 149, descriptorIndex := 337, attributes := #[] }] 33 16 #[] #[{ accessFlags := 24, nameIndex := 28, descriptorIndex := 29, attributes := #[] }, { accessFlags := 26, nameIndex := 38, descriptorIndex := 39, attributes := #[] }, { accessFlags := 25, nameIndex := 121, descriptorIndex := 25, attributes := #[] }, { accessFlags := 25, nameIndex := 131, descriptorIndex := 25, attributes := #[] }, { accessFlags := 25, nameIndex := 137, descriptorIndex := 25, attributes := #[] }, { accessFlags := 25, nameIndex := 143, descriptorIndex := 25, attributes := #[] }, { accessFlags := 25, nameIndex := 53, descriptorIndex := 25, attributes := #[] }, { accessFlags := 25, nameIndex := 24, descriptorIndex := 25, attributes := #[] }, { accessFlags := 25, nameIndex := 162, descriptorIndex := 25, attributes := #[] }, { accessFlags := 25, nameIndex := 187, descriptorIndex := 25, attributes := #[] }, { accessFlags := 26, nameIndex := 48, descriptorIndex := 25, attributes := #[] }, { accessFlags := 25, nameIndex := 277, descriptorIndex := 25, attributes := #[] }, { accessFlags := 25, nameIndex := 280, descriptorIndex := 25, attributes := #[] }, { accessFlags := 25, nameIndex := 282, descriptorIndex := 25, attributes := #[] }, { accessFlags := 25, nameIndex := 284, descriptorIndex := 25, attributes := #[] }, { accessFlags := 25, nameIndex := 286, descriptorIndex := 25, attributes := #[] }, { accessFlags := 25, nameIndex := 288, descriptorIndex := 25, attributes := #[] }, { accessFlags := 25, nameIndex := 290, descriptorIndex := 25, attributes := #[] }, { accessFlags := 25, nameIndex := 292, descriptorIndex := 25, attributes := #[] }, { accessFlags := 26, nameIndex := 108, descriptorIndex := 109, attributes := #[] }, { accessFlags := 25, nameIndex := 294, descriptorIndex := 25, attributes := #[] }])
  fields := #[{ name := "U", type := (.object "jdk/internal/misc/Unsafe"), accessFlags := 24, slot := 0, constantValue := 0 }, { name := "BIG_ENDIAN", type := .boolean, accessFlags := 26, slot := 1, constantValue := 0 }, { name := "LOG2_ARRAY_BOOLEAN_INDEX_SCALE", type := .int, accessFlags := 25, slot := 2, constantValue := 0 }, { name := "LOG2_ARRAY_BYTE_INDEX_SCALE", type := .int, accessFlags := 25, slot := 3, constantValue := 0 }, { name := "LOG2_ARRAY_CHAR_INDEX_SCALE", type := .int, accessFlags := 25, slot := 4, constantValue := 0 }, { name := "LOG2_ARRAY_SHORT_INDEX_SCALE", type := .int, accessFlags := 25, slot := 5, constantValue := 0 }, { name := "LOG2_ARRAY_INT_INDEX_SCALE", type := .int, accessFlags := 25, slot := 6, constantValue := 0 }, { name := "LOG2_ARRAY_LONG_INDEX_SCALE", type := .int, accessFlags := 25, slot := 7, constantValue := 0 }, { name := "LOG2_ARRAY_FLOAT_INDEX_SCALE", type := .int, accessFlags := 25, slot := 8, constantValue := 0 }, { name := "LOG2_ARRAY_DOUBLE_INDEX_SCALE", type := .int, accessFlags := 25, slot := 9, constantValue := 0 }, { name := "LOG2_BYTE_BIT_SIZE", type := .int, accessFlags := 26, slot := 10, constantValue := 0 }, { name := "T_BOOLEAN", type := .int, accessFlags := 25, slot := 11, constantValue := 0 }, { name := "T_CHAR", type := .int, accessFlags := 25, slot := 12, constantValue := 0 }, { name := "T_FLOAT", type := .int, accessFlags := 25, slot := 13, constantValue := 0 }, { name := "T_DOUBLE", type := .int, accessFlags := 25, slot := 14, constantValue := 0 }, { name := "T_BYTE", type := .int, accessFlags := 25, slot := 15, constantValue := 0 }, { name := "T_SHORT", type := .int, accessFlags := 25, slot := 16, constantValue := 0 }, { name := "T_INT", type := .int, accessFlags := 25, slot := 17, constantValue := 0 }, { name := "T_LONG", type := .int, accessFlags := 25, slot := 18, constantValue := 0 }, { name := "JLA", type := (.object "jdk/internal/access/JavaLangAccess"), accessFlags := 26, slot := 19, constantValue := 0 }, { name := "SOFT_MAX_ARRAY_LENGTH", type := .int, accessFlags := 25, slot := 20, constantValue := 0 }]
  methods := #[k12m0, k12m1]
  instanceTypes := #[]
  staticTypes := #[(.object "jdk/internal/misc/Unsafe"), .boolean, .int, .int, .int, .int, .int, .int, .int, .int, .int, .int, .int, .int, .int, .int, .int, .int, .int, (.object "jdk/internal/access/JavaLangAccess"), .int]
  resolved := Array.replicate 378 none
  statics := none }

def pool13 : Array CpInfo := pool [(4, .class_ 6), (1, u "java/lang/Object"), (0, u "<init>"), (0, u "()V"), (5, .class_ 16), (1, u "java/lang/StringLatin1"), (104, u "$assertionsDisabled"), (0, u "Z"), (98, .class_ 223), (1, u "java/lang/StringLatin1$LinesSpliterator"), (166, .class_ 391), (0, u "java/lang/StringLatin1$CharsSpliterator")] 3

def k13m0 : Method := { name := "<init>", desc := "()V", sig := { parameters := [], returnType := none }, accessFlags := 0, code := none }
/-- java/lang/StringLatin1 -/
def k13 : Class := { plain "java/lang/StringLatin1" (some 0) with
  accessFlags := 48
  interfaces := #[]
  cf := some (fileOf pool13 14 #[.nestMembers #[390, 221]] #[{ accessFlags := 0, nameIndex := 7, descriptorIndex := 8, attributes := #[] }] 48 4 #[] #[{ accessFlags := 4120, nameIndex := 121, descriptorIndex := 122, attributes := #[] }])
  fields := #[{ name := "$assertionsDisabled", type := .boolean, accessFlags := 4120, slot := 0, constantValue := 0 }]
  methods := #[k13m0]
  instanceTypes := #[]
  staticTypes := #[.boolean]
  resolved := Array.replicate 395 none
  statics := none }

def pool14 : Array CpInfo := pool [(2, .class_ 4), (1, u "java/lang/Object"), (0, u "<init>"), (0, u "()V"), (17, .class_ 26), (1, u "jdk/internal/util/Preconditions"), (28, .class_ 56), (0, u "jdk/internal/util/Preconditions$4"), (57, .class_ 115), (0, u "jdk/internal/util/Preconditions$1"), (7, u "SIOOBE_FORMATTER"), (0, u "Ljava/util/function/BiFunction;"), (0, .class_ 126), (0, u "jdk/internal/util/Preconditions$2"), (3, u "AIOOBE_FORMATTER"), (0, .class_ 132), (0, u "jdk/internal/util/Preconditions$3"), (3, u "IOOBE_FORMATTER")] 57

def k14m0 : Method := { name := "<init>", desc := "()V", sig := { parameters := [], returnType := none }, accessFlags := 1, code := none }
/-- jdk/internal/util/Preconditions -/
def k14 : Class := { plain "jdk/internal/util/Preconditions" (some 0) with
  accessFlags := 33
  interfaces := #[]
  cf := some (fileOf pool14 24 #[.nestMembers #[55, 131, 125, 114]] #[{ accessFlags := 1, nameIndex := 5, descriptorIndex := 6, attributes := #[] }] 33 2 #[] #[{ accessFlags := 25, nameIndex := 123, descriptorIndex := 124, attributes := #[] }, { accessFlags := 25, nameIndex := 130, descriptorIndex := 124, attributes := #[] }, { accessFlags := 25, nameIndex := 136, descriptorIndex := 124, attributes := #[] }])
  fields := #[{ name := "SIOOBE_FORMATTER", type := (.object "java/util/function/BiFunction"), accessFlags := 25, slot := 0, constantValue := 0 }, { name := "AIOOBE_FORMATTER", type := (.object "java/util/function/BiFunction"), accessFlags := 25, slot := 1, constantValue := 0 }, { name := "IOOBE_FORMATTER", type := (.object "java/util/function/BiFunction"), accessFlags := 25, slot := 2, constantValue := 0 }]
  methods := #[k14m0]
  instanceTypes := #[]
  staticTypes := #[(.object "java/util/function/BiFunction"), (.object "java/util/function/BiFunction"), (.object "java/util/function/BiFunction")]
  resolved := Array.replicate 194 none
  statics := some 1 }

def pool15 : Array CpInfo := pool [(1, u "java/lang/Cloneable"), (0, .class_ 1), (0, u "java/lang/Object"), (0, .class_ 3)] 3

/-- java/lang/Cloneable -/
def k15 : Class := { plain "java/lang/Cloneable" (some 0) with
  accessFlags := 1537
  interfaces := #[]
  cf := some (fileOf pool15 2 #[] #[] 1537 4 #[] #[])
  fields := #[]
  methods := #[]
  instanceTypes := #[]
  staticTypes := #[]
  resolved := Array.replicate 8 none
  statics := none }

/-- the primitive byte -/
def k16 : Class := { plain "byte" none with kind := .primitive 'B', accessFlags := 0x411 }
/-- [B -/
def k17 : Class := { plain "[B" (some 0) with kind := .array 16 .byte, interfaces := #[15, 2], accessFlags := 1041 }

/-- the primitive char -/
def k18 : Class := { plain "char" none with kind := .primitive 'C', accessFlags := 0x411 }
/-- [C -/
def k19 : Class := { plain "[C" (some 0) with kind := .array 18 .char, interfaces := #[15, 2], accessFlags := 1041 }

/-- the primitive int -/
def k20 : Class := { plain "int" none with kind := .primitive 'I', accessFlags := 0x411 }
/-- [I -/
def k21 : Class := { plain "[I" (some 0) with kind := .array 20 .int, interfaces := #[15, 2], accessFlags := 1041 }

def heap : Heap := #[{ cls := 7, slots := #[.long 0, .int 1, .null, .int 0, .null, .int 0, .int 0], vm := .statics 7 },
  { cls := 14, slots := #[.null, .null, .null], vm := .statics 14 }]
def classes : Array Class := #[k0, k1, k2, k3, k4, k5, k6, k7, k8, k9, k10, k11, k12, k13, k14, k15, k16, k17, k18, k19, k20, k21]
def interned : List (Array UInt16 × Addr) := []
def slotsUsed : Nat := 10
def theMethod : MethodId := ⟨1, 3⟩
def args0 : Array Value := #[.int 4, .int 65, .int 66, .int 67, .int 68, .int 69]
def aboutOver (below : List Frame) : State where
  vm := { classes := classes, interned := interned.toArray }
  heap := heap
  slotsUsed := slotsUsed
  threads := #[{ frames := .invoking theMethod args0 :: below }]
def below0 : List Frame := [.native { method := ⟨0, 0⟩, args := #[] }]
def about1 : State := aboutOver below0
def p0 : Program := .bare "" "" ""
def e0 : Env := launch0.env 0 0 0
theorem w_frames : about1.frames = Frame.invoking theMethod args0 :: below0 := rfl
set_option maxRecDepth 65536 in
theorem w_args : argsFit about1.vm theMethod args0 = true := by decide +kernel
set_option maxRecDepth 65536 in
theorem w_heap : heapFits about1 = true := by decide +kernel
set_option maxRecDepth 65536 in
theorem w_runnable : about1.curStatus? = some .runnable := by decide +kernel
set_option maxRecDepth 65536 in
theorem w_alone : about1.alone = true := by decide +kernel
set_option maxRecDepth 65536 in
theorem w_named : about1.methodNamed? x = some theMethod := by decide +kernel
set_option maxRecDepth 65536 in
theorem w_hears : about1.hears theMethod below0 = true := by decide +kernel
set_option maxRecDepth 65536 in
theorem w_ripe : about1.ripe theMethod args0 below0 = true := by decide +kernel
theorem w_running : about1.status = .running := rfl
set_option maxRecDepth 65536 in
theorem w_room : about1.hasRoom e0.platform room_1 = true :=
  launch0.hasRoom_least _ room_1 (by decide +kernel) (by decide +kernel) (by decide +kernel) (by decide +kernel) (by decide +kernel) (by decide +kernel)
theorem allAtoms_all (ts : List Jvm.Cond) (a : Array Jvm.Value) (st : Jvm.State) : (allAtoms ts).before a st = ts.all (fun c => c.before a st) := by
  induction ts with
  | nil => rfl
  | cons c t ih =>
    show (Jvm.Cond.and c (allAtoms t)).before a st = _
    rw [Jvm.Cond.before_and, ih, List.all_cons]
def words1 : List Jvm.Cond := Jvm.Cond.code x code maxLocals ret :: tables_1
/-- a 'code' word, met by the world's own term for the bytes: nothing is compared byte by byte -/
theorem code_word {y : MethodName} {bytes : ByteArray} {mx : Nat} {rt : Option FieldType} {a : Array Value} {s : State} {m : MethodId} {meth : Method} {c : Code} (h1 : s.methodNamed? y = some m) (h2 : s.vm.method? m = some meth) (h3 : meth.code = some c) (h4 : c.code = bytes)
    (h5 : (c.maxLocals == mx && c.exceptionTable.isEmpty && decide (c.maxStack ≤ mostOperands) && decide (meth.sig.returnType = rt) && !meth.locks && decide (parseMethodDescriptor y.desc = some meth.sig)) = true) : (Jvm.Cond.code y bytes mx rt).before a s = true := by
  simp only [Bool.and_eq_true, beq_iff_eq, Bool.not_eq_true', decide_eq_true_eq] at h5
  obtain ⟨⟨⟨⟨⟨g1, g2⟩, g3⟩, g4⟩, g5⟩, g6⟩ := h5
  simp [Cond.before, Cond.holds, Cond.value, h1, h2, h3, h4, g1, g2, g3, g4, g5, g6]
def isCode : Jvm.Cond → Bool
  | .code _ _ _ _ => true
  | _ => false
theorem all_split {L : List Jvm.Cond} {P : Jvm.Cond → Bool} (h1 : L.all (fun c => isCode c || P c) = true) (h2 : ∀ c ∈ L.filter isCode, P c = true) : L.all P = true := by
  refine List.all_eq_true.mpr fun c hc => ?_
  have h := List.all_eq_true.mp h1 c hc
  rcases Bool.eq_false_or_eq_true (isCode c) with hi | hi
  · exact h2 c (List.mem_filter.mpr ⟨hc, hi⟩)
  · simpa [hi] using h
set_option maxRecDepth 65536 in
theorem w_c0 : (Jvm.Cond.code x code maxLocals ret).before args0 about1 = true := code_word (m := ⟨1, 3⟩) (meth := k1m3) (c := k1c3) (by decide +kernel) rfl rfl rfl (by decide +kernel)
set_option maxRecDepth 65536 in
theorem w_c1 : (Jvm.Cond.code ({ cls := "com/example/loomwire/loomwire/bundle/BundleContentIsBundleFilePinLaw", name := "draw", desc := "(I)C" } : Jvm.MethodName) method_2_code (2 : Nat) (Option.some Jvm.ClassFile.FieldType.char)).before args0 about1 = true := code_word (m := ⟨1, 1⟩) (meth := k1m1) (c := k1c1) (by decide +kernel) rfl rfl rfl (by decide +kernel)
set_option maxRecDepth 65536 in
theorem w_c2 : (Jvm.Cond.code ({ cls := "com/example/loomwire/loomwire/bundle/BundleContentIsBundleFilePinLaw", name := "make", desc := "(ICCCCC)Ljava/lang/String;" } : Jvm.MethodName) method_3_code (6 : Nat) (Option.some (Jvm.ClassFile.FieldType.object "java/lang/String"))).before args0 about1 = true := code_word (m := ⟨1, 2⟩) (meth := k1m2) (c := k1c2) (by decide +kernel) rfl rfl rfl (by decide +kernel)
set_option maxRecDepth 65536 in
theorem w_c3 : (Jvm.Cond.code ({ cls := "java/lang/String", name := "<init>", desc := "([C)V" } : Jvm.MethodName) jdk_42_method_3_code (2 : Nat) (Option.none : Option Jvm.ClassFile.FieldType)).before args0 about1 = true := code_word (m := ⟨7, 1⟩) (meth := k7m1) (c := k7c1) (by decide +kernel) rfl rfl rfl (by decide +kernel)
set_option maxRecDepth 65536 in
theorem w_c4 : (Jvm.Cond.code ({ cls := "java/lang/String", name := "<init>", desc := "([CIILjava/lang/Void;)V" } : Jvm.MethodName) jdk_42_method_149_code (6 : Nat) (Option.none : Option Jvm.ClassFile.FieldType)).before args0 about1 = true := code_word (m := ⟨7, 5⟩) (meth := k7m5) (c := k7c5) (by decide +kernel) rfl rfl rfl (by decide +kernel)
set_option maxRecDepth 65536 in
theorem w_c5 : (Jvm.Cond.code ({ cls := "java/lang/Object", name := "<init>", desc := "()V" } : Jvm.MethodName) object_method_1_code (1 : Nat) (Option.none : Option Jvm.ClassFile.FieldType)).before args0 about1 = true := code_word (m := ⟨0, 0⟩) (meth := k0m0) (c := k0c0) (by decide +kernel) rfl rfl rfl (by decide +kernel)
set_option maxRecDepth 65536 in
theorem w_c6 : (Jvm.Cond.code ({ cls := "com/example/loomwire/loomwire/bundle/BundleContent", name := "isBundleFile", desc := "(Ljava/lang/String;)Z" } : Jvm.MethodName) prog_1_method_4_code (1 : Nat) (Option.some Jvm.ClassFile.FieldType.boolean)).before args0 about1 = true := code_word (m := ⟨10, 1⟩) (meth := k10m1) (c := k10c1) (by decide +kernel) rfl rfl rfl (by decide +kernel)
set_option maxRecDepth 65536 in
theorem w_c7 : (Jvm.Cond.code ({ cls := "java/lang/String", name := "endsWith", desc := "(Ljava/lang/String;)Z" } : Jvm.MethodName) jdk_42_method_77_code (2 : Nat) (Option.some Jvm.ClassFile.FieldType.boolean)).before args0 about1 = true := code_word (m := ⟨7, 4⟩) (meth := k7m4) (c := k7c4) (by decide +kernel) rfl rfl rfl (by decide +kernel)
set_option maxRecDepth 65536 in
theorem w_c8 : (Jvm.Cond.code ({ cls := "java/lang/String", name := "length", desc := "()I" } : Jvm.MethodName) jdk_42_method_54_code (1 : Nat) (Option.some Jvm.ClassFile.FieldType.int)).before args0 about1 = true := code_word (m := ⟨7, 2⟩) (meth := k7m2) (c := k7c2) (by decide +kernel) rfl rfl rfl (by decide +kernel)
set_option maxRecDepth 65536 in
theorem w_c9 : (Jvm.Cond.code ({ cls := "java/lang/String", name := "coder", desc := "()B" } : Jvm.MethodName) jdk_42_method_152_code (1 : Nat) (Option.some Jvm.ClassFile.FieldType.byte)).before args0 about1 = true := code_word (m := ⟨7, 6⟩) (meth := k7m6) (c := k7c6) (by decide +kernel) rfl rfl rfl (by decide +kernel)
set_option maxRecDepth 65536 in
theorem w_c10 : (Jvm.Cond.code ({ cls := "java/lang/String", name := "startsWith", desc := "(Ljava/lang/String;I)Z" } : Jvm.MethodName) jdk_42_method_75_code (8 : Nat) (Option.some Jvm.ClassFile.FieldType.boolean)).before args0 about1 = true := code_word (m := ⟨7, 3⟩) (meth := k7m3) (c := k7c3) (by decide +kernel) rfl rfl rfl (by decide +kernel)
set_option maxRecDepth 65536 in
theorem w_c11 : (Jvm.Cond.code ({ cls := "java/lang/StringUTF16", name := "compress", desc := "([CII)[B" } : Jvm.MethodName) jdk_52_method_16_code (6 : Nat) (Option.some (Jvm.ClassFile.FieldType.array Jvm.ClassFile.FieldType.byte))).before args0 about1 = true := code_word (m := ⟨11, 2⟩) (meth := k11m2) (c := k11c2) (by decide +kernel) rfl rfl rfl (by decide +kernel)
set_option maxRecDepth 65536 in
theorem w_c12 : (Jvm.Cond.code ({ cls := "java/lang/StringUTF16", name := "compress", desc := "([CI[BII)I" } : Jvm.MethodName) jdk_52_method_21_code (7 : Nat) (Option.some Jvm.ClassFile.FieldType.int)).before args0 about1 = true := code_word (m := ⟨11, 3⟩) (meth := k11m3) (c := k11c3) (by decide +kernel) rfl rfl rfl (by decide +kernel)
set_option maxRecDepth 65536 in
theorem w_c13 : (Jvm.Cond.code ({ cls := "java/lang/StringUTF16", name := "coderFromArrayLen", desc := "([BI)B" } : Jvm.MethodName) jdk_52_method_15_code (2 : Nat) (Option.some Jvm.ClassFile.FieldType.byte)).before args0 about1 = true := code_word (m := ⟨11, 1⟩) (meth := k11m1) (c := k11c1) (by decide +kernel) rfl rfl rfl (by decide +kernel)
set_option maxRecDepth 65536 in
theorem w_c14 : (Jvm.Cond.code ({ cls := "jdk/internal/util/ArraysSupport", name := "mismatch", desc := "([BI[BII)I" } : Jvm.MethodName) jdk_48_method_14_code (8 : Nat) (Option.some Jvm.ClassFile.FieldType.int)).before args0 about1 = true := code_word (m := ⟨12, 1⟩) (meth := k12m1) (c := k12c1) (by decide +kernel) rfl rfl rfl (by decide +kernel)
def codes1 : List Jvm.Cond := [Jvm.Cond.code x code maxLocals ret, Jvm.Cond.code ({ cls := "com/example/loomwire/loomwire/bundle/BundleContentIsBundleFilePinLaw", name := "draw", desc := "(I)C" } : Jvm.MethodName) method_2_code (2 : Nat) (Option.some Jvm.ClassFile.FieldType.char), Jvm.Cond.code ({ cls := "com/example/loomwire/loomwire/bundle/BundleContentIsBundleFilePinLaw", name := "make", desc := "(ICCCCC)Ljava/lang/String;" } : Jvm.MethodName) method_3_code (6 : Nat) (Option.some (Jvm.ClassFile.FieldType.object "java/lang/String")), Jvm.Cond.code ({ cls := "java/lang/String", name := "<init>", desc := "([C)V" } : Jvm.MethodName) jdk_42_method_3_code (2 : Nat) (Option.none : Option Jvm.ClassFile.FieldType), Jvm.Cond.code ({ cls := "java/lang/String", name := "<init>", desc := "([CIILjava/lang/Void;)V" } : Jvm.MethodName) jdk_42_method_149_code (6 : Nat) (Option.none : Option Jvm.ClassFile.FieldType), Jvm.Cond.code ({ cls := "java/lang/Object", name := "<init>", desc := "()V" } : Jvm.MethodName) object_method_1_code (1 : Nat) (Option.none : Option Jvm.ClassFile.FieldType), Jvm.Cond.code ({ cls := "com/example/loomwire/loomwire/bundle/BundleContent", name := "isBundleFile", desc := "(Ljava/lang/String;)Z" } : Jvm.MethodName) prog_1_method_4_code (1 : Nat) (Option.some Jvm.ClassFile.FieldType.boolean), Jvm.Cond.code ({ cls := "java/lang/String", name := "endsWith", desc := "(Ljava/lang/String;)Z" } : Jvm.MethodName) jdk_42_method_77_code (2 : Nat) (Option.some Jvm.ClassFile.FieldType.boolean), Jvm.Cond.code ({ cls := "java/lang/String", name := "length", desc := "()I" } : Jvm.MethodName) jdk_42_method_54_code (1 : Nat) (Option.some Jvm.ClassFile.FieldType.int), Jvm.Cond.code ({ cls := "java/lang/String", name := "coder", desc := "()B" } : Jvm.MethodName) jdk_42_method_152_code (1 : Nat) (Option.some Jvm.ClassFile.FieldType.byte), Jvm.Cond.code ({ cls := "java/lang/String", name := "startsWith", desc := "(Ljava/lang/String;I)Z" } : Jvm.MethodName) jdk_42_method_75_code (8 : Nat) (Option.some Jvm.ClassFile.FieldType.boolean), Jvm.Cond.code ({ cls := "java/lang/StringUTF16", name := "compress", desc := "([CII)[B" } : Jvm.MethodName) jdk_52_method_16_code (6 : Nat) (Option.some (Jvm.ClassFile.FieldType.array Jvm.ClassFile.FieldType.byte)), Jvm.Cond.code ({ cls := "java/lang/StringUTF16", name := "compress", desc := "([CI[BII)I" } : Jvm.MethodName) jdk_52_method_21_code (7 : Nat) (Option.some Jvm.ClassFile.FieldType.int), Jvm.Cond.code ({ cls := "java/lang/StringUTF16", name := "coderFromArrayLen", desc := "([BI)B" } : Jvm.MethodName) jdk_52_method_15_code (2 : Nat) (Option.some Jvm.ClassFile.FieldType.byte), Jvm.Cond.code ({ cls := "jdk/internal/util/ArraysSupport", name := "mismatch", desc := "([BI[BII)I" } : Jvm.MethodName) jdk_48_method_14_code (8 : Nat) (Option.some Jvm.ClassFile.FieldType.int)]
set_option maxRecDepth 65536 in
theorem codes_eq : words1.filter isCode = codes1 := rfl
theorem w_codes : ∀ c ∈ words1.filter isCode, c.before args0 about1 = true := by
  rw [codes_eq]
  intro c hc
  simp only [codes1, List.mem_cons, List.not_mem_nil, or_false] at hc
  rcases hc with rfl | rfl | rfl | rfl | rfl | rfl | rfl | rfl | rfl | rfl | rfl | rfl | rfl | rfl | rfl
  · exact w_c0
  · exact w_c1
  · exact w_c2
  · exact w_c3
  · exact w_c4
  · exact w_c5
  · exact w_c6
  · exact w_c7
  · exact w_c8
  · exact w_c9
  · exact w_c10
  · exact w_c11
  · exact w_c12
  · exact w_c13
  · exact w_c14
set_option maxRecDepth 65536 in
theorem w_t1 : (words1.take 24).all (fun c => isCode c || c.before args0 about1) = true := by decide +kernel
set_option maxRecDepth 65536 in
theorem w_t2 : ((words1.drop 24).take 24).all (fun c => isCode c || c.before args0 about1) = true := by decide +kernel
set_option maxRecDepth 65536 in
theorem w_t3 : ((words1.drop 24).drop 24).all (fun c => isCode c || c.before args0 about1) = true := by decide +kernel
theorem w_tables : (allAtoms (Jvm.Cond.code x code maxLocals ret :: tables_1)).before args0 about1 = true := by
  rw [allAtoms_all]
  show words1.all (fun c => c.before args0 about1) = true
  refine all_split ?_ w_codes
  rw [← List.take_append_drop 24 words1, List.all_append, w_t1, ← List.take_append_drop 24 (words1.drop 24), List.all_append, w_t2, w_t3]
  rfl
set_option maxRecDepth 65536 in
theorem w_rest : rest_1_c.before args0 about1 = true := by decide +kernel
set_option maxRecDepth 65536 in
theorem w_case : (Jvm.Cond.and given_1 narrow_1).before args0 about1 = true := by decide +kernel
set_option maxRecDepth 65536 in
theorem w_consts : constsHeld consts_1 about1 := Jvm.Lit.constsHeldB_iff.mp (by decide +kernel)
theorem w_applies : (headSpec (Jvm.Cond.code x code maxLocals ret :: tables_1) room_1).applies x e0.platform about1 = true :=
  (Spec.applies_iff w_frames).mpr ⟨w_running, w_runnable, w_alone, w_named, w_hears, w_ripe, w_room, w_tables⟩
theorem atStart : AtStart classFile x code maxLocals ret World_1 tables_1 room_1 Calls_1 rest_1 Pre_1 launch0 p0 e0 about1 theMethod args0 below0 :=
  ⟨lists_1, trivial, launch0.admits_env _ _ _, launch0.least_env, fairChoices_fair.cas, fairChoices_fair.clock, w_frames, w_args, w_heap, w_applies, ⟨w_consts, trivial⟩, w_rest, w_case⟩
end start1
theorem witness_1 : WitnessClaimed_1 := ⟨start1.p0, start1.e0, start1.about1, start1.theMethod, start1.args0, start1.below0, start1.atStart⟩
end Jvm.Pilot.@@N@@
