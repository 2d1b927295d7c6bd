import JvmDerived
import JvmDerived.Pilot.@@N@@Statement
import JvmDerived.Pilot.@@N@@Code
set_option linter.unusedVariables false
set_option linter.unusedSimpArgs false
namespace Jvm.RoadKit
open Sem ClassFile Op Lib Jvm.Stand Jvm.Free Jvm.LawKit
section New
variable {p : Program} {l : Launch} {e : Env} {R : Room} {s : State} {m : MethodId} {args : Array Value} {below : List Frame} {meth : Method} {c : Code} {T : State} {locs : List Loc} {cells slots : Nat}
theorem retI (X : Stand p l e R s m args below meth c T locs cells slots) (hx : p.tables.exec = Jvm.exec) {pc : Nat} {Ls : Array Slot} {z : Int32} {rest : List Value} (hret : meth.sig.returnType = some .int) (hd : decode c.code pc = .ok (.ireturn, 1)) {fs : List Frame}
    (hl : ∀ (f : JFrame) (acts : List Action), f.method = m → f.locked = none → f.entered = [] → (doReturn e (T.setTop f) acts (some (.int z))).1 = T.setFrames fs) : Steps p.tables e below (T.setTop (mkF m pc Ls (.int z :: rest))) (T.setFrames fs) := by
  have hm' : T.vm.method? m = some meth := X.method'
  have hn : narrow .int (.int z) = .int z := rfl
  show Steps p.tables e below (T.setTop { method := m, pc := pc, locals := Ls, stack := _ :: rest, locked := none }) _
  jvm_step X.here [X.here.top, hx, hd, hm', hret, hn]
  first | (intro acts; rw [hl _ acts rfl rfl rfl]) | rw [hl _ _ rfl rfl rfl]
  exact Steps.refl _
end New
end Jvm.RoadKit
namespace Jvm.Pilot.@@N@@
open Jvm Jvm.ClassFile Sem Op Lib Jvm.Free Jvm.Stand Jvm.LawKit Jvm.RoadKit Bundle Jvm.Pilot.@@N@@.Jvm.D
theorem Wd {Z : State} {a0 : Array Value} {d : Jvm.Cond} (hw : ∀ d ∈ tables_1, d.before a0 Z = true) (i : Nat) (h : tables_1[i]? = some d) : d.before a0 Z = true := hw _ (List.mem_of_getElem? h)
theorem own_sz {Z : State} {n0 : Nat} {h : Heap} (O : Old Z n0 h) : n0 ≤ h.size := O.1 ▸ O.2.1
theorem own_neArv {Z : State} {h : Heap} {a b : Addr} {k k' : ClassId} {ty ty' : FieldType} {z z' : Int32} {vs vs' : List Value} {d d' : Value} (F : Arv Z h a k ty z vs d) (G : Arv Z h b k' ty' z' vs' d') (hn : ty ≠ ty') : a ≠ b := fun q => by
  subst q
  obtain ⟨c1, ⟨e1, ⟨-, k1, hk1, cp1, hd1⟩, -⟩, -⟩ := F
  obtain ⟨c2, ⟨e2, ⟨-, k2, hk2, cp2, hd2⟩, -⟩, -⟩ := G
  cases e1.symm.trans e2
  cases hk1.symm.trans hk2
  rw [hd1] at hd2
  injection hd2 with _ h2
  exact hn h2
theorem own_fi {args : Array Value} {s : State} {t : Term} {a : Addr} {C n d : String} {k : Int32} (ht : t.eval args s none [] s = some (.ref a)) (h : (Jvm.Cond.eq (Jvm.Term.field t C n d) (Jvm.Term.int k)).value args s none s [] = some true) : s.fieldOf? a C n d = some (.int k) := by
  have e := fld_at (C := C) (n := n) (dd := d) ht
  obtain ⟨v, w, h1, h2, h3, h4⟩ := cmp_v (Or.inl h)
  cases (Term.int_eval k).symm.trans h2
  obtain ⟨z, rfl⟩ := h4
  rw [← e, h1]
  simp only [Cond.value, h1, Term.int_eval] at h
  simpa using h
theorem own_len {args : Array Value} {s : State} {t : Term} {a : Addr} {cl : Cell} {ty : FieldType} {z : Int32} (A : Arr s s.heap a cl ty) (ev : t.eval args s none [] s = some (.ref a)) (h : (Jvm.Cond.eq (Jvm.Term.length t) (Jvm.Term.int z)).value args s none s [] = some true) : cl.slots.size < 2 ^ 31 ∧ cl.slots.size.toInt32 = z := by
  have e := Cond.eq_int (beq_iff_eq.mpr h) (Term.int_eval z)
  have hA : s.arrayAt? a = some cl := IntBox.arrayAt_of A.1 A.2.1 A.2.2
  by_cases q : cl.slots.size < 2 ^ 31
  · refine ⟨q, ?_⟩
    have r := len_f ev hA q
    rw [r] at e
    injection e with e
    injection e
  · exfalso
    simp [Term.eval, ev, hA] at e
    omega
theorem own_eli {args : Array Value} {s : State} {t : Term} {a : Addr} {cl : Cell} {j k : Int32} (hc : s.heap[a]? = some cl) (ev : t.eval args s none [] s = some (.ref a)) (h : (Jvm.Cond.eq (Jvm.Term.elem t (Jvm.Term.int j)) (Jvm.Term.int k)).value args s none s [] = some true) : cl.slots[j.toNatClampNeg]? = some (.int k) :=
  (elem_in (Cond.eq_int (beq_iff_eq.mpr h) (Term.int_eval k)) ev (Term.int_eval j) hc).2
theorem own_elr {args : Array Value} {s : State} {t u : Term} {a b : Addr} {cl : Cell} {j : Int32} (hc : s.heap[a]? = some cl) (ev : t.eval args s none [] s = some (.ref a)) (eu : u.eval args s none [] s = some (.ref b)) (h : (Jvm.Cond.eq (Jvm.Term.elem t (Jvm.Term.int j)) u).value args s none s [] = some true) : cl.slots[j.toNatClampNeg]? = some (.ref b) := by
  obtain ⟨v, w, h1, h2, h3, h4⟩ := cmp_v (Or.inl h)
  cases eu.symm.trans h2
  have hv : v = .ref b := gotT (eq_R h1 h2 h4.2 rfl) h
  rw [hv] at h1
  exact (elem_in h1 ev (Term.int_eval j) hc).2
theorem own_lceq (x y : Int64) : lcmpW x y = (0 : Int32) ↔ x = y := by rw [lcW]; exact lc_eq x y
theorem own_lclt (x y : Int64) : lcmpW x y < (0 : Int32) ↔ x < y := by rw [lcW]; exact lc_lt x y
theorem own_lcgt (x y : Int64) : (0 : Int32) < lcmpW x y ↔ y < x := by rw [lcW]; exact lc_gt x y
def own_maxJ (a b : Int64) : Int64 := if lcmpW a b < (0 : Int32) then b else a
def own_minJ (a b : Int64) : Int64 := if (0 : Int32) < lcmpW a b then b else a
theorem own_and_nn (x : Int64) : ¬ (x &&& (9223372036854775807 : Int64)) < 0 := by
  rw [Int64.lt_iff_toInt_lt]
  have h : (x &&& (9223372036854775807 : Int64)).toBitVec.msb = false := by
    rw [Int64.toBitVec_and, BitVec.msb_and]
    rw [show ((9223372036854775807 : Int64).toBitVec.msb) = false from by decide]
    simp
  rw [BitVec.msb_eq_toInt] at h
  have h2 := of_decide_eq_false h
  exact h2
theorem own_v0 (x : Int64) : ¬ ((lcmpW (x &&& (9223372036854775807 : Int64)) (0 : Int64)) < (0 : Int32)) := by rw [own_lclt]; exact own_and_nn x
theorem own_vmax (a b : Int64) : ¬ ((lcmpW (own_maxJ a b) a) < (0 : Int32)) := by
  unfold own_maxJ
  split
  · rename_i h
    rw [own_lclt] at h ⊢
    rw [Int64.lt_iff_toInt_lt] at h ⊢
    omega
  · rw [own_lclt, Int64.lt_iff_toInt_lt]; omega
theorem own_vmin (a b : Int64) : ¬ ((lcmpW b (own_minJ a b)) < (0 : Int32)) := by
  unfold own_minJ
  split
  · rw [own_lclt, Int64.lt_iff_toInt_lt]; omega
  · rename_i h
    rw [own_lcgt] at h
    rw [own_lclt]; exact h
theorem own_vmin0 (a b c : Int64) (ha : ¬ ((lcmpW a (0 : Int64)) < (0 : Int32))) (hc : ¬ ((lcmpW c (0 : Int64)) < (0 : Int32))) (hb : ¬ ((lcmpW b c) < (0 : Int32))) : ¬ ((lcmpW (own_minJ a b) (0 : Int64)) < (0 : Int32)) := by
  rw [own_lclt, Int64.lt_iff_toInt_lt] at ha hb hc
  rw [own_lclt, Int64.lt_iff_toInt_lt]
  unfold own_minJ
  split <;> omega
theorem own_place {w : Int64} (h1 : ¬ ((lcmpW w (-128 : Int64)) < (0 : Int32))) (h2 : ¬ ((0 : Int32) < (lcmpW w (127 : Int64)))) : ¬ (((w.toInt32) + (128 : Int32)) < (0 : Int32)) ∧ ((w.toInt32) + (128 : Int32)) < (256 : Int32) := by
  rw [own_lclt] at h1
  rw [own_lcgt] at h2
  obtain ⟨q1, q2⟩ := Jvm.Free.LongBox.place_okL w h1 h2
  refine ⟨fun q => q1 (Or.inl q), ?_⟩
  have n1 : ¬ (w.toInt32 + 128) < 0 := fun q => q1 (Or.inl q)
  have e := nat_of n1
  rw [Int32.lt_iff_toInt_lt, e]
  have : (256 : Int32).toInt = 256 := rfl
  omega
theorem own_nsroot {Z : State} {a0 : Array Value} {O K : String} {t : ClassId} (w : (Jvm.Cond.noSuperclass O).before a0 Z = true) (g1 : Z.vm.findClass K = some t) (hn : O ≠ K) : NS Z O K := by
  obtain ⟨c, k, h1, h2, h3, -, -⟩ := Cond.noSuperclass_spec w
  have ne := ids_ne h1 g1 hn
  refine ⟨c, t, h1, g1, fun fuel => ?_⟩
  cases fuel with
  | zero => rfl
  | succ f => simp [Vm.isSubclassAux, ne, h2, h3]
theorem own_nsno {Z : State} {a0 : Array Value} {C S K : String} {n : Nat} (w : (Jvm.Cond.superclass C S).before a0 Z = true) (wk : (Jvm.Cond.instantiable K n).before a0 Z = true) (nS : NS Z C K) (hn : C ≠ K) : ∃ c t, Z.vm.findClass C = some c ∧ Z.vm.findClass K = some t ∧ Z.vm.assignable c t = false := by
  obtain ⟨c, t, h0, g0, n3⟩ := nS
  obtain ⟨p, k, kp, h1, h2, h3, h4, h5, -, h7⟩ := Cond.superclass_spec h0 w
  obtain ⟨t', k', g1, g2, g5, g7, -⟩ := Cond.instantiable_spec wk
  cases g0.symm.trans g1
  simp only [Bool.or_eq_false_iff] at g7
  have ne := ids_ne h0 g0 hn
  refine ⟨c, t, h0, g0, ?_⟩
  show Z.vm.assignableAux (255 + 1) c t = false
  simp [Vm.assignableAux, ne, h2, g2, h5, g5, g7.1, Vm.isSubclass, n3]
theorem own_long {Z : State} {a0 : Array Value} (hw : ∀ d ∈ tables_1, d.before a0 Z = true) : ∃ c t, Z.vm.findClass "java/lang/Long" = some c ∧ Z.vm.findClass "com/example/tracelint/tracelint/Interval" = some t ∧ Z.vm.assignable c t = false := by
  obtain ⟨t', k', g1, -⟩ := Cond.instantiable_spec (Wd hw 3 rfl)
  exact own_nsno (Wd hw 49 rfl) (Wd hw 3 rfl) (NS.step (Wd hw 49 rfl) (NS.step (Wd hw 50 rfl) (own_nsroot (Wd hw 51 rfl) g1 (by decide)) (by decide)) (by decide)) (by decide)
def GF (Z : State) (aC : Addr) (kC : ClassId) (vC : List Value) : Prop := Sta Z Z.heap "java/lang/Long$LongCache" "cache" "[Ljava/lang/Long;" (.ref aC) ∧ Arv Z Z.heap aC kC (.object "java/lang/Long") (256 : Int32) vC .null ∧ ∀ j : Int32, ¬ (j < (0 : Int32)) → j < (256 : Int32) → ∃ b : Addr, vC.getD j.toNatClampNeg .null = .ref b ∧ Exa Z Z.heap b "java/lang/Long"
theorem d8_0 : decode jdk_29_method_66_code 0 = .ok (.lload_n 0, 1) := by decide +kernel
theorem d8_1 : decode jdk_29_method_66_code 1 = .ok (.lload_n 2, 1) := by decide +kernel
theorem d8_2 : decode jdk_29_method_66_code 2 = .ok (.lcmp, 1) := by decide +kernel
theorem d8_3 : decode jdk_29_method_66_code 3 = .ok (.ifCond .lt 7, 3) := by decide +kernel
theorem d8_10 : decode jdk_29_method_66_code 10 = .ok (.lload_n 2, 1) := by decide +kernel
theorem d8_11 : decode jdk_29_method_66_code 11 = .ok (.lreturn, 1) := by decide +kernel
theorem d8_6 : decode jdk_29_method_66_code 6 = .ok (.lload_n 0, 1) := by decide +kernel
theorem d8_7 : decode jdk_29_method_66_code 7 = .ok (.goto 4, 3) := by decide +kernel
abbrev MN_0 : MethodName := ⟨"java/lang/Math", "max", "(JJ)J"⟩
theorem ef_rmMax (m : MethodId) (q0 : Int64) (q1 : Int64) : entryFrame m #[(.long q0), (.long q1)] 4 = mkF m 0 #[.val (.long q0), .second, .val (.long q1), .second] [] := by first | (simp [entryFrame, mkF, argsToLocals, Value.category]; done) | rfl
def Q_rmMax (n0 : Nat) (Z : State) (aC : Addr) (kC : ClassId) (vC : List Value) (q0 : Int64) (q1 : Int64) (h0 : Heap) (v : Option Value) (h : Heap) (L : List Loc) : Prop := v = some (.long (own_maxJ q0 q1)) ∧ Fr n0 L ∧ h = h0
set_option maxRecDepth 65536 in
set_option maxHeartbeats 40000000 in
theorem rmMax (l : Launch) (Z : State) (a0 : Array Value) (hw : ∀ d ∈ tables_1, d.before a0 Z = true) (ws : List Jvm.Cond) (aC : Addr) (kC : ClassId) (vC : List Value) (q0 : Int64) (q1 : Int64) (h0 : Heap) (n0 : Nat) (O0 : Old Z n0 h0) (GL : GF Z aC kC vC) :
    MetFree l MN_0 (head1 (Jvm.Cond.code MN_0 jdk_29_method_66_code 4 (some .long) :: ws) ({ frames := 0, cells := 0, slots := 0, locals := 0 } : Room)) (fun a U => a = #[(.long q0), (.long q1)] ∧ Z.Warmed39 U.vm ∧ U.heap = h0) (fun _ _ _ _ _ => True) (fun _ U o U' => ∃ v L, o = .returned v ∧ Q_rmMax n0 Z aC kC vC q0 q1 h0 v U'.heap L ∧ FrameEnd U o U' L ({ frames := 0, cells := 0, slots := 0, locals := 0 } : Room).cells ({ frames := 0, cells := 0, slots := 0, locals := 0 } : Room).slots) := by
  refine MetFree.of_bodySF (Jvm.Free.JP.mathPlain rfl (by decide +kernel)) hisR ?_
  intro p e s m args below meth c s₁ Bd hml0 hP hK
  obtain ⟨rfl, hZ, hh⟩ := hP
  have hx := Bd.exec
  have hby := Bd.bytes
  have hml : c.maxLocals = 4 := hml0
  have hown : s.vm.findClass "java/lang/Math" = some m.cls := findClass_of_methodNamed Bd.named
  have hnm := (name_of_methodNamed Bd.named Bd.method).1
  have X0 : Stand p l e ({ frames := 0, cells := 0, slots := 0, locals := 0 } : Room) s m #[(.long q0), (.long q1)] below meth c s₁ [] 0 0 := Stand.of_body Bd
  have e0 : s₁.heap = h0 := by rw [← hh, Bd.state]; rfl
  have N0 := Fr.nil n0
  have pre0 : ∀ t, Steps p.tables e below (s₁.setTop (mkF m 0 #[.val (.long q0), .second, .val (.long q1), .second] [])) t → Steps p.tables e below (s₁.setTop (entryFrame m #[(.long q0), (.long q1)] 4)) t := fun t k => castTop (ef_rmMax m q0 q1) k
  have GL' := GL
  obtain ⟨GSC, GVC, GPC⟩ := GL'
  have pre2 : ∀ t, Steps p.tables e below (s₁.setTop (mkF m 3 #[.val (.long q0), .second, .val (.long q1), .second] [(.int (lcmpW q0 q1))])) t → Steps p.tables e below (s₁.setTop (entryFrame m #[(.long q0), (.long q1)] 4)) t := fun t kt => by
    refine pre0 t ?_
    show Steps p.tables e below (s₁.setTop (mkF m 0 #[.val (.long q0), .second, .val (.long q1), .second] [])) _
    refine XS.lloadN X0.here hx rfl (hb hby d8_0) rfl ?_
    show Steps p.tables e below (s₁.setTop (mkF m 1 #[.val (.long q0), .second, .val (.long q1), .second] [(.long q0)])) _
    refine XS.lloadN X0.here hx rfl (hb hby d8_1) rfl ?_
    show Steps p.tables e below (s₁.setTop (mkF m 2 #[.val (.long q0), .second, .val (.long q1), .second] [(.long q1), (.long q0)])) _
    refine XS.lcmp X0.here hx rfl (hb hby d8_2) rfl ?_
    exact kt
  by_cases hc3_1 : (lcmpW q0 q1) < (0 : Int32)
  · obtain ⟨fs, hr, hrun, hended, hW, hsame⟩ := X0.leave (v := some (.long q1)) (fun h => by rw [Bd.returns] at h; cases h)
    refine ⟨_, _, pre2 _ ?_, hrun, hended, _, _, rfl, ?_, ⟨_, rfl⟩, hW, hsame.mono (by decide) (by decide)⟩
    · show Steps p.tables e below (s₁.setTop (mkF m 3 #[.val (.long q0), .second, .val (.long q1), .second] [(.int (lcmpW q0 q1))])) _
      refine XS.ifYes X0.here hx rfl (pc0 := 3) (pc' := 10) rfl (hb hby d8_3) rfl ((if0 _ _).trans (tlt hc3_1).1) (by decide) (by decide) ?_
      show Steps p.tables e below (s₁.setTop (mkF m 10 #[.val (.long q0), .second, .val (.long q1), .second] [])) _
      refine XS.lloadN X0.here hx rfl (hb hby d8_10) rfl ?_
      show Steps p.tables e below (s₁.setTop (mkF m 11 #[.val (.long q0), .second, .val (.long q1), .second] [(.long q1)])) _
      jvm_step X0.here [X0.here.top, hx, (hb hby d8_11), X0.method', Bd.returns, narrow]
      first | (intro acts; rw [hr _ acts rfl rfl rfl]) | rw [hr _ _ rfl rfl rfl]
      exact Steps.refl _
    · show Q_rmMax n0 Z aC kC vC q0 q1 h0 _ s₁.heap _
      rw [e0]
      exact ⟨(congrArg (fun z => some (Value.long z)) (if_pos hc3_1).symm), N0, rfl⟩
  · obtain ⟨fs, hr, hrun, hended, hW, hsame⟩ := X0.leave (v := some (.long q0)) (fun h => by rw [Bd.returns] at h; cases h)
    refine ⟨_, _, pre2 _ ?_, hrun, hended, _, _, rfl, ?_, ⟨_, rfl⟩, hW, hsame.mono (by decide) (by decide)⟩
    · show Steps p.tables e below (s₁.setTop (mkF m 3 #[.val (.long q0), .second, .val (.long q1), .second] [(.int (lcmpW q0 q1))])) _
      refine XS.ifNo X0.here hx rfl (hb hby d8_3) rfl ((if0 _ _).trans (flt hc3_1).1) ?_
      show Steps p.tables e below (s₁.setTop (mkF m 6 #[.val (.long q0), .second, .val (.long q1), .second] [])) _
      refine XS.lloadN X0.here hx rfl (hb hby d8_6) rfl ?_
      show Steps p.tables e below (s₁.setTop (mkF m 7 #[.val (.long q0), .second, .val (.long q1), .second] [(.long q0)])) _
      refine XS.goto X0.here hx rfl (pc0 := 7) (pc' := 11) rfl (hb hby d8_7) (by decide) (by decide) ?_
      show Steps p.tables e below (s₁.setTop (mkF m 11 #[.val (.long q0), .second, .val (.long q1), .second] [(.long q0)])) _
      jvm_step X0.here [X0.here.top, hx, (hb hby d8_11), X0.method', Bd.returns, narrow]
      first | (intro acts; rw [hr _ acts rfl rfl rfl]) | rw [hr _ _ rfl rfl rfl]
      exact Steps.refl _
    · show Q_rmMax n0 Z aC kC vC q0 q1 h0 _ s₁.heap _
      rw [e0]
      exact ⟨(congrArg (fun z => some (Value.long z)) (if_neg hc3_1).symm), N0, rfl⟩
theorem d9_0 : decode jdk_29_method_70_code 0 = .ok (.lload_n 0, 1) := by decide +kernel
theorem d9_1 : decode jdk_29_method_70_code 1 = .ok (.lload_n 2, 1) := by decide +kernel
theorem d9_2 : decode jdk_29_method_70_code 2 = .ok (.lcmp, 1) := by decide +kernel
theorem d9_3 : decode jdk_29_method_70_code 3 = .ok (.ifCond .gt 7, 3) := by decide +kernel
theorem d9_10 : decode jdk_29_method_70_code 10 = .ok (.lload_n 2, 1) := by decide +kernel
theorem d9_11 : decode jdk_29_method_70_code 11 = .ok (.lreturn, 1) := by decide +kernel
theorem d9_6 : decode jdk_29_method_70_code 6 = .ok (.lload_n 0, 1) := by decide +kernel
theorem d9_7 : decode jdk_29_method_70_code 7 = .ok (.goto 4, 3) := by decide +kernel
abbrev MN_1 : MethodName := ⟨"java/lang/Math", "min", "(JJ)J"⟩
def Q_rmMin (n0 : Nat) (Z : State) (aC : Addr) (kC : ClassId) (vC : List Value) (q0 : Int64) (q1 : Int64) (h0 : Heap) (v : Option Value) (h : Heap) (L : List Loc) : Prop := v = some (.long (own_minJ q0 q1)) ∧ Fr n0 L ∧ h = h0
set_option maxRecDepth 65536 in
set_option maxHeartbeats 40000000 in
theorem rmMin (l : Launch) (Z : State) (a0 : Array Value) (hw : ∀ d ∈ tables_1, d.before a0 Z = true) (ws : List Jvm.Cond) (aC : Addr) (kC : ClassId) (vC : List Value) (q0 : Int64) (q1 : Int64) (h0 : Heap) (n0 : Nat) (O0 : Old Z n0 h0) (GL : GF Z aC kC vC) :
    MetFree l MN_1 (head1 (Jvm.Cond.code MN_1 jdk_29_method_70_code 4 (some .long) :: ws) ({ frames := 0, cells := 0, slots := 0, locals := 0 } : Room)) (fun a U => a = #[(.long q0), (.long q1)] ∧ Z.Warmed39 U.vm ∧ U.heap = h0) (fun _ _ _ _ _ => True) (fun _ U o U' => ∃ v L, o = .returned v ∧ Q_rmMin n0 Z aC kC vC q0 q1 h0 v U'.heap L ∧ FrameEnd U o U' L ({ frames := 0, cells := 0, slots := 0, locals := 0 } : Room).cells ({ frames := 0, cells := 0, slots := 0, locals := 0 } : Room).slots) := by
  refine MetFree.of_bodySF (Jvm.Free.JP.mathPlain rfl (by decide +kernel)) hisR ?_
  intro p e s m args below meth c s₁ Bd hml0 hP hK
  obtain ⟨rfl, hZ, hh⟩ := hP
  have hx := Bd.exec
  have hby := Bd.bytes
  have hml : c.maxLocals = 4 := hml0
  have hown : s.vm.findClass "java/lang/Math" = some m.cls := findClass_of_methodNamed Bd.named
  have hnm := (name_of_methodNamed Bd.named Bd.method).1
  have X0 : Stand p l e ({ frames := 0, cells := 0, slots := 0, locals := 0 } : Room) s m #[(.long q0), (.long q1)] below meth c s₁ [] 0 0 := Stand.of_body Bd
  have e0 : s₁.heap = h0 := by rw [← hh, Bd.state]; rfl
  have N0 := Fr.nil n0
  have pre0 : ∀ t, Steps p.tables e below (s₁.setTop (mkF m 0 #[.val (.long q0), .second, .val (.long q1), .second] [])) t → Steps p.tables e below (s₁.setTop (entryFrame m #[(.long q0), (.long q1)] 4)) t := fun t k => castTop (ef_rmMax m q0 q1) k
  have GL' := GL
  obtain ⟨GSC, GVC, GPC⟩ := GL'
  have pre2 : ∀ t, Steps p.tables e below (s₁.setTop (mkF m 3 #[.val (.long q0), .second, .val (.long q1), .second] [(.int (lcmpW q0 q1))])) t → Steps p.tables e below (s₁.setTop (entryFrame m #[(.long q0), (.long q1)] 4)) t := fun t kt => by
    refine pre0 t ?_
    show Steps p.tables e below (s₁.setTop (mkF m 0 #[.val (.long q0), .second, .val (.long q1), .second] [])) _
    refine XS.lloadN X0.here hx rfl (hb hby d9_0) rfl ?_
    show Steps p.tables e below (s₁.setTop (mkF m 1 #[.val (.long q0), .second, .val (.long q1), .second] [(.long q0)])) _
    refine XS.lloadN X0.here hx rfl (hb hby d9_1) rfl ?_
    show Steps p.tables e below (s₁.setTop (mkF m 2 #[.val (.long q0), .second, .val (.long q1), .second] [(.long q1), (.long q0)])) _
    refine XS.lcmp X0.here hx rfl (hb hby d9_2) rfl ?_
    exact kt
  by_cases hc3_1 : (0 : Int32) < (lcmpW q0 q1)
  · obtain ⟨fs, hr, hrun, hended, hW, hsame⟩ := X0.leave (v := some (.long q1)) (fun h => by rw [Bd.returns] at h; cases h)
    refine ⟨_, _, pre2 _ ?_, hrun, hended, _, _, rfl, ?_, ⟨_, rfl⟩, hW, hsame.mono (by decide) (by decide)⟩
    · show Steps p.tables e below (s₁.setTop (mkF m 3 #[.val (.long q0), .second, .val (.long q1), .second] [(.int (lcmpW q0 q1))])) _
      refine XS.ifYes X0.here hx rfl (pc0 := 3) (pc' := 10) rfl (hb hby d9_3) rfl ((if0 _ _).trans (tlt hc3_1).2.2.1) (by decide) (by decide) ?_
      show Steps p.tables e below (s₁.setTop (mkF m 10 #[.val (.long q0), .second, .val (.long q1), .second] [])) _
      refine XS.lloadN X0.here hx rfl (hb hby d9_10) rfl ?_
      show Steps p.tables e below (s₁.setTop (mkF m 11 #[.val (.long q0), .second, .val (.long q1), .second] [(.long q1)])) _
      jvm_step X0.here [X0.here.top, hx, (hb hby d9_11), X0.method', Bd.returns, narrow]
      first | (intro acts; rw [hr _ acts rfl rfl rfl]) | rw [hr _ _ rfl rfl rfl]
      exact Steps.refl _
    · show Q_rmMin n0 Z aC kC vC q0 q1 h0 _ s₁.heap _
      rw [e0]
      exact ⟨(congrArg (fun z => some (Value.long z)) (if_pos hc3_1).symm), N0, rfl⟩
  · obtain ⟨fs, hr, hrun, hended, hW, hsame⟩ := X0.leave (v := some (.long q0)) (fun h => by rw [Bd.returns] at h; cases h)
    refine ⟨_, _, pre2 _ ?_, hrun, hended, _, _, rfl, ?_, ⟨_, rfl⟩, hW, hsame.mono (by decide) (by decide)⟩
    · show Steps p.tables e below (s₁.setTop (mkF m 3 #[.val (.long q0), .second, .val (.long q1), .second] [(.int (lcmpW q0 q1))])) _
      refine XS.ifNo X0.here hx rfl (hb hby d9_3) rfl ((if0 _ _).trans (flt hc3_1).2.2.1) ?_
      show Steps p.tables e below (s₁.setTop (mkF m 6 #[.val (.long q0), .second, .val (.long q1), .second] [])) _
      refine XS.lloadN X0.here hx rfl (hb hby d9_6) rfl ?_
      show Steps p.tables e below (s₁.setTop (mkF m 7 #[.val (.long q0), .second, .val (.long q1), .second] [(.long q0)])) _
      refine XS.goto X0.here hx rfl (pc0 := 7) (pc' := 11) rfl (hb hby d9_7) (by decide) (by decide) ?_
      show Steps p.tables e below (s₁.setTop (mkF m 11 #[.val (.long q0), .second, .val (.long q1), .second] [(.long q0)])) _
      jvm_step X0.here [X0.here.top, hx, (hb hby d9_11), X0.method', Bd.returns, narrow]
      first | (intro acts; rw [hr _ acts rfl rfl rfl]) | rw [hr _ _ rfl rfl rfl]
      exact Steps.refl _
    · show Q_rmMin n0 Z aC kC vC q0 q1 h0 _ s₁.heap _
      rw [e0]
      exact ⟨(congrArg (fun z => some (Value.long z)) (if_neg hc3_1).symm), N0, rfl⟩
theorem d2_0 : decode jdk_30_method_1_code 0 = .ok (.aload_n 0, 1) := by decide +kernel
theorem d2_1 : decode jdk_30_method_1_code 1 = .ok (.invokespecial 1, 3) := by decide +kernel
theorem d2_4 : decode jdk_30_method_1_code 4 = .ok (.return_, 1) := by decide +kernel
theorem pn : plainName "java/lang/Record" = true := by first | (simp [plainName, overriddenIn]; done) | decide +kernel
abbrev MN_2 : MethodName := ⟨"java/lang/Record", "<init>", "()V"⟩
theorem ef_rmRecord (m : MethodId) (a9 : Addr) : entryFrame m #[(.ref a9)] 1 = mkF m 0 #[.val (.ref a9)] [] := by first | (simp [entryFrame, mkF, argsToLocals, Value.category]; done) | rfl
def Q_rmRecord (n0 : Nat) (Z : State) (aC : Addr) (kC : ClassId) (vC : List Value) (a9 : Addr) (h0 : Heap) (v : Option Value) (h : Heap) (L : List Loc) : Prop := v = none ∧ Fr n0 L ∧ h = h0
set_option maxRecDepth 65536 in
set_option maxHeartbeats 40000000 in
theorem rmRecord (l : Launch) (Z : State) (a0 : Array Value) (hw : ∀ d ∈ tables_1, d.before a0 Z = true) (ws : List Jvm.Cond) (aC : Addr) (kC : ClassId) (vC : List Value) (a9 : Addr) (h0 : Heap) (n0 : Nat) (O0 : Old Z n0 h0) (GL : GF Z aC kC vC) :
    MetFree l MN_2 (head1 (Jvm.Cond.code MN_2 jdk_30_method_1_code 1 none :: ws) ({ frames := 1, cells := 0, slots := 0, locals := 12 } : Room)) (fun a U => a = #[(.ref a9)] ∧ Z.Warmed39 U.vm ∧ U.heap = h0) (fun _ _ _ _ _ => True) (fun _ U o U' => ∃ v L, o = .returned v ∧ Q_rmRecord n0 Z aC kC vC a9 h0 v U'.heap L ∧ FrameEnd U o U' L ({ frames := 1, cells := 0, slots := 0, locals := 12 } : Room).cells ({ frames := 1, cells := 0, slots := 0, locals := 12 } : Room).slots) := by
  refine MetFree.of_bodySF (plainFor_of_name pn) hisR ?_
  intro p e s m args below meth c s₁ Bd hml0 hP hK
  obtain ⟨rfl, hZ, hh⟩ := hP
  have hx := Bd.exec
  have hby := Bd.bytes
  have hml : c.maxLocals = 1 := hml0
  have hown : s.vm.findClass "java/lang/Record" = some m.cls := findClass_of_methodNamed Bd.named
  have hnm := (name_of_methodNamed Bd.named Bd.method).1
  have X0 : Stand p l e ({ frames := 1, cells := 0, slots := 0, locals := 12 } : Room) s m #[(.ref a9)] below meth c s₁ [] 0 0 := Stand.of_body Bd
  have e0 : s₁.heap = h0 := by rw [← hh, Bd.state]; rfl
  have N0 := Fr.nil n0
  have pre0 : ∀ t, Steps p.tables e below (s₁.setTop (mkF m 0 #[.val (.ref a9)] [])) t → Steps p.tables e below (s₁.setTop (entryFrame m #[(.ref a9)] 1)) t := fun t k => castTop (ef_rmRecord m a9) k
  have GL' := GL
  obtain ⟨GSC, GVC, GPC⟩ := GL'
  obtain ⟨T1, X1, e1, st1⟩ := initO X0 hx hZ hown (Wd hw 13 rfl) (Wd hw 14 rfl) (Wd hw 15 rfl) e0 (g := (mkF m 1 #[.val (.ref a9)] [(.ref a9)])) rfl (by rw [hml]; rfl) rfl (hb hby d2_1) (by decide) (W := 0) (by show 2 * 0 + _ ≤ _; exact Nat.le_of_eq rfl) (by decide)
  obtain ⟨fs, hr, hrun, hended, hW, hsame⟩ := X1.leave (v := none) (fun _ => rfl)
  refine ⟨_, _, pre0 _ ?_, hrun, hended, _, _, rfl, ?_, ⟨_, rfl⟩, hW, hsame.mono (by decide) (by decide)⟩
  · show Steps p.tables e below (s₁.setTop (mkF m 0 #[.val (.ref a9)] [])) _
    refine XS.aloadN X0.here hx rfl (hb hby d2_0) rfl rfl ?_
    show Steps p.tables e below (s₁.setTop (mkF m 1 #[.val (.ref a9)] [(.ref a9)])) _
    refine st1 _ ?_
    show Steps p.tables e below (T1.setTop (mkF m 4 #[.val (.ref a9)] [])) _
    exact X1.returnOut hx Bd.returns (hb hby d2_4) hr
  · show Q_rmRecord n0 Z aC kC vC a9 h0 _ T1.heap _
    rw [e1]
    exact ⟨rfl, N0, rfl⟩
theorem d7_0 : decode jdk_18_method_1_code 0 = .ok (.aload_n 0, 1) := by decide +kernel
theorem d7_1 : decode jdk_18_method_1_code 1 = .ok (.invokespecial 1, 3) := by decide +kernel
theorem d7_4 : decode jdk_18_method_1_code 4 = .ok (.return_, 1) := by decide +kernel
theorem pnv1 : plainName "java/lang/Number" = true := by first | (simp [plainName, overriddenIn]; done) | decide +kernel
abbrev MN_3 : MethodName := ⟨"java/lang/Number", "<init>", "()V"⟩
def Q_rmNumber (n0 : Nat) (Z : State) (aC : Addr) (kC : ClassId) (vC : List Value) (a9 : Addr) (h0 : Heap) (v : Option Value) (h : Heap) (L : List Loc) : Prop := v = none ∧ Fr n0 L ∧ h = h0
set_option maxRecDepth 65536 in
set_option maxHeartbeats 40000000 in
theorem rmNumber (l : Launch) (Z : State) (a0 : Array Value) (hw : ∀ d ∈ tables_1, d.before a0 Z = true) (ws : List Jvm.Cond) (aC : Addr) (kC : ClassId) (vC : List Value) (a9 : Addr) (h0 : Heap) (n0 : Nat) (O0 : Old Z n0 h0) (GL : GF Z aC kC vC) :
    MetFree l MN_3 (head1 (Jvm.Cond.code MN_3 jdk_18_method_1_code 1 none :: ws) ({ frames := 1, cells := 0, slots := 0, locals := 12 } : Room)) (fun a U => a = #[(.ref a9)] ∧ Z.Warmed39 U.vm ∧ U.heap = h0) (fun _ _ _ _ _ => True) (fun _ U o U' => ∃ v L, o = .returned v ∧ Q_rmNumber n0 Z aC kC vC a9 h0 v U'.heap L ∧ FrameEnd U o U' L ({ frames := 1, cells := 0, slots := 0, locals := 12 } : Room).cells ({ frames := 1, cells := 0, slots := 0, locals := 12 } : Room).slots) := by
  refine MetFree.of_bodySF (plainFor_of_name pnv1) hisR ?_
  intro p e s m args below meth c s₁ Bd hml0 hP hK
  obtain ⟨rfl, hZ, hh⟩ := hP
  have hx := Bd.exec
  have hby := Bd.bytes
  have hml : c.maxLocals = 1 := hml0
  have hown : s.vm.findClass "java/lang/Number" = some m.cls := findClass_of_methodNamed Bd.named
  have hnm := (name_of_methodNamed Bd.named Bd.method).1
  have X0 : Stand p l e ({ frames := 1, cells := 0, slots := 0, locals := 12 } : Room) s m #[(.ref a9)] below meth c s₁ [] 0 0 := Stand.of_body Bd
  have e0 : s₁.heap = h0 := by rw [← hh, Bd.state]; rfl
  have N0 := Fr.nil n0
  have pre0 : ∀ t, Steps p.tables e below (s₁.setTop (mkF m 0 #[.val (.ref a9)] [])) t → Steps p.tables e below (s₁.setTop (entryFrame m #[(.ref a9)] 1)) t := fun t k => castTop (ef_rmRecord m a9) k
  have GL' := GL
  obtain ⟨GSC, GVC, GPC⟩ := GL'
  obtain ⟨T1, X1, e1, st1⟩ := initO X0 hx hZ hown (Wd hw 46 rfl) (Wd hw 14 rfl) (Wd hw 15 rfl) e0 (g := (mkF m 1 #[.val (.ref a9)] [(.ref a9)])) rfl (by rw [hml]; rfl) rfl (hb hby d7_1) (by decide) (W := 0) (by show 2 * 0 + _ ≤ _; exact Nat.le_of_eq rfl) (by decide)
  obtain ⟨fs, hr, hrun, hended, hW, hsame⟩ := X1.leave (v := none) (fun _ => rfl)
  refine ⟨_, _, pre0 _ ?_, hrun, hended, _, _, rfl, ?_, ⟨_, rfl⟩, hW, hsame.mono (by decide) (by decide)⟩
  · show Steps p.tables e below (s₁.setTop (mkF m 0 #[.val (.ref a9)] [])) _
    refine XS.aloadN X0.here hx rfl (hb hby d7_0) rfl rfl ?_
    show Steps p.tables e below (s₁.setTop (mkF m 1 #[.val (.ref a9)] [(.ref a9)])) _
    refine st1 _ ?_
    show Steps p.tables e below (T1.setTop (mkF m 4 #[.val (.ref a9)] [])) _
    exact X1.returnOut hx Bd.returns (hb hby d7_4) hr
  · show Q_rmNumber n0 Z aC kC vC a9 h0 _ T1.heap _
    rw [e1]
    exact ⟨rfl, N0, rfl⟩
theorem d1_0 : decode prog_55_method_1_code 0 = .ok (.aload_n 0, 1) := by decide +kernel
theorem d1_1 : decode prog_55_method_1_code 1 = .ok (.invokespecial 1, 3) := by decide +kernel
theorem pd : parseMethodDescriptor "()V" = some ⟨[], none⟩ := by decide +kernel
theorem d1_4 : decode prog_55_method_1_code 4 = .ok (.lload_n 1, 1) := by decide +kernel
theorem d1_5 : decode prog_55_method_1_code 5 = .ok (.lconst 0, 1) := by decide +kernel
theorem d1_6 : decode prog_55_method_1_code 6 = .ok (.lcmp, 1) := by decide +kernel
theorem d1_7 : decode prog_55_method_1_code 7 = .ok (.ifCond .lt 17, 3) := by decide +kernel
theorem d1_10 : decode prog_55_method_1_code 10 = .ok (.lload_n 3, 1) := by decide +kernel
theorem d1_11 : decode prog_55_method_1_code 11 = .ok (.ldc2_w 9, 3) := by decide +kernel
theorem d1_14 : decode prog_55_method_1_code 14 = .ok (.lcmp, 1) := by decide +kernel
theorem d1_15 : decode prog_55_method_1_code 15 = .ok (.ifCond .eq 24, 3) := by decide +kernel
theorem d1_39 : decode prog_55_method_1_code 39 = .ok (.aload_n 0, 1) := by decide +kernel
theorem d1_40 : decode prog_55_method_1_code 40 = .ok (.lload_n 1, 1) := by decide +kernel
theorem d1_41 : decode prog_55_method_1_code 41 = .ok (.putfield 20, 3) := by decide +kernel
theorem d1_44 : decode prog_55_method_1_code 44 = .ok (.aload_n 0, 1) := by decide +kernel
theorem d1_45 : decode prog_55_method_1_code 45 = .ok (.lload_n 3, 1) := by decide +kernel
theorem d1_46 : decode prog_55_method_1_code 46 = .ok (.putfield 24, 3) := by decide +kernel
theorem d1_49 : decode prog_55_method_1_code 49 = .ok (.return_, 1) := by decide +kernel
theorem d1_18 : decode prog_55_method_1_code 18 = .ok (.lload_n 3, 1) := by decide +kernel
theorem d1_19 : decode prog_55_method_1_code 19 = .ok (.lload_n 1, 1) := by decide +kernel
theorem d1_20 : decode prog_55_method_1_code 20 = .ok (.lcmp, 1) := by decide +kernel
theorem d1_21 : decode prog_55_method_1_code 21 = .ok (.ifCond .ge 18, 3) := by decide +kernel
theorem pnv2 : plainName "com/example/tracelint/tracelint/Interval" = true := by first | (simp [plainName, overriddenIn]; done) | decide +kernel
abbrev MN_4 : MethodName := ⟨"com/example/tracelint/tracelint/Interval", "<init>", "(JJ)V"⟩
theorem ef_rmIv (m : MethodId) (a1 : Addr) (q1 : Int64) (q2 : Int64) : entryFrame m #[(.ref a1), (.long q1), (.long q2)] 5 = mkF m 0 #[.val (.ref a1), .val (.long q1), .second, .val (.long q2), .second] [] := by first | (simp [entryFrame, mkF, argsToLocals, Value.category]; done) | rfl
def Q_rmIv (n0 : Nat) (Z : State) (aC : Addr) (kC : ClassId) (vC : List Value) (a1 : Addr) (q1 : Int64) (q2 : Int64) (h0 : Heap) (v : Option Value) (h : Heap) (L : List Loc) : Prop := v = none ∧ Fr n0 L ∧ Keep h0 h [a1] ∧ (Exa Z h a1 "com/example/tracelint/tracelint/Interval") ∧ (Fld Z h a1 "com/example/tracelint/tracelint/Interval" "min" "J" (.long q1)) ∧ (Fld Z h a1 "com/example/tracelint/tracelint/Interval" "max" "J" (.long q2))
set_option maxRecDepth 65536 in
set_option maxHeartbeats 40000000 in
theorem rmIv (l : Launch) (Z : State) (a0 : Array Value) (hw : ∀ d ∈ tables_1, d.before a0 Z = true) (ws : List Jvm.Cond) (aC : Addr) (kC : ClassId) (vC : List Value) (a1 : Addr) (q1 : Int64) (q2 : Int64) (h0 : Heap) (n0 : Nat) (O0 : Old Z n0 h0) (GL : GF Z aC kC vC) (E_a1 : Exa Z h0 a1 "com/example/tracelint/tracelint/Interval") (F_min_a1 : Fld Z h0 a1 "com/example/tracelint/tracelint/Interval" "min" "J" (.long (0 : Int64))) (F_max_a1 : Fld Z h0 a1 "com/example/tracelint/tracelint/Interval" "max" "J" (.long (0 : Int64))) (g_a1 : n0 ≤ a1) (hmin : ¬ ((lcmpW q1 (0 : Int64)) < (0 : Int32))) (hval : q2 = (-1 : Int64) ∨ ¬ ((lcmpW q2 q1) < (0 : Int32))) :
    MetFree l MN_4 (head1 (Jvm.Cond.code MN_4 prog_55_method_1_code 5 none :: ws) ({ frames := 2, cells := 0, slots := 0, locals := 24 } : Room)) (fun a U => a = #[(.ref a1), (.long q1), (.long q2)] ∧ Z.Warmed39 U.vm ∧ U.heap = h0) (fun _ _ _ _ _ => True) (fun _ U o U' => ∃ v L, o = .returned v ∧ Q_rmIv n0 Z aC kC vC a1 q1 q2 h0 v U'.heap L ∧ FrameEnd U o U' L ({ frames := 2, cells := 0, slots := 0, locals := 24 } : Room).cells ({ frames := 2, cells := 0, slots := 0, locals := 24 } : Room).slots) := by
  refine MetFree.of_bodySF (plainFor_of_name pnv2) hisR ?_
  intro p e s m args below meth c s₁ Bd hml0 hP hK
  obtain ⟨rfl, hZ, hh⟩ := hP
  have hx := Bd.exec
  have hby := Bd.bytes
  have hml : c.maxLocals = 5 := hml0
  have hown : s.vm.findClass "com/example/tracelint/tracelint/Interval" = some m.cls := findClass_of_methodNamed Bd.named
  have hnm := (name_of_methodNamed Bd.named Bd.method).1
  have X0 : Stand p l e ({ frames := 2, cells := 0, slots := 0, locals := 24 } : Room) s m #[(.ref a1), (.long q1), (.long q2)] below meth c s₁ [] 0 0 := Stand.of_body Bd
  have e0 : s₁.heap = h0 := by rw [← hh, Bd.state]; rfl
  have N0 := Fr.nil n0
  have pre0 : ∀ t, Steps p.tables e below (s₁.setTop (mkF m 0 #[.val (.ref a1), .val (.long q1), .second, .val (.long q2), .second] [])) t → Steps p.tables e below (s₁.setTop (entryFrame m #[(.ref a1), (.long q1), (.long q2)] 5)) t := fun t k => castTop (ef_rmIv m a1 q1 q2) k
  have GL' := GL
  obtain ⟨GSC, GVC, GPC⟩ := GL'
  obtain ⟨_, _, ⟨T1, L1, k1, n1⟩, -, X1, ⟨Lc1, hQ1, l1, y1, z1⟩, st1⟩ := X0.specialBack hx (y := MN_2) rfl hown (mvT hZ (Wd hw 8 rfl)) (mvT hZ (Wd hw 9 rfl)) (mvT hZ (Wd hw 12 rfl)) (by decide) (backOf (W := 0) (rmRecord l Z a0 hw [] aC kC vC (a1) (h0) n0 O0 GL) hZ (Wd hw 12 rfl) (Wd hw 11 rfl) (by decide) (by decide)) (g := (mkF m 1 #[.val (.ref a1), .val (.long q1), .second, .val (.long q2), .second] [(.ref a1)])) rfl (by rw [hml]; rfl) (Steps.refl _) (a := a1) (argsL := []) (rest := []) (lenOf pd rfl) rfl (by show 2 * 0 + _ ≤ _; exact Nat.le_of_eq rfl) (hb hby d1_1) (fun _ _ => ⟨rfl, e0, (by decide : 0 + 0 ≤ _), (by decide : 0 + 0 ≤ _)⟩)
  dsimp only [Pt.U, Pt.locs, Pt.cells, Pt.slots] at X1 l1 y1 z1 st1 hQ1
  subst l1 y1 z1
  obtain ⟨rfl, N1q, e1⟩ := hQ1
  have N1 := Fr.app N0 N1q
  have pre3 : ∀ t, Steps p.tables e below (T1.setTop (mkF m 15 #[.val (.ref a1), .val (.long q1), .second, .val (.long q2), .second] [(.int (lcmpW q2 (-1 : Int64)))])) t → Steps p.tables e below (s₁.setTop (entryFrame m #[(.ref a1), (.long q1), (.long q2)] 5)) t := fun t kt => by
    refine pre0 t ?_
    show Steps p.tables e below (s₁.setTop (mkF m 0 #[.val (.ref a1), .val (.long q1), .second, .val (.long q2), .second] [])) _
    refine XS.aloadN X0.here hx rfl (hb hby d1_0) rfl rfl ?_
    show Steps p.tables e below (s₁.setTop (mkF m 1 #[.val (.ref a1), .val (.long q1), .second, .val (.long q2), .second] [(.ref a1)])) _
    refine st1.trans ?_
    show Steps p.tables e below (T1.setTop (mkF m 4 #[.val (.ref a1), .val (.long q1), .second, .val (.long q2), .second] [])) _
    refine XS.lloadN X1.here hx rfl (hb hby d1_4) rfl ?_
    show Steps p.tables e below (T1.setTop (mkF m 5 #[.val (.ref a1), .val (.long q1), .second, .val (.long q2), .second] [(.long q1)])) _
    refine XS.lconst X1.here hx rfl (hb hby d1_5) ?_
    show Steps p.tables e below (T1.setTop (mkF m 6 #[.val (.ref a1), .val (.long q1), .second, .val (.long q2), .second] [(.long (0 : Int64)), (.long q1)])) _
    refine XS.lcmp X1.here hx rfl (hb hby d1_6) rfl ?_
    show Steps p.tables e below (T1.setTop (mkF m 7 #[.val (.ref a1), .val (.long q1), .second, .val (.long q2), .second] [(.int (lcmpW q1 (0 : Int64)))])) _
    refine XS.ifNo X1.here hx rfl (hb hby d1_7) rfl ((if0 _ _).trans (flt hmin).1) ?_
    show Steps p.tables e below (T1.setTop (mkF m 10 #[.val (.ref a1), .val (.long q1), .second, .val (.long q2), .second] [])) _
    refine XS.lloadN X1.here hx rfl (hb hby d1_10) rfl ?_
    show Steps p.tables e below (T1.setTop (mkF m 11 #[.val (.ref a1), .val (.long q1), .second, .val (.long q2), .second] [(.long q2)])) _
    refine X1.ldc2Long hx hown (mvT hZ (Wd hw 16 rfl)) (g := (mkF m 11 #[.val (.ref a1), .val (.long q1), .second, .val (.long q2), .second] [(.long q2)])) rfl (hb hby d1_11) _ ?_
    show Steps p.tables e below (T1.setTop (mkF m 14 #[.val (.ref a1), .val (.long q1), .second, .val (.long q2), .second] [(.long (-1 : Int64)), (.long q2)])) _
    refine XS.lcmp X1.here hx rfl (hb hby d1_14) rfl ?_
    exact kt
  by_cases hc15_2 : (lcmpW q2 (-1 : Int64)) = (0 : Int32)
  · obtain ⟨T4, h4, X4, e4, W4, st4⟩ := putF X1 hx hZ hown (host := "") (Or.inl (Wd hw 17 rfl)) Via.refl e1 F_min_a1 E_a1 (Or.inr ⟨(Wd hw 18 rfl), rfl, hnm⟩) (Wd hw 3 rfl) (ty := .long) (by decide) rfl rfl (g := (mkF m 41 #[.val (.ref a1), .val (.long q1), .second, .val (.long q2), .second] [(.long q1), (.ref a1)])) rfl rfl (hb hby d1_41)
    have Fw4 := F_min_a1.same W4
    have K4 : Keep h0 h4 [a1] := (Keep.refl h0 [a1]).wr W4 (Or.inl (List.mem_of_getElem? (i := 0) rfl))
    have O4 := O0.wr W4 g_a1
    have N4 := Fr.snoc X4 N1 g_a1
    obtain ⟨T5, h5, X5, e5, W5, st5⟩ := putF X4 hx hZ hown (host := "") (Or.inl (Wd hw 19 rfl)) Via.refl e4 (F_max_a1.other W4 (Or.inr (slot_ne (a0 := a0) (Or.inr (Wd hw 20 rfl)) (Or.inr (Wd hw 18 rfl)) (by decide) (t := .long) (t' := .long) (by decide) (by decide)))) (E_a1.wr W4) (Or.inr ⟨(Wd hw 20 rfl), rfl, hnm⟩) (Wd hw 3 rfl) (ty := .long) (by decide) rfl rfl (g := (mkF m 46 #[.val (.ref a1), .val (.long q1), .second, .val (.long q2), .second] [(.long q2), (.ref a1)])) rfl rfl (hb hby d1_46)
    have Fw5 := (F_max_a1.other W4 (Or.inr (slot_ne (a0 := a0) (Or.inr (Wd hw 20 rfl)) (Or.inr (Wd hw 18 rfl)) (by decide) (t := .long) (t' := .long) (by decide) (by decide)))).same W5
    have K5 : Keep h0 h5 [a1] := K4.wr W5 (Or.inl (List.mem_of_getElem? (i := 0) rfl))
    have O5 := O4.wr W5 g_a1
    have N5 := Fr.snoc X5 N4 g_a1
    obtain ⟨fs, hr, hrun, hended, hW, hsame⟩ := X5.leave (v := none) (fun _ => rfl)
    refine ⟨_, _, pre3 _ ?_, hrun, hended, _, _, rfl, ?_, ⟨_, rfl⟩, hW, hsame.mono (by decide) (by decide)⟩
    · show Steps p.tables e below (T1.setTop (mkF m 15 #[.val (.ref a1), .val (.long q1), .second, .val (.long q2), .second] [(.int (lcmpW q2 (-1 : Int64)))])) _
      refine XS.ifYes X1.here hx rfl (pc0 := 15) (pc' := 39) rfl (hb hby d1_15) rfl ((if0 _ _).trans (teq hc15_2).1) (by decide) (by decide) ?_
      show Steps p.tables e below (T1.setTop (mkF m 39 #[.val (.ref a1), .val (.long q1), .second, .val (.long q2), .second] [])) _
      refine XS.aloadN X1.here hx rfl (hb hby d1_39) rfl rfl ?_
      show Steps p.tables e below (T1.setTop (mkF m 40 #[.val (.ref a1), .val (.long q1), .second, .val (.long q2), .second] [(.ref a1)])) _
      refine XS.lloadN X1.here hx rfl (hb hby d1_40) rfl ?_
      show Steps p.tables e below (T1.setTop (mkF m 41 #[.val (.ref a1), .val (.long q1), .second, .val (.long q2), .second] [(.long q1), (.ref a1)])) _
      refine st4 _ ?_
      show Steps p.tables e below (T4.setTop (mkF m 44 #[.val (.ref a1), .val (.long q1), .second, .val (.long q2), .second] [])) _
      refine XS.aloadN X4.here hx rfl (hb hby d1_44) rfl rfl ?_
      show Steps p.tables e below (T4.setTop (mkF m 45 #[.val (.ref a1), .val (.long q1), .second, .val (.long q2), .second] [(.ref a1)])) _
      refine XS.lloadN X4.here hx rfl (hb hby d1_45) rfl ?_
      show Steps p.tables e below (T4.setTop (mkF m 46 #[.val (.ref a1), .val (.long q1), .second, .val (.long q2), .second] [(.long q2), (.ref a1)])) _
      refine st5 _ ?_
      show Steps p.tables e below (T5.setTop (mkF m 49 #[.val (.ref a1), .val (.long q1), .second, .val (.long q2), .second] [])) _
      exact X5.returnOut hx Bd.returns (hb hby d1_49) hr
    · show Q_rmIv n0 Z aC kC vC a1 q1 q2 h0 _ T5.heap _
      rw [e5]
      exact ⟨rfl, N5, K5, ((E_a1.wr W4).wr W5), (Fw4.other W5 (Or.inr (slot_ne (a0 := a0) (Or.inr (Wd hw 18 rfl)) (Or.inr (Wd hw 20 rfl)) (by decide) (t := .long) (t' := .long) (by decide) (by decide)))), Fw5⟩
  · have hnl : ¬ ((lcmpW q2 q1) < (0 : Int32)) := (hval.resolve_left fun q => hc15_2 (by rw [q]; decide))
    obtain ⟨T6, h6, X6, e6, W6, st6⟩ := putF X1 hx hZ hown (host := "") (Or.inl (Wd hw 17 rfl)) Via.refl e1 F_min_a1 E_a1 (Or.inr ⟨(Wd hw 18 rfl), rfl, hnm⟩) (Wd hw 3 rfl) (ty := .long) (by decide) rfl rfl (g := (mkF m 41 #[.val (.ref a1), .val (.long q1), .second, .val (.long q2), .second] [(.long q1), (.ref a1)])) rfl rfl (hb hby d1_41)
    have Fw6 := F_min_a1.same W6
    have K6 : Keep h0 h6 [a1] := (Keep.refl h0 [a1]).wr W6 (Or.inl (List.mem_of_getElem? (i := 0) rfl))
    have O6 := O0.wr W6 g_a1
    have N6 := Fr.snoc X6 N1 g_a1
    obtain ⟨T7, h7, X7, e7, W7, st7⟩ := putF X6 hx hZ hown (host := "") (Or.inl (Wd hw 19 rfl)) Via.refl e6 (F_max_a1.other W6 (Or.inr (slot_ne (a0 := a0) (Or.inr (Wd hw 20 rfl)) (Or.inr (Wd hw 18 rfl)) (by decide) (t := .long) (t' := .long) (by decide) (by decide)))) (E_a1.wr W6) (Or.inr ⟨(Wd hw 20 rfl), rfl, hnm⟩) (Wd hw 3 rfl) (ty := .long) (by decide) rfl rfl (g := (mkF m 46 #[.val (.ref a1), .val (.long q1), .second, .val (.long q2), .second] [(.long q2), (.ref a1)])) rfl rfl (hb hby d1_46)
    have Fw7 := (F_max_a1.other W6 (Or.inr (slot_ne (a0 := a0) (Or.inr (Wd hw 20 rfl)) (Or.inr (Wd hw 18 rfl)) (by decide) (t := .long) (t' := .long) (by decide) (by decide)))).same W7
    have K7 : Keep h0 h7 [a1] := K6.wr W7 (Or.inl (List.mem_of_getElem? (i := 0) rfl))
    have O7 := O6.wr W7 g_a1
    have N7 := Fr.snoc X7 N6 g_a1
    obtain ⟨fs, hr, hrun, hended, hW, hsame⟩ := X7.leave (v := none) (fun _ => rfl)
    refine ⟨_, _, pre3 _ ?_, hrun, hended, _, _, rfl, ?_, ⟨_, rfl⟩, hW, hsame.mono (by decide) (by decide)⟩
    · show Steps p.tables e below (T1.setTop (mkF m 15 #[.val (.ref a1), .val (.long q1), .second, .val (.long q2), .second] [(.int (lcmpW q2 (-1 : Int64)))])) _
      refine XS.ifNo X1.here hx rfl (hb hby d1_15) rfl ((if0 _ _).trans (feq hc15_2).1) ?_
      show Steps p.tables e below (T1.setTop (mkF m 18 #[.val (.ref a1), .val (.long q1), .second, .val (.long q2), .second] [])) _
      refine XS.lloadN X1.here hx rfl (hb hby d1_18) rfl ?_
      show Steps p.tables e below (T1.setTop (mkF m 19 #[.val (.ref a1), .val (.long q1), .second, .val (.long q2), .second] [(.long q2)])) _
      refine XS.lloadN X1.here hx rfl (hb hby d1_19) rfl ?_
      show Steps p.tables e below (T1.setTop (mkF m 20 #[.val (.ref a1), .val (.long q1), .second, .val (.long q2), .second] [(.long q1), (.long q2)])) _
      refine XS.lcmp X1.here hx rfl (hb hby d1_20) rfl ?_
      show Steps p.tables e below (T1.setTop (mkF m 21 #[.val (.ref a1), .val (.long q1), .second, .val (.long q2), .second] [(.int (lcmpW q2 q1))])) _
      refine XS.ifYes X1.here hx rfl (pc0 := 21) (pc' := 39) rfl (hb hby d1_21) rfl ((if0 _ _).trans (flt hnl).2.1) (by decide) (by decide) ?_
      show Steps p.tables e below (T1.setTop (mkF m 39 #[.val (.ref a1), .val (.long q1), .second, .val (.long q2), .second] [])) _
      refine XS.aloadN X1.here hx rfl (hb hby d1_39) rfl rfl ?_
      show Steps p.tables e below (T1.setTop (mkF m 40 #[.val (.ref a1), .val (.long q1), .second, .val (.long q2), .second] [(.ref a1)])) _
      refine XS.lloadN X1.here hx rfl (hb hby d1_40) rfl ?_
      show Steps p.tables e below (T1.setTop (mkF m 41 #[.val (.ref a1), .val (.long q1), .second, .val (.long q2), .second] [(.long q1), (.ref a1)])) _
      refine st6 _ ?_
      show Steps p.tables e below (T6.setTop (mkF m 44 #[.val (.ref a1), .val (.long q1), .second, .val (.long q2), .second] [])) _
      refine XS.aloadN X6.here hx rfl (hb hby d1_44) rfl rfl ?_
      show Steps p.tables e below (T6.setTop (mkF m 45 #[.val (.ref a1), .val (.long q1), .second, .val (.long q2), .second] [(.ref a1)])) _
      refine XS.lloadN X6.here hx rfl (hb hby d1_45) rfl ?_
      show Steps p.tables e below (T6.setTop (mkF m 46 #[.val (.ref a1), .val (.long q1), .second, .val (.long q2), .second] [(.long q2), (.ref a1)])) _
      refine st7 _ ?_
      show Steps p.tables e below (T7.setTop (mkF m 49 #[.val (.ref a1), .val (.long q1), .second, .val (.long q2), .second] [])) _
      exact X7.returnOut hx Bd.returns (hb hby d1_49) hr
    · show Q_rmIv n0 Z aC kC vC a1 q1 q2 h0 _ T7.heap _
      rw [e7]
      exact ⟨rfl, N7, K7, ((E_a1.wr W6).wr W7), (Fw6.other W7 (Or.inr (slot_ne (a0 := a0) (Or.inr (Wd hw 18 rfl)) (Or.inr (Wd hw 20 rfl)) (by decide) (t := .long) (t' := .long) (by decide) (by decide)))), Fw7⟩
theorem d6_0 : decode jdk_35_method_26_code 0 = .ok (.aload_n 0, 1) := by decide +kernel
theorem d6_1 : decode jdk_35_method_26_code 1 = .ok (.invokespecial 270, 3) := by decide +kernel
theorem d6_4 : decode jdk_35_method_26_code 4 = .ok (.aload_n 0, 1) := by decide +kernel
theorem d6_5 : decode jdk_35_method_26_code 5 = .ok (.lload_n 1, 1) := by decide +kernel
theorem d6_6 : decode jdk_35_method_26_code 6 = .ok (.putfield 273, 3) := by decide +kernel
theorem d6_9 : decode jdk_35_method_26_code 9 = .ok (.return_, 1) := by decide +kernel
theorem pnv3 : plainName "java/lang/Long" = true := by first | (simp [plainName, overriddenIn]; done) | decide +kernel
abbrev MN_5 : MethodName := ⟨"java/lang/Long", "<init>", "(J)V"⟩
theorem ef_rmLg (m : MethodId) (a1 : Addr) (q1 : Int64) : entryFrame m #[(.ref a1), (.long q1)] 3 = mkF m 0 #[.val (.ref a1), .val (.long q1), .second] [] := by first | (simp [entryFrame, mkF, argsToLocals, Value.category]; done) | rfl
def Q_rmLg (n0 : Nat) (Z : State) (aC : Addr) (kC : ClassId) (vC : List Value) (a1 : Addr) (q1 : Int64) (h0 : Heap) (v : Option Value) (h : Heap) (L : List Loc) : Prop := v = none ∧ Fr n0 L ∧ Keep h0 h [a1] ∧ (Exa Z h a1 "java/lang/Long")
set_option maxRecDepth 65536 in
set_option maxHeartbeats 40000000 in
theorem rmLg (l : Launch) (Z : State) (a0 : Array Value) (hw : ∀ d ∈ tables_1, d.before a0 Z = true) (ws : List Jvm.Cond) (aC : Addr) (kC : ClassId) (vC : List Value) (a1 : Addr) (q1 : Int64) (h0 : Heap) (n0 : Nat) (O0 : Old Z n0 h0) (GL : GF Z aC kC vC) (E_a1 : Exa Z h0 a1 "java/lang/Long") (F_value_a1 : Fld Z h0 a1 "java/lang/Long" "value" "J" (.long (0 : Int64))) (g_a1 : n0 ≤ a1) :
    MetFree l MN_5 (head1 (Jvm.Cond.code MN_5 jdk_35_method_26_code 3 none :: ws) ({ frames := 2, cells := 0, slots := 0, locals := 24 } : Room)) (fun a U => a = #[(.ref a1), (.long q1)] ∧ Z.Warmed39 U.vm ∧ U.heap = h0) (fun _ _ _ _ _ => True) (fun _ U o U' => ∃ v L, o = .returned v ∧ Q_rmLg n0 Z aC kC vC a1 q1 h0 v U'.heap L ∧ FrameEnd U o U' L ({ frames := 2, cells := 0, slots := 0, locals := 24 } : Room).cells ({ frames := 2, cells := 0, slots := 0, locals := 24 } : Room).slots) := by
  refine MetFree.of_bodySF (plainFor_of_name pnv3) hisR ?_
  intro p e s m args below meth c s₁ Bd hml0 hP hK
  obtain ⟨rfl, hZ, hh⟩ := hP
  have hx := Bd.exec
  have hby := Bd.bytes
  have hml : c.maxLocals = 3 := hml0
  have hown : s.vm.findClass "java/lang/Long" = some m.cls := findClass_of_methodNamed Bd.named
  have hnm := (name_of_methodNamed Bd.named Bd.method).1
  have X0 : Stand p l e ({ frames := 2, cells := 0, slots := 0, locals := 24 } : Room) s m #[(.ref a1), (.long q1)] below meth c s₁ [] 0 0 := Stand.of_body Bd
  have e0 : s₁.heap = h0 := by rw [← hh, Bd.state]; rfl
  have N0 := Fr.nil n0
  have pre0 : ∀ t, Steps p.tables e below (s₁.setTop (mkF m 0 #[.val (.ref a1), .val (.long q1), .second] [])) t → Steps p.tables e below (s₁.setTop (entryFrame m #[(.ref a1), (.long q1)] 3)) t := fun t k => castTop (ef_rmLg m a1 q1) k
  have GL' := GL
  obtain ⟨GSC, GVC, GPC⟩ := GL'
  obtain ⟨_, _, ⟨T1, L1, k1, n1⟩, -, X1, ⟨Lc1, hQ1, l1, y1, z1⟩, st1⟩ := X0.specialBack hx (y := MN_3) rfl hown (mvT hZ (Wd hw 40 rfl)) (mvT hZ (Wd hw 41 rfl)) (mvT hZ (Wd hw 45 rfl)) (by decide) (backOf (W := 0) (rmNumber l Z a0 hw [] aC kC vC (a1) (h0) n0 O0 GL) hZ (Wd hw 45 rfl) (Wd hw 44 rfl) (by decide) (by decide)) (g := (mkF m 1 #[.val (.ref a1), .val (.long q1), .second] [(.ref a1)])) rfl (by rw [hml]; rfl) (Steps.refl _) (a := a1) (argsL := []) (rest := []) (lenOf pd rfl) rfl (by show 2 * 0 + _ ≤ _; exact Nat.le_of_eq rfl) (hb hby d6_1) (fun _ _ => ⟨rfl, e0, (by decide : 0 + 0 ≤ _), (by decide : 0 + 0 ≤ _)⟩)
  dsimp only [Pt.U, Pt.locs, Pt.cells, Pt.slots] at X1 l1 y1 z1 st1 hQ1
  subst l1 y1 z1
  obtain ⟨rfl, N1q, e1⟩ := hQ1
  have N1 := Fr.app N0 N1q
  obtain ⟨T2, h2, X2, e2, W2, st2⟩ := putF X1 hx hZ hown (host := "") (Or.inl (Wd hw 47 rfl)) Via.refl e1 F_value_a1 E_a1 (Or.inr ⟨(Wd hw 48 rfl), rfl, hnm⟩) (Wd hw 35 rfl) (ty := .long) (by decide) rfl rfl (g := (mkF m 6 #[.val (.ref a1), .val (.long q1), .second] [(.long q1), (.ref a1)])) rfl rfl (hb hby d6_6)
  have Fw2 := F_value_a1.same W2
  have K2 : Keep h0 h2 [a1] := (Keep.refl h0 [a1]).wr W2 (Or.inl (List.mem_of_getElem? (i := 0) rfl))
  have O2 := O0.wr W2 g_a1
  have N2 := Fr.snoc X2 N1 g_a1
  obtain ⟨fs, hr, hrun, hended, hW, hsame⟩ := X2.leave (v := none) (fun _ => rfl)
  refine ⟨_, _, pre0 _ ?_, hrun, hended, _, _, rfl, ?_, ⟨_, rfl⟩, hW, hsame.mono (by decide) (by decide)⟩
  · show Steps p.tables e below (s₁.setTop (mkF m 0 #[.val (.ref a1), .val (.long q1), .second] [])) _
    refine XS.aloadN X0.here hx rfl (hb hby d6_0) rfl rfl ?_
    show Steps p.tables e below (s₁.setTop (mkF m 1 #[.val (.ref a1), .val (.long q1), .second] [(.ref a1)])) _
    refine st1.trans ?_
    show Steps p.tables e below (T1.setTop (mkF m 4 #[.val (.ref a1), .val (.long q1), .second] [])) _
    refine XS.aloadN X1.here hx rfl (hb hby d6_4) rfl rfl ?_
    show Steps p.tables e below (T1.setTop (mkF m 5 #[.val (.ref a1), .val (.long q1), .second] [(.ref a1)])) _
    refine XS.lloadN X1.here hx rfl (hb hby d6_5) rfl ?_
    show Steps p.tables e below (T1.setTop (mkF m 6 #[.val (.ref a1), .val (.long q1), .second] [(.long q1), (.ref a1)])) _
    refine st2 _ ?_
    show Steps p.tables e below (T2.setTop (mkF m 9 #[.val (.ref a1), .val (.long q1), .second] [])) _
    exact X2.returnOut hx Bd.returns (hb hby d6_9) hr
  · show Q_rmLg n0 Z aC kC vC a1 q1 h0 _ T2.heap _
    rw [e2]
    exact ⟨rfl, N2, K2, (E_a1.wr W2)⟩
theorem d5_0 : decode jdk_35_method_24_code 0 = .ok (.sipush 128, 3) := by decide +kernel
theorem d5_3 : decode jdk_35_method_24_code 3 = .ok (.istore_n 2, 1) := by decide +kernel
theorem d5_4 : decode jdk_35_method_24_code 4 = .ok (.lload_n 0, 1) := by decide +kernel
theorem d5_5 : decode jdk_35_method_24_code 5 = .ok (.ldc2_w 230, 3) := by decide +kernel
theorem d5_8 : decode jdk_35_method_24_code 8 = .ok (.lcmp, 1) := by decide +kernel
theorem d5_9 : decode jdk_35_method_24_code 9 = .ok (.ifCond .lt 22, 3) := by decide +kernel
theorem d5_31 : decode jdk_35_method_24_code 31 = .ok (.new 1, 3) := by decide +kernel
theorem d5_34 : decode jdk_35_method_24_code 34 = .ok (.dup, 1) := by decide +kernel
theorem d5_35 : decode jdk_35_method_24_code 35 = .ok (.lload_n 0, 1) := by decide +kernel
theorem d5_36 : decode jdk_35_method_24_code 36 = .ok (.invokespecial 240, 3) := by decide +kernel
theorem pdv1 : parseMethodDescriptor "(J)V" = some ⟨[.long], none⟩ := by decide +kernel
theorem d5_39 : decode jdk_35_method_24_code 39 = .ok (.areturn, 1) := by decide +kernel
theorem d5_12 : decode jdk_35_method_24_code 12 = .ok (.lload_n 0, 1) := by decide +kernel
theorem d5_13 : decode jdk_35_method_24_code 13 = .ok (.ldc2_w 232, 3) := by decide +kernel
theorem d5_16 : decode jdk_35_method_24_code 16 = .ok (.lcmp, 1) := by decide +kernel
theorem d5_17 : decode jdk_35_method_24_code 17 = .ok (.ifCond .gt 14, 3) := by decide +kernel
theorem d5_20 : decode jdk_35_method_24_code 20 = .ok (.getstatic 234, 3) := by decide +kernel
theorem d5_23 : decode jdk_35_method_24_code 23 = .ok (.lload_n 0, 1) := by decide +kernel
theorem d5_24 : decode jdk_35_method_24_code 24 = .ok (.l2i, 1) := by decide +kernel
theorem d5_25 : decode jdk_35_method_24_code 25 = .ok (.sipush 128, 3) := by decide +kernel
theorem d5_28 : decode jdk_35_method_24_code 28 = .ok (.iadd, 1) := by decide +kernel
theorem d5_29 : decode jdk_35_method_24_code 29 = .ok (.aaload, 1) := by decide +kernel
theorem d5_30 : decode jdk_35_method_24_code 30 = .ok (.areturn, 1) := by decide +kernel
abbrev MN_6 : MethodName := ⟨"java/lang/Long", "valueOf", "(J)Ljava/lang/Long;"⟩
theorem ef_rmVal (m : MethodId) (q0 : Int64) : entryFrame m #[(.long q0)] 3 = mkF m 0 #[.val (.long q0), .second, .unset] [] := by first | (simp [entryFrame, mkF, argsToLocals, Value.category]; done) | rfl
def Q_rmVal (n0 : Nat) (Z : State) (aC : Addr) (kC : ClassId) (vC : List Value) (q0 : Int64) (h0 : Heap) (v : Option Value) (h : Heap) (L : List Loc) : Prop := ∃ b : Addr, v = some (.ref b) ∧ Fr n0 L ∧ Keep h0 h [] ∧ (Exa Z h b "java/lang/Long")
set_option maxRecDepth 65536 in
set_option maxHeartbeats 40000000 in
theorem rmVal (l : Launch) (Z : State) (a0 : Array Value) (hw : ∀ d ∈ tables_1, d.before a0 Z = true) (ws : List Jvm.Cond) (aC : Addr) (kC : ClassId) (vC : List Value) (q0 : Int64) (h0 : Heap) (n0 : Nat) (O0 : Old Z n0 h0) (GL : GF Z aC kC vC) :
    MetFree l MN_6 (head1 (Jvm.Cond.code MN_6 jdk_35_method_24_code 3 (some (.object "java/lang/Long")) :: ws) ({ frames := 3, cells := 1, slots := 1, locals := 39 } : Room)) (fun a U => a = #[(.long q0)] ∧ Z.Warmed39 U.vm ∧ U.heap = h0) (fun _ _ _ _ _ => True) (fun _ U o U' => ∃ v L, o = .returned v ∧ Q_rmVal n0 Z aC kC vC q0 h0 v U'.heap L ∧ FrameEnd U o U' L ({ frames := 3, cells := 1, slots := 1, locals := 39 } : Room).cells ({ frames := 3, cells := 1, slots := 1, locals := 39 } : Room).slots) := by
  refine MetFree.of_bodySF (plainFor_of_name pnv3) hisR ?_
  intro p e s m args below meth c s₁ Bd hml0 hP hK
  obtain ⟨rfl, hZ, hh⟩ := hP
  have hx := Bd.exec
  have hby := Bd.bytes
  have hml : c.maxLocals = 3 := hml0
  have hown : s.vm.findClass "java/lang/Long" = some m.cls := findClass_of_methodNamed Bd.named
  have hnm := (name_of_methodNamed Bd.named Bd.method).1
  have X0 : Stand p l e ({ frames := 3, cells := 1, slots := 1, locals := 39 } : Room) s m #[(.long q0)] below meth c s₁ [] 0 0 := Stand.of_body Bd
  have e0 : s₁.heap = h0 := by rw [← hh, Bd.state]; rfl
  have N0 := Fr.nil n0
  have pre0 : ∀ t, Steps p.tables e below (s₁.setTop (mkF m 0 #[.val (.long q0), .second, .unset] [])) t → Steps p.tables e below (s₁.setTop (entryFrame m #[(.long q0)] 3)) t := fun t k => castTop (ef_rmVal m q0) k
  have GL' := GL
  obtain ⟨GSC, GVC, GPC⟩ := GL'
  have pre2 : ∀ t, Steps p.tables e below (s₁.setTop (mkF m 9 #[.val (.long q0), .second, .val (.int (128 : Int32))] [(.int (lcmpW q0 (-128 : Int64)))])) t → Steps p.tables e below (s₁.setTop (entryFrame m #[(.long q0)] 3)) t := fun t kt => by
    refine pre0 t ?_
    show Steps p.tables e below (s₁.setTop (mkF m 0 #[.val (.long q0), .second, .unset] [])) _
    refine XS.sipush X0.here hx rfl (hb hby d5_0) ?_
    show Steps p.tables e below (s₁.setTop (mkF m 3 #[.val (.long q0), .second, .unset] [(.int (128 : Int32))])) _
    refine XS.istoreN X0.here hx rfl (hb hby d5_3) rfl (l' := #[.val (.long q0), .second, .val (.int (128 : Int32))]) rfl ?_
    show Steps p.tables e below (s₁.setTop (mkF m 4 #[.val (.long q0), .second, .val (.int (128 : Int32))] [])) _
    refine XS.lloadN X0.here hx rfl (hb hby d5_4) rfl ?_
    show Steps p.tables e below (s₁.setTop (mkF m 5 #[.val (.long q0), .second, .val (.int (128 : Int32))] [(.long q0)])) _
    refine X0.ldc2Long hx hown (mvT hZ (Wd hw 32 rfl)) (g := (mkF m 5 #[.val (.long q0), .second, .val (.int (128 : Int32))] [(.long q0)])) rfl (hb hby d5_5) _ ?_
    show Steps p.tables e below (s₁.setTop (mkF m 8 #[.val (.long q0), .second, .val (.int (128 : Int32))] [(.long (-128 : Int64)), (.long q0)])) _
    refine XS.lcmp X0.here hx rfl (hb hby d5_8) rfl ?_
    exact kt
  by_cases hc9_1 : (lcmpW q0 (-128 : Int64)) < (0 : Int32)
  · obtain ⟨T3, h3, X3, e3, E3, A3, D3, -, st3⟩ := newO X0 hx hZ hown (Wd hw 34 rfl) (Wd hw 35 rfl) (Wd hw 30 rfl) e0 (g := (mkF m 31 #[.val (.long q0), .second, .val (.int (128 : Int32))] [])) rfl (hb hby d5_31) (by decide) (by decide)
    obtain ⟨b3, g3⟩ : ∃ z, z = h0.size := ⟨_, rfl⟩
    rw [← g3] at A3 D3 st3
    have g_b3 : n0 ≤ b3 := Nat.le_trans (own_sz O0) (Nat.le_of_eq g3.symm)
    have sz_b3 : h0.size ≤ b3 := Nat.le_trans (Keep.refl h0 []).1 (Nat.le_of_eq g3.symm)
    have K3 : Keep h0 h3 [] := (Keep.refl h0 []).ext E3
    have O3 := O0.ext E3
    have F_value_b3 : Fld Z h3 b3 "java/lang/Long" "value" "J" (.long (0 : Int64)) := D3 (Or.inr (Wd hw 48 rfl)) (ty := .long) (by decide)
    obtain ⟨_, _, ⟨T4, L4, k4, n4⟩, -, X4, ⟨Lc4, hQ4, l4, y4, z4⟩, st4⟩ := X3.specialBack hx (y := MN_5) rfl hown (mvT hZ (Wd hw 36 rfl)) (mvT hZ (Wd hw 37 rfl)) (mvT hZ (Wd hw 39 rfl)) (by decide) (backOf (W := 1) (rmLg l Z a0 hw [] aC kC vC (b3) (q0) (h3) n0 O3 GL A3 F_value_b3 g_b3) hZ (Wd hw 39 rfl) (Wd hw 30 rfl) (by decide) (by decide)) (g := (mkF m 36 #[.val (.long q0), .second, .val (.int (128 : Int32))] [(.long q0), (.ref b3), (.ref b3)])) rfl (by rw [hml]; rfl) (Steps.refl _) (a := b3) (argsL := [(.long q0)]) (rest := [(.ref b3)]) (lenOf pdv1 rfl) rfl (by show 2 * 0 + _ ≤ _; exact Nat.le_of_eq rfl) (hb hby d5_36) (fun _ _ => ⟨rfl, e3, (by decide : 1 + 0 ≤ _), (by decide : 1 + 0 ≤ _)⟩)
    dsimp only [Pt.U, Pt.locs, Pt.cells, Pt.slots] at X4 l4 y4 z4 st4 hQ4
    subst l4 y4 z4
    obtain ⟨rfl, N4q, Kc4, P4_0⟩ := hQ4
    have K4 : Keep h0 T4.heap [] := K3.trans Kc4 (allS (Or.inr sz_b3) all0)
    have O4 := O3.keep Kc4 (allS g_b3 all0)
    have N4 := Fr.app N0 N4q
    obtain ⟨fs, hr, hrun, hended, hW, hsame⟩ := X4.leave (v := some (.ref b3)) (fun h => by rw [Bd.returns] at h; cases h)
    refine ⟨_, _, pre2 _ ?_, hrun, hended, _, _, rfl, ?_, ⟨_, rfl⟩, hW, hsame.mono (by decide) (by decide)⟩
    · show Steps p.tables e below (s₁.setTop (mkF m 9 #[.val (.long q0), .second, .val (.int (128 : Int32))] [(.int (lcmpW q0 (-128 : Int64)))])) _
      refine XS.ifYes X0.here hx rfl (pc0 := 9) (pc' := 31) rfl (hb hby d5_9) rfl ((if0 _ _).trans (tlt hc9_1).1) (by decide) (by decide) ?_
      show Steps p.tables e below (s₁.setTop (mkF m 31 #[.val (.long q0), .second, .val (.int (128 : Int32))] [])) _
      refine st3 _ ?_
      show Steps p.tables e below (T3.setTop (mkF m 34 #[.val (.long q0), .second, .val (.int (128 : Int32))] [(.ref b3)])) _
      refine XS.dup X3.here hx rfl (hb hby d5_34) rfl rfl ?_
      show Steps p.tables e below (T3.setTop (mkF m 35 #[.val (.long q0), .second, .val (.int (128 : Int32))] [(.ref b3), (.ref b3)])) _
      refine XS.lloadN X3.here hx rfl (hb hby d5_35) rfl ?_
      show Steps p.tables e below (T3.setTop (mkF m 36 #[.val (.long q0), .second, .val (.int (128 : Int32))] [(.long q0), (.ref b3), (.ref b3)])) _
      refine st4.trans ?_
      show Steps p.tables e below (T4.setTop (mkF m 39 #[.val (.long q0), .second, .val (.int (128 : Int32))] [(.ref b3)])) _
      jvm_step X4.here [X4.here.top, hx, (hb hby d5_39), X4.method', Bd.returns, Value.isRef, FieldType.isReference]
      first | (intro acts; rw [hr _ acts rfl rfl rfl]) | rw [hr _ _ rfl rfl rfl]
      exact Steps.refl _
    · show Q_rmVal n0 Z aC kC vC q0 h0 _ T4.heap _
      exact ⟨b3, rfl, N4, K4, P4_0⟩
  · have pre6 : ∀ t, Steps p.tables e below (s₁.setTop (mkF m 17 #[.val (.long q0), .second, .val (.int (128 : Int32))] [(.int (lcmpW q0 (127 : Int64)))])) t → Steps p.tables e below (s₁.setTop (entryFrame m #[(.long q0)] 3)) t := fun t kt => by
      refine pre2 t ?_
      show Steps p.tables e below (s₁.setTop (mkF m 9 #[.val (.long q0), .second, .val (.int (128 : Int32))] [(.int (lcmpW q0 (-128 : Int64)))])) _
      refine XS.ifNo X0.here hx rfl (hb hby d5_9) rfl ((if0 _ _).trans (flt hc9_1).1) ?_
      show Steps p.tables e below (s₁.setTop (mkF m 12 #[.val (.long q0), .second, .val (.int (128 : Int32))] [])) _
      refine XS.lloadN X0.here hx rfl (hb hby d5_12) rfl ?_
      show Steps p.tables e below (s₁.setTop (mkF m 13 #[.val (.long q0), .second, .val (.int (128 : Int32))] [(.long q0)])) _
      refine X0.ldc2Long hx hown (mvT hZ (Wd hw 33 rfl)) (g := (mkF m 13 #[.val (.long q0), .second, .val (.int (128 : Int32))] [(.long q0)])) rfl (hb hby d5_13) _ ?_
      show Steps p.tables e below (s₁.setTop (mkF m 16 #[.val (.long q0), .second, .val (.int (128 : Int32))] [(.long (127 : Int64)), (.long q0)])) _
      refine XS.lcmp X0.here hx rfl (hb hby d5_16) rfl ?_
      exact kt
    by_cases hc17_5 : (0 : Int32) < (lcmpW q0 (127 : Int64))
    · obtain ⟨T7, h7, X7, e7, E7, A7, D7, -, st7⟩ := newO X0 hx hZ hown (Wd hw 34 rfl) (Wd hw 35 rfl) (Wd hw 30 rfl) e0 (g := (mkF m 31 #[.val (.long q0), .second, .val (.int (128 : Int32))] [])) rfl (hb hby d5_31) (by decide) (by decide)
      obtain ⟨b7, g7⟩ : ∃ z, z = h0.size := ⟨_, rfl⟩
      rw [← g7] at A7 D7 st7
      have g_b7 : n0 ≤ b7 := Nat.le_trans (own_sz O0) (Nat.le_of_eq g7.symm)
      have sz_b7 : h0.size ≤ b7 := Nat.le_trans (Keep.refl h0 []).1 (Nat.le_of_eq g7.symm)
      have K7 : Keep h0 h7 [] := (Keep.refl h0 []).ext E7
      have O7 := O0.ext E7
      have F_value_b7 : Fld Z h7 b7 "java/lang/Long" "value" "J" (.long (0 : Int64)) := D7 (Or.inr (Wd hw 48 rfl)) (ty := .long) (by decide)
      obtain ⟨_, _, ⟨T8, L8, k8, n8⟩, -, X8, ⟨Lc8, hQ8, l8, y8, z8⟩, st8⟩ := X7.specialBack hx (y := MN_5) rfl hown (mvT hZ (Wd hw 36 rfl)) (mvT hZ (Wd hw 37 rfl)) (mvT hZ (Wd hw 39 rfl)) (by decide) (backOf (W := 1) (rmLg l Z a0 hw [] aC kC vC (b7) (q0) (h7) n0 O7 GL A7 F_value_b7 g_b7) hZ (Wd hw 39 rfl) (Wd hw 30 rfl) (by decide) (by decide)) (g := (mkF m 36 #[.val (.long q0), .second, .val (.int (128 : Int32))] [(.long q0), (.ref b7), (.ref b7)])) rfl (by rw [hml]; rfl) (Steps.refl _) (a := b7) (argsL := [(.long q0)]) (rest := [(.ref b7)]) (lenOf pdv1 rfl) rfl (by show 2 * 0 + _ ≤ _; exact Nat.le_of_eq rfl) (hb hby d5_36) (fun _ _ => ⟨rfl, e7, (by decide : 1 + 0 ≤ _), (by decide : 1 + 0 ≤ _)⟩)
      dsimp only [Pt.U, Pt.locs, Pt.cells, Pt.slots] at X8 l8 y8 z8 st8 hQ8
      subst l8 y8 z8
      obtain ⟨rfl, N8q, Kc8, P8_0⟩ := hQ8
      have K8 : Keep h0 T8.heap [] := K7.trans Kc8 (allS (Or.inr sz_b7) all0)
      have O8 := O7.keep Kc8 (allS g_b7 all0)
      have N8 := Fr.app N0 N8q
      obtain ⟨fs, hr, hrun, hended, hW, hsame⟩ := X8.leave (v := some (.ref b7)) (fun h => by rw [Bd.returns] at h; cases h)
      refine ⟨_, _, pre6 _ ?_, hrun, hended, _, _, rfl, ?_, ⟨_, rfl⟩, hW, hsame.mono (by decide) (by decide)⟩
      · show Steps p.tables e below (s₁.setTop (mkF m 17 #[.val (.long q0), .second, .val (.int (128 : Int32))] [(.int (lcmpW q0 (127 : Int64)))])) _
        refine XS.ifYes X0.here hx rfl (pc0 := 17) (pc' := 31) rfl (hb hby d5_17) rfl ((if0 _ _).trans (tlt hc17_5).2.2.1) (by decide) (by decide) ?_
        show Steps p.tables e below (s₁.setTop (mkF m 31 #[.val (.long q0), .second, .val (.int (128 : Int32))] [])) _
        refine st7 _ ?_
        show Steps p.tables e below (T7.setTop (mkF m 34 #[.val (.long q0), .second, .val (.int (128 : Int32))] [(.ref b7)])) _
        refine XS.dup X7.here hx rfl (hb hby d5_34) rfl rfl ?_
        show Steps p.tables e below (T7.setTop (mkF m 35 #[.val (.long q0), .second, .val (.int (128 : Int32))] [(.ref b7), (.ref b7)])) _
        refine XS.lloadN X7.here hx rfl (hb hby d5_35) rfl ?_
        show Steps p.tables e below (T7.setTop (mkF m 36 #[.val (.long q0), .second, .val (.int (128 : Int32))] [(.long q0), (.ref b7), (.ref b7)])) _
        refine st8.trans ?_
        show Steps p.tables e below (T8.setTop (mkF m 39 #[.val (.long q0), .second, .val (.int (128 : Int32))] [(.ref b7)])) _
        jvm_step X8.here [X8.here.top, hx, (hb hby d5_39), X8.method', Bd.returns, Value.isRef, FieldType.isReference]
        first | (intro acts; rw [hr _ acts rfl rfl rfl]) | rw [hr _ _ rfl rfl rfl]
        exact Steps.refl _
      · show Q_rmVal n0 Z aC kC vC q0 h0 _ T8.heap _
        exact ⟨b7, rfl, N8, K8, P8_0⟩
    · obtain ⟨T9, X9, e9, st9⟩ := getS2 X0 hx hZ hown (host := "") (Or.inl (Wd hw 56 rfl)) Via.refl e0 (GSC.ext O0.2) (g := (mkF m 20 #[.val (.long q0), .second, .val (.int (128 : Int32))] [])) rfl (hb hby d5_20)
      have hpl := own_place hc9_1 hc17_5
      obtain ⟨cl10, Ar10, -, S10, N10_, H10, G10⟩ := (GVC.ext O0.2)
      have hin10 : ¬ (((q0.toInt32) + (128 : Int32)) < 0 ∨ cl10.slots.size ≤ (((q0.toInt32) + (128 : Int32))).toNatClampNeg) := inb_of S10 ⟨hpl.1, hpl.2⟩
      obtain ⟨bC11, uC11, EC11⟩ := GPC ((q0.toInt32) + (128 : Int32)) hpl.1 hpl.2
      have hat10 : cl10.slots[(((q0.toInt32) + (128 : Int32))).toNatClampNeg]? = some (.ref bC11) := H10.at hin10 uC11
      obtain ⟨fs, hr, hrun, hended, hW, hsame⟩ := X9.leave (v := some (.ref bC11)) (fun h => by rw [Bd.returns] at h; cases h)
      refine ⟨_, _, pre6 _ ?_, hrun, hended, _, _, rfl, ?_, ⟨_, rfl⟩, hW, hsame.mono (by decide) (by decide)⟩
      · show Steps p.tables e below (s₁.setTop (mkF m 17 #[.val (.long q0), .second, .val (.int (128 : Int32))] [(.int (lcmpW q0 (127 : Int64)))])) _
        refine XS.ifNo X0.here hx rfl (hb hby d5_17) rfl ((if0 _ _).trans (flt hc17_5).2.2.1) ?_
        show Steps p.tables e below (s₁.setTop (mkF m 20 #[.val (.long q0), .second, .val (.int (128 : Int32))] [])) _
        refine st9 _ ?_
        show Steps p.tables e below (T9.setTop (mkF m 23 #[.val (.long q0), .second, .val (.int (128 : Int32))] [(.ref aC)])) _
        refine XS.lloadN X9.here hx rfl (hb hby d5_23) rfl ?_
        show Steps p.tables e below (T9.setTop (mkF m 24 #[.val (.long q0), .second, .val (.int (128 : Int32))] [(.long q0), (.ref aC)])) _
        refine XS.l2i X9.here hx rfl (hb hby d5_24) rfl ?_
        show Steps p.tables e below (T9.setTop (mkF m 25 #[.val (.long q0), .second, .val (.int (128 : Int32))] [(.int (q0.toInt32)), (.ref aC)])) _
        refine XS.sipush X9.here hx rfl (hb hby d5_25) ?_
        show Steps p.tables e below (T9.setTop (mkF m 28 #[.val (.long q0), .second, .val (.int (128 : Int32))] [(.int (128 : Int32)), (.int (q0.toInt32)), (.ref aC)])) _
        refine XS.iadd X9.here hx rfl (hb hby d5_28) rfl ?_
        show Steps p.tables e below (T9.setTop (mkF m 29 #[.val (.long q0), .second, .val (.int (128 : Int32))] [(.int ((q0.toInt32) + (128 : Int32))), (.ref aC)])) _
        refine X9.aaload hx (j := ((q0.toInt32) + (128 : Int32))) (v := (.ref bC11)) (by rw [e9]; exact Ar10.1) (State.isArrayOf_alike hZ.alike Ar10.2.1) rfl Ar10.2.2 hin10 hat10 (g := (mkF m 29 #[.val (.long q0), .second, .val (.int (128 : Int32))] [(.int ((q0.toInt32) + (128 : Int32))), (.ref aC)])) rfl rfl (hb hby d5_29) _ ?_
        show Steps p.tables e below (T9.setTop (mkF m 30 #[.val (.long q0), .second, .val (.int (128 : Int32))] [(.ref bC11)])) _
        jvm_step X9.here [X9.here.top, hx, (hb hby d5_30), X9.method', Bd.returns, Value.isRef, FieldType.isReference]
        first | (intro acts; rw [hr _ acts rfl rfl rfl]) | rw [hr _ _ rfl rfl rfl]
        exact Steps.refl _
      · show Q_rmVal n0 Z aC kC vC q0 h0 _ T9.heap _
        rw [e9]
        exact ⟨bC11, rfl, N0, (Keep.refl h0 []), (EC11.ext O0.2)⟩
theorem d4_0 : decode prog_55_method_3_code 0 = .ok (.aload_n 1, 1) := by decide +kernel
theorem d4_1 : decode prog_55_method_3_code 1 = .ok (.instanceof 7, 3) := by decide +kernel
theorem d4_4 : decode prog_55_method_3_code 4 = .ok (.ifCond .eq 36, 3) := by decide +kernel
theorem d4_7 : decode prog_55_method_3_code 7 = .ok (.aload_n 1, 1) := by decide +kernel
theorem d4_8 : decode prog_55_method_3_code 8 = .ok (.checkcast 7, 3) := by decide +kernel
theorem d4_11 : decode prog_55_method_3_code 11 = .ok (.astore_n 2, 1) := by decide +kernel
theorem d4_12 : decode prog_55_method_3_code 12 = .ok (.aload_n 2, 1) := by decide +kernel
theorem d4_13 : decode prog_55_method_3_code 13 = .ok (.getfield 20, 3) := by decide +kernel
theorem d4_16 : decode prog_55_method_3_code 16 = .ok (.aload_n 0, 1) := by decide +kernel
theorem d4_17 : decode prog_55_method_3_code 17 = .ok (.getfield 20, 3) := by decide +kernel
theorem d4_20 : decode prog_55_method_3_code 20 = .ok (.lcmp, 1) := by decide +kernel
theorem d4_21 : decode prog_55_method_3_code 21 = .ok (.ifCond .ne 19, 3) := by decide +kernel
theorem d4_24 : decode prog_55_method_3_code 24 = .ok (.aload_n 2, 1) := by decide +kernel
theorem d4_25 : decode prog_55_method_3_code 25 = .ok (.getfield 24, 3) := by decide +kernel
theorem d4_28 : decode prog_55_method_3_code 28 = .ok (.aload_n 0, 1) := by decide +kernel
theorem d4_29 : decode prog_55_method_3_code 29 = .ok (.getfield 24, 3) := by decide +kernel
theorem d4_32 : decode prog_55_method_3_code 32 = .ok (.lcmp, 1) := by decide +kernel
theorem d4_33 : decode prog_55_method_3_code 33 = .ok (.ifCond .ne 7, 3) := by decide +kernel
theorem d4_36 : decode prog_55_method_3_code 36 = .ok (.iconst 1, 1) := by decide +kernel
theorem d4_37 : decode prog_55_method_3_code 37 = .ok (.goto 4, 3) := by decide +kernel
theorem d4_41 : decode prog_55_method_3_code 41 = .ok (.ireturn, 1) := by decide +kernel
abbrev MN_7 : MethodName := ⟨"com/example/tracelint/tracelint/Interval", "equals", "(Ljava/lang/Object;)Z"⟩
theorem ef_rmEq_yes (m : MethodId) (a8 : Addr) (a1 : Addr) : entryFrame m #[(.ref a8), (.ref a1)] 3 = mkF m 0 #[.val (.ref a8), .val (.ref a1), .unset] [] := by first | (simp [entryFrame, mkF, argsToLocals, Value.category]; done) | rfl
def Q_rmEq_yes (n0 : Nat) (Z : State) (aC : Addr) (kC : ClassId) (vC : List Value) (a8 : Addr) (a1 : Addr) (m1 : Int64) (x1 : Int64) (m2 : Int64) (x2 : Int64) (h0 : Heap) (v : Option Value) (h : Heap) (L : List Loc) : Prop := v = some (.int (1 : Int32)) ∧ Fr n0 L ∧ h = h0
set_option maxRecDepth 65536 in
set_option maxHeartbeats 40000000 in
theorem rmEq_yes (l : Launch) (Z : State) (a0 : Array Value) (hw : ∀ d ∈ tables_1, d.before a0 Z = true) (ws : List Jvm.Cond) (aC : Addr) (kC : ClassId) (vC : List Value) (a8 : Addr) (a1 : Addr) (m1 : Int64) (x1 : Int64) (m2 : Int64) (x2 : Int64) (h0 : Heap) (n0 : Nat) (O0 : Old Z n0 h0) (GL : GF Z aC kC vC) (F_min_a8 : Fld Z h0 a8 "com/example/tracelint/tracelint/Interval" "min" "J" (.long m1)) (F_max_a8 : Fld Z h0 a8 "com/example/tracelint/tracelint/Interval" "max" "J" (.long x1)) (E_a1 : Exa Z h0 a1 "com/example/tracelint/tracelint/Interval") (F_min_a1 : Fld Z h0 a1 "com/example/tracelint/tracelint/Interval" "min" "J" (.long m2)) (F_max_a1 : Fld Z h0 a1 "com/example/tracelint/tracelint/Interval" "max" "J" (.long x2)) (h1 : m2 = m1) (h2 : x2 = x1) :
    MetFree l MN_7 (head1 (Jvm.Cond.code MN_7 prog_55_method_3_code 3 (some .boolean) :: ws) ({ frames := 0, cells := 0, slots := 0, locals := 0 } : Room)) (fun a U => a = #[(.ref a8), (.ref a1)] ∧ Z.Warmed39 U.vm ∧ U.heap = h0) (fun _ _ _ _ _ => True) (fun _ U o U' => ∃ v L, o = .returned v ∧ Q_rmEq_yes n0 Z aC kC vC a8 a1 m1 x1 m2 x2 h0 v U'.heap L ∧ FrameEnd U o U' L ({ frames := 0, cells := 0, slots := 0, locals := 0 } : Room).cells ({ frames := 0, cells := 0, slots := 0, locals := 0 } : Room).slots) := by
  refine MetFree.of_bodySF (plainFor_of_name pnv2) hisR ?_
  intro p e s m args below meth c s₁ Bd hml0 hP hK
  obtain ⟨rfl, hZ, hh⟩ := hP
  have hx := Bd.exec
  have hby := Bd.bytes
  have hml : c.maxLocals = 3 := hml0
  have hown : s.vm.findClass "com/example/tracelint/tracelint/Interval" = some m.cls := findClass_of_methodNamed Bd.named
  have hnm := (name_of_methodNamed Bd.named Bd.method).1
  have X0 : Stand p l e ({ frames := 0, cells := 0, slots := 0, locals := 0 } : Room) s m #[(.ref a8), (.ref a1)] below meth c s₁ [] 0 0 := Stand.of_body Bd
  have e0 : s₁.heap = h0 := by rw [← hh, Bd.state]; rfl
  have N0 := Fr.nil n0
  have pre0 : ∀ t, Steps p.tables e below (s₁.setTop (mkF m 0 #[.val (.ref a8), .val (.ref a1), .unset] [])) t → Steps p.tables e below (s₁.setTop (entryFrame m #[(.ref a8), (.ref a1)] 3)) t := fun t k => castTop (ef_rmEq_yes m a8 a1) k
  have GL' := GL
  obtain ⟨GSC, GVC, GPC⟩ := GL'
  obtain ⟨T1, X1, e1, st1⟩ := instY X0 hx hZ hown (Wd hw 26 rfl) e0 (Ins.self E_a1) (g := (mkF m 1 #[.val (.ref a8), .val (.ref a1), .unset] [(.ref a1)])) rfl rfl (hb hby d4_1)
  obtain ⟨T2, X2, e2, st2⟩ := castY X1 hx hZ hown (Wd hw 26 rfl) e1 (Ins.self E_a1) (g := (mkF m 8 #[.val (.ref a8), .val (.ref a1), .unset] [(.ref a1)])) rfl rfl (hb hby d4_8)
  obtain ⟨T3, X3, e3, st3⟩ := getF X2 hx hZ hown (host := "") (Or.inl (Wd hw 17 rfl)) Via.refl e2 F_min_a1 (g := (mkF m 13 #[.val (.ref a8), .val (.ref a1), .val (.ref a1)] [(.ref a1)])) rfl rfl (hb hby d4_13)
  obtain ⟨T4, X4, e4, st4⟩ := getF X3 hx hZ hown (host := "") (Or.inl (Wd hw 17 rfl)) Via.refl e3 F_min_a8 (g := (mkF m 17 #[.val (.ref a8), .val (.ref a1), .val (.ref a1)] [(.ref a8), (.long m2)])) rfl rfl (hb hby d4_17)
  have hl1 : (lcmpW m2 m1) = (0 : Int32) := ((own_lceq _ _).2 h1)
  obtain ⟨T5, X5, e5, st5⟩ := getF X4 hx hZ hown (host := "") (Or.inl (Wd hw 19 rfl)) Via.refl e4 F_max_a1 (g := (mkF m 25 #[.val (.ref a8), .val (.ref a1), .val (.ref a1)] [(.ref a1)])) rfl rfl (hb hby d4_25)
  obtain ⟨T6, X6, e6, st6⟩ := getF X5 hx hZ hown (host := "") (Or.inl (Wd hw 19 rfl)) Via.refl e5 F_max_a8 (g := (mkF m 29 #[.val (.ref a8), .val (.ref a1), .val (.ref a1)] [(.ref a8), (.long x2)])) rfl rfl (hb hby d4_29)
  have hl2 : (lcmpW x2 x1) = (0 : Int32) := ((own_lceq _ _).2 h2)
  obtain ⟨fs, hr, hrun, hended, hW, hsame⟩ := X6.leave (v := some (.int (1 : Int32))) (fun h => by rw [Bd.returns] at h; cases h)
  refine ⟨_, _, pre0 _ ?_, hrun, hended, _, _, rfl, ?_, ⟨_, rfl⟩, hW, hsame.mono (by decide) (by decide)⟩
  · show Steps p.tables e below (s₁.setTop (mkF m 0 #[.val (.ref a8), .val (.ref a1), .unset] [])) _
    refine XS.aloadN X0.here hx rfl (hb hby d4_0) rfl rfl ?_
    show Steps p.tables e below (s₁.setTop (mkF m 1 #[.val (.ref a8), .val (.ref a1), .unset] [(.ref a1)])) _
    refine st1 _ ?_
    show Steps p.tables e below (T1.setTop (mkF m 4 #[.val (.ref a8), .val (.ref a1), .unset] [(.int (1 : Int32))])) _
    refine XS.ifNo X1.here hx rfl (hb hby d4_4) rfl ((if0 _ _).trans (feq (by decide : ¬ ((1 : Int32) = (0 : Int32)))).1) ?_
    show Steps p.tables e below (T1.setTop (mkF m 7 #[.val (.ref a8), .val (.ref a1), .unset] [])) _
    refine XS.aloadN X1.here hx rfl (hb hby d4_7) rfl rfl ?_
    show Steps p.tables e below (T1.setTop (mkF m 8 #[.val (.ref a8), .val (.ref a1), .unset] [(.ref a1)])) _
    refine st2 _ ?_
    show Steps p.tables e below (T2.setTop (mkF m 11 #[.val (.ref a8), .val (.ref a1), .unset] [(.ref a1)])) _
    refine XS.astoreN X2.here hx rfl (hb hby d4_11) rfl rfl (l' := #[.val (.ref a8), .val (.ref a1), .val (.ref a1)]) rfl ?_
    show Steps p.tables e below (T2.setTop (mkF m 12 #[.val (.ref a8), .val (.ref a1), .val (.ref a1)] [])) _
    refine XS.aloadN X2.here hx rfl (hb hby d4_12) rfl rfl ?_
    show Steps p.tables e below (T2.setTop (mkF m 13 #[.val (.ref a8), .val (.ref a1), .val (.ref a1)] [(.ref a1)])) _
    refine st3 _ ?_
    show Steps p.tables e below (T3.setTop (mkF m 16 #[.val (.ref a8), .val (.ref a1), .val (.ref a1)] [(.long m2)])) _
    refine XS.aloadN X3.here hx rfl (hb hby d4_16) rfl rfl ?_
    show Steps p.tables e below (T3.setTop (mkF m 17 #[.val (.ref a8), .val (.ref a1), .val (.ref a1)] [(.ref a8), (.long m2)])) _
    refine st4 _ ?_
    show Steps p.tables e below (T4.setTop (mkF m 20 #[.val (.ref a8), .val (.ref a1), .val (.ref a1)] [(.long m1), (.long m2)])) _
    refine XS.lcmp X4.here hx rfl (hb hby d4_20) rfl ?_
    show Steps p.tables e below (T4.setTop (mkF m 21 #[.val (.ref a8), .val (.ref a1), .val (.ref a1)] [(.int (lcmpW m2 m1))])) _
    refine XS.ifNo X4.here hx rfl (hb hby d4_21) rfl ((if0 _ _).trans (teq hl1).2) ?_
    show Steps p.tables e below (T4.setTop (mkF m 24 #[.val (.ref a8), .val (.ref a1), .val (.ref a1)] [])) _
    refine XS.aloadN X4.here hx rfl (hb hby d4_24) rfl rfl ?_
    show Steps p.tables e below (T4.setTop (mkF m 25 #[.val (.ref a8), .val (.ref a1), .val (.ref a1)] [(.ref a1)])) _
    refine st5 _ ?_
    show Steps p.tables e below (T5.setTop (mkF m 28 #[.val (.ref a8), .val (.ref a1), .val (.ref a1)] [(.long x2)])) _
    refine XS.aloadN X5.here hx rfl (hb hby d4_28) rfl rfl ?_
    show Steps p.tables e below (T5.setTop (mkF m 29 #[.val (.ref a8), .val (.ref a1), .val (.ref a1)] [(.ref a8), (.long x2)])) _
    refine st6 _ ?_
    show Steps p.tables e below (T6.setTop (mkF m 32 #[.val (.ref a8), .val (.ref a1), .val (.ref a1)] [(.long x1), (.long x2)])) _
    refine XS.lcmp X6.here hx rfl (hb hby d4_32) rfl ?_
    show Steps p.tables e below (T6.setTop (mkF m 33 #[.val (.ref a8), .val (.ref a1), .val (.ref a1)] [(.int (lcmpW x2 x1))])) _
    refine XS.ifNo X6.here hx rfl (hb hby d4_33) rfl ((if0 _ _).trans (teq hl2).2) ?_
    show Steps p.tables e below (T6.setTop (mkF m 36 #[.val (.ref a8), .val (.ref a1), .val (.ref a1)] [])) _
    refine XS.iconst X6.here hx rfl (hb hby d4_36) ?_
    show Steps p.tables e below (T6.setTop (mkF m 37 #[.val (.ref a8), .val (.ref a1), .val (.ref a1)] [(.int (1 : Int32))])) _
    refine XS.goto X6.here hx rfl (pc0 := 37) (pc' := 41) rfl (hb hby d4_37) (by decide) (by decide) ?_
    show Steps p.tables e below (T6.setTop (mkF m 41 #[.val (.ref a8), .val (.ref a1), .val (.ref a1)] [(.int (1 : Int32))])) _
    exact retN X6 hx (t := .boolean) Bd.returns (by simp) (hb hby d4_41) hr
  · show Q_rmEq_yes n0 Z aC kC vC a8 a1 m1 x1 m2 x2 h0 _ T6.heap _
    rw [e6]
    exact ⟨rfl, N0, rfl⟩
theorem d4_40 : decode prog_55_method_3_code 40 = .ok (.iconst 0, 1) := by decide +kernel
def Q_rmEq_no1 (n0 : Nat) (Z : State) (aC : Addr) (kC : ClassId) (vC : List Value) (a8 : Addr) (a1 : Addr) (m1 : Int64) (x1 : Int64) (m2 : Int64) (x2 : Int64) (h0 : Heap) (v : Option Value) (h : Heap) (L : List Loc) : Prop := v = some (.int (0 : Int32)) ∧ Fr n0 L ∧ h = h0
set_option maxRecDepth 65536 in
set_option maxHeartbeats 40000000 in
theorem rmEq_no1 (l : Launch) (Z : State) (a0 : Array Value) (hw : ∀ d ∈ tables_1, d.before a0 Z = true) (ws : List Jvm.Cond) (aC : Addr) (kC : ClassId) (vC : List Value) (a8 : Addr) (a1 : Addr) (m1 : Int64) (x1 : Int64) (m2 : Int64) (x2 : Int64) (h0 : Heap) (n0 : Nat) (O0 : Old Z n0 h0) (GL : GF Z aC kC vC) (F_min_a8 : Fld Z h0 a8 "com/example/tracelint/tracelint/Interval" "min" "J" (.long m1)) (F_max_a8 : Fld Z h0 a8 "com/example/tracelint/tracelint/Interval" "max" "J" (.long x1)) (E_a1 : Exa Z h0 a1 "com/example/tracelint/tracelint/Interval") (F_min_a1 : Fld Z h0 a1 "com/example/tracelint/tracelint/Interval" "min" "J" (.long m2)) (F_max_a1 : Fld Z h0 a1 "com/example/tracelint/tracelint/Interval" "max" "J" (.long x2)) (h1 : ¬ (m2 = m1)) :
    MetFree l MN_7 (head1 (Jvm.Cond.code MN_7 prog_55_method_3_code 3 (some .boolean) :: ws) ({ frames := 0, cells := 0, slots := 0, locals := 0 } : Room)) (fun a U => a = #[(.ref a8), (.ref a1)] ∧ Z.Warmed39 U.vm ∧ U.heap = h0) (fun _ _ _ _ _ => True) (fun _ U o U' => ∃ v L, o = .returned v ∧ Q_rmEq_no1 n0 Z aC kC vC a8 a1 m1 x1 m2 x2 h0 v U'.heap L ∧ FrameEnd U o U' L ({ frames := 0, cells := 0, slots := 0, locals := 0 } : Room).cells ({ frames := 0, cells := 0, slots := 0, locals := 0 } : Room).slots) := by
  refine MetFree.of_bodySF (plainFor_of_name pnv2) hisR ?_
  intro p e s m args below meth c s₁ Bd hml0 hP hK
  obtain ⟨rfl, hZ, hh⟩ := hP
  have hx := Bd.exec
  have hby := Bd.bytes
  have hml : c.maxLocals = 3 := hml0
  have hown : s.vm.findClass "com/example/tracelint/tracelint/Interval" = some m.cls := findClass_of_methodNamed Bd.named
  have hnm := (name_of_methodNamed Bd.named Bd.method).1
  have X0 : Stand p l e ({ frames := 0, cells := 0, slots := 0, locals := 0 } : Room) s m #[(.ref a8), (.ref a1)] below meth c s₁ [] 0 0 := Stand.of_body Bd
  have e0 : s₁.heap = h0 := by rw [← hh, Bd.state]; rfl
  have N0 := Fr.nil n0
  have pre0 : ∀ t, Steps p.tables e below (s₁.setTop (mkF m 0 #[.val (.ref a8), .val (.ref a1), .unset] [])) t → Steps p.tables e below (s₁.setTop (entryFrame m #[(.ref a8), (.ref a1)] 3)) t := fun t k => castTop (ef_rmEq_yes m a8 a1) k
  have GL' := GL
  obtain ⟨GSC, GVC, GPC⟩ := GL'
  obtain ⟨T1, X1, e1, st1⟩ := instY X0 hx hZ hown (Wd hw 26 rfl) e0 (Ins.self E_a1) (g := (mkF m 1 #[.val (.ref a8), .val (.ref a1), .unset] [(.ref a1)])) rfl rfl (hb hby d4_1)
  obtain ⟨T2, X2, e2, st2⟩ := castY X1 hx hZ hown (Wd hw 26 rfl) e1 (Ins.self E_a1) (g := (mkF m 8 #[.val (.ref a8), .val (.ref a1), .unset] [(.ref a1)])) rfl rfl (hb hby d4_8)
  obtain ⟨T3, X3, e3, st3⟩ := getF X2 hx hZ hown (host := "") (Or.inl (Wd hw 17 rfl)) Via.refl e2 F_min_a1 (g := (mkF m 13 #[.val (.ref a8), .val (.ref a1), .val (.ref a1)] [(.ref a1)])) rfl rfl (hb hby d4_13)
  obtain ⟨T4, X4, e4, st4⟩ := getF X3 hx hZ hown (host := "") (Or.inl (Wd hw 17 rfl)) Via.refl e3 F_min_a8 (g := (mkF m 17 #[.val (.ref a8), .val (.ref a1), .val (.ref a1)] [(.ref a8), (.long m2)])) rfl rfl (hb hby d4_17)
  have hl1 : ¬ ((lcmpW m2 m1) = (0 : Int32)) := (fun q => h1 ((own_lceq _ _).1 q))
  obtain ⟨fs, hr, hrun, hended, hW, hsame⟩ := X4.leave (v := some (.int (0 : Int32))) (fun h => by rw [Bd.returns] at h; cases h)
  refine ⟨_, _, pre0 _ ?_, hrun, hended, _, _, rfl, ?_, ⟨_, rfl⟩, hW, hsame.mono (by decide) (by decide)⟩
  · show Steps p.tables e below (s₁.setTop (mkF m 0 #[.val (.ref a8), .val (.ref a1), .unset] [])) _
    refine XS.aloadN X0.here hx rfl (hb hby d4_0) rfl rfl ?_
    show Steps p.tables e below (s₁.setTop (mkF m 1 #[.val (.ref a8), .val (.ref a1), .unset] [(.ref a1)])) _
    refine st1 _ ?_
    show Steps p.tables e below (T1.setTop (mkF m 4 #[.val (.ref a8), .val (.ref a1), .unset] [(.int (1 : Int32))])) _
    refine XS.ifNo X1.here hx rfl (hb hby d4_4) rfl ((if0 _ _).trans (feq (by decide : ¬ ((1 : Int32) = (0 : Int32)))).1) ?_
    show Steps p.tables e below (T1.setTop (mkF m 7 #[.val (.ref a8), .val (.ref a1), .unset] [])) _
    refine XS.aloadN X1.here hx rfl (hb hby d4_7) rfl rfl ?_
    show Steps p.tables e below (T1.setTop (mkF m 8 #[.val (.ref a8), .val (.ref a1), .unset] [(.ref a1)])) _
    refine st2 _ ?_
    show Steps p.tables e below (T2.setTop (mkF m 11 #[.val (.ref a8), .val (.ref a1), .unset] [(.ref a1)])) _
    refine XS.astoreN X2.here hx rfl (hb hby d4_11) rfl rfl (l' := #[.val (.ref a8), .val (.ref a1), .val (.ref a1)]) rfl ?_
    show Steps p.tables e below (T2.setTop (mkF m 12 #[.val (.ref a8), .val (.ref a1), .val (.ref a1)] [])) _
    refine XS.aloadN X2.here hx rfl (hb hby d4_12) rfl rfl ?_
    show Steps p.tables e below (T2.setTop (mkF m 13 #[.val (.ref a8), .val (.ref a1), .val (.ref a1)] [(.ref a1)])) _
    refine st3 _ ?_
    show Steps p.tables e below (T3.setTop (mkF m 16 #[.val (.ref a8), .val (.ref a1), .val (.ref a1)] [(.long m2)])) _
    refine XS.aloadN X3.here hx rfl (hb hby d4_16) rfl rfl ?_
    show Steps p.tables e below (T3.setTop (mkF m 17 #[.val (.ref a8), .val (.ref a1), .val (.ref a1)] [(.ref a8), (.long m2)])) _
    refine st4 _ ?_
    show Steps p.tables e below (T4.setTop (mkF m 20 #[.val (.ref a8), .val (.ref a1), .val (.ref a1)] [(.long m1), (.long m2)])) _
    refine XS.lcmp X4.here hx rfl (hb hby d4_20) rfl ?_
    show Steps p.tables e below (T4.setTop (mkF m 21 #[.val (.ref a8), .val (.ref a1), .val (.ref a1)] [(.int (lcmpW m2 m1))])) _
    refine XS.ifYes X4.here hx rfl (pc0 := 21) (pc' := 40) rfl (hb hby d4_21) rfl ((if0 _ _).trans (feq hl1).2) (by decide) (by decide) ?_
    show Steps p.tables e below (T4.setTop (mkF m 40 #[.val (.ref a8), .val (.ref a1), .val (.ref a1)] [])) _
    refine XS.iconst X4.here hx rfl (hb hby d4_40) ?_
    show Steps p.tables e below (T4.setTop (mkF m 41 #[.val (.ref a8), .val (.ref a1), .val (.ref a1)] [(.int (0 : Int32))])) _
    exact retN X4 hx (t := .boolean) Bd.returns (by simp) (hb hby d4_41) hr
  · show Q_rmEq_no1 n0 Z aC kC vC a8 a1 m1 x1 m2 x2 h0 _ T4.heap _
    rw [e4]
    exact ⟨rfl, N0, rfl⟩
def Q_rmEq_no2 (n0 : Nat) (Z : State) (aC : Addr) (kC : ClassId) (vC : List Value) (a8 : Addr) (a1 : Addr) (m1 : Int64) (x1 : Int64) (m2 : Int64) (x2 : Int64) (h0 : Heap) (v : Option Value) (h : Heap) (L : List Loc) : Prop := v = some (.int (0 : Int32)) ∧ Fr n0 L ∧ h = h0
set_option maxRecDepth 65536 in
set_option maxHeartbeats 40000000 in
theorem rmEq_no2 (l : Launch) (Z : State) (a0 : Array Value) (hw : ∀ d ∈ tables_1, d.before a0 Z = true) (ws : List Jvm.Cond) (aC : Addr) (kC : ClassId) (vC : List Value) (a8 : Addr) (a1 : Addr) (m1 : Int64) (x1 : Int64) (m2 : Int64) (x2 : Int64) (h0 : Heap) (n0 : Nat) (O0 : Old Z n0 h0) (GL : GF Z aC kC vC) (F_min_a8 : Fld Z h0 a8 "com/example/tracelint/tracelint/Interval" "min" "J" (.long m1)) (F_max_a8 : Fld Z h0 a8 "com/example/tracelint/tracelint/Interval" "max" "J" (.long x1)) (E_a1 : Exa Z h0 a1 "com/example/tracelint/tracelint/Interval") (F_min_a1 : Fld Z h0 a1 "com/example/tracelint/tracelint/Interval" "min" "J" (.long m2)) (F_max_a1 : Fld Z h0 a1 "com/example/tracelint/tracelint/Interval" "max" "J" (.long x2)) (h1 : m2 = m1) (h2 : ¬ (x2 = x1)) :
    MetFree l MN_7 (head1 (Jvm.Cond.code MN_7 prog_55_method_3_code 3 (some .boolean) :: ws) ({ frames := 0, cells := 0, slots := 0, locals := 0 } : Room)) (fun a U => a = #[(.ref a8), (.ref a1)] ∧ Z.Warmed39 U.vm ∧ U.heap = h0) (fun _ _ _ _ _ => True) (fun _ U o U' => ∃ v L, o = .returned v ∧ Q_rmEq_no2 n0 Z aC kC vC a8 a1 m1 x1 m2 x2 h0 v U'.heap L ∧ FrameEnd U o U' L ({ frames := 0, cells := 0, slots := 0, locals := 0 } : Room).cells ({ frames := 0, cells := 0, slots := 0, locals := 0 } : Room).slots) := by
  refine MetFree.of_bodySF (plainFor_of_name pnv2) hisR ?_
  intro p e s m args below meth c s₁ Bd hml0 hP hK
  obtain ⟨rfl, hZ, hh⟩ := hP
  have hx := Bd.exec
  have hby := Bd.bytes
  have hml : c.maxLocals = 3 := hml0
  have hown : s.vm.findClass "com/example/tracelint/tracelint/Interval" = some m.cls := findClass_of_methodNamed Bd.named
  have hnm := (name_of_methodNamed Bd.named Bd.method).1
  have X0 : Stand p l e ({ frames := 0, cells := 0, slots := 0, locals := 0 } : Room) s m #[(.ref a8), (.ref a1)] below meth c s₁ [] 0 0 := Stand.of_body Bd
  have e0 : s₁.heap = h0 := by rw [← hh, Bd.state]; rfl
  have N0 := Fr.nil n0
  have pre0 : ∀ t, Steps p.tables e below (s₁.setTop (mkF m 0 #[.val (.ref a8), .val (.ref a1), .unset] [])) t → Steps p.tables e below (s₁.setTop (entryFrame m #[(.ref a8), (.ref a1)] 3)) t := fun t k => castTop (ef_rmEq_yes m a8 a1) k
  have GL' := GL
  obtain ⟨GSC, GVC, GPC⟩ := GL'
  obtain ⟨T1, X1, e1, st1⟩ := instY X0 hx hZ hown (Wd hw 26 rfl) e0 (Ins.self E_a1) (g := (mkF m 1 #[.val (.ref a8), .val (.ref a1), .unset] [(.ref a1)])) rfl rfl (hb hby d4_1)
  obtain ⟨T2, X2, e2, st2⟩ := castY X1 hx hZ hown (Wd hw 26 rfl) e1 (Ins.self E_a1) (g := (mkF m 8 #[.val (.ref a8), .val (.ref a1), .unset] [(.ref a1)])) rfl rfl (hb hby d4_8)
  obtain ⟨T3, X3, e3, st3⟩ := getF X2 hx hZ hown (host := "") (Or.inl (Wd hw 17 rfl)) Via.refl e2 F_min_a1 (g := (mkF m 13 #[.val (.ref a8), .val (.ref a1), .val (.ref a1)] [(.ref a1)])) rfl rfl (hb hby d4_13)
  obtain ⟨T4, X4, e4, st4⟩ := getF X3 hx hZ hown (host := "") (Or.inl (Wd hw 17 rfl)) Via.refl e3 F_min_a8 (g := (mkF m 17 #[.val (.ref a8), .val (.ref a1), .val (.ref a1)] [(.ref a8), (.long m2)])) rfl rfl (hb hby d4_17)
  have hl1 : (lcmpW m2 m1) = (0 : Int32) := ((own_lceq _ _).2 h1)
  obtain ⟨T5, X5, e5, st5⟩ := getF X4 hx hZ hown (host := "") (Or.inl (Wd hw 19 rfl)) Via.refl e4 F_max_a1 (g := (mkF m 25 #[.val (.ref a8), .val (.ref a1), .val (.ref a1)] [(.ref a1)])) rfl rfl (hb hby d4_25)
  obtain ⟨T6, X6, e6, st6⟩ := getF X5 hx hZ hown (host := "") (Or.inl (Wd hw 19 rfl)) Via.refl e5 F_max_a8 (g := (mkF m 29 #[.val (.ref a8), .val (.ref a1), .val (.ref a1)] [(.ref a8), (.long x2)])) rfl rfl (hb hby d4_29)
  have hl2 : ¬ ((lcmpW x2 x1) = (0 : Int32)) := (fun q => h2 ((own_lceq _ _).1 q))
  obtain ⟨fs, hr, hrun, hended, hW, hsame⟩ := X6.leave (v := some (.int (0 : Int32))) (fun h => by rw [Bd.returns] at h; cases h)
  refine ⟨_, _, pre0 _ ?_, hrun, hended, _, _, rfl, ?_, ⟨_, rfl⟩, hW, hsame.mono (by decide) (by decide)⟩
  · show Steps p.tables e below (s₁.setTop (mkF m 0 #[.val (.ref a8), .val (.ref a1), .unset] [])) _
    refine XS.aloadN X0.here hx rfl (hb hby d4_0) rfl rfl ?_
    show Steps p.tables e below (s₁.setTop (mkF m 1 #[.val (.ref a8), .val (.ref a1), .unset] [(.ref a1)])) _
    refine st1 _ ?_
    show Steps p.tables e below (T1.setTop (mkF m 4 #[.val (.ref a8), .val (.ref a1), .unset] [(.int (1 : Int32))])) _
    refine XS.ifNo X1.here hx rfl (hb hby d4_4) rfl ((if0 _ _).trans (feq (by decide : ¬ ((1 : Int32) = (0 : Int32)))).1) ?_
    show Steps p.tables e below (T1.setTop (mkF m 7 #[.val (.ref a8), .val (.ref a1), .unset] [])) _
    refine XS.aloadN X1.here hx rfl (hb hby d4_7) rfl rfl ?_
    show Steps p.tables e below (T1.setTop (mkF m 8 #[.val (.ref a8), .val (.ref a1), .unset] [(.ref a1)])) _
    refine st2 _ ?_
    show Steps p.tables e below (T2.setTop (mkF m 11 #[.val (.ref a8), .val (.ref a1), .unset] [(.ref a1)])) _
    refine XS.astoreN X2.here hx rfl (hb hby d4_11) rfl rfl (l' := #[.val (.ref a8), .val (.ref a1), .val (.ref a1)]) rfl ?_
    show Steps p.tables e below (T2.setTop (mkF m 12 #[.val (.ref a8), .val (.ref a1), .val (.ref a1)] [])) _
    refine XS.aloadN X2.here hx rfl (hb hby d4_12) rfl rfl ?_
    show Steps p.tables e below (T2.setTop (mkF m 13 #[.val (.ref a8), .val (.ref a1), .val (.ref a1)] [(.ref a1)])) _
    refine st3 _ ?_
    show Steps p.tables e below (T3.setTop (mkF m 16 #[.val (.ref a8), .val (.ref a1), .val (.ref a1)] [(.long m2)])) _
    refine XS.aloadN X3.here hx rfl (hb hby d4_16) rfl rfl ?_
    show Steps p.tables e below (T3.setTop (mkF m 17 #[.val (.ref a8), .val (.ref a1), .val (.ref a1)] [(.ref a8), (.long m2)])) _
    refine st4 _ ?_
    show Steps p.tables e below (T4.setTop (mkF m 20 #[.val (.ref a8), .val (.ref a1), .val (.ref a1)] [(.long m1), (.long m2)])) _
    refine XS.lcmp X4.here hx rfl (hb hby d4_20) rfl ?_
    show Steps p.tables e below (T4.setTop (mkF m 21 #[.val (.ref a8), .val (.ref a1), .val (.ref a1)] [(.int (lcmpW m2 m1))])) _
    refine XS.ifNo X4.here hx rfl (hb hby d4_21) rfl ((if0 _ _).trans (teq hl1).2) ?_
    show Steps p.tables e below (T4.setTop (mkF m 24 #[.val (.ref a8), .val (.ref a1), .val (.ref a1)] [])) _
    refine XS.aloadN X4.here hx rfl (hb hby d4_24) rfl rfl ?_
    show Steps p.tables e below (T4.setTop (mkF m 25 #[.val (.ref a8), .val (.ref a1), .val (.ref a1)] [(.ref a1)])) _
    refine st5 _ ?_
    show Steps p.tables e below (T5.setTop (mkF m 28 #[.val (.ref a8), .val (.ref a1), .val (.ref a1)] [(.long x2)])) _
    refine XS.aloadN X5.here hx rfl (hb hby d4_28) rfl rfl ?_
    show Steps p.tables e below (T5.setTop (mkF m 29 #[.val (.ref a8), .val (.ref a1), .val (.ref a1)] [(.ref a8), (.long x2)])) _
    refine st6 _ ?_
    show Steps p.tables e below (T6.setTop (mkF m 32 #[.val (.ref a8), .val (.ref a1), .val (.ref a1)] [(.long x1), (.long x2)])) _
    refine XS.lcmp X6.here hx rfl (hb hby d4_32) rfl ?_
    show Steps p.tables e below (T6.setTop (mkF m 33 #[.val (.ref a8), .val (.ref a1), .val (.ref a1)] [(.int (lcmpW x2 x1))])) _
    refine XS.ifYes X6.here hx rfl (pc0 := 33) (pc' := 40) rfl (hb hby d4_33) rfl ((if0 _ _).trans (feq hl2).2) (by decide) (by decide) ?_
    show Steps p.tables e below (T6.setTop (mkF m 40 #[.val (.ref a8), .val (.ref a1), .val (.ref a1)] [])) _
    refine XS.iconst X6.here hx rfl (hb hby d4_40) ?_
    show Steps p.tables e below (T6.setTop (mkF m 41 #[.val (.ref a8), .val (.ref a1), .val (.ref a1)] [(.int (0 : Int32))])) _
    exact retN X6 hx (t := .boolean) Bd.returns (by simp) (hb hby d4_41) hr
  · show Q_rmEq_no2 n0 Z aC kC vC a8 a1 m1 x1 m2 x2 h0 _ T6.heap _
    rw [e6]
    exact ⟨rfl, N0, rfl⟩
theorem ef_rmEq_null (m : MethodId) (a8 : Addr) : entryFrame m #[(.ref a8), .null] 3 = mkF m 0 #[.val (.ref a8), .val .null, .unset] [] := by first | (simp [entryFrame, mkF, argsToLocals, Value.category]; done) | rfl
def Q_rmEq_null (n0 : Nat) (Z : State) (aC : Addr) (kC : ClassId) (vC : List Value) (a8 : Addr) (h0 : Heap) (v : Option Value) (h : Heap) (L : List Loc) : Prop := v = some (.int (0 : Int32)) ∧ Fr n0 L ∧ h = h0
set_option maxRecDepth 65536 in
set_option maxHeartbeats 40000000 in
theorem rmEq_null (l : Launch) (Z : State) (a0 : Array Value) (hw : ∀ d ∈ tables_1, d.before a0 Z = true) (ws : List Jvm.Cond) (aC : Addr) (kC : ClassId) (vC : List Value) (a8 : Addr) (h0 : Heap) (n0 : Nat) (O0 : Old Z n0 h0) (GL : GF Z aC kC vC) :
    MetFree l MN_7 (head1 (Jvm.Cond.code MN_7 prog_55_method_3_code 3 (some .boolean) :: ws) ({ frames := 0, cells := 0, slots := 0, locals := 0 } : Room)) (fun a U => a = #[(.ref a8), .null] ∧ Z.Warmed39 U.vm ∧ U.heap = h0) (fun _ _ _ _ _ => True) (fun _ U o U' => ∃ v L, o = .returned v ∧ Q_rmEq_null n0 Z aC kC vC a8 h0 v U'.heap L ∧ FrameEnd U o U' L ({ frames := 0, cells := 0, slots := 0, locals := 0 } : Room).cells ({ frames := 0, cells := 0, slots := 0, locals := 0 } : Room).slots) := by
  refine MetFree.of_bodySF (plainFor_of_name pnv2) hisR ?_
  intro p e s m args below meth c s₁ Bd hml0 hP hK
  obtain ⟨rfl, hZ, hh⟩ := hP
  have hx := Bd.exec
  have hby := Bd.bytes
  have hml : c.maxLocals = 3 := hml0
  have hown : s.vm.findClass "com/example/tracelint/tracelint/Interval" = some m.cls := findClass_of_methodNamed Bd.named
  have hnm := (name_of_methodNamed Bd.named Bd.method).1
  have X0 : Stand p l e ({ frames := 0, cells := 0, slots := 0, locals := 0 } : Room) s m #[(.ref a8), .null] below meth c s₁ [] 0 0 := Stand.of_body Bd
  have e0 : s₁.heap = h0 := by rw [← hh, Bd.state]; rfl
  have N0 := Fr.nil n0
  have pre0 : ∀ t, Steps p.tables e below (s₁.setTop (mkF m 0 #[.val (.ref a8), .val .null, .unset] [])) t → Steps p.tables e below (s₁.setTop (entryFrame m #[(.ref a8), .null] 3)) t := fun t k => castTop (ef_rmEq_null m a8) k
  have GL' := GL
  obtain ⟨GSC, GVC, GPC⟩ := GL'
  obtain ⟨fs, hr, hrun, hended, hW, hsame⟩ := X0.leave (v := some (.int (0 : Int32))) (fun h => by rw [Bd.returns] at h; cases h)
  refine ⟨_, _, pre0 _ ?_, hrun, hended, _, _, rfl, ?_, ⟨_, rfl⟩, hW, hsame.mono (by decide) (by decide)⟩
  · show Steps p.tables e below (s₁.setTop (mkF m 0 #[.val (.ref a8), .val .null, .unset] [])) _
    refine XS.aloadN X0.here hx rfl (hb hby d4_0) rfl rfl ?_
    show Steps p.tables e below (s₁.setTop (mkF m 1 #[.val (.ref a8), .val .null, .unset] [.null])) _
    refine X0.instanceofNull hx (g := (mkF m 1 #[.val (.ref a8), .val .null, .unset] [.null])) rfl rfl (hb hby d4_1) _ ?_
    show Steps p.tables e below (s₁.setTop (mkF m 4 #[.val (.ref a8), .val .null, .unset] [(.int (0 : Int32))])) _
    refine XS.ifYes X0.here hx rfl (pc0 := 4) (pc' := 40) rfl (hb hby d4_4) rfl ((if0 _ _).trans (teq (by decide : (0 : Int32) = (0 : Int32))).1) (by decide) (by decide) ?_
    show Steps p.tables e below (s₁.setTop (mkF m 40 #[.val (.ref a8), .val .null, .unset] [])) _
    refine XS.iconst X0.here hx rfl (hb hby d4_40) ?_
    show Steps p.tables e below (s₁.setTop (mkF m 41 #[.val (.ref a8), .val .null, .unset] [(.int (0 : Int32))])) _
    exact retN X0 hx (t := .boolean) Bd.returns (by simp) (hb hby d4_41) hr
  · show Q_rmEq_null n0 Z aC kC vC a8 h0 _ s₁.heap _
    rw [e0]
    exact ⟨rfl, N0, rfl⟩
def Q_rmEq_long (n0 : Nat) (Z : State) (aC : Addr) (kC : ClassId) (vC : List Value) (a8 : Addr) (a1 : Addr) (h0 : Heap) (v : Option Value) (h : Heap) (L : List Loc) : Prop := v = some (.int (0 : Int32)) ∧ Fr n0 L ∧ h = h0
set_option maxRecDepth 65536 in
set_option maxHeartbeats 40000000 in
theorem rmEq_long (l : Launch) (Z : State) (a0 : Array Value) (hw : ∀ d ∈ tables_1, d.before a0 Z = true) (ws : List Jvm.Cond) (aC : Addr) (kC : ClassId) (vC : List Value) (a8 : Addr) (a1 : Addr) (h0 : Heap) (n0 : Nat) (O0 : Old Z n0 h0) (GL : GF Z aC kC vC) (E_a1 : Exa Z h0 a1 "java/lang/Long") :
    MetFree l MN_7 (head1 (Jvm.Cond.code MN_7 prog_55_method_3_code 3 (some .boolean) :: ws) ({ frames := 0, cells := 0, slots := 0, locals := 0 } : Room)) (fun a U => a = #[(.ref a8), (.ref a1)] ∧ Z.Warmed39 U.vm ∧ U.heap = h0) (fun _ _ _ _ _ => True) (fun _ U o U' => ∃ v L, o = .returned v ∧ Q_rmEq_long n0 Z aC kC vC a8 a1 h0 v U'.heap L ∧ FrameEnd U o U' L ({ frames := 0, cells := 0, slots := 0, locals := 0 } : Room).cells ({ frames := 0, cells := 0, slots := 0, locals := 0 } : Room).slots) := by
  refine MetFree.of_bodySF (plainFor_of_name pnv2) hisR ?_
  intro p e s m args below meth c s₁ Bd hml0 hP hK
  obtain ⟨rfl, hZ, hh⟩ := hP
  have hx := Bd.exec
  have hby := Bd.bytes
  have hml : c.maxLocals = 3 := hml0
  have hown : s.vm.findClass "com/example/tracelint/tracelint/Interval" = some m.cls := findClass_of_methodNamed Bd.named
  have hnm := (name_of_methodNamed Bd.named Bd.method).1
  have X0 : Stand p l e ({ frames := 0, cells := 0, slots := 0, locals := 0 } : Room) s m #[(.ref a8), (.ref a1)] below meth c s₁ [] 0 0 := Stand.of_body Bd
  have e0 : s₁.heap = h0 := by rw [← hh, Bd.state]; rfl
  have N0 := Fr.nil n0
  have pre0 : ∀ t, Steps p.tables e below (s₁.setTop (mkF m 0 #[.val (.ref a8), .val (.ref a1), .unset] [])) t → Steps p.tables e below (s₁.setTop (entryFrame m #[(.ref a8), (.ref a1)] 3)) t := fun t k => castTop (ef_rmEq_yes m a8 a1) k
  have GL' := GL
  obtain ⟨GSC, GVC, GPC⟩ := GL'
  obtain ⟨T1, X1, e1, st1⟩ := instNo X0 hx hZ hown (Wd hw 26 rfl) e0 E_a1 (own_long hw) (g := (mkF m 1 #[.val (.ref a8), .val (.ref a1), .unset] [(.ref a1)])) rfl rfl (hb hby d4_1)
  obtain ⟨fs, hr, hrun, hended, hW, hsame⟩ := X1.leave (v := some (.int (0 : Int32))) (fun h => by rw [Bd.returns] at h; cases h)
  refine ⟨_, _, pre0 _ ?_, hrun, hended, _, _, rfl, ?_, ⟨_, rfl⟩, hW, hsame.mono (by decide) (by decide)⟩
  · show Steps p.tables e below (s₁.setTop (mkF m 0 #[.val (.ref a8), .val (.ref a1), .unset] [])) _
    refine XS.aloadN X0.here hx rfl (hb hby d4_0) rfl rfl ?_
    show Steps p.tables e below (s₁.setTop (mkF m 1 #[.val (.ref a8), .val (.ref a1), .unset] [(.ref a1)])) _
    refine st1 _ ?_
    show Steps p.tables e below (T1.setTop (mkF m 4 #[.val (.ref a8), .val (.ref a1), .unset] [(.int (0 : Int32))])) _
    refine XS.ifYes X1.here hx rfl (pc0 := 4) (pc' := 40) rfl (hb hby d4_4) rfl ((if0 _ _).trans (teq (by decide : (0 : Int32) = (0 : Int32))).1) (by decide) (by decide) ?_
    show Steps p.tables e below (T1.setTop (mkF m 40 #[.val (.ref a8), .val (.ref a1), .unset] [])) _
    refine XS.iconst X1.here hx rfl (hb hby d4_40) ?_
    show Steps p.tables e below (T1.setTop (mkF m 41 #[.val (.ref a8), .val (.ref a1), .unset] [(.int (0 : Int32))])) _
    exact retN X1 hx (t := .boolean) Bd.returns (by simp) (hb hby d4_41) hr
  · show Q_rmEq_long n0 Z aC kC vC a8 a1 h0 _ T1.heap _
    rw [e1]
    exact ⟨rfl, N0, rfl⟩
theorem pdv2 : parseMethodDescriptor "(JJ)J" = some ⟨[.long, .long], some .long⟩ := by decide +kernel
set_option maxRecDepth 65536 in
set_option maxHeartbeats 40000000 in
theorem sgA {p : Program} {l : Launch} {e : Env} {s : State} {m : MethodId} {below : List Frame} {meth : Method} {c : Code} {T0 : State} {locs : List Loc} {Z : State} {a0 : Array Value} (aC : Addr) (kC : ClassId) (vC : List Value) (q0 : Int64) (q1 : Int64) (q2 : Int64) (q3 : Int64) (p4 : Int32) {h0 : Heap} {n0 : Nat} (X0 : Stand p l e room_1 s m #[(.long q0), (.long q1), (.long q2), (.long q3), (.int p4)] below meth c T0 locs 0 0) (hx : p.tables.exec = Jvm.exec) (hZ : Z.Warmed39 s.vm) (hw : ∀ d ∈ tables_1, d.before a0 Z = true) (hby : c.code = code) (hml : c.maxLocals = 26) (hown : s.vm.findClass "com/example/tracelint/tracelint/IntervalEqualsPinLaw" = some m.cls) (e0 : T0.heap = h0) (N0 : Fr n0 locs) (O0 : Old Z n0 h0) (GL : GF Z aC kC vC) :
    ∃ mn1 : Int64, ∃ mx1 : Int64, ∃ (T' : State) (locs' : List Loc), Stand p l e room_1 s m #[(.long q0), (.long q1), (.long q2), (.long q3), (.int p4)] below meth c T' locs' 0 0 ∧ T'.heap = h0 ∧ Fr n0 locs' ∧ (¬ ((lcmpW mn1 (0 : Int64)) < (0 : Int32))) ∧ (mx1 = (-1 : Int64) ∨ ¬ ((lcmpW mx1 mn1) < (0 : Int32))) ∧
      ∀ target, Steps p.tables e below (T'.setTop (mkF m 32 #[.val (.long q0), .second, .val (.long q1), .second, .val (.long q2), .second, .val (.long q3), .second, .val (.int p4), .val (.long mn1), .second, .val (.long mx1), .second, .unset, .unset, .unset, .unset, .unset, .unset, .unset, .unset, .unset, .unset, .unset, .unset, .unset] [])) target → Steps p.tables e below (T0.setTop (mkF m 0 #[.val (.long q0), .second, .val (.long q1), .second, .val (.long q2), .second, .val (.long q3), .second, .val (.int p4), .unset, .unset, .unset, .unset, .unset, .unset, .unset, .unset, .unset, .unset, .unset, .unset, .unset, .unset, .unset, .unset, .unset] [])) target := by
  have GL' := GL
  obtain ⟨GSC, GVC, GPC⟩ := GL'
  have pre2 : ∀ t, Steps p.tables e below (T0.setTop (mkF m 11 #[.val (.long q0), .second, .val (.long q1), .second, .val (.long q2), .second, .val (.long q3), .second, .val (.int p4), .val (.long (q0 &&& (9223372036854775807 : Int64))), .second, .unset, .unset, .unset, .unset, .unset, .unset, .unset, .unset, .unset, .unset, .unset, .unset, .unset, .unset, .unset] [(.int (p4 &&& (1 : Int32)))])) t → Steps p.tables e below (T0.setTop (mkF m 0 #[.val (.long q0), .second, .val (.long q1), .second, .val (.long q2), .second, .val (.long q3), .second, .val (.int p4), .unset, .unset, .unset, .unset, .unset, .unset, .unset, .unset, .unset, .unset, .unset, .unset, .unset, .unset, .unset, .unset, .unset] [])) t := fun t kt => by
    show Steps p.tables e below (T0.setTop (mkF m 0 #[.val (.long q0), .second, .val (.long q1), .second, .val (.long q2), .second, .val (.long q3), .second, .val (.int p4), .unset, .unset, .unset, .unset, .unset, .unset, .unset, .unset, .unset, .unset, .unset, .unset, .unset, .unset, .unset, .unset, .unset] [])) _
    refine XS.lloadN X0.here hx rfl (hb hby at_0) rfl ?_
    show Steps p.tables e below (T0.setTop (mkF m 1 #[.val (.long q0), .second, .val (.long q1), .second, .val (.long q2), .second, .val (.long q3), .second, .val (.int p4), .unset, .unset, .unset, .unset, .unset, .unset, .unset, .unset, .unset, .unset, .unset, .unset, .unset, .unset, .unset, .unset, .unset] [(.long q0)])) _
    refine X0.ldc2Long hx hown (mvT hZ (Wd hw 0 rfl)) (g := (mkF m 1 #[.val (.long q0), .second, .val (.long q1), .second, .val (.long q2), .second, .val (.long q3), .second, .val (.int p4), .unset, .unset, .unset, .unset, .unset, .unset, .unset, .unset, .unset, .unset, .unset, .unset, .unset, .unset, .unset, .unset, .unset] [(.long q0)])) rfl (hb hby at_1) _ ?_
    show Steps p.tables e below (T0.setTop (mkF m 4 #[.val (.long q0), .second, .val (.long q1), .second, .val (.long q2), .second, .val (.long q3), .second, .val (.int p4), .unset, .unset, .unset, .unset, .unset, .unset, .unset, .unset, .unset, .unset, .unset, .unset, .unset, .unset, .unset, .unset, .unset] [(.long (9223372036854775807 : Int64)), (.long q0)])) _
    refine XS.land X0.here hx rfl (hb hby at_4) rfl ?_
    show Steps p.tables e below (T0.setTop (mkF m 5 #[.val (.long q0), .second, .val (.long q1), .second, .val (.long q2), .second, .val (.long q3), .second, .val (.int p4), .unset, .unset, .unset, .unset, .unset, .unset, .unset, .unset, .unset, .unset, .unset, .unset, .unset, .unset, .unset, .unset, .unset] [(.long (q0 &&& (9223372036854775807 : Int64)))])) _
    refine XS.lstore X0.here hx rfl (hb hby at_5) rfl (l' := #[.val (.long q0), .second, .val (.long q1), .second, .val (.long q2), .second, .val (.long q3), .second, .val (.int p4), .val (.long (q0 &&& (9223372036854775807 : Int64))), .second, .unset, .unset, .unset, .unset, .unset, .unset, .unset, .unset, .unset, .unset, .unset, .unset, .unset, .unset, .unset]) rfl ?_
    show Steps p.tables e below (T0.setTop (mkF m 7 #[.val (.long q0), .second, .val (.long q1), .second, .val (.long q2), .second, .val (.long q3), .second, .val (.int p4), .val (.long (q0 &&& (9223372036854775807 : Int64))), .second, .unset, .unset, .unset, .unset, .unset, .unset, .unset, .unset, .unset, .unset, .unset, .unset, .unset, .unset, .unset] [])) _
    refine XS.iload X0.here hx rfl (hb hby at_7) rfl ?_
    show Steps p.tables e below (T0.setTop (mkF m 9 #[.val (.long q0), .second, .val (.long q1), .second, .val (.long q2), .second, .val (.long q3), .second, .val (.int p4), .val (.long (q0 &&& (9223372036854775807 : Int64))), .second, .unset, .unset, .unset, .unset, .unset, .unset, .unset, .unset, .unset, .unset, .unset, .unset, .unset, .unset, .unset] [(.int p4)])) _
    refine XS.iconst X0.here hx rfl (hb hby at_9) ?_
    show Steps p.tables e below (T0.setTop (mkF m 10 #[.val (.long q0), .second, .val (.long q1), .second, .val (.long q2), .second, .val (.long q3), .second, .val (.int p4), .val (.long (q0 &&& (9223372036854775807 : Int64))), .second, .unset, .unset, .unset, .unset, .unset, .unset, .unset, .unset, .unset, .unset, .unset, .unset, .unset, .unset, .unset] [(.int (1 : Int32)), (.int p4)])) _
    refine XS.iand X0.here hx rfl (hb hby at_10) rfl ?_
    exact kt
  by_cases hc11_1 : (p4 &&& (1 : Int32)) = (0 : Int32)
  · obtain ⟨_, _, ⟨T3, L3, k3, n3⟩, -, X3, ⟨Lc3, hQ3, l3, y3, z3⟩, st3⟩ := Jvm.LawKit.callS X0 hx (y := MN_0) hown (mvT hZ (Wd hw 52 rfl)) (mvT hZ (Wd hw 53 rfl)) (mvT hZ (Wd hw 54 rfl)) (mvT hZ (Wd hw 55 rfl)) (by decide) (backOf (W := 0) (rmMax l Z a0 hw [] aC kC vC ((q0 &&& (9223372036854775807 : Int64))) ((q1 &&& (9223372036854775807 : Int64))) (h0) n0 O0 GL) hZ (Wd hw 55 rfl) (Wd hw 54 rfl) (by decide) (by decide)) (g := (mkF m 27 #[.val (.long q0), .second, .val (.long q1), .second, .val (.long q2), .second, .val (.long q3), .second, .val (.int p4), .val (.long (q0 &&& (9223372036854775807 : Int64))), .second, .unset, .unset, .unset, .unset, .unset, .unset, .unset, .unset, .unset, .unset, .unset, .unset, .unset, .unset, .unset] [(.long (q1 &&& (9223372036854775807 : Int64))), (.long (q0 &&& (9223372036854775807 : Int64)))])) rfl (by rw [hml]; rfl) (argsL := [(.long (q0 &&& (9223372036854775807 : Int64))), (.long (q1 &&& (9223372036854775807 : Int64)))]) (rest := []) (lenOf pdv2 rfl) rfl (by show 2 * 0 + _ ≤ _; exact Nat.le_of_eq rfl) (hb hby at_27) (fun _ _ => ⟨rfl, e0, (by decide : 0 + 0 ≤ _), (by decide : 0 + 0 ≤ _)⟩)
    dsimp only [Pt.U, Pt.locs, Pt.cells, Pt.slots] at X3 l3 y3 z3 st3 hQ3
    subst l3 y3 z3
    obtain ⟨rfl, N3q, e3⟩ := hQ3
    have N3 := Fr.app N0 N3q
    have hA1 : ¬ ((lcmpW (q0 &&& (9223372036854775807 : Int64)) (0 : Int64)) < (0 : Int32)) := own_v0 q0
    have hA2 : (own_maxJ (q0 &&& (9223372036854775807 : Int64)) (q1 &&& (9223372036854775807 : Int64))) = (-1 : Int64) ∨ ¬ ((lcmpW (own_maxJ (q0 &&& (9223372036854775807 : Int64)) (q1 &&& (9223372036854775807 : Int64))) (q0 &&& (9223372036854775807 : Int64))) < (0 : Int32)) := Or.inr (own_vmax _ _)
    refine ⟨(q0 &&& (9223372036854775807 : Int64)), (own_maxJ (q0 &&& (9223372036854775807 : Int64)) (q1 &&& (9223372036854775807 : Int64))), T3, _, X3, e3, N3, hA1, hA2, fun target kt => ?_⟩
    refine pre2 target ?_
    show Steps p.tables e below (T0.setTop (mkF m 11 #[.val (.long q0), .second, .val (.long q1), .second, .val (.long q2), .second, .val (.long q3), .second, .val (.int p4), .val (.long (q0 &&& (9223372036854775807 : Int64))), .second, .unset, .unset, .unset, .unset, .unset, .unset, .unset, .unset, .unset, .unset, .unset, .unset, .unset, .unset, .unset] [(.int (p4 &&& (1 : Int32)))])) _
    refine XS.ifYes X0.here hx rfl (pc0 := 11) (pc' := 20) rfl (hb hby at_11) rfl ((if0 _ _).trans (teq hc11_1).1) (by decide) (by decide) ?_
    show Steps p.tables e below (T0.setTop (mkF m 20 #[.val (.long q0), .second, .val (.long q1), .second, .val (.long q2), .second, .val (.long q3), .second, .val (.int p4), .val (.long (q0 &&& (9223372036854775807 : Int64))), .second, .unset, .unset, .unset, .unset, .unset, .unset, .unset, .unset, .unset, .unset, .unset, .unset, .unset, .unset, .unset] [])) _
    refine XS.lload X0.here hx rfl (hb hby at_20) rfl ?_
    show Steps p.tables e below (T0.setTop (mkF m 22 #[.val (.long q0), .second, .val (.long q1), .second, .val (.long q2), .second, .val (.long q3), .second, .val (.int p4), .val (.long (q0 &&& (9223372036854775807 : Int64))), .second, .unset, .unset, .unset, .unset, .unset, .unset, .unset, .unset, .unset, .unset, .unset, .unset, .unset, .unset, .unset] [(.long (q0 &&& (9223372036854775807 : Int64)))])) _
    refine XS.lloadN X0.here hx rfl (hb hby at_22) rfl ?_
    show Steps p.tables e below (T0.setTop (mkF m 23 #[.val (.long q0), .second, .val (.long q1), .second, .val (.long q2), .second, .val (.long q3), .second, .val (.int p4), .val (.long (q0 &&& (9223372036854775807 : Int64))), .second, .unset, .unset, .unset, .unset, .unset, .unset, .unset, .unset, .unset, .unset, .unset, .unset, .unset, .unset, .unset] [(.long q1), (.long (q0 &&& (9223372036854775807 : Int64)))])) _
    refine X0.ldc2Long hx hown (mvT hZ (Wd hw 0 rfl)) (g := (mkF m 23 #[.val (.long q0), .second, .val (.long q1), .second, .val (.long q2), .second, .val (.long q3), .second, .val (.int p4), .val (.long (q0 &&& (9223372036854775807 : Int64))), .second, .unset, .unset, .unset, .unset, .unset, .unset, .unset, .unset, .unset, .unset, .unset, .unset, .unset, .unset, .unset] [(.long q1), (.long (q0 &&& (9223372036854775807 : Int64)))])) rfl (hb hby at_23) _ ?_
    show Steps p.tables e below (T0.setTop (mkF m 26 #[.val (.long q0), .second, .val (.long q1), .second, .val (.long q2), .second, .val (.long q3), .second, .val (.int p4), .val (.long (q0 &&& (9223372036854775807 : Int64))), .second, .unset, .unset, .unset, .unset, .unset, .unset, .unset, .unset, .unset, .unset, .unset, .unset, .unset, .unset, .unset] [(.long (9223372036854775807 : Int64)), (.long q1), (.long (q0 &&& (9223372036854775807 : Int64)))])) _
    refine XS.land X0.here hx rfl (hb hby at_26) rfl ?_
    show Steps p.tables e below (T0.setTop (mkF m 27 #[.val (.long q0), .second, .val (.long q1), .second, .val (.long q2), .second, .val (.long q3), .second, .val (.int p4), .val (.long (q0 &&& (9223372036854775807 : Int64))), .second, .unset, .unset, .unset, .unset, .unset, .unset, .unset, .unset, .unset, .unset, .unset, .unset, .unset, .unset, .unset] [(.long (q1 &&& (9223372036854775807 : Int64))), (.long (q0 &&& (9223372036854775807 : Int64)))])) _
    refine st3 _ ?_
    show Steps p.tables e below (T3.setTop (mkF m 30 #[.val (.long q0), .second, .val (.long q1), .second, .val (.long q2), .second, .val (.long q3), .second, .val (.int p4), .val (.long (q0 &&& (9223372036854775807 : Int64))), .second, .unset, .unset, .unset, .unset, .unset, .unset, .unset, .unset, .unset, .unset, .unset, .unset, .unset, .unset, .unset] [(.long (own_maxJ (q0 &&& (9223372036854775807 : Int64)) (q1 &&& (9223372036854775807 : Int64))))])) _
    refine XS.lstore X3.here hx rfl (hb hby at_30) rfl (l' := #[.val (.long q0), .second, .val (.long q1), .second, .val (.long q2), .second, .val (.long q3), .second, .val (.int p4), .val (.long (q0 &&& (9223372036854775807 : Int64))), .second, .val (.long (own_maxJ (q0 &&& (9223372036854775807 : Int64)) (q1 &&& (9223372036854775807 : Int64)))), .second, .unset, .unset, .unset, .unset, .unset, .unset, .unset, .unset, .unset, .unset, .unset, .unset, .unset]) rfl ?_
    exact kt
  · have hA1 : ¬ ((lcmpW (q0 &&& (9223372036854775807 : Int64)) (0 : Int64)) < (0 : Int32)) := own_v0 q0
    have hA2 : (-1 : Int64) = (-1 : Int64) ∨ ¬ ((lcmpW (-1 : Int64) (q0 &&& (9223372036854775807 : Int64))) < (0 : Int32)) := Or.inl rfl
    refine ⟨(q0 &&& (9223372036854775807 : Int64)), (-1 : Int64), T0, _, X0, e0, N0, hA1, hA2, fun target kt => ?_⟩
    refine pre2 target ?_
    show Steps p.tables e below (T0.setTop (mkF m 11 #[.val (.long q0), .second, .val (.long q1), .second, .val (.long q2), .second, .val (.long q3), .second, .val (.int p4), .val (.long (q0 &&& (9223372036854775807 : Int64))), .second, .unset, .unset, .unset, .unset, .unset, .unset, .unset, .unset, .unset, .unset, .unset, .unset, .unset, .unset, .unset] [(.int (p4 &&& (1 : Int32)))])) _
    refine XS.ifNo X0.here hx rfl (hb hby at_11) rfl ((if0 _ _).trans (feq hc11_1).1) ?_
    show Steps p.tables e below (T0.setTop (mkF m 14 #[.val (.long q0), .second, .val (.long q1), .second, .val (.long q2), .second, .val (.long q3), .second, .val (.int p4), .val (.long (q0 &&& (9223372036854775807 : Int64))), .second, .unset, .unset, .unset, .unset, .unset, .unset, .unset, .unset, .unset, .unset, .unset, .unset, .unset, .unset, .unset] [])) _
    refine X0.ldc2Long hx hown (mvT hZ (Wd hw 1 rfl)) (g := (mkF m 14 #[.val (.long q0), .second, .val (.long q1), .second, .val (.long q2), .second, .val (.long q3), .second, .val (.int p4), .val (.long (q0 &&& (9223372036854775807 : Int64))), .second, .unset, .unset, .unset, .unset, .unset, .unset, .unset, .unset, .unset, .unset, .unset, .unset, .unset, .unset, .unset] [])) rfl (hb hby at_14) _ ?_
    show Steps p.tables e below (T0.setTop (mkF m 17 #[.val (.long q0), .second, .val (.long q1), .second, .val (.long q2), .second, .val (.long q3), .second, .val (.int p4), .val (.long (q0 &&& (9223372036854775807 : Int64))), .second, .unset, .unset, .unset, .unset, .unset, .unset, .unset, .unset, .unset, .unset, .unset, .unset, .unset, .unset, .unset] [(.long (-1 : Int64))])) _
    refine XS.goto X0.here hx rfl (pc0 := 17) (pc' := 30) rfl (hb hby at_17) (by decide) (by decide) ?_
    show Steps p.tables e below (T0.setTop (mkF m 30 #[.val (.long q0), .second, .val (.long q1), .second, .val (.long q2), .second, .val (.long q3), .second, .val (.int p4), .val (.long (q0 &&& (9223372036854775807 : Int64))), .second, .unset, .unset, .unset, .unset, .unset, .unset, .unset, .unset, .unset, .unset, .unset, .unset, .unset, .unset, .unset] [(.long (-1 : Int64))])) _
    refine XS.lstore X0.here hx rfl (hb hby at_30) rfl (l' := #[.val (.long q0), .second, .val (.long q1), .second, .val (.long q2), .second, .val (.long q3), .second, .val (.int p4), .val (.long (q0 &&& (9223372036854775807 : Int64))), .second, .val (.long (-1 : Int64)), .second, .unset, .unset, .unset, .unset, .unset, .unset, .unset, .unset, .unset, .unset, .unset, .unset, .unset]) rfl ?_
    exact kt
set_option maxRecDepth 65536 in
set_option maxHeartbeats 40000000 in
theorem sgB {p : Program} {l : Launch} {e : Env} {s : State} {m : MethodId} {below : List Frame} {meth : Method} {c : Code} {T0 : State} {locs : List Loc} {Z : State} {a0 : Array Value} (aC : Addr) (kC : ClassId) (vC : List Value) (q0 : Int64) (q1 : Int64) (q2 : Int64) (q3 : Int64) (p4 : Int32) (mn1 : Int64) (mx1 : Int64) {h0 : Heap} {n0 : Nat} (X0 : Stand p l e room_1 s m #[(.long q0), (.long q1), (.long q2), (.long q3), (.int p4)] below meth c T0 locs 0 0) (hx : p.tables.exec = Jvm.exec) (hZ : Z.Warmed39 s.vm) (hw : ∀ d ∈ tables_1, d.before a0 Z = true) (hby : c.code = code) (hml : c.maxLocals = 26) (hown : s.vm.findClass "com/example/tracelint/tracelint/IntervalEqualsPinLaw" = some m.cls) (e0 : T0.heap = h0) (N0 : Fr n0 locs) (O0 : Old Z n0 h0) (GL : GF Z aC kC vC) :
    ∃ md : Int32, ∃ ub : Int32, ∃ (T' : State) (locs' : List Loc), Stand p l e room_1 s m #[(.long q0), (.long q1), (.long q2), (.long q3), (.int p4)] below meth c T' locs' 0 0 ∧ T'.heap = h0 ∧ Fr n0 locs' ∧
      ∀ target, Steps p.tables e below (T'.setTop (mkF m 55 #[.val (.long q0), .second, .val (.long q1), .second, .val (.long q2), .second, .val (.long q3), .second, .val (.int p4), .val (.long mn1), .second, .val (.long mx1), .second, .val (.int md), .val (.int ub), .unset, .unset, .unset, .unset, .unset, .unset, .unset, .unset, .unset, .unset, .unset] [])) target → Steps p.tables e below (T0.setTop (mkF m 32 #[.val (.long q0), .second, .val (.long q1), .second, .val (.long q2), .second, .val (.long q3), .second, .val (.int p4), .val (.long mn1), .second, .val (.long mx1), .second, .unset, .unset, .unset, .unset, .unset, .unset, .unset, .unset, .unset, .unset, .unset, .unset, .unset] [])) target := by
  have GL' := GL
  obtain ⟨GSC, GVC, GPC⟩ := GL'
  have pre2 : ∀ t, Steps p.tables e below (T0.setTop (mkF m 45 #[.val (.long q0), .second, .val (.long q1), .second, .val (.long q2), .second, .val (.long q3), .second, .val (.int p4), .val (.long mn1), .second, .val (.long mx1), .second, .val (.int (((p4.toUInt32 >>> ((1 : Int32) &&& 31).toUInt32).toInt32) &&& (3 : Int32))), .unset, .unset, .unset, .unset, .unset, .unset, .unset, .unset, .unset, .unset, .unset, .unset] [(.int (p4 &&& (8 : Int32)))])) t → Steps p.tables e below (T0.setTop (mkF m 32 #[.val (.long q0), .second, .val (.long q1), .second, .val (.long q2), .second, .val (.long q3), .second, .val (.int p4), .val (.long mn1), .second, .val (.long mx1), .second, .unset, .unset, .unset, .unset, .unset, .unset, .unset, .unset, .unset, .unset, .unset, .unset, .unset] [])) t := fun t kt => by
    show Steps p.tables e below (T0.setTop (mkF m 32 #[.val (.long q0), .second, .val (.long q1), .second, .val (.long q2), .second, .val (.long q3), .second, .val (.int p4), .val (.long mn1), .second, .val (.long mx1), .second, .unset, .unset, .unset, .unset, .unset, .unset, .unset, .unset, .unset, .unset, .unset, .unset, .unset] [])) _
    refine XS.iload X0.here hx rfl (hb hby at_32) rfl ?_
    show Steps p.tables e below (T0.setTop (mkF m 34 #[.val (.long q0), .second, .val (.long q1), .second, .val (.long q2), .second, .val (.long q3), .second, .val (.int p4), .val (.long mn1), .second, .val (.long mx1), .second, .unset, .unset, .unset, .unset, .unset, .unset, .unset, .unset, .unset, .unset, .unset, .unset, .unset] [(.int p4)])) _
    refine XS.iconst X0.here hx rfl (hb hby at_34) ?_
    show Steps p.tables e below (T0.setTop (mkF m 35 #[.val (.long q0), .second, .val (.long q1), .second, .val (.long q2), .second, .val (.long q3), .second, .val (.int p4), .val (.long mn1), .second, .val (.long mx1), .second, .unset, .unset, .unset, .unset, .unset, .unset, .unset, .unset, .unset, .unset, .unset, .unset, .unset] [(.int (1 : Int32)), (.int p4)])) _
    refine XS.iushr X0.here hx rfl (hb hby at_35) rfl ?_
    show Steps p.tables e below (T0.setTop (mkF m 36 #[.val (.long q0), .second, .val (.long q1), .second, .val (.long q2), .second, .val (.long q3), .second, .val (.int p4), .val (.long mn1), .second, .val (.long mx1), .second, .unset, .unset, .unset, .unset, .unset, .unset, .unset, .unset, .unset, .unset, .unset, .unset, .unset] [(.int ((p4.toUInt32 >>> ((1 : Int32) &&& 31).toUInt32).toInt32))])) _
    refine XS.iconst X0.here hx rfl (hb hby at_36) ?_
    show Steps p.tables e below (T0.setTop (mkF m 37 #[.val (.long q0), .second, .val (.long q1), .second, .val (.long q2), .second, .val (.long q3), .second, .val (.int p4), .val (.long mn1), .second, .val (.long mx1), .second, .unset, .unset, .unset, .unset, .unset, .unset, .unset, .unset, .unset, .unset, .unset, .unset, .unset] [(.int (3 : Int32)), (.int ((p4.toUInt32 >>> ((1 : Int32) &&& 31).toUInt32).toInt32))])) _
    refine XS.iand X0.here hx rfl (hb hby at_37) rfl ?_
    show Steps p.tables e below (T0.setTop (mkF m 38 #[.val (.long q0), .second, .val (.long q1), .second, .val (.long q2), .second, .val (.long q3), .second, .val (.int p4), .val (.long mn1), .second, .val (.long mx1), .second, .unset, .unset, .unset, .unset, .unset, .unset, .unset, .unset, .unset, .unset, .unset, .unset, .unset] [(.int (((p4.toUInt32 >>> ((1 : Int32) &&& 31).toUInt32).toInt32) &&& (3 : Int32)))])) _
    refine XS.istore X0.here hx rfl (hb hby at_38) rfl (l' := #[.val (.long q0), .second, .val (.long q1), .second, .val (.long q2), .second, .val (.long q3), .second, .val (.int p4), .val (.long mn1), .second, .val (.long mx1), .second, .val (.int (((p4.toUInt32 >>> ((1 : Int32) &&& 31).toUInt32).toInt32) &&& (3 : Int32))), .unset, .unset, .unset, .unset, .unset, .unset, .unset, .unset, .unset, .unset, .unset, .unset]) rfl ?_
    show Steps p.tables e below (T0.setTop (mkF m 40 #[.val (.long q0), .second, .val (.long q1), .second, .val (.long q2), .second, .val (.long q3), .second, .val (.int p4), .val (.long mn1), .second, .val (.long mx1), .second, .val (.int (((p4.toUInt32 >>> ((1 : Int32) &&& 31).toUInt32).toInt32) &&& (3 : Int32))), .unset, .unset, .unset, .unset, .unset, .unset, .unset, .unset, .unset, .unset, .unset, .unset] [])) _
    refine XS.iload X0.here hx rfl (hb hby at_40) rfl ?_
    show Steps p.tables e below (T0.setTop (mkF m 42 #[.val (.long q0), .second, .val (.long q1), .second, .val (.long q2), .second, .val (.long q3), .second, .val (.int p4), .val (.long mn1), .second, .val (.long mx1), .second, .val (.int (((p4.toUInt32 >>> ((1 : Int32) &&& 31).toUInt32).toInt32) &&& (3 : Int32))), .unset, .unset, .unset, .unset, .unset, .unset, .unset, .unset, .unset, .unset, .unset, .unset] [(.int p4)])) _
    refine XS.bipush X0.here hx rfl (hb hby at_42) ?_
    show Steps p.tables e below (T0.setTop (mkF m 44 #[.val (.long q0), .second, .val (.long q1), .second, .val (.long q2), .second, .val (.long q3), .second, .val (.int p4), .val (.long mn1), .second, .val (.long mx1), .second, .val (.int (((p4.toUInt32 >>> ((1 : Int32) &&& 31).toUInt32).toInt32) &&& (3 : Int32))), .unset, .unset, .unset, .unset, .unset, .unset, .unset, .unset, .unset, .unset, .unset, .unset] [(.int (8 : Int32)), (.int p4)])) _
    refine XS.iand X0.here hx rfl (hb hby at_44) rfl ?_
    exact kt
  by_cases hc45_1 : (p4 &&& (8 : Int32)) = (0 : Int32)
  · refine ⟨(((p4.toUInt32 >>> ((1 : Int32) &&& 31).toUInt32).toInt32) &&& (3 : Int32)), (0 : Int32), T0, _, X0, e0, N0, fun target kt => ?_⟩
    refine pre2 target ?_
    show Steps p.tables e below (T0.setTop (mkF m 45 #[.val (.long q0), .second, .val (.long q1), .second, .val (.long q2), .second, .val (.long q3), .second, .val (.int p4), .val (.long mn1), .second, .val (.long mx1), .second, .val (.int (((p4.toUInt32 >>> ((1 : Int32) &&& 31).toUInt32).toInt32) &&& (3 : Int32))), .unset, .unset, .unset, .unset, .unset, .unset, .unset, .unset, .unset, .unset, .unset, .unset] [(.int (p4 &&& (8 : Int32)))])) _
    refine XS.ifYes X0.here hx rfl (pc0 := 45) (pc' := 52) rfl (hb hby at_45) rfl ((if0 _ _).trans (teq hc45_1).1) (by decide) (by decide) ?_
    show Steps p.tables e below (T0.setTop (mkF m 52 #[.val (.long q0), .second, .val (.long q1), .second, .val (.long q2), .second, .val (.long q3), .second, .val (.int p4), .val (.long mn1), .second, .val (.long mx1), .second, .val (.int (((p4.toUInt32 >>> ((1 : Int32) &&& 31).toUInt32).toInt32) &&& (3 : Int32))), .unset, .unset, .unset, .unset, .unset, .unset, .unset, .unset, .unset, .unset, .unset, .unset] [])) _
    refine XS.iconst X0.here hx rfl (hb hby at_52) ?_
    show Steps p.tables e below (T0.setTop (mkF m 53 #[.val (.long q0), .second, .val (.long q1), .second, .val (.long q2), .second, .val (.long q3), .second, .val (.int p4), .val (.long mn1), .second, .val (.long mx1), .second, .val (.int (((p4.toUInt32 >>> ((1 : Int32) &&& 31).toUInt32).toInt32) &&& (3 : Int32))), .unset, .unset, .unset, .unset, .unset, .unset, .unset, .unset, .unset, .unset, .unset, .unset] [(.int (0 : Int32))])) _
    refine XS.istore X0.here hx rfl (hb hby at_53) rfl (l' := #[.val (.long q0), .second, .val (.long q1), .second, .val (.long q2), .second, .val (.long q3), .second, .val (.int p4), .val (.long mn1), .second, .val (.long mx1), .second, .val (.int (((p4.toUInt32 >>> ((1 : Int32) &&& 31).toUInt32).toInt32) &&& (3 : Int32))), .val (.int (0 : Int32)), .unset, .unset, .unset, .unset, .unset, .unset, .unset, .unset, .unset, .unset, .unset]) rfl ?_
    exact kt
  · refine ⟨(((p4.toUInt32 >>> ((1 : Int32) &&& 31).toUInt32).toInt32) &&& (3 : Int32)), (1 : Int32), T0, _, X0, e0, N0, fun target kt => ?_⟩
    refine pre2 target ?_
    show Steps p.tables e below (T0.setTop (mkF m 45 #[.val (.long q0), .second, .val (.long q1), .second, .val (.long q2), .second, .val (.long q3), .second, .val (.int p4), .val (.long mn1), .second, .val (.long mx1), .second, .val (.int (((p4.toUInt32 >>> ((1 : Int32) &&& 31).toUInt32).toInt32) &&& (3 : Int32))), .unset, .unset, .unset, .unset, .unset, .unset, .unset, .unset, .unset, .unset, .unset, .unset] [(.int (p4 &&& (8 : Int32)))])) _
    refine XS.ifNo X0.here hx rfl (hb hby at_45) rfl ((if0 _ _).trans (feq hc45_1).1) ?_
    show Steps p.tables e below (T0.setTop (mkF m 48 #[.val (.long q0), .second, .val (.long q1), .second, .val (.long q2), .second, .val (.long q3), .second, .val (.int p4), .val (.long mn1), .second, .val (.long mx1), .second, .val (.int (((p4.toUInt32 >>> ((1 : Int32) &&& 31).toUInt32).toInt32) &&& (3 : Int32))), .unset, .unset, .unset, .unset, .unset, .unset, .unset, .unset, .unset, .unset, .unset, .unset] [])) _
    refine XS.iconst X0.here hx rfl (hb hby at_48) ?_
    show Steps p.tables e below (T0.setTop (mkF m 49 #[.val (.long q0), .second, .val (.long q1), .second, .val (.long q2), .second, .val (.long q3), .second, .val (.int p4), .val (.long mn1), .second, .val (.long mx1), .second, .val (.int (((p4.toUInt32 >>> ((1 : Int32) &&& 31).toUInt32).toInt32) &&& (3 : Int32))), .unset, .unset, .unset, .unset, .unset, .unset, .unset, .unset, .unset, .unset, .unset, .unset] [(.int (1 : Int32))])) _
    refine XS.goto X0.here hx rfl (pc0 := 49) (pc' := 53) rfl (hb hby at_49) (by decide) (by decide) ?_
    show Steps p.tables e below (T0.setTop (mkF m 53 #[.val (.long q0), .second, .val (.long q1), .second, .val (.long q2), .second, .val (.long q3), .second, .val (.int p4), .val (.long mn1), .second, .val (.long mx1), .second, .val (.int (((p4.toUInt32 >>> ((1 : Int32) &&& 31).toUInt32).toInt32) &&& (3 : Int32))), .unset, .unset, .unset, .unset, .unset, .unset, .unset, .unset, .unset, .unset, .unset, .unset] [(.int (1 : Int32))])) _
    refine XS.istore X0.here hx rfl (hb hby at_53) rfl (l' := #[.val (.long q0), .second, .val (.long q1), .second, .val (.long q2), .second, .val (.long q3), .second, .val (.int p4), .val (.long mn1), .second, .val (.long mx1), .second, .val (.int (((p4.toUInt32 >>> ((1 : Int32) &&& 31).toUInt32).toInt32) &&& (3 : Int32))), .val (.int (1 : Int32)), .unset, .unset, .unset, .unset, .unset, .unset, .unset, .unset, .unset, .unset, .unset]) rfl ?_
    exact kt
set_option maxRecDepth 65536 in
set_option maxHeartbeats 40000000 in
theorem sgC {p : Program} {l : Launch} {e : Env} {s : State} {m : MethodId} {below : List Frame} {meth : Method} {c : Code} {T0 : State} {locs : List Loc} {Z : State} {a0 : Array Value} (aC : Addr) (kC : ClassId) (vC : List Value) (q0 : Int64) (q1 : Int64) (q2 : Int64) (q3 : Int64) (p4 : Int32) (mn1 : Int64) (mx1 : Int64) (md : Int32) (ub : Int32) {h0 : Heap} {n0 : Nat} (X0 : Stand p l e room_1 s m #[(.long q0), (.long q1), (.long q2), (.long q3), (.int p4)] below meth c T0 locs 0 0) (hx : p.tables.exec = Jvm.exec) (hZ : Z.Warmed39 s.vm) (hw : ∀ d ∈ tables_1, d.before a0 Z = true) (hby : c.code = code) (hml : c.maxLocals = 26) (hown : s.vm.findClass "com/example/tracelint/tracelint/IntervalEqualsPinLaw" = some m.cls) (e0 : T0.heap = h0) (N0 : Fr n0 locs) (O0 : Old Z n0 h0) (GL : GF Z aC kC vC) (hA : ¬ ((lcmpW mn1 (0 : Int64)) < (0 : Int32))) (hB : mx1 = (-1 : Int64) ∨ ¬ ((lcmpW mx1 mn1) < (0 : Int32))) :
    ∃ mn2 : Int64, ∃ mx2 : Int64, ∃ (T' : State) (locs' : List Loc), Stand p l e room_1 s m #[(.long q0), (.long q1), (.long q2), (.long q3), (.int p4)] below meth c T' locs' 0 0 ∧ T'.heap = h0 ∧ Fr n0 locs' ∧ (¬ ((lcmpW mn2 (0 : Int64)) < (0 : Int32))) ∧ (mx2 = (-1 : Int64) ∨ ¬ ((lcmpW mx2 mn2) < (0 : Int32))) ∧
      ∀ target, Steps p.tables e below (T'.setTop (mkF m 184 #[.val (.long q0), .second, .val (.long q1), .second, .val (.long q2), .second, .val (.long q3), .second, .val (.int p4), .val (.long mn1), .second, .val (.long mx1), .second, .val (.int md), .val (.int ub), .val (.long mn2), .second, .val (.long mx2), .second, .unset, .unset, .unset, .unset, .unset, .unset, .unset] [])) target → Steps p.tables e below (T0.setTop (mkF m 55 #[.val (.long q0), .second, .val (.long q1), .second, .val (.long q2), .second, .val (.long q3), .second, .val (.int p4), .val (.long mn1), .second, .val (.long mx1), .second, .val (.int md), .val (.int ub), .unset, .unset, .unset, .unset, .unset, .unset, .unset, .unset, .unset, .unset, .unset] [])) target := by
  have GL' := GL
  obtain ⟨GSC, GVC, GPC⟩ := GL'
  have pre2 : ∀ t, Steps p.tables e below (T0.setTop (mkF m 57 #[.val (.long q0), .second, .val (.long q1), .second, .val (.long q2), .second, .val (.long q3), .second, .val (.int p4), .val (.long mn1), .second, .val (.long mx1), .second, .val (.int md), .val (.int ub), .unset, .unset, .unset, .unset, .unset, .unset, .unset, .unset, .unset, .unset, .unset] [(.int md)])) t → Steps p.tables e below (T0.setTop (mkF m 55 #[.val (.long q0), .second, .val (.long q1), .second, .val (.long q2), .second, .val (.long q3), .second, .val (.int p4), .val (.long mn1), .second, .val (.long mx1), .second, .val (.int md), .val (.int ub), .unset, .unset, .unset, .unset, .unset, .unset, .unset, .unset, .unset, .unset, .unset] [])) t := fun t kt => by
    show Steps p.tables e below (T0.setTop (mkF m 55 #[.val (.long q0), .second, .val (.long q1), .second, .val (.long q2), .second, .val (.long q3), .second, .val (.int p4), .val (.long mn1), .second, .val (.long mx1), .second, .val (.int md), .val (.int ub), .unset, .unset, .unset, .unset, .unset, .unset, .unset, .unset, .unset, .unset, .unset] [])) _
    refine XS.iload X0.here hx rfl (hb hby at_55) rfl ?_
    exact kt
  by_cases hc57_1 : md = (0 : Int32)
  · have pre4 : ∀ t, Steps p.tables e below (T0.setTop (mkF m 70 #[.val (.long q0), .second, .val (.long q1), .second, .val (.long q2), .second, .val (.long q3), .second, .val (.int p4), .val (.long mn1), .second, .val (.long mx1), .second, .val (.int md), .val (.int ub), .val (.long (q2 &&& (9223372036854775807 : Int64))), .second, .unset, .unset, .unset, .unset, .unset, .unset, .unset, .unset, .unset] [(.int ub)])) t → Steps p.tables e below (T0.setTop (mkF m 55 #[.val (.long q0), .second, .val (.long q1), .second, .val (.long q2), .second, .val (.long q3), .second, .val (.int p4), .val (.long mn1), .second, .val (.long mx1), .second, .val (.int md), .val (.int ub), .unset, .unset, .unset, .unset, .unset, .unset, .unset, .unset, .unset, .unset, .unset] [])) t := fun t kt => by
      refine pre2 t ?_
      show Steps p.tables e below (T0.setTop (mkF m 57 #[.val (.long q0), .second, .val (.long q1), .second, .val (.long q2), .second, .val (.long q3), .second, .val (.int p4), .val (.long mn1), .second, .val (.long mx1), .second, .val (.int md), .val (.int ub), .unset, .unset, .unset, .unset, .unset, .unset, .unset, .unset, .unset, .unset, .unset] [(.int md)])) _
      refine XS.ifNo X0.here hx rfl (hb hby at_57) rfl ((if0 _ _).trans (teq hc57_1).2) ?_
      show Steps p.tables e below (T0.setTop (mkF m 60 #[.val (.long q0), .second, .val (.long q1), .second, .val (.long q2), .second, .val (.long q3), .second, .val (.int p4), .val (.long mn1), .second, .val (.long mx1), .second, .val (.int md), .val (.int ub), .unset, .unset, .unset, .unset, .unset, .unset, .unset, .unset, .unset, .unset, .unset] [])) _
      refine XS.lload X0.here hx rfl (hb hby at_60) rfl ?_
      show Steps p.tables e below (T0.setTop (mkF m 62 #[.val (.long q0), .second, .val (.long q1), .second, .val (.long q2), .second, .val (.long q3), .second, .val (.int p4), .val (.long mn1), .second, .val (.long mx1), .second, .val (.int md), .val (.int ub), .unset, .unset, .unset, .unset, .unset, .unset, .unset, .unset, .unset, .unset, .unset] [(.long q2)])) _
      refine X0.ldc2Long hx hown (mvT hZ (Wd hw 0 rfl)) (g := (mkF m 62 #[.val (.long q0), .second, .val (.long q1), .second, .val (.long q2), .second, .val (.long q3), .second, .val (.int p4), .val (.long mn1), .second, .val (.long mx1), .second, .val (.int md), .val (.int ub), .unset, .unset, .unset, .unset, .unset, .unset, .unset, .unset, .unset, .unset, .unset] [(.long q2)])) rfl (hb hby at_62) _ ?_
      show Steps p.tables e below (T0.setTop (mkF m 65 #[.val (.long q0), .second, .val (.long q1), .second, .val (.long q2), .second, .val (.long q3), .second, .val (.int p4), .val (.long mn1), .second, .val (.long mx1), .second, .val (.int md), .val (.int ub), .unset, .unset, .unset, .unset, .unset, .unset, .unset, .unset, .unset, .unset, .unset] [(.long (9223372036854775807 : Int64)), (.long q2)])) _
      refine XS.land X0.here hx rfl (hb hby at_65) rfl ?_
      show Steps p.tables e below (T0.setTop (mkF m 66 #[.val (.long q0), .second, .val (.long q1), .second, .val (.long q2), .second, .val (.long q3), .second, .val (.int p4), .val (.long mn1), .second, .val (.long mx1), .second, .val (.int md), .val (.int ub), .unset, .unset, .unset, .unset, .unset, .unset, .unset, .unset, .unset, .unset, .unset] [(.long (q2 &&& (9223372036854775807 : Int64)))])) _
      refine XS.lstore X0.here hx rfl (hb hby at_66) rfl (l' := #[.val (.long q0), .second, .val (.long q1), .second, .val (.long q2), .second, .val (.long q3), .second, .val (.int p4), .val (.long mn1), .second, .val (.long mx1), .second, .val (.int md), .val (.int ub), .val (.long (q2 &&& (9223372036854775807 : Int64))), .second, .unset, .unset, .unset, .unset, .unset, .unset, .unset, .unset, .unset]) rfl ?_
      show Steps p.tables e below (T0.setTop (mkF m 68 #[.val (.long q0), .second, .val (.long q1), .second, .val (.long q2), .second, .val (.long q3), .second, .val (.int p4), .val (.long mn1), .second, .val (.long mx1), .second, .val (.int md), .val (.int ub), .val (.long (q2 &&& (9223372036854775807 : Int64))), .second, .unset, .unset, .unset, .unset, .unset, .unset, .unset, .unset, .unset] [])) _
      refine XS.iload X0.here hx rfl (hb hby at_68) rfl ?_
      exact kt
    by_cases hc70_3 : ub = (0 : Int32)
    · obtain ⟨_, _, ⟨T5, L5, k5, n5⟩, -, X5, ⟨Lc5, hQ5, l5, y5, z5⟩, st5⟩ := Jvm.LawKit.callS X0 hx (y := MN_0) hown (mvT hZ (Wd hw 52 rfl)) (mvT hZ (Wd hw 53 rfl)) (mvT hZ (Wd hw 54 rfl)) (mvT hZ (Wd hw 55 rfl)) (by decide) (backOf (W := 0) (rmMax l Z a0 hw [] aC kC vC ((q2 &&& (9223372036854775807 : Int64))) ((q3 &&& (9223372036854775807 : Int64))) (h0) n0 O0 GL) hZ (Wd hw 55 rfl) (Wd hw 54 rfl) (by decide) (by decide)) (g := (mkF m 87 #[.val (.long q0), .second, .val (.long q1), .second, .val (.long q2), .second, .val (.long q3), .second, .val (.int p4), .val (.long mn1), .second, .val (.long mx1), .second, .val (.int md), .val (.int ub), .val (.long (q2 &&& (9223372036854775807 : Int64))), .second, .unset, .unset, .unset, .unset, .unset, .unset, .unset, .unset, .unset] [(.long (q3 &&& (9223372036854775807 : Int64))), (.long (q2 &&& (9223372036854775807 : Int64)))])) rfl (by rw [hml]; rfl) (argsL := [(.long (q2 &&& (9223372036854775807 : Int64))), (.long (q3 &&& (9223372036854775807 : Int64)))]) (rest := []) (lenOf pdv2 rfl) rfl (by show 2 * 0 + _ ≤ _; exact Nat.le_of_eq rfl) (hb hby at_87) (fun _ _ => ⟨rfl, e0, (by decide : 0 + 0 ≤ _), (by decide : 0 + 0 ≤ _)⟩)
      dsimp only [Pt.U, Pt.locs, Pt.cells, Pt.slots] at X5 l5 y5 z5 st5 hQ5
      subst l5 y5 z5
      obtain ⟨rfl, N5q, e5⟩ := hQ5
      have N5 := Fr.app N0 N5q
      have hC1 : ¬ ((lcmpW (q2 &&& (9223372036854775807 : Int64)) (0 : Int64)) < (0 : Int32)) := own_v0 _
      have hC2 : (own_maxJ (q2 &&& (9223372036854775807 : Int64)) (q3 &&& (9223372036854775807 : Int64))) = (-1 : Int64) ∨ ¬ ((lcmpW (own_maxJ (q2 &&& (9223372036854775807 : Int64)) (q3 &&& (9223372036854775807 : Int64))) (q2 &&& (9223372036854775807 : Int64))) < (0 : Int32)) := Or.inr (own_vmax _ _)
      refine ⟨(q2 &&& (9223372036854775807 : Int64)), (own_maxJ (q2 &&& (9223372036854775807 : Int64)) (q3 &&& (9223372036854775807 : Int64))), T5, _, X5, e5, N5, hC1, hC2, fun target kt => ?_⟩
      refine pre4 target ?_
      show Steps p.tables e below (T0.setTop (mkF m 70 #[.val (.long q0), .second, .val (.long q1), .second, .val (.long q2), .second, .val (.long q3), .second, .val (.int p4), .val (.long mn1), .second, .val (.long mx1), .second, .val (.int md), .val (.int ub), .val (.long (q2 &&& (9223372036854775807 : Int64))), .second, .unset, .unset, .unset, .unset, .unset, .unset, .unset, .unset, .unset] [(.int ub)])) _
      refine XS.ifYes X0.here hx rfl (pc0 := 70) (pc' := 79) rfl (hb hby at_70) rfl ((if0 _ _).trans (teq hc70_3).1) (by decide) (by decide) ?_
      show Steps p.tables e below (T0.setTop (mkF m 79 #[.val (.long q0), .second, .val (.long q1), .second, .val (.long q2), .second, .val (.long q3), .second, .val (.int p4), .val (.long mn1), .second, .val (.long mx1), .second, .val (.int md), .val (.int ub), .val (.long (q2 &&& (9223372036854775807 : Int64))), .second, .unset, .unset, .unset, .unset, .unset, .unset, .unset, .unset, .unset] [])) _
      refine XS.lload X0.here hx rfl (hb hby at_79) rfl ?_
      show Steps p.tables e below (T0.setTop (mkF m 81 #[.val (.long q0), .second, .val (.long q1), .second, .val (.long q2), .second, .val (.long q3), .second, .val (.int p4), .val (.long mn1), .second, .val (.long mx1), .second, .val (.int md), .val (.int ub), .val (.long (q2 &&& (9223372036854775807 : Int64))), .second, .unset, .unset, .unset, .unset, .unset, .unset, .unset, .unset, .unset] [(.long (q2 &&& (9223372036854775807 : Int64)))])) _
      refine XS.lload X0.here hx rfl (hb hby at_81) rfl ?_
      show Steps p.tables e below (T0.setTop (mkF m 83 #[.val (.long q0), .second, .val (.long q1), .second, .val (.long q2), .second, .val (.long q3), .second, .val (.int p4), .val (.long mn1), .second, .val (.long mx1), .second, .val (.int md), .val (.int ub), .val (.long (q2 &&& (9223372036854775807 : Int64))), .second, .unset, .unset, .unset, .unset, .unset, .unset, .unset, .unset, .unset] [(.long q3), (.long (q2 &&& (9223372036854775807 : Int64)))])) _
      refine X0.ldc2Long hx hown (mvT hZ (Wd hw 0 rfl)) (g := (mkF m 83 #[.val (.long q0), .second, .val (.long q1), .second, .val (.long q2), .second, .val (.long q3), .second, .val (.int p4), .val (.long mn1), .second, .val (.long mx1), .second, .val (.int md), .val (.int ub), .val (.long (q2 &&& (9223372036854775807 : Int64))), .second, .unset, .unset, .unset, .unset, .unset, .unset, .unset, .unset, .unset] [(.long q3), (.long (q2 &&& (9223372036854775807 : Int64)))])) rfl (hb hby at_83) _ ?_
      show Steps p.tables e below (T0.setTop (mkF m 86 #[.val (.long q0), .second, .val (.long q1), .second, .val (.long q2), .second, .val (.long q3), .second, .val (.int p4), .val (.long mn1), .second, .val (.long mx1), .second, .val (.int md), .val (.int ub), .val (.long (q2 &&& (9223372036854775807 : Int64))), .second, .unset, .unset, .unset, .unset, .unset, .unset, .unset, .unset, .unset] [(.long (9223372036854775807 : Int64)), (.long q3), (.long (q2 &&& (9223372036854775807 : Int64)))])) _
      refine XS.land X0.here hx rfl (hb hby at_86) rfl ?_
      show Steps p.tables e below (T0.setTop (mkF m 87 #[.val (.long q0), .second, .val (.long q1), .second, .val (.long q2), .second, .val (.long q3), .second, .val (.int p4), .val (.long mn1), .second, .val (.long mx1), .second, .val (.int md), .val (.int ub), .val (.long (q2 &&& (9223372036854775807 : Int64))), .second, .unset, .unset, .unset, .unset, .unset, .unset, .unset, .unset, .unset] [(.long (q3 &&& (9223372036854775807 : Int64))), (.long (q2 &&& (9223372036854775807 : Int64)))])) _
      refine st5 _ ?_
      show Steps p.tables e below (T5.setTop (mkF m 90 #[.val (.long q0), .second, .val (.long q1), .second, .val (.long q2), .second, .val (.long q3), .second, .val (.int p4), .val (.long mn1), .second, .val (.long mx1), .second, .val (.int md), .val (.int ub), .val (.long (q2 &&& (9223372036854775807 : Int64))), .second, .unset, .unset, .unset, .unset, .unset, .unset, .unset, .unset, .unset] [(.long (own_maxJ (q2 &&& (9223372036854775807 : Int64)) (q3 &&& (9223372036854775807 : Int64))))])) _
      refine XS.lstore X5.here hx rfl (hb hby at_90) rfl (l' := #[.val (.long q0), .second, .val (.long q1), .second, .val (.long q2), .second, .val (.long q3), .second, .val (.int p4), .val (.long mn1), .second, .val (.long mx1), .second, .val (.int md), .val (.int ub), .val (.long (q2 &&& (9223372036854775807 : Int64))), .second, .val (.long (own_maxJ (q2 &&& (9223372036854775807 : Int64)) (q3 &&& (9223372036854775807 : Int64)))), .second, .unset, .unset, .unset, .unset, .unset, .unset, .unset]) rfl ?_
      show Steps p.tables e below (T5.setTop (mkF m 92 #[.val (.long q0), .second, .val (.long q1), .second, .val (.long q2), .second, .val (.long q3), .second, .val (.int p4), .val (.long mn1), .second, .val (.long mx1), .second, .val (.int md), .val (.int ub), .val (.long (q2 &&& (9223372036854775807 : Int64))), .second, .val (.long (own_maxJ (q2 &&& (9223372036854775807 : Int64)) (q3 &&& (9223372036854775807 : Int64)))), .second, .unset, .unset, .unset, .unset, .unset, .unset, .unset] [])) _
      refine XS.goto X5.here hx rfl (pc0 := 92) (pc' := 184) rfl (hb hby at_92) (by decide) (by decide) ?_
      exact kt
    · have hC1 : ¬ ((lcmpW (q2 &&& (9223372036854775807 : Int64)) (0 : Int64)) < (0 : Int32)) := own_v0 _
      have hC2 : (-1 : Int64) = (-1 : Int64) ∨ ¬ ((lcmpW (-1 : Int64) (q2 &&& (9223372036854775807 : Int64))) < (0 : Int32)) := Or.inl rfl
      refine ⟨(q2 &&& (9223372036854775807 : Int64)), (-1 : Int64), T0, _, X0, e0, N0, hC1, hC2, fun target kt => ?_⟩
      refine pre4 target ?_
      show Steps p.tables e below (T0.setTop (mkF m 70 #[.val (.long q0), .second, .val (.long q1), .second, .val (.long q2), .second, .val (.long q3), .second, .val (.int p4), .val (.long mn1), .second, .val (.long mx1), .second, .val (.int md), .val (.int ub), .val (.long (q2 &&& (9223372036854775807 : Int64))), .second, .unset, .unset, .unset, .unset, .unset, .unset, .unset, .unset, .unset] [(.int ub)])) _
      refine XS.ifNo X0.here hx rfl (hb hby at_70) rfl ((if0 _ _).trans (feq hc70_3).1) ?_
      show Steps p.tables e below (T0.setTop (mkF m 73 #[.val (.long q0), .second, .val (.long q1), .second, .val (.long q2), .second, .val (.long q3), .second, .val (.int p4), .val (.long mn1), .second, .val (.long mx1), .second, .val (.int md), .val (.int ub), .val (.long (q2 &&& (9223372036854775807 : Int64))), .second, .unset, .unset, .unset, .unset, .unset, .unset, .unset, .unset, .unset] [])) _
      refine X0.ldc2Long hx hown (mvT hZ (Wd hw 1 rfl)) (g := (mkF m 73 #[.val (.long q0), .second, .val (.long q1), .second, .val (.long q2), .second, .val (.long q3), .second, .val (.int p4), .val (.long mn1), .second, .val (.long mx1), .second, .val (.int md), .val (.int ub), .val (.long (q2 &&& (9223372036854775807 : Int64))), .second, .unset, .unset, .unset, .unset, .unset, .unset, .unset, .unset, .unset] [])) rfl (hb hby at_73) _ ?_
      show Steps p.tables e below (T0.setTop (mkF m 76 #[.val (.long q0), .second, .val (.long q1), .second, .val (.long q2), .second, .val (.long q3), .second, .val (.int p4), .val (.long mn1), .second, .val (.long mx1), .second, .val (.int md), .val (.int ub), .val (.long (q2 &&& (9223372036854775807 : Int64))), .second, .unset, .unset, .unset, .unset, .unset, .unset, .unset, .unset, .unset] [(.long (-1 : Int64))])) _
      refine XS.goto X0.here hx rfl (pc0 := 76) (pc' := 90) rfl (hb hby at_76) (by decide) (by decide) ?_
      show Steps p.tables e below (T0.setTop (mkF m 90 #[.val (.long q0), .second, .val (.long q1), .second, .val (.long q2), .second, .val (.long q3), .second, .val (.int p4), .val (.long mn1), .second, .val (.long mx1), .second, .val (.int md), .val (.int ub), .val (.long (q2 &&& (9223372036854775807 : Int64))), .second, .unset, .unset, .unset, .unset, .unset, .unset, .unset, .unset, .unset] [(.long (-1 : Int64))])) _
      refine XS.lstore X0.here hx rfl (hb hby at_90) rfl (l' := #[.val (.long q0), .second, .val (.long q1), .second, .val (.long q2), .second, .val (.long q3), .second, .val (.int p4), .val (.long mn1), .second, .val (.long mx1), .second, .val (.int md), .val (.int ub), .val (.long (q2 &&& (9223372036854775807 : Int64))), .second, .val (.long (-1 : Int64)), .second, .unset, .unset, .unset, .unset, .unset, .unset, .unset]) rfl ?_
      show Steps p.tables e below (T0.setTop (mkF m 92 #[.val (.long q0), .second, .val (.long q1), .second, .val (.long q2), .second, .val (.long q3), .second, .val (.int p4), .val (.long mn1), .second, .val (.long mx1), .second, .val (.int md), .val (.int ub), .val (.long (q2 &&& (9223372036854775807 : Int64))), .second, .val (.long (-1 : Int64)), .second, .unset, .unset, .unset, .unset, .unset, .unset, .unset] [])) _
      refine XS.goto X0.here hx rfl (pc0 := 92) (pc' := 184) rfl (hb hby at_92) (by decide) (by decide) ?_
      exact kt
  · have pre7 : ∀ t, Steps p.tables e below (T0.setTop (mkF m 98 #[.val (.long q0), .second, .val (.long q1), .second, .val (.long q2), .second, .val (.long q3), .second, .val (.int p4), .val (.long mn1), .second, .val (.long mx1), .second, .val (.int md), .val (.int ub), .unset, .unset, .unset, .unset, .unset, .unset, .unset, .unset, .unset, .unset, .unset] [(.int (1 : Int32)), (.int md)])) t → Steps p.tables e below (T0.setTop (mkF m 55 #[.val (.long q0), .second, .val (.long q1), .second, .val (.long q2), .second, .val (.long q3), .second, .val (.int p4), .val (.long mn1), .second, .val (.long mx1), .second, .val (.int md), .val (.int ub), .unset, .unset, .unset, .unset, .unset, .unset, .unset, .unset, .unset, .unset, .unset] [])) t := fun t kt => by
      refine pre2 t ?_
      show Steps p.tables e below (T0.setTop (mkF m 57 #[.val (.long q0), .second, .val (.long q1), .second, .val (.long q2), .second, .val (.long q3), .second, .val (.int p4), .val (.long mn1), .second, .val (.long mx1), .second, .val (.int md), .val (.int ub), .unset, .unset, .unset, .unset, .unset, .unset, .unset, .unset, .unset, .unset, .unset] [(.int md)])) _
      refine XS.ifYes X0.here hx rfl (pc0 := 57) (pc' := 95) rfl (hb hby at_57) rfl ((if0 _ _).trans (feq hc57_1).2) (by decide) (by decide) ?_
      show Steps p.tables e below (T0.setTop (mkF m 95 #[.val (.long q0), .second, .val (.long q1), .second, .val (.long q2), .second, .val (.long q3), .second, .val (.int p4), .val (.long mn1), .second, .val (.long mx1), .second, .val (.int md), .val (.int ub), .unset, .unset, .unset, .unset, .unset, .unset, .unset, .unset, .unset, .unset, .unset] [])) _
      refine XS.iload X0.here hx rfl (hb hby at_95) rfl ?_
      show Steps p.tables e below (T0.setTop (mkF m 97 #[.val (.long q0), .second, .val (.long q1), .second, .val (.long q2), .second, .val (.long q3), .second, .val (.int p4), .val (.long mn1), .second, .val (.long mx1), .second, .val (.int md), .val (.int ub), .unset, .unset, .unset, .unset, .unset, .unset, .unset, .unset, .unset, .unset, .unset] [(.int md)])) _
      refine XS.iconst X0.here hx rfl (hb hby at_97) ?_
      exact kt
    by_cases hc98_6 : md = (1 : Int32)
    · have hC1 : ¬ ((lcmpW mn1 (0 : Int64)) < (0 : Int32)) := hA
      have hC2 : mx1 = (-1 : Int64) ∨ ¬ ((lcmpW mx1 mn1) < (0 : Int32)) := hB
      refine ⟨mn1, mx1, T0, _, X0, e0, N0, hC1, hC2, fun target kt => ?_⟩
      refine pre7 target ?_
      show Steps p.tables e below (T0.setTop (mkF m 98 #[.val (.long q0), .second, .val (.long q1), .second, .val (.long q2), .second, .val (.long q3), .second, .val (.int p4), .val (.long mn1), .second, .val (.long mx1), .second, .val (.int md), .val (.int ub), .unset, .unset, .unset, .unset, .unset, .unset, .unset, .unset, .unset, .unset, .unset] [(.int (1 : Int32)), (.int md)])) _
      refine XS.icmpNo X0.here hx rfl (hb hby at_98) rfl (teq hc98_6).2 ?_
      show Steps p.tables e below (T0.setTop (mkF m 101 #[.val (.long q0), .second, .val (.long q1), .second, .val (.long q2), .second, .val (.long q3), .second, .val (.int p4), .val (.long mn1), .second, .val (.long mx1), .second, .val (.int md), .val (.int ub), .unset, .unset, .unset, .unset, .unset, .unset, .unset, .unset, .unset, .unset, .unset] [])) _
      refine XS.lload X0.here hx rfl (hb hby at_101) rfl ?_
      show Steps p.tables e below (T0.setTop (mkF m 103 #[.val (.long q0), .second, .val (.long q1), .second, .val (.long q2), .second, .val (.long q3), .second, .val (.int p4), .val (.long mn1), .second, .val (.long mx1), .second, .val (.int md), .val (.int ub), .unset, .unset, .unset, .unset, .unset, .unset, .unset, .unset, .unset, .unset, .unset] [(.long mn1)])) _
      refine XS.lstore X0.here hx rfl (hb hby at_103) rfl (l' := #[.val (.long q0), .second, .val (.long q1), .second, .val (.long q2), .second, .val (.long q3), .second, .val (.int p4), .val (.long mn1), .second, .val (.long mx1), .second, .val (.int md), .val (.int ub), .val (.long mn1), .second, .unset, .unset, .unset, .unset, .unset, .unset, .unset, .unset, .unset]) rfl ?_
      show Steps p.tables e below (T0.setTop (mkF m 105 #[.val (.long q0), .second, .val (.long q1), .second, .val (.long q2), .second, .val (.long q3), .second, .val (.int p4), .val (.long mn1), .second, .val (.long mx1), .second, .val (.int md), .val (.int ub), .val (.long mn1), .second, .unset, .unset, .unset, .unset, .unset, .unset, .unset, .unset, .unset] [])) _
      refine XS.lload X0.here hx rfl (hb hby at_105) rfl ?_
      show Steps p.tables e below (T0.setTop (mkF m 107 #[.val (.long q0), .second, .val (.long q1), .second, .val (.long q2), .second, .val (.long q3), .second, .val (.int p4), .val (.long mn1), .second, .val (.long mx1), .second, .val (.int md), .val (.int ub), .val (.long mn1), .second, .unset, .unset, .unset, .unset, .unset, .unset, .unset, .unset, .unset] [(.long mx1)])) _
      refine XS.lstore X0.here hx rfl (hb hby at_107) rfl (l' := #[.val (.long q0), .second, .val (.long q1), .second, .val (.long q2), .second, .val (.long q3), .second, .val (.int p4), .val (.long mn1), .second, .val (.long mx1), .second, .val (.int md), .val (.int ub), .val (.long mn1), .second, .val (.long mx1), .second, .unset, .unset, .unset, .unset, .unset, .unset, .unset]) rfl ?_
      show Steps p.tables e below (T0.setTop (mkF m 109 #[.val (.long q0), .second, .val (.long q1), .second, .val (.long q2), .second, .val (.long q3), .second, .val (.int p4), .val (.long mn1), .second, .val (.long mx1), .second, .val (.int md), .val (.int ub), .val (.long mn1), .second, .val (.long mx1), .second, .unset, .unset, .unset, .unset, .unset, .unset, .unset] [])) _
      refine XS.goto X0.here hx rfl (pc0 := 109) (pc' := 184) rfl (hb hby at_109) (by decide) (by decide) ?_
      exact kt
    · have pre9 : ∀ t, Steps p.tables e below (T0.setTop (mkF m 115 #[.val (.long q0), .second, .val (.long q1), .second, .val (.long q2), .second, .val (.long q3), .second, .val (.int p4), .val (.long mn1), .second, .val (.long mx1), .second, .val (.int md), .val (.int ub), .unset, .unset, .unset, .unset, .unset, .unset, .unset, .unset, .unset, .unset, .unset] [(.int (2 : Int32)), (.int md)])) t → Steps p.tables e below (T0.setTop (mkF m 55 #[.val (.long q0), .second, .val (.long q1), .second, .val (.long q2), .second, .val (.long q3), .second, .val (.int p4), .val (.long mn1), .second, .val (.long mx1), .second, .val (.int md), .val (.int ub), .unset, .unset, .unset, .unset, .unset, .unset, .unset, .unset, .unset, .unset, .unset] [])) t := fun t kt => by
        refine pre7 t ?_
        show Steps p.tables e below (T0.setTop (mkF m 98 #[.val (.long q0), .second, .val (.long q1), .second, .val (.long q2), .second, .val (.long q3), .second, .val (.int p4), .val (.long mn1), .second, .val (.long mx1), .second, .val (.int md), .val (.int ub), .unset, .unset, .unset, .unset, .unset, .unset, .unset, .unset, .unset, .unset, .unset] [(.int (1 : Int32)), (.int md)])) _
        refine XS.icmpYes X0.here hx rfl (pc0 := 98) (pc' := 112) rfl (hb hby at_98) rfl (feq hc98_6).2 (by decide) (by decide) ?_
        show Steps p.tables e below (T0.setTop (mkF m 112 #[.val (.long q0), .second, .val (.long q1), .second, .val (.long q2), .second, .val (.long q3), .second, .val (.int p4), .val (.long mn1), .second, .val (.long mx1), .second, .val (.int md), .val (.int ub), .unset, .unset, .unset, .unset, .unset, .unset, .unset, .unset, .unset, .unset, .unset] [])) _
        refine XS.iload X0.here hx rfl (hb hby at_112) rfl ?_
        show Steps p.tables e below (T0.setTop (mkF m 114 #[.val (.long q0), .second, .val (.long q1), .second, .val (.long q2), .second, .val (.long q3), .second, .val (.int p4), .val (.long mn1), .second, .val (.long mx1), .second, .val (.int md), .val (.int ub), .unset, .unset, .unset, .unset, .unset, .unset, .unset, .unset, .unset, .unset, .unset] [(.int md)])) _
        refine XS.iconst X0.here hx rfl (hb hby at_114) ?_
        exact kt
      by_cases hc115_8 : md = (2 : Int32)
      · have pre11 : ∀ t, Steps p.tables e below (T0.setTop (mkF m 124 #[.val (.long q0), .second, .val (.long q1), .second, .val (.long q2), .second, .val (.long q3), .second, .val (.int p4), .val (.long mn1), .second, .val (.long mx1), .second, .val (.int md), .val (.int ub), .val (.long mn1), .second, .unset, .unset, .unset, .unset, .unset, .unset, .unset, .unset, .unset] [(.int ub)])) t → Steps p.tables e below (T0.setTop (mkF m 55 #[.val (.long q0), .second, .val (.long q1), .second, .val (.long q2), .second, .val (.long q3), .second, .val (.int p4), .val (.long mn1), .second, .val (.long mx1), .second, .val (.int md), .val (.int ub), .unset, .unset, .unset, .unset, .unset, .unset, .unset, .unset, .unset, .unset, .unset] [])) t := fun t kt => by
          refine pre9 t ?_
          show Steps p.tables e below (T0.setTop (mkF m 115 #[.val (.long q0), .second, .val (.long q1), .second, .val (.long q2), .second, .val (.long q3), .second, .val (.int p4), .val (.long mn1), .second, .val (.long mx1), .second, .val (.int md), .val (.int ub), .unset, .unset, .unset, .unset, .unset, .unset, .unset, .unset, .unset, .unset, .unset] [(.int (2 : Int32)), (.int md)])) _
          refine XS.icmpNo X0.here hx rfl (hb hby at_115) rfl (teq hc115_8).2 ?_
          show Steps p.tables e below (T0.setTop (mkF m 118 #[.val (.long q0), .second, .val (.long q1), .second, .val (.long q2), .second, .val (.long q3), .second, .val (.int p4), .val (.long mn1), .second, .val (.long mx1), .second, .val (.int md), .val (.int ub), .unset, .unset, .unset, .unset, .unset, .unset, .unset, .unset, .unset, .unset, .unset] [])) _
          refine XS.lload X0.here hx rfl (hb hby at_118) rfl ?_
          show Steps p.tables e below (T0.setTop (mkF m 120 #[.val (.long q0), .second, .val (.long q1), .second, .val (.long q2), .second, .val (.long q3), .second, .val (.int p4), .val (.long mn1), .second, .val (.long mx1), .second, .val (.int md), .val (.int ub), .unset, .unset, .unset, .unset, .unset, .unset, .unset, .unset, .unset, .unset, .unset] [(.long mn1)])) _
          refine XS.lstore X0.here hx rfl (hb hby at_120) rfl (l' := #[.val (.long q0), .second, .val (.long q1), .second, .val (.long q2), .second, .val (.long q3), .second, .val (.int p4), .val (.long mn1), .second, .val (.long mx1), .second, .val (.int md), .val (.int ub), .val (.long mn1), .second, .unset, .unset, .unset, .unset, .unset, .unset, .unset, .unset, .unset]) rfl ?_
          show Steps p.tables e below (T0.setTop (mkF m 122 #[.val (.long q0), .second, .val (.long q1), .second, .val (.long q2), .second, .val (.long q3), .second, .val (.int p4), .val (.long mn1), .second, .val (.long mx1), .second, .val (.int md), .val (.int ub), .val (.long mn1), .second, .unset, .unset, .unset, .unset, .unset, .unset, .unset, .unset, .unset] [])) _
          refine XS.iload X0.here hx rfl (hb hby at_122) rfl ?_
          exact kt
        by_cases hc124_10 : ub = (0 : Int32)
        · obtain ⟨_, _, ⟨T12, L12, k12, n12⟩, -, X12, ⟨Lc12, hQ12, l12, y12, z12⟩, st12⟩ := Jvm.LawKit.callS X0 hx (y := MN_0) hown (mvT hZ (Wd hw 52 rfl)) (mvT hZ (Wd hw 53 rfl)) (mvT hZ (Wd hw 54 rfl)) (mvT hZ (Wd hw 55 rfl)) (by decide) (backOf (W := 0) (rmMax l Z a0 hw [] aC kC vC (mn1) ((q3 &&& (9223372036854775807 : Int64))) (h0) n0 O0 GL) hZ (Wd hw 55 rfl) (Wd hw 54 rfl) (by decide) (by decide)) (g := (mkF m 141 #[.val (.long q0), .second, .val (.long q1), .second, .val (.long q2), .second, .val (.long q3), .second, .val (.int p4), .val (.long mn1), .second, .val (.long mx1), .second, .val (.int md), .val (.int ub), .val (.long mn1), .second, .unset, .unset, .unset, .unset, .unset, .unset, .unset, .unset, .unset] [(.long (q3 &&& (9223372036854775807 : Int64))), (.long mn1)])) rfl (by rw [hml]; rfl) (argsL := [(.long mn1), (.long (q3 &&& (9223372036854775807 : Int64)))]) (rest := []) (lenOf pdv2 rfl) rfl (by show 2 * 0 + _ ≤ _; exact Nat.le_of_eq rfl) (hb hby at_141) (fun _ _ => ⟨rfl, e0, (by decide : 0 + 0 ≤ _), (by decide : 0 + 0 ≤ _)⟩)
          dsimp only [Pt.U, Pt.locs, Pt.cells, Pt.slots] at X12 l12 y12 z12 st12 hQ12
          subst l12 y12 z12
          obtain ⟨rfl, N12q, e12⟩ := hQ12
          have N12 := Fr.app N0 N12q
          have hC1 : ¬ ((lcmpW mn1 (0 : Int64)) < (0 : Int32)) := hA
          have hC2 : (own_maxJ mn1 (q3 &&& (9223372036854775807 : Int64))) = (-1 : Int64) ∨ ¬ ((lcmpW (own_maxJ mn1 (q3 &&& (9223372036854775807 : Int64))) mn1) < (0 : Int32)) := Or.inr (own_vmax _ _)
          refine ⟨mn1, (own_maxJ mn1 (q3 &&& (9223372036854775807 : Int64))), T12, _, X12, e12, N12, hC1, hC2, fun target kt => ?_⟩
          refine pre11 target ?_
          show Steps p.tables e below (T0.setTop (mkF m 124 #[.val (.long q0), .second, .val (.long q1), .second, .val (.long q2), .second, .val (.long q3), .second, .val (.int p4), .val (.long mn1), .second, .val (.long mx1), .second, .val (.int md), .val (.int ub), .val (.long mn1), .second, .unset, .unset, .unset, .unset, .unset, .unset, .unset, .unset, .unset] [(.int ub)])) _
          refine XS.ifYes X0.here hx rfl (pc0 := 124) (pc' := 133) rfl (hb hby at_124) rfl ((if0 _ _).trans (teq hc124_10).1) (by decide) (by decide) ?_
          show Steps p.tables e below (T0.setTop (mkF m 133 #[.val (.long q0), .second, .val (.long q1), .second, .val (.long q2), .second, .val (.long q3), .second, .val (.int p4), .val (.long mn1), .second, .val (.long mx1), .second, .val (.int md), .val (.int ub), .val (.long mn1), .second, .unset, .unset, .unset, .unset, .unset, .unset, .unset, .unset, .unset] [])) _
          refine XS.lload X0.here hx rfl (hb hby at_133) rfl ?_
          show Steps p.tables e below (T0.setTop (mkF m 135 #[.val (.long q0), .second, .val (.long q1), .second, .val (.long q2), .second, .val (.long q3), .second, .val (.int p4), .val (.long mn1), .second, .val (.long mx1), .second, .val (.int md), .val (.int ub), .val (.long mn1), .second, .unset, .unset, .unset, .unset, .unset, .unset, .unset, .unset, .unset] [(.long mn1)])) _
          refine XS.lload X0.here hx rfl (hb hby at_135) rfl ?_
          show Steps p.tables e below (T0.setTop (mkF m 137 #[.val (.long q0), .second, .val (.long q1), .second, .val (.long q2), .second, .val (.long q3), .second, .val (.int p4), .val (.long mn1), .second, .val (.long mx1), .second, .val (.int md), .val (.int ub), .val (.long mn1), .second, .unset, .unset, .unset, .unset, .unset, .unset, .unset, .unset, .unset] [(.long q3), (.long mn1)])) _
          refine X0.ldc2Long hx hown (mvT hZ (Wd hw 0 rfl)) (g := (mkF m 137 #[.val (.long q0), .second, .val (.long q1), .second, .val (.long q2), .second, .val (.long q3), .second, .val (.int p4), .val (.long mn1), .second, .val (.long mx1), .second, .val (.int md), .val (.int ub), .val (.long mn1), .second, .unset, .unset, .unset, .unset, .unset, .unset, .unset, .unset, .unset] [(.long q3), (.long mn1)])) rfl (hb hby at_137) _ ?_
          show Steps p.tables e below (T0.setTop (mkF m 140 #[.val (.long q0), .second, .val (.long q1), .second, .val (.long q2), .second, .val (.long q3), .second, .val (.int p4), .val (.long mn1), .second, .val (.long mx1), .second, .val (.int md), .val (.int ub), .val (.long mn1), .second, .unset, .unset, .unset, .unset, .unset, .unset, .unset, .unset, .unset] [(.long (9223372036854775807 : Int64)), (.long q3), (.long mn1)])) _
          refine XS.land X0.here hx rfl (hb hby at_140) rfl ?_
          show Steps p.tables e below (T0.setTop (mkF m 141 #[.val (.long q0), .second, .val (.long q1), .second, .val (.long q2), .second, .val (.long q3), .second, .val (.int p4), .val (.long mn1), .second, .val (.long mx1), .second, .val (.int md), .val (.int ub), .val (.long mn1), .second, .unset, .unset, .unset, .unset, .unset, .unset, .unset, .unset, .unset] [(.long (q3 &&& (9223372036854775807 : Int64))), (.long mn1)])) _
          refine st12 _ ?_
          show Steps p.tables e below (T12.setTop (mkF m 144 #[.val (.long q0), .second, .val (.long q1), .second, .val (.long q2), .second, .val (.long q3), .second, .val (.int p4), .val (.long mn1), .second, .val (.long mx1), .second, .val (.int md), .val (.int ub), .val (.long mn1), .second, .unset, .unset, .unset, .unset, .unset, .unset, .unset, .unset, .unset] [(.long (own_maxJ mn1 (q3 &&& (9223372036854775807 : Int64))))])) _
          refine XS.lstore X12.here hx rfl (hb hby at_144) rfl (l' := #[.val (.long q0), .second, .val (.long q1), .second, .val (.long q2), .second, .val (.long q3), .second, .val (.int p4), .val (.long mn1), .second, .val (.long mx1), .second, .val (.int md), .val (.int ub), .val (.long mn1), .second, .val (.long (own_maxJ mn1 (q3 &&& (9223372036854775807 : Int64)))), .second, .unset, .unset, .unset, .unset, .unset, .unset, .unset]) rfl ?_
          show Steps p.tables e below (T12.setTop (mkF m 146 #[.val (.long q0), .second, .val (.long q1), .second, .val (.long q2), .second, .val (.long q3), .second, .val (.int p4), .val (.long mn1), .second, .val (.long mx1), .second, .val (.int md), .val (.int ub), .val (.long mn1), .second, .val (.long (own_maxJ mn1 (q3 &&& (9223372036854775807 : Int64)))), .second, .unset, .unset, .unset, .unset, .unset, .unset, .unset] [])) _
          refine XS.goto X12.here hx rfl (pc0 := 146) (pc' := 184) rfl (hb hby at_146) (by decide) (by decide) ?_
          exact kt
        · have hC1 : ¬ ((lcmpW mn1 (0 : Int64)) < (0 : Int32)) := hA
          have hC2 : (-1 : Int64) = (-1 : Int64) ∨ ¬ ((lcmpW (-1 : Int64) mn1) < (0 : Int32)) := Or.inl rfl
          refine ⟨mn1, (-1 : Int64), T0, _, X0, e0, N0, hC1, hC2, fun target kt => ?_⟩
          refine pre11 target ?_
          show Steps p.tables e below (T0.setTop (mkF m 124 #[.val (.long q0), .second, .val (.long q1), .second, .val (.long q2), .second, .val (.long q3), .second, .val (.int p4), .val (.long mn1), .second, .val (.long mx1), .second, .val (.int md), .val (.int ub), .val (.long mn1), .second, .unset, .unset, .unset, .unset, .unset, .unset, .unset, .unset, .unset] [(.int ub)])) _
          refine XS.ifNo X0.here hx rfl (hb hby at_124) rfl ((if0 _ _).trans (feq hc124_10).1) ?_
          show Steps p.tables e below (T0.setTop (mkF m 127 #[.val (.long q0), .second, .val (.long q1), .second, .val (.long q2), .second, .val (.long q3), .second, .val (.int p4), .val (.long mn1), .second, .val (.long mx1), .second, .val (.int md), .val (.int ub), .val (.long mn1), .second, .unset, .unset, .unset, .unset, .unset, .unset, .unset, .unset, .unset] [])) _
          refine X0.ldc2Long hx hown (mvT hZ (Wd hw 1 rfl)) (g := (mkF m 127 #[.val (.long q0), .second, .val (.long q1), .second, .val (.long q2), .second, .val (.long q3), .second, .val (.int p4), .val (.long mn1), .second, .val (.long mx1), .second, .val (.int md), .val (.int ub), .val (.long mn1), .second, .unset, .unset, .unset, .unset, .unset, .unset, .unset, .unset, .unset] [])) rfl (hb hby at_127) _ ?_
          show Steps p.tables e below (T0.setTop (mkF m 130 #[.val (.long q0), .second, .val (.long q1), .second, .val (.long q2), .second, .val (.long q3), .second, .val (.int p4), .val (.long mn1), .second, .val (.long mx1), .second, .val (.int md), .val (.int ub), .val (.long mn1), .second, .unset, .unset, .unset, .unset, .unset, .unset, .unset, .unset, .unset] [(.long (-1 : Int64))])) _
          refine XS.goto X0.here hx rfl (pc0 := 130) (pc' := 144) rfl (hb hby at_130) (by decide) (by decide) ?_
          show Steps p.tables e below (T0.setTop (mkF m 144 #[.val (.long q0), .second, .val (.long q1), .second, .val (.long q2), .second, .val (.long q3), .second, .val (.int p4), .val (.long mn1), .second, .val (.long mx1), .second, .val (.int md), .val (.int ub), .val (.long mn1), .second, .unset, .unset, .unset, .unset, .unset, .unset, .unset, .unset, .unset] [(.long (-1 : Int64))])) _
          refine XS.lstore X0.here hx rfl (hb hby at_144) rfl (l' := #[.val (.long q0), .second, .val (.long q1), .second, .val (.long q2), .second, .val (.long q3), .second, .val (.int p4), .val (.long mn1), .second, .val (.long mx1), .second, .val (.int md), .val (.int ub), .val (.long mn1), .second, .val (.long (-1 : Int64)), .second, .unset, .unset, .unset, .unset, .unset, .unset, .unset]) rfl ?_
          show Steps p.tables e below (T0.setTop (mkF m 146 #[.val (.long q0), .second, .val (.long q1), .second, .val (.long q2), .second, .val (.long q3), .second, .val (.int p4), .val (.long mn1), .second, .val (.long mx1), .second, .val (.int md), .val (.int ub), .val (.long mn1), .second, .val (.long (-1 : Int64)), .second, .unset, .unset, .unset, .unset, .unset, .unset, .unset] [])) _
          refine XS.goto X0.here hx rfl (pc0 := 146) (pc' := 184) rfl (hb hby at_146) (by decide) (by decide) ?_
          exact kt
      · have pre14 : ∀ t, Steps p.tables e below (T0.setTop (mkF m 159 #[.val (.long q0), .second, .val (.long q1), .second, .val (.long q2), .second, .val (.long q3), .second, .val (.int p4), .val (.long mn1), .second, .val (.long mx1), .second, .val (.int md), .val (.int ub), .unset, .unset, .val (.long mx1), .second, .unset, .unset, .unset, .unset, .unset, .unset, .unset] [(.int (lcmpW mx1 (-1 : Int64)))])) t → Steps p.tables e below (T0.setTop (mkF m 55 #[.val (.long q0), .second, .val (.long q1), .second, .val (.long q2), .second, .val (.long q3), .second, .val (.int p4), .val (.long mn1), .second, .val (.long mx1), .second, .val (.int md), .val (.int ub), .unset, .unset, .unset, .unset, .unset, .unset, .unset, .unset, .unset, .unset, .unset] [])) t := fun t kt => by
          refine pre9 t ?_
          show Steps p.tables e below (T0.setTop (mkF m 115 #[.val (.long q0), .second, .val (.long q1), .second, .val (.long q2), .second, .val (.long q3), .second, .val (.int p4), .val (.long mn1), .second, .val (.long mx1), .second, .val (.int md), .val (.int ub), .unset, .unset, .unset, .unset, .unset, .unset, .unset, .unset, .unset, .unset, .unset] [(.int (2 : Int32)), (.int md)])) _
          refine XS.icmpYes X0.here hx rfl (pc0 := 115) (pc' := 149) rfl (hb hby at_115) rfl (feq hc115_8).2 (by decide) (by decide) ?_
          show Steps p.tables e below (T0.setTop (mkF m 149 #[.val (.long q0), .second, .val (.long q1), .second, .val (.long q2), .second, .val (.long q3), .second, .val (.int p4), .val (.long mn1), .second, .val (.long mx1), .second, .val (.int md), .val (.int ub), .unset, .unset, .unset, .unset, .unset, .unset, .unset, .unset, .unset, .unset, .unset] [])) _
          refine XS.lload X0.here hx rfl (hb hby at_149) rfl ?_
          show Steps p.tables e below (T0.setTop (mkF m 151 #[.val (.long q0), .second, .val (.long q1), .second, .val (.long q2), .second, .val (.long q3), .second, .val (.int p4), .val (.long mn1), .second, .val (.long mx1), .second, .val (.int md), .val (.int ub), .unset, .unset, .unset, .unset, .unset, .unset, .unset, .unset, .unset, .unset, .unset] [(.long mx1)])) _
          refine XS.lstore X0.here hx rfl (hb hby at_151) rfl (l' := #[.val (.long q0), .second, .val (.long q1), .second, .val (.long q2), .second, .val (.long q3), .second, .val (.int p4), .val (.long mn1), .second, .val (.long mx1), .second, .val (.int md), .val (.int ub), .unset, .unset, .val (.long mx1), .second, .unset, .unset, .unset, .unset, .unset, .unset, .unset]) rfl ?_
          show Steps p.tables e below (T0.setTop (mkF m 153 #[.val (.long q0), .second, .val (.long q1), .second, .val (.long q2), .second, .val (.long q3), .second, .val (.int p4), .val (.long mn1), .second, .val (.long mx1), .second, .val (.int md), .val (.int ub), .unset, .unset, .val (.long mx1), .second, .unset, .unset, .unset, .unset, .unset, .unset, .unset] [])) _
          refine XS.lload X0.here hx rfl (hb hby at_153) rfl ?_
          show Steps p.tables e below (T0.setTop (mkF m 155 #[.val (.long q0), .second, .val (.long q1), .second, .val (.long q2), .second, .val (.long q3), .second, .val (.int p4), .val (.long mn1), .second, .val (.long mx1), .second, .val (.int md), .val (.int ub), .unset, .unset, .val (.long mx1), .second, .unset, .unset, .unset, .unset, .unset, .unset, .unset] [(.long mx1)])) _
          refine X0.ldc2Long hx hown (mvT hZ (Wd hw 1 rfl)) (g := (mkF m 155 #[.val (.long q0), .second, .val (.long q1), .second, .val (.long q2), .second, .val (.long q3), .second, .val (.int p4), .val (.long mn1), .second, .val (.long mx1), .second, .val (.int md), .val (.int ub), .unset, .unset, .val (.long mx1), .second, .unset, .unset, .unset, .unset, .unset, .unset, .unset] [(.long mx1)])) rfl (hb hby at_155) _ ?_
          show Steps p.tables e below (T0.setTop (mkF m 158 #[.val (.long q0), .second, .val (.long q1), .second, .val (.long q2), .second, .val (.long q3), .second, .val (.int p4), .val (.long mn1), .second, .val (.long mx1), .second, .val (.int md), .val (.int ub), .unset, .unset, .val (.long mx1), .second, .unset, .unset, .unset, .unset, .unset, .unset, .unset] [(.long (-1 : Int64)), (.long mx1)])) _
          refine XS.lcmp X0.here hx rfl (hb hby at_158) rfl ?_
          exact kt
        by_cases hc159_13 : (lcmpW mx1 (-1 : Int64)) = (0 : Int32)
        · have hC1 : ¬ ((lcmpW (q2 &&& (9223372036854775807 : Int64)) (0 : Int64)) < (0 : Int32)) := own_v0 _
          have hC2 : mx1 = (-1 : Int64) ∨ ¬ ((lcmpW mx1 (q2 &&& (9223372036854775807 : Int64))) < (0 : Int32)) := Or.inl ((own_lceq _ _).1 hc159_13)
          refine ⟨(q2 &&& (9223372036854775807 : Int64)), mx1, T0, _, X0, e0, N0, hC1, hC2, fun target kt => ?_⟩
          refine pre14 target ?_
          show Steps p.tables e below (T0.setTop (mkF m 159 #[.val (.long q0), .second, .val (.long q1), .second, .val (.long q2), .second, .val (.long q3), .second, .val (.int p4), .val (.long mn1), .second, .val (.long mx1), .second, .val (.int md), .val (.int ub), .unset, .unset, .val (.long mx1), .second, .unset, .unset, .unset, .unset, .unset, .unset, .unset] [(.int (lcmpW mx1 (-1 : Int64)))])) _
          refine XS.ifNo X0.here hx rfl (hb hby at_159) rfl ((if0 _ _).trans (teq hc159_13).2) ?_
          show Steps p.tables e below (T0.setTop (mkF m 162 #[.val (.long q0), .second, .val (.long q1), .second, .val (.long q2), .second, .val (.long q3), .second, .val (.int p4), .val (.long mn1), .second, .val (.long mx1), .second, .val (.int md), .val (.int ub), .unset, .unset, .val (.long mx1), .second, .unset, .unset, .unset, .unset, .unset, .unset, .unset] [])) _
          refine XS.lload X0.here hx rfl (hb hby at_162) rfl ?_
          show Steps p.tables e below (T0.setTop (mkF m 164 #[.val (.long q0), .second, .val (.long q1), .second, .val (.long q2), .second, .val (.long q3), .second, .val (.int p4), .val (.long mn1), .second, .val (.long mx1), .second, .val (.int md), .val (.int ub), .unset, .unset, .val (.long mx1), .second, .unset, .unset, .unset, .unset, .unset, .unset, .unset] [(.long q2)])) _
          refine X0.ldc2Long hx hown (mvT hZ (Wd hw 0 rfl)) (g := (mkF m 164 #[.val (.long q0), .second, .val (.long q1), .second, .val (.long q2), .second, .val (.long q3), .second, .val (.int p4), .val (.long mn1), .second, .val (.long mx1), .second, .val (.int md), .val (.int ub), .unset, .unset, .val (.long mx1), .second, .unset, .unset, .unset, .unset, .unset, .unset, .unset] [(.long q2)])) rfl (hb hby at_164) _ ?_
          show Steps p.tables e below (T0.setTop (mkF m 167 #[.val (.long q0), .second, .val (.long q1), .second, .val (.long q2), .second, .val (.long q3), .second, .val (.int p4), .val (.long mn1), .second, .val (.long mx1), .second, .val (.int md), .val (.int ub), .unset, .unset, .val (.long mx1), .second, .unset, .unset, .unset, .unset, .unset, .unset, .unset] [(.long (9223372036854775807 : Int64)), (.long q2)])) _
          refine XS.land X0.here hx rfl (hb hby at_167) rfl ?_
          show Steps p.tables e below (T0.setTop (mkF m 168 #[.val (.long q0), .second, .val (.long q1), .second, .val (.long q2), .second, .val (.long q3), .second, .val (.int p4), .val (.long mn1), .second, .val (.long mx1), .second, .val (.int md), .val (.int ub), .unset, .unset, .val (.long mx1), .second, .unset, .unset, .unset, .unset, .unset, .unset, .unset] [(.long (q2 &&& (9223372036854775807 : Int64)))])) _
          refine XS.goto X0.here hx rfl (pc0 := 168) (pc' := 182) rfl (hb hby at_168) (by decide) (by decide) ?_
          show Steps p.tables e below (T0.setTop (mkF m 182 #[.val (.long q0), .second, .val (.long q1), .second, .val (.long q2), .second, .val (.long q3), .second, .val (.int p4), .val (.long mn1), .second, .val (.long mx1), .second, .val (.int md), .val (.int ub), .unset, .unset, .val (.long mx1), .second, .unset, .unset, .unset, .unset, .unset, .unset, .unset] [(.long (q2 &&& (9223372036854775807 : Int64)))])) _
          refine XS.lstore X0.here hx rfl (hb hby at_182) rfl (l' := #[.val (.long q0), .second, .val (.long q1), .second, .val (.long q2), .second, .val (.long q3), .second, .val (.int p4), .val (.long mn1), .second, .val (.long mx1), .second, .val (.int md), .val (.int ub), .val (.long (q2 &&& (9223372036854775807 : Int64))), .second, .val (.long mx1), .second, .unset, .unset, .unset, .unset, .unset, .unset, .unset]) rfl ?_
          exact kt
        · obtain ⟨_, _, ⟨T15, L15, k15, n15⟩, -, X15, ⟨Lc15, hQ15, l15, y15, z15⟩, st15⟩ := Jvm.LawKit.callS X0 hx (y := MN_1) hown (mvT hZ (Wd hw 58 rfl)) (mvT hZ (Wd hw 59 rfl)) (mvT hZ (Wd hw 54 rfl)) (mvT hZ (Wd hw 60 rfl)) (by decide) (backOf (W := 0) (rmMin l Z a0 hw [] aC kC vC ((q2 &&& (9223372036854775807 : Int64))) (mx1) (h0) n0 O0 GL) hZ (Wd hw 60 rfl) (Wd hw 54 rfl) (by decide) (by decide)) (g := (mkF m 179 #[.val (.long q0), .second, .val (.long q1), .second, .val (.long q2), .second, .val (.long q3), .second, .val (.int p4), .val (.long mn1), .second, .val (.long mx1), .second, .val (.int md), .val (.int ub), .unset, .unset, .val (.long mx1), .second, .unset, .unset, .unset, .unset, .unset, .unset, .unset] [(.long mx1), (.long (q2 &&& (9223372036854775807 : Int64)))])) rfl (by rw [hml]; rfl) (argsL := [(.long (q2 &&& (9223372036854775807 : Int64))), (.long mx1)]) (rest := []) (lenOf pdv2 rfl) rfl (by show 2 * 0 + _ ≤ _; exact Nat.le_of_eq rfl) (hb hby at_179) (fun _ _ => ⟨rfl, e0, (by decide : 0 + 0 ≤ _), (by decide : 0 + 0 ≤ _)⟩)
          dsimp only [Pt.U, Pt.locs, Pt.cells, Pt.slots] at X15 l15 y15 z15 st15 hQ15
          subst l15 y15 z15
          obtain ⟨rfl, N15q, e15⟩ := hQ15
          have N15 := Fr.app N0 N15q
          have hC1 : ¬ ((lcmpW (own_minJ (q2 &&& (9223372036854775807 : Int64)) mx1) (0 : Int64)) < (0 : Int32)) := own_vmin0 _ _ mn1 (own_v0 _) hA (hB.resolve_left fun q => hc159_13 (by rw [q]; decide))
          have hC2 : mx1 = (-1 : Int64) ∨ ¬ ((lcmpW mx1 (own_minJ (q2 &&& (9223372036854775807 : Int64)) mx1)) < (0 : Int32)) := Or.inr (own_vmin _ _)
          refine ⟨(own_minJ (q2 &&& (9223372036854775807 : Int64)) mx1), mx1, T15, _, X15, e15, N15, hC1, hC2, fun target kt => ?_⟩
          refine pre14 target ?_
          show Steps p.tables e below (T0.setTop (mkF m 159 #[.val (.long q0), .second, .val (.long q1), .second, .val (.long q2), .second, .val (.long q3), .second, .val (.int p4), .val (.long mn1), .second, .val (.long mx1), .second, .val (.int md), .val (.int ub), .unset, .unset, .val (.long mx1), .second, .unset, .unset, .unset, .unset, .unset, .unset, .unset] [(.int (lcmpW mx1 (-1 : Int64)))])) _
          refine XS.ifYes X0.here hx rfl (pc0 := 159) (pc' := 171) rfl (hb hby at_159) rfl ((if0 _ _).trans (feq hc159_13).2) (by decide) (by decide) ?_
          show Steps p.tables e below (T0.setTop (mkF m 171 #[.val (.long q0), .second, .val (.long q1), .second, .val (.long q2), .second, .val (.long q3), .second, .val (.int p4), .val (.long mn1), .second, .val (.long mx1), .second, .val (.int md), .val (.int ub), .unset, .unset, .val (.long mx1), .second, .unset, .unset, .unset, .unset, .unset, .unset, .unset] [])) _
          refine XS.lload X0.here hx rfl (hb hby at_171) rfl ?_
          show Steps p.tables e below (T0.setTop (mkF m 173 #[.val (.long q0), .second, .val (.long q1), .second, .val (.long q2), .second, .val (.long q3), .second, .val (.int p4), .val (.long mn1), .second, .val (.long mx1), .second, .val (.int md), .val (.int ub), .unset, .unset, .val (.long mx1), .second, .unset, .unset, .unset, .unset, .unset, .unset, .unset] [(.long q2)])) _
          refine X0.ldc2Long hx hown (mvT hZ (Wd hw 0 rfl)) (g := (mkF m 173 #[.val (.long q0), .second, .val (.long q1), .second, .val (.long q2), .second, .val (.long q3), .second, .val (.int p4), .val (.long mn1), .second, .val (.long mx1), .second, .val (.int md), .val (.int ub), .unset, .unset, .val (.long mx1), .second, .unset, .unset, .unset, .unset, .unset, .unset, .unset] [(.long q2)])) rfl (hb hby at_173) _ ?_
          show Steps p.tables e below (T0.setTop (mkF m 176 #[.val (.long q0), .second, .val (.long q1), .second, .val (.long q2), .second, .val (.long q3), .second, .val (.int p4), .val (.long mn1), .second, .val (.long mx1), .second, .val (.int md), .val (.int ub), .unset, .unset, .val (.long mx1), .second, .unset, .unset, .unset, .unset, .unset, .unset, .unset] [(.long (9223372036854775807 : Int64)), (.long q2)])) _
          refine XS.land X0.here hx rfl (hb hby at_176) rfl ?_
          show Steps p.tables e below (T0.setTop (mkF m 177 #[.val (.long q0), .second, .val (.long q1), .second, .val (.long q2), .second, .val (.long q3), .second, .val (.int p4), .val (.long mn1), .second, .val (.long mx1), .second, .val (.int md), .val (.int ub), .unset, .unset, .val (.long mx1), .second, .unset, .unset, .unset, .unset, .unset, .unset, .unset] [(.long (q2 &&& (9223372036854775807 : Int64)))])) _
          refine XS.lload X0.here hx rfl (hb hby at_177) rfl ?_
          show Steps p.tables e below (T0.setTop (mkF m 179 #[.val (.long q0), .second, .val (.long q1), .second, .val (.long q2), .second, .val (.long q3), .second, .val (.int p4), .val (.long mn1), .second, .val (.long mx1), .second, .val (.int md), .val (.int ub), .unset, .unset, .val (.long mx1), .second, .unset, .unset, .unset, .unset, .unset, .unset, .unset] [(.long mx1), (.long (q2 &&& (9223372036854775807 : Int64)))])) _
          refine st15 _ ?_
          show Steps p.tables e below (T15.setTop (mkF m 182 #[.val (.long q0), .second, .val (.long q1), .second, .val (.long q2), .second, .val (.long q3), .second, .val (.int p4), .val (.long mn1), .second, .val (.long mx1), .second, .val (.int md), .val (.int ub), .unset, .unset, .val (.long mx1), .second, .unset, .unset, .unset, .unset, .unset, .unset, .unset] [(.long (own_minJ (q2 &&& (9223372036854775807 : Int64)) mx1))])) _
          refine XS.lstore X15.here hx rfl (hb hby at_182) rfl (l' := #[.val (.long q0), .second, .val (.long q1), .second, .val (.long q2), .second, .val (.long q3), .second, .val (.int p4), .val (.long mn1), .second, .val (.long mx1), .second, .val (.int md), .val (.int ub), .val (.long (own_minJ (q2 &&& (9223372036854775807 : Int64)) mx1)), .second, .val (.long mx1), .second, .unset, .unset, .unset, .unset, .unset, .unset, .unset]) rfl ?_
          exact kt
theorem pdv3 : parseMethodDescriptor "(JJ)V" = some ⟨[.long, .long], none⟩ := by decide +kernel
theorem pdv4 : parseMethodDescriptor "(Ljava/lang/Object;)Z" = some ⟨[(.object "java/lang/Object")], some .boolean⟩ := by decide +kernel
theorem pdv5 : parseMethodDescriptor "(J)Ljava/lang/Long;" = some ⟨[.long], some (.object "java/lang/Long")⟩ := by decide +kernel
theorem pnv4 : plainName "com/example/tracelint/tracelint/IntervalEqualsPinLaw" = true := by first | (simp [plainName, overriddenIn]; done) | decide +kernel
theorem ef_rm0 (m : MethodId) (q0 : Int64) (q1 : Int64) (q2 : Int64) (q3 : Int64) (p4 : Int32) : entryFrame m #[(.long q0), (.long q1), (.long q2), (.long q3), (.int p4)] maxLocals = mkF m 0 #[.val (.long q0), .second, .val (.long q1), .second, .val (.long q2), .second, .val (.long q3), .second, .val (.int p4), .unset, .unset, .unset, .unset, .unset, .unset, .unset, .unset, .unset, .unset, .unset, .unset, .unset, .unset, .unset, .unset, .unset] [] := by first | (simp [entryFrame, mkF, argsToLocals, Value.category, maxLocals]; done) | rfl
def Q_rm0 (n0 : Nat) (v : Option Value) (h : Heap) (L : List Loc) : Prop := v = some (.int (1 : Int32)) ∧ Fr n0 L
set_option maxRecDepth 65536 in
set_option maxHeartbeats 40000000 in
theorem rm0 (l : Launch) (Z : State) (a0 : Array Value) (hw : ∀ d ∈ tables_1, d.before a0 Z = true) (ws : List Jvm.Cond) (aC : Addr) (kC : ClassId) (vC : List Value) (q0 : Int64) (q1 : Int64) (q2 : Int64) (q3 : Int64) (p4 : Int32) (h0 : Heap) (n0 : Nat) (O0 : Old Z n0 h0) (GL : GF Z aC kC vC) :
    MetFree l x (head1 (Jvm.Cond.code x code maxLocals ret :: ws) room_1) (fun a U => a = #[(.long q0), (.long q1), (.long q2), (.long q3), (.int p4)] ∧ Z.Warmed39 U.vm ∧ U.heap = h0) (fun _ _ _ _ _ => True) (fun _ U o U' => ∃ v L, o = .returned v ∧ Q_rm0 n0 v U'.heap L ∧ FrameEnd U o U' L room_1.cells room_1.slots) := by
  refine MetFree.of_bodySF (plainFor_of_name pnv4) hisR ?_
  intro p e s m args below meth c s₁ Bd hml0 hP hK
  obtain ⟨rfl, hZ, hh⟩ := hP
  have hx := Bd.exec
  have hby := Bd.bytes
  have hml : c.maxLocals = 26 := hml0
  have hown : s.vm.findClass "com/example/tracelint/tracelint/IntervalEqualsPinLaw" = some m.cls := findClass_of_methodNamed Bd.named
  have hnm := (name_of_methodNamed Bd.named Bd.method).1
  have X0 : Stand p l e room_1 s m #[(.long q0), (.long q1), (.long q2), (.long q3), (.int p4)] below meth c s₁ [] 0 0 := Stand.of_body Bd
  have e0 : s₁.heap = h0 := by rw [← hh, Bd.state]; rfl
  have N0 := Fr.nil n0
  have pre0 : ∀ t, Steps p.tables e below (s₁.setTop (mkF m 0 #[.val (.long q0), .second, .val (.long q1), .second, .val (.long q2), .second, .val (.long q3), .second, .val (.int p4), .unset, .unset, .unset, .unset, .unset, .unset, .unset, .unset, .unset, .unset, .unset, .unset, .unset, .unset, .unset, .unset, .unset] [])) t → Steps p.tables e below (s₁.setTop (entryFrame m #[(.long q0), (.long q1), (.long q2), (.long q3), (.int p4)] maxLocals)) t := fun t k => castTop (ef_rm0 m q0 q1 q2 q3 p4) k
  have GL' := GL
  obtain ⟨GSC, GVC, GPC⟩ := GL'
  obtain ⟨mn1_1, mx1_1, T1, Lq1, X1, e1, N1, P1_0, P1_1, st1⟩ := sgA aC kC vC q0 q1 q2 q3 p4 X0 hx hZ hw hby hml hown e0 N0 O0 GL
  obtain ⟨md_2, ub_2, T2, Lq2, X2, e2, N2, st2⟩ := sgB aC kC vC q0 q1 q2 q3 p4 (mn1_1) (mx1_1) X1 hx hZ hw hby hml hown e1 N1 O0 GL
  obtain ⟨mn2_3, mx2_3, T3, Lq3, X3, e3, N3, P3_0, P3_1, st3⟩ := sgC aC kC vC q0 q1 q2 q3 p4 (mn1_1) (mx1_1) (md_2) (ub_2) X2 hx hZ hw hby hml hown e2 N2 O0 GL P1_0 P1_1
  obtain ⟨T4, h4, X4, e4, E4, A4, D4, -, st4⟩ := newO X3 hx hZ hown (Wd hw 2 rfl) (Wd hw 3 rfl) (Wd hw 4 rfl) e3 (g := (mkF m 184 #[.val (.long q0), .second, .val (.long q1), .second, .val (.long q2), .second, .val (.long q3), .second, .val (.int p4), .val (.long mn1_1), .second, .val (.long mx1_1), .second, .val (.int md_2), .val (.int ub_2), .val (.long mn2_3), .second, .val (.long mx2_3), .second, .unset, .unset, .unset, .unset, .unset, .unset, .unset] [])) rfl (hb hby at_184) (by decide) (by decide)
  obtain ⟨b4, g4⟩ : ∃ z, z = h0.size := ⟨_, rfl⟩
  rw [← g4] at A4 D4 st4
  have g_b4 : n0 ≤ b4 := Nat.le_trans (own_sz O0) (Nat.le_of_eq g4.symm)
  have O4 := O0.ext E4
  have F_min_b4 : Fld Z h4 b4 "com/example/tracelint/tracelint/Interval" "min" "J" (.long (0 : Int64)) := D4 (Or.inr (Wd hw 18 rfl)) (ty := .long) (by decide)
  have F_max_b4 : Fld Z h4 b4 "com/example/tracelint/tracelint/Interval" "max" "J" (.long (0 : Int64)) := D4 (Or.inr (Wd hw 20 rfl)) (ty := .long) (by decide)
  obtain ⟨_, _, ⟨T5, L5, k5, n5⟩, -, X5, ⟨Lc5, hQ5, l5, y5, z5⟩, st5⟩ := X4.specialBack hx (y := MN_4) rfl hown (mvT hZ (Wd hw 5 rfl)) (mvT hZ (Wd hw 6 rfl)) (mvT hZ (Wd hw 7 rfl)) (by decide) (backOf (W := 1) (rmIv l Z a0 hw [] aC kC vC (b4) (mn1_1) (mx1_1) (h4) n0 O4 GL A4 F_min_b4 F_max_b4 g_b4 P1_0 P1_1) hZ (Wd hw 7 rfl) (Wd hw 4 rfl) (by decide) (by decide)) (g := (mkF m 192 #[.val (.long q0), .second, .val (.long q1), .second, .val (.long q2), .second, .val (.long q3), .second, .val (.int p4), .val (.long mn1_1), .second, .val (.long mx1_1), .second, .val (.int md_2), .val (.int ub_2), .val (.long mn2_3), .second, .val (.long mx2_3), .second, .unset, .unset, .unset, .unset, .unset, .unset, .unset] [(.long mx1_1), (.long mn1_1), (.ref b4), (.ref b4)])) rfl (by rw [hml]; rfl) (Steps.refl _) (a := b4) (argsL := [(.long mn1_1), (.long mx1_1)]) (rest := [(.ref b4)]) (lenOf pdv3 rfl) rfl (by show 2 * 0 + _ ≤ _; exact Nat.le_of_eq rfl) (hb hby at_192) (fun _ _ => ⟨rfl, e4, (by decide : 1 + 0 ≤ _), (by decide : 2 + 0 ≤ _)⟩)
  dsimp only [Pt.U, Pt.locs, Pt.cells, Pt.slots] at X5 l5 y5 z5 st5 hQ5
  subst l5 y5 z5
  obtain ⟨rfl, N5q, Kc5, P5_0, P5_1, P5_2⟩ := hQ5
  have O5 := O4.keep Kc5 (allS g_b4 all0)
  have N5 := Fr.app N3 N5q
  obtain ⟨T6, h6, X6, e6, E6, A6, D6, -, st6⟩ := newO X5 hx hZ hown (Wd hw 2 rfl) (Wd hw 3 rfl) (Wd hw 4 rfl) rfl (g := (mkF m 197 #[.val (.long q0), .second, .val (.long q1), .second, .val (.long q2), .second, .val (.long q3), .second, .val (.int p4), .val (.long mn1_1), .second, .val (.long mx1_1), .second, .val (.int md_2), .val (.int ub_2), .val (.long mn2_3), .second, .val (.long mx2_3), .second, .val (.ref b4), .unset, .unset, .unset, .unset, .unset, .unset] [])) rfl (hb hby at_197) (by decide) (by decide)
  obtain ⟨b6, g6⟩ : ∃ z, z = T5.heap.size := ⟨_, rfl⟩
  rw [← g6] at A6 D6 st6
  have g_b6 : n0 ≤ b6 := Nat.le_trans (own_sz O5) (Nat.le_of_eq g6.symm)
  have O6 := O5.ext E6
  have F_min_b6 : Fld Z h6 b6 "com/example/tracelint/tracelint/Interval" "min" "J" (.long (0 : Int64)) := D6 (Or.inr (Wd hw 18 rfl)) (ty := .long) (by decide)
  have F_max_b6 : Fld Z h6 b6 "com/example/tracelint/tracelint/Interval" "max" "J" (.long (0 : Int64)) := D6 (Or.inr (Wd hw 20 rfl)) (ty := .long) (by decide)
  obtain ⟨_, _, ⟨T7, L7, k7, n7⟩, -, X7, ⟨Lc7, hQ7, l7, y7, z7⟩, st7⟩ := X6.specialBack hx (y := MN_4) rfl hown (mvT hZ (Wd hw 5 rfl)) (mvT hZ (Wd hw 6 rfl)) (mvT hZ (Wd hw 7 rfl)) (by decide) (backOf (W := 1) (rmIv l Z a0 hw [] aC kC vC (b6) (mn2_3) (mx2_3) (h6) n0 O6 GL A6 F_min_b6 F_max_b6 g_b6 P3_0 P3_1) hZ (Wd hw 7 rfl) (Wd hw 4 rfl) (by decide) (by decide)) (g := (mkF m 205 #[.val (.long q0), .second, .val (.long q1), .second, .val (.long q2), .second, .val (.long q3), .second, .val (.int p4), .val (.long mn1_1), .second, .val (.long mx1_1), .second, .val (.int md_2), .val (.int ub_2), .val (.long mn2_3), .second, .val (.long mx2_3), .second, .val (.ref b4), .unset, .unset, .unset, .unset, .unset, .unset] [(.long mx2_3), (.long mn2_3), (.ref b6), (.ref b6)])) rfl (by rw [hml]; rfl) (Steps.refl _) (a := b6) (argsL := [(.long mn2_3), (.long mx2_3)]) (rest := [(.ref b6)]) (lenOf pdv3 rfl) rfl (by show 2 * 0 + _ ≤ _; exact Nat.le_of_eq rfl) (hb hby at_205) (fun _ _ => ⟨rfl, e6, (by decide : 2 + 0 ≤ _), (by decide : 4 + 0 ≤ _)⟩)
  dsimp only [Pt.U, Pt.locs, Pt.cells, Pt.slots] at X7 l7 y7 z7 st7 hQ7
  subst l7 y7 z7
  obtain ⟨rfl, N7q, Kc7, P7_0, P7_1, P7_2⟩ := hQ7
  have O7 := O6.keep Kc7 (allS g_b6 all0)
  have N7 := Fr.app N5 N7q
  have pre9 : ∀ t, Steps p.tables e below (T7.setTop (mkF m 221 #[.val (.long q0), .second, .val (.long q1), .second, .val (.long q2), .second, .val (.long q3), .second, .val (.int p4), .val (.long mn1_1), .second, .val (.long mx1_1), .second, .val (.int md_2), .val (.int ub_2), .val (.long mn2_3), .second, .val (.long mx2_3), .second, .val (.ref b4), .val (.ref b6), .val (.int (((p4.toUInt32 >>> ((4 : Int32) &&& 31).toUInt32).toInt32) &&& (3 : Int32))), .unset, .unset, .unset, .unset] [(.int (2 : Int32)), (.int (((p4.toUInt32 >>> ((4 : Int32) &&& 31).toUInt32).toInt32) &&& (3 : Int32)))])) t → Steps p.tables e below (s₁.setTop (entryFrame m #[(.long q0), (.long q1), (.long q2), (.long q3), (.int p4)] maxLocals)) t := fun t kt => by
    refine pre0 t ?_
    show Steps p.tables e below (s₁.setTop (mkF m 0 #[.val (.long q0), .second, .val (.long q1), .second, .val (.long q2), .second, .val (.long q3), .second, .val (.int p4), .unset, .unset, .unset, .unset, .unset, .unset, .unset, .unset, .unset, .unset, .unset, .unset, .unset, .unset, .unset, .unset, .unset] [])) _
    refine st1 _ ?_
    show Steps p.tables e below (T1.setTop (mkF m 32 #[.val (.long q0), .second, .val (.long q1), .second, .val (.long q2), .second, .val (.long q3), .second, .val (.int p4), .val (.long mn1_1), .second, .val (.long mx1_1), .second, .unset, .unset, .unset, .unset, .unset, .unset, .unset, .unset, .unset, .unset, .unset, .unset, .unset] [])) _
    refine st2 _ ?_
    show Steps p.tables e below (T2.setTop (mkF m 55 #[.val (.long q0), .second, .val (.long q1), .second, .val (.long q2), .second, .val (.long q3), .second, .val (.int p4), .val (.long mn1_1), .second, .val (.long mx1_1), .second, .val (.int md_2), .val (.int ub_2), .unset, .unset, .unset, .unset, .unset, .unset, .unset, .unset, .unset, .unset, .unset] [])) _
    refine st3 _ ?_
    show Steps p.tables e below (T3.setTop (mkF m 184 #[.val (.long q0), .second, .val (.long q1), .second, .val (.long q2), .second, .val (.long q3), .second, .val (.int p4), .val (.long mn1_1), .second, .val (.long mx1_1), .second, .val (.int md_2), .val (.int ub_2), .val (.long mn2_3), .second, .val (.long mx2_3), .second, .unset, .unset, .unset, .unset, .unset, .unset, .unset] [])) _
    refine st4 _ ?_
    show Steps p.tables e below (T4.setTop (mkF m 187 #[.val (.long q0), .second, .val (.long q1), .second, .val (.long q2), .second, .val (.long q3), .second, .val (.int p4), .val (.long mn1_1), .second, .val (.long mx1_1), .second, .val (.int md_2), .val (.int ub_2), .val (.long mn2_3), .second, .val (.long mx2_3), .second, .unset, .unset, .unset, .unset, .unset, .unset, .unset] [(.ref b4)])) _
    refine XS.dup X4.here hx rfl (hb hby at_187) rfl rfl ?_
    show Steps p.tables e below (T4.setTop (mkF m 188 #[.val (.long q0), .second, .val (.long q1), .second, .val (.long q2), .second, .val (.long q3), .second, .val (.int p4), .val (.long mn1_1), .second, .val (.long mx1_1), .second, .val (.int md_2), .val (.int ub_2), .val (.long mn2_3), .second, .val (.long mx2_3), .second, .unset, .unset, .unset, .unset, .unset, .unset, .unset] [(.ref b4), (.ref b4)])) _
    refine XS.lload X4.here hx rfl (hb hby at_188) rfl ?_
    show Steps p.tables e below (T4.setTop (mkF m 190 #[.val (.long q0), .second, .val (.long q1), .second, .val (.long q2), .second, .val (.long q3), .second, .val (.int p4), .val (.long mn1_1), .second, .val (.long mx1_1), .second, .val (.int md_2), .val (.int ub_2), .val (.long mn2_3), .second, .val (.long mx2_3), .second, .unset, .unset, .unset, .unset, .unset, .unset, .unset] [(.long mn1_1), (.ref b4), (.ref b4)])) _
    refine XS.lload X4.here hx rfl (hb hby at_190) rfl ?_
    show Steps p.tables e below (T4.setTop (mkF m 192 #[.val (.long q0), .second, .val (.long q1), .second, .val (.long q2), .second, .val (.long q3), .second, .val (.int p4), .val (.long mn1_1), .second, .val (.long mx1_1), .second, .val (.int md_2), .val (.int ub_2), .val (.long mn2_3), .second, .val (.long mx2_3), .second, .unset, .unset, .unset, .unset, .unset, .unset, .unset] [(.long mx1_1), (.long mn1_1), (.ref b4), (.ref b4)])) _
    refine st5.trans ?_
    show Steps p.tables e below (T5.setTop (mkF m 195 #[.val (.long q0), .second, .val (.long q1), .second, .val (.long q2), .second, .val (.long q3), .second, .val (.int p4), .val (.long mn1_1), .second, .val (.long mx1_1), .second, .val (.int md_2), .val (.int ub_2), .val (.long mn2_3), .second, .val (.long mx2_3), .second, .unset, .unset, .unset, .unset, .unset, .unset, .unset] [(.ref b4)])) _
    refine XS.astore X5.here hx rfl (hb hby at_195) rfl rfl (l' := #[.val (.long q0), .second, .val (.long q1), .second, .val (.long q2), .second, .val (.long q3), .second, .val (.int p4), .val (.long mn1_1), .second, .val (.long mx1_1), .second, .val (.int md_2), .val (.int ub_2), .val (.long mn2_3), .second, .val (.long mx2_3), .second, .val (.ref b4), .unset, .unset, .unset, .unset, .unset, .unset]) rfl ?_
    show Steps p.tables e below (T5.setTop (mkF m 197 #[.val (.long q0), .second, .val (.long q1), .second, .val (.long q2), .second, .val (.long q3), .second, .val (.int p4), .val (.long mn1_1), .second, .val (.long mx1_1), .second, .val (.int md_2), .val (.int ub_2), .val (.long mn2_3), .second, .val (.long mx2_3), .second, .val (.ref b4), .unset, .unset, .unset, .unset, .unset, .unset] [])) _
    refine st6 _ ?_
    show Steps p.tables e below (T6.setTop (mkF m 200 #[.val (.long q0), .second, .val (.long q1), .second, .val (.long q2), .second, .val (.long q3), .second, .val (.int p4), .val (.long mn1_1), .second, .val (.long mx1_1), .second, .val (.int md_2), .val (.int ub_2), .val (.long mn2_3), .second, .val (.long mx2_3), .second, .val (.ref b4), .unset, .unset, .unset, .unset, .unset, .unset] [(.ref b6)])) _
    refine XS.dup X6.here hx rfl (hb hby at_200) rfl rfl ?_
    show Steps p.tables e below (T6.setTop (mkF m 201 #[.val (.long q0), .second, .val (.long q1), .second, .val (.long q2), .second, .val (.long q3), .second, .val (.int p4), .val (.long mn1_1), .second, .val (.long mx1_1), .second, .val (.int md_2), .val (.int ub_2), .val (.long mn2_3), .second, .val (.long mx2_3), .second, .val (.ref b4), .unset, .unset, .unset, .unset, .unset, .unset] [(.ref b6), (.ref b6)])) _
    refine XS.lload X6.here hx rfl (hb hby at_201) rfl ?_
    show Steps p.tables e below (T6.setTop (mkF m 203 #[.val (.long q0), .second, .val (.long q1), .second, .val (.long q2), .second, .val (.long q3), .second, .val (.int p4), .val (.long mn1_1), .second, .val (.long mx1_1), .second, .val (.int md_2), .val (.int ub_2), .val (.long mn2_3), .second, .val (.long mx2_3), .second, .val (.ref b4), .unset, .unset, .unset, .unset, .unset, .unset] [(.long mn2_3), (.ref b6), (.ref b6)])) _
    refine XS.lload X6.here hx rfl (hb hby at_203) rfl ?_
    show Steps p.tables e below (T6.setTop (mkF m 205 #[.val (.long q0), .second, .val (.long q1), .second, .val (.long q2), .second, .val (.long q3), .second, .val (.int p4), .val (.long mn1_1), .second, .val (.long mx1_1), .second, .val (.int md_2), .val (.int ub_2), .val (.long mn2_3), .second, .val (.long mx2_3), .second, .val (.ref b4), .unset, .unset, .unset, .unset, .unset, .unset] [(.long mx2_3), (.long mn2_3), (.ref b6), (.ref b6)])) _
    refine st7.trans ?_
    show Steps p.tables e below (T7.setTop (mkF m 208 #[.val (.long q0), .second, .val (.long q1), .second, .val (.long q2), .second, .val (.long q3), .second, .val (.int p4), .val (.long mn1_1), .second, .val (.long mx1_1), .second, .val (.int md_2), .val (.int ub_2), .val (.long mn2_3), .second, .val (.long mx2_3), .second, .val (.ref b4), .unset, .unset, .unset, .unset, .unset, .unset] [(.ref b6)])) _
    refine XS.astore X7.here hx rfl (hb hby at_208) rfl rfl (l' := #[.val (.long q0), .second, .val (.long q1), .second, .val (.long q2), .second, .val (.long q3), .second, .val (.int p4), .val (.long mn1_1), .second, .val (.long mx1_1), .second, .val (.int md_2), .val (.int ub_2), .val (.long mn2_3), .second, .val (.long mx2_3), .second, .val (.ref b4), .val (.ref b6), .unset, .unset, .unset, .unset, .unset]) rfl ?_
    show Steps p.tables e below (T7.setTop (mkF m 210 #[.val (.long q0), .second, .val (.long q1), .second, .val (.long q2), .second, .val (.long q3), .second, .val (.int p4), .val (.long mn1_1), .second, .val (.long mx1_1), .second, .val (.int md_2), .val (.int ub_2), .val (.long mn2_3), .second, .val (.long mx2_3), .second, .val (.ref b4), .val (.ref b6), .unset, .unset, .unset, .unset, .unset] [])) _
    refine XS.iload X7.here hx rfl (hb hby at_210) rfl ?_
    show Steps p.tables e below (T7.setTop (mkF m 212 #[.val (.long q0), .second, .val (.long q1), .second, .val (.long q2), .second, .val (.long q3), .second, .val (.int p4), .val (.long mn1_1), .second, .val (.long mx1_1), .second, .val (.int md_2), .val (.int ub_2), .val (.long mn2_3), .second, .val (.long mx2_3), .second, .val (.ref b4), .val (.ref b6), .unset, .unset, .unset, .unset, .unset] [(.int p4)])) _
    refine XS.iconst X7.here hx rfl (hb hby at_212) ?_
    show Steps p.tables e below (T7.setTop (mkF m 213 #[.val (.long q0), .second, .val (.long q1), .second, .val (.long q2), .second, .val (.long q3), .second, .val (.int p4), .val (.long mn1_1), .second, .val (.long mx1_1), .second, .val (.int md_2), .val (.int ub_2), .val (.long mn2_3), .second, .val (.long mx2_3), .second, .val (.ref b4), .val (.ref b6), .unset, .unset, .unset, .unset, .unset] [(.int (4 : Int32)), (.int p4)])) _
    refine XS.iushr X7.here hx rfl (hb hby at_213) rfl ?_
    show Steps p.tables e below (T7.setTop (mkF m 214 #[.val (.long q0), .second, .val (.long q1), .second, .val (.long q2), .second, .val (.long q3), .second, .val (.int p4), .val (.long mn1_1), .second, .val (.long mx1_1), .second, .val (.int md_2), .val (.int ub_2), .val (.long mn2_3), .second, .val (.long mx2_3), .second, .val (.ref b4), .val (.ref b6), .unset, .unset, .unset, .unset, .unset] [(.int ((p4.toUInt32 >>> ((4 : Int32) &&& 31).toUInt32).toInt32))])) _
    refine XS.iconst X7.here hx rfl (hb hby at_214) ?_
    show Steps p.tables e below (T7.setTop (mkF m 215 #[.val (.long q0), .second, .val (.long q1), .second, .val (.long q2), .second, .val (.long q3), .second, .val (.int p4), .val (.long mn1_1), .second, .val (.long mx1_1), .second, .val (.int md_2), .val (.int ub_2), .val (.long mn2_3), .second, .val (.long mx2_3), .second, .val (.ref b4), .val (.ref b6), .unset, .unset, .unset, .unset, .unset] [(.int (3 : Int32)), (.int ((p4.toUInt32 >>> ((4 : Int32) &&& 31).toUInt32).toInt32))])) _
    refine XS.iand X7.here hx rfl (hb hby at_215) rfl ?_
    show Steps p.tables e below (T7.setTop (mkF m 216 #[.val (.long q0), .second, .val (.long q1), .second, .val (.long q2), .second, .val (.long q3), .second, .val (.int p4), .val (.long mn1_1), .second, .val (.long mx1_1), .second, .val (.int md_2), .val (.int ub_2), .val (.long mn2_3), .second, .val (.long mx2_3), .second, .val (.ref b4), .val (.ref b6), .unset, .unset, .unset, .unset, .unset] [(.int (((p4.toUInt32 >>> ((4 : Int32) &&& 31).toUInt32).toInt32) &&& (3 : Int32)))])) _
    refine XS.istore X7.here hx rfl (hb hby at_216) rfl (l' := #[.val (.long q0), .second, .val (.long q1), .second, .val (.long q2), .second, .val (.long q3), .second, .val (.int p4), .val (.long mn1_1), .second, .val (.long mx1_1), .second, .val (.int md_2), .val (.int ub_2), .val (.long mn2_3), .second, .val (.long mx2_3), .second, .val (.ref b4), .val (.ref b6), .val (.int (((p4.toUInt32 >>> ((4 : Int32) &&& 31).toUInt32).toInt32) &&& (3 : Int32))), .unset, .unset, .unset, .unset]) rfl ?_
    show Steps p.tables e below (T7.setTop (mkF m 218 #[.val (.long q0), .second, .val (.long q1), .second, .val (.long q2), .second, .val (.long q3), .second, .val (.int p4), .val (.long mn1_1), .second, .val (.long mx1_1), .second, .val (.int md_2), .val (.int ub_2), .val (.long mn2_3), .second, .val (.long mx2_3), .second, .val (.ref b4), .val (.ref b6), .val (.int (((p4.toUInt32 >>> ((4 : Int32) &&& 31).toUInt32).toInt32) &&& (3 : Int32))), .unset, .unset, .unset, .unset] [])) _
    refine XS.iload X7.here hx rfl (hb hby at_218) rfl ?_
    show Steps p.tables e below (T7.setTop (mkF m 220 #[.val (.long q0), .second, .val (.long q1), .second, .val (.long q2), .second, .val (.long q3), .second, .val (.int p4), .val (.long mn1_1), .second, .val (.long mx1_1), .second, .val (.int md_2), .val (.int ub_2), .val (.long mn2_3), .second, .val (.long mx2_3), .second, .val (.ref b4), .val (.ref b6), .val (.int (((p4.toUInt32 >>> ((4 : Int32) &&& 31).toUInt32).toInt32) &&& (3 : Int32))), .unset, .unset, .unset, .unset] [(.int (((p4.toUInt32 >>> ((4 : Int32) &&& 31).toUInt32).toInt32) &&& (3 : Int32)))])) _
    refine XS.iconst X7.here hx rfl (hb hby at_220) ?_
    exact kt
  by_cases hc221_8 : (((p4.toUInt32 >>> ((4 : Int32) &&& 31).toUInt32).toInt32) &&& (3 : Int32)) = (2 : Int32)
  · have hk2 : ¬ ((((p4.toUInt32 >>> ((4 : Int32) &&& 31).toUInt32).toInt32) &&& (3 : Int32)) < (2 : Int32)) := (by rw [hc221_8]; decide)
    obtain ⟨cq10, kq10, q10a, q10b, q10c⟩ := isOf hZ rfl ((P5_0.ext E6).keep Kc7)
    obtain ⟨_, _, ⟨T10, L10, k10, n10⟩, -, X10, ⟨Lc10, hQ10, l10, y10, z10⟩, st10⟩ := X7.virtualBack hx (y := MN_7) (z := MN_7) hown (mvT hZ (Wd hw 21 rfl)) (mvT hZ (Wd hw 22 rfl)) (notFace_of_selects (args := #[]) (mvT hZ (Wd hw 24 rfl))) (mvT hZ (Wd hw 24 rfl)) (mvT hZ (Wd hw 23 rfl)) (by decide) (backOf (W := 0) (rmEq_null l Z a0 hw [] aC kC vC (b4) (T7.heap) n0 O7 GL) hZ (Wd hw 25 rfl) (Wd hw 4 rfl) (by decide) (by decide)) q10a q10c (g := (mkF m 283 #[.val (.long q0), .second, .val (.long q1), .second, .val (.long q2), .second, .val (.long q3), .second, .val (.int p4), .val (.long mn1_1), .second, .val (.long mx1_1), .second, .val (.int md_2), .val (.int ub_2), .val (.long mn2_3), .second, .val (.long mx2_3), .second, .val (.ref b4), .val (.ref b6), .val (.int (((p4.toUInt32 >>> ((4 : Int32) &&& 31).toUInt32).toInt32) &&& (3 : Int32))), .val .null, .val (.int (0 : Int32)), .unset, .unset] [.null, (.ref b4)])) rfl (by rw [hml]; rfl) (Steps.refl _) (argsL := [.null]) (rest := []) (lenOf pdv4 rfl) rfl (by show 2 * 0 + _ ≤ _; exact Nat.le_of_eq rfl) (hb hby at_283) (fun _ _ => ⟨rfl, rfl, (by decide : 2 + 0 ≤ _), (by decide : 4 + 0 ≤ _)⟩)
    dsimp only [Pt.U, Pt.locs, Pt.cells, Pt.slots] at X10 l10 y10 z10 st10 hQ10
    subst l10 y10 z10
    obtain ⟨rfl, N10q, e10⟩ := hQ10
    have N10 := Fr.app N7 N10q
    obtain ⟨cq11, kq11, q11a, q11b, q11c⟩ := isOf hZ e10 ((P5_0.ext E6).keep Kc7)
    obtain ⟨_, _, ⟨T11, L11, k11, n11⟩, -, X11, ⟨Lc11, hQ11, l11, y11, z11⟩, st11⟩ := X10.virtualBack hx (y := MN_7) (z := MN_7) hown (mvT hZ (Wd hw 21 rfl)) (mvT hZ (Wd hw 22 rfl)) (notFace_of_selects (args := #[]) (mvT hZ (Wd hw 24 rfl))) (mvT hZ (Wd hw 24 rfl)) (mvT hZ (Wd hw 23 rfl)) (by decide) (backOf (W := 0) (rmEq_yes l Z a0 hw [] aC kC vC (b4) (b4) (mn1_1) (mx1_1) (mn1_1) (mx1_1) (T7.heap) n0 O7 GL ((P5_1.ext E6).keep Kc7 (ninS (Nat.ne_of_lt (Nat.lt_of_lt_of_le (Nat.lt_of_lt_of_le A4.lt Kc5.1) (Nat.le_of_eq g6.symm))) nin0)) ((P5_2.ext E6).keep Kc7 (ninS (Nat.ne_of_lt (Nat.lt_of_lt_of_le (Nat.lt_of_lt_of_le A4.lt Kc5.1) (Nat.le_of_eq g6.symm))) nin0)) ((P5_0.ext E6).keep Kc7) ((P5_1.ext E6).keep Kc7 (ninS (Nat.ne_of_lt (Nat.lt_of_lt_of_le (Nat.lt_of_lt_of_le A4.lt Kc5.1) (Nat.le_of_eq g6.symm))) nin0)) ((P5_2.ext E6).keep Kc7 (ninS (Nat.ne_of_lt (Nat.lt_of_lt_of_le (Nat.lt_of_lt_of_le A4.lt Kc5.1) (Nat.le_of_eq g6.symm))) nin0)) rfl rfl) hZ (Wd hw 25 rfl) (Wd hw 4 rfl) (by decide) (by decide)) q11a q11c (g := (mkF m 329 #[.val (.long q0), .second, .val (.long q1), .second, .val (.long q2), .second, .val (.long q3), .second, .val (.int p4), .val (.long mn1_1), .second, .val (.long mx1_1), .second, .val (.int md_2), .val (.int ub_2), .val (.long mn2_3), .second, .val (.long mx2_3), .second, .val (.ref b4), .val (.ref b6), .val (.int (((p4.toUInt32 >>> ((4 : Int32) &&& 31).toUInt32).toInt32) &&& (3 : Int32))), .val .null, .val (.int (0 : Int32)), .val (.int (0 : Int32)), .val (.int (1 : Int32))] [(.ref b4), (.ref b4)])) rfl (by rw [hml]; rfl) (Steps.refl _) (argsL := [(.ref b4)]) (rest := []) (lenOf pdv4 rfl) rfl (by show 2 * 0 + _ ≤ _; exact Nat.le_of_eq rfl) (hb hby at_329) (fun _ _ => ⟨rfl, e10, (by decide : 2 + 0 ≤ _), (by decide : 4 + 0 ≤ _)⟩)
    dsimp only [Pt.U, Pt.locs, Pt.cells, Pt.slots] at X11 l11 y11 z11 st11 hQ11
    subst l11 y11 z11
    obtain ⟨rfl, N11q, e11⟩ := hQ11
    have N11 := Fr.app N10 N11q
    obtain ⟨fs, hr, hrun, hended, hW, hsame⟩ := X11.leave (v := some (.int (1 : Int32))) (fun h => by rw [Bd.returns] at h; cases h)
    refine ⟨_, _, pre9 _ ?_, hrun, hended, _, _, rfl, ?_, ⟨_, rfl⟩, hW, hsame.mono (by decide) (by decide)⟩
    · show Steps p.tables e below (T7.setTop (mkF m 221 #[.val (.long q0), .second, .val (.long q1), .second, .val (.long q2), .second, .val (.long q3), .second, .val (.int p4), .val (.long mn1_1), .second, .val (.long mx1_1), .second, .val (.int md_2), .val (.int ub_2), .val (.long mn2_3), .second, .val (.long mx2_3), .second, .val (.ref b4), .val (.ref b6), .val (.int (((p4.toUInt32 >>> ((4 : Int32) &&& 31).toUInt32).toInt32) &&& (3 : Int32))), .unset, .unset, .unset, .unset] [(.int (2 : Int32)), (.int (((p4.toUInt32 >>> ((4 : Int32) &&& 31).toUInt32).toInt32) &&& (3 : Int32)))])) _
      refine XS.icmpNo X7.here hx rfl (hb hby at_221) rfl (teq hc221_8).2 ?_
      show Steps p.tables e below (T7.setTop (mkF m 224 #[.val (.long q0), .second, .val (.long q1), .second, .val (.long q2), .second, .val (.long q3), .second, .val (.int p4), .val (.long mn1_1), .second, .val (.long mx1_1), .second, .val (.int md_2), .val (.int ub_2), .val (.long mn2_3), .second, .val (.long mx2_3), .second, .val (.ref b4), .val (.ref b6), .val (.int (((p4.toUInt32 >>> ((4 : Int32) &&& 31).toUInt32).toInt32) &&& (3 : Int32))), .unset, .unset, .unset, .unset] [])) _
      refine XS.aconstNull X7.here hx rfl (hb hby at_224) ?_
      show Steps p.tables e below (T7.setTop (mkF m 225 #[.val (.long q0), .second, .val (.long q1), .second, .val (.long q2), .second, .val (.long q3), .second, .val (.int p4), .val (.long mn1_1), .second, .val (.long mx1_1), .second, .val (.int md_2), .val (.int ub_2), .val (.long mn2_3), .second, .val (.long mx2_3), .second, .val (.ref b4), .val (.ref b6), .val (.int (((p4.toUInt32 >>> ((4 : Int32) &&& 31).toUInt32).toInt32) &&& (3 : Int32))), .unset, .unset, .unset, .unset] [.null])) _
      refine XS.astore X7.here hx rfl (hb hby at_225) rfl rfl (l' := #[.val (.long q0), .second, .val (.long q1), .second, .val (.long q2), .second, .val (.long q3), .second, .val (.int p4), .val (.long mn1_1), .second, .val (.long mx1_1), .second, .val (.int md_2), .val (.int ub_2), .val (.long mn2_3), .second, .val (.long mx2_3), .second, .val (.ref b4), .val (.ref b6), .val (.int (((p4.toUInt32 >>> ((4 : Int32) &&& 31).toUInt32).toInt32) &&& (3 : Int32))), .val .null, .unset, .unset, .unset]) rfl ?_
      show Steps p.tables e below (T7.setTop (mkF m 227 #[.val (.long q0), .second, .val (.long q1), .second, .val (.long q2), .second, .val (.long q3), .second, .val (.int p4), .val (.long mn1_1), .second, .val (.long mx1_1), .second, .val (.int md_2), .val (.int ub_2), .val (.long mn2_3), .second, .val (.long mx2_3), .second, .val (.ref b4), .val (.ref b6), .val (.int (((p4.toUInt32 >>> ((4 : Int32) &&& 31).toUInt32).toInt32) &&& (3 : Int32))), .val .null, .unset, .unset, .unset] [])) _
      refine XS.iconst X7.here hx rfl (hb hby at_227) ?_
      show Steps p.tables e below (T7.setTop (mkF m 228 #[.val (.long q0), .second, .val (.long q1), .second, .val (.long q2), .second, .val (.long q3), .second, .val (.int p4), .val (.long mn1_1), .second, .val (.long mx1_1), .second, .val (.int md_2), .val (.int ub_2), .val (.long mn2_3), .second, .val (.long mx2_3), .second, .val (.ref b4), .val (.ref b6), .val (.int (((p4.toUInt32 >>> ((4 : Int32) &&& 31).toUInt32).toInt32) &&& (3 : Int32))), .val .null, .unset, .unset, .unset] [(.int (0 : Int32))])) _
      refine XS.istore X7.here hx rfl (hb hby at_228) rfl (l' := #[.val (.long q0), .second, .val (.long q1), .second, .val (.long q2), .second, .val (.long q3), .second, .val (.int p4), .val (.long mn1_1), .second, .val (.long mx1_1), .second, .val (.int md_2), .val (.int ub_2), .val (.long mn2_3), .second, .val (.long mx2_3), .second, .val (.ref b4), .val (.ref b6), .val (.int (((p4.toUInt32 >>> ((4 : Int32) &&& 31).toUInt32).toInt32) &&& (3 : Int32))), .val .null, .val (.int (0 : Int32)), .unset, .unset]) rfl ?_
      show Steps p.tables e below (T7.setTop (mkF m 230 #[.val (.long q0), .second, .val (.long q1), .second, .val (.long q2), .second, .val (.long q3), .second, .val (.int p4), .val (.long mn1_1), .second, .val (.long mx1_1), .second, .val (.int md_2), .val (.int ub_2), .val (.long mn2_3), .second, .val (.long mx2_3), .second, .val (.ref b4), .val (.ref b6), .val (.int (((p4.toUInt32 >>> ((4 : Int32) &&& 31).toUInt32).toInt32) &&& (3 : Int32))), .val .null, .val (.int (0 : Int32)), .unset, .unset] [])) _
      refine XS.goto X7.here hx rfl (pc0 := 230) (pc' := 279) rfl (hb hby at_230) (by decide) (by decide) ?_
      show Steps p.tables e below (T7.setTop (mkF m 279 #[.val (.long q0), .second, .val (.long q1), .second, .val (.long q2), .second, .val (.long q3), .second, .val (.int p4), .val (.long mn1_1), .second, .val (.long mx1_1), .second, .val (.int md_2), .val (.int ub_2), .val (.long mn2_3), .second, .val (.long mx2_3), .second, .val (.ref b4), .val (.ref b6), .val (.int (((p4.toUInt32 >>> ((4 : Int32) &&& 31).toUInt32).toInt32) &&& (3 : Int32))), .val .null, .val (.int (0 : Int32)), .unset, .unset] [])) _
      refine XS.aload X7.here hx rfl (hb hby at_279) rfl rfl ?_
      show Steps p.tables e below (T7.setTop (mkF m 281 #[.val (.long q0), .second, .val (.long q1), .second, .val (.long q2), .second, .val (.long q3), .second, .val (.int p4), .val (.long mn1_1), .second, .val (.long mx1_1), .second, .val (.int md_2), .val (.int ub_2), .val (.long mn2_3), .second, .val (.long mx2_3), .second, .val (.ref b4), .val (.ref b6), .val (.int (((p4.toUInt32 >>> ((4 : Int32) &&& 31).toUInt32).toInt32) &&& (3 : Int32))), .val .null, .val (.int (0 : Int32)), .unset, .unset] [(.ref b4)])) _
      refine XS.aload X7.here hx rfl (hb hby at_281) rfl rfl ?_
      show Steps p.tables e below (T7.setTop (mkF m 283 #[.val (.long q0), .second, .val (.long q1), .second, .val (.long q2), .second, .val (.long q3), .second, .val (.int p4), .val (.long mn1_1), .second, .val (.long mx1_1), .second, .val (.int md_2), .val (.int ub_2), .val (.long mn2_3), .second, .val (.long mx2_3), .second, .val (.ref b4), .val (.ref b6), .val (.int (((p4.toUInt32 >>> ((4 : Int32) &&& 31).toUInt32).toInt32) &&& (3 : Int32))), .val .null, .val (.int (0 : Int32)), .unset, .unset] [.null, (.ref b4)])) _
      refine st10.trans ?_
      show Steps p.tables e below (T10.setTop (mkF m 286 #[.val (.long q0), .second, .val (.long q1), .second, .val (.long q2), .second, .val (.long q3), .second, .val (.int p4), .val (.long mn1_1), .second, .val (.long mx1_1), .second, .val (.int md_2), .val (.int ub_2), .val (.long mn2_3), .second, .val (.long mx2_3), .second, .val (.ref b4), .val (.ref b6), .val (.int (((p4.toUInt32 >>> ((4 : Int32) &&& 31).toUInt32).toInt32) &&& (3 : Int32))), .val .null, .val (.int (0 : Int32)), .unset, .unset] [(.int (0 : Int32))])) _
      refine XS.istore X10.here hx rfl (hb hby at_286) rfl (l' := #[.val (.long q0), .second, .val (.long q1), .second, .val (.long q2), .second, .val (.long q3), .second, .val (.int p4), .val (.long mn1_1), .second, .val (.long mx1_1), .second, .val (.int md_2), .val (.int ub_2), .val (.long mn2_3), .second, .val (.long mx2_3), .second, .val (.ref b4), .val (.ref b6), .val (.int (((p4.toUInt32 >>> ((4 : Int32) &&& 31).toUInt32).toInt32) &&& (3 : Int32))), .val .null, .val (.int (0 : Int32)), .val (.int (0 : Int32)), .unset]) rfl ?_
      show Steps p.tables e below (T10.setTop (mkF m 288 #[.val (.long q0), .second, .val (.long q1), .second, .val (.long q2), .second, .val (.long q3), .second, .val (.int p4), .val (.long mn1_1), .second, .val (.long mx1_1), .second, .val (.int md_2), .val (.int ub_2), .val (.long mn2_3), .second, .val (.long mx2_3), .second, .val (.ref b4), .val (.ref b6), .val (.int (((p4.toUInt32 >>> ((4 : Int32) &&& 31).toUInt32).toInt32) &&& (3 : Int32))), .val .null, .val (.int (0 : Int32)), .val (.int (0 : Int32)), .unset] [])) _
      refine XS.iload X10.here hx rfl (hb hby at_288) rfl ?_
      show Steps p.tables e below (T10.setTop (mkF m 290 #[.val (.long q0), .second, .val (.long q1), .second, .val (.long q2), .second, .val (.long q3), .second, .val (.int p4), .val (.long mn1_1), .second, .val (.long mx1_1), .second, .val (.int md_2), .val (.int ub_2), .val (.long mn2_3), .second, .val (.long mx2_3), .second, .val (.ref b4), .val (.ref b6), .val (.int (((p4.toUInt32 >>> ((4 : Int32) &&& 31).toUInt32).toInt32) &&& (3 : Int32))), .val .null, .val (.int (0 : Int32)), .val (.int (0 : Int32)), .unset] [(.int (((p4.toUInt32 >>> ((4 : Int32) &&& 31).toUInt32).toInt32) &&& (3 : Int32)))])) _
      refine XS.iconst X10.here hx rfl (hb hby at_290) ?_
      show Steps p.tables e below (T10.setTop (mkF m 291 #[.val (.long q0), .second, .val (.long q1), .second, .val (.long q2), .second, .val (.long q3), .second, .val (.int p4), .val (.long mn1_1), .second, .val (.long mx1_1), .second, .val (.int md_2), .val (.int ub_2), .val (.long mn2_3), .second, .val (.long mx2_3), .second, .val (.ref b4), .val (.ref b6), .val (.int (((p4.toUInt32 >>> ((4 : Int32) &&& 31).toUInt32).toInt32) &&& (3 : Int32))), .val .null, .val (.int (0 : Int32)), .val (.int (0 : Int32)), .unset] [(.int (2 : Int32)), (.int (((p4.toUInt32 >>> ((4 : Int32) &&& 31).toUInt32).toInt32) &&& (3 : Int32)))])) _
      refine XS.icmpYes X10.here hx rfl (pc0 := 291) (pc' := 306) rfl (hb hby at_291) rfl (flt hk2).2.1 (by decide) (by decide) ?_
      show Steps p.tables e below (T10.setTop (mkF m 306 #[.val (.long q0), .second, .val (.long q1), .second, .val (.long q2), .second, .val (.long q3), .second, .val (.int p4), .val (.long mn1_1), .second, .val (.long mx1_1), .second, .val (.int md_2), .val (.int ub_2), .val (.long mn2_3), .second, .val (.long mx2_3), .second, .val (.ref b4), .val (.ref b6), .val (.int (((p4.toUInt32 >>> ((4 : Int32) &&& 31).toUInt32).toInt32) &&& (3 : Int32))), .val .null, .val (.int (0 : Int32)), .val (.int (0 : Int32)), .unset] [])) _
      refine XS.iconst X10.here hx rfl (hb hby at_306) ?_
      show Steps p.tables e below (T10.setTop (mkF m 307 #[.val (.long q0), .second, .val (.long q1), .second, .val (.long q2), .second, .val (.long q3), .second, .val (.int p4), .val (.long mn1_1), .second, .val (.long mx1_1), .second, .val (.int md_2), .val (.int ub_2), .val (.long mn2_3), .second, .val (.long mx2_3), .second, .val (.ref b4), .val (.ref b6), .val (.int (((p4.toUInt32 >>> ((4 : Int32) &&& 31).toUInt32).toInt32) &&& (3 : Int32))), .val .null, .val (.int (0 : Int32)), .val (.int (0 : Int32)), .unset] [(.int (1 : Int32))])) _
      refine XS.goto X10.here hx rfl (pc0 := 307) (pc' := 311) rfl (hb hby at_307) (by decide) (by decide) ?_
      show Steps p.tables e below (T10.setTop (mkF m 311 #[.val (.long q0), .second, .val (.long q1), .second, .val (.long q2), .second, .val (.long q3), .second, .val (.int p4), .val (.long mn1_1), .second, .val (.long mx1_1), .second, .val (.int md_2), .val (.int ub_2), .val (.long mn2_3), .second, .val (.long mx2_3), .second, .val (.ref b4), .val (.ref b6), .val (.int (((p4.toUInt32 >>> ((4 : Int32) &&& 31).toUInt32).toInt32) &&& (3 : Int32))), .val .null, .val (.int (0 : Int32)), .val (.int (0 : Int32)), .unset] [(.int (1 : Int32))])) _
      refine XS.istore X10.here hx rfl (hb hby at_311) rfl (l' := #[.val (.long q0), .second, .val (.long q1), .second, .val (.long q2), .second, .val (.long q3), .second, .val (.int p4), .val (.long mn1_1), .second, .val (.long mx1_1), .second, .val (.int md_2), .val (.int ub_2), .val (.long mn2_3), .second, .val (.long mx2_3), .second, .val (.ref b4), .val (.ref b6), .val (.int (((p4.toUInt32 >>> ((4 : Int32) &&& 31).toUInt32).toInt32) &&& (3 : Int32))), .val .null, .val (.int (0 : Int32)), .val (.int (0 : Int32)), .val (.int (1 : Int32))]) rfl ?_
      show Steps p.tables e below (T10.setTop (mkF m 313 #[.val (.long q0), .second, .val (.long q1), .second, .val (.long q2), .second, .val (.long q3), .second, .val (.int p4), .val (.long mn1_1), .second, .val (.long mx1_1), .second, .val (.int md_2), .val (.int ub_2), .val (.long mn2_3), .second, .val (.long mx2_3), .second, .val (.ref b4), .val (.ref b6), .val (.int (((p4.toUInt32 >>> ((4 : Int32) &&& 31).toUInt32).toInt32) &&& (3 : Int32))), .val .null, .val (.int (0 : Int32)), .val (.int (0 : Int32)), .val (.int (1 : Int32))] [])) _
      refine XS.iload X10.here hx rfl (hb hby at_313) rfl ?_
      show Steps p.tables e below (T10.setTop (mkF m 315 #[.val (.long q0), .second, .val (.long q1), .second, .val (.long q2), .second, .val (.long q3), .second, .val (.int p4), .val (.long mn1_1), .second, .val (.long mx1_1), .second, .val (.int md_2), .val (.int ub_2), .val (.long mn2_3), .second, .val (.long mx2_3), .second, .val (.ref b4), .val (.ref b6), .val (.int (((p4.toUInt32 >>> ((4 : Int32) &&& 31).toUInt32).toInt32) &&& (3 : Int32))), .val .null, .val (.int (0 : Int32)), .val (.int (0 : Int32)), .val (.int (1 : Int32))] [(.int (0 : Int32))])) _
      refine XS.iload X10.here hx rfl (hb hby at_315) rfl ?_
      show Steps p.tables e below (T10.setTop (mkF m 317 #[.val (.long q0), .second, .val (.long q1), .second, .val (.long q2), .second, .val (.long q3), .second, .val (.int p4), .val (.long mn1_1), .second, .val (.long mx1_1), .second, .val (.int md_2), .val (.int ub_2), .val (.long mn2_3), .second, .val (.long mx2_3), .second, .val (.ref b4), .val (.ref b6), .val (.int (((p4.toUInt32 >>> ((4 : Int32) &&& 31).toUInt32).toInt32) &&& (3 : Int32))), .val .null, .val (.int (0 : Int32)), .val (.int (0 : Int32)), .val (.int (1 : Int32))] [(.int (0 : Int32)), (.int (0 : Int32))])) _
      refine XS.icmpNo X10.here hx rfl (hb hby at_317) rfl (teq (by decide : (0 : Int32) = (0 : Int32))).2 ?_
      show Steps p.tables e below (T10.setTop (mkF m 320 #[.val (.long q0), .second, .val (.long q1), .second, .val (.long q2), .second, .val (.long q3), .second, .val (.int p4), .val (.long mn1_1), .second, .val (.long mx1_1), .second, .val (.int md_2), .val (.int ub_2), .val (.long mn2_3), .second, .val (.long mx2_3), .second, .val (.ref b4), .val (.ref b6), .val (.int (((p4.toUInt32 >>> ((4 : Int32) &&& 31).toUInt32).toInt32) &&& (3 : Int32))), .val .null, .val (.int (0 : Int32)), .val (.int (0 : Int32)), .val (.int (1 : Int32))] [])) _
      refine XS.iload X10.here hx rfl (hb hby at_320) rfl ?_
      show Steps p.tables e below (T10.setTop (mkF m 322 #[.val (.long q0), .second, .val (.long q1), .second, .val (.long q2), .second, .val (.long q3), .second, .val (.int p4), .val (.long mn1_1), .second, .val (.long mx1_1), .second, .val (.int md_2), .val (.int ub_2), .val (.long mn2_3), .second, .val (.long mx2_3), .second, .val (.ref b4), .val (.ref b6), .val (.int (((p4.toUInt32 >>> ((4 : Int32) &&& 31).toUInt32).toInt32) &&& (3 : Int32))), .val .null, .val (.int (0 : Int32)), .val (.int (0 : Int32)), .val (.int (1 : Int32))] [(.int (1 : Int32))])) _
      refine XS.ifNo X10.here hx rfl (hb hby at_322) rfl ((if0 _ _).trans (feq (by decide : ¬ ((1 : Int32) = (0 : Int32)))).1) ?_
      show Steps p.tables e below (T10.setTop (mkF m 325 #[.val (.long q0), .second, .val (.long q1), .second, .val (.long q2), .second, .val (.long q3), .second, .val (.int p4), .val (.long mn1_1), .second, .val (.long mx1_1), .second, .val (.int md_2), .val (.int ub_2), .val (.long mn2_3), .second, .val (.long mx2_3), .second, .val (.ref b4), .val (.ref b6), .val (.int (((p4.toUInt32 >>> ((4 : Int32) &&& 31).toUInt32).toInt32) &&& (3 : Int32))), .val .null, .val (.int (0 : Int32)), .val (.int (0 : Int32)), .val (.int (1 : Int32))] [])) _
      refine XS.aload X10.here hx rfl (hb hby at_325) rfl rfl ?_
      show Steps p.tables e below (T10.setTop (mkF m 327 #[.val (.long q0), .second, .val (.long q1), .second, .val (.long q2), .second, .val (.long q3), .second, .val (.int p4), .val (.long mn1_1), .second, .val (.long mx1_1), .second, .val (.int md_2), .val (.int ub_2), .val (.long mn2_3), .second, .val (.long mx2_3), .second, .val (.ref b4), .val (.ref b6), .val (.int (((p4.toUInt32 >>> ((4 : Int32) &&& 31).toUInt32).toInt32) &&& (3 : Int32))), .val .null, .val (.int (0 : Int32)), .val (.int (0 : Int32)), .val (.int (1 : Int32))] [(.ref b4)])) _
      refine XS.aload X10.here hx rfl (hb hby at_327) rfl rfl ?_
      show Steps p.tables e below (T10.setTop (mkF m 329 #[.val (.long q0), .second, .val (.long q1), .second, .val (.long q2), .second, .val (.long q3), .second, .val (.int p4), .val (.long mn1_1), .second, .val (.long mx1_1), .second, .val (.int md_2), .val (.int ub_2), .val (.long mn2_3), .second, .val (.long mx2_3), .second, .val (.ref b4), .val (.ref b6), .val (.int (((p4.toUInt32 >>> ((4 : Int32) &&& 31).toUInt32).toInt32) &&& (3 : Int32))), .val .null, .val (.int (0 : Int32)), .val (.int (0 : Int32)), .val (.int (1 : Int32))] [(.ref b4), (.ref b4)])) _
      refine st11.trans ?_
      show Steps p.tables e below (T11.setTop (mkF m 332 #[.val (.long q0), .second, .val (.long q1), .second, .val (.long q2), .second, .val (.long q3), .second, .val (.int p4), .val (.long mn1_1), .second, .val (.long mx1_1), .second, .val (.int md_2), .val (.int ub_2), .val (.long mn2_3), .second, .val (.long mx2_3), .second, .val (.ref b4), .val (.ref b6), .val (.int (((p4.toUInt32 >>> ((4 : Int32) &&& 31).toUInt32).toInt32) &&& (3 : Int32))), .val .null, .val (.int (0 : Int32)), .val (.int (0 : Int32)), .val (.int (1 : Int32))] [(.int (1 : Int32))])) _
      refine XS.ifNo X11.here hx rfl (hb hby at_332) rfl ((if0 _ _).trans (feq (by decide : ¬ ((1 : Int32) = (0 : Int32)))).1) ?_
      show Steps p.tables e below (T11.setTop (mkF m 335 #[.val (.long q0), .second, .val (.long q1), .second, .val (.long q2), .second, .val (.long q3), .second, .val (.int p4), .val (.long mn1_1), .second, .val (.long mx1_1), .second, .val (.int md_2), .val (.int ub_2), .val (.long mn2_3), .second, .val (.long mx2_3), .second, .val (.ref b4), .val (.ref b6), .val (.int (((p4.toUInt32 >>> ((4 : Int32) &&& 31).toUInt32).toInt32) &&& (3 : Int32))), .val .null, .val (.int (0 : Int32)), .val (.int (0 : Int32)), .val (.int (1 : Int32))] [])) _
      refine XS.iconst X11.here hx rfl (hb hby at_335) ?_
      show Steps p.tables e below (T11.setTop (mkF m 336 #[.val (.long q0), .second, .val (.long q1), .second, .val (.long q2), .second, .val (.long q3), .second, .val (.int p4), .val (.long mn1_1), .second, .val (.long mx1_1), .second, .val (.int md_2), .val (.int ub_2), .val (.long mn2_3), .second, .val (.long mx2_3), .second, .val (.ref b4), .val (.ref b6), .val (.int (((p4.toUInt32 >>> ((4 : Int32) &&& 31).toUInt32).toInt32) &&& (3 : Int32))), .val .null, .val (.int (0 : Int32)), .val (.int (0 : Int32)), .val (.int (1 : Int32))] [(.int (1 : Int32))])) _
      refine XS.goto X11.here hx rfl (pc0 := 336) (pc' := 340) rfl (hb hby at_336) (by decide) (by decide) ?_
      show Steps p.tables e below (T11.setTop (mkF m 340 #[.val (.long q0), .second, .val (.long q1), .second, .val (.long q2), .second, .val (.long q3), .second, .val (.int p4), .val (.long mn1_1), .second, .val (.long mx1_1), .second, .val (.int md_2), .val (.int ub_2), .val (.long mn2_3), .second, .val (.long mx2_3), .second, .val (.ref b4), .val (.ref b6), .val (.int (((p4.toUInt32 >>> ((4 : Int32) &&& 31).toUInt32).toInt32) &&& (3 : Int32))), .val .null, .val (.int (0 : Int32)), .val (.int (0 : Int32)), .val (.int (1 : Int32))] [(.int (1 : Int32))])) _
      exact retN X11 hx (t := .boolean) Bd.returns (by simp) (hb hby at_340) hr
    · show Q_rm0 n0 _ T11.heap _
      rw [e11]
      exact ⟨rfl, N11⟩
  · have pre13 : ∀ t, Steps p.tables e below (T7.setTop (mkF m 236 #[.val (.long q0), .second, .val (.long q1), .second, .val (.long q2), .second, .val (.long q3), .second, .val (.int p4), .val (.long mn1_1), .second, .val (.long mx1_1), .second, .val (.int md_2), .val (.int ub_2), .val (.long mn2_3), .second, .val (.long mx2_3), .second, .val (.ref b4), .val (.ref b6), .val (.int (((p4.toUInt32 >>> ((4 : Int32) &&& 31).toUInt32).toInt32) &&& (3 : Int32))), .unset, .unset, .unset, .unset] [(.int (3 : Int32)), (.int (((p4.toUInt32 >>> ((4 : Int32) &&& 31).toUInt32).toInt32) &&& (3 : Int32)))])) t → Steps p.tables e below (s₁.setTop (entryFrame m #[(.long q0), (.long q1), (.long q2), (.long q3), (.int p4)] maxLocals)) t := fun t kt => by
      refine pre9 t ?_
      show Steps p.tables e below (T7.setTop (mkF m 221 #[.val (.long q0), .second, .val (.long q1), .second, .val (.long q2), .second, .val (.long q3), .second, .val (.int p4), .val (.long mn1_1), .second, .val (.long mx1_1), .second, .val (.int md_2), .val (.int ub_2), .val (.long mn2_3), .second, .val (.long mx2_3), .second, .val (.ref b4), .val (.ref b6), .val (.int (((p4.toUInt32 >>> ((4 : Int32) &&& 31).toUInt32).toInt32) &&& (3 : Int32))), .unset, .unset, .unset, .unset] [(.int (2 : Int32)), (.int (((p4.toUInt32 >>> ((4 : Int32) &&& 31).toUInt32).toInt32) &&& (3 : Int32)))])) _
      refine XS.icmpYes X7.here hx rfl (pc0 := 221) (pc' := 233) rfl (hb hby at_221) rfl (feq hc221_8).2 (by decide) (by decide) ?_
      show Steps p.tables e below (T7.setTop (mkF m 233 #[.val (.long q0), .second, .val (.long q1), .second, .val (.long q2), .second, .val (.long q3), .second, .val (.int p4), .val (.long mn1_1), .second, .val (.long mx1_1), .second, .val (.int md_2), .val (.int ub_2), .val (.long mn2_3), .second, .val (.long mx2_3), .second, .val (.ref b4), .val (.ref b6), .val (.int (((p4.toUInt32 >>> ((4 : Int32) &&& 31).toUInt32).toInt32) &&& (3 : Int32))), .unset, .unset, .unset, .unset] [])) _
      refine XS.iload X7.here hx rfl (hb hby at_233) rfl ?_
      show Steps p.tables e below (T7.setTop (mkF m 235 #[.val (.long q0), .second, .val (.long q1), .second, .val (.long q2), .second, .val (.long q3), .second, .val (.int p4), .val (.long mn1_1), .second, .val (.long mx1_1), .second, .val (.int md_2), .val (.int ub_2), .val (.long mn2_3), .second, .val (.long mx2_3), .second, .val (.ref b4), .val (.ref b6), .val (.int (((p4.toUInt32 >>> ((4 : Int32) &&& 31).toUInt32).toInt32) &&& (3 : Int32))), .unset, .unset, .unset, .unset] [(.int (((p4.toUInt32 >>> ((4 : Int32) &&& 31).toUInt32).toInt32) &&& (3 : Int32)))])) _
      refine XS.iconst X7.here hx rfl (hb hby at_235) ?_
      exact kt
    by_cases hc236_12 : (((p4.toUInt32 >>> ((4 : Int32) &&& 31).toUInt32).toInt32) &&& (3 : Int32)) = (3 : Int32)
    · obtain ⟨_, _, ⟨T14, L14, k14, n14⟩, -, X14, ⟨Lc14, hQ14, l14, y14, z14⟩, st14⟩ := Jvm.LawKit.callS X7 hx (y := MN_6) hown (mvT hZ (Wd hw 28 rfl)) (mvT hZ (Wd hw 29 rfl)) (mvT hZ (Wd hw 30 rfl)) (mvT hZ (Wd hw 31 rfl)) (by decide) (backOf (W := 0) (rmVal l Z a0 hw [] aC kC vC (mn1_1) (T7.heap) n0 O7 GL) hZ (Wd hw 31 rfl) (Wd hw 30 rfl) (by decide) (by decide)) (g := (mkF m 241 #[.val (.long q0), .second, .val (.long q1), .second, .val (.long q2), .second, .val (.long q3), .second, .val (.int p4), .val (.long mn1_1), .second, .val (.long mx1_1), .second, .val (.int md_2), .val (.int ub_2), .val (.long mn2_3), .second, .val (.long mx2_3), .second, .val (.ref b4), .val (.ref b6), .val (.int (((p4.toUInt32 >>> ((4 : Int32) &&& 31).toUInt32).toInt32) &&& (3 : Int32))), .unset, .unset, .unset, .unset] [(.long mn1_1)])) rfl (by rw [hml]; rfl) (argsL := [(.long mn1_1)]) (rest := []) (lenOf pdv5 rfl) rfl (by show 2 * 0 + _ ≤ _; exact Nat.le_of_eq rfl) (hb hby at_241) (fun _ _ => ⟨rfl, rfl, (by decide : 2 + 1 ≤ _), (by decide : 4 + 1 ≤ _)⟩)
      dsimp only [Pt.U, Pt.locs, Pt.cells, Pt.slots] at X14 l14 y14 z14 st14 hQ14
      subst l14 y14 z14
      obtain ⟨b_14, rfl, N14q, Kc14, P14_0⟩ := hQ14
      have O14 := O7.keep Kc14 all0
      have N14 := Fr.app N7 N14q
      have hk2 : ¬ ((((p4.toUInt32 >>> ((4 : Int32) &&& 31).toUInt32).toInt32) &&& (3 : Int32)) < (2 : Int32)) := (by rw [hc236_12]; decide)
      obtain ⟨cq15, kq15, q15a, q15b, q15c⟩ := isOf hZ rfl (((P5_0.ext E6).keep Kc7).keep Kc14)
      obtain ⟨_, _, ⟨T15, L15, k15, n15⟩, -, X15, ⟨Lc15, hQ15, l15, y15, z15⟩, st15⟩ := X14.virtualBack hx (y := MN_7) (z := MN_7) hown (mvT hZ (Wd hw 21 rfl)) (mvT hZ (Wd hw 22 rfl)) (notFace_of_selects (args := #[]) (mvT hZ (Wd hw 24 rfl))) (mvT hZ (Wd hw 24 rfl)) (mvT hZ (Wd hw 23 rfl)) (by decide) (backOf (W := 0) (rmEq_long l Z a0 hw [] aC kC vC (b4) (b_14) (T14.heap) n0 O14 GL P14_0) hZ (Wd hw 25 rfl) (Wd hw 4 rfl) (by decide) (by decide)) q15a q15c (g := (mkF m 283 #[.val (.long q0), .second, .val (.long q1), .second, .val (.long q2), .second, .val (.long q3), .second, .val (.int p4), .val (.long mn1_1), .second, .val (.long mx1_1), .second, .val (.int md_2), .val (.int ub_2), .val (.long mn2_3), .second, .val (.long mx2_3), .second, .val (.ref b4), .val (.ref b6), .val (.int (((p4.toUInt32 >>> ((4 : Int32) &&& 31).toUInt32).toInt32) &&& (3 : Int32))), .val (.ref b_14), .val (.int (0 : Int32)), .unset, .unset] [(.ref b_14), (.ref b4)])) rfl (by rw [hml]; rfl) (Steps.refl _) (argsL := [(.ref b_14)]) (rest := []) (lenOf pdv4 rfl) rfl (by show 2 * 0 + _ ≤ _; exact Nat.le_of_eq rfl) (hb hby at_283) (fun _ _ => ⟨rfl, rfl, (by decide : 3 + 0 ≤ _), (by decide : 5 + 0 ≤ _)⟩)
      dsimp only [Pt.U, Pt.locs, Pt.cells, Pt.slots] at X15 l15 y15 z15 st15 hQ15
      subst l15 y15 z15
      obtain ⟨rfl, N15q, e15⟩ := hQ15
      have N15 := Fr.app N14 N15q
      obtain ⟨cq16, kq16, q16a, q16b, q16c⟩ := isOf hZ e15 (((P5_0.ext E6).keep Kc7).keep Kc14)
      obtain ⟨_, _, ⟨T16, L16, k16, n16⟩, -, X16, ⟨Lc16, hQ16, l16, y16, z16⟩, st16⟩ := X15.virtualBack hx (y := MN_7) (z := MN_7) hown (mvT hZ (Wd hw 21 rfl)) (mvT hZ (Wd hw 22 rfl)) (notFace_of_selects (args := #[]) (mvT hZ (Wd hw 24 rfl))) (mvT hZ (Wd hw 24 rfl)) (mvT hZ (Wd hw 23 rfl)) (by decide) (backOf (W := 0) (rmEq_yes l Z a0 hw [] aC kC vC (b4) (b4) (mn1_1) (mx1_1) (mn1_1) (mx1_1) (T14.heap) n0 O14 GL (((P5_1.ext E6).keep Kc7 (ninS (Nat.ne_of_lt (Nat.lt_of_lt_of_le (Nat.lt_of_lt_of_le A4.lt Kc5.1) (Nat.le_of_eq g6.symm))) nin0)).keep Kc14 nin0) (((P5_2.ext E6).keep Kc7 (ninS (Nat.ne_of_lt (Nat.lt_of_lt_of_le (Nat.lt_of_lt_of_le A4.lt Kc5.1) (Nat.le_of_eq g6.symm))) nin0)).keep Kc14 nin0) (((P5_0.ext E6).keep Kc7).keep Kc14) (((P5_1.ext E6).keep Kc7 (ninS (Nat.ne_of_lt (Nat.lt_of_lt_of_le (Nat.lt_of_lt_of_le A4.lt Kc5.1) (Nat.le_of_eq g6.symm))) nin0)).keep Kc14 nin0) (((P5_2.ext E6).keep Kc7 (ninS (Nat.ne_of_lt (Nat.lt_of_lt_of_le (Nat.lt_of_lt_of_le A4.lt Kc5.1) (Nat.le_of_eq g6.symm))) nin0)).keep Kc14 nin0) rfl rfl) hZ (Wd hw 25 rfl) (Wd hw 4 rfl) (by decide) (by decide)) q16a q16c (g := (mkF m 329 #[.val (.long q0), .second, .val (.long q1), .second, .val (.long q2), .second, .val (.long q3), .second, .val (.int p4), .val (.long mn1_1), .second, .val (.long mx1_1), .second, .val (.int md_2), .val (.int ub_2), .val (.long mn2_3), .second, .val (.long mx2_3), .second, .val (.ref b4), .val (.ref b6), .val (.int (((p4.toUInt32 >>> ((4 : Int32) &&& 31).toUInt32).toInt32) &&& (3 : Int32))), .val (.ref b_14), .val (.int (0 : Int32)), .val (.int (0 : Int32)), .val (.int (1 : Int32))] [(.ref b4), (.ref b4)])) rfl (by rw [hml]; rfl) (Steps.refl _) (argsL := [(.ref b4)]) (rest := []) (lenOf pdv4 rfl) rfl (by show 2 * 0 + _ ≤ _; exact Nat.le_of_eq rfl) (hb hby at_329) (fun _ _ => ⟨rfl, e15, (by decide : 3 + 0 ≤ _), (by decide : 5 + 0 ≤ _)⟩)
      dsimp only [Pt.U, Pt.locs, Pt.cells, Pt.slots] at X16 l16 y16 z16 st16 hQ16
      subst l16 y16 z16
      obtain ⟨rfl, N16q, e16⟩ := hQ16
      have N16 := Fr.app N15 N16q
      obtain ⟨fs, hr, hrun, hended, hW, hsame⟩ := X16.leave (v := some (.int (1 : Int32))) (fun h => by rw [Bd.returns] at h; cases h)
      refine ⟨_, _, pre13 _ ?_, hrun, hended, _, _, rfl, ?_, ⟨_, rfl⟩, hW, hsame.mono (by decide) (by decide)⟩
      · show Steps p.tables e below (T7.setTop (mkF m 236 #[.val (.long q0), .second, .val (.long q1), .second, .val (.long q2), .second, .val (.long q3), .second, .val (.int p4), .val (.long mn1_1), .second, .val (.long mx1_1), .second, .val (.int md_2), .val (.int ub_2), .val (.long mn2_3), .second, .val (.long mx2_3), .second, .val (.ref b4), .val (.ref b6), .val (.int (((p4.toUInt32 >>> ((4 : Int32) &&& 31).toUInt32).toInt32) &&& (3 : Int32))), .unset, .unset, .unset, .unset] [(.int (3 : Int32)), (.int (((p4.toUInt32 >>> ((4 : Int32) &&& 31).toUInt32).toInt32) &&& (3 : Int32)))])) _
        refine XS.icmpNo X7.here hx rfl (hb hby at_236) rfl (teq hc236_12).2 ?_
        show Steps p.tables e below (T7.setTop (mkF m 239 #[.val (.long q0), .second, .val (.long q1), .second, .val (.long q2), .second, .val (.long q3), .second, .val (.int p4), .val (.long mn1_1), .second, .val (.long mx1_1), .second, .val (.int md_2), .val (.int ub_2), .val (.long mn2_3), .second, .val (.long mx2_3), .second, .val (.ref b4), .val (.ref b6), .val (.int (((p4.toUInt32 >>> ((4 : Int32) &&& 31).toUInt32).toInt32) &&& (3 : Int32))), .unset, .unset, .unset, .unset] [])) _
        refine XS.lload X7.here hx rfl (hb hby at_239) rfl ?_
        show Steps p.tables e below (T7.setTop (mkF m 241 #[.val (.long q0), .second, .val (.long q1), .second, .val (.long q2), .second, .val (.long q3), .second, .val (.int p4), .val (.long mn1_1), .second, .val (.long mx1_1), .second, .val (.int md_2), .val (.int ub_2), .val (.long mn2_3), .second, .val (.long mx2_3), .second, .val (.ref b4), .val (.ref b6), .val (.int (((p4.toUInt32 >>> ((4 : Int32) &&& 31).toUInt32).toInt32) &&& (3 : Int32))), .unset, .unset, .unset, .unset] [(.long mn1_1)])) _
        refine st14 _ ?_
        show Steps p.tables e below (T14.setTop (mkF m 244 #[.val (.long q0), .second, .val (.long q1), .second, .val (.long q2), .second, .val (.long q3), .second, .val (.int p4), .val (.long mn1_1), .second, .val (.long mx1_1), .second, .val (.int md_2), .val (.int ub_2), .val (.long mn2_3), .second, .val (.long mx2_3), .second, .val (.ref b4), .val (.ref b6), .val (.int (((p4.toUInt32 >>> ((4 : Int32) &&& 31).toUInt32).toInt32) &&& (3 : Int32))), .unset, .unset, .unset, .unset] [(.ref b_14)])) _
        refine XS.astore X14.here hx rfl (hb hby at_244) rfl rfl (l' := #[.val (.long q0), .second, .val (.long q1), .second, .val (.long q2), .second, .val (.long q3), .second, .val (.int p4), .val (.long mn1_1), .second, .val (.long mx1_1), .second, .val (.int md_2), .val (.int ub_2), .val (.long mn2_3), .second, .val (.long mx2_3), .second, .val (.ref b4), .val (.ref b6), .val (.int (((p4.toUInt32 >>> ((4 : Int32) &&& 31).toUInt32).toInt32) &&& (3 : Int32))), .val (.ref b_14), .unset, .unset, .unset]) rfl ?_
        show Steps p.tables e below (T14.setTop (mkF m 246 #[.val (.long q0), .second, .val (.long q1), .second, .val (.long q2), .second, .val (.long q3), .second, .val (.int p4), .val (.long mn1_1), .second, .val (.long mx1_1), .second, .val (.int md_2), .val (.int ub_2), .val (.long mn2_3), .second, .val (.long mx2_3), .second, .val (.ref b4), .val (.ref b6), .val (.int (((p4.toUInt32 >>> ((4 : Int32) &&& 31).toUInt32).toInt32) &&& (3 : Int32))), .val (.ref b_14), .unset, .unset, .unset] [])) _
        refine XS.iconst X14.here hx rfl (hb hby at_246) ?_
        show Steps p.tables e below (T14.setTop (mkF m 247 #[.val (.long q0), .second, .val (.long q1), .second, .val (.long q2), .second, .val (.long q3), .second, .val (.int p4), .val (.long mn1_1), .second, .val (.long mx1_1), .second, .val (.int md_2), .val (.int ub_2), .val (.long mn2_3), .second, .val (.long mx2_3), .second, .val (.ref b4), .val (.ref b6), .val (.int (((p4.toUInt32 >>> ((4 : Int32) &&& 31).toUInt32).toInt32) &&& (3 : Int32))), .val (.ref b_14), .unset, .unset, .unset] [(.int (0 : Int32))])) _
        refine XS.istore X14.here hx rfl (hb hby at_247) rfl (l' := #[.val (.long q0), .second, .val (.long q1), .second, .val (.long q2), .second, .val (.long q3), .second, .val (.int p4), .val (.long mn1_1), .second, .val (.long mx1_1), .second, .val (.int md_2), .val (.int ub_2), .val (.long mn2_3), .second, .val (.long mx2_3), .second, .val (.ref b4), .val (.ref b6), .val (.int (((p4.toUInt32 >>> ((4 : Int32) &&& 31).toUInt32).toInt32) &&& (3 : Int32))), .val (.ref b_14), .val (.int (0 : Int32)), .unset, .unset]) rfl ?_
        show Steps p.tables e below (T14.setTop (mkF m 249 #[.val (.long q0), .second, .val (.long q1), .second, .val (.long q2), .second, .val (.long q3), .second, .val (.int p4), .val (.long mn1_1), .second, .val (.long mx1_1), .second, .val (.int md_2), .val (.int ub_2), .val (.long mn2_3), .second, .val (.long mx2_3), .second, .val (.ref b4), .val (.ref b6), .val (.int (((p4.toUInt32 >>> ((4 : Int32) &&& 31).toUInt32).toInt32) &&& (3 : Int32))), .val (.ref b_14), .val (.int (0 : Int32)), .unset, .unset] [])) _
        refine XS.goto X14.here hx rfl (pc0 := 249) (pc' := 279) rfl (hb hby at_249) (by decide) (by decide) ?_
        show Steps p.tables e below (T14.setTop (mkF m 279 #[.val (.long q0), .second, .val (.long q1), .second, .val (.long q2), .second, .val (.long q3), .second, .val (.int p4), .val (.long mn1_1), .second, .val (.long mx1_1), .second, .val (.int md_2), .val (.int ub_2), .val (.long mn2_3), .second, .val (.long mx2_3), .second, .val (.ref b4), .val (.ref b6), .val (.int (((p4.toUInt32 >>> ((4 : Int32) &&& 31).toUInt32).toInt32) &&& (3 : Int32))), .val (.ref b_14), .val (.int (0 : Int32)), .unset, .unset] [])) _
        refine XS.aload X14.here hx rfl (hb hby at_279) rfl rfl ?_
        show Steps p.tables e below (T14.setTop (mkF m 281 #[.val (.long q0), .second, .val (.long q1), .second, .val (.long q2), .second, .val (.long q3), .second, .val (.int p4), .val (.long mn1_1), .second, .val (.long mx1_1), .second, .val (.int md_2), .val (.int ub_2), .val (.long mn2_3), .second, .val (.long mx2_3), .second, .val (.ref b4), .val (.ref b6), .val (.int (((p4.toUInt32 >>> ((4 : Int32) &&& 31).toUInt32).toInt32) &&& (3 : Int32))), .val (.ref b_14), .val (.int (0 : Int32)), .unset, .unset] [(.ref b4)])) _
        refine XS.aload X14.here hx rfl (hb hby at_281) rfl rfl ?_
        show Steps p.tables e below (T14.setTop (mkF m 283 #[.val (.long q0), .second, .val (.long q1), .second, .val (.long q2), .second, .val (.long q3), .second, .val (.int p4), .val (.long mn1_1), .second, .val (.long mx1_1), .second, .val (.int md_2), .val (.int ub_2), .val (.long mn2_3), .second, .val (.long mx2_3), .second, .val (.ref b4), .val (.ref b6), .val (.int (((p4.toUInt32 >>> ((4 : Int32) &&& 31).toUInt32).toInt32) &&& (3 : Int32))), .val (.ref b_14), .val (.int (0 : Int32)), .unset, .unset] [(.ref b_14), (.ref b4)])) _
        refine st15.trans ?_
        show Steps p.tables e below (T15.setTop (mkF m 286 #[.val (.long q0), .second, .val (.long q1), .second, .val (.long q2), .second, .val (.long q3), .second, .val (.int p4), .val (.long mn1_1), .second, .val (.long mx1_1), .second, .val (.int md_2), .val (.int ub_2), .val (.long mn2_3), .second, .val (.long mx2_3), .second, .val (.ref b4), .val (.ref b6), .val (.int (((p4.toUInt32 >>> ((4 : Int32) &&& 31).toUInt32).toInt32) &&& (3 : Int32))), .val (.ref b_14), .val (.int (0 : Int32)), .unset, .unset] [(.int (0 : Int32))])) _
        refine XS.istore X15.here hx rfl (hb hby at_286) rfl (l' := #[.val (.long q0), .second, .val (.long q1), .second, .val (.long q2), .second, .val (.long q3), .second, .val (.int p4), .val (.long mn1_1), .second, .val (.long mx1_1), .second, .val (.int md_2), .val (.int ub_2), .val (.long mn2_3), .second, .val (.long mx2_3), .second, .val (.ref b4), .val (.ref b6), .val (.int (((p4.toUInt32 >>> ((4 : Int32) &&& 31).toUInt32).toInt32) &&& (3 : Int32))), .val (.ref b_14), .val (.int (0 : Int32)), .val (.int (0 : Int32)), .unset]) rfl ?_
        show Steps p.tables e below (T15.setTop (mkF m 288 #[.val (.long q0), .second, .val (.long q1), .second, .val (.long q2), .second, .val (.long q3), .second, .val (.int p4), .val (.long mn1_1), .second, .val (.long mx1_1), .second, .val (.int md_2), .val (.int ub_2), .val (.long mn2_3), .second, .val (.long mx2_3), .second, .val (.ref b4), .val (.ref b6), .val (.int (((p4.toUInt32 >>> ((4 : Int32) &&& 31).toUInt32).toInt32) &&& (3 : Int32))), .val (.ref b_14), .val (.int (0 : Int32)), .val (.int (0 : Int32)), .unset] [])) _
        refine XS.iload X15.here hx rfl (hb hby at_288) rfl ?_
        show Steps p.tables e below (T15.setTop (mkF m 290 #[.val (.long q0), .second, .val (.long q1), .second, .val (.long q2), .second, .val (.long q3), .second, .val (.int p4), .val (.long mn1_1), .second, .val (.long mx1_1), .second, .val (.int md_2), .val (.int ub_2), .val (.long mn2_3), .second, .val (.long mx2_3), .second, .val (.ref b4), .val (.ref b6), .val (.int (((p4.toUInt32 >>> ((4 : Int32) &&& 31).toUInt32).toInt32) &&& (3 : Int32))), .val (.ref b_14), .val (.int (0 : Int32)), .val (.int (0 : Int32)), .unset] [(.int (((p4.toUInt32 >>> ((4 : Int32) &&& 31).toUInt32).toInt32) &&& (3 : Int32)))])) _
        refine XS.iconst X15.here hx rfl (hb hby at_290) ?_
        show Steps p.tables e below (T15.setTop (mkF m 291 #[.val (.long q0), .second, .val (.long q1), .second, .val (.long q2), .second, .val (.long q3), .second, .val (.int p4), .val (.long mn1_1), .second, .val (.long mx1_1), .second, .val (.int md_2), .val (.int ub_2), .val (.long mn2_3), .second, .val (.long mx2_3), .second, .val (.ref b4), .val (.ref b6), .val (.int (((p4.toUInt32 >>> ((4 : Int32) &&& 31).toUInt32).toInt32) &&& (3 : Int32))), .val (.ref b_14), .val (.int (0 : Int32)), .val (.int (0 : Int32)), .unset] [(.int (2 : Int32)), (.int (((p4.toUInt32 >>> ((4 : Int32) &&& 31).toUInt32).toInt32) &&& (3 : Int32)))])) _
        refine XS.icmpYes X15.here hx rfl (pc0 := 291) (pc' := 306) rfl (hb hby at_291) rfl (flt hk2).2.1 (by decide) (by decide) ?_
        show Steps p.tables e below (T15.setTop (mkF m 306 #[.val (.long q0), .second, .val (.long q1), .second, .val (.long q2), .second, .val (.long q3), .second, .val (.int p4), .val (.long mn1_1), .second, .val (.long mx1_1), .second, .val (.int md_2), .val (.int ub_2), .val (.long mn2_3), .second, .val (.long mx2_3), .second, .val (.ref b4), .val (.ref b6), .val (.int (((p4.toUInt32 >>> ((4 : Int32) &&& 31).toUInt32).toInt32) &&& (3 : Int32))), .val (.ref b_14), .val (.int (0 : Int32)), .val (.int (0 : Int32)), .unset] [])) _
        refine XS.iconst X15.here hx rfl (hb hby at_306) ?_
        show Steps p.tables e below (T15.setTop (mkF m 307 #[.val (.long q0), .second, .val (.long q1), .second, .val (.long q2), .second, .val (.long q3), .second, .val (.int p4), .val (.long mn1_1), .second, .val (.long mx1_1), .second, .val (.int md_2), .val (.int ub_2), .val (.long mn2_3), .second, .val (.long mx2_3), .second, .val (.ref b4), .val (.ref b6), .val (.int (((p4.toUInt32 >>> ((4 : Int32) &&& 31).toUInt32).toInt32) &&& (3 : Int32))), .val (.ref b_14), .val (.int (0 : Int32)), .val (.int (0 : Int32)), .unset] [(.int (1 : Int32))])) _
        refine XS.goto X15.here hx rfl (pc0 := 307) (pc' := 311) rfl (hb hby at_307) (by decide) (by decide) ?_
        show Steps p.tables e below (T15.setTop (mkF m 311 #[.val (.long q0), .second, .val (.long q1), .second, .val (.long q2), .second, .val (.long q3), .second, .val (.int p4), .val (.long mn1_1), .second, .val (.long mx1_1), .second, .val (.int md_2), .val (.int ub_2), .val (.long mn2_3), .second, .val (.long mx2_3), .second, .val (.ref b4), .val (.ref b6), .val (.int (((p4.toUInt32 >>> ((4 : Int32) &&& 31).toUInt32).toInt32) &&& (3 : Int32))), .val (.ref b_14), .val (.int (0 : Int32)), .val (.int (0 : Int32)), .unset] [(.int (1 : Int32))])) _
        refine XS.istore X15.here hx rfl (hb hby at_311) rfl (l' := #[.val (.long q0), .second, .val (.long q1), .second, .val (.long q2), .second, .val (.long q3), .second, .val (.int p4), .val (.long mn1_1), .second, .val (.long mx1_1), .second, .val (.int md_2), .val (.int ub_2), .val (.long mn2_3), .second, .val (.long mx2_3), .second, .val (.ref b4), .val (.ref b6), .val (.int (((p4.toUInt32 >>> ((4 : Int32) &&& 31).toUInt32).toInt32) &&& (3 : Int32))), .val (.ref b_14), .val (.int (0 : Int32)), .val (.int (0 : Int32)), .val (.int (1 : Int32))]) rfl ?_
        show Steps p.tables e below (T15.setTop (mkF m 313 #[.val (.long q0), .second, .val (.long q1), .second, .val (.long q2), .second, .val (.long q3), .second, .val (.int p4), .val (.long mn1_1), .second, .val (.long mx1_1), .second, .val (.int md_2), .val (.int ub_2), .val (.long mn2_3), .second, .val (.long mx2_3), .second, .val (.ref b4), .val (.ref b6), .val (.int (((p4.toUInt32 >>> ((4 : Int32) &&& 31).toUInt32).toInt32) &&& (3 : Int32))), .val (.ref b_14), .val (.int (0 : Int32)), .val (.int (0 : Int32)), .val (.int (1 : Int32))] [])) _
        refine XS.iload X15.here hx rfl (hb hby at_313) rfl ?_
        show Steps p.tables e below (T15.setTop (mkF m 315 #[.val (.long q0), .second, .val (.long q1), .second, .val (.long q2), .second, .val (.long q3), .second, .val (.int p4), .val (.long mn1_1), .second, .val (.long mx1_1), .second, .val (.int md_2), .val (.int ub_2), .val (.long mn2_3), .second, .val (.long mx2_3), .second, .val (.ref b4), .val (.ref b6), .val (.int (((p4.toUInt32 >>> ((4 : Int32) &&& 31).toUInt32).toInt32) &&& (3 : Int32))), .val (.ref b_14), .val (.int (0 : Int32)), .val (.int (0 : Int32)), .val (.int (1 : Int32))] [(.int (0 : Int32))])) _
        refine XS.iload X15.here hx rfl (hb hby at_315) rfl ?_
        show Steps p.tables e below (T15.setTop (mkF m 317 #[.val (.long q0), .second, .val (.long q1), .second, .val (.long q2), .second, .val (.long q3), .second, .val (.int p4), .val (.long mn1_1), .second, .val (.long mx1_1), .second, .val (.int md_2), .val (.int ub_2), .val (.long mn2_3), .second, .val (.long mx2_3), .second, .val (.ref b4), .val (.ref b6), .val (.int (((p4.toUInt32 >>> ((4 : Int32) &&& 31).toUInt32).toInt32) &&& (3 : Int32))), .val (.ref b_14), .val (.int (0 : Int32)), .val (.int (0 : Int32)), .val (.int (1 : Int32))] [(.int (0 : Int32)), (.int (0 : Int32))])) _
        refine XS.icmpNo X15.here hx rfl (hb hby at_317) rfl (teq (by decide : (0 : Int32) = (0 : Int32))).2 ?_
        show Steps p.tables e below (T15.setTop (mkF m 320 #[.val (.long q0), .second, .val (.long q1), .second, .val (.long q2), .second, .val (.long q3), .second, .val (.int p4), .val (.long mn1_1), .second, .val (.long mx1_1), .second, .val (.int md_2), .val (.int ub_2), .val (.long mn2_3), .second, .val (.long mx2_3), .second, .val (.ref b4), .val (.ref b6), .val (.int (((p4.toUInt32 >>> ((4 : Int32) &&& 31).toUInt32).toInt32) &&& (3 : Int32))), .val (.ref b_14), .val (.int (0 : Int32)), .val (.int (0 : Int32)), .val (.int (1 : Int32))] [])) _
        refine XS.iload X15.here hx rfl (hb hby at_320) rfl ?_
        show Steps p.tables e below (T15.setTop (mkF m 322 #[.val (.long q0), .second, .val (.long q1), .second, .val (.long q2), .second, .val (.long q3), .second, .val (.int p4), .val (.long mn1_1), .second, .val (.long mx1_1), .second, .val (.int md_2), .val (.int ub_2), .val (.long mn2_3), .second, .val (.long mx2_3), .second, .val (.ref b4), .val (.ref b6), .val (.int (((p4.toUInt32 >>> ((4 : Int32) &&& 31).toUInt32).toInt32) &&& (3 : Int32))), .val (.ref b_14), .val (.int (0 : Int32)), .val (.int (0 : Int32)), .val (.int (1 : Int32))] [(.int (1 : Int32))])) _
        refine XS.ifNo X15.here hx rfl (hb hby at_322) rfl ((if0 _ _).trans (feq (by decide : ¬ ((1 : Int32) = (0 : Int32)))).1) ?_
        show Steps p.tables e below (T15.setTop (mkF m 325 #[.val (.long q0), .second, .val (.long q1), .second, .val (.long q2), .second, .val (.long q3), .second, .val (.int p4), .val (.long mn1_1), .second, .val (.long mx1_1), .second, .val (.int md_2), .val (.int ub_2), .val (.long mn2_3), .second, .val (.long mx2_3), .second, .val (.ref b4), .val (.ref b6), .val (.int (((p4.toUInt32 >>> ((4 : Int32) &&& 31).toUInt32).toInt32) &&& (3 : Int32))), .val (.ref b_14), .val (.int (0 : Int32)), .val (.int (0 : Int32)), .val (.int (1 : Int32))] [])) _
        refine XS.aload X15.here hx rfl (hb hby at_325) rfl rfl ?_
        show Steps p.tables e below (T15.setTop (mkF m 327 #[.val (.long q0), .second, .val (.long q1), .second, .val (.long q2), .second, .val (.long q3), .second, .val (.int p4), .val (.long mn1_1), .second, .val (.long mx1_1), .second, .val (.int md_2), .val (.int ub_2), .val (.long mn2_3), .second, .val (.long mx2_3), .second, .val (.ref b4), .val (.ref b6), .val (.int (((p4.toUInt32 >>> ((4 : Int32) &&& 31).toUInt32).toInt32) &&& (3 : Int32))), .val (.ref b_14), .val (.int (0 : Int32)), .val (.int (0 : Int32)), .val (.int (1 : Int32))] [(.ref b4)])) _
        refine XS.aload X15.here hx rfl (hb hby at_327) rfl rfl ?_
        show Steps p.tables e below (T15.setTop (mkF m 329 #[.val (.long q0), .second, .val (.long q1), .second, .val (.long q2), .second, .val (.long q3), .second, .val (.int p4), .val (.long mn1_1), .second, .val (.long mx1_1), .second, .val (.int md_2), .val (.int ub_2), .val (.long mn2_3), .second, .val (.long mx2_3), .second, .val (.ref b4), .val (.ref b6), .val (.int (((p4.toUInt32 >>> ((4 : Int32) &&& 31).toUInt32).toInt32) &&& (3 : Int32))), .val (.ref b_14), .val (.int (0 : Int32)), .val (.int (0 : Int32)), .val (.int (1 : Int32))] [(.ref b4), (.ref b4)])) _
        refine st16.trans ?_
        show Steps p.tables e below (T16.setTop (mkF m 332 #[.val (.long q0), .second, .val (.long q1), .second, .val (.long q2), .second, .val (.long q3), .second, .val (.int p4), .val (.long mn1_1), .second, .val (.long mx1_1), .second, .val (.int md_2), .val (.int ub_2), .val (.long mn2_3), .second, .val (.long mx2_3), .second, .val (.ref b4), .val (.ref b6), .val (.int (((p4.toUInt32 >>> ((4 : Int32) &&& 31).toUInt32).toInt32) &&& (3 : Int32))), .val (.ref b_14), .val (.int (0 : Int32)), .val (.int (0 : Int32)), .val (.int (1 : Int32))] [(.int (1 : Int32))])) _
        refine XS.ifNo X16.here hx rfl (hb hby at_332) rfl ((if0 _ _).trans (feq (by decide : ¬ ((1 : Int32) = (0 : Int32)))).1) ?_
        show Steps p.tables e below (T16.setTop (mkF m 335 #[.val (.long q0), .second, .val (.long q1), .second, .val (.long q2), .second, .val (.long q3), .second, .val (.int p4), .val (.long mn1_1), .second, .val (.long mx1_1), .second, .val (.int md_2), .val (.int ub_2), .val (.long mn2_3), .second, .val (.long mx2_3), .second, .val (.ref b4), .val (.ref b6), .val (.int (((p4.toUInt32 >>> ((4 : Int32) &&& 31).toUInt32).toInt32) &&& (3 : Int32))), .val (.ref b_14), .val (.int (0 : Int32)), .val (.int (0 : Int32)), .val (.int (1 : Int32))] [])) _
        refine XS.iconst X16.here hx rfl (hb hby at_335) ?_
        show Steps p.tables e below (T16.setTop (mkF m 336 #[.val (.long q0), .second, .val (.long q1), .second, .val (.long q2), .second, .val (.long q3), .second, .val (.int p4), .val (.long mn1_1), .second, .val (.long mx1_1), .second, .val (.int md_2), .val (.int ub_2), .val (.long mn2_3), .second, .val (.long mx2_3), .second, .val (.ref b4), .val (.ref b6), .val (.int (((p4.toUInt32 >>> ((4 : Int32) &&& 31).toUInt32).toInt32) &&& (3 : Int32))), .val (.ref b_14), .val (.int (0 : Int32)), .val (.int (0 : Int32)), .val (.int (1 : Int32))] [(.int (1 : Int32))])) _
        refine XS.goto X16.here hx rfl (pc0 := 336) (pc' := 340) rfl (hb hby at_336) (by decide) (by decide) ?_
        show Steps p.tables e below (T16.setTop (mkF m 340 #[.val (.long q0), .second, .val (.long q1), .second, .val (.long q2), .second, .val (.long q3), .second, .val (.int p4), .val (.long mn1_1), .second, .val (.long mx1_1), .second, .val (.int md_2), .val (.int ub_2), .val (.long mn2_3), .second, .val (.long mx2_3), .second, .val (.ref b4), .val (.ref b6), .val (.int (((p4.toUInt32 >>> ((4 : Int32) &&& 31).toUInt32).toInt32) &&& (3 : Int32))), .val (.ref b_14), .val (.int (0 : Int32)), .val (.int (0 : Int32)), .val (.int (1 : Int32))] [(.int (1 : Int32))])) _
        exact retN X16 hx (t := .boolean) Bd.returns (by simp) (hb hby at_340) hr
      · show Q_rm0 n0 _ T16.heap _
        rw [e16]
        exact ⟨rfl, N16⟩
    · have pre18 : ∀ t, Steps p.tables e below (T7.setTop (mkF m 261 #[.val (.long q0), .second, .val (.long q1), .second, .val (.long q2), .second, .val (.long q3), .second, .val (.int p4), .val (.long mn1_1), .second, .val (.long mx1_1), .second, .val (.int md_2), .val (.int ub_2), .val (.long mn2_3), .second, .val (.long mx2_3), .second, .val (.ref b4), .val (.ref b6), .val (.int (((p4.toUInt32 >>> ((4 : Int32) &&& 31).toUInt32).toInt32) &&& (3 : Int32))), .val (.ref b6), .unset, .unset, .unset] [(.int (lcmpW mn1_1 mn2_3))])) t → Steps p.tables e below (s₁.setTop (entryFrame m #[(.long q0), (.long q1), (.long q2), (.long q3), (.int p4)] maxLocals)) t := fun t kt => by
        refine pre13 t ?_
        show Steps p.tables e below (T7.setTop (mkF m 236 #[.val (.long q0), .second, .val (.long q1), .second, .val (.long q2), .second, .val (.long q3), .second, .val (.int p4), .val (.long mn1_1), .second, .val (.long mx1_1), .second, .val (.int md_2), .val (.int ub_2), .val (.long mn2_3), .second, .val (.long mx2_3), .second, .val (.ref b4), .val (.ref b6), .val (.int (((p4.toUInt32 >>> ((4 : Int32) &&& 31).toUInt32).toInt32) &&& (3 : Int32))), .unset, .unset, .unset, .unset] [(.int (3 : Int32)), (.int (((p4.toUInt32 >>> ((4 : Int32) &&& 31).toUInt32).toInt32) &&& (3 : Int32)))])) _
        refine XS.icmpYes X7.here hx rfl (pc0 := 236) (pc' := 252) rfl (hb hby at_236) rfl (feq hc236_12).2 (by decide) (by decide) ?_
        show Steps p.tables e below (T7.setTop (mkF m 252 #[.val (.long q0), .second, .val (.long q1), .second, .val (.long q2), .second, .val (.long q3), .second, .val (.int p4), .val (.long mn1_1), .second, .val (.long mx1_1), .second, .val (.int md_2), .val (.int ub_2), .val (.long mn2_3), .second, .val (.long mx2_3), .second, .val (.ref b4), .val (.ref b6), .val (.int (((p4.toUInt32 >>> ((4 : Int32) &&& 31).toUInt32).toInt32) &&& (3 : Int32))), .unset, .unset, .unset, .unset] [])) _
        refine XS.aload X7.here hx rfl (hb hby at_252) rfl rfl ?_
        show Steps p.tables e below (T7.setTop (mkF m 254 #[.val (.long q0), .second, .val (.long q1), .second, .val (.long q2), .second, .val (.long q3), .second, .val (.int p4), .val (.long mn1_1), .second, .val (.long mx1_1), .second, .val (.int md_2), .val (.int ub_2), .val (.long mn2_3), .second, .val (.long mx2_3), .second, .val (.ref b4), .val (.ref b6), .val (.int (((p4.toUInt32 >>> ((4 : Int32) &&& 31).toUInt32).toInt32) &&& (3 : Int32))), .unset, .unset, .unset, .unset] [(.ref b6)])) _
        refine XS.astore X7.here hx rfl (hb hby at_254) rfl rfl (l' := #[.val (.long q0), .second, .val (.long q1), .second, .val (.long q2), .second, .val (.long q3), .second, .val (.int p4), .val (.long mn1_1), .second, .val (.long mx1_1), .second, .val (.int md_2), .val (.int ub_2), .val (.long mn2_3), .second, .val (.long mx2_3), .second, .val (.ref b4), .val (.ref b6), .val (.int (((p4.toUInt32 >>> ((4 : Int32) &&& 31).toUInt32).toInt32) &&& (3 : Int32))), .val (.ref b6), .unset, .unset, .unset]) rfl ?_
        show Steps p.tables e below (T7.setTop (mkF m 256 #[.val (.long q0), .second, .val (.long q1), .second, .val (.long q2), .second, .val (.long q3), .second, .val (.int p4), .val (.long mn1_1), .second, .val (.long mx1_1), .second, .val (.int md_2), .val (.int ub_2), .val (.long mn2_3), .second, .val (.long mx2_3), .second, .val (.ref b4), .val (.ref b6), .val (.int (((p4.toUInt32 >>> ((4 : Int32) &&& 31).toUInt32).toInt32) &&& (3 : Int32))), .val (.ref b6), .unset, .unset, .unset] [])) _
        refine XS.lload X7.here hx rfl (hb hby at_256) rfl ?_
        show Steps p.tables e below (T7.setTop (mkF m 258 #[.val (.long q0), .second, .val (.long q1), .second, .val (.long q2), .second, .val (.long q3), .second, .val (.int p4), .val (.long mn1_1), .second, .val (.long mx1_1), .second, .val (.int md_2), .val (.int ub_2), .val (.long mn2_3), .second, .val (.long mx2_3), .second, .val (.ref b4), .val (.ref b6), .val (.int (((p4.toUInt32 >>> ((4 : Int32) &&& 31).toUInt32).toInt32) &&& (3 : Int32))), .val (.ref b6), .unset, .unset, .unset] [(.long mn1_1)])) _
        refine XS.lload X7.here hx rfl (hb hby at_258) rfl ?_
        show Steps p.tables e below (T7.setTop (mkF m 260 #[.val (.long q0), .second, .val (.long q1), .second, .val (.long q2), .second, .val (.long q3), .second, .val (.int p4), .val (.long mn1_1), .second, .val (.long mx1_1), .second, .val (.int md_2), .val (.int ub_2), .val (.long mn2_3), .second, .val (.long mx2_3), .second, .val (.ref b4), .val (.ref b6), .val (.int (((p4.toUInt32 >>> ((4 : Int32) &&& 31).toUInt32).toInt32) &&& (3 : Int32))), .val (.ref b6), .unset, .unset, .unset] [(.long mn2_3), (.long mn1_1)])) _
        refine XS.lcmp X7.here hx rfl (hb hby at_260) rfl ?_
        exact kt
      by_cases hc261_17 : (lcmpW mn1_1 mn2_3) = (0 : Int32)
      · have pre20 : ∀ t, Steps p.tables e below (T7.setTop (mkF m 269 #[.val (.long q0), .second, .val (.long q1), .second, .val (.long q2), .second, .val (.long q3), .second, .val (.int p4), .val (.long mn1_1), .second, .val (.long mx1_1), .second, .val (.int md_2), .val (.int ub_2), .val (.long mn2_3), .second, .val (.long mx2_3), .second, .val (.ref b4), .val (.ref b6), .val (.int (((p4.toUInt32 >>> ((4 : Int32) &&& 31).toUInt32).toInt32) &&& (3 : Int32))), .val (.ref b6), .unset, .unset, .unset] [(.int (lcmpW mx1_1 mx2_3))])) t → Steps p.tables e below (s₁.setTop (entryFrame m #[(.long q0), (.long q1), (.long q2), (.long q3), (.int p4)] maxLocals)) t := fun t kt => by
          refine pre18 t ?_
          show Steps p.tables e below (T7.setTop (mkF m 261 #[.val (.long q0), .second, .val (.long q1), .second, .val (.long q2), .second, .val (.long q3), .second, .val (.int p4), .val (.long mn1_1), .second, .val (.long mx1_1), .second, .val (.int md_2), .val (.int ub_2), .val (.long mn2_3), .second, .val (.long mx2_3), .second, .val (.ref b4), .val (.ref b6), .val (.int (((p4.toUInt32 >>> ((4 : Int32) &&& 31).toUInt32).toInt32) &&& (3 : Int32))), .val (.ref b6), .unset, .unset, .unset] [(.int (lcmpW mn1_1 mn2_3))])) _
          refine XS.ifNo X7.here hx rfl (hb hby at_261) rfl ((if0 _ _).trans (teq hc261_17).2) ?_
          show Steps p.tables e below (T7.setTop (mkF m 264 #[.val (.long q0), .second, .val (.long q1), .second, .val (.long q2), .second, .val (.long q3), .second, .val (.int p4), .val (.long mn1_1), .second, .val (.long mx1_1), .second, .val (.int md_2), .val (.int ub_2), .val (.long mn2_3), .second, .val (.long mx2_3), .second, .val (.ref b4), .val (.ref b6), .val (.int (((p4.toUInt32 >>> ((4 : Int32) &&& 31).toUInt32).toInt32) &&& (3 : Int32))), .val (.ref b6), .unset, .unset, .unset] [])) _
          refine XS.lload X7.here hx rfl (hb hby at_264) rfl ?_
          show Steps p.tables e below (T7.setTop (mkF m 266 #[.val (.long q0), .second, .val (.long q1), .second, .val (.long q2), .second, .val (.long q3), .second, .val (.int p4), .val (.long mn1_1), .second, .val (.long mx1_1), .second, .val (.int md_2), .val (.int ub_2), .val (.long mn2_3), .second, .val (.long mx2_3), .second, .val (.ref b4), .val (.ref b6), .val (.int (((p4.toUInt32 >>> ((4 : Int32) &&& 31).toUInt32).toInt32) &&& (3 : Int32))), .val (.ref b6), .unset, .unset, .unset] [(.long mx1_1)])) _
          refine XS.lload X7.here hx rfl (hb hby at_266) rfl ?_
          show Steps p.tables e below (T7.setTop (mkF m 268 #[.val (.long q0), .second, .val (.long q1), .second, .val (.long q2), .second, .val (.long q3), .second, .val (.int p4), .val (.long mn1_1), .second, .val (.long mx1_1), .second, .val (.int md_2), .val (.int ub_2), .val (.long mn2_3), .second, .val (.long mx2_3), .second, .val (.ref b4), .val (.ref b6), .val (.int (((p4.toUInt32 >>> ((4 : Int32) &&& 31).toUInt32).toInt32) &&& (3 : Int32))), .val (.ref b6), .unset, .unset, .unset] [(.long mx2_3), (.long mx1_1)])) _
          refine XS.lcmp X7.here hx rfl (hb hby at_268) rfl ?_
          exact kt
        by_cases hc269_19 : (lcmpW mx1_1 mx2_3) = (0 : Int32)
        · have hn1 : mn2_3 = mn1_1 := ((own_lceq _ _).1 hc261_17).symm
          have hn1' : mn1_1 = mn2_3 := ((own_lceq _ _).1 hc261_17)
          have hn2 : mx2_3 = mx1_1 := ((own_lceq _ _).1 hc269_19).symm
          have hn2' : mx1_1 = mx2_3 := ((own_lceq _ _).1 hc269_19)
          obtain ⟨cq21, kq21, q21a, q21b, q21c⟩ := isOf hZ rfl ((P5_0.ext E6).keep Kc7)
          obtain ⟨_, _, ⟨T21, L21, k21, n21⟩, -, X21, ⟨Lc21, hQ21, l21, y21, z21⟩, st21⟩ := X7.virtualBack hx (y := MN_7) (z := MN_7) hown (mvT hZ (Wd hw 21 rfl)) (mvT hZ (Wd hw 22 rfl)) (notFace_of_selects (args := #[]) (mvT hZ (Wd hw 24 rfl))) (mvT hZ (Wd hw 24 rfl)) (mvT hZ (Wd hw 23 rfl)) (by decide) (backOf (W := 0) (rmEq_yes l Z a0 hw [] aC kC vC (b4) (b6) (mn1_1) (mx1_1) (mn2_3) (mx2_3) (T7.heap) n0 O7 GL ((P5_1.ext E6).keep Kc7 (ninS (Nat.ne_of_lt (Nat.lt_of_lt_of_le (Nat.lt_of_lt_of_le A4.lt Kc5.1) (Nat.le_of_eq g6.symm))) nin0)) ((P5_2.ext E6).keep Kc7 (ninS (Nat.ne_of_lt (Nat.lt_of_lt_of_le (Nat.lt_of_lt_of_le A4.lt Kc5.1) (Nat.le_of_eq g6.symm))) nin0)) P7_0 P7_1 P7_2 hn1 hn2) hZ (Wd hw 25 rfl) (Wd hw 4 rfl) (by decide) (by decide)) q21a q21c (g := (mkF m 283 #[.val (.long q0), .second, .val (.long q1), .second, .val (.long q2), .second, .val (.long q3), .second, .val (.int p4), .val (.long mn1_1), .second, .val (.long mx1_1), .second, .val (.int md_2), .val (.int ub_2), .val (.long mn2_3), .second, .val (.long mx2_3), .second, .val (.ref b4), .val (.ref b6), .val (.int (((p4.toUInt32 >>> ((4 : Int32) &&& 31).toUInt32).toInt32) &&& (3 : Int32))), .val (.ref b6), .val (.int (1 : Int32)), .unset, .unset] [(.ref b6), (.ref b4)])) rfl (by rw [hml]; rfl) (Steps.refl _) (argsL := [(.ref b6)]) (rest := []) (lenOf pdv4 rfl) rfl (by show 2 * 0 + _ ≤ _; exact Nat.le_of_eq rfl) (hb hby at_283) (fun _ _ => ⟨rfl, rfl, (by decide : 2 + 0 ≤ _), (by decide : 4 + 0 ≤ _)⟩)
          dsimp only [Pt.U, Pt.locs, Pt.cells, Pt.slots] at X21 l21 y21 z21 st21 hQ21
          subst l21 y21 z21
          obtain ⟨rfl, N21q, e21⟩ := hQ21
          have N21 := Fr.app N7 N21q
          have pre23 : ∀ t, Steps p.tables e below (T21.setTop (mkF m 291 #[.val (.long q0), .second, .val (.long q1), .second, .val (.long q2), .second, .val (.long q3), .second, .val (.int p4), .val (.long mn1_1), .second, .val (.long mx1_1), .second, .val (.int md_2), .val (.int ub_2), .val (.long mn2_3), .second, .val (.long mx2_3), .second, .val (.ref b4), .val (.ref b6), .val (.int (((p4.toUInt32 >>> ((4 : Int32) &&& 31).toUInt32).toInt32) &&& (3 : Int32))), .val (.ref b6), .val (.int (1 : Int32)), .val (.int (1 : Int32)), .unset] [(.int (2 : Int32)), (.int (((p4.toUInt32 >>> ((4 : Int32) &&& 31).toUInt32).toInt32) &&& (3 : Int32)))])) t → Steps p.tables e below (s₁.setTop (entryFrame m #[(.long q0), (.long q1), (.long q2), (.long q3), (.int p4)] maxLocals)) t := fun t kt => by
            refine pre20 t ?_
            show Steps p.tables e below (T7.setTop (mkF m 269 #[.val (.long q0), .second, .val (.long q1), .second, .val (.long q2), .second, .val (.long q3), .second, .val (.int p4), .val (.long mn1_1), .second, .val (.long mx1_1), .second, .val (.int md_2), .val (.int ub_2), .val (.long mn2_3), .second, .val (.long mx2_3), .second, .val (.ref b4), .val (.ref b6), .val (.int (((p4.toUInt32 >>> ((4 : Int32) &&& 31).toUInt32).toInt32) &&& (3 : Int32))), .val (.ref b6), .unset, .unset, .unset] [(.int (lcmpW mx1_1 mx2_3))])) _
            refine XS.ifNo X7.here hx rfl (hb hby at_269) rfl ((if0 _ _).trans (teq hc269_19).2) ?_
            show Steps p.tables e below (T7.setTop (mkF m 272 #[.val (.long q0), .second, .val (.long q1), .second, .val (.long q2), .second, .val (.long q3), .second, .val (.int p4), .val (.long mn1_1), .second, .val (.long mx1_1), .second, .val (.int md_2), .val (.int ub_2), .val (.long mn2_3), .second, .val (.long mx2_3), .second, .val (.ref b4), .val (.ref b6), .val (.int (((p4.toUInt32 >>> ((4 : Int32) &&& 31).toUInt32).toInt32) &&& (3 : Int32))), .val (.ref b6), .unset, .unset, .unset] [])) _
            refine XS.iconst X7.here hx rfl (hb hby at_272) ?_
            show Steps p.tables e below (T7.setTop (mkF m 273 #[.val (.long q0), .second, .val (.long q1), .second, .val (.long q2), .second, .val (.long q3), .second, .val (.int p4), .val (.long mn1_1), .second, .val (.long mx1_1), .second, .val (.int md_2), .val (.int ub_2), .val (.long mn2_3), .second, .val (.long mx2_3), .second, .val (.ref b4), .val (.ref b6), .val (.int (((p4.toUInt32 >>> ((4 : Int32) &&& 31).toUInt32).toInt32) &&& (3 : Int32))), .val (.ref b6), .unset, .unset, .unset] [(.int (1 : Int32))])) _
            refine XS.goto X7.here hx rfl (pc0 := 273) (pc' := 277) rfl (hb hby at_273) (by decide) (by decide) ?_
            show Steps p.tables e below (T7.setTop (mkF m 277 #[.val (.long q0), .second, .val (.long q1), .second, .val (.long q2), .second, .val (.long q3), .second, .val (.int p4), .val (.long mn1_1), .second, .val (.long mx1_1), .second, .val (.int md_2), .val (.int ub_2), .val (.long mn2_3), .second, .val (.long mx2_3), .second, .val (.ref b4), .val (.ref b6), .val (.int (((p4.toUInt32 >>> ((4 : Int32) &&& 31).toUInt32).toInt32) &&& (3 : Int32))), .val (.ref b6), .unset, .unset, .unset] [(.int (1 : Int32))])) _
            refine XS.istore X7.here hx rfl (hb hby at_277) rfl (l' := #[.val (.long q0), .second, .val (.long q1), .second, .val (.long q2), .second, .val (.long q3), .second, .val (.int p4), .val (.long mn1_1), .second, .val (.long mx1_1), .second, .val (.int md_2), .val (.int ub_2), .val (.long mn2_3), .second, .val (.long mx2_3), .second, .val (.ref b4), .val (.ref b6), .val (.int (((p4.toUInt32 >>> ((4 : Int32) &&& 31).toUInt32).toInt32) &&& (3 : Int32))), .val (.ref b6), .val (.int (1 : Int32)), .unset, .unset]) rfl ?_
            show Steps p.tables e below (T7.setTop (mkF m 279 #[.val (.long q0), .second, .val (.long q1), .second, .val (.long q2), .second, .val (.long q3), .second, .val (.int p4), .val (.long mn1_1), .second, .val (.long mx1_1), .second, .val (.int md_2), .val (.int ub_2), .val (.long mn2_3), .second, .val (.long mx2_3), .second, .val (.ref b4), .val (.ref b6), .val (.int (((p4.toUInt32 >>> ((4 : Int32) &&& 31).toUInt32).toInt32) &&& (3 : Int32))), .val (.ref b6), .val (.int (1 : Int32)), .unset, .unset] [])) _
            refine XS.aload X7.here hx rfl (hb hby at_279) rfl rfl ?_
            show Steps p.tables e below (T7.setTop (mkF m 281 #[.val (.long q0), .second, .val (.long q1), .second, .val (.long q2), .second, .val (.long q3), .second, .val (.int p4), .val (.long mn1_1), .second, .val (.long mx1_1), .second, .val (.int md_2), .val (.int ub_2), .val (.long mn2_3), .second, .val (.long mx2_3), .second, .val (.ref b4), .val (.ref b6), .val (.int (((p4.toUInt32 >>> ((4 : Int32) &&& 31).toUInt32).toInt32) &&& (3 : Int32))), .val (.ref b6), .val (.int (1 : Int32)), .unset, .unset] [(.ref b4)])) _
            refine XS.aload X7.here hx rfl (hb hby at_281) rfl rfl ?_
            show Steps p.tables e below (T7.setTop (mkF m 283 #[.val (.long q0), .second, .val (.long q1), .second, .val (.long q2), .second, .val (.long q3), .second, .val (.int p4), .val (.long mn1_1), .second, .val (.long mx1_1), .second, .val (.int md_2), .val (.int ub_2), .val (.long mn2_3), .second, .val (.long mx2_3), .second, .val (.ref b4), .val (.ref b6), .val (.int (((p4.toUInt32 >>> ((4 : Int32) &&& 31).toUInt32).toInt32) &&& (3 : Int32))), .val (.ref b6), .val (.int (1 : Int32)), .unset, .unset] [(.ref b6), (.ref b4)])) _
            refine st21.trans ?_
            show Steps p.tables e below (T21.setTop (mkF m 286 #[.val (.long q0), .second, .val (.long q1), .second, .val (.long q2), .second, .val (.long q3), .second, .val (.int p4), .val (.long mn1_1), .second, .val (.long mx1_1), .second, .val (.int md_2), .val (.int ub_2), .val (.long mn2_3), .second, .val (.long mx2_3), .second, .val (.ref b4), .val (.ref b6), .val (.int (((p4.toUInt32 >>> ((4 : Int32) &&& 31).toUInt32).toInt32) &&& (3 : Int32))), .val (.ref b6), .val (.int (1 : Int32)), .unset, .unset] [(.int (1 : Int32))])) _
            refine XS.istore X21.here hx rfl (hb hby at_286) rfl (l' := #[.val (.long q0), .second, .val (.long q1), .second, .val (.long q2), .second, .val (.long q3), .second, .val (.int p4), .val (.long mn1_1), .second, .val (.long mx1_1), .second, .val (.int md_2), .val (.int ub_2), .val (.long mn2_3), .second, .val (.long mx2_3), .second, .val (.ref b4), .val (.ref b6), .val (.int (((p4.toUInt32 >>> ((4 : Int32) &&& 31).toUInt32).toInt32) &&& (3 : Int32))), .val (.ref b6), .val (.int (1 : Int32)), .val (.int (1 : Int32)), .unset]) rfl ?_
            show Steps p.tables e below (T21.setTop (mkF m 288 #[.val (.long q0), .second, .val (.long q1), .second, .val (.long q2), .second, .val (.long q3), .second, .val (.int p4), .val (.long mn1_1), .second, .val (.long mx1_1), .second, .val (.int md_2), .val (.int ub_2), .val (.long mn2_3), .second, .val (.long mx2_3), .second, .val (.ref b4), .val (.ref b6), .val (.int (((p4.toUInt32 >>> ((4 : Int32) &&& 31).toUInt32).toInt32) &&& (3 : Int32))), .val (.ref b6), .val (.int (1 : Int32)), .val (.int (1 : Int32)), .unset] [])) _
            refine XS.iload X21.here hx rfl (hb hby at_288) rfl ?_
            show Steps p.tables e below (T21.setTop (mkF m 290 #[.val (.long q0), .second, .val (.long q1), .second, .val (.long q2), .second, .val (.long q3), .second, .val (.int p4), .val (.long mn1_1), .second, .val (.long mx1_1), .second, .val (.int md_2), .val (.int ub_2), .val (.long mn2_3), .second, .val (.long mx2_3), .second, .val (.ref b4), .val (.ref b6), .val (.int (((p4.toUInt32 >>> ((4 : Int32) &&& 31).toUInt32).toInt32) &&& (3 : Int32))), .val (.ref b6), .val (.int (1 : Int32)), .val (.int (1 : Int32)), .unset] [(.int (((p4.toUInt32 >>> ((4 : Int32) &&& 31).toUInt32).toInt32) &&& (3 : Int32)))])) _
            refine XS.iconst X21.here hx rfl (hb hby at_290) ?_
            exact kt
          by_cases hc291_22 : (((p4.toUInt32 >>> ((4 : Int32) &&& 31).toUInt32).toInt32) &&& (3 : Int32)) < (2 : Int32)
          · obtain ⟨cq24, kq24, q24a, q24b, q24c⟩ := isOf hZ e21 P7_0
            obtain ⟨_, _, ⟨T24, L24, k24, n24⟩, -, X24, ⟨Lc24, hQ24, l24, y24, z24⟩, st24⟩ := X21.virtualBack hx (y := MN_7) (z := MN_7) hown (mvT hZ (Wd hw 21 rfl)) (mvT hZ (Wd hw 22 rfl)) (notFace_of_selects (args := #[]) (mvT hZ (Wd hw 24 rfl))) (mvT hZ (Wd hw 24 rfl)) (mvT hZ (Wd hw 23 rfl)) (by decide) (backOf (W := 0) (rmEq_yes l Z a0 hw [] aC kC vC (b6) (b4) (mn2_3) (mx2_3) (mn1_1) (mx1_1) (T7.heap) n0 O7 GL P7_1 P7_2 ((P5_0.ext E6).keep Kc7) ((P5_1.ext E6).keep Kc7 (ninS (Nat.ne_of_lt (Nat.lt_of_lt_of_le (Nat.lt_of_lt_of_le A4.lt Kc5.1) (Nat.le_of_eq g6.symm))) nin0)) ((P5_2.ext E6).keep Kc7 (ninS (Nat.ne_of_lt (Nat.lt_of_lt_of_le (Nat.lt_of_lt_of_le A4.lt Kc5.1) (Nat.le_of_eq g6.symm))) nin0)) hn1' hn2') hZ (Wd hw 25 rfl) (Wd hw 4 rfl) (by decide) (by decide)) q24a q24c (g := (mkF m 298 #[.val (.long q0), .second, .val (.long q1), .second, .val (.long q2), .second, .val (.long q3), .second, .val (.int p4), .val (.long mn1_1), .second, .val (.long mx1_1), .second, .val (.int md_2), .val (.int ub_2), .val (.long mn2_3), .second, .val (.long mx2_3), .second, .val (.ref b4), .val (.ref b6), .val (.int (((p4.toUInt32 >>> ((4 : Int32) &&& 31).toUInt32).toInt32) &&& (3 : Int32))), .val (.ref b6), .val (.int (1 : Int32)), .val (.int (1 : Int32)), .unset] [(.ref b4), (.ref b6)])) rfl (by rw [hml]; rfl) (Steps.refl _) (argsL := [(.ref b4)]) (rest := []) (lenOf pdv4 rfl) rfl (by show 2 * 0 + _ ≤ _; exact Nat.le_of_eq rfl) (hb hby at_298) (fun _ _ => ⟨rfl, e21, (by decide : 2 + 0 ≤ _), (by decide : 4 + 0 ≤ _)⟩)
            dsimp only [Pt.U, Pt.locs, Pt.cells, Pt.slots] at X24 l24 y24 z24 st24 hQ24
            subst l24 y24 z24
            obtain ⟨rfl, N24q, e24⟩ := hQ24
            have N24 := Fr.app N21 N24q
            obtain ⟨cq25, kq25, q25a, q25b, q25c⟩ := isOf hZ e24 ((P5_0.ext E6).keep Kc7)
            obtain ⟨_, _, ⟨T25, L25, k25, n25⟩, -, X25, ⟨Lc25, hQ25, l25, y25, z25⟩, st25⟩ := X24.virtualBack hx (y := MN_7) (z := MN_7) hown (mvT hZ (Wd hw 21 rfl)) (mvT hZ (Wd hw 22 rfl)) (notFace_of_selects (args := #[]) (mvT hZ (Wd hw 24 rfl))) (mvT hZ (Wd hw 24 rfl)) (mvT hZ (Wd hw 23 rfl)) (by decide) (backOf (W := 0) (rmEq_yes l Z a0 hw [] aC kC vC (b4) (b4) (mn1_1) (mx1_1) (mn1_1) (mx1_1) (T7.heap) n0 O7 GL ((P5_1.ext E6).keep Kc7 (ninS (Nat.ne_of_lt (Nat.lt_of_lt_of_le (Nat.lt_of_lt_of_le A4.lt Kc5.1) (Nat.le_of_eq g6.symm))) nin0)) ((P5_2.ext E6).keep Kc7 (ninS (Nat.ne_of_lt (Nat.lt_of_lt_of_le (Nat.lt_of_lt_of_le A4.lt Kc5.1) (Nat.le_of_eq g6.symm))) nin0)) ((P5_0.ext E6).keep Kc7) ((P5_1.ext E6).keep Kc7 (ninS (Nat.ne_of_lt (Nat.lt_of_lt_of_le (Nat.lt_of_lt_of_le A4.lt Kc5.1) (Nat.le_of_eq g6.symm))) nin0)) ((P5_2.ext E6).keep Kc7 (ninS (Nat.ne_of_lt (Nat.lt_of_lt_of_le (Nat.lt_of_lt_of_le A4.lt Kc5.1) (Nat.le_of_eq g6.symm))) nin0)) rfl rfl) hZ (Wd hw 25 rfl) (Wd hw 4 rfl) (by decide) (by decide)) q25a q25c (g := (mkF m 329 #[.val (.long q0), .second, .val (.long q1), .second, .val (.long q2), .second, .val (.long q3), .second, .val (.int p4), .val (.long mn1_1), .second, .val (.long mx1_1), .second, .val (.int md_2), .val (.int ub_2), .val (.long mn2_3), .second, .val (.long mx2_3), .second, .val (.ref b4), .val (.ref b6), .val (.int (((p4.toUInt32 >>> ((4 : Int32) &&& 31).toUInt32).toInt32) &&& (3 : Int32))), .val (.ref b6), .val (.int (1 : Int32)), .val (.int (1 : Int32)), .val (.int (1 : Int32))] [(.ref b4), (.ref b4)])) rfl (by rw [hml]; rfl) (Steps.refl _) (argsL := [(.ref b4)]) (rest := []) (lenOf pdv4 rfl) rfl (by show 2 * 0 + _ ≤ _; exact Nat.le_of_eq rfl) (hb hby at_329) (fun _ _ => ⟨rfl, e24, (by decide : 2 + 0 ≤ _), (by decide : 4 + 0 ≤ _)⟩)
            dsimp only [Pt.U, Pt.locs, Pt.cells, Pt.slots] at X25 l25 y25 z25 st25 hQ25
            subst l25 y25 z25
            obtain ⟨rfl, N25q, e25⟩ := hQ25
            have N25 := Fr.app N24 N25q
            obtain ⟨fs, hr, hrun, hended, hW, hsame⟩ := X25.leave (v := some (.int (1 : Int32))) (fun h => by rw [Bd.returns] at h; cases h)
            refine ⟨_, _, pre23 _ ?_, hrun, hended, _, _, rfl, ?_, ⟨_, rfl⟩, hW, hsame.mono (by decide) (by decide)⟩
            · show Steps p.tables e below (T21.setTop (mkF m 291 #[.val (.long q0), .second, .val (.long q1), .second, .val (.long q2), .second, .val (.long q3), .second, .val (.int p4), .val (.long mn1_1), .second, .val (.long mx1_1), .second, .val (.int md_2), .val (.int ub_2), .val (.long mn2_3), .second, .val (.long mx2_3), .second, .val (.ref b4), .val (.ref b6), .val (.int (((p4.toUInt32 >>> ((4 : Int32) &&& 31).toUInt32).toInt32) &&& (3 : Int32))), .val (.ref b6), .val (.int (1 : Int32)), .val (.int (1 : Int32)), .unset] [(.int (2 : Int32)), (.int (((p4.toUInt32 >>> ((4 : Int32) &&& 31).toUInt32).toInt32) &&& (3 : Int32)))])) _
              refine XS.icmpNo X21.here hx rfl (hb hby at_291) rfl (tlt hc291_22).2.1 ?_
              show Steps p.tables e below (T21.setTop (mkF m 294 #[.val (.long q0), .second, .val (.long q1), .second, .val (.long q2), .second, .val (.long q3), .second, .val (.int p4), .val (.long mn1_1), .second, .val (.long mx1_1), .second, .val (.int md_2), .val (.int ub_2), .val (.long mn2_3), .second, .val (.long mx2_3), .second, .val (.ref b4), .val (.ref b6), .val (.int (((p4.toUInt32 >>> ((4 : Int32) &&& 31).toUInt32).toInt32) &&& (3 : Int32))), .val (.ref b6), .val (.int (1 : Int32)), .val (.int (1 : Int32)), .unset] [])) _
              refine XS.aload X21.here hx rfl (hb hby at_294) rfl rfl ?_
              show Steps p.tables e below (T21.setTop (mkF m 296 #[.val (.long q0), .second, .val (.long q1), .second, .val (.long q2), .second, .val (.long q3), .second, .val (.int p4), .val (.long mn1_1), .second, .val (.long mx1_1), .second, .val (.int md_2), .val (.int ub_2), .val (.long mn2_3), .second, .val (.long mx2_3), .second, .val (.ref b4), .val (.ref b6), .val (.int (((p4.toUInt32 >>> ((4 : Int32) &&& 31).toUInt32).toInt32) &&& (3 : Int32))), .val (.ref b6), .val (.int (1 : Int32)), .val (.int (1 : Int32)), .unset] [(.ref b6)])) _
              refine XS.aload X21.here hx rfl (hb hby at_296) rfl rfl ?_
              show Steps p.tables e below (T21.setTop (mkF m 298 #[.val (.long q0), .second, .val (.long q1), .second, .val (.long q2), .second, .val (.long q3), .second, .val (.int p4), .val (.long mn1_1), .second, .val (.long mx1_1), .second, .val (.int md_2), .val (.int ub_2), .val (.long mn2_3), .second, .val (.long mx2_3), .second, .val (.ref b4), .val (.ref b6), .val (.int (((p4.toUInt32 >>> ((4 : Int32) &&& 31).toUInt32).toInt32) &&& (3 : Int32))), .val (.ref b6), .val (.int (1 : Int32)), .val (.int (1 : Int32)), .unset] [(.ref b4), (.ref b6)])) _
              refine st24.trans ?_
              show Steps p.tables e below (T24.setTop (mkF m 301 #[.val (.long q0), .second, .val (.long q1), .second, .val (.long q2), .second, .val (.long q3), .second, .val (.int p4), .val (.long mn1_1), .second, .val (.long mx1_1), .second, .val (.int md_2), .val (.int ub_2), .val (.long mn2_3), .second, .val (.long mx2_3), .second, .val (.ref b4), .val (.ref b6), .val (.int (((p4.toUInt32 >>> ((4 : Int32) &&& 31).toUInt32).toInt32) &&& (3 : Int32))), .val (.ref b6), .val (.int (1 : Int32)), .val (.int (1 : Int32)), .unset] [(.int (1 : Int32))])) _
              refine XS.iload X24.here hx rfl (hb hby at_301) rfl ?_
              show Steps p.tables e below (T24.setTop (mkF m 303 #[.val (.long q0), .second, .val (.long q1), .second, .val (.long q2), .second, .val (.long q3), .second, .val (.int p4), .val (.long mn1_1), .second, .val (.long mx1_1), .second, .val (.int md_2), .val (.int ub_2), .val (.long mn2_3), .second, .val (.long mx2_3), .second, .val (.ref b4), .val (.ref b6), .val (.int (((p4.toUInt32 >>> ((4 : Int32) &&& 31).toUInt32).toInt32) &&& (3 : Int32))), .val (.ref b6), .val (.int (1 : Int32)), .val (.int (1 : Int32)), .unset] [(.int (1 : Int32)), (.int (1 : Int32))])) _
              refine XS.icmpNo X24.here hx rfl (hb hby at_303) rfl (teq (by decide : (1 : Int32) = (1 : Int32))).2 ?_
              show Steps p.tables e below (T24.setTop (mkF m 306 #[.val (.long q0), .second, .val (.long q1), .second, .val (.long q2), .second, .val (.long q3), .second, .val (.int p4), .val (.long mn1_1), .second, .val (.long mx1_1), .second, .val (.int md_2), .val (.int ub_2), .val (.long mn2_3), .second, .val (.long mx2_3), .second, .val (.ref b4), .val (.ref b6), .val (.int (((p4.toUInt32 >>> ((4 : Int32) &&& 31).toUInt32).toInt32) &&& (3 : Int32))), .val (.ref b6), .val (.int (1 : Int32)), .val (.int (1 : Int32)), .unset] [])) _
              refine XS.iconst X24.here hx rfl (hb hby at_306) ?_
              show Steps p.tables e below (T24.setTop (mkF m 307 #[.val (.long q0), .second, .val (.long q1), .second, .val (.long q2), .second, .val (.long q3), .second, .val (.int p4), .val (.long mn1_1), .second, .val (.long mx1_1), .second, .val (.int md_2), .val (.int ub_2), .val (.long mn2_3), .second, .val (.long mx2_3), .second, .val (.ref b4), .val (.ref b6), .val (.int (((p4.toUInt32 >>> ((4 : Int32) &&& 31).toUInt32).toInt32) &&& (3 : Int32))), .val (.ref b6), .val (.int (1 : Int32)), .val (.int (1 : Int32)), .unset] [(.int (1 : Int32))])) _
              refine XS.goto X24.here hx rfl (pc0 := 307) (pc' := 311) rfl (hb hby at_307) (by decide) (by decide) ?_
              show Steps p.tables e below (T24.setTop (mkF m 311 #[.val (.long q0), .second, .val (.long q1), .second, .val (.long q2), .second, .val (.long q3), .second, .val (.int p4), .val (.long mn1_1), .second, .val (.long mx1_1), .second, .val (.int md_2), .val (.int ub_2), .val (.long mn2_3), .second, .val (.long mx2_3), .second, .val (.ref b4), .val (.ref b6), .val (.int (((p4.toUInt32 >>> ((4 : Int32) &&& 31).toUInt32).toInt32) &&& (3 : Int32))), .val (.ref b6), .val (.int (1 : Int32)), .val (.int (1 : Int32)), .unset] [(.int (1 : Int32))])) _
              refine XS.istore X24.here hx rfl (hb hby at_311) rfl (l' := #[.val (.long q0), .second, .val (.long q1), .second, .val (.long q2), .second, .val (.long q3), .second, .val (.int p4), .val (.long mn1_1), .second, .val (.long mx1_1), .second, .val (.int md_2), .val (.int ub_2), .val (.long mn2_3), .second, .val (.long mx2_3), .second, .val (.ref b4), .val (.ref b6), .val (.int (((p4.toUInt32 >>> ((4 : Int32) &&& 31).toUInt32).toInt32) &&& (3 : Int32))), .val (.ref b6), .val (.int (1 : Int32)), .val (.int (1 : Int32)), .val (.int (1 : Int32))]) rfl ?_
              show Steps p.tables e below (T24.setTop (mkF m 313 #[.val (.long q0), .second, .val (.long q1), .second, .val (.long q2), .second, .val (.long q3), .second, .val (.int p4), .val (.long mn1_1), .second, .val (.long mx1_1), .second, .val (.int md_2), .val (.int ub_2), .val (.long mn2_3), .second, .val (.long mx2_3), .second, .val (.ref b4), .val (.ref b6), .val (.int (((p4.toUInt32 >>> ((4 : Int32) &&& 31).toUInt32).toInt32) &&& (3 : Int32))), .val (.ref b6), .val (.int (1 : Int32)), .val (.int (1 : Int32)), .val (.int (1 : Int32))] [])) _
              refine XS.iload X24.here hx rfl (hb hby at_313) rfl ?_
              show Steps p.tables e below (T24.setTop (mkF m 315 #[.val (.long q0), .second, .val (.long q1), .second, .val (.long q2), .second, .val (.long q3), .second, .val (.int p4), .val (.long mn1_1), .second, .val (.long mx1_1), .second, .val (.int md_2), .val (.int ub_2), .val (.long mn2_3), .second, .val (.long mx2_3), .second, .val (.ref b4), .val (.ref b6), .val (.int (((p4.toUInt32 >>> ((4 : Int32) &&& 31).toUInt32).toInt32) &&& (3 : Int32))), .val (.ref b6), .val (.int (1 : Int32)), .val (.int (1 : Int32)), .val (.int (1 : Int32))] [(.int (1 : Int32))])) _
              refine XS.iload X24.here hx rfl (hb hby at_315) rfl ?_
              show Steps p.tables e below (T24.setTop (mkF m 317 #[.val (.long q0), .second, .val (.long q1), .second, .val (.long q2), .second, .val (.long q3), .second, .val (.int p4), .val (.long mn1_1), .second, .val (.long mx1_1), .second, .val (.int md_2), .val (.int ub_2), .val (.long mn2_3), .second, .val (.long mx2_3), .second, .val (.ref b4), .val (.ref b6), .val (.int (((p4.toUInt32 >>> ((4 : Int32) &&& 31).toUInt32).toInt32) &&& (3 : Int32))), .val (.ref b6), .val (.int (1 : Int32)), .val (.int (1 : Int32)), .val (.int (1 : Int32))] [(.int (1 : Int32)), (.int (1 : Int32))])) _
              refine XS.icmpNo X24.here hx rfl (hb hby at_317) rfl (teq (by decide : (1 : Int32) = (1 : Int32))).2 ?_
              show Steps p.tables e below (T24.setTop (mkF m 320 #[.val (.long q0), .second, .val (.long q1), .second, .val (.long q2), .second, .val (.long q3), .second, .val (.int p4), .val (.long mn1_1), .second, .val (.long mx1_1), .second, .val (.int md_2), .val (.int ub_2), .val (.long mn2_3), .second, .val (.long mx2_3), .second, .val (.ref b4), .val (.ref b6), .val (.int (((p4.toUInt32 >>> ((4 : Int32) &&& 31).toUInt32).toInt32) &&& (3 : Int32))), .val (.ref b6), .val (.int (1 : Int32)), .val (.int (1 : Int32)), .val (.int (1 : Int32))] [])) _
              refine XS.iload X24.here hx rfl (hb hby at_320) rfl ?_
              show Steps p.tables e below (T24.setTop (mkF m 322 #[.val (.long q0), .second, .val (.long q1), .second, .val (.long q2), .second, .val (.long q3), .second, .val (.int p4), .val (.long mn1_1), .second, .val (.long mx1_1), .second, .val (.int md_2), .val (.int ub_2), .val (.long mn2_3), .second, .val (.long mx2_3), .second, .val (.ref b4), .val (.ref b6), .val (.int (((p4.toUInt32 >>> ((4 : Int32) &&& 31).toUInt32).toInt32) &&& (3 : Int32))), .val (.ref b6), .val (.int (1 : Int32)), .val (.int (1 : Int32)), .val (.int (1 : Int32))] [(.int (1 : Int32))])) _
              refine XS.ifNo X24.here hx rfl (hb hby at_322) rfl ((if0 _ _).trans (feq (by decide : ¬ ((1 : Int32) = (0 : Int32)))).1) ?_
              show Steps p.tables e below (T24.setTop (mkF m 325 #[.val (.long q0), .second, .val (.long q1), .second, .val (.long q2), .second, .val (.long q3), .second, .val (.int p4), .val (.long mn1_1), .second, .val (.long mx1_1), .second, .val (.int md_2), .val (.int ub_2), .val (.long mn2_3), .second, .val (.long mx2_3), .second, .val (.ref b4), .val (.ref b6), .val (.int (((p4.toUInt32 >>> ((4 : Int32) &&& 31).toUInt32).toInt32) &&& (3 : Int32))), .val (.ref b6), .val (.int (1 : Int32)), .val (.int (1 : Int32)), .val (.int (1 : Int32))] [])) _
              refine XS.aload X24.here hx rfl (hb hby at_325) rfl rfl ?_
              show Steps p.tables e below (T24.setTop (mkF m 327 #[.val (.long q0), .second, .val (.long q1), .second, .val (.long q2), .second, .val (.long q3), .second, .val (.int p4), .val (.long mn1_1), .second, .val (.long mx1_1), .second, .val (.int md_2), .val (.int ub_2), .val (.long mn2_3), .second, .val (.long mx2_3), .second, .val (.ref b4), .val (.ref b6), .val (.int (((p4.toUInt32 >>> ((4 : Int32) &&& 31).toUInt32).toInt32) &&& (3 : Int32))), .val (.ref b6), .val (.int (1 : Int32)), .val (.int (1 : Int32)), .val (.int (1 : Int32))] [(.ref b4)])) _
              refine XS.aload X24.here hx rfl (hb hby at_327) rfl rfl ?_
              show Steps p.tables e below (T24.setTop (mkF m 329 #[.val (.long q0), .second, .val (.long q1), .second, .val (.long q2), .second, .val (.long q3), .second, .val (.int p4), .val (.long mn1_1), .second, .val (.long mx1_1), .second, .val (.int md_2), .val (.int ub_2), .val (.long mn2_3), .second, .val (.long mx2_3), .second, .val (.ref b4), .val (.ref b6), .val (.int (((p4.toUInt32 >>> ((4 : Int32) &&& 31).toUInt32).toInt32) &&& (3 : Int32))), .val (.ref b6), .val (.int (1 : Int32)), .val (.int (1 : Int32)), .val (.int (1 : Int32))] [(.ref b4), (.ref b4)])) _
              refine st25.trans ?_
              show Steps p.tables e below (T25.setTop (mkF m 332 #[.val (.long q0), .second, .val (.long q1), .second, .val (.long q2), .second, .val (.long q3), .second, .val (.int p4), .val (.long mn1_1), .second, .val (.long mx1_1), .second, .val (.int md_2), .val (.int ub_2), .val (.long mn2_3), .second, .val (.long mx2_3), .second, .val (.ref b4), .val (.ref b6), .val (.int (((p4.toUInt32 >>> ((4 : Int32) &&& 31).toUInt32).toInt32) &&& (3 : Int32))), .val (.ref b6), .val (.int (1 : Int32)), .val (.int (1 : Int32)), .val (.int (1 : Int32))] [(.int (1 : Int32))])) _
              refine XS.ifNo X25.here hx rfl (hb hby at_332) rfl ((if0 _ _).trans (feq (by decide : ¬ ((1 : Int32) = (0 : Int32)))).1) ?_
              show Steps p.tables e below (T25.setTop (mkF m 335 #[.val (.long q0), .second, .val (.long q1), .second, .val (.long q2), .second, .val (.long q3), .second, .val (.int p4), .val (.long mn1_1), .second, .val (.long mx1_1), .second, .val (.int md_2), .val (.int ub_2), .val (.long mn2_3), .second, .val (.long mx2_3), .second, .val (.ref b4), .val (.ref b6), .val (.int (((p4.toUInt32 >>> ((4 : Int32) &&& 31).toUInt32).toInt32) &&& (3 : Int32))), .val (.ref b6), .val (.int (1 : Int32)), .val (.int (1 : Int32)), .val (.int (1 : Int32))] [])) _
              refine XS.iconst X25.here hx rfl (hb hby at_335) ?_
              show Steps p.tables e below (T25.setTop (mkF m 336 #[.val (.long q0), .second, .val (.long q1), .second, .val (.long q2), .second, .val (.long q3), .second, .val (.int p4), .val (.long mn1_1), .second, .val (.long mx1_1), .second, .val (.int md_2), .val (.int ub_2), .val (.long mn2_3), .second, .val (.long mx2_3), .second, .val (.ref b4), .val (.ref b6), .val (.int (((p4.toUInt32 >>> ((4 : Int32) &&& 31).toUInt32).toInt32) &&& (3 : Int32))), .val (.ref b6), .val (.int (1 : Int32)), .val (.int (1 : Int32)), .val (.int (1 : Int32))] [(.int (1 : Int32))])) _
              refine XS.goto X25.here hx rfl (pc0 := 336) (pc' := 340) rfl (hb hby at_336) (by decide) (by decide) ?_
              show Steps p.tables e below (T25.setTop (mkF m 340 #[.val (.long q0), .second, .val (.long q1), .second, .val (.long q2), .second, .val (.long q3), .second, .val (.int p4), .val (.long mn1_1), .second, .val (.long mx1_1), .second, .val (.int md_2), .val (.int ub_2), .val (.long mn2_3), .second, .val (.long mx2_3), .second, .val (.ref b4), .val (.ref b6), .val (.int (((p4.toUInt32 >>> ((4 : Int32) &&& 31).toUInt32).toInt32) &&& (3 : Int32))), .val (.ref b6), .val (.int (1 : Int32)), .val (.int (1 : Int32)), .val (.int (1 : Int32))] [(.int (1 : Int32))])) _
              exact retN X25 hx (t := .boolean) Bd.returns (by simp) (hb hby at_340) hr
            · show Q_rm0 n0 _ T25.heap _
              rw [e25]
              exact ⟨rfl, N25⟩
          · obtain ⟨cq26, kq26, q26a, q26b, q26c⟩ := isOf hZ e21 ((P5_0.ext E6).keep Kc7)
            obtain ⟨_, _, ⟨T26, L26, k26, n26⟩, -, X26, ⟨Lc26, hQ26, l26, y26, z26⟩, st26⟩ := X21.virtualBack hx (y := MN_7) (z := MN_7) hown (mvT hZ (Wd hw 21 rfl)) (mvT hZ (Wd hw 22 rfl)) (notFace_of_selects (args := #[]) (mvT hZ (Wd hw 24 rfl))) (mvT hZ (Wd hw 24 rfl)) (mvT hZ (Wd hw 23 rfl)) (by decide) (backOf (W := 0) (rmEq_yes l Z a0 hw [] aC kC vC (b4) (b4) (mn1_1) (mx1_1) (mn1_1) (mx1_1) (T7.heap) n0 O7 GL ((P5_1.ext E6).keep Kc7 (ninS (Nat.ne_of_lt (Nat.lt_of_lt_of_le (Nat.lt_of_lt_of_le A4.lt Kc5.1) (Nat.le_of_eq g6.symm))) nin0)) ((P5_2.ext E6).keep Kc7 (ninS (Nat.ne_of_lt (Nat.lt_of_lt_of_le (Nat.lt_of_lt_of_le A4.lt Kc5.1) (Nat.le_of_eq g6.symm))) nin0)) ((P5_0.ext E6).keep Kc7) ((P5_1.ext E6).keep Kc7 (ninS (Nat.ne_of_lt (Nat.lt_of_lt_of_le (Nat.lt_of_lt_of_le A4.lt Kc5.1) (Nat.le_of_eq g6.symm))) nin0)) ((P5_2.ext E6).keep Kc7 (ninS (Nat.ne_of_lt (Nat.lt_of_lt_of_le (Nat.lt_of_lt_of_le A4.lt Kc5.1) (Nat.le_of_eq g6.symm))) nin0)) rfl rfl) hZ (Wd hw 25 rfl) (Wd hw 4 rfl) (by decide) (by decide)) q26a q26c (g := (mkF m 329 #[.val (.long q0), .second, .val (.long q1), .second, .val (.long q2), .second, .val (.long q3), .second, .val (.int p4), .val (.long mn1_1), .second, .val (.long mx1_1), .second, .val (.int md_2), .val (.int ub_2), .val (.long mn2_3), .second, .val (.long mx2_3), .second, .val (.ref b4), .val (.ref b6), .val (.int (((p4.toUInt32 >>> ((4 : Int32) &&& 31).toUInt32).toInt32) &&& (3 : Int32))), .val (.ref b6), .val (.int (1 : Int32)), .val (.int (1 : Int32)), .val (.int (1 : Int32))] [(.ref b4), (.ref b4)])) rfl (by rw [hml]; rfl) (Steps.refl _) (argsL := [(.ref b4)]) (rest := []) (lenOf pdv4 rfl) rfl (by show 2 * 0 + _ ≤ _; exact Nat.le_of_eq rfl) (hb hby at_329) (fun _ _ => ⟨rfl, e21, (by decide : 2 + 0 ≤ _), (by decide : 4 + 0 ≤ _)⟩)
            dsimp only [Pt.U, Pt.locs, Pt.cells, Pt.slots] at X26 l26 y26 z26 st26 hQ26
            subst l26 y26 z26
            obtain ⟨rfl, N26q, e26⟩ := hQ26
            have N26 := Fr.app N21 N26q
            obtain ⟨fs, hr, hrun, hended, hW, hsame⟩ := X26.leave (v := some (.int (1 : Int32))) (fun h => by rw [Bd.returns] at h; cases h)
            refine ⟨_, _, pre23 _ ?_, hrun, hended, _, _, rfl, ?_, ⟨_, rfl⟩, hW, hsame.mono (by decide) (by decide)⟩
            · show Steps p.tables e below (T21.setTop (mkF m 291 #[.val (.long q0), .second, .val (.long q1), .second, .val (.long q2), .second, .val (.long q3), .second, .val (.int p4), .val (.long mn1_1), .second, .val (.long mx1_1), .second, .val (.int md_2), .val (.int ub_2), .val (.long mn2_3), .second, .val (.long mx2_3), .second, .val (.ref b4), .val (.ref b6), .val (.int (((p4.toUInt32 >>> ((4 : Int32) &&& 31).toUInt32).toInt32) &&& (3 : Int32))), .val (.ref b6), .val (.int (1 : Int32)), .val (.int (1 : Int32)), .unset] [(.int (2 : Int32)), (.int (((p4.toUInt32 >>> ((4 : Int32) &&& 31).toUInt32).toInt32) &&& (3 : Int32)))])) _
              refine XS.icmpYes X21.here hx rfl (pc0 := 291) (pc' := 306) rfl (hb hby at_291) rfl (flt hc291_22).2.1 (by decide) (by decide) ?_
              show Steps p.tables e below (T21.setTop (mkF m 306 #[.val (.long q0), .second, .val (.long q1), .second, .val (.long q2), .second, .val (.long q3), .second, .val (.int p4), .val (.long mn1_1), .second, .val (.long mx1_1), .second, .val (.int md_2), .val (.int ub_2), .val (.long mn2_3), .second, .val (.long mx2_3), .second, .val (.ref b4), .val (.ref b6), .val (.int (((p4.toUInt32 >>> ((4 : Int32) &&& 31).toUInt32).toInt32) &&& (3 : Int32))), .val (.ref b6), .val (.int (1 : Int32)), .val (.int (1 : Int32)), .unset] [])) _
              refine XS.iconst X21.here hx rfl (hb hby at_306) ?_
              show Steps p.tables e below (T21.setTop (mkF m 307 #[.val (.long q0), .second, .val (.long q1), .second, .val (.long q2), .second, .val (.long q3), .second, .val (.int p4), .val (.long mn1_1), .second, .val (.long mx1_1), .second, .val (.int md_2), .val (.int ub_2), .val (.long mn2_3), .second, .val (.long mx2_3), .second, .val (.ref b4), .val (.ref b6), .val (.int (((p4.toUInt32 >>> ((4 : Int32) &&& 31).toUInt32).toInt32) &&& (3 : Int32))), .val (.ref b6), .val (.int (1 : Int32)), .val (.int (1 : Int32)), .unset] [(.int (1 : Int32))])) _
              refine XS.goto X21.here hx rfl (pc0 := 307) (pc' := 311) rfl (hb hby at_307) (by decide) (by decide) ?_
              show Steps p.tables e below (T21.setTop (mkF m 311 #[.val (.long q0), .second, .val (.long q1), .second, .val (.long q2), .second, .val (.long q3), .second, .val (.int p4), .val (.long mn1_1), .second, .val (.long mx1_1), .second, .val (.int md_2), .val (.int ub_2), .val (.long mn2_3), .second, .val (.long mx2_3), .second, .val (.ref b4), .val (.ref b6), .val (.int (((p4.toUInt32 >>> ((4 : Int32) &&& 31).toUInt32).toInt32) &&& (3 : Int32))), .val (.ref b6), .val (.int (1 : Int32)), .val (.int (1 : Int32)), .unset] [(.int (1 : Int32))])) _
              refine XS.istore X21.here hx rfl (hb hby at_311) rfl (l' := #[.val (.long q0), .second, .val (.long q1), .second, .val (.long q2), .second, .val (.long q3), .second, .val (.int p4), .val (.long mn1_1), .second, .val (.long mx1_1), .second, .val (.int md_2), .val (.int ub_2), .val (.long mn2_3), .second, .val (.long mx2_3), .second, .val (.ref b4), .val (.ref b6), .val (.int (((p4.toUInt32 >>> ((4 : Int32) &&& 31).toUInt32).toInt32) &&& (3 : Int32))), .val (.ref b6), .val (.int (1 : Int32)), .val (.int (1 : Int32)), .val (.int (1 : Int32))]) rfl ?_
              show Steps p.tables e below (T21.setTop (mkF m 313 #[.val (.long q0), .second, .val (.long q1), .second, .val (.long q2), .second, .val (.long q3), .second, .val (.int p4), .val (.long mn1_1), .second, .val (.long mx1_1), .second, .val (.int md_2), .val (.int ub_2), .val (.long mn2_3), .second, .val (.long mx2_3), .second, .val (.ref b4), .val (.ref b6), .val (.int (((p4.toUInt32 >>> ((4 : Int32) &&& 31).toUInt32).toInt32) &&& (3 : Int32))), .val (.ref b6), .val (.int (1 : Int32)), .val (.int (1 : Int32)), .val (.int (1 : Int32))] [])) _
              refine XS.iload X21.here hx rfl (hb hby at_313) rfl ?_
              show Steps p.tables e below (T21.setTop (mkF m 315 #[.val (.long q0), .second, .val (.long q1), .second, .val (.long q2), .second, .val (.long q3), .second, .val (.int p4), .val (.long mn1_1), .second, .val (.long mx1_1), .second, .val (.int md_2), .val (.int ub_2), .val (.long mn2_3), .second, .val (.long mx2_3), .second, .val (.ref b4), .val (.ref b6), .val (.int (((p4.toUInt32 >>> ((4 : Int32) &&& 31).toUInt32).toInt32) &&& (3 : Int32))), .val (.ref b6), .val (.int (1 : Int32)), .val (.int (1 : Int32)), .val (.int (1 : Int32))] [(.int (1 : Int32))])) _
              refine XS.iload X21.here hx rfl (hb hby at_315) rfl ?_
              show Steps p.tables e below (T21.setTop (mkF m 317 #[.val (.long q0), .second, .val (.long q1), .second, .val (.long q2), .second, .val (.long q3), .second, .val (.int p4), .val (.long mn1_1), .second, .val (.long mx1_1), .second, .val (.int md_2), .val (.int ub_2), .val (.long mn2_3), .second, .val (.long mx2_3), .second, .val (.ref b4), .val (.ref b6), .val (.int (((p4.toUInt32 >>> ((4 : Int32) &&& 31).toUInt32).toInt32) &&& (3 : Int32))), .val (.ref b6), .val (.int (1 : Int32)), .val (.int (1 : Int32)), .val (.int (1 : Int32))] [(.int (1 : Int32)), (.int (1 : Int32))])) _
              refine XS.icmpNo X21.here hx rfl (hb hby at_317) rfl (teq (by decide : (1 : Int32) = (1 : Int32))).2 ?_
              show Steps p.tables e below (T21.setTop (mkF m 320 #[.val (.long q0), .second, .val (.long q1), .second, .val (.long q2), .second, .val (.long q3), .second, .val (.int p4), .val (.long mn1_1), .second, .val (.long mx1_1), .second, .val (.int md_2), .val (.int ub_2), .val (.long mn2_3), .second, .val (.long mx2_3), .second, .val (.ref b4), .val (.ref b6), .val (.int (((p4.toUInt32 >>> ((4 : Int32) &&& 31).toUInt32).toInt32) &&& (3 : Int32))), .val (.ref b6), .val (.int (1 : Int32)), .val (.int (1 : Int32)), .val (.int (1 : Int32))] [])) _
              refine XS.iload X21.here hx rfl (hb hby at_320) rfl ?_
              show Steps p.tables e below (T21.setTop (mkF m 322 #[.val (.long q0), .second, .val (.long q1), .second, .val (.long q2), .second, .val (.long q3), .second, .val (.int p4), .val (.long mn1_1), .second, .val (.long mx1_1), .second, .val (.int md_2), .val (.int ub_2), .val (.long mn2_3), .second, .val (.long mx2_3), .second, .val (.ref b4), .val (.ref b6), .val (.int (((p4.toUInt32 >>> ((4 : Int32) &&& 31).toUInt32).toInt32) &&& (3 : Int32))), .val (.ref b6), .val (.int (1 : Int32)), .val (.int (1 : Int32)), .val (.int (1 : Int32))] [(.int (1 : Int32))])) _
              refine XS.ifNo X21.here hx rfl (hb hby at_322) rfl ((if0 _ _).trans (feq (by decide : ¬ ((1 : Int32) = (0 : Int32)))).1) ?_
              show Steps p.tables e below (T21.setTop (mkF m 325 #[.val (.long q0), .second, .val (.long q1), .second, .val (.long q2), .second, .val (.long q3), .second, .val (.int p4), .val (.long mn1_1), .second, .val (.long mx1_1), .second, .val (.int md_2), .val (.int ub_2), .val (.long mn2_3), .second, .val (.long mx2_3), .second, .val (.ref b4), .val (.ref b6), .val (.int (((p4.toUInt32 >>> ((4 : Int32) &&& 31).toUInt32).toInt32) &&& (3 : Int32))), .val (.ref b6), .val (.int (1 : Int32)), .val (.int (1 : Int32)), .val (.int (1 : Int32))] [])) _
              refine XS.aload X21.here hx rfl (hb hby at_325) rfl rfl ?_
              show Steps p.tables e below (T21.setTop (mkF m 327 #[.val (.long q0), .second, .val (.long q1), .second, .val (.long q2), .second, .val (.long q3), .second, .val (.int p4), .val (.long mn1_1), .second, .val (.long mx1_1), .second, .val (.int md_2), .val (.int ub_2), .val (.long mn2_3), .second, .val (.long mx2_3), .second, .val (.ref b4), .val (.ref b6), .val (.int (((p4.toUInt32 >>> ((4 : Int32) &&& 31).toUInt32).toInt32) &&& (3 : Int32))), .val (.ref b6), .val (.int (1 : Int32)), .val (.int (1 : Int32)), .val (.int (1 : Int32))] [(.ref b4)])) _
              refine XS.aload X21.here hx rfl (hb hby at_327) rfl rfl ?_
              show Steps p.tables e below (T21.setTop (mkF m 329 #[.val (.long q0), .second, .val (.long q1), .second, .val (.long q2), .second, .val (.long q3), .second, .val (.int p4), .val (.long mn1_1), .second, .val (.long mx1_1), .second, .val (.int md_2), .val (.int ub_2), .val (.long mn2_3), .second, .val (.long mx2_3), .second, .val (.ref b4), .val (.ref b6), .val (.int (((p4.toUInt32 >>> ((4 : Int32) &&& 31).toUInt32).toInt32) &&& (3 : Int32))), .val (.ref b6), .val (.int (1 : Int32)), .val (.int (1 : Int32)), .val (.int (1 : Int32))] [(.ref b4), (.ref b4)])) _
              refine st26.trans ?_
              show Steps p.tables e below (T26.setTop (mkF m 332 #[.val (.long q0), .second, .val (.long q1), .second, .val (.long q2), .second, .val (.long q3), .second, .val (.int p4), .val (.long mn1_1), .second, .val (.long mx1_1), .second, .val (.int md_2), .val (.int ub_2), .val (.long mn2_3), .second, .val (.long mx2_3), .second, .val (.ref b4), .val (.ref b6), .val (.int (((p4.toUInt32 >>> ((4 : Int32) &&& 31).toUInt32).toInt32) &&& (3 : Int32))), .val (.ref b6), .val (.int (1 : Int32)), .val (.int (1 : Int32)), .val (.int (1 : Int32))] [(.int (1 : Int32))])) _
              refine XS.ifNo X26.here hx rfl (hb hby at_332) rfl ((if0 _ _).trans (feq (by decide : ¬ ((1 : Int32) = (0 : Int32)))).1) ?_
              show Steps p.tables e below (T26.setTop (mkF m 335 #[.val (.long q0), .second, .val (.long q1), .second, .val (.long q2), .second, .val (.long q3), .second, .val (.int p4), .val (.long mn1_1), .second, .val (.long mx1_1), .second, .val (.int md_2), .val (.int ub_2), .val (.long mn2_3), .second, .val (.long mx2_3), .second, .val (.ref b4), .val (.ref b6), .val (.int (((p4.toUInt32 >>> ((4 : Int32) &&& 31).toUInt32).toInt32) &&& (3 : Int32))), .val (.ref b6), .val (.int (1 : Int32)), .val (.int (1 : Int32)), .val (.int (1 : Int32))] [])) _
              refine XS.iconst X26.here hx rfl (hb hby at_335) ?_
              show Steps p.tables e below (T26.setTop (mkF m 336 #[.val (.long q0), .second, .val (.long q1), .second, .val (.long q2), .second, .val (.long q3), .second, .val (.int p4), .val (.long mn1_1), .second, .val (.long mx1_1), .second, .val (.int md_2), .val (.int ub_2), .val (.long mn2_3), .second, .val (.long mx2_3), .second, .val (.ref b4), .val (.ref b6), .val (.int (((p4.toUInt32 >>> ((4 : Int32) &&& 31).toUInt32).toInt32) &&& (3 : Int32))), .val (.ref b6), .val (.int (1 : Int32)), .val (.int (1 : Int32)), .val (.int (1 : Int32))] [(.int (1 : Int32))])) _
              refine XS.goto X26.here hx rfl (pc0 := 336) (pc' := 340) rfl (hb hby at_336) (by decide) (by decide) ?_
              show Steps p.tables e below (T26.setTop (mkF m 340 #[.val (.long q0), .second, .val (.long q1), .second, .val (.long q2), .second, .val (.long q3), .second, .val (.int p4), .val (.long mn1_1), .second, .val (.long mx1_1), .second, .val (.int md_2), .val (.int ub_2), .val (.long mn2_3), .second, .val (.long mx2_3), .second, .val (.ref b4), .val (.ref b6), .val (.int (((p4.toUInt32 >>> ((4 : Int32) &&& 31).toUInt32).toInt32) &&& (3 : Int32))), .val (.ref b6), .val (.int (1 : Int32)), .val (.int (1 : Int32)), .val (.int (1 : Int32))] [(.int (1 : Int32))])) _
              exact retN X26 hx (t := .boolean) Bd.returns (by simp) (hb hby at_340) hr
            · show Q_rm0 n0 _ T26.heap _
              rw [e26]
              exact ⟨rfl, N26⟩
        · have hn1 : mn2_3 = mn1_1 := ((own_lceq _ _).1 hc261_17).symm
          have hn1' : mn1_1 = mn2_3 := ((own_lceq _ _).1 hc261_17)
          have hn2 : ¬ (mx2_3 = mx1_1) := (fun q => hc269_19 ((own_lceq _ _).2 q.symm))
          have hn2' : ¬ (mx1_1 = mx2_3) := (fun q => hc269_19 ((own_lceq _ _).2 q))
          obtain ⟨cq27, kq27, q27a, q27b, q27c⟩ := isOf hZ rfl ((P5_0.ext E6).keep Kc7)
          obtain ⟨_, _, ⟨T27, L27, k27, n27⟩, -, X27, ⟨Lc27, hQ27, l27, y27, z27⟩, st27⟩ := X7.virtualBack hx (y := MN_7) (z := MN_7) hown (mvT hZ (Wd hw 21 rfl)) (mvT hZ (Wd hw 22 rfl)) (notFace_of_selects (args := #[]) (mvT hZ (Wd hw 24 rfl))) (mvT hZ (Wd hw 24 rfl)) (mvT hZ (Wd hw 23 rfl)) (by decide) (backOf (W := 0) (rmEq_no2 l Z a0 hw [] aC kC vC (b4) (b6) (mn1_1) (mx1_1) (mn2_3) (mx2_3) (T7.heap) n0 O7 GL ((P5_1.ext E6).keep Kc7 (ninS (Nat.ne_of_lt (Nat.lt_of_lt_of_le (Nat.lt_of_lt_of_le A4.lt Kc5.1) (Nat.le_of_eq g6.symm))) nin0)) ((P5_2.ext E6).keep Kc7 (ninS (Nat.ne_of_lt (Nat.lt_of_lt_of_le (Nat.lt_of_lt_of_le A4.lt Kc5.1) (Nat.le_of_eq g6.symm))) nin0)) P7_0 P7_1 P7_2 hn1 hn2) hZ (Wd hw 25 rfl) (Wd hw 4 rfl) (by decide) (by decide)) q27a q27c (g := (mkF m 283 #[.val (.long q0), .second, .val (.long q1), .second, .val (.long q2), .second, .val (.long q3), .second, .val (.int p4), .val (.long mn1_1), .second, .val (.long mx1_1), .second, .val (.int md_2), .val (.int ub_2), .val (.long mn2_3), .second, .val (.long mx2_3), .second, .val (.ref b4), .val (.ref b6), .val (.int (((p4.toUInt32 >>> ((4 : Int32) &&& 31).toUInt32).toInt32) &&& (3 : Int32))), .val (.ref b6), .val (.int (0 : Int32)), .unset, .unset] [(.ref b6), (.ref b4)])) rfl (by rw [hml]; rfl) (Steps.refl _) (argsL := [(.ref b6)]) (rest := []) (lenOf pdv4 rfl) rfl (by show 2 * 0 + _ ≤ _; exact Nat.le_of_eq rfl) (hb hby at_283) (fun _ _ => ⟨rfl, rfl, (by decide : 2 + 0 ≤ _), (by decide : 4 + 0 ≤ _)⟩)
          dsimp only [Pt.U, Pt.locs, Pt.cells, Pt.slots] at X27 l27 y27 z27 st27 hQ27
          subst l27 y27 z27
          obtain ⟨rfl, N27q, e27⟩ := hQ27
          have N27 := Fr.app N7 N27q
          have pre29 : ∀ t, Steps p.tables e below (T27.setTop (mkF m 291 #[.val (.long q0), .second, .val (.long q1), .second, .val (.long q2), .second, .val (.long q3), .second, .val (.int p4), .val (.long mn1_1), .second, .val (.long mx1_1), .second, .val (.int md_2), .val (.int ub_2), .val (.long mn2_3), .second, .val (.long mx2_3), .second, .val (.ref b4), .val (.ref b6), .val (.int (((p4.toUInt32 >>> ((4 : Int32) &&& 31).toUInt32).toInt32) &&& (3 : Int32))), .val (.ref b6), .val (.int (0 : Int32)), .val (.int (0 : Int32)), .unset] [(.int (2 : Int32)), (.int (((p4.toUInt32 >>> ((4 : Int32) &&& 31).toUInt32).toInt32) &&& (3 : Int32)))])) t → Steps p.tables e below (s₁.setTop (entryFrame m #[(.long q0), (.long q1), (.long q2), (.long q3), (.int p4)] maxLocals)) t := fun t kt => by
            refine pre20 t ?_
            show Steps p.tables e below (T7.setTop (mkF m 269 #[.val (.long q0), .second, .val (.long q1), .second, .val (.long q2), .second, .val (.long q3), .second, .val (.int p4), .val (.long mn1_1), .second, .val (.long mx1_1), .second, .val (.int md_2), .val (.int ub_2), .val (.long mn2_3), .second, .val (.long mx2_3), .second, .val (.ref b4), .val (.ref b6), .val (.int (((p4.toUInt32 >>> ((4 : Int32) &&& 31).toUInt32).toInt32) &&& (3 : Int32))), .val (.ref b6), .unset, .unset, .unset] [(.int (lcmpW mx1_1 mx2_3))])) _
            refine XS.ifYes X7.here hx rfl (pc0 := 269) (pc' := 276) rfl (hb hby at_269) rfl ((if0 _ _).trans (feq hc269_19).2) (by decide) (by decide) ?_
            show Steps p.tables e below (T7.setTop (mkF m 276 #[.val (.long q0), .second, .val (.long q1), .second, .val (.long q2), .second, .val (.long q3), .second, .val (.int p4), .val (.long mn1_1), .second, .val (.long mx1_1), .second, .val (.int md_2), .val (.int ub_2), .val (.long mn2_3), .second, .val (.long mx2_3), .second, .val (.ref b4), .val (.ref b6), .val (.int (((p4.toUInt32 >>> ((4 : Int32) &&& 31).toUInt32).toInt32) &&& (3 : Int32))), .val (.ref b6), .unset, .unset, .unset] [])) _
            refine XS.iconst X7.here hx rfl (hb hby at_276) ?_
            show Steps p.tables e below (T7.setTop (mkF m 277 #[.val (.long q0), .second, .val (.long q1), .second, .val (.long q2), .second, .val (.long q3), .second, .val (.int p4), .val (.long mn1_1), .second, .val (.long mx1_1), .second, .val (.int md_2), .val (.int ub_2), .val (.long mn2_3), .second, .val (.long mx2_3), .second, .val (.ref b4), .val (.ref b6), .val (.int (((p4.toUInt32 >>> ((4 : Int32) &&& 31).toUInt32).toInt32) &&& (3 : Int32))), .val (.ref b6), .unset, .unset, .unset] [(.int (0 : Int32))])) _
            refine XS.istore X7.here hx rfl (hb hby at_277) rfl (l' := #[.val (.long q0), .second, .val (.long q1), .second, .val (.long q2), .second, .val (.long q3), .second, .val (.int p4), .val (.long mn1_1), .second, .val (.long mx1_1), .second, .val (.int md_2), .val (.int ub_2), .val (.long mn2_3), .second, .val (.long mx2_3), .second, .val (.ref b4), .val (.ref b6), .val (.int (((p4.toUInt32 >>> ((4 : Int32) &&& 31).toUInt32).toInt32) &&& (3 : Int32))), .val (.ref b6), .val (.int (0 : Int32)), .unset, .unset]) rfl ?_
            show Steps p.tables e below (T7.setTop (mkF m 279 #[.val (.long q0), .second, .val (.long q1), .second, .val (.long q2), .second, .val (.long q3), .second, .val (.int p4), .val (.long mn1_1), .second, .val (.long mx1_1), .second, .val (.int md_2), .val (.int ub_2), .val (.long mn2_3), .second, .val (.long mx2_3), .second, .val (.ref b4), .val (.ref b6), .val (.int (((p4.toUInt32 >>> ((4 : Int32) &&& 31).toUInt32).toInt32) &&& (3 : Int32))), .val (.ref b6), .val (.int (0 : Int32)), .unset, .unset] [])) _
            refine XS.aload X7.here hx rfl (hb hby at_279) rfl rfl ?_
            show Steps p.tables e below (T7.setTop (mkF m 281 #[.val (.long q0), .second, .val (.long q1), .second, .val (.long q2), .second, .val (.long q3), .second, .val (.int p4), .val (.long mn1_1), .second, .val (.long mx1_1), .second, .val (.int md_2), .val (.int ub_2), .val (.long mn2_3), .second, .val (.long mx2_3), .second, .val (.ref b4), .val (.ref b6), .val (.int (((p4.toUInt32 >>> ((4 : Int32) &&& 31).toUInt32).toInt32) &&& (3 : Int32))), .val (.ref b6), .val (.int (0 : Int32)), .unset, .unset] [(.ref b4)])) _
            refine XS.aload X7.here hx rfl (hb hby at_281) rfl rfl ?_
            show Steps p.tables e below (T7.setTop (mkF m 283 #[.val (.long q0), .second, .val (.long q1), .second, .val (.long q2), .second, .val (.long q3), .second, .val (.int p4), .val (.long mn1_1), .second, .val (.long mx1_1), .second, .val (.int md_2), .val (.int ub_2), .val (.long mn2_3), .second, .val (.long mx2_3), .second, .val (.ref b4), .val (.ref b6), .val (.int (((p4.toUInt32 >>> ((4 : Int32) &&& 31).toUInt32).toInt32) &&& (3 : Int32))), .val (.ref b6), .val (.int (0 : Int32)), .unset, .unset] [(.ref b6), (.ref b4)])) _
            refine st27.trans ?_
            show Steps p.tables e below (T27.setTop (mkF m 286 #[.val (.long q0), .second, .val (.long q1), .second, .val (.long q2), .second, .val (.long q3), .second, .val (.int p4), .val (.long mn1_1), .second, .val (.long mx1_1), .second, .val (.int md_2), .val (.int ub_2), .val (.long mn2_3), .second, .val (.long mx2_3), .second, .val (.ref b4), .val (.ref b6), .val (.int (((p4.toUInt32 >>> ((4 : Int32) &&& 31).toUInt32).toInt32) &&& (3 : Int32))), .val (.ref b6), .val (.int (0 : Int32)), .unset, .unset] [(.int (0 : Int32))])) _
            refine XS.istore X27.here hx rfl (hb hby at_286) rfl (l' := #[.val (.long q0), .second, .val (.long q1), .second, .val (.long q2), .second, .val (.long q3), .second, .val (.int p4), .val (.long mn1_1), .second, .val (.long mx1_1), .second, .val (.int md_2), .val (.int ub_2), .val (.long mn2_3), .second, .val (.long mx2_3), .second, .val (.ref b4), .val (.ref b6), .val (.int (((p4.toUInt32 >>> ((4 : Int32) &&& 31).toUInt32).toInt32) &&& (3 : Int32))), .val (.ref b6), .val (.int (0 : Int32)), .val (.int (0 : Int32)), .unset]) rfl ?_
            show Steps p.tables e below (T27.setTop (mkF m 288 #[.val (.long q0), .second, .val (.long q1), .second, .val (.long q2), .second, .val (.long q3), .second, .val (.int p4), .val (.long mn1_1), .second, .val (.long mx1_1), .second, .val (.int md_2), .val (.int ub_2), .val (.long mn2_3), .second, .val (.long mx2_3), .second, .val (.ref b4), .val (.ref b6), .val (.int (((p4.toUInt32 >>> ((4 : Int32) &&& 31).toUInt32).toInt32) &&& (3 : Int32))), .val (.ref b6), .val (.int (0 : Int32)), .val (.int (0 : Int32)), .unset] [])) _
            refine XS.iload X27.here hx rfl (hb hby at_288) rfl ?_
            show Steps p.tables e below (T27.setTop (mkF m 290 #[.val (.long q0), .second, .val (.long q1), .second, .val (.long q2), .second, .val (.long q3), .second, .val (.int p4), .val (.long mn1_1), .second, .val (.long mx1_1), .second, .val (.int md_2), .val (.int ub_2), .val (.long mn2_3), .second, .val (.long mx2_3), .second, .val (.ref b4), .val (.ref b6), .val (.int (((p4.toUInt32 >>> ((4 : Int32) &&& 31).toUInt32).toInt32) &&& (3 : Int32))), .val (.ref b6), .val (.int (0 : Int32)), .val (.int (0 : Int32)), .unset] [(.int (((p4.toUInt32 >>> ((4 : Int32) &&& 31).toUInt32).toInt32) &&& (3 : Int32)))])) _
            refine XS.iconst X27.here hx rfl (hb hby at_290) ?_
            exact kt
          by_cases hc291_28 : (((p4.toUInt32 >>> ((4 : Int32) &&& 31).toUInt32).toInt32) &&& (3 : Int32)) < (2 : Int32)
          · obtain ⟨cq30, kq30, q30a, q30b, q30c⟩ := isOf hZ e27 P7_0
            obtain ⟨_, _, ⟨T30, L30, k30, n30⟩, -, X30, ⟨Lc30, hQ30, l30, y30, z30⟩, st30⟩ := X27.virtualBack hx (y := MN_7) (z := MN_7) hown (mvT hZ (Wd hw 21 rfl)) (mvT hZ (Wd hw 22 rfl)) (notFace_of_selects (args := #[]) (mvT hZ (Wd hw 24 rfl))) (mvT hZ (Wd hw 24 rfl)) (mvT hZ (Wd hw 23 rfl)) (by decide) (backOf (W := 0) (rmEq_no2 l Z a0 hw [] aC kC vC (b6) (b4) (mn2_3) (mx2_3) (mn1_1) (mx1_1) (T7.heap) n0 O7 GL P7_1 P7_2 ((P5_0.ext E6).keep Kc7) ((P5_1.ext E6).keep Kc7 (ninS (Nat.ne_of_lt (Nat.lt_of_lt_of_le (Nat.lt_of_lt_of_le A4.lt Kc5.1) (Nat.le_of_eq g6.symm))) nin0)) ((P5_2.ext E6).keep Kc7 (ninS (Nat.ne_of_lt (Nat.lt_of_lt_of_le (Nat.lt_of_lt_of_le A4.lt Kc5.1) (Nat.le_of_eq g6.symm))) nin0)) hn1' hn2') hZ (Wd hw 25 rfl) (Wd hw 4 rfl) (by decide) (by decide)) q30a q30c (g := (mkF m 298 #[.val (.long q0), .second, .val (.long q1), .second, .val (.long q2), .second, .val (.long q3), .second, .val (.int p4), .val (.long mn1_1), .second, .val (.long mx1_1), .second, .val (.int md_2), .val (.int ub_2), .val (.long mn2_3), .second, .val (.long mx2_3), .second, .val (.ref b4), .val (.ref b6), .val (.int (((p4.toUInt32 >>> ((4 : Int32) &&& 31).toUInt32).toInt32) &&& (3 : Int32))), .val (.ref b6), .val (.int (0 : Int32)), .val (.int (0 : Int32)), .unset] [(.ref b4), (.ref b6)])) rfl (by rw [hml]; rfl) (Steps.refl _) (argsL := [(.ref b4)]) (rest := []) (lenOf pdv4 rfl) rfl (by show 2 * 0 + _ ≤ _; exact Nat.le_of_eq rfl) (hb hby at_298) (fun _ _ => ⟨rfl, e27, (by decide : 2 + 0 ≤ _), (by decide : 4 + 0 ≤ _)⟩)
            dsimp only [Pt.U, Pt.locs, Pt.cells, Pt.slots] at X30 l30 y30 z30 st30 hQ30
            subst l30 y30 z30
            obtain ⟨rfl, N30q, e30⟩ := hQ30
            have N30 := Fr.app N27 N30q
            obtain ⟨cq31, kq31, q31a, q31b, q31c⟩ := isOf hZ e30 ((P5_0.ext E6).keep Kc7)
            obtain ⟨_, _, ⟨T31, L31, k31, n31⟩, -, X31, ⟨Lc31, hQ31, l31, y31, z31⟩, st31⟩ := X30.virtualBack hx (y := MN_7) (z := MN_7) hown (mvT hZ (Wd hw 21 rfl)) (mvT hZ (Wd hw 22 rfl)) (notFace_of_selects (args := #[]) (mvT hZ (Wd hw 24 rfl))) (mvT hZ (Wd hw 24 rfl)) (mvT hZ (Wd hw 23 rfl)) (by decide) (backOf (W := 0) (rmEq_yes l Z a0 hw [] aC kC vC (b4) (b4) (mn1_1) (mx1_1) (mn1_1) (mx1_1) (T7.heap) n0 O7 GL ((P5_1.ext E6).keep Kc7 (ninS (Nat.ne_of_lt (Nat.lt_of_lt_of_le (Nat.lt_of_lt_of_le A4.lt Kc5.1) (Nat.le_of_eq g6.symm))) nin0)) ((P5_2.ext E6).keep Kc7 (ninS (Nat.ne_of_lt (Nat.lt_of_lt_of_le (Nat.lt_of_lt_of_le A4.lt Kc5.1) (Nat.le_of_eq g6.symm))) nin0)) ((P5_0.ext E6).keep Kc7) ((P5_1.ext E6).keep Kc7 (ninS (Nat.ne_of_lt (Nat.lt_of_lt_of_le (Nat.lt_of_lt_of_le A4.lt Kc5.1) (Nat.le_of_eq g6.symm))) nin0)) ((P5_2.ext E6).keep Kc7 (ninS (Nat.ne_of_lt (Nat.lt_of_lt_of_le (Nat.lt_of_lt_of_le A4.lt Kc5.1) (Nat.le_of_eq g6.symm))) nin0)) rfl rfl) hZ (Wd hw 25 rfl) (Wd hw 4 rfl) (by decide) (by decide)) q31a q31c (g := (mkF m 329 #[.val (.long q0), .second, .val (.long q1), .second, .val (.long q2), .second, .val (.long q3), .second, .val (.int p4), .val (.long mn1_1), .second, .val (.long mx1_1), .second, .val (.int md_2), .val (.int ub_2), .val (.long mn2_3), .second, .val (.long mx2_3), .second, .val (.ref b4), .val (.ref b6), .val (.int (((p4.toUInt32 >>> ((4 : Int32) &&& 31).toUInt32).toInt32) &&& (3 : Int32))), .val (.ref b6), .val (.int (0 : Int32)), .val (.int (0 : Int32)), .val (.int (1 : Int32))] [(.ref b4), (.ref b4)])) rfl (by rw [hml]; rfl) (Steps.refl _) (argsL := [(.ref b4)]) (rest := []) (lenOf pdv4 rfl) rfl (by show 2 * 0 + _ ≤ _; exact Nat.le_of_eq rfl) (hb hby at_329) (fun _ _ => ⟨rfl, e30, (by decide : 2 + 0 ≤ _), (by decide : 4 + 0 ≤ _)⟩)
            dsimp only [Pt.U, Pt.locs, Pt.cells, Pt.slots] at X31 l31 y31 z31 st31 hQ31
            subst l31 y31 z31
            obtain ⟨rfl, N31q, e31⟩ := hQ31
            have N31 := Fr.app N30 N31q
            obtain ⟨fs, hr, hrun, hended, hW, hsame⟩ := X31.leave (v := some (.int (1 : Int32))) (fun h => by rw [Bd.returns] at h; cases h)
            refine ⟨_, _, pre29 _ ?_, hrun, hended, _, _, rfl, ?_, ⟨_, rfl⟩, hW, hsame.mono (by decide) (by decide)⟩
            · show Steps p.tables e below (T27.setTop (mkF m 291 #[.val (.long q0), .second, .val (.long q1), .second, .val (.long q2), .second, .val (.long q3), .second, .val (.int p4), .val (.long mn1_1), .second, .val (.long mx1_1), .second, .val (.int md_2), .val (.int ub_2), .val (.long mn2_3), .second, .val (.long mx2_3), .second, .val (.ref b4), .val (.ref b6), .val (.int (((p4.toUInt32 >>> ((4 : Int32) &&& 31).toUInt32).toInt32) &&& (3 : Int32))), .val (.ref b6), .val (.int (0 : Int32)), .val (.int (0 : Int32)), .unset] [(.int (2 : Int32)), (.int (((p4.toUInt32 >>> ((4 : Int32) &&& 31).toUInt32).toInt32) &&& (3 : Int32)))])) _
              refine XS.icmpNo X27.here hx rfl (hb hby at_291) rfl (tlt hc291_28).2.1 ?_
              show Steps p.tables e below (T27.setTop (mkF m 294 #[.val (.long q0), .second, .val (.long q1), .second, .val (.long q2), .second, .val (.long q3), .second, .val (.int p4), .val (.long mn1_1), .second, .val (.long mx1_1), .second, .val (.int md_2), .val (.int ub_2), .val (.long mn2_3), .second, .val (.long mx2_3), .second, .val (.ref b4), .val (.ref b6), .val (.int (((p4.toUInt32 >>> ((4 : Int32) &&& 31).toUInt32).toInt32) &&& (3 : Int32))), .val (.ref b6), .val (.int (0 : Int32)), .val (.int (0 : Int32)), .unset] [])) _
              refine XS.aload X27.here hx rfl (hb hby at_294) rfl rfl ?_
              show Steps p.tables e below (T27.setTop (mkF m 296 #[.val (.long q0), .second, .val (.long q1), .second, .val (.long q2), .second, .val (.long q3), .second, .val (.int p4), .val (.long mn1_1), .second, .val (.long mx1_1), .second, .val (.int md_2), .val (.int ub_2), .val (.long mn2_3), .second, .val (.long mx2_3), .second, .val (.ref b4), .val (.ref b6), .val (.int (((p4.toUInt32 >>> ((4 : Int32) &&& 31).toUInt32).toInt32) &&& (3 : Int32))), .val (.ref b6), .val (.int (0 : Int32)), .val (.int (0 : Int32)), .unset] [(.ref b6)])) _
              refine XS.aload X27.here hx rfl (hb hby at_296) rfl rfl ?_
              show Steps p.tables e below (T27.setTop (mkF m 298 #[.val (.long q0), .second, .val (.long q1), .second, .val (.long q2), .second, .val (.long q3), .second, .val (.int p4), .val (.long mn1_1), .second, .val (.long mx1_1), .second, .val (.int md_2), .val (.int ub_2), .val (.long mn2_3), .second, .val (.long mx2_3), .second, .val (.ref b4), .val (.ref b6), .val (.int (((p4.toUInt32 >>> ((4 : Int32) &&& 31).toUInt32).toInt32) &&& (3 : Int32))), .val (.ref b6), .val (.int (0 : Int32)), .val (.int (0 : Int32)), .unset] [(.ref b4), (.ref b6)])) _
              refine st30.trans ?_
              show Steps p.tables e below (T30.setTop (mkF m 301 #[.val (.long q0), .second, .val (.long q1), .second, .val (.long q2), .second, .val (.long q3), .second, .val (.int p4), .val (.long mn1_1), .second, .val (.long mx1_1), .second, .val (.int md_2), .val (.int ub_2), .val (.long mn2_3), .second, .val (.long mx2_3), .second, .val (.ref b4), .val (.ref b6), .val (.int (((p4.toUInt32 >>> ((4 : Int32) &&& 31).toUInt32).toInt32) &&& (3 : Int32))), .val (.ref b6), .val (.int (0 : Int32)), .val (.int (0 : Int32)), .unset] [(.int (0 : Int32))])) _
              refine XS.iload X30.here hx rfl (hb hby at_301) rfl ?_
              show Steps p.tables e below (T30.setTop (mkF m 303 #[.val (.long q0), .second, .val (.long q1), .second, .val (.long q2), .second, .val (.long q3), .second, .val (.int p4), .val (.long mn1_1), .second, .val (.long mx1_1), .second, .val (.int md_2), .val (.int ub_2), .val (.long mn2_3), .second, .val (.long mx2_3), .second, .val (.ref b4), .val (.ref b6), .val (.int (((p4.toUInt32 >>> ((4 : Int32) &&& 31).toUInt32).toInt32) &&& (3 : Int32))), .val (.ref b6), .val (.int (0 : Int32)), .val (.int (0 : Int32)), .unset] [(.int (0 : Int32)), (.int (0 : Int32))])) _
              refine XS.icmpNo X30.here hx rfl (hb hby at_303) rfl (teq (by decide : (0 : Int32) = (0 : Int32))).2 ?_
              show Steps p.tables e below (T30.setTop (mkF m 306 #[.val (.long q0), .second, .val (.long q1), .second, .val (.long q2), .second, .val (.long q3), .second, .val (.int p4), .val (.long mn1_1), .second, .val (.long mx1_1), .second, .val (.int md_2), .val (.int ub_2), .val (.long mn2_3), .second, .val (.long mx2_3), .second, .val (.ref b4), .val (.ref b6), .val (.int (((p4.toUInt32 >>> ((4 : Int32) &&& 31).toUInt32).toInt32) &&& (3 : Int32))), .val (.ref b6), .val (.int (0 : Int32)), .val (.int (0 : Int32)), .unset] [])) _
              refine XS.iconst X30.here hx rfl (hb hby at_306) ?_
              show Steps p.tables e below (T30.setTop (mkF m 307 #[.val (.long q0), .second, .val (.long q1), .second, .val (.long q2), .second, .val (.long q3), .second, .val (.int p4), .val (.long mn1_1), .second, .val (.long mx1_1), .second, .val (.int md_2), .val (.int ub_2), .val (.long mn2_3), .second, .val (.long mx2_3), .second, .val (.ref b4), .val (.ref b6), .val (.int (((p4.toUInt32 >>> ((4 : Int32) &&& 31).toUInt32).toInt32) &&& (3 : Int32))), .val (.ref b6), .val (.int (0 : Int32)), .val (.int (0 : Int32)), .unset] [(.int (1 : Int32))])) _
              refine XS.goto X30.here hx rfl (pc0 := 307) (pc' := 311) rfl (hb hby at_307) (by decide) (by decide) ?_
              show Steps p.tables e below (T30.setTop (mkF m 311 #[.val (.long q0), .second, .val (.long q1), .second, .val (.long q2), .second, .val (.long q3), .second, .val (.int p4), .val (.long mn1_1), .second, .val (.long mx1_1), .second, .val (.int md_2), .val (.int ub_2), .val (.long mn2_3), .second, .val (.long mx2_3), .second, .val (.ref b4), .val (.ref b6), .val (.int (((p4.toUInt32 >>> ((4 : Int32) &&& 31).toUInt32).toInt32) &&& (3 : Int32))), .val (.ref b6), .val (.int (0 : Int32)), .val (.int (0 : Int32)), .unset] [(.int (1 : Int32))])) _
              refine XS.istore X30.here hx rfl (hb hby at_311) rfl (l' := #[.val (.long q0), .second, .val (.long q1), .second, .val (.long q2), .second, .val (.long q3), .second, .val (.int p4), .val (.long mn1_1), .second, .val (.long mx1_1), .second, .val (.int md_2), .val (.int ub_2), .val (.long mn2_3), .second, .val (.long mx2_3), .second, .val (.ref b4), .val (.ref b6), .val (.int (((p4.toUInt32 >>> ((4 : Int32) &&& 31).toUInt32).toInt32) &&& (3 : Int32))), .val (.ref b6), .val (.int (0 : Int32)), .val (.int (0 : Int32)), .val (.int (1 : Int32))]) rfl ?_
              show Steps p.tables e below (T30.setTop (mkF m 313 #[.val (.long q0), .second, .val (.long q1), .second, .val (.long q2), .second, .val (.long q3), .second, .val (.int p4), .val (.long mn1_1), .second, .val (.long mx1_1), .second, .val (.int md_2), .val (.int ub_2), .val (.long mn2_3), .second, .val (.long mx2_3), .second, .val (.ref b4), .val (.ref b6), .val (.int (((p4.toUInt32 >>> ((4 : Int32) &&& 31).toUInt32).toInt32) &&& (3 : Int32))), .val (.ref b6), .val (.int (0 : Int32)), .val (.int (0 : Int32)), .val (.int (1 : Int32))] [])) _
              refine XS.iload X30.here hx rfl (hb hby at_313) rfl ?_
              show Steps p.tables e below (T30.setTop (mkF m 315 #[.val (.long q0), .second, .val (.long q1), .second, .val (.long q2), .second, .val (.long q3), .second, .val (.int p4), .val (.long mn1_1), .second, .val (.long mx1_1), .second, .val (.int md_2), .val (.int ub_2), .val (.long mn2_3), .second, .val (.long mx2_3), .second, .val (.ref b4), .val (.ref b6), .val (.int (((p4.toUInt32 >>> ((4 : Int32) &&& 31).toUInt32).toInt32) &&& (3 : Int32))), .val (.ref b6), .val (.int (0 : Int32)), .val (.int (0 : Int32)), .val (.int (1 : Int32))] [(.int (0 : Int32))])) _
              refine XS.iload X30.here hx rfl (hb hby at_315) rfl ?_
              show Steps p.tables e below (T30.setTop (mkF m 317 #[.val (.long q0), .second, .val (.long q1), .second, .val (.long q2), .second, .val (.long q3), .second, .val (.int p4), .val (.long mn1_1), .second, .val (.long mx1_1), .second, .val (.int md_2), .val (.int ub_2), .val (.long mn2_3), .second, .val (.long mx2_3), .second, .val (.ref b4), .val (.ref b6), .val (.int (((p4.toUInt32 >>> ((4 : Int32) &&& 31).toUInt32).toInt32) &&& (3 : Int32))), .val (.ref b6), .val (.int (0 : Int32)), .val (.int (0 : Int32)), .val (.int (1 : Int32))] [(.int (0 : Int32)), (.int (0 : Int32))])) _
              refine XS.icmpNo X30.here hx rfl (hb hby at_317) rfl (teq (by decide : (0 : Int32) = (0 : Int32))).2 ?_
              show Steps p.tables e below (T30.setTop (mkF m 320 #[.val (.long q0), .second, .val (.long q1), .second, .val (.long q2), .second, .val (.long q3), .second, .val (.int p4), .val (.long mn1_1), .second, .val (.long mx1_1), .second, .val (.int md_2), .val (.int ub_2), .val (.long mn2_3), .second, .val (.long mx2_3), .second, .val (.ref b4), .val (.ref b6), .val (.int (((p4.toUInt32 >>> ((4 : Int32) &&& 31).toUInt32).toInt32) &&& (3 : Int32))), .val (.ref b6), .val (.int (0 : Int32)), .val (.int (0 : Int32)), .val (.int (1 : Int32))] [])) _
              refine XS.iload X30.here hx rfl (hb hby at_320) rfl ?_
              show Steps p.tables e below (T30.setTop (mkF m 322 #[.val (.long q0), .second, .val (.long q1), .second, .val (.long q2), .second, .val (.long q3), .second, .val (.int p4), .val (.long mn1_1), .second, .val (.long mx1_1), .second, .val (.int md_2), .val (.int ub_2), .val (.long mn2_3), .second, .val (.long mx2_3), .second, .val (.ref b4), .val (.ref b6), .val (.int (((p4.toUInt32 >>> ((4 : Int32) &&& 31).toUInt32).toInt32) &&& (3 : Int32))), .val (.ref b6), .val (.int (0 : Int32)), .val (.int (0 : Int32)), .val (.int (1 : Int32))] [(.int (1 : Int32))])) _
              refine XS.ifNo X30.here hx rfl (hb hby at_322) rfl ((if0 _ _).trans (feq (by decide : ¬ ((1 : Int32) = (0 : Int32)))).1) ?_
              show Steps p.tables e below (T30.setTop (mkF m 325 #[.val (.long q0), .second, .val (.long q1), .second, .val (.long q2), .second, .val (.long q3), .second, .val (.int p4), .val (.long mn1_1), .second, .val (.long mx1_1), .second, .val (.int md_2), .val (.int ub_2), .val (.long mn2_3), .second, .val (.long mx2_3), .second, .val (.ref b4), .val (.ref b6), .val (.int (((p4.toUInt32 >>> ((4 : Int32) &&& 31).toUInt32).toInt32) &&& (3 : Int32))), .val (.ref b6), .val (.int (0 : Int32)), .val (.int (0 : Int32)), .val (.int (1 : Int32))] [])) _
              refine XS.aload X30.here hx rfl (hb hby at_325) rfl rfl ?_
              show Steps p.tables e below (T30.setTop (mkF m 327 #[.val (.long q0), .second, .val (.long q1), .second, .val (.long q2), .second, .val (.long q3), .second, .val (.int p4), .val (.long mn1_1), .second, .val (.long mx1_1), .second, .val (.int md_2), .val (.int ub_2), .val (.long mn2_3), .second, .val (.long mx2_3), .second, .val (.ref b4), .val (.ref b6), .val (.int (((p4.toUInt32 >>> ((4 : Int32) &&& 31).toUInt32).toInt32) &&& (3 : Int32))), .val (.ref b6), .val (.int (0 : Int32)), .val (.int (0 : Int32)), .val (.int (1 : Int32))] [(.ref b4)])) _
              refine XS.aload X30.here hx rfl (hb hby at_327) rfl rfl ?_
              show Steps p.tables e below (T30.setTop (mkF m 329 #[.val (.long q0), .second, .val (.long q1), .second, .val (.long q2), .second, .val (.long q3), .second, .val (.int p4), .val (.long mn1_1), .second, .val (.long mx1_1), .second, .val (.int md_2), .val (.int ub_2), .val (.long mn2_3), .second, .val (.long mx2_3), .second, .val (.ref b4), .val (.ref b6), .val (.int (((p4.toUInt32 >>> ((4 : Int32) &&& 31).toUInt32).toInt32) &&& (3 : Int32))), .val (.ref b6), .val (.int (0 : Int32)), .val (.int (0 : Int32)), .val (.int (1 : Int32))] [(.ref b4), (.ref b4)])) _
              refine st31.trans ?_
              show Steps p.tables e below (T31.setTop (mkF m 332 #[.val (.long q0), .second, .val (.long q1), .second, .val (.long q2), .second, .val (.long q3), .second, .val (.int p4), .val (.long mn1_1), .second, .val (.long mx1_1), .second, .val (.int md_2), .val (.int ub_2), .val (.long mn2_3), .second, .val (.long mx2_3), .second, .val (.ref b4), .val (.ref b6), .val (.int (((p4.toUInt32 >>> ((4 : Int32) &&& 31).toUInt32).toInt32) &&& (3 : Int32))), .val (.ref b6), .val (.int (0 : Int32)), .val (.int (0 : Int32)), .val (.int (1 : Int32))] [(.int (1 : Int32))])) _
              refine XS.ifNo X31.here hx rfl (hb hby at_332) rfl ((if0 _ _).trans (feq (by decide : ¬ ((1 : Int32) = (0 : Int32)))).1) ?_
              show Steps p.tables e below (T31.setTop (mkF m 335 #[.val (.long q0), .second, .val (.long q1), .second, .val (.long q2), .second, .val (.long q3), .second, .val (.int p4), .val (.long mn1_1), .second, .val (.long mx1_1), .second, .val (.int md_2), .val (.int ub_2), .val (.long mn2_3), .second, .val (.long mx2_3), .second, .val (.ref b4), .val (.ref b6), .val (.int (((p4.toUInt32 >>> ((4 : Int32) &&& 31).toUInt32).toInt32) &&& (3 : Int32))), .val (.ref b6), .val (.int (0 : Int32)), .val (.int (0 : Int32)), .val (.int (1 : Int32))] [])) _
              refine XS.iconst X31.here hx rfl (hb hby at_335) ?_
              show Steps p.tables e below (T31.setTop (mkF m 336 #[.val (.long q0), .second, .val (.long q1), .second, .val (.long q2), .second, .val (.long q3), .second, .val (.int p4), .val (.long mn1_1), .second, .val (.long mx1_1), .second, .val (.int md_2), .val (.int ub_2), .val (.long mn2_3), .second, .val (.long mx2_3), .second, .val (.ref b4), .val (.ref b6), .val (.int (((p4.toUInt32 >>> ((4 : Int32) &&& 31).toUInt32).toInt32) &&& (3 : Int32))), .val (.ref b6), .val (.int (0 : Int32)), .val (.int (0 : Int32)), .val (.int (1 : Int32))] [(.int (1 : Int32))])) _
              refine XS.goto X31.here hx rfl (pc0 := 336) (pc' := 340) rfl (hb hby at_336) (by decide) (by decide) ?_
              show Steps p.tables e below (T31.setTop (mkF m 340 #[.val (.long q0), .second, .val (.long q1), .second, .val (.long q2), .second, .val (.long q3), .second, .val (.int p4), .val (.long mn1_1), .second, .val (.long mx1_1), .second, .val (.int md_2), .val (.int ub_2), .val (.long mn2_3), .second, .val (.long mx2_3), .second, .val (.ref b4), .val (.ref b6), .val (.int (((p4.toUInt32 >>> ((4 : Int32) &&& 31).toUInt32).toInt32) &&& (3 : Int32))), .val (.ref b6), .val (.int (0 : Int32)), .val (.int (0 : Int32)), .val (.int (1 : Int32))] [(.int (1 : Int32))])) _
              exact retN X31 hx (t := .boolean) Bd.returns (by simp) (hb hby at_340) hr
            · show Q_rm0 n0 _ T31.heap _
              rw [e31]
              exact ⟨rfl, N31⟩
          · obtain ⟨cq32, kq32, q32a, q32b, q32c⟩ := isOf hZ e27 ((P5_0.ext E6).keep Kc7)
            obtain ⟨_, _, ⟨T32, L32, k32, n32⟩, -, X32, ⟨Lc32, hQ32, l32, y32, z32⟩, st32⟩ := X27.virtualBack hx (y := MN_7) (z := MN_7) hown (mvT hZ (Wd hw 21 rfl)) (mvT hZ (Wd hw 22 rfl)) (notFace_of_selects (args := #[]) (mvT hZ (Wd hw 24 rfl))) (mvT hZ (Wd hw 24 rfl)) (mvT hZ (Wd hw 23 rfl)) (by decide) (backOf (W := 0) (rmEq_yes l Z a0 hw [] aC kC vC (b4) (b4) (mn1_1) (mx1_1) (mn1_1) (mx1_1) (T7.heap) n0 O7 GL ((P5_1.ext E6).keep Kc7 (ninS (Nat.ne_of_lt (Nat.lt_of_lt_of_le (Nat.lt_of_lt_of_le A4.lt Kc5.1) (Nat.le_of_eq g6.symm))) nin0)) ((P5_2.ext E6).keep Kc7 (ninS (Nat.ne_of_lt (Nat.lt_of_lt_of_le (Nat.lt_of_lt_of_le A4.lt Kc5.1) (Nat.le_of_eq g6.symm))) nin0)) ((P5_0.ext E6).keep Kc7) ((P5_1.ext E6).keep Kc7 (ninS (Nat.ne_of_lt (Nat.lt_of_lt_of_le (Nat.lt_of_lt_of_le A4.lt Kc5.1) (Nat.le_of_eq g6.symm))) nin0)) ((P5_2.ext E6).keep Kc7 (ninS (Nat.ne_of_lt (Nat.lt_of_lt_of_le (Nat.lt_of_lt_of_le A4.lt Kc5.1) (Nat.le_of_eq g6.symm))) nin0)) rfl rfl) hZ (Wd hw 25 rfl) (Wd hw 4 rfl) (by decide) (by decide)) q32a q32c (g := (mkF m 329 #[.val (.long q0), .second, .val (.long q1), .second, .val (.long q2), .second, .val (.long q3), .second, .val (.int p4), .val (.long mn1_1), .second, .val (.long mx1_1), .second, .val (.int md_2), .val (.int ub_2), .val (.long mn2_3), .second, .val (.long mx2_3), .second, .val (.ref b4), .val (.ref b6), .val (.int (((p4.toUInt32 >>> ((4 : Int32) &&& 31).toUInt32).toInt32) &&& (3 : Int32))), .val (.ref b6), .val (.int (0 : Int32)), .val (.int (0 : Int32)), .val (.int (1 : Int32))] [(.ref b4), (.ref b4)])) rfl (by rw [hml]; rfl) (Steps.refl _) (argsL := [(.ref b4)]) (rest := []) (lenOf pdv4 rfl) rfl (by show 2 * 0 + _ ≤ _; exact Nat.le_of_eq rfl) (hb hby at_329) (fun _ _ => ⟨rfl, e27, (by decide : 2 + 0 ≤ _), (by decide : 4 + 0 ≤ _)⟩)
            dsimp only [Pt.U, Pt.locs, Pt.cells, Pt.slots] at X32 l32 y32 z32 st32 hQ32
            subst l32 y32 z32
            obtain ⟨rfl, N32q, e32⟩ := hQ32
            have N32 := Fr.app N27 N32q
            obtain ⟨fs, hr, hrun, hended, hW, hsame⟩ := X32.leave (v := some (.int (1 : Int32))) (fun h => by rw [Bd.returns] at h; cases h)
            refine ⟨_, _, pre29 _ ?_, hrun, hended, _, _, rfl, ?_, ⟨_, rfl⟩, hW, hsame.mono (by decide) (by decide)⟩
            · show Steps p.tables e below (T27.setTop (mkF m 291 #[.val (.long q0), .second, .val (.long q1), .second, .val (.long q2), .second, .val (.long q3), .second, .val (.int p4), .val (.long mn1_1), .second, .val (.long mx1_1), .second, .val (.int md_2), .val (.int ub_2), .val (.long mn2_3), .second, .val (.long mx2_3), .second, .val (.ref b4), .val (.ref b6), .val (.int (((p4.toUInt32 >>> ((4 : Int32) &&& 31).toUInt32).toInt32) &&& (3 : Int32))), .val (.ref b6), .val (.int (0 : Int32)), .val (.int (0 : Int32)), .unset] [(.int (2 : Int32)), (.int (((p4.toUInt32 >>> ((4 : Int32) &&& 31).toUInt32).toInt32) &&& (3 : Int32)))])) _
              refine XS.icmpYes X27.here hx rfl (pc0 := 291) (pc' := 306) rfl (hb hby at_291) rfl (flt hc291_28).2.1 (by decide) (by decide) ?_
              show Steps p.tables e below (T27.setTop (mkF m 306 #[.val (.long q0), .second, .val (.long q1), .second, .val (.long q2), .second, .val (.long q3), .second, .val (.int p4), .val (.long mn1_1), .second, .val (.long mx1_1), .second, .val (.int md_2), .val (.int ub_2), .val (.long mn2_3), .second, .val (.long mx2_3), .second, .val (.ref b4), .val (.ref b6), .val (.int (((p4.toUInt32 >>> ((4 : Int32) &&& 31).toUInt32).toInt32) &&& (3 : Int32))), .val (.ref b6), .val (.int (0 : Int32)), .val (.int (0 : Int32)), .unset] [])) _
              refine XS.iconst X27.here hx rfl (hb hby at_306) ?_
              show Steps p.tables e below (T27.setTop (mkF m 307 #[.val (.long q0), .second, .val (.long q1), .second, .val (.long q2), .second, .val (.long q3), .second, .val (.int p4), .val (.long mn1_1), .second, .val (.long mx1_1), .second, .val (.int md_2), .val (.int ub_2), .val (.long mn2_3), .second, .val (.long mx2_3), .second, .val (.ref b4), .val (.ref b6), .val (.int (((p4.toUInt32 >>> ((4 : Int32) &&& 31).toUInt32).toInt32) &&& (3 : Int32))), .val (.ref b6), .val (.int (0 : Int32)), .val (.int (0 : Int32)), .unset] [(.int (1 : Int32))])) _
              refine XS.goto X27.here hx rfl (pc0 := 307) (pc' := 311) rfl (hb hby at_307) (by decide) (by decide) ?_
              show Steps p.tables e below (T27.setTop (mkF m 311 #[.val (.long q0), .second, .val (.long q1), .second, .val (.long q2), .second, .val (.long q3), .second, .val (.int p4), .val (.long mn1_1), .second, .val (.long mx1_1), .second, .val (.int md_2), .val (.int ub_2), .val (.long mn2_3), .second, .val (.long mx2_3), .second, .val (.ref b4), .val (.ref b6), .val (.int (((p4.toUInt32 >>> ((4 : Int32) &&& 31).toUInt32).toInt32) &&& (3 : Int32))), .val (.ref b6), .val (.int (0 : Int32)), .val (.int (0 : Int32)), .unset] [(.int (1 : Int32))])) _
              refine XS.istore X27.here hx rfl (hb hby at_311) rfl (l' := #[.val (.long q0), .second, .val (.long q1), .second, .val (.long q2), .second, .val (.long q3), .second, .val (.int p4), .val (.long mn1_1), .second, .val (.long mx1_1), .second, .val (.int md_2), .val (.int ub_2), .val (.long mn2_3), .second, .val (.long mx2_3), .second, .val (.ref b4), .val (.ref b6), .val (.int (((p4.toUInt32 >>> ((4 : Int32) &&& 31).toUInt32).toInt32) &&& (3 : Int32))), .val (.ref b6), .val (.int (0 : Int32)), .val (.int (0 : Int32)), .val (.int (1 : Int32))]) rfl ?_
              show Steps p.tables e below (T27.setTop (mkF m 313 #[.val (.long q0), .second, .val (.long q1), .second, .val (.long q2), .second, .val (.long q3), .second, .val (.int p4), .val (.long mn1_1), .second, .val (.long mx1_1), .second, .val (.int md_2), .val (.int ub_2), .val (.long mn2_3), .second, .val (.long mx2_3), .second, .val (.ref b4), .val (.ref b6), .val (.int (((p4.toUInt32 >>> ((4 : Int32) &&& 31).toUInt32).toInt32) &&& (3 : Int32))), .val (.ref b6), .val (.int (0 : Int32)), .val (.int (0 : Int32)), .val (.int (1 : Int32))] [])) _
              refine XS.iload X27.here hx rfl (hb hby at_313) rfl ?_
              show Steps p.tables e below (T27.setTop (mkF m 315 #[.val (.long q0), .second, .val (.long q1), .second, .val (.long q2), .second, .val (.long q3), .second, .val (.int p4), .val (.long mn1_1), .second, .val (.long mx1_1), .second, .val (.int md_2), .val (.int ub_2), .val (.long mn2_3), .second, .val (.long mx2_3), .second, .val (.ref b4), .val (.ref b6), .val (.int (((p4.toUInt32 >>> ((4 : Int32) &&& 31).toUInt32).toInt32) &&& (3 : Int32))), .val (.ref b6), .val (.int (0 : Int32)), .val (.int (0 : Int32)), .val (.int (1 : Int32))] [(.int (0 : Int32))])) _
              refine XS.iload X27.here hx rfl (hb hby at_315) rfl ?_
              show Steps p.tables e below (T27.setTop (mkF m 317 #[.val (.long q0), .second, .val (.long q1), .second, .val (.long q2), .second, .val (.long q3), .second, .val (.int p4), .val (.long mn1_1), .second, .val (.long mx1_1), .second, .val (.int md_2), .val (.int ub_2), .val (.long mn2_3), .second, .val (.long mx2_3), .second, .val (.ref b4), .val (.ref b6), .val (.int (((p4.toUInt32 >>> ((4 : Int32) &&& 31).toUInt32).toInt32) &&& (3 : Int32))), .val (.ref b6), .val (.int (0 : Int32)), .val (.int (0 : Int32)), .val (.int (1 : Int32))] [(.int (0 : Int32)), (.int (0 : Int32))])) _
              refine XS.icmpNo X27.here hx rfl (hb hby at_317) rfl (teq (by decide : (0 : Int32) = (0 : Int32))).2 ?_
              show Steps p.tables e below (T27.setTop (mkF m 320 #[.val (.long q0), .second, .val (.long q1), .second, .val (.long q2), .second, .val (.long q3), .second, .val (.int p4), .val (.long mn1_1), .second, .val (.long mx1_1), .second, .val (.int md_2), .val (.int ub_2), .val (.long mn2_3), .second, .val (.long mx2_3), .second, .val (.ref b4), .val (.ref b6), .val (.int (((p4.toUInt32 >>> ((4 : Int32) &&& 31).toUInt32).toInt32) &&& (3 : Int32))), .val (.ref b6), .val (.int (0 : Int32)), .val (.int (0 : Int32)), .val (.int (1 : Int32))] [])) _
              refine XS.iload X27.here hx rfl (hb hby at_320) rfl ?_
              show Steps p.tables e below (T27.setTop (mkF m 322 #[.val (.long q0), .second, .val (.long q1), .second, .val (.long q2), .second, .val (.long q3), .second, .val (.int p4), .val (.long mn1_1), .second, .val (.long mx1_1), .second, .val (.int md_2), .val (.int ub_2), .val (.long mn2_3), .second, .val (.long mx2_3), .second, .val (.ref b4), .val (.ref b6), .val (.int (((p4.toUInt32 >>> ((4 : Int32) &&& 31).toUInt32).toInt32) &&& (3 : Int32))), .val (.ref b6), .val (.int (0 : Int32)), .val (.int (0 : Int32)), .val (.int (1 : Int32))] [(.int (1 : Int32))])) _
              refine XS.ifNo X27.here hx rfl (hb hby at_322) rfl ((if0 _ _).trans (feq (by decide : ¬ ((1 : Int32) = (0 : Int32)))).1) ?_
              show Steps p.tables e below (T27.setTop (mkF m 325 #[.val (.long q0), .second, .val (.long q1), .second, .val (.long q2), .second, .val (.long q3), .second, .val (.int p4), .val (.long mn1_1), .second, .val (.long mx1_1), .second, .val (.int md_2), .val (.int ub_2), .val (.long mn2_3), .second, .val (.long mx2_3), .second, .val (.ref b4), .val (.ref b6), .val (.int (((p4.toUInt32 >>> ((4 : Int32) &&& 31).toUInt32).toInt32) &&& (3 : Int32))), .val (.ref b6), .val (.int (0 : Int32)), .val (.int (0 : Int32)), .val (.int (1 : Int32))] [])) _
              refine XS.aload X27.here hx rfl (hb hby at_325) rfl rfl ?_
              show Steps p.tables e below (T27.setTop (mkF m 327 #[.val (.long q0), .second, .val (.long q1), .second, .val (.long q2), .second, .val (.long q3), .second, .val (.int p4), .val (.long mn1_1), .second, .val (.long mx1_1), .second, .val (.int md_2), .val (.int ub_2), .val (.long mn2_3), .second, .val (.long mx2_3), .second, .val (.ref b4), .val (.ref b6), .val (.int (((p4.toUInt32 >>> ((4 : Int32) &&& 31).toUInt32).toInt32) &&& (3 : Int32))), .val (.ref b6), .val (.int (0 : Int32)), .val (.int (0 : Int32)), .val (.int (1 : Int32))] [(.ref b4)])) _
              refine XS.aload X27.here hx rfl (hb hby at_327) rfl rfl ?_
              show Steps p.tables e below (T27.setTop (mkF m 329 #[.val (.long q0), .second, .val (.long q1), .second, .val (.long q2), .second, .val (.long q3), .second, .val (.int p4), .val (.long mn1_1), .second, .val (.long mx1_1), .second, .val (.int md_2), .val (.int ub_2), .val (.long mn2_3), .second, .val (.long mx2_3), .second, .val (.ref b4), .val (.ref b6), .val (.int (((p4.toUInt32 >>> ((4 : Int32) &&& 31).toUInt32).toInt32) &&& (3 : Int32))), .val (.ref b6), .val (.int (0 : Int32)), .val (.int (0 : Int32)), .val (.int (1 : Int32))] [(.ref b4), (.ref b4)])) _
              refine st32.trans ?_
              show Steps p.tables e below (T32.setTop (mkF m 332 #[.val (.long q0), .second, .val (.long q1), .second, .val (.long q2), .second, .val (.long q3), .second, .val (.int p4), .val (.long mn1_1), .second, .val (.long mx1_1), .second, .val (.int md_2), .val (.int ub_2), .val (.long mn2_3), .second, .val (.long mx2_3), .second, .val (.ref b4), .val (.ref b6), .val (.int (((p4.toUInt32 >>> ((4 : Int32) &&& 31).toUInt32).toInt32) &&& (3 : Int32))), .val (.ref b6), .val (.int (0 : Int32)), .val (.int (0 : Int32)), .val (.int (1 : Int32))] [(.int (1 : Int32))])) _
              refine XS.ifNo X32.here hx rfl (hb hby at_332) rfl ((if0 _ _).trans (feq (by decide : ¬ ((1 : Int32) = (0 : Int32)))).1) ?_
              show Steps p.tables e below (T32.setTop (mkF m 335 #[.val (.long q0), .second, .val (.long q1), .second, .val (.long q2), .second, .val (.long q3), .second, .val (.int p4), .val (.long mn1_1), .second, .val (.long mx1_1), .second, .val (.int md_2), .val (.int ub_2), .val (.long mn2_3), .second, .val (.long mx2_3), .second, .val (.ref b4), .val (.ref b6), .val (.int (((p4.toUInt32 >>> ((4 : Int32) &&& 31).toUInt32).toInt32) &&& (3 : Int32))), .val (.ref b6), .val (.int (0 : Int32)), .val (.int (0 : Int32)), .val (.int (1 : Int32))] [])) _
              refine XS.iconst X32.here hx rfl (hb hby at_335) ?_
              show Steps p.tables e below (T32.setTop (mkF m 336 #[.val (.long q0), .second, .val (.long q1), .second, .val (.long q2), .second, .val (.long q3), .second, .val (.int p4), .val (.long mn1_1), .second, .val (.long mx1_1), .second, .val (.int md_2), .val (.int ub_2), .val (.long mn2_3), .second, .val (.long mx2_3), .second, .val (.ref b4), .val (.ref b6), .val (.int (((p4.toUInt32 >>> ((4 : Int32) &&& 31).toUInt32).toInt32) &&& (3 : Int32))), .val (.ref b6), .val (.int (0 : Int32)), .val (.int (0 : Int32)), .val (.int (1 : Int32))] [(.int (1 : Int32))])) _
              refine XS.goto X32.here hx rfl (pc0 := 336) (pc' := 340) rfl (hb hby at_336) (by decide) (by decide) ?_
              show Steps p.tables e below (T32.setTop (mkF m 340 #[.val (.long q0), .second, .val (.long q1), .second, .val (.long q2), .second, .val (.long q3), .second, .val (.int p4), .val (.long mn1_1), .second, .val (.long mx1_1), .second, .val (.int md_2), .val (.int ub_2), .val (.long mn2_3), .second, .val (.long mx2_3), .second, .val (.ref b4), .val (.ref b6), .val (.int (((p4.toUInt32 >>> ((4 : Int32) &&& 31).toUInt32).toInt32) &&& (3 : Int32))), .val (.ref b6), .val (.int (0 : Int32)), .val (.int (0 : Int32)), .val (.int (1 : Int32))] [(.int (1 : Int32))])) _
              exact retN X32 hx (t := .boolean) Bd.returns (by simp) (hb hby at_340) hr
            · show Q_rm0 n0 _ T32.heap _
              rw [e32]
              exact ⟨rfl, N32⟩
      · have hn1 : ¬ (mn2_3 = mn1_1) := (fun q => hc261_17 ((own_lceq _ _).2 q.symm))
        have hn1' : ¬ (mn1_1 = mn2_3) := (fun q => hc261_17 ((own_lceq _ _).2 q))
        obtain ⟨cq33, kq33, q33a, q33b, q33c⟩ := isOf hZ rfl ((P5_0.ext E6).keep Kc7)
        obtain ⟨_, _, ⟨T33, L33, k33, n33⟩, -, X33, ⟨Lc33, hQ33, l33, y33, z33⟩, st33⟩ := X7.virtualBack hx (y := MN_7) (z := MN_7) hown (mvT hZ (Wd hw 21 rfl)) (mvT hZ (Wd hw 22 rfl)) (notFace_of_selects (args := #[]) (mvT hZ (Wd hw 24 rfl))) (mvT hZ (Wd hw 24 rfl)) (mvT hZ (Wd hw 23 rfl)) (by decide) (backOf (W := 0) (rmEq_no1 l Z a0 hw [] aC kC vC (b4) (b6) (mn1_1) (mx1_1) (mn2_3) (mx2_3) (T7.heap) n0 O7 GL ((P5_1.ext E6).keep Kc7 (ninS (Nat.ne_of_lt (Nat.lt_of_lt_of_le (Nat.lt_of_lt_of_le A4.lt Kc5.1) (Nat.le_of_eq g6.symm))) nin0)) ((P5_2.ext E6).keep Kc7 (ninS (Nat.ne_of_lt (Nat.lt_of_lt_of_le (Nat.lt_of_lt_of_le A4.lt Kc5.1) (Nat.le_of_eq g6.symm))) nin0)) P7_0 P7_1 P7_2 hn1) hZ (Wd hw 25 rfl) (Wd hw 4 rfl) (by decide) (by decide)) q33a q33c (g := (mkF m 283 #[.val (.long q0), .second, .val (.long q1), .second, .val (.long q2), .second, .val (.long q3), .second, .val (.int p4), .val (.long mn1_1), .second, .val (.long mx1_1), .second, .val (.int md_2), .val (.int ub_2), .val (.long mn2_3), .second, .val (.long mx2_3), .second, .val (.ref b4), .val (.ref b6), .val (.int (((p4.toUInt32 >>> ((4 : Int32) &&& 31).toUInt32).toInt32) &&& (3 : Int32))), .val (.ref b6), .val (.int (0 : Int32)), .unset, .unset] [(.ref b6), (.ref b4)])) rfl (by rw [hml]; rfl) (Steps.refl _) (argsL := [(.ref b6)]) (rest := []) (lenOf pdv4 rfl) rfl (by show 2 * 0 + _ ≤ _; exact Nat.le_of_eq rfl) (hb hby at_283) (fun _ _ => ⟨rfl, rfl, (by decide : 2 + 0 ≤ _), (by decide : 4 + 0 ≤ _)⟩)
        dsimp only [Pt.U, Pt.locs, Pt.cells, Pt.slots] at X33 l33 y33 z33 st33 hQ33
        subst l33 y33 z33
        obtain ⟨rfl, N33q, e33⟩ := hQ33
        have N33 := Fr.app N7 N33q
        have pre35 : ∀ t, Steps p.tables e below (T33.setTop (mkF m 291 #[.val (.long q0), .second, .val (.long q1), .second, .val (.long q2), .second, .val (.long q3), .second, .val (.int p4), .val (.long mn1_1), .second, .val (.long mx1_1), .second, .val (.int md_2), .val (.int ub_2), .val (.long mn2_3), .second, .val (.long mx2_3), .second, .val (.ref b4), .val (.ref b6), .val (.int (((p4.toUInt32 >>> ((4 : Int32) &&& 31).toUInt32).toInt32) &&& (3 : Int32))), .val (.ref b6), .val (.int (0 : Int32)), .val (.int (0 : Int32)), .unset] [(.int (2 : Int32)), (.int (((p4.toUInt32 >>> ((4 : Int32) &&& 31).toUInt32).toInt32) &&& (3 : Int32)))])) t → Steps p.tables e below (s₁.setTop (entryFrame m #[(.long q0), (.long q1), (.long q2), (.long q3), (.int p4)] maxLocals)) t := fun t kt => by
          refine pre18 t ?_
          show Steps p.tables e below (T7.setTop (mkF m 261 #[.val (.long q0), .second, .val (.long q1), .second, .val (.long q2), .second, .val (.long q3), .second, .val (.int p4), .val (.long mn1_1), .second, .val (.long mx1_1), .second, .val (.int md_2), .val (.int ub_2), .val (.long mn2_3), .second, .val (.long mx2_3), .second, .val (.ref b4), .val (.ref b6), .val (.int (((p4.toUInt32 >>> ((4 : Int32) &&& 31).toUInt32).toInt32) &&& (3 : Int32))), .val (.ref b6), .unset, .unset, .unset] [(.int (lcmpW mn1_1 mn2_3))])) _
          refine XS.ifYes X7.here hx rfl (pc0 := 261) (pc' := 276) rfl (hb hby at_261) rfl ((if0 _ _).trans (feq hc261_17).2) (by decide) (by decide) ?_
          show Steps p.tables e below (T7.setTop (mkF m 276 #[.val (.long q0), .second, .val (.long q1), .second, .val (.long q2), .second, .val (.long q3), .second, .val (.int p4), .val (.long mn1_1), .second, .val (.long mx1_1), .second, .val (.int md_2), .val (.int ub_2), .val (.long mn2_3), .second, .val (.long mx2_3), .second, .val (.ref b4), .val (.ref b6), .val (.int (((p4.toUInt32 >>> ((4 : Int32) &&& 31).toUInt32).toInt32) &&& (3 : Int32))), .val (.ref b6), .unset, .unset, .unset] [])) _
          refine XS.iconst X7.here hx rfl (hb hby at_276) ?_
          show Steps p.tables e below (T7.setTop (mkF m 277 #[.val (.long q0), .second, .val (.long q1), .second, .val (.long q2), .second, .val (.long q3), .second, .val (.int p4), .val (.long mn1_1), .second, .val (.long mx1_1), .second, .val (.int md_2), .val (.int ub_2), .val (.long mn2_3), .second, .val (.long mx2_3), .second, .val (.ref b4), .val (.ref b6), .val (.int (((p4.toUInt32 >>> ((4 : Int32) &&& 31).toUInt32).toInt32) &&& (3 : Int32))), .val (.ref b6), .unset, .unset, .unset] [(.int (0 : Int32))])) _
          refine XS.istore X7.here hx rfl (hb hby at_277) rfl (l' := #[.val (.long q0), .second, .val (.long q1), .second, .val (.long q2), .second, .val (.long q3), .second, .val (.int p4), .val (.long mn1_1), .second, .val (.long mx1_1), .second, .val (.int md_2), .val (.int ub_2), .val (.long mn2_3), .second, .val (.long mx2_3), .second, .val (.ref b4), .val (.ref b6), .val (.int (((p4.toUInt32 >>> ((4 : Int32) &&& 31).toUInt32).toInt32) &&& (3 : Int32))), .val (.ref b6), .val (.int (0 : Int32)), .unset, .unset]) rfl ?_
          show Steps p.tables e below (T7.setTop (mkF m 279 #[.val (.long q0), .second, .val (.long q1), .second, .val (.long q2), .second, .val (.long q3), .second, .val (.int p4), .val (.long mn1_1), .second, .val (.long mx1_1), .second, .val (.int md_2), .val (.int ub_2), .val (.long mn2_3), .second, .val (.long mx2_3), .second, .val (.ref b4), .val (.ref b6), .val (.int (((p4.toUInt32 >>> ((4 : Int32) &&& 31).toUInt32).toInt32) &&& (3 : Int32))), .val (.ref b6), .val (.int (0 : Int32)), .unset, .unset] [])) _
          refine XS.aload X7.here hx rfl (hb hby at_279) rfl rfl ?_
          show Steps p.tables e below (T7.setTop (mkF m 281 #[.val (.long q0), .second, .val (.long q1), .second, .val (.long q2), .second, .val (.long q3), .second, .val (.int p4), .val (.long mn1_1), .second, .val (.long mx1_1), .second, .val (.int md_2), .val (.int ub_2), .val (.long mn2_3), .second, .val (.long mx2_3), .second, .val (.ref b4), .val (.ref b6), .val (.int (((p4.toUInt32 >>> ((4 : Int32) &&& 31).toUInt32).toInt32) &&& (3 : Int32))), .val (.ref b6), .val (.int (0 : Int32)), .unset, .unset] [(.ref b4)])) _
          refine XS.aload X7.here hx rfl (hb hby at_281) rfl rfl ?_
          show Steps p.tables e below (T7.setTop (mkF m 283 #[.val (.long q0), .second, .val (.long q1), .second, .val (.long q2), .second, .val (.long q3), .second, .val (.int p4), .val (.long mn1_1), .second, .val (.long mx1_1), .second, .val (.int md_2), .val (.int ub_2), .val (.long mn2_3), .second, .val (.long mx2_3), .second, .val (.ref b4), .val (.ref b6), .val (.int (((p4.toUInt32 >>> ((4 : Int32) &&& 31).toUInt32).toInt32) &&& (3 : Int32))), .val (.ref b6), .val (.int (0 : Int32)), .unset, .unset] [(.ref b6), (.ref b4)])) _
          refine st33.trans ?_
          show Steps p.tables e below (T33.setTop (mkF m 286 #[.val (.long q0), .second, .val (.long q1), .second, .val (.long q2), .second, .val (.long q3), .second, .val (.int p4), .val (.long mn1_1), .second, .val (.long mx1_1), .second, .val (.int md_2), .val (.int ub_2), .val (.long mn2_3), .second, .val (.long mx2_3), .second, .val (.ref b4), .val (.ref b6), .val (.int (((p4.toUInt32 >>> ((4 : Int32) &&& 31).toUInt32).toInt32) &&& (3 : Int32))), .val (.ref b6), .val (.int (0 : Int32)), .unset, .unset] [(.int (0 : Int32))])) _
          refine XS.istore X33.here hx rfl (hb hby at_286) rfl (l' := #[.val (.long q0), .second, .val (.long q1), .second, .val (.long q2), .second, .val (.long q3), .second, .val (.int p4), .val (.long mn1_1), .second, .val (.long mx1_1), .second, .val (.int md_2), .val (.int ub_2), .val (.long mn2_3), .second, .val (.long mx2_3), .second, .val (.ref b4), .val (.ref b6), .val (.int (((p4.toUInt32 >>> ((4 : Int32) &&& 31).toUInt32).toInt32) &&& (3 : Int32))), .val (.ref b6), .val (.int (0 : Int32)), .val (.int (0 : Int32)), .unset]) rfl ?_
          show Steps p.tables e below (T33.setTop (mkF m 288 #[.val (.long q0), .second, .val (.long q1), .second, .val (.long q2), .second, .val (.long q3), .second, .val (.int p4), .val (.long mn1_1), .second, .val (.long mx1_1), .second, .val (.int md_2), .val (.int ub_2), .val (.long mn2_3), .second, .val (.long mx2_3), .second, .val (.ref b4), .val (.ref b6), .val (.int (((p4.toUInt32 >>> ((4 : Int32) &&& 31).toUInt32).toInt32) &&& (3 : Int32))), .val (.ref b6), .val (.int (0 : Int32)), .val (.int (0 : Int32)), .unset] [])) _
          refine XS.iload X33.here hx rfl (hb hby at_288) rfl ?_
          show Steps p.tables e below (T33.setTop (mkF m 290 #[.val (.long q0), .second, .val (.long q1), .second, .val (.long q2), .second, .val (.long q3), .second, .val (.int p4), .val (.long mn1_1), .second, .val (.long mx1_1), .second, .val (.int md_2), .val (.int ub_2), .val (.long mn2_3), .second, .val (.long mx2_3), .second, .val (.ref b4), .val (.ref b6), .val (.int (((p4.toUInt32 >>> ((4 : Int32) &&& 31).toUInt32).toInt32) &&& (3 : Int32))), .val (.ref b6), .val (.int (0 : Int32)), .val (.int (0 : Int32)), .unset] [(.int (((p4.toUInt32 >>> ((4 : Int32) &&& 31).toUInt32).toInt32) &&& (3 : Int32)))])) _
          refine XS.iconst X33.here hx rfl (hb hby at_290) ?_
          exact kt
        by_cases hc291_34 : (((p4.toUInt32 >>> ((4 : Int32) &&& 31).toUInt32).toInt32) &&& (3 : Int32)) < (2 : Int32)
        · obtain ⟨cq36, kq36, q36a, q36b, q36c⟩ := isOf hZ e33 P7_0
          obtain ⟨_, _, ⟨T36, L36, k36, n36⟩, -, X36, ⟨Lc36, hQ36, l36, y36, z36⟩, st36⟩ := X33.virtualBack hx (y := MN_7) (z := MN_7) hown (mvT hZ (Wd hw 21 rfl)) (mvT hZ (Wd hw 22 rfl)) (notFace_of_selects (args := #[]) (mvT hZ (Wd hw 24 rfl))) (mvT hZ (Wd hw 24 rfl)) (mvT hZ (Wd hw 23 rfl)) (by decide) (backOf (W := 0) (rmEq_no1 l Z a0 hw [] aC kC vC (b6) (b4) (mn2_3) (mx2_3) (mn1_1) (mx1_1) (T7.heap) n0 O7 GL P7_1 P7_2 ((P5_0.ext E6).keep Kc7) ((P5_1.ext E6).keep Kc7 (ninS (Nat.ne_of_lt (Nat.lt_of_lt_of_le (Nat.lt_of_lt_of_le A4.lt Kc5.1) (Nat.le_of_eq g6.symm))) nin0)) ((P5_2.ext E6).keep Kc7 (ninS (Nat.ne_of_lt (Nat.lt_of_lt_of_le (Nat.lt_of_lt_of_le A4.lt Kc5.1) (Nat.le_of_eq g6.symm))) nin0)) hn1') hZ (Wd hw 25 rfl) (Wd hw 4 rfl) (by decide) (by decide)) q36a q36c (g := (mkF m 298 #[.val (.long q0), .second, .val (.long q1), .second, .val (.long q2), .second, .val (.long q3), .second, .val (.int p4), .val (.long mn1_1), .second, .val (.long mx1_1), .second, .val (.int md_2), .val (.int ub_2), .val (.long mn2_3), .second, .val (.long mx2_3), .second, .val (.ref b4), .val (.ref b6), .val (.int (((p4.toUInt32 >>> ((4 : Int32) &&& 31).toUInt32).toInt32) &&& (3 : Int32))), .val (.ref b6), .val (.int (0 : Int32)), .val (.int (0 : Int32)), .unset] [(.ref b4), (.ref b6)])) rfl (by rw [hml]; rfl) (Steps.refl _) (argsL := [(.ref b4)]) (rest := []) (lenOf pdv4 rfl) rfl (by show 2 * 0 + _ ≤ _; exact Nat.le_of_eq rfl) (hb hby at_298) (fun _ _ => ⟨rfl, e33, (by decide : 2 + 0 ≤ _), (by decide : 4 + 0 ≤ _)⟩)
          dsimp only [Pt.U, Pt.locs, Pt.cells, Pt.slots] at X36 l36 y36 z36 st36 hQ36
          subst l36 y36 z36
          obtain ⟨rfl, N36q, e36⟩ := hQ36
          have N36 := Fr.app N33 N36q
          obtain ⟨cq37, kq37, q37a, q37b, q37c⟩ := isOf hZ e36 ((P5_0.ext E6).keep Kc7)
          obtain ⟨_, _, ⟨T37, L37, k37, n37⟩, -, X37, ⟨Lc37, hQ37, l37, y37, z37⟩, st37⟩ := X36.virtualBack hx (y := MN_7) (z := MN_7) hown (mvT hZ (Wd hw 21 rfl)) (mvT hZ (Wd hw 22 rfl)) (notFace_of_selects (args := #[]) (mvT hZ (Wd hw 24 rfl))) (mvT hZ (Wd hw 24 rfl)) (mvT hZ (Wd hw 23 rfl)) (by decide) (backOf (W := 0) (rmEq_yes l Z a0 hw [] aC kC vC (b4) (b4) (mn1_1) (mx1_1) (mn1_1) (mx1_1) (T7.heap) n0 O7 GL ((P5_1.ext E6).keep Kc7 (ninS (Nat.ne_of_lt (Nat.lt_of_lt_of_le (Nat.lt_of_lt_of_le A4.lt Kc5.1) (Nat.le_of_eq g6.symm))) nin0)) ((P5_2.ext E6).keep Kc7 (ninS (Nat.ne_of_lt (Nat.lt_of_lt_of_le (Nat.lt_of_lt_of_le A4.lt Kc5.1) (Nat.le_of_eq g6.symm))) nin0)) ((P5_0.ext E6).keep Kc7) ((P5_1.ext E6).keep Kc7 (ninS (Nat.ne_of_lt (Nat.lt_of_lt_of_le (Nat.lt_of_lt_of_le A4.lt Kc5.1) (Nat.le_of_eq g6.symm))) nin0)) ((P5_2.ext E6).keep Kc7 (ninS (Nat.ne_of_lt (Nat.lt_of_lt_of_le (Nat.lt_of_lt_of_le A4.lt Kc5.1) (Nat.le_of_eq g6.symm))) nin0)) rfl rfl) hZ (Wd hw 25 rfl) (Wd hw 4 rfl) (by decide) (by decide)) q37a q37c (g := (mkF m 329 #[.val (.long q0), .second, .val (.long q1), .second, .val (.long q2), .second, .val (.long q3), .second, .val (.int p4), .val (.long mn1_1), .second, .val (.long mx1_1), .second, .val (.int md_2), .val (.int ub_2), .val (.long mn2_3), .second, .val (.long mx2_3), .second, .val (.ref b4), .val (.ref b6), .val (.int (((p4.toUInt32 >>> ((4 : Int32) &&& 31).toUInt32).toInt32) &&& (3 : Int32))), .val (.ref b6), .val (.int (0 : Int32)), .val (.int (0 : Int32)), .val (.int (1 : Int32))] [(.ref b4), (.ref b4)])) rfl (by rw [hml]; rfl) (Steps.refl _) (argsL := [(.ref b4)]) (rest := []) (lenOf pdv4 rfl) rfl (by show 2 * 0 + _ ≤ _; exact Nat.le_of_eq rfl) (hb hby at_329) (fun _ _ => ⟨rfl, e36, (by decide : 2 + 0 ≤ _), (by decide : 4 + 0 ≤ _)⟩)
          dsimp only [Pt.U, Pt.locs, Pt.cells, Pt.slots] at X37 l37 y37 z37 st37 hQ37
          subst l37 y37 z37
          obtain ⟨rfl, N37q, e37⟩ := hQ37
          have N37 := Fr.app N36 N37q
          obtain ⟨fs, hr, hrun, hended, hW, hsame⟩ := X37.leave (v := some (.int (1 : Int32))) (fun h => by rw [Bd.returns] at h; cases h)
          refine ⟨_, _, pre35 _ ?_, hrun, hended, _, _, rfl, ?_, ⟨_, rfl⟩, hW, hsame.mono (by decide) (by decide)⟩
          · show Steps p.tables e below (T33.setTop (mkF m 291 #[.val (.long q0), .second, .val (.long q1), .second, .val (.long q2), .second, .val (.long q3), .second, .val (.int p4), .val (.long mn1_1), .second, .val (.long mx1_1), .second, .val (.int md_2), .val (.int ub_2), .val (.long mn2_3), .second, .val (.long mx2_3), .second, .val (.ref b4), .val (.ref b6), .val (.int (((p4.toUInt32 >>> ((4 : Int32) &&& 31).toUInt32).toInt32) &&& (3 : Int32))), .val (.ref b6), .val (.int (0 : Int32)), .val (.int (0 : Int32)), .unset] [(.int (2 : Int32)), (.int (((p4.toUInt32 >>> ((4 : Int32) &&& 31).toUInt32).toInt32) &&& (3 : Int32)))])) _
            refine XS.icmpNo X33.here hx rfl (hb hby at_291) rfl (tlt hc291_34).2.1 ?_
            show Steps p.tables e below (T33.setTop (mkF m 294 #[.val (.long q0), .second, .val (.long q1), .second, .val (.long q2), .second, .val (.long q3), .second, .val (.int p4), .val (.long mn1_1), .second, .val (.long mx1_1), .second, .val (.int md_2), .val (.int ub_2), .val (.long mn2_3), .second, .val (.long mx2_3), .second, .val (.ref b4), .val (.ref b6), .val (.int (((p4.toUInt32 >>> ((4 : Int32) &&& 31).toUInt32).toInt32) &&& (3 : Int32))), .val (.ref b6), .val (.int (0 : Int32)), .val (.int (0 : Int32)), .unset] [])) _
            refine XS.aload X33.here hx rfl (hb hby at_294) rfl rfl ?_
            show Steps p.tables e below (T33.setTop (mkF m 296 #[.val (.long q0), .second, .val (.long q1), .second, .val (.long q2), .second, .val (.long q3), .second, .val (.int p4), .val (.long mn1_1), .second, .val (.long mx1_1), .second, .val (.int md_2), .val (.int ub_2), .val (.long mn2_3), .second, .val (.long mx2_3), .second, .val (.ref b4), .val (.ref b6), .val (.int (((p4.toUInt32 >>> ((4 : Int32) &&& 31).toUInt32).toInt32) &&& (3 : Int32))), .val (.ref b6), .val (.int (0 : Int32)), .val (.int (0 : Int32)), .unset] [(.ref b6)])) _
            refine XS.aload X33.here hx rfl (hb hby at_296) rfl rfl ?_
            show Steps p.tables e below (T33.setTop (mkF m 298 #[.val (.long q0), .second, .val (.long q1), .second, .val (.long q2), .second, .val (.long q3), .second, .val (.int p4), .val (.long mn1_1), .second, .val (.long mx1_1), .second, .val (.int md_2), .val (.int ub_2), .val (.long mn2_3), .second, .val (.long mx2_3), .second, .val (.ref b4), .val (.ref b6), .val (.int (((p4.toUInt32 >>> ((4 : Int32) &&& 31).toUInt32).toInt32) &&& (3 : Int32))), .val (.ref b6), .val (.int (0 : Int32)), .val (.int (0 : Int32)), .unset] [(.ref b4), (.ref b6)])) _
            refine st36.trans ?_
            show Steps p.tables e below (T36.setTop (mkF m 301 #[.val (.long q0), .second, .val (.long q1), .second, .val (.long q2), .second, .val (.long q3), .second, .val (.int p4), .val (.long mn1_1), .second, .val (.long mx1_1), .second, .val (.int md_2), .val (.int ub_2), .val (.long mn2_3), .second, .val (.long mx2_3), .second, .val (.ref b4), .val (.ref b6), .val (.int (((p4.toUInt32 >>> ((4 : Int32) &&& 31).toUInt32).toInt32) &&& (3 : Int32))), .val (.ref b6), .val (.int (0 : Int32)), .val (.int (0 : Int32)), .unset] [(.int (0 : Int32))])) _
            refine XS.iload X36.here hx rfl (hb hby at_301) rfl ?_
            show Steps p.tables e below (T36.setTop (mkF m 303 #[.val (.long q0), .second, .val (.long q1), .second, .val (.long q2), .second, .val (.long q3), .second, .val (.int p4), .val (.long mn1_1), .second, .val (.long mx1_1), .second, .val (.int md_2), .val (.int ub_2), .val (.long mn2_3), .second, .val (.long mx2_3), .second, .val (.ref b4), .val (.ref b6), .val (.int (((p4.toUInt32 >>> ((4 : Int32) &&& 31).toUInt32).toInt32) &&& (3 : Int32))), .val (.ref b6), .val (.int (0 : Int32)), .val (.int (0 : Int32)), .unset] [(.int (0 : Int32)), (.int (0 : Int32))])) _
            refine XS.icmpNo X36.here hx rfl (hb hby at_303) rfl (teq (by decide : (0 : Int32) = (0 : Int32))).2 ?_
            show Steps p.tables e below (T36.setTop (mkF m 306 #[.val (.long q0), .second, .val (.long q1), .second, .val (.long q2), .second, .val (.long q3), .second, .val (.int p4), .val (.long mn1_1), .second, .val (.long mx1_1), .second, .val (.int md_2), .val (.int ub_2), .val (.long mn2_3), .second, .val (.long mx2_3), .second, .val (.ref b4), .val (.ref b6), .val (.int (((p4.toUInt32 >>> ((4 : Int32) &&& 31).toUInt32).toInt32) &&& (3 : Int32))), .val (.ref b6), .val (.int (0 : Int32)), .val (.int (0 : Int32)), .unset] [])) _
            refine XS.iconst X36.here hx rfl (hb hby at_306) ?_
            show Steps p.tables e below (T36.setTop (mkF m 307 #[.val (.long q0), .second, .val (.long q1), .second, .val (.long q2), .second, .val (.long q3), .second, .val (.int p4), .val (.long mn1_1), .second, .val (.long mx1_1), .second, .val (.int md_2), .val (.int ub_2), .val (.long mn2_3), .second, .val (.long mx2_3), .second, .val (.ref b4), .val (.ref b6), .val (.int (((p4.toUInt32 >>> ((4 : Int32) &&& 31).toUInt32).toInt32) &&& (3 : Int32))), .val (.ref b6), .val (.int (0 : Int32)), .val (.int (0 : Int32)), .unset] [(.int (1 : Int32))])) _
            refine XS.goto X36.here hx rfl (pc0 := 307) (pc' := 311) rfl (hb hby at_307) (by decide) (by decide) ?_
            show Steps p.tables e below (T36.setTop (mkF m 311 #[.val (.long q0), .second, .val (.long q1), .second, .val (.long q2), .second, .val (.long q3), .second, .val (.int p4), .val (.long mn1_1), .second, .val (.long mx1_1), .second, .val (.int md_2), .val (.int ub_2), .val (.long mn2_3), .second, .val (.long mx2_3), .second, .val (.ref b4), .val (.ref b6), .val (.int (((p4.toUInt32 >>> ((4 : Int32) &&& 31).toUInt32).toInt32) &&& (3 : Int32))), .val (.ref b6), .val (.int (0 : Int32)), .val (.int (0 : Int32)), .unset] [(.int (1 : Int32))])) _
            refine XS.istore X36.here hx rfl (hb hby at_311) rfl (l' := #[.val (.long q0), .second, .val (.long q1), .second, .val (.long q2), .second, .val (.long q3), .second, .val (.int p4), .val (.long mn1_1), .second, .val (.long mx1_1), .second, .val (.int md_2), .val (.int ub_2), .val (.long mn2_3), .second, .val (.long mx2_3), .second, .val (.ref b4), .val (.ref b6), .val (.int (((p4.toUInt32 >>> ((4 : Int32) &&& 31).toUInt32).toInt32) &&& (3 : Int32))), .val (.ref b6), .val (.int (0 : Int32)), .val (.int (0 : Int32)), .val (.int (1 : Int32))]) rfl ?_
            show Steps p.tables e below (T36.setTop (mkF m 313 #[.val (.long q0), .second, .val (.long q1), .second, .val (.long q2), .second, .val (.long q3), .second, .val (.int p4), .val (.long mn1_1), .second, .val (.long mx1_1), .second, .val (.int md_2), .val (.int ub_2), .val (.long mn2_3), .second, .val (.long mx2_3), .second, .val (.ref b4), .val (.ref b6), .val (.int (((p4.toUInt32 >>> ((4 : Int32) &&& 31).toUInt32).toInt32) &&& (3 : Int32))), .val (.ref b6), .val (.int (0 : Int32)), .val (.int (0 : Int32)), .val (.int (1 : Int32))] [])) _
            refine XS.iload X36.here hx rfl (hb hby at_313) rfl ?_
            show Steps p.tables e below (T36.setTop (mkF m 315 #[.val (.long q0), .second, .val (.long q1), .second, .val (.long q2), .second, .val (.long q3), .second, .val (.int p4), .val (.long mn1_1), .second, .val (.long mx1_1), .second, .val (.int md_2), .val (.int ub_2), .val (.long mn2_3), .second, .val (.long mx2_3), .second, .val (.ref b4), .val (.ref b6), .val (.int (((p4.toUInt32 >>> ((4 : Int32) &&& 31).toUInt32).toInt32) &&& (3 : Int32))), .val (.ref b6), .val (.int (0 : Int32)), .val (.int (0 : Int32)), .val (.int (1 : Int32))] [(.int (0 : Int32))])) _
            refine XS.iload X36.here hx rfl (hb hby at_315) rfl ?_
            show Steps p.tables e below (T36.setTop (mkF m 317 #[.val (.long q0), .second, .val (.long q1), .second, .val (.long q2), .second, .val (.long q3), .second, .val (.int p4), .val (.long mn1_1), .second, .val (.long mx1_1), .second, .val (.int md_2), .val (.int ub_2), .val (.long mn2_3), .second, .val (.long mx2_3), .second, .val (.ref b4), .val (.ref b6), .val (.int (((p4.toUInt32 >>> ((4 : Int32) &&& 31).toUInt32).toInt32) &&& (3 : Int32))), .val (.ref b6), .val (.int (0 : Int32)), .val (.int (0 : Int32)), .val (.int (1 : Int32))] [(.int (0 : Int32)), (.int (0 : Int32))])) _
            refine XS.icmpNo X36.here hx rfl (hb hby at_317) rfl (teq (by decide : (0 : Int32) = (0 : Int32))).2 ?_
            show Steps p.tables e below (T36.setTop (mkF m 320 #[.val (.long q0), .second, .val (.long q1), .second, .val (.long q2), .second, .val (.long q3), .second, .val (.int p4), .val (.long mn1_1), .second, .val (.long mx1_1), .second, .val (.int md_2), .val (.int ub_2), .val (.long mn2_3), .second, .val (.long mx2_3), .second, .val (.ref b4), .val (.ref b6), .val (.int (((p4.toUInt32 >>> ((4 : Int32) &&& 31).toUInt32).toInt32) &&& (3 : Int32))), .val (.ref b6), .val (.int (0 : Int32)), .val (.int (0 : Int32)), .val (.int (1 : Int32))] [])) _
            refine XS.iload X36.here hx rfl (hb hby at_320) rfl ?_
            show Steps p.tables e below (T36.setTop (mkF m 322 #[.val (.long q0), .second, .val (.long q1), .second, .val (.long q2), .second, .val (.long q3), .second, .val (.int p4), .val (.long mn1_1), .second, .val (.long mx1_1), .second, .val (.int md_2), .val (.int ub_2), .val (.long mn2_3), .second, .val (.long mx2_3), .second, .val (.ref b4), .val (.ref b6), .val (.int (((p4.toUInt32 >>> ((4 : Int32) &&& 31).toUInt32).toInt32) &&& (3 : Int32))), .val (.ref b6), .val (.int (0 : Int32)), .val (.int (0 : Int32)), .val (.int (1 : Int32))] [(.int (1 : Int32))])) _
            refine XS.ifNo X36.here hx rfl (hb hby at_322) rfl ((if0 _ _).trans (feq (by decide : ¬ ((1 : Int32) = (0 : Int32)))).1) ?_
            show Steps p.tables e below (T36.setTop (mkF m 325 #[.val (.long q0), .second, .val (.long q1), .second, .val (.long q2), .second, .val (.long q3), .second, .val (.int p4), .val (.long mn1_1), .second, .val (.long mx1_1), .second, .val (.int md_2), .val (.int ub_2), .val (.long mn2_3), .second, .val (.long mx2_3), .second, .val (.ref b4), .val (.ref b6), .val (.int (((p4.toUInt32 >>> ((4 : Int32) &&& 31).toUInt32).toInt32) &&& (3 : Int32))), .val (.ref b6), .val (.int (0 : Int32)), .val (.int (0 : Int32)), .val (.int (1 : Int32))] [])) _
            refine XS.aload X36.here hx rfl (hb hby at_325) rfl rfl ?_
            show Steps p.tables e below (T36.setTop (mkF m 327 #[.val (.long q0), .second, .val (.long q1), .second, .val (.long q2), .second, .val (.long q3), .second, .val (.int p4), .val (.long mn1_1), .second, .val (.long mx1_1), .second, .val (.int md_2), .val (.int ub_2), .val (.long mn2_3), .second, .val (.long mx2_3), .second, .val (.ref b4), .val (.ref b6), .val (.int (((p4.toUInt32 >>> ((4 : Int32) &&& 31).toUInt32).toInt32) &&& (3 : Int32))), .val (.ref b6), .val (.int (0 : Int32)), .val (.int (0 : Int32)), .val (.int (1 : Int32))] [(.ref b4)])) _
            refine XS.aload X36.here hx rfl (hb hby at_327) rfl rfl ?_
            show Steps p.tables e below (T36.setTop (mkF m 329 #[.val (.long q0), .second, .val (.long q1), .second, .val (.long q2), .second, .val (.long q3), .second, .val (.int p4), .val (.long mn1_1), .second, .val (.long mx1_1), .second, .val (.int md_2), .val (.int ub_2), .val (.long mn2_3), .second, .val (.long mx2_3), .second, .val (.ref b4), .val (.ref b6), .val (.int (((p4.toUInt32 >>> ((4 : Int32) &&& 31).toUInt32).toInt32) &&& (3 : Int32))), .val (.ref b6), .val (.int (0 : Int32)), .val (.int (0 : Int32)), .val (.int (1 : Int32))] [(.ref b4), (.ref b4)])) _
            refine st37.trans ?_
            show Steps p.tables e below (T37.setTop (mkF m 332 #[.val (.long q0), .second, .val (.long q1), .second, .val (.long q2), .second, .val (.long q3), .second, .val (.int p4), .val (.long mn1_1), .second, .val (.long mx1_1), .second, .val (.int md_2), .val (.int ub_2), .val (.long mn2_3), .second, .val (.long mx2_3), .second, .val (.ref b4), .val (.ref b6), .val (.int (((p4.toUInt32 >>> ((4 : Int32) &&& 31).toUInt32).toInt32) &&& (3 : Int32))), .val (.ref b6), .val (.int (0 : Int32)), .val (.int (0 : Int32)), .val (.int (1 : Int32))] [(.int (1 : Int32))])) _
            refine XS.ifNo X37.here hx rfl (hb hby at_332) rfl ((if0 _ _).trans (feq (by decide : ¬ ((1 : Int32) = (0 : Int32)))).1) ?_
            show Steps p.tables e below (T37.setTop (mkF m 335 #[.val (.long q0), .second, .val (.long q1), .second, .val (.long q2), .second, .val (.long q3), .second, .val (.int p4), .val (.long mn1_1), .second, .val (.long mx1_1), .second, .val (.int md_2), .val (.int ub_2), .val (.long mn2_3), .second, .val (.long mx2_3), .second, .val (.ref b4), .val (.ref b6), .val (.int (((p4.toUInt32 >>> ((4 : Int32) &&& 31).toUInt32).toInt32) &&& (3 : Int32))), .val (.ref b6), .val (.int (0 : Int32)), .val (.int (0 : Int32)), .val (.int (1 : Int32))] [])) _
            refine XS.iconst X37.here hx rfl (hb hby at_335) ?_
            show Steps p.tables e below (T37.setTop (mkF m 336 #[.val (.long q0), .second, .val (.long q1), .second, .val (.long q2), .second, .val (.long q3), .second, .val (.int p4), .val (.long mn1_1), .second, .val (.long mx1_1), .second, .val (.int md_2), .val (.int ub_2), .val (.long mn2_3), .second, .val (.long mx2_3), .second, .val (.ref b4), .val (.ref b6), .val (.int (((p4.toUInt32 >>> ((4 : Int32) &&& 31).toUInt32).toInt32) &&& (3 : Int32))), .val (.ref b6), .val (.int (0 : Int32)), .val (.int (0 : Int32)), .val (.int (1 : Int32))] [(.int (1 : Int32))])) _
            refine XS.goto X37.here hx rfl (pc0 := 336) (pc' := 340) rfl (hb hby at_336) (by decide) (by decide) ?_
            show Steps p.tables e below (T37.setTop (mkF m 340 #[.val (.long q0), .second, .val (.long q1), .second, .val (.long q2), .second, .val (.long q3), .second, .val (.int p4), .val (.long mn1_1), .second, .val (.long mx1_1), .second, .val (.int md_2), .val (.int ub_2), .val (.long mn2_3), .second, .val (.long mx2_3), .second, .val (.ref b4), .val (.ref b6), .val (.int (((p4.toUInt32 >>> ((4 : Int32) &&& 31).toUInt32).toInt32) &&& (3 : Int32))), .val (.ref b6), .val (.int (0 : Int32)), .val (.int (0 : Int32)), .val (.int (1 : Int32))] [(.int (1 : Int32))])) _
            exact retN X37 hx (t := .boolean) Bd.returns (by simp) (hb hby at_340) hr
          · show Q_rm0 n0 _ T37.heap _
            rw [e37]
            exact ⟨rfl, N37⟩
        · obtain ⟨cq38, kq38, q38a, q38b, q38c⟩ := isOf hZ e33 ((P5_0.ext E6).keep Kc7)
          obtain ⟨_, _, ⟨T38, L38, k38, n38⟩, -, X38, ⟨Lc38, hQ38, l38, y38, z38⟩, st38⟩ := X33.virtualBack hx (y := MN_7) (z := MN_7) hown (mvT hZ (Wd hw 21 rfl)) (mvT hZ (Wd hw 22 rfl)) (notFace_of_selects (args := #[]) (mvT hZ (Wd hw 24 rfl))) (mvT hZ (Wd hw 24 rfl)) (mvT hZ (Wd hw 23 rfl)) (by decide) (backOf (W := 0) (rmEq_yes l Z a0 hw [] aC kC vC (b4) (b4) (mn1_1) (mx1_1) (mn1_1) (mx1_1) (T7.heap) n0 O7 GL ((P5_1.ext E6).keep Kc7 (ninS (Nat.ne_of_lt (Nat.lt_of_lt_of_le (Nat.lt_of_lt_of_le A4.lt Kc5.1) (Nat.le_of_eq g6.symm))) nin0)) ((P5_2.ext E6).keep Kc7 (ninS (Nat.ne_of_lt (Nat.lt_of_lt_of_le (Nat.lt_of_lt_of_le A4.lt Kc5.1) (Nat.le_of_eq g6.symm))) nin0)) ((P5_0.ext E6).keep Kc7) ((P5_1.ext E6).keep Kc7 (ninS (Nat.ne_of_lt (Nat.lt_of_lt_of_le (Nat.lt_of_lt_of_le A4.lt Kc5.1) (Nat.le_of_eq g6.symm))) nin0)) ((P5_2.ext E6).keep Kc7 (ninS (Nat.ne_of_lt (Nat.lt_of_lt_of_le (Nat.lt_of_lt_of_le A4.lt Kc5.1) (Nat.le_of_eq g6.symm))) nin0)) rfl rfl) hZ (Wd hw 25 rfl) (Wd hw 4 rfl) (by decide) (by decide)) q38a q38c (g := (mkF m 329 #[.val (.long q0), .second, .val (.long q1), .second, .val (.long q2), .second, .val (.long q3), .second, .val (.int p4), .val (.long mn1_1), .second, .val (.long mx1_1), .second, .val (.int md_2), .val (.int ub_2), .val (.long mn2_3), .second, .val (.long mx2_3), .second, .val (.ref b4), .val (.ref b6), .val (.int (((p4.toUInt32 >>> ((4 : Int32) &&& 31).toUInt32).toInt32) &&& (3 : Int32))), .val (.ref b6), .val (.int (0 : Int32)), .val (.int (0 : Int32)), .val (.int (1 : Int32))] [(.ref b4), (.ref b4)])) rfl (by rw [hml]; rfl) (Steps.refl _) (argsL := [(.ref b4)]) (rest := []) (lenOf pdv4 rfl) rfl (by show 2 * 0 + _ ≤ _; exact Nat.le_of_eq rfl) (hb hby at_329) (fun _ _ => ⟨rfl, e33, (by decide : 2 + 0 ≤ _), (by decide : 4 + 0 ≤ _)⟩)
          dsimp only [Pt.U, Pt.locs, Pt.cells, Pt.slots] at X38 l38 y38 z38 st38 hQ38
          subst l38 y38 z38
          obtain ⟨rfl, N38q, e38⟩ := hQ38
          have N38 := Fr.app N33 N38q
          obtain ⟨fs, hr, hrun, hended, hW, hsame⟩ := X38.leave (v := some (.int (1 : Int32))) (fun h => by rw [Bd.returns] at h; cases h)
          refine ⟨_, _, pre35 _ ?_, hrun, hended, _, _, rfl, ?_, ⟨_, rfl⟩, hW, hsame.mono (by decide) (by decide)⟩
          · show Steps p.tables e below (T33.setTop (mkF m 291 #[.val (.long q0), .second, .val (.long q1), .second, .val (.long q2), .second, .val (.long q3), .second, .val (.int p4), .val (.long mn1_1), .second, .val (.long mx1_1), .second, .val (.int md_2), .val (.int ub_2), .val (.long mn2_3), .second, .val (.long mx2_3), .second, .val (.ref b4), .val (.ref b6), .val (.int (((p4.toUInt32 >>> ((4 : Int32) &&& 31).toUInt32).toInt32) &&& (3 : Int32))), .val (.ref b6), .val (.int (0 : Int32)), .val (.int (0 : Int32)), .unset] [(.int (2 : Int32)), (.int (((p4.toUInt32 >>> ((4 : Int32) &&& 31).toUInt32).toInt32) &&& (3 : Int32)))])) _
            refine XS.icmpYes X33.here hx rfl (pc0 := 291) (pc' := 306) rfl (hb hby at_291) rfl (flt hc291_34).2.1 (by decide) (by decide) ?_
            show Steps p.tables e below (T33.setTop (mkF m 306 #[.val (.long q0), .second, .val (.long q1), .second, .val (.long q2), .second, .val (.long q3), .second, .val (.int p4), .val (.long mn1_1), .second, .val (.long mx1_1), .second, .val (.int md_2), .val (.int ub_2), .val (.long mn2_3), .second, .val (.long mx2_3), .second, .val (.ref b4), .val (.ref b6), .val (.int (((p4.toUInt32 >>> ((4 : Int32) &&& 31).toUInt32).toInt32) &&& (3 : Int32))), .val (.ref b6), .val (.int (0 : Int32)), .val (.int (0 : Int32)), .unset] [])) _
            refine XS.iconst X33.here hx rfl (hb hby at_306) ?_
            show Steps p.tables e below (T33.setTop (mkF m 307 #[.val (.long q0), .second, .val (.long q1), .second, .val (.long q2), .second, .val (.long q3), .second, .val (.int p4), .val (.long mn1_1), .second, .val (.long mx1_1), .second, .val (.int md_2), .val (.int ub_2), .val (.long mn2_3), .second, .val (.long mx2_3), .second, .val (.ref b4), .val (.ref b6), .val (.int (((p4.toUInt32 >>> ((4 : Int32) &&& 31).toUInt32).toInt32) &&& (3 : Int32))), .val (.ref b6), .val (.int (0 : Int32)), .val (.int (0 : Int32)), .unset] [(.int (1 : Int32))])) _
            refine XS.goto X33.here hx rfl (pc0 := 307) (pc' := 311) rfl (hb hby at_307) (by decide) (by decide) ?_
            show Steps p.tables e below (T33.setTop (mkF m 311 #[.val (.long q0), .second, .val (.long q1), .second, .val (.long q2), .second, .val (.long q3), .second, .val (.int p4), .val (.long mn1_1), .second, .val (.long mx1_1), .second, .val (.int md_2), .val (.int ub_2), .val (.long mn2_3), .second, .val (.long mx2_3), .second, .val (.ref b4), .val (.ref b6), .val (.int (((p4.toUInt32 >>> ((4 : Int32) &&& 31).toUInt32).toInt32) &&& (3 : Int32))), .val (.ref b6), .val (.int (0 : Int32)), .val (.int (0 : Int32)), .unset] [(.int (1 : Int32))])) _
            refine XS.istore X33.here hx rfl (hb hby at_311) rfl (l' := #[.val (.long q0), .second, .val (.long q1), .second, .val (.long q2), .second, .val (.long q3), .second, .val (.int p4), .val (.long mn1_1), .second, .val (.long mx1_1), .second, .val (.int md_2), .val (.int ub_2), .val (.long mn2_3), .second, .val (.long mx2_3), .second, .val (.ref b4), .val (.ref b6), .val (.int (((p4.toUInt32 >>> ((4 : Int32) &&& 31).toUInt32).toInt32) &&& (3 : Int32))), .val (.ref b6), .val (.int (0 : Int32)), .val (.int (0 : Int32)), .val (.int (1 : Int32))]) rfl ?_
            show Steps p.tables e below (T33.setTop (mkF m 313 #[.val (.long q0), .second, .val (.long q1), .second, .val (.long q2), .second, .val (.long q3), .second, .val (.int p4), .val (.long mn1_1), .second, .val (.long mx1_1), .second, .val (.int md_2), .val (.int ub_2), .val (.long mn2_3), .second, .val (.long mx2_3), .second, .val (.ref b4), .val (.ref b6), .val (.int (((p4.toUInt32 >>> ((4 : Int32) &&& 31).toUInt32).toInt32) &&& (3 : Int32))), .val (.ref b6), .val (.int (0 : Int32)), .val (.int (0 : Int32)), .val (.int (1 : Int32))] [])) _
            refine XS.iload X33.here hx rfl (hb hby at_313) rfl ?_
            show Steps p.tables e below (T33.setTop (mkF m 315 #[.val (.long q0), .second, .val (.long q1), .second, .val (.long q2), .second, .val (.long q3), .second, .val (.int p4), .val (.long mn1_1), .second, .val (.long mx1_1), .second, .val (.int md_2), .val (.int ub_2), .val (.long mn2_3), .second, .val (.long mx2_3), .second, .val (.ref b4), .val (.ref b6), .val (.int (((p4.toUInt32 >>> ((4 : Int32) &&& 31).toUInt32).toInt32) &&& (3 : Int32))), .val (.ref b6), .val (.int (0 : Int32)), .val (.int (0 : Int32)), .val (.int (1 : Int32))] [(.int (0 : Int32))])) _
            refine XS.iload X33.here hx rfl (hb hby at_315) rfl ?_
            show Steps p.tables e below (T33.setTop (mkF m 317 #[.val (.long q0), .second, .val (.long q1), .second, .val (.long q2), .second, .val (.long q3), .second, .val (.int p4), .val (.long mn1_1), .second, .val (.long mx1_1), .second, .val (.int md_2), .val (.int ub_2), .val (.long mn2_3), .second, .val (.long mx2_3), .second, .val (.ref b4), .val (.ref b6), .val (.int (((p4.toUInt32 >>> ((4 : Int32) &&& 31).toUInt32).toInt32) &&& (3 : Int32))), .val (.ref b6), .val (.int (0 : Int32)), .val (.int (0 : Int32)), .val (.int (1 : Int32))] [(.int (0 : Int32)), (.int (0 : Int32))])) _
            refine XS.icmpNo X33.here hx rfl (hb hby at_317) rfl (teq (by decide : (0 : Int32) = (0 : Int32))).2 ?_
            show Steps p.tables e below (T33.setTop (mkF m 320 #[.val (.long q0), .second, .val (.long q1), .second, .val (.long q2), .second, .val (.long q3), .second, .val (.int p4), .val (.long mn1_1), .second, .val (.long mx1_1), .second, .val (.int md_2), .val (.int ub_2), .val (.long mn2_3), .second, .val (.long mx2_3), .second, .val (.ref b4), .val (.ref b6), .val (.int (((p4.toUInt32 >>> ((4 : Int32) &&& 31).toUInt32).toInt32) &&& (3 : Int32))), .val (.ref b6), .val (.int (0 : Int32)), .val (.int (0 : Int32)), .val (.int (1 : Int32))] [])) _
            refine XS.iload X33.here hx rfl (hb hby at_320) rfl ?_
            show Steps p.tables e below (T33.setTop (mkF m 322 #[.val (.long q0), .second, .val (.long q1), .second, .val (.long q2), .second, .val (.long q3), .second, .val (.int p4), .val (.long mn1_1), .second, .val (.long mx1_1), .second, .val (.int md_2), .val (.int ub_2), .val (.long mn2_3), .second, .val (.long mx2_3), .second, .val (.ref b4), .val (.ref b6), .val (.int (((p4.toUInt32 >>> ((4 : Int32) &&& 31).toUInt32).toInt32) &&& (3 : Int32))), .val (.ref b6), .val (.int (0 : Int32)), .val (.int (0 : Int32)), .val (.int (1 : Int32))] [(.int (1 : Int32))])) _
            refine XS.ifNo X33.here hx rfl (hb hby at_322) rfl ((if0 _ _).trans (feq (by decide : ¬ ((1 : Int32) = (0 : Int32)))).1) ?_
            show Steps p.tables e below (T33.setTop (mkF m 325 #[.val (.long q0), .second, .val (.long q1), .second, .val (.long q2), .second, .val (.long q3), .second, .val (.int p4), .val (.long mn1_1), .second, .val (.long mx1_1), .second, .val (.int md_2), .val (.int ub_2), .val (.long mn2_3), .second, .val (.long mx2_3), .second, .val (.ref b4), .val (.ref b6), .val (.int (((p4.toUInt32 >>> ((4 : Int32) &&& 31).toUInt32).toInt32) &&& (3 : Int32))), .val (.ref b6), .val (.int (0 : Int32)), .val (.int (0 : Int32)), .val (.int (1 : Int32))] [])) _
            refine XS.aload X33.here hx rfl (hb hby at_325) rfl rfl ?_
            show Steps p.tables e below (T33.setTop (mkF m 327 #[.val (.long q0), .second, .val (.long q1), .second, .val (.long q2), .second, .val (.long q3), .second, .val (.int p4), .val (.long mn1_1), .second, .val (.long mx1_1), .second, .val (.int md_2), .val (.int ub_2), .val (.long mn2_3), .second, .val (.long mx2_3), .second, .val (.ref b4), .val (.ref b6), .val (.int (((p4.toUInt32 >>> ((4 : Int32) &&& 31).toUInt32).toInt32) &&& (3 : Int32))), .val (.ref b6), .val (.int (0 : Int32)), .val (.int (0 : Int32)), .val (.int (1 : Int32))] [(.ref b4)])) _
            refine XS.aload X33.here hx rfl (hb hby at_327) rfl rfl ?_
            show Steps p.tables e below (T33.setTop (mkF m 329 #[.val (.long q0), .second, .val (.long q1), .second, .val (.long q2), .second, .val (.long q3), .second, .val (.int p4), .val (.long mn1_1), .second, .val (.long mx1_1), .second, .val (.int md_2), .val (.int ub_2), .val (.long mn2_3), .second, .val (.long mx2_3), .second, .val (.ref b4), .val (.ref b6), .val (.int (((p4.toUInt32 >>> ((4 : Int32) &&& 31).toUInt32).toInt32) &&& (3 : Int32))), .val (.ref b6), .val (.int (0 : Int32)), .val (.int (0 : Int32)), .val (.int (1 : Int32))] [(.ref b4), (.ref b4)])) _
            refine st38.trans ?_
            show Steps p.tables e below (T38.setTop (mkF m 332 #[.val (.long q0), .second, .val (.long q1), .second, .val (.long q2), .second, .val (.long q3), .second, .val (.int p4), .val (.long mn1_1), .second, .val (.long mx1_1), .second, .val (.int md_2), .val (.int ub_2), .val (.long mn2_3), .second, .val (.long mx2_3), .second, .val (.ref b4), .val (.ref b6), .val (.int (((p4.toUInt32 >>> ((4 : Int32) &&& 31).toUInt32).toInt32) &&& (3 : Int32))), .val (.ref b6), .val (.int (0 : Int32)), .val (.int (0 : Int32)), .val (.int (1 : Int32))] [(.int (1 : Int32))])) _
            refine XS.ifNo X38.here hx rfl (hb hby at_332) rfl ((if0 _ _).trans (feq (by decide : ¬ ((1 : Int32) = (0 : Int32)))).1) ?_
            show Steps p.tables e below (T38.setTop (mkF m 335 #[.val (.long q0), .second, .val (.long q1), .second, .val (.long q2), .second, .val (.long q3), .second, .val (.int p4), .val (.long mn1_1), .second, .val (.long mx1_1), .second, .val (.int md_2), .val (.int ub_2), .val (.long mn2_3), .second, .val (.long mx2_3), .second, .val (.ref b4), .val (.ref b6), .val (.int (((p4.toUInt32 >>> ((4 : Int32) &&& 31).toUInt32).toInt32) &&& (3 : Int32))), .val (.ref b6), .val (.int (0 : Int32)), .val (.int (0 : Int32)), .val (.int (1 : Int32))] [])) _
            refine XS.iconst X38.here hx rfl (hb hby at_335) ?_
            show Steps p.tables e below (T38.setTop (mkF m 336 #[.val (.long q0), .second, .val (.long q1), .second, .val (.long q2), .second, .val (.long q3), .second, .val (.int p4), .val (.long mn1_1), .second, .val (.long mx1_1), .second, .val (.int md_2), .val (.int ub_2), .val (.long mn2_3), .second, .val (.long mx2_3), .second, .val (.ref b4), .val (.ref b6), .val (.int (((p4.toUInt32 >>> ((4 : Int32) &&& 31).toUInt32).toInt32) &&& (3 : Int32))), .val (.ref b6), .val (.int (0 : Int32)), .val (.int (0 : Int32)), .val (.int (1 : Int32))] [(.int (1 : Int32))])) _
            refine XS.goto X38.here hx rfl (pc0 := 336) (pc' := 340) rfl (hb hby at_336) (by decide) (by decide) ?_
            show Steps p.tables e below (T38.setTop (mkF m 340 #[.val (.long q0), .second, .val (.long q1), .second, .val (.long q2), .second, .val (.long q3), .second, .val (.int p4), .val (.long mn1_1), .second, .val (.long mx1_1), .second, .val (.int md_2), .val (.int ub_2), .val (.long mn2_3), .second, .val (.long mx2_3), .second, .val (.ref b4), .val (.ref b6), .val (.int (((p4.toUInt32 >>> ((4 : Int32) &&& 31).toUInt32).toInt32) &&& (3 : Int32))), .val (.ref b6), .val (.int (0 : Int32)), .val (.int (0 : Int32)), .val (.int (1 : Int32))] [(.int (1 : Int32))])) _
            exact retN X38 hx (t := .boolean) Bd.returns (by simp) (hb hby at_340) hr
          · show Q_rm0 n0 _ T38.heap _
            rw [e38]
            exact ⟨rfl, N38⟩
theorem own_gl {args : Array Value} {s : State} {aC : Addr} {cC : Cell} (hfit : Fit s) (vC : (Jvm.Term.static "java/lang/Long$LongCache" "cache" "[Ljava/lang/Long;").eval args s none [] s = some (.ref aC)) (S : Sta s s.heap "java/lang/Long$LongCache" "cache" "[Ljava/lang/Long;" (.ref aC)) (AC : Arr s s.heap aC cC (.object "java/lang/Long")) (zC : cC.slots.size < 2 ^ 31) (yC : cC.slots.size.toInt32 = (256 : Int32))
    (hall : ∀ i, i < cC.slots.size → ((Jvm.Cond.and (Jvm.Cond.exactly (Jvm.Term.elem (Jvm.Term.static "java/lang/Long$LongCache" "cache" "[Ljava/lang/Long;") (Jvm.Term.index (0 : Nat))) "java/lang/Long") (Jvm.Cond.eq (Jvm.Term.field (Jvm.Term.elem (Jvm.Term.static "java/lang/Long$LongCache" "cache" "[Ljava/lang/Long;") (Jvm.Term.index (0 : Nat))) "java/lang/Long" "value" "J") (Jvm.Term.op1 Jvm.Unary.i2l (Jvm.Term.sub (Jvm.Term.index (0 : Nat)) (Jvm.Term.int (128 : Int32))))))).value args s none s [i] = some true) : GF s aC cC.cls cC.slots.toList := by
  have hsz : cC.slots.size = 256 := by
    have e := congrArg Int32.toInt yC
    rw [len_toInt zC] at e
    have : (256 : Int32).toInt = 256 := rfl
    omega
  have hget : ∀ j, j < cC.slots.size → cC.slots[j]? = some (cC.slots.toList.getD j .null) := fun j hj => by
    rw [Array.getElem?_eq_getElem hj]; simp [hj]
  have vCi : ∀ i, (Jvm.Term.static "java/lang/Long$LongCache" "cache" "[Ljava/lang/Long;").eval args s none [i] s = some (.ref aC) := fun i => vC
  refine ⟨S, ⟨cC, AC, rfl, by rw [hsz]; rfl, by decide, hget, fun j hj => ?_⟩, fun j h0 h1 => ?_⟩
  · have e1 : (Nat.toInt32 j).toNatClampNeg = j := by simp only [Int32.toNatClampNeg, len_toInt (Nat.lt_trans hj zC)]; rfl
    exact elem_fits (j := Nat.toInt32 j) hfit AC (idx_in hj zC) (by rw [e1]; exact hget j hj)
  · have hj : j.toNatClampNeg < cC.slots.size := by
      have e := nat_of h0
      rw [Int32.lt_iff_toInt_lt, e] at h1
      have : (256 : Int32).toInt = 256 := rfl
      omega
    obtain ⟨q1, -⟩ := and_e (hall _ hj)
    obtain ⟨b, hb⟩ := exa_v q1
    have hA : s.arrayAt? aC = some cC := IntBox.arrayAt_of AC.1 AC.2.1 AC.2.2
    have ev := elem_f (a := Jvm.Term.index 0) (vCi j.toNatClampNeg) (idx_at h0) hA h0
    rw [ev, hget _ hj] at hb
    exact ⟨b, Option.some.inj hb, exa_at (by rw [ev, hget _ hj]; exact hb) q1⟩
set_option maxRecDepth 65536 in
set_option maxHeartbeats 40000000 in
theorem comes_1 {Post : Tables → Env → Array Value → State → Outcome → State → Prop} (hpost : ∀ tb e args s v u, (limb_1_1.after args s (.returned v) u = true ∧ limb_1_2.after args s (.returned v) u = true ∧ True) → FrameEnd s (.returned v) u (Jvm.fieldLocs frame_1_writes args s ++ Jvm.arrayLocs frame_1_arrays args s ++ Jvm.staticLocs frame_1_statics s) 16 128 → Post tb e args s (.returned v) u) :
    ArmFor flags0 classFile x code maxLocals ret World_1 tables_1 room_1 Calls_1 rest_1 Pre_1 Post := by
  intro l hfl _ _ p e ha hc hk s m args below hf hA hF happ hP
  obtain ⟨hcalls, hrest, hpre⟩ := hP
  obtain ⟨-, -, -, hnamed, -, -, -, hat⟩ := (Spec.applies_iff hf).mp happ
  obtain ⟨hg, hn⟩ := and_e (Cond.before_iff.mp (show (Jvm.Cond.and given_1 narrow_1).before args s = true from hpre))
  obtain ⟨gv_l0, gv_r0⟩ := and_e hg
  obtain ⟨gv_l2, gv_r2⟩ := and_e gv_r0
  obtain ⟨gv_l4, gv_r4⟩ := and_e gv_r2
  obtain ⟨gv_l6, gv_r6⟩ := and_e gv_r4
  obtain ⟨gv_l8, gv_r8⟩ := and_e gv_r6
  obtain ⟨w0, w1, w2, w3, w4, rfl⟩ : ∃ w0 w1 w2 w3 w4 : Value, args = #[w0, w1, w2, w3, w4] := by
    have hs : args.size = 5 := by simpa [Cond.value, given_1] using gv_l0
    obtain ⟨L⟩ := args
    match L, hs with
    | [w0, w1, w2, w3, w4], _ => exact ⟨w0, w1, w2, w3, w4, rfl⟩
  have hw := fun d (hd : d ∈ tables_1) => atoms_spec (ws := Jvm.Cond.code x code maxLocals ret :: tables_1) hat d (List.mem_cons_of_mem _ hd)
  have hfit : Fit s := fun {y c} hc i hi => by
    obtain ⟨ha, rfl⟩ := Array.getElem?_eq_some_iff.mp hc
    have q := List.all_eq_true.mp ((Array.all_eq_true_iff_forall_mem.mp hF) _ (Array.getElem_mem ha)) i (List.mem_range.mpr hi)
    simpa [Array.getElem?_eq_getElem hi] using q
  obtain ⟨hsets, hown0⟩ := atoms_of _ (rest_1_c_eq ▸ (show rest_1_c.before _ s = true from hrest))
  have hr0 := Cond.before_iff.mp hown0
  obtain ⟨i0, ei0⟩ := isL_v gv_l2
  obtain rfl : w0 = (.long i0) := Option.some.inj ei0
  obtain ⟨i1, ei1⟩ := isL_v gv_l4
  obtain rfl : w1 = (.long i1) := Option.some.inj ei1
  obtain ⟨i2, ei2⟩ := isL_v gv_l6
  obtain rfl : w2 = (.long i2) := Option.some.inj ei2
  obtain ⟨i3, ei3⟩ := isL_v gv_l8
  obtain rfl : w3 = (.long i3) := Option.some.inj ei3
  obtain ⟨i4, ei4⟩ := is_v gv_r8
  obtain rfl : w4 = (.int i4) := Option.some.inj ei4
  obtain ⟨aC, vC⟩ := arr_v (Cond.before_iff.mp (hsets _ (List.mem_of_getElem? (i := 2) rfl)))
  obtain ⟨cC, AC⟩ := Arr.start vC (Cond.before_iff.mp (hsets _ (List.mem_of_getElem? (i := 2) rfl)))
  obtain ⟨zC, yC⟩ := own_len AC vC (Cond.before_iff.mp (hsets _ (List.mem_of_getElem? (i := 4) rfl)))
  have hAt : s.arrayAt? aC = some cC := IntBox.arrayAt_of AC.1 AC.2.1 AC.2.2
  have hall := Cond.all_elim vC hAt (Cond.before_iff.mp (hsets _ (List.mem_of_getElem? (i := 5) rfl)))
  have GL : GF s aC cC.cls cC.slots.toList := own_gl hfit vC (Sta.start vC (Or.inl (hsets _ (List.mem_of_getElem? (i := 1) rfl)))) AC zC yC hall
  obtain ⟨n, o, h1, h2, h3, _, L, rfl, ⟨rfl, N⟩, hq⟩ := rm0 l s _ hw tables_1 aC cC.cls cC.slots.toList i0 i1 i2 i3 i4 s.heap s.heap.size (Old.start s) GL p e ha hc hk s m _ below hf ((Spec.applies_iff_loose hf).mp happ).1 ⟨rfl, State.Warmed39.refl s, rfl⟩ trivial
  refine ⟨n, _, h1, h2, h3, hpost _ _ _ _ _ _ ⟨Cond.after_iff.mpr rfl, Cond.after_iff.mpr (eq_i res_at (Term.int_eval (1)) rfl), trivial⟩ ⟨hq.1, hq.2.1, (hq.2.2.sift fun y hy => Or.inr (N y hy)).mono (by decide) (by decide)⟩⟩
theorem main_1_1 : Claimed_1_1 := comes_1 fun _ _ _ _ _ _ h hF => ⟨h.1, hF⟩
theorem main_1_2 : Claimed_1_2 := comes_1 fun _ _ _ _ _ _ h hF => ⟨h.2.1, hF⟩
end Jvm.Pilot.@@N@@
namespace Jvm.Pilot.@@N@@
open Jvm Jvm.ClassFile Sem Op Lib Jvm.Free Jvm.Stand Jvm.Pilot.@@N@@.Jvm.D
/-! MADE BY PROGRAM (witnessworld.py) out of the Statement's table words and the real class files: 18 classes; the members and pool entries that the words name. The judged class is class 1, her method 1. -/
namespace start1
open Jvm.ClassFile
def u (s : String) : CpInfo := .utf8 (stringToUtf16 s)
/-- a pool by its gaps: so many unusable entries, then the entry; so many at the end -/
def gap : Nat → List CpInfo → List CpInfo
  | 0, r => r
  | n + 1, r => .unusable :: gap n r
def poolList (es : List (Nat × CpInfo)) (last : Nat) : List CpInfo := es.foldr (fun e r => gap e.1 (e.2 :: r)) (gap last [])
def pool (es : List (Nat × CpInfo)) (last : Nat) : Array CpInfo := ⟨poolList es last⟩
def fileOf (pool : Array CpInfo) (this : Nat) (attrs : Array Attribute := #[]) (ms : Array MethodInfo := #[]) (fl : Nat := 33) (sup : Nat := 0) (ifs : Array Nat := #[]) (fds : Array FieldInfo := #[]) : ClassFile where
  minorVersion := 0
  majorVersion := 65
  constantPool := pool
  accessFlags := fl
  thisClass := this
  superClass := sup
  interfaces := ifs
  fields := fds
  methods := ms
  attributes := attrs
def plain (name : String) (sup : Option ClassId) : Class where
  name := name
  kind := .ordinary
  loader := none
  accessFlags := 33
  super := sup
  interfaces := #[]
  cf := none
  fields := #[]
  methods := #[]
  instanceTypes := #[]
  staticTypes := #[]
  resolved := #[]
  callSites := []
  init := .initialized
  statics := none
  mirror := none

def pool0 : Array CpInfo := pool [(5, u "<init>"), (0, u "()V"), (1, .class_ 10), (1, u "java/lang/Object")] 113

def k0c0 : Code := { maxStack := 0, maxLocals := 1, code := object_method_1_code, exceptionTable := #[], attributes := #[] }
def k0m0 : Method := { name := "<init>", desc := "()V", sig := { parameters := [], returnType := none }, accessFlags := 1, code := some k0c0 }
/-- java/lang/Object -/
def k0 : Class := { plain "java/lang/Object" none with
  accessFlags := 33
  interfaces := #[]
  cf := some (fileOf pool0 8 #[] #[{ accessFlags := 1, nameIndex := 5, descriptorIndex := 6, attributes := #[] }] 33 0 #[] #[])
  fields := #[]
  methods := #[k0m0]
  instanceTypes := #[]
  staticTypes := #[]
  resolved := Array.replicate 124 none
  statics := none }

def pool1 : Array CpInfo := pool [(2, .class_ 4), (1, u "java/lang/Object"), (0, u "<init>"), (0, u "()V"), (0, .class_ 8), (0, u "java/lang/Long"), (0, .long 9223372036854775807), (1, .long 18446744073709551615), (1, .methodref 14 15), (0, .class_ 16), (0, .nameAndType 17 18), (0, u "java/lang/Math"), (0, u "max"), (0, u "(JJ)J"), (0, .methodref 14 20), (0, .nameAndType 21 18), (0, u "min"), (0, .class_ 23), (0, u "com/example/tracelint/tracelint/Interval"), (0, .methodref 22 25), (0, .nameAndType 5 26), (0, u "(JJ)V"), (0, .methodref 7 28), (0, .nameAndType 29 30), (0, u "valueOf"), (0, u "(J)Ljava/lang/Long;"), (0, .methodref 22 32), (0, .nameAndType 33 34), (0, u "equals"), (0, u "(Ljava/lang/Object;)Z"), (0, .class_ 36), (0, u "com/example/tracelint/tracelint/IntervalEqualsPinLaw"), (2, u "law"), (0, u "(JJJJI)Z")] 3

def k1m0 : Method := { name := "<init>", desc := "()V", sig := { parameters := [], returnType := none }, accessFlags := 1, code := none }
def k1c1 : Code := { maxStack := 6, maxLocals := 26, code := code, exceptionTable := #[], attributes := #[] }
def k1m1 : Method := { name := "law", desc := "(JJJJI)Z", sig := { parameters := [.long, .long, .long, .long, .int], returnType := some .boolean }, accessFlags := 9, code := some k1c1 }
/-- com/example/tracelint/tracelint/IntervalEqualsPinLaw -/
def k1 : Class := { plain "com/example/tracelint/tracelint/IntervalEqualsPinLaw" (some 0) with
  accessFlags := 49
  interfaces := #[]
  cf := some (fileOf pool1 35 #[] #[{ accessFlags := 1, nameIndex := 5, descriptorIndex := 6, attributes := #[] }, { accessFlags := 9, nameIndex := 39, descriptorIndex := 40, attributes := #[] }] 49 2 #[] #[])
  fields := #[]
  methods := #[k1m0, k1m1]
  instanceTypes := #[]
  staticTypes := #[]
  resolved := Array.replicate 44 none
  statics := none }

def pool2 : Array CpInfo := pool [(1, .methodref 2 3), (0, .class_ 4), (0, .nameAndType 5 6), (0, u "java/lang/Object"), (0, u "<init>"), (0, u "()V"), (0, .class_ 8), (0, u "java/lang/Record")] 13

def k2c0 : Code := { maxStack := 1, maxLocals := 1, code := jdk_30_method_1_code, exceptionTable := #[], attributes := #[] }
def k2m0 : Method := { name := "<init>", desc := "()V", sig := { parameters := [], returnType := none }, accessFlags := 4, code := some k2c0 }
/-- java/lang/Record -/
def k2 : Class := { plain "java/lang/Record" (some 0) with
  accessFlags := 1057
  interfaces := #[]
  cf := some (fileOf pool2 7 #[] #[{ accessFlags := 4, nameIndex := 5, descriptorIndex := 6, attributes := #[] }] 1057 2 #[] #[])
  fields := #[]
  methods := #[k2m0]
  instanceTypes := #[]
  staticTypes := #[]
  resolved := Array.replicate 22 none
  statics := none }

def pool3 : Array CpInfo := pool [(1, .methodref 2 3), (0, .class_ 4), (0, .nameAndType 5 6), (0, u "java/lang/Record"), (0, u "<init>"), (0, u "()V"), (0, .class_ 8), (0, u "com/example/tracelint/tracelint/Interval"), (0, .long 18446744073709551615), (10, .fieldref 7 21), (0, .nameAndType 22 23), (0, u "min"), (0, u "J"), (0, .fieldref 7 25), (0, .nameAndType 26 23), (0, u "max"), (20, u "(JJ)V"), (2, u "ALL"), (0, u "Lcom/example/tracelint/tracelint/Interval;"), (0, u "UNBOUNDED"), (7, u "equals"), (0, u "(Ljava/lang/Object;)Z")] 29

def k3c0 : Code := { maxStack := 6, maxLocals := 5, code := prog_55_method_1_code, exceptionTable := #[], attributes := #[] }
def k3m0 : Method := { name := "<init>", desc := "(JJ)V", sig := { parameters := [.long, .long], returnType := none }, accessFlags := 1, code := some k3c0 }
def k3c1 : Code := { maxStack := 4, maxLocals := 3, code := prog_55_method_3_code, exceptionTable := #[], attributes := #[] }
def k3m1 : Method := { name := "equals", desc := "(Ljava/lang/Object;)Z", sig := { parameters := [(.object "java/lang/Object")], returnType := some .boolean }, accessFlags := 1, code := some k3c1 }
/-- com/example/tracelint/tracelint/Interval -/
def k3 : Class := { plain "com/example/tracelint/tracelint/Interval" (some 2) with
  accessFlags := 49
  interfaces := #[]
  cf := some (fileOf pool3 7 #[] #[{ accessFlags := 1, nameIndex := 5, descriptorIndex := 47, attributes := #[] }, { accessFlags := 1, nameIndex := 60, descriptorIndex := 61, attributes := #[] }] 49 2 #[] #[{ accessFlags := 18, nameIndex := 22, descriptorIndex := 23, attributes := #[] }, { accessFlags := 18, nameIndex := 26, descriptorIndex := 23, attributes := #[] }, { accessFlags := 25, nameIndex := 52, descriptorIndex := 23, attributes := #[] }, { accessFlags := 25, nameIndex := 50, descriptorIndex := 51, attributes := #[] }])
  fields := #[{ name := "min", type := .long, accessFlags := 18, slot := 0, constantValue := 0 }, { name := "max", type := .long, accessFlags := 18, slot := 1, constantValue := 0 }, { name := "UNBOUNDED", type := .long, accessFlags := 25, slot := 0, constantValue := 0 }, { name := "ALL", type := (.object "com/example/tracelint/tracelint/Interval"), accessFlags := 25, slot := 1, constantValue := 0 }]
  methods := #[k3m0, k3m1]
  instanceTypes := #[.long, .long]
  staticTypes := #[.long, (.object "com/example/tracelint/tracelint/Interval")]
  resolved := Array.replicate 91 none
  statics := none }

def pool4 : Array CpInfo := pool [(1, .class_ 2), (0, u "java/io/Serializable"), (0, .class_ 4), (0, u "java/lang/Object")] 2

/-- java/io/Serializable -/
def k4 : Class := { plain "java/io/Serializable" (some 0) with
  accessFlags := 1537
  interfaces := #[]
  cf := some (fileOf pool4 1 #[] #[] 1537 3 #[] #[])
  fields := #[]
  methods := #[]
  instanceTypes := #[]
  staticTypes := #[]
  resolved := Array.replicate 7 none
  statics := none }

def pool5 : Array CpInfo := pool [(1, .methodref 2 3), (0, .class_ 4), (0, .nameAndType 5 6), (0, u "java/lang/Object"), (0, u "<init>"), (0, u "()V"), (1, .class_ 10), (1, u "java/lang/Number"), (2, .class_ 14), (0, u "java/io/Serializable"), (0, u "serialVersionUID"), (0, u "J")] 20

def k5c0 : Code := { maxStack := 1, maxLocals := 1, code := jdk_18_method_1_code, exceptionTable := #[], attributes := #[] }
def k5m0 : Method := { name := "<init>", desc := "()V", sig := { parameters := [], returnType := none }, accessFlags := 1, code := some k5c0 }
/-- java/lang/Number -/
def k5 : Class := { plain "java/lang/Number" (some 0) with
  accessFlags := 1057
  interfaces := #[4]
  cf := some (fileOf pool5 8 #[] #[{ accessFlags := 1, nameIndex := 5, descriptorIndex := 6, attributes := #[] }] 1057 2 #[13] #[{ accessFlags := 26, nameIndex := 15, descriptorIndex := 16, attributes := #[] }])
  fields := #[{ name := "serialVersionUID", type := .long, accessFlags := 26, slot := 0, constantValue := 0 }]
  methods := #[k5m0]
  instanceTypes := #[]
  staticTypes := #[.long]
  resolved := Array.replicate 37 none
  statics := none }

def pool6 : Array CpInfo := pool [(1, .class_ 2), (0, u "java/lang/Comparable"), (0, .class_ 4), (0, u "java/lang/Object")] 7

/-- java/lang/Comparable -/
def k6 : Class := { plain "java/lang/Comparable" (some 0) with
  accessFlags := 1537
  interfaces := #[]
  cf := some (fileOf pool6 1 #[] #[] 1537 3 #[] #[])
  fields := #[]
  methods := #[]
  instanceTypes := #[]
  staticTypes := #[]
  resolved := Array.replicate 12 none
  statics := none }

def pool7 : Array CpInfo := pool [(1, .class_ 2), (0, u "java/lang/constant/Constable"), (0, .class_ 4), (0, u "java/lang/Object")] 6

/-- java/lang/constant/Constable -/
def k7 : Class := { plain "java/lang/constant/Constable" (some 0) with
  accessFlags := 1537
  interfaces := #[]
  cf := some (fileOf pool7 1 #[] #[] 1537 3 #[] #[])
  fields := #[]
  methods := #[]
  instanceTypes := #[]
  staticTypes := #[]
  resolved := Array.replicate 11 none
  statics := none }

def pool8 : Array CpInfo := pool [(1, .class_ 2), (0, u "java/lang/constant/ConstantDesc"), (0, .class_ 4), (0, u "java/lang/Object")] 32

/-- java/lang/constant/ConstantDesc -/
def k8 : Class := { plain "java/lang/constant/ConstantDesc" (some 0) with
  accessFlags := 1537
  interfaces := #[]
  cf := some (fileOf pool8 1 #[] #[] 1537 3 #[] #[])
  fields := #[]
  methods := #[]
  instanceTypes := #[]
  staticTypes := #[]
  resolved := Array.replicate 37 none
  statics := none }

def pool9 : Array CpInfo := pool [(1, .class_ 2), (0, u "java/lang/Long"), (55, .nameAndType 59 60), (0, u "<init>"), (0, u "()V"), (24, u "valueOf"), (143, u "(J)Ljava/lang/Long;"), (0, .long 18446744073709551488), (1, .long 127), (1, .fieldref 235 236), (0, .class_ 237), (0, .nameAndType 238 239), (0, u "java/lang/Long$LongCache"), (0, u "cache"), (0, u "[Ljava/lang/Long;"), (0, .methodref 1 241), (0, .nameAndType 59 242), (0, u "(J)V"), (27, .methodref 271 58), (0, .class_ 272), (0, u "java/lang/Number"), (0, .fieldref 1 274), (0, .nameAndType 275 276), (0, u "value"), (0, u "J"), (84, u "TYPE"), (0, u "Ljava/lang/Class;"), (0, .class_ 364), (0, u "java/lang/Comparable"), (0, .class_ 366), (0, u "java/lang/constant/Constable"), (0, .class_ 368), (0, u "java/lang/constant/ConstantDesc"), (0, u "MIN_VALUE"), (1, u "MAX_VALUE"), (4, u "SIZE"), (0, u "I"), (1, u "BYTES"), (1, u "serialVersionUID")] 142

def k9c0 : Code := { maxStack := 4, maxLocals := 3, code := jdk_35_method_24_code, exceptionTable := #[], attributes := #[] }
def k9m0 : Method := { name := "valueOf", desc := "(J)Ljava/lang/Long;", sig := { parameters := [.long], returnType := some (.object "java/lang/Long") }, accessFlags := 9, code := some k9c0 }
def k9c1 : Code := { maxStack := 3, maxLocals := 3, code := jdk_35_method_26_code, exceptionTable := #[], attributes := #[] }
def k9m1 : Method := { name := "<init>", desc := "(J)V", sig := { parameters := [.long], returnType := none }, accessFlags := 1, code := some k9c1 }
/-- java/lang/Long -/
def k9 : Class := { plain "java/lang/Long" (some 5) with
  accessFlags := 49
  interfaces := #[6, 7, 8]
  cf := some (fileOf pool9 1 #[.nestMembers #[235]] #[{ accessFlags := 9, nameIndex := 85, descriptorIndex := 229, attributes := #[] }, { accessFlags := 1, nameIndex := 59, descriptorIndex := 242, attributes := #[] }] 49 271 #[363, 365, 367] #[{ accessFlags := 25, nameIndex := 369, descriptorIndex := 276, attributes := #[] }, { accessFlags := 25, nameIndex := 371, descriptorIndex := 276, attributes := #[] }, { accessFlags := 25, nameIndex := 361, descriptorIndex := 362, attributes := #[] }, { accessFlags := 18, nameIndex := 275, descriptorIndex := 276, attributes := #[] }, { accessFlags := 25, nameIndex := 376, descriptorIndex := 377, attributes := #[] }, { accessFlags := 25, nameIndex := 379, descriptorIndex := 377, attributes := #[] }, { accessFlags := 26, nameIndex := 381, descriptorIndex := 276, attributes := #[] }])
  fields := #[{ name := "MIN_VALUE", type := .long, accessFlags := 25, slot := 0, constantValue := 0 }, { name := "MAX_VALUE", type := .long, accessFlags := 25, slot := 1, constantValue := 0 }, { name := "TYPE", type := (.object "java/lang/Class"), accessFlags := 25, slot := 2, constantValue := 0 }, { name := "value", type := .long, accessFlags := 18, slot := 0, constantValue := 0 }, { name := "SIZE", type := .int, accessFlags := 25, slot := 3, constantValue := 0 }, { name := "BYTES", type := .int, accessFlags := 25, slot := 4, constantValue := 0 }, { name := "serialVersionUID", type := .long, accessFlags := 26, slot := 5, constantValue := 0 }]
  methods := #[k9m0, k9m1]
  instanceTypes := #[.long]
  staticTypes := #[.long, .long, (.object "java/lang/Class"), .int, .int, .long]
  resolved := Array.replicate 524 none
  statics := none }

def pool10 : Array CpInfo := pool [(1, .class_ 2), (0, u "java/lang/Math"), (1, .class_ 6), (1, u "java/lang/Object"), (0, u "<init>"), (0, u "()V"), (89, .class_ 100), (1, u "java/lang/Math$RandomNumberGeneratorHolder"), (20, u "(JJ)J"), (50, u "negativeZeroFloatBits"), (0, u "J"), (2, u "negativeZeroDoubleBits"), (21, u "max"), (2, u "min"), (43, u "$assertionsDisabled"), (0, u "Z"), (91, u "twoToTheDoubleScaleDown"), (0, u "D"), (4, u "twoToTheDoubleScaleUp"), (9, u "E"), (3, u "PI"), (2, u "TAU"), (2, u "DEGREES_TO_RADIANS"), (0, u "RADIANS_TO_DEGREES")] 94

def k10m0 : Method := { name := "<init>", desc := "()V", sig := { parameters := [], returnType := none }, accessFlags := 2, code := none }
def k10c1 : Code := { maxStack := 4, maxLocals := 4, code := jdk_29_method_66_code, exceptionTable := #[], attributes := #[] }
def k10m1 : Method := { name := "max", desc := "(JJ)J", sig := { parameters := [.long, .long], returnType := some .long }, accessFlags := 9, code := some k10c1 }
def k10c2 : Code := { maxStack := 4, maxLocals := 4, code := jdk_29_method_70_code, exceptionTable := #[], attributes := #[] }
def k10m2 : Method := { name := "min", desc := "(JJ)J", sig := { parameters := [.long, .long], returnType := some .long }, accessFlags := 9, code := some k10c2 }
/-- java/lang/Math -/
def k10 : Class := { plain "java/lang/Math" (some 0) with
  accessFlags := 49
  interfaces := #[]
  cf := some (fileOf pool10 1 #[.nestMembers #[98]] #[{ accessFlags := 2, nameIndex := 7, descriptorIndex := 8, attributes := #[] }, { accessFlags := 9, nameIndex := 198, descriptorIndex := 121, attributes := #[] }, { accessFlags := 9, nameIndex := 201, descriptorIndex := 121, attributes := #[] }] 49 4 #[] #[{ accessFlags := 25, nameIndex := 354, descriptorIndex := 339, attributes := #[] }, { accessFlags := 25, nameIndex := 358, descriptorIndex := 339, attributes := #[] }, { accessFlags := 25, nameIndex := 361, descriptorIndex := 339, attributes := #[] }, { accessFlags := 26, nameIndex := 364, descriptorIndex := 339, attributes := #[] }, { accessFlags := 26, nameIndex := 365, descriptorIndex := 339, attributes := #[] }, { accessFlags := 26, nameIndex := 172, descriptorIndex := 173, attributes := #[] }, { accessFlags := 26, nameIndex := 176, descriptorIndex := 173, attributes := #[] }, { accessFlags := 8, nameIndex := 344, descriptorIndex := 339, attributes := #[] }, { accessFlags := 8, nameIndex := 338, descriptorIndex := 339, attributes := #[] }, { accessFlags := 4120, nameIndex := 245, descriptorIndex := 246, attributes := #[] }])
  fields := #[{ name := "E", type := .double, accessFlags := 25, slot := 0, constantValue := 0 }, { name := "PI", type := .double, accessFlags := 25, slot := 1, constantValue := 0 }, { name := "TAU", type := .double, accessFlags := 25, slot := 2, constantValue := 0 }, { name := "DEGREES_TO_RADIANS", type := .double, accessFlags := 26, slot := 3, constantValue := 0 }, { name := "RADIANS_TO_DEGREES", type := .double, accessFlags := 26, slot := 4, constantValue := 0 }, { name := "negativeZeroFloatBits", type := .long, accessFlags := 26, slot := 5, constantValue := 0 }, { name := "negativeZeroDoubleBits", type := .long, accessFlags := 26, slot := 6, constantValue := 0 }, { name := "twoToTheDoubleScaleUp", type := .double, accessFlags := 8, slot := 7, constantValue := 0 }, { name := "twoToTheDoubleScaleDown", type := .double, accessFlags := 8, slot := 8, constantValue := 0 }, { name := "$assertionsDisabled", type := .boolean, accessFlags := 4120, slot := 9, constantValue := 0 }]
  methods := #[k10m0, k10m1, k10m2]
  instanceTypes := #[]
  staticTypes := #[.double, .double, .double, .double, .double, .long, .long, .double, .double, .boolean]
  resolved := Array.replicate 460 none
  statics := none }

def pool11 : Array CpInfo := pool [(2, .class_ 4), (1, u "java/lang/Object"), (0, u "<init>"), (0, u "()V"), (0, .class_ 8), (0, u "java/lang/Long"), (7, .class_ 18), (1, u "java/lang/Long$LongCache"), (0, u "$assertionsDisabled"), (0, u "Z"), (8, u "archivedCache"), (0, u "[Ljava/lang/Long;"), (7, u "cache")] 24

def k11m0 : Method := { name := "<init>", desc := "()V", sig := { parameters := [], returnType := none }, accessFlags := 2, code := none }
/-- java/lang/Long$LongCache -/
def k11 : Class := { plain "java/lang/Long$LongCache" (some 0) with
  accessFlags := 48
  interfaces := #[]
  cf := some (fileOf pool11 16 #[.nestHost 7] #[{ accessFlags := 2, nameIndex := 5, descriptorIndex := 6, attributes := #[] }] 48 2 #[] #[{ accessFlags := 24, nameIndex := 38, descriptorIndex := 30, attributes := #[] }, { accessFlags := 8, nameIndex := 29, descriptorIndex := 30, attributes := #[] }, { accessFlags := 4120, nameIndex := 19, descriptorIndex := 20, attributes := #[] }])
  fields := #[{ name := "cache", type := (.array (.object "java/lang/Long")), accessFlags := 24, slot := 0, constantValue := 0 }, { name := "archivedCache", type := (.array (.object "java/lang/Long")), accessFlags := 8, slot := 1, constantValue := 0 }, { name := "$assertionsDisabled", type := .boolean, accessFlags := 4120, slot := 2, constantValue := 0 }]
  methods := #[k11m0]
  instanceTypes := #[]
  staticTypes := #[(.array (.object "java/lang/Long")), (.array (.object "java/lang/Long")), .boolean]
  resolved := Array.replicate 63 none
  statics := some 0 }

def pool12 : Array CpInfo := pool [(1, u "java/lang/Cloneable"), (0, .class_ 1), (0, u "java/lang/Object"), (0, .class_ 3)] 3

/-- java/lang/Cloneable -/
def k12 : Class := { plain "java/lang/Cloneable" (some 0) with
  accessFlags := 1537
  interfaces := #[]
  cf := some (fileOf pool12 2 #[] #[] 1537 4 #[] #[])
  fields := #[]
  methods := #[]
  instanceTypes := #[]
  staticTypes := #[]
  resolved := Array.replicate 8 none
  statics := none }

/-- the primitive byte -/
def k13 : Class := { plain "byte" none with kind := .primitive 'B', accessFlags := 0x411 }
/-- [B -/
def k14 : Class := { plain "[B" (some 0) with kind := .array 13 .byte, interfaces := #[12, 4], accessFlags := 1041 }

/-- the primitive int -/
def k15 : Class := { plain "int" none with kind := .primitive 'I', accessFlags := 0x411 }
/-- [I -/
def k16 : Class := { plain "[I" (some 0) with kind := .array 15 .int, interfaces := #[12, 4], accessFlags := 1041 }

/-- [Ljava/lang/Long; -/
def k17 : Class := { plain "[Ljava/lang/Long;" (some 0) with kind := .array 9 (.object "java/lang/Long"), interfaces := #[12, 4], accessFlags := 1041 }

def heap : Heap := #[{ cls := 11, slots := #[.ref 1, .null, .int 0], vm := .statics 11 },
  { cls := 17, slots := #[.ref 2, .ref 3, .ref 4, .ref 5, .ref 6, .ref 7, .ref 8, .ref 9, .ref 10, .ref 11, .ref 12, .ref 13, .ref 14, .ref 15, .ref 16, .ref 17, .ref 18, .ref 19, .ref 20, .ref 21, .ref 22, .ref 23, .ref 24, .ref 25, .ref 26, .ref 27, .ref 28, .ref 29, .ref 30, .ref 31, .ref 32, .ref 33, .ref 34, .ref 35, .ref 36, .ref 37, .ref 38, .ref 39, .ref 40, .ref 41, .ref 42, .ref 43, .ref 44, .ref 45, .ref 46, .ref 47, .ref 48, .ref 49, .ref 50, .ref 51, .ref 52, .ref 53, .ref 54, .ref 55, .ref 56, .ref 57, .ref 58, .ref 59, .ref 60, .ref 61, .ref 62, .ref 63, .ref 64, .ref 65, .ref 66, .ref 67, .ref 68, .ref 69, .ref 70, .ref 71, .ref 72, .ref 73, .ref 74, .ref 75, .ref 76, .ref 77, .ref 78, .ref 79, .ref 80, .ref 81, .ref 82, .ref 83, .ref 84, .ref 85, .ref 86, .ref 87, .ref 88, .ref 89, .ref 90, .ref 91, .ref 92, .ref 93, .ref 94, .ref 95, .ref 96, .ref 97, .ref 98, .ref 99, .ref 100, .ref 101, .ref 102, .ref 103, .ref 104, .ref 105, .ref 106, .ref 107, .ref 108, .ref 109, .ref 110, .ref 111, .ref 112, .ref 113, .ref 114, .ref 115, .ref 116, .ref 117, .ref 118, .ref 119, .ref 120, .ref 121, .ref 122, .ref 123, .ref 124, .ref 125, .ref 126, .ref 127, .ref 128, .ref 129, .ref 130, .ref 131, .ref 132, .ref 133, .ref 134, .ref 135, .ref 136, .ref 137, .ref 138, .ref 139, .ref 140, .ref 141, .ref 142, .ref 143, .ref 144, .ref 145, .ref 146, .ref 147, .ref 148, .ref 149, .ref 150, .ref 151, .ref 152, .ref 153, .ref 154, .ref 155, .ref 156, .ref 157, .ref 158, .ref 159, .ref 160, .ref 161, .ref 162, .ref 163, .ref 164, .ref 165, .ref 166, .ref 167, .ref 168, .ref 169, .ref 170, .ref 171, .ref 172, .ref 173, .ref 174, .ref 175, .ref 176, .ref 177, .ref 178, .ref 179, .ref 180, .ref 181, .ref 182, .ref 183, .ref 184, .ref 185, .ref 186, .ref 187, .ref 188, .ref 189, .ref 190, .ref 191, .ref 192, .ref 193, .ref 194, .ref 195, .ref 196, .ref 197, .ref 198, .ref 199, .ref 200, .ref 201, .ref 202, .ref 203, .ref 204, .ref 205, .ref 206, .ref 207, .ref 208, .ref 209, .ref 210, .ref 211, .ref 212, .ref 213, .ref 214, .ref 215, .ref 216, .ref 217, .ref 218, .ref 219, .ref 220, .ref 221, .ref 222, .ref 223, .ref 224, .ref 225, .ref 226, .ref 227, .ref 228, .ref 229, .ref 230, .ref 231, .ref 232, .ref 233, .ref 234, .ref 235, .ref 236, .ref 237, .ref 238, .ref 239, .ref 240, .ref 241, .ref 242, .ref 243, .ref 244, .ref 245, .ref 246, .ref 247, .ref 248, .ref 249, .ref 250, .ref 251, .ref 252, .ref 253, .ref 254, .ref 255, .ref 256, .ref 257], vm := .none },
  { cls := 9, slots := #[.long (-128)], vm := .none },
  { cls := 9, slots := #[.long (-127)], vm := .none },
  { cls := 9, slots := #[.long (-126)], vm := .none },
  { cls := 9, slots := #[.long (-125)], vm := .none },
  { cls := 9, slots := #[.long (-124)], vm := .none },
  { cls := 9, slots := #[.long (-123)], vm := .none },
  { cls := 9, slots := #[.long (-122)], vm := .none },
  { cls := 9, slots := #[.long (-121)], vm := .none },
  { cls := 9, slots := #[.long (-120)], vm := .none },
  { cls := 9, slots := #[.long (-119)], vm := .none },
  { cls := 9, slots := #[.long (-118)], vm := .none },
  { cls := 9, slots := #[.long (-117)], vm := .none },
  { cls := 9, slots := #[.long (-116)], vm := .none },
  { cls := 9, slots := #[.long (-115)], vm := .none },
  { cls := 9, slots := #[.long (-114)], vm := .none },
  { cls := 9, slots := #[.long (-113)], vm := .none },
  { cls := 9, slots := #[.long (-112)], vm := .none },
  { cls := 9, slots := #[.long (-111)], vm := .none },
  { cls := 9, slots := #[.long (-110)], vm := .none },
  { cls := 9, slots := #[.long (-109)], vm := .none },
  { cls := 9, slots := #[.long (-108)], vm := .none },
  { cls := 9, slots := #[.long (-107)], vm := .none },
  { cls := 9, slots := #[.long (-106)], vm := .none },
  { cls := 9, slots := #[.long (-105)], vm := .none },
  { cls := 9, slots := #[.long (-104)], vm := .none },
  { cls := 9, slots := #[.long (-103)], vm := .none },
  { cls := 9, slots := #[.long (-102)], vm := .none },
  { cls := 9, slots := #[.long (-101)], vm := .none },
  { cls := 9, slots := #[.long (-100)], vm := .none },
  { cls := 9, slots := #[.long (-99)], vm := .none },
  { cls := 9, slots := #[.long (-98)], vm := .none },
  { cls := 9, slots := #[.long (-97)], vm := .none },
  { cls := 9, slots := #[.long (-96)], vm := .none },
  { cls := 9, slots := #[.long (-95)], vm := .none },
  { cls := 9, slots := #[.long (-94)], vm := .none },
  { cls := 9, slots := #[.long (-93)], vm := .none },
  { cls := 9, slots := #[.long (-92)], vm := .none },
  { cls := 9, slots := #[.long (-91)], vm := .none },
  { cls := 9, slots := #[.long (-90)], vm := .none },
  { cls := 9, slots := #[.long (-89)], vm := .none },
  { cls := 9, slots := #[.long (-88)], vm := .none },
  { cls := 9, slots := #[.long (-87)], vm := .none },
  { cls := 9, slots := #[.long (-86)], vm := .none },
  { cls := 9, slots := #[.long (-85)], vm := .none },
  { cls := 9, slots := #[.long (-84)], vm := .none },
  { cls := 9, slots := #[.long (-83)], vm := .none },
  { cls := 9, slots := #[.long (-82)], vm := .none },
  { cls := 9, slots := #[.long (-81)], vm := .none },
  { cls := 9, slots := #[.long (-80)], vm := .none },
  { cls := 9, slots := #[.long (-79)], vm := .none },
  { cls := 9, slots := #[.long (-78)], vm := .none },
  { cls := 9, slots := #[.long (-77)], vm := .none },
  { cls := 9, slots := #[.long (-76)], vm := .none },
  { cls := 9, slots := #[.long (-75)], vm := .none },
  { cls := 9, slots := #[.long (-74)], vm := .none },
  { cls := 9, slots := #[.long (-73)], vm := .none },
  { cls := 9, slots := #[.long (-72)], vm := .none },
  { cls := 9, slots := #[.long (-71)], vm := .none },
  { cls := 9, slots := #[.long (-70)], vm := .none },
  { cls := 9, slots := #[.long (-69)], vm := .none },
  { cls := 9, slots := #[.long (-68)], vm := .none },
  { cls := 9, slots := #[.long (-67)], vm := .none },
  { cls := 9, slots := #[.long (-66)], vm := .none },
  { cls := 9, slots := #[.long (-65)], vm := .none },
  { cls := 9, slots := #[.long (-64)], vm := .none },
  { cls := 9, slots := #[.long (-63)], vm := .none },
  { cls := 9, slots := #[.long (-62)], vm := .none },
  { cls := 9, slots := #[.long (-61)], vm := .none },
  { cls := 9, slots := #[.long (-60)], vm := .none },
  { cls := 9, slots := #[.long (-59)], vm := .none },
  { cls := 9, slots := #[.long (-58)], vm := .none },
  { cls := 9, slots := #[.long (-57)], vm := .none },
  { cls := 9, slots := #[.long (-56)], vm := .none },
  { cls := 9, slots := #[.long (-55)], vm := .none },
  { cls := 9, slots := #[.long (-54)], vm := .none },
  { cls := 9, slots := #[.long (-53)], vm := .none },
  { cls := 9, slots := #[.long (-52)], vm := .none },
  { cls := 9, slots := #[.long (-51)], vm := .none },
  { cls := 9, slots := #[.long (-50)], vm := .none },
  { cls := 9, slots := #[.long (-49)], vm := .none },
  { cls := 9, slots := #[.long (-48)], vm := .none },
  { cls := 9, slots := #[.long (-47)], vm := .none },
  { cls := 9, slots := #[.long (-46)], vm := .none },
  { cls := 9, slots := #[.long (-45)], vm := .none },
  { cls := 9, slots := #[.long (-44)], vm := .none },
  { cls := 9, slots := #[.long (-43)], vm := .none },
  { cls := 9, slots := #[.long (-42)], vm := .none },
  { cls := 9, slots := #[.long (-41)], vm := .none },
  { cls := 9, slots := #[.long (-40)], vm := .none },
  { cls := 9, slots := #[.long (-39)], vm := .none },
  { cls := 9, slots := #[.long (-38)], vm := .none },
  { cls := 9, slots := #[.long (-37)], vm := .none },
  { cls := 9, slots := #[.long (-36)], vm := .none },
  { cls := 9, slots := #[.long (-35)], vm := .none },
  { cls := 9, slots := #[.long (-34)], vm := .none },
  { cls := 9, slots := #[.long (-33)], vm := .none },
  { cls := 9, slots := #[.long (-32)], vm := .none },
  { cls := 9, slots := #[.long (-31)], vm := .none },
  { cls := 9, slots := #[.long (-30)], vm := .none },
  { cls := 9, slots := #[.long (-29)], vm := .none },
  { cls := 9, slots := #[.long (-28)], vm := .none },
  { cls := 9, slots := #[.long (-27)], vm := .none },
  { cls := 9, slots := #[.long (-26)], vm := .none },
  { cls := 9, slots := #[.long (-25)], vm := .none },
  { cls := 9, slots := #[.long (-24)], vm := .none },
  { cls := 9, slots := #[.long (-23)], vm := .none },
  { cls := 9, slots := #[.long (-22)], vm := .none },
  { cls := 9, slots := #[.long (-21)], vm := .none },
  { cls := 9, slots := #[.long (-20)], vm := .none },
  { cls := 9, slots := #[.long (-19)], vm := .none },
  { cls := 9, slots := #[.long (-18)], vm := .none },
  { cls := 9, slots := #[.long (-17)], vm := .none },
  { cls := 9, slots := #[.long (-16)], vm := .none },
  { cls := 9, slots := #[.long (-15)], vm := .none },
  { cls := 9, slots := #[.long (-14)], vm := .none },
  { cls := 9, slots := #[.long (-13)], vm := .none },
  { cls := 9, slots := #[.long (-12)], vm := .none },
  { cls := 9, slots := #[.long (-11)], vm := .none },
  { cls := 9, slots := #[.long (-10)], vm := .none },
  { cls := 9, slots := #[.long (-9)], vm := .none },
  { cls := 9, slots := #[.long (-8)], vm := .none },
  { cls := 9, slots := #[.long (-7)], vm := .none },
  { cls := 9, slots := #[.long (-6)], vm := .none },
  { cls := 9, slots := #[.long (-5)], vm := .none },
  { cls := 9, slots := #[.long (-4)], vm := .none },
  { cls := 9, slots := #[.long (-3)], vm := .none },
  { cls := 9, slots := #[.long (-2)], vm := .none },
  { cls := 9, slots := #[.long (-1)], vm := .none },
  { cls := 9, slots := #[.long 0], vm := .none },
  { cls := 9, slots := #[.long 1], vm := .none },
  { cls := 9, slots := #[.long 2], vm := .none },
  { cls := 9, slots := #[.long 3], vm := .none },
  { cls := 9, slots := #[.long 4], vm := .none },
  { cls := 9, slots := #[.long 5], vm := .none },
  { cls := 9, slots := #[.long 6], vm := .none },
  { cls := 9, slots := #[.long 7], vm := .none },
  { cls := 9, slots := #[.long 8], vm := .none },
  { cls := 9, slots := #[.long 9], vm := .none },
  { cls := 9, slots := #[.long 10], vm := .none },
  { cls := 9, slots := #[.long 11], vm := .none },
  { cls := 9, slots := #[.long 12], vm := .none },
  { cls := 9, slots := #[.long 13], vm := .none },
  { cls := 9, slots := #[.long 14], vm := .none },
  { cls := 9, slots := #[.long 15], vm := .none },
  { cls := 9, slots := #[.long 16], vm := .none },
  { cls := 9, slots := #[.long 17], vm := .none },
  { cls := 9, slots := #[.long 18], vm := .none },
  { cls := 9, slots := #[.long 19], vm := .none },
  { cls := 9, slots := #[.long 20], vm := .none },
  { cls := 9, slots := #[.long 21], vm := .none },
  { cls := 9, slots := #[.long 22], vm := .none },
  { cls := 9, slots := #[.long 23], vm := .none },
  { cls := 9, slots := #[.long 24], vm := .none },
  { cls := 9, slots := #[.long 25], vm := .none },
  { cls := 9, slots := #[.long 26], vm := .none },
  { cls := 9, slots := #[.long 27], vm := .none },
  { cls := 9, slots := #[.long 28], vm := .none },
  { cls := 9, slots := #[.long 29], vm := .none },
  { cls := 9, slots := #[.long 30], vm := .none },
  { cls := 9, slots := #[.long 31], vm := .none },
  { cls := 9, slots := #[.long 32], vm := .none },
  { cls := 9, slots := #[.long 33], vm := .none },
  { cls := 9, slots := #[.long 34], vm := .none },
  { cls := 9, slots := #[.long 35], vm := .none },
  { cls := 9, slots := #[.long 36], vm := .none },
  { cls := 9, slots := #[.long 37], vm := .none },
  { cls := 9, slots := #[.long 38], vm := .none },
  { cls := 9, slots := #[.long 39], vm := .none },
  { cls := 9, slots := #[.long 40], vm := .none },
  { cls := 9, slots := #[.long 41], vm := .none },
  { cls := 9, slots := #[.long 42], vm := .none },
  { cls := 9, slots := #[.long 43], vm := .none },
  { cls := 9, slots := #[.long 44], vm := .none },
  { cls := 9, slots := #[.long 45], vm := .none },
  { cls := 9, slots := #[.long 46], vm := .none },
  { cls := 9, slots := #[.long 47], vm := .none },
  { cls := 9, slots := #[.long 48], vm := .none },
  { cls := 9, slots := #[.long 49], vm := .none },
  { cls := 9, slots := #[.long 50], vm := .none },
  { cls := 9, slots := #[.long 51], vm := .none },
  { cls := 9, slots := #[.long 52], vm := .none },
  { cls := 9, slots := #[.long 53], vm := .none },
  { cls := 9, slots := #[.long 54], vm := .none },
  { cls := 9, slots := #[.long 55], vm := .none },
  { cls := 9, slots := #[.long 56], vm := .none },
  { cls := 9, slots := #[.long 57], vm := .none },
  { cls := 9, slots := #[.long 58], vm := .none },
  { cls := 9, slots := #[.long 59], vm := .none },
  { cls := 9, slots := #[.long 60], vm := .none },
  { cls := 9, slots := #[.long 61], vm := .none },
  { cls := 9, slots := #[.long 62], vm := .none },
  { cls := 9, slots := #[.long 63], vm := .none },
  { cls := 9, slots := #[.long 64], vm := .none },
  { cls := 9, slots := #[.long 65], vm := .none },
  { cls := 9, slots := #[.long 66], vm := .none },
  { cls := 9, slots := #[.long 67], vm := .none },
  { cls := 9, slots := #[.long 68], vm := .none },
  { cls := 9, slots := #[.long 69], vm := .none },
  { cls := 9, slots := #[.long 70], vm := .none },
  { cls := 9, slots := #[.long 71], vm := .none },
  { cls := 9, slots := #[.long 72], vm := .none },
  { cls := 9, slots := #[.long 73], vm := .none },
  { cls := 9, slots := #[.long 74], vm := .none },
  { cls := 9, slots := #[.long 75], vm := .none },
  { cls := 9, slots := #[.long 76], vm := .none },
  { cls := 9, slots := #[.long 77], vm := .none },
  { cls := 9, slots := #[.long 78], vm := .none },
  { cls := 9, slots := #[.long 79], vm := .none },
  { cls := 9, slots := #[.long 80], vm := .none },
  { cls := 9, slots := #[.long 81], vm := .none },
  { cls := 9, slots := #[.long 82], vm := .none },
  { cls := 9, slots := #[.long 83], vm := .none },
  { cls := 9, slots := #[.long 84], vm := .none },
  { cls := 9, slots := #[.long 85], vm := .none },
  { cls := 9, slots := #[.long 86], vm := .none },
  { cls := 9, slots := #[.long 87], vm := .none },
  { cls := 9, slots := #[.long 88], vm := .none },
  { cls := 9, slots := #[.long 89], vm := .none },
  { cls := 9, slots := #[.long 90], vm := .none },
  { cls := 9, slots := #[.long 91], vm := .none },
  { cls := 9, slots := #[.long 92], vm := .none },
  { cls := 9, slots := #[.long 93], vm := .none },
  { cls := 9, slots := #[.long 94], vm := .none },
  { cls := 9, slots := #[.long 95], vm := .none },
  { cls := 9, slots := #[.long 96], vm := .none },
  { cls := 9, slots := #[.long 97], vm := .none },
  { cls := 9, slots := #[.long 98], vm := .none },
  { cls := 9, slots := #[.long 99], vm := .none },
  { cls := 9, slots := #[.long 100], vm := .none },
  { cls := 9, slots := #[.long 101], vm := .none },
  { cls := 9, slots := #[.long 102], vm := .none },
  { cls := 9, slots := #[.long 103], vm := .none },
  { cls := 9, slots := #[.long 104], vm := .none },
  { cls := 9, slots := #[.long 105], vm := .none },
  { cls := 9, slots := #[.long 106], vm := .none },
  { cls := 9, slots := #[.long 107], vm := .none },
  { cls := 9, slots := #[.long 108], vm := .none },
  { cls := 9, slots := #[.long 109], vm := .none },
  { cls := 9, slots := #[.long 110], vm := .none },
  { cls := 9, slots := #[.long 111], vm := .none },
  { cls := 9, slots := #[.long 112], vm := .none },
  { cls := 9, slots := #[.long 113], vm := .none },
  { cls := 9, slots := #[.long 114], vm := .none },
  { cls := 9, slots := #[.long 115], vm := .none },
  { cls := 9, slots := #[.long 116], vm := .none },
  { cls := 9, slots := #[.long 117], vm := .none },
  { cls := 9, slots := #[.long 118], vm := .none },
  { cls := 9, slots := #[.long 119], vm := .none },
  { cls := 9, slots := #[.long 120], vm := .none },
  { cls := 9, slots := #[.long 121], vm := .none },
  { cls := 9, slots := #[.long 122], vm := .none },
  { cls := 9, slots := #[.long 123], vm := .none },
  { cls := 9, slots := #[.long 124], vm := .none },
  { cls := 9, slots := #[.long 125], vm := .none },
  { cls := 9, slots := #[.long 126], vm := .none },
  { cls := 9, slots := #[.long 127], vm := .none }]
def classes : Array Class := #[k0, k1, k2, k3, k4, k5, k6, k7, k8, k9, k10, k11, k12, k13, k14, k15, k16, k17]
def interned : List (Array UInt16 × Addr) := []
def slotsUsed : Nat := 515
def theMethod : MethodId := ⟨1, 1⟩
def args0 : Array Value := #[.long 5, .long 7, .long 3, .long 9, .int 3]
def aboutOver (below : List Frame) : State where
  vm := { classes := classes, interned := interned.toArray }
  heap := heap
  slotsUsed := slotsUsed
  threads := #[{ frames := .invoking theMethod args0 :: below }]
def below0 : List Frame := [.native { method := ⟨0, 0⟩, args := #[] }]
def about1 : State := aboutOver below0
def p0 : Program := .bare "" "" ""
def e0 : Env := launch0.env 0 0 0
theorem w_frames : about1.frames = Frame.invoking theMethod args0 :: below0 := rfl
set_option maxRecDepth 65536 in
theorem w_args : argsFit about1.vm theMethod args0 = true := by decide +kernel
set_option maxRecDepth 65536 in
theorem w_heap : heapFits about1 = true := by decide +kernel
set_option maxRecDepth 65536 in
theorem w_runnable : about1.curStatus? = some .runnable := by decide +kernel
set_option maxRecDepth 65536 in
theorem w_alone : about1.alone = true := by decide +kernel
set_option maxRecDepth 65536 in
theorem w_named : about1.methodNamed? x = some theMethod := by decide +kernel
set_option maxRecDepth 65536 in
theorem w_hears : about1.hears theMethod below0 = true := by decide +kernel
set_option maxRecDepth 65536 in
theorem w_ripe : about1.ripe theMethod args0 below0 = true := by decide +kernel
theorem w_running : about1.status = .running := rfl
set_option maxRecDepth 65536 in
theorem w_room : about1.hasRoom e0.platform room_1 = true :=
  launch0.hasRoom_least _ room_1 (by decide +kernel) (by decide +kernel) (by decide +kernel) (by decide +kernel) (by decide +kernel) (by decide +kernel)
theorem allAtoms_all (ts : List Jvm.Cond) (a : Array Jvm.Value) (st : Jvm.State) : (allAtoms ts).before a st = ts.all (fun c => c.before a st) := by
  induction ts with
  | nil => rfl
  | cons c t ih =>
    show (Jvm.Cond.and c (allAtoms t)).before a st = _
    rw [Jvm.Cond.before_and, ih, List.all_cons]
def words1 : List Jvm.Cond := Jvm.Cond.code x code maxLocals ret :: tables_1
/-- a 'code' word, met by the world's own term for the bytes: nothing is compared byte by byte -/
theorem code_word {y : MethodName} {bytes : ByteArray} {mx : Nat} {rt : Option FieldType} {a : Array Value} {s : State} {m : MethodId} {meth : Method} {c : Code} (h1 : s.methodNamed? y = some m) (h2 : s.vm.method? m = some meth) (h3 : meth.code = some c) (h4 : c.code = bytes)
    (h5 : (c.maxLocals == mx && c.exceptionTable.isEmpty && decide (c.maxStack ≤ mostOperands) && decide (meth.sig.returnType = rt) && !meth.locks && decide (parseMethodDescriptor y.desc = some meth.sig)) = true) : (Jvm.Cond.code y bytes mx rt).before a s = true := by
  simp only [Bool.and_eq_true, beq_iff_eq, Bool.not_eq_true', decide_eq_true_eq] at h5
  obtain ⟨⟨⟨⟨⟨g1, g2⟩, g3⟩, g4⟩, g5⟩, g6⟩ := h5
  simp [Cond.before, Cond.holds, Cond.value, h1, h2, h3, h4, g1, g2, g3, g4, g5, g6]
def isCode : Jvm.Cond → Bool
  | .code _ _ _ _ => true
  | _ => false
theorem all_split {L : List Jvm.Cond} {P : Jvm.Cond → Bool} (h1 : L.all (fun c => isCode c || P c) = true) (h2 : ∀ c ∈ L.filter isCode, P c = true) : L.all P = true := by
  refine List.all_eq_true.mpr fun c hc => ?_
  have h := List.all_eq_true.mp h1 c hc
  rcases Bool.eq_false_or_eq_true (isCode c) with hi | hi
  · exact h2 c (List.mem_filter.mpr ⟨hc, hi⟩)
  · simpa [hi] using h
set_option maxRecDepth 65536 in
theorem w_c0 : (Jvm.Cond.code x code maxLocals ret).before args0 about1 = true := code_word (m := ⟨1, 1⟩) (meth := k1m1) (c := k1c1) (by decide +kernel) rfl rfl rfl (by decide +kernel)
set_option maxRecDepth 65536 in
theorem w_c1 : (Jvm.Cond.code ({ cls := "com/example/tracelint/tracelint/Interval", name := "<init>", desc := "(JJ)V" } : Jvm.MethodName) prog_55_method_1_code (5 : Nat) (Option.none : Option Jvm.ClassFile.FieldType)).before args0 about1 = true := code_word (m := ⟨3, 0⟩) (meth := k3m0) (c := k3c0) (by decide +kernel) rfl rfl rfl (by decide +kernel)
set_option maxRecDepth 65536 in
theorem w_c2 : (Jvm.Cond.code ({ cls := "java/lang/Record", name := "<init>", desc := "()V" } : Jvm.MethodName) jdk_30_method_1_code (1 : Nat) (Option.none : Option Jvm.ClassFile.FieldType)).before args0 about1 = true := code_word (m := ⟨2, 0⟩) (meth := k2m0) (c := k2c0) (by decide +kernel) rfl rfl rfl (by decide +kernel)
set_option maxRecDepth 65536 in
theorem w_c3 : (Jvm.Cond.code ({ cls := "java/lang/Object", name := "<init>", desc := "()V" } : Jvm.MethodName) object_method_1_code (1 : Nat) (Option.none : Option Jvm.ClassFile.FieldType)).before args0 about1 = true := code_word (m := ⟨0, 0⟩) (meth := k0m0) (c := k0c0) (by decide +kernel) rfl rfl rfl (by decide +kernel)
set_option maxRecDepth 65536 in
theorem w_c4 : (Jvm.Cond.code ({ cls := "com/example/tracelint/tracelint/Interval", name := "equals", desc := "(Ljava/lang/Object;)Z" } : Jvm.MethodName) prog_55_method_3_code (3 : Nat) (Option.some Jvm.ClassFile.FieldType.boolean)).before args0 about1 = true := code_word (m := ⟨3, 1⟩) (meth := k3m1) (c := k3c1) (by decide +kernel) rfl rfl rfl (by decide +kernel)
set_option maxRecDepth 65536 in
theorem w_c5 : (Jvm.Cond.code ({ cls := "java/lang/Long", name := "valueOf", desc := "(J)Ljava/lang/Long;" } : Jvm.MethodName) jdk_35_method_24_code (3 : Nat) (Option.some (Jvm.ClassFile.FieldType.object "java/lang/Long"))).before args0 about1 = true := code_word (m := ⟨9, 0⟩) (meth := k9m0) (c := k9c0) (by decide +kernel) rfl rfl rfl (by decide +kernel)
set_option maxRecDepth 65536 in
theorem w_c6 : (Jvm.Cond.code ({ cls := "java/lang/Long", name := "<init>", desc := "(J)V" } : Jvm.MethodName) jdk_35_method_26_code (3 : Nat) (Option.none : Option Jvm.ClassFile.FieldType)).before args0 about1 = true := code_word (m := ⟨9, 1⟩) (meth := k9m1) (c := k9c1) (by decide +kernel) rfl rfl rfl (by decide +kernel)
set_option maxRecDepth 65536 in
theorem w_c7 : (Jvm.Cond.code ({ cls := "java/lang/Number", name := "<init>", desc := "()V" } : Jvm.MethodName) jdk_18_method_1_code (1 : Nat) (Option.none : Option Jvm.ClassFile.FieldType)).before args0 about1 = true := code_word (m := ⟨5, 0⟩) (meth := k5m0) (c := k5c0) (by decide +kernel) rfl rfl rfl (by decide +kernel)
set_option maxRecDepth 65536 in
theorem w_c8 : (Jvm.Cond.code ({ cls := "java/lang/Math", name := "max", desc := "(JJ)J" } : Jvm.MethodName) jdk_29_method_66_code (4 : Nat) (Option.some Jvm.ClassFile.FieldType.long)).before args0 about1 = true := code_word (m := ⟨10, 1⟩) (meth := k10m1) (c := k10c1) (by decide +kernel) rfl rfl rfl (by decide +kernel)
set_option maxRecDepth 65536 in
theorem w_c9 : (Jvm.Cond.code ({ cls := "java/lang/Math", name := "min", desc := "(JJ)J" } : Jvm.MethodName) jdk_29_method_70_code (4 : Nat) (Option.some Jvm.ClassFile.FieldType.long)).before args0 about1 = true := code_word (m := ⟨10, 2⟩) (meth := k10m2) (c := k10c2) (by decide +kernel) rfl rfl rfl (by decide +kernel)
def codes1 : List Jvm.Cond := [Jvm.Cond.code x code maxLocals ret, Jvm.Cond.code ({ cls := "com/example/tracelint/tracelint/Interval", name := "<init>", desc := "(JJ)V" } : Jvm.MethodName) prog_55_method_1_code (5 : Nat) (Option.none : Option Jvm.ClassFile.FieldType), Jvm.Cond.code ({ cls := "java/lang/Record", name := "<init>", desc := "()V" } : Jvm.MethodName) jdk_30_method_1_code (1 : Nat) (Option.none : Option Jvm.ClassFile.FieldType), Jvm.Cond.code ({ cls := "java/lang/Object", name := "<init>", desc := "()V" } : Jvm.MethodName) object_method_1_code (1 : Nat) (Option.none : Option Jvm.ClassFile.FieldType), Jvm.Cond.code ({ cls := "com/example/tracelint/tracelint/Interval", name := "equals", desc := "(Ljava/lang/Object;)Z" } : Jvm.MethodName) prog_55_method_3_code (3 : Nat) (Option.some Jvm.ClassFile.FieldType.boolean), Jvm.Cond.code ({ cls := "java/lang/Long", name := "valueOf", desc := "(J)Ljava/lang/Long;" } : Jvm.MethodName) jdk_35_method_24_code (3 : Nat) (Option.some (Jvm.ClassFile.FieldType.object "java/lang/Long")), Jvm.Cond.code ({ cls := "java/lang/Long", name := "<init>", desc := "(J)V" } : Jvm.MethodName) jdk_35_method_26_code (3 : Nat) (Option.none : Option Jvm.ClassFile.FieldType), Jvm.Cond.code ({ cls := "java/lang/Number", name := "<init>", desc := "()V" } : Jvm.MethodName) jdk_18_method_1_code (1 : Nat) (Option.none : Option Jvm.ClassFile.FieldType), Jvm.Cond.code ({ cls := "java/lang/Math", name := "max", desc := "(JJ)J" } : Jvm.MethodName) jdk_29_method_66_code (4 : Nat) (Option.some Jvm.ClassFile.FieldType.long), Jvm.Cond.code ({ cls := "java/lang/Math", name := "min", desc := "(JJ)J" } : Jvm.MethodName) jdk_29_method_70_code (4 : Nat) (Option.some Jvm.ClassFile.FieldType.long)]
set_option maxRecDepth 65536 in
theorem codes_eq : words1.filter isCode = codes1 := rfl
theorem w_codes : ∀ c ∈ words1.filter isCode, c.before args0 about1 = true := by
  rw [codes_eq]
  intro c hc
  simp only [codes1, List.mem_cons, List.not_mem_nil, or_false] at hc
  rcases hc with rfl | rfl | rfl | rfl | rfl | rfl | rfl | rfl | rfl | rfl
  · exact w_c0
  · exact w_c1
  · exact w_c2
  · exact w_c3
  · exact w_c4
  · exact w_c5
  · exact w_c6
  · exact w_c7
  · exact w_c8
  · exact w_c9
set_option maxRecDepth 65536 in
theorem w_t1 : (words1.take 24).all (fun c => isCode c || c.before args0 about1) = true := by decide +kernel
set_option maxRecDepth 65536 in
theorem w_t2 : ((words1.drop 24).take 24).all (fun c => isCode c || c.before args0 about1) = true := by decide +kernel
set_option maxRecDepth 65536 in
theorem w_t3 : ((words1.drop 24).drop 24).all (fun c => isCode c || c.before args0 about1) = true := by decide +kernel
theorem w_tables : (allAtoms (Jvm.Cond.code x code maxLocals ret :: tables_1)).before args0 about1 = true := by
  rw [allAtoms_all]
  show words1.all (fun c => c.before args0 about1) = true
  refine all_split ?_ w_codes
  rw [← List.take_append_drop 24 words1, List.all_append, w_t1, ← List.take_append_drop 24 (words1.drop 24), List.all_append, w_t2, w_t3]
  rfl
set_option maxRecDepth 65536 in
theorem w_rest : rest_1_c.before args0 about1 = true := by decide +kernel
set_option maxRecDepth 65536 in
theorem w_case : (Jvm.Cond.and given_1 narrow_1).before args0 about1 = true := by decide +kernel
theorem w_applies : (headSpec (Jvm.Cond.code x code maxLocals ret :: tables_1) room_1).applies x e0.platform about1 = true :=
  (Spec.applies_iff w_frames).mpr ⟨w_running, w_runnable, w_alone, w_named, w_hears, w_ripe, w_room, w_tables⟩
theorem atStart : AtStart classFile x code maxLocals ret World_1 tables_1 room_1 Calls_1 rest_1 Pre_1 launch0 p0 e0 about1 theMethod args0 below0 :=
  ⟨lists_1, trivial, launch0.admits_env _ _ _, launch0.least_env, fairChoices_fair.cas, fairChoices_fair.clock, w_frames, w_args, w_heap, w_applies, trivial, w_rest, w_case⟩
end start1
theorem witness_1 : WitnessClaimed_1 := ⟨start1.p0, start1.e0, start1.about1, start1.theMethod, start1.args0, start1.below0, start1.atStart⟩
end Jvm.Pilot.@@N@@
