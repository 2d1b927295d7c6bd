import JvmDerived
import JvmDerived.Pilot.@@N@@Statement
import JvmDerived.Pilot.@@N@@Code
set_option linter.unusedVariables false
set_option linter.unusedSimpArgs false
namespace Jvm.RoadKit
open Sem ClassFile Op Lib Jvm.Stand Jvm.Free Jvm.LawKit
section New
variable {p : Program} {l : Launch} {e : Env} {R : Room} {s : State} {m : MethodId} {args : Array Value} {below : List Frame} {meth : Method} {c : Code} {T : State} {locs : List Loc} {cells slots : Nat}
theorem retI (X : Stand p l e R s m args below meth c T locs cells slots) (hx : p.tables.exec = Jvm.exec) {pc : Nat} {Ls : Array Slot} {z : Int32} {rest : List Value} (hret : meth.sig.returnType = some .int) (hd : decode c.code pc = .ok (.ireturn, 1)) {fs : List Frame}
    (hl : ∀ (f : JFrame) (acts : List Action), f.method = m → f.locked = none → f.entered = [] → (doReturn e (T.setTop f) acts (some (.int z))).1 = T.setFrames fs) : Steps p.tables e below (T.setTop (mkF m pc Ls (.int z :: rest))) (T.setFrames fs) := by
  have hm' : T.vm.method? m = some meth := X.method'
  have hn : narrow .int (.int z) = .int z := rfl
  show Steps p.tables e below (T.setTop { method := m, pc := pc, locals := Ls, stack := _ :: rest, locked := none }) _
  jvm_step X.here [X.here.top, hx, hd, hm', hret, hn]
  first | (intro acts; rw [hl _ acts rfl rfl rfl]) | rw [hl _ _ rfl rfl rfl]
  exact Steps.refl _
end New
end Jvm.RoadKit
namespace Jvm.Pilot.@@N@@
open Jvm Jvm.ClassFile Sem Op Lib Jvm.Free Jvm.Stand Jvm.LawKit Jvm.RoadKit Bundle Jvm.Pilot.@@N@@.Jvm.D
theorem Wd {Z : State} {a0 : Array Value} {d : Jvm.Cond} (hw : ∀ d ∈ tables_1, d.before a0 Z = true) (i : Nat) (h : tables_1[i]? = some d) : d.before a0 Z = true := hw _ (List.mem_of_getElem? h)
theorem own_sz {Z : State} {n0 : Nat} {h : Heap} (O : Old Z n0 h) : n0 ≤ h.size := O.1 ▸ O.2.1
theorem own_neArv {Z : State} {h : Heap} {a b : Addr} {k k' : ClassId} {ty ty' : FieldType} {z z' : Int32} {vs vs' : List Value} {d d' : Value} (F : Arv Z h a k ty z vs d) (G : Arv Z h b k' ty' z' vs' d') (hn : ty ≠ ty') : a ≠ b := fun q => by
  subst q
  obtain ⟨c1, ⟨e1, ⟨-, k1, hk1, cp1, hd1⟩, -⟩, -⟩ := F
  obtain ⟨c2, ⟨e2, ⟨-, k2, hk2, cp2, hd2⟩, -⟩, -⟩ := G
  cases e1.symm.trans e2
  cases hk1.symm.trans hk2
  rw [hd1] at hd2
  injection hd2 with _ h2
  exact hn h2
theorem own_fi {args : Array Value} {s : State} {t : Term} {a : Addr} {C n d : String} {k : Int32} (ht : t.eval args s none [] s = some (.ref a)) (h : (Jvm.Cond.eq (Jvm.Term.field t C n d) (Jvm.Term.int k)).value args s none s [] = some true) : s.fieldOf? a C n d = some (.int k) := by
  have e := fld_at (C := C) (n := n) (dd := d) ht
  obtain ⟨v, w, h1, h2, h3, h4⟩ := cmp_v (Or.inl h)
  cases (Term.int_eval k).symm.trans h2
  obtain ⟨z, rfl⟩ := h4
  rw [← e, h1]
  simp only [Cond.value, h1, Term.int_eval] at h
  simpa using h
theorem own_len {args : Array Value} {s : State} {t : Term} {a : Addr} {cl : Cell} {ty : FieldType} {z : Int32} (A : Arr s s.heap a cl ty) (ev : t.eval args s none [] s = some (.ref a)) (h : (Jvm.Cond.eq (Jvm.Term.length t) (Jvm.Term.int z)).value args s none s [] = some true) : cl.slots.size < 2 ^ 31 ∧ cl.slots.size.toInt32 = z := by
  have e := Cond.eq_int (beq_iff_eq.mpr h) (Term.int_eval z)
  have hA : s.arrayAt? a = some cl := IntBox.arrayAt_of A.1 A.2.1 A.2.2
  by_cases q : cl.slots.size < 2 ^ 31
  · refine ⟨q, ?_⟩
    have r := len_f ev hA q
    rw [r] at e
    injection e with e
    injection e
  · exfalso
    simp [Term.eval, ev, hA] at e
    omega
theorem own_eli {args : Array Value} {s : State} {t : Term} {a : Addr} {cl : Cell} {j k : Int32} (hc : s.heap[a]? = some cl) (ev : t.eval args s none [] s = some (.ref a)) (h : (Jvm.Cond.eq (Jvm.Term.elem t (Jvm.Term.int j)) (Jvm.Term.int k)).value args s none s [] = some true) : cl.slots[j.toNatClampNeg]? = some (.int k) :=
  (elem_in (Cond.eq_int (beq_iff_eq.mpr h) (Term.int_eval k)) ev (Term.int_eval j) hc).2
theorem own_elr {args : Array Value} {s : State} {t u : Term} {a b : Addr} {cl : Cell} {j : Int32} (hc : s.heap[a]? = some cl) (ev : t.eval args s none [] s = some (.ref a)) (eu : u.eval args s none [] s = some (.ref b)) (h : (Jvm.Cond.eq (Jvm.Term.elem t (Jvm.Term.int j)) u).value args s none s [] = some true) : cl.slots[j.toNatClampNeg]? = some (.ref b) := by
  obtain ⟨v, w, h1, h2, h3, h4⟩ := cmp_v (Or.inl h)
  cases eu.symm.trans h2
  have hv : v = .ref b := gotT (eq_R h1 h2 h4.2 rfl) h
  rw [hv] at h1
  exact (elem_in h1 ev (Term.int_eval j) hc).2
theorem own_lceq (x y : Int64) : lcmpW x y = (0 : Int32) ↔ x = y := by rw [lcW]; exact lc_eq x y
def own_maxI (a b : Int32) : Int32 := if a < b then b else a
def own_minI (a b : Int32) : Int32 := if b < a then b else a
theorem own_n1 (p : Int32) : (0 : Int32) < own_maxI (1 : Int32) (own_minI p (8192 : Int32)) ∧ (own_maxI (1 : Int32) (own_minI p (8192 : Int32))).toNatClampNeg ≤ 8192 := by
  have e1 : (1 : Int32).toInt = 1 := rfl
  have e2 : (8192 : Int32).toInt = 8192 := rfl
  have e0 : (0 : Int32).toInt = 0 := rfl
  unfold own_maxI own_minI
  split <;> split <;> simp only [Int32.lt_iff_toInt_lt, Int32.toNatClampNeg] at * <;> omega
theorem own_nneg {n : Int32} (h : (0 : Int32) < n) : ¬ (n < (0 : Int32)) := by rw [Int32.lt_iff_toInt_lt] at h ⊢; omega
theorem own_up {a b n : Int32} (e : b.toInt = a.toInt + 1) (h : a < n) (hn : ¬ (b = n)) : b < n := by
  rw [Int32.lt_iff_toInt_lt] at h ⊢
  have : b.toInt ≠ n.toInt := fun q => hn (Int32.toInt_inj.mp q)
  omega
theorem own_dn {a b n : Int32} (e : a < b) (h : b < n) : a < n := by rw [Int32.lt_iff_toInt_lt] at *; omega
theorem own_arvn {Z : State} {h : Heap} {a : Addr} {k : ClassId} {ty : FieldType} {n n' : Int32} {vs : List Value} {d : Value} (e : n = n') (F : Arv Z h a k ty n vs d) : Arv Z h a k ty n' vs d := e ▸ F
theorem own_pad2 (v0 : Value) (d : Value) : ∀ i, [v0, d, d, d].getD i d = [v0, d].getD i d := fun i => by
  match i with
  | 0 => rfl
  | 1 => rfl
  | 2 => rfl
  | 3 => rfl
  | (n + 4) => rfl
theorem own_pad6 (v0 v1 v2 : Value) (d : Value) : ∀ i, [v0, v1, v2, d].getD i d = [v0, v1, v2, d, d, d].getD i d := fun i => by
  match i with
  | 0 => rfl
  | 1 => rfl
  | 2 => rfl
  | 3 => rfl
  | 4 => rfl
  | 5 => rfl
  | (n + 6) => rfl
def GF (Z : State) : Prop := Sta Z Z.heap "com/example/inchworm/inchworm/KeyBlocks" "BLOCK_BITS" "I" (.int (13 : Int32))
theorem d4_0 : decode jdk_29_method_65_code 0 = .ok (.iload_n 0, 1) := by decide +kernel
theorem d4_1 : decode jdk_29_method_65_code 1 = .ok (.iload_n 1, 1) := by decide +kernel
theorem d4_2 : decode jdk_29_method_65_code 2 = .ok (.if_icmp .lt 7, 3) := by decide +kernel
theorem d4_9 : decode jdk_29_method_65_code 9 = .ok (.iload_n 1, 1) := by decide +kernel
theorem d4_10 : decode jdk_29_method_65_code 10 = .ok (.ireturn, 1) := by decide +kernel
theorem d4_5 : decode jdk_29_method_65_code 5 = .ok (.iload_n 0, 1) := by decide +kernel
theorem d4_6 : decode jdk_29_method_65_code 6 = .ok (.goto 4, 3) := by decide +kernel
abbrev MN_0 : MethodName := ⟨"java/lang/Math", "max", "(II)I"⟩
theorem ef_rmMax (m : MethodId) (p0 : Int32) (p1 : Int32) : entryFrame m #[(.int p0), (.int p1)] 2 = mkF m 0 #[.val (.int p0), .val (.int p1)] [] := by first | (simp [entryFrame, mkF, argsToLocals, Value.category]; done) | rfl
def Q_rmMax (n0 : Nat) (Z : State) (p0 : Int32) (p1 : Int32) (h0 : Heap) (v : Option Value) (h : Heap) (L : List Loc) : Prop := v = some (.int (own_maxI p0 p1)) ∧ Fr n0 L ∧ h = h0
set_option maxRecDepth 65536 in
set_option maxHeartbeats 40000000 in
theorem rmMax (l : Launch) (Z : State) (a0 : Array Value) (hw : ∀ d ∈ tables_1, d.before a0 Z = true) (ws : List Jvm.Cond) (p0 : Int32) (p1 : Int32) (h0 : Heap) (n0 : Nat) (O0 : Old Z n0 h0) (GL : GF Z) :
    MetFree l MN_0 (head1 (Jvm.Cond.code MN_0 jdk_29_method_65_code 2 (some .int) :: ws) ({ frames := 0, cells := 0, slots := 0, locals := 0 } : Room)) (fun a U => a = #[(.int p0), (.int p1)] ∧ Z.Warmed39 U.vm ∧ U.heap = h0) (fun _ _ _ _ _ => True) (fun _ U o U' => ∃ v L, o = .returned v ∧ Q_rmMax n0 Z p0 p1 h0 v U'.heap L ∧ FrameEnd U o U' L ({ frames := 0, cells := 0, slots := 0, locals := 0 } : Room).cells ({ frames := 0, cells := 0, slots := 0, locals := 0 } : Room).slots) := by
  refine MetFree.of_bodySF (Jvm.Free.JP.mathPlain rfl (by decide +kernel)) hisR ?_
  intro p e s m args below meth c s₁ Bd hml0 hP hK
  obtain ⟨rfl, hZ, hh⟩ := hP
  have hx := Bd.exec
  have hby := Bd.bytes
  have hml : c.maxLocals = 2 := hml0
  have hown : s.vm.findClass "java/lang/Math" = some m.cls := findClass_of_methodNamed Bd.named
  have hnm := (name_of_methodNamed Bd.named Bd.method).1
  have X0 : Stand p l e ({ frames := 0, cells := 0, slots := 0, locals := 0 } : Room) s m #[(.int p0), (.int p1)] below meth c s₁ [] 0 0 := Stand.of_body Bd
  have e0 : s₁.heap = h0 := by rw [← hh, Bd.state]; rfl
  have N0 := Fr.nil n0
  have pre0 : ∀ t, Steps p.tables e below (s₁.setTop (mkF m 0 #[.val (.int p0), .val (.int p1)] [])) t → Steps p.tables e below (s₁.setTop (entryFrame m #[(.int p0), (.int p1)] 2)) t := fun t k => castTop (ef_rmMax m p0 p1) k
  have GSB := GL
  have pre2 : ∀ t, Steps p.tables e below (s₁.setTop (mkF m 2 #[.val (.int p0), .val (.int p1)] [(.int p1), (.int p0)])) t → Steps p.tables e below (s₁.setTop (entryFrame m #[(.int p0), (.int p1)] 2)) t := fun t kt => by
    refine pre0 t ?_
    show Steps p.tables e below (s₁.setTop (mkF m 0 #[.val (.int p0), .val (.int p1)] [])) _
    refine XS.iloadN X0.here hx rfl (hb hby d4_0) rfl ?_
    show Steps p.tables e below (s₁.setTop (mkF m 1 #[.val (.int p0), .val (.int p1)] [(.int p0)])) _
    refine XS.iloadN X0.here hx rfl (hb hby d4_1) rfl ?_
    exact kt
  by_cases hc2_1 : p0 < p1
  · obtain ⟨fs, hr, hrun, hended, hW, hsame⟩ := X0.leave (v := some (.int p1)) (fun h => by rw [Bd.returns] at h; cases h)
    refine ⟨_, _, pre2 _ ?_, hrun, hended, _, _, rfl, ?_, ⟨_, rfl⟩, hW, hsame.mono (by decide) (by decide)⟩
    · show Steps p.tables e below (s₁.setTop (mkF m 2 #[.val (.int p0), .val (.int p1)] [(.int p1), (.int p0)])) _
      refine XS.icmpYes X0.here hx rfl (pc0 := 2) (pc' := 9) rfl (hb hby d4_2) rfl (tlt hc2_1).1 (by decide) (by decide) ?_
      show Steps p.tables e below (s₁.setTop (mkF m 9 #[.val (.int p0), .val (.int p1)] [])) _
      refine XS.iloadN X0.here hx rfl (hb hby d4_9) rfl ?_
      show Steps p.tables e below (s₁.setTop (mkF m 10 #[.val (.int p0), .val (.int p1)] [(.int p1)])) _
      exact retI X0 hx Bd.returns (hb hby d4_10) hr
    · show Q_rmMax n0 Z p0 p1 h0 _ s₁.heap _
      rw [e0]
      exact ⟨(congrArg (fun z => some (Value.int z)) (if_pos hc2_1).symm), N0, rfl⟩
  · obtain ⟨fs, hr, hrun, hended, hW, hsame⟩ := X0.leave (v := some (.int p0)) (fun h => by rw [Bd.returns] at h; cases h)
    refine ⟨_, _, pre2 _ ?_, hrun, hended, _, _, rfl, ?_, ⟨_, rfl⟩, hW, hsame.mono (by decide) (by decide)⟩
    · show Steps p.tables e below (s₁.setTop (mkF m 2 #[.val (.int p0), .val (.int p1)] [(.int p1), (.int p0)])) _
      refine XS.icmpNo X0.here hx rfl (hb hby d4_2) rfl (flt hc2_1).1 ?_
      show Steps p.tables e below (s₁.setTop (mkF m 5 #[.val (.int p0), .val (.int p1)] [])) _
      refine XS.iloadN X0.here hx rfl (hb hby d4_5) rfl ?_
      show Steps p.tables e below (s₁.setTop (mkF m 6 #[.val (.int p0), .val (.int p1)] [(.int p0)])) _
      refine XS.goto X0.here hx rfl (pc0 := 6) (pc' := 10) rfl (hb hby d4_6) (by decide) (by decide) ?_
      show Steps p.tables e below (s₁.setTop (mkF m 10 #[.val (.int p0), .val (.int p1)] [(.int p0)])) _
      exact retI X0 hx Bd.returns (hb hby d4_10) hr
    · show Q_rmMax n0 Z p0 p1 h0 _ s₁.heap _
      rw [e0]
      exact ⟨(congrArg (fun z => some (Value.int z)) (if_neg hc2_1).symm), N0, rfl⟩
theorem d3_0 : decode jdk_29_method_69_code 0 = .ok (.iload_n 0, 1) := by decide +kernel
theorem d3_1 : decode jdk_29_method_69_code 1 = .ok (.iload_n 1, 1) := by decide +kernel
theorem d3_2 : decode jdk_29_method_69_code 2 = .ok (.if_icmp .gt 7, 3) := by decide +kernel
theorem d3_9 : decode jdk_29_method_69_code 9 = .ok (.iload_n 1, 1) := by decide +kernel
theorem d3_10 : decode jdk_29_method_69_code 10 = .ok (.ireturn, 1) := by decide +kernel
theorem d3_5 : decode jdk_29_method_69_code 5 = .ok (.iload_n 0, 1) := by decide +kernel
theorem d3_6 : decode jdk_29_method_69_code 6 = .ok (.goto 4, 3) := by decide +kernel
abbrev MN_1 : MethodName := ⟨"java/lang/Math", "min", "(II)I"⟩
def Q_rmMin (n0 : Nat) (Z : State) (p0 : Int32) (p1 : Int32) (h0 : Heap) (v : Option Value) (h : Heap) (L : List Loc) : Prop := v = some (.int (own_minI p0 p1)) ∧ Fr n0 L ∧ h = h0
set_option maxRecDepth 65536 in
set_option maxHeartbeats 40000000 in
theorem rmMin (l : Launch) (Z : State) (a0 : Array Value) (hw : ∀ d ∈ tables_1, d.before a0 Z = true) (ws : List Jvm.Cond) (p0 : Int32) (p1 : Int32) (h0 : Heap) (n0 : Nat) (O0 : Old Z n0 h0) (GL : GF Z) :
    MetFree l MN_1 (head1 (Jvm.Cond.code MN_1 jdk_29_method_69_code 2 (some .int) :: ws) ({ frames := 0, cells := 0, slots := 0, locals := 0 } : Room)) (fun a U => a = #[(.int p0), (.int p1)] ∧ Z.Warmed39 U.vm ∧ U.heap = h0) (fun _ _ _ _ _ => True) (fun _ U o U' => ∃ v L, o = .returned v ∧ Q_rmMin n0 Z p0 p1 h0 v U'.heap L ∧ FrameEnd U o U' L ({ frames := 0, cells := 0, slots := 0, locals := 0 } : Room).cells ({ frames := 0, cells := 0, slots := 0, locals := 0 } : Room).slots) := by
  refine MetFree.of_bodySF (Jvm.Free.JP.mathPlain rfl (by decide +kernel)) hisR ?_
  intro p e s m args below meth c s₁ Bd hml0 hP hK
  obtain ⟨rfl, hZ, hh⟩ := hP
  have hx := Bd.exec
  have hby := Bd.bytes
  have hml : c.maxLocals = 2 := hml0
  have hown : s.vm.findClass "java/lang/Math" = some m.cls := findClass_of_methodNamed Bd.named
  have hnm := (name_of_methodNamed Bd.named Bd.method).1
  have X0 : Stand p l e ({ frames := 0, cells := 0, slots := 0, locals := 0 } : Room) s m #[(.int p0), (.int p1)] below meth c s₁ [] 0 0 := Stand.of_body Bd
  have e0 : s₁.heap = h0 := by rw [← hh, Bd.state]; rfl
  have N0 := Fr.nil n0
  have pre0 : ∀ t, Steps p.tables e below (s₁.setTop (mkF m 0 #[.val (.int p0), .val (.int p1)] [])) t → Steps p.tables e below (s₁.setTop (entryFrame m #[(.int p0), (.int p1)] 2)) t := fun t k => castTop (ef_rmMax m p0 p1) k
  have GSB := GL
  have pre2 : ∀ t, Steps p.tables e below (s₁.setTop (mkF m 2 #[.val (.int p0), .val (.int p1)] [(.int p1), (.int p0)])) t → Steps p.tables e below (s₁.setTop (entryFrame m #[(.int p0), (.int p1)] 2)) t := fun t kt => by
    refine pre0 t ?_
    show Steps p.tables e below (s₁.setTop (mkF m 0 #[.val (.int p0), .val (.int p1)] [])) _
    refine XS.iloadN X0.here hx rfl (hb hby d3_0) rfl ?_
    show Steps p.tables e below (s₁.setTop (mkF m 1 #[.val (.int p0), .val (.int p1)] [(.int p0)])) _
    refine XS.iloadN X0.here hx rfl (hb hby d3_1) rfl ?_
    exact kt
  by_cases hc2_1 : p1 < p0
  · obtain ⟨fs, hr, hrun, hended, hW, hsame⟩ := X0.leave (v := some (.int p1)) (fun h => by rw [Bd.returns] at h; cases h)
    refine ⟨_, _, pre2 _ ?_, hrun, hended, _, _, rfl, ?_, ⟨_, rfl⟩, hW, hsame.mono (by decide) (by decide)⟩
    · show Steps p.tables e below (s₁.setTop (mkF m 2 #[.val (.int p0), .val (.int p1)] [(.int p1), (.int p0)])) _
      refine XS.icmpYes X0.here hx rfl (pc0 := 2) (pc' := 9) rfl (hb hby d3_2) rfl (tlt hc2_1).2.2.1 (by decide) (by decide) ?_
      show Steps p.tables e below (s₁.setTop (mkF m 9 #[.val (.int p0), .val (.int p1)] [])) _
      refine XS.iloadN X0.here hx rfl (hb hby d3_9) rfl ?_
      show Steps p.tables e below (s₁.setTop (mkF m 10 #[.val (.int p0), .val (.int p1)] [(.int p1)])) _
      exact retI X0 hx Bd.returns (hb hby d3_10) hr
    · show Q_rmMin n0 Z p0 p1 h0 _ s₁.heap _
      rw [e0]
      exact ⟨(congrArg (fun z => some (Value.int z)) (if_pos hc2_1).symm), N0, rfl⟩
  · obtain ⟨fs, hr, hrun, hended, hW, hsame⟩ := X0.leave (v := some (.int p0)) (fun h => by rw [Bd.returns] at h; cases h)
    refine ⟨_, _, pre2 _ ?_, hrun, hended, _, _, rfl, ?_, ⟨_, rfl⟩, hW, hsame.mono (by decide) (by decide)⟩
    · show Steps p.tables e below (s₁.setTop (mkF m 2 #[.val (.int p0), .val (.int p1)] [(.int p1), (.int p0)])) _
      refine XS.icmpNo X0.here hx rfl (hb hby d3_2) rfl (flt hc2_1).2.2.1 ?_
      show Steps p.tables e below (s₁.setTop (mkF m 5 #[.val (.int p0), .val (.int p1)] [])) _
      refine XS.iloadN X0.here hx rfl (hb hby d3_5) rfl ?_
      show Steps p.tables e below (s₁.setTop (mkF m 6 #[.val (.int p0), .val (.int p1)] [(.int p0)])) _
      refine XS.goto X0.here hx rfl (pc0 := 6) (pc' := 10) rfl (hb hby d3_6) (by decide) (by decide) ?_
      show Steps p.tables e below (s₁.setTop (mkF m 10 #[.val (.int p0), .val (.int p1)] [(.int p0)])) _
      exact retI X0 hx Bd.returns (hb hby d3_10) hr
    · show Q_rmMin n0 Z p0 p1 h0 _ s₁.heap _
      rw [e0]
      exact ⟨(congrArg (fun z => some (Value.int z)) (if_neg hc2_1).symm), N0, rfl⟩
theorem d1_0 : decode prog_38_method_1_code 0 = .ok (.aload_n 0, 1) := by decide +kernel
theorem d1_1 : decode prog_38_method_1_code 1 = .ok (.invokespecial 1, 3) := by decide +kernel
theorem d1_4 : decode prog_38_method_1_code 4 = .ok (.aload_n 0, 1) := by decide +kernel
theorem d1_5 : decode prog_38_method_1_code 5 = .ok (.iconst 1, 1) := by decide +kernel
theorem d1_6 : decode prog_38_method_1_code 6 = .ok (.anewarray 7, 3) := by decide +kernel
theorem d1_9 : decode prog_38_method_1_code 9 = .ok (.putfield 9, 3) := by decide +kernel
theorem d1_12 : decode prog_38_method_1_code 12 = .ok (.aload_n 0, 1) := by decide +kernel
theorem d1_13 : decode prog_38_method_1_code 13 = .ok (.getfield 9, 3) := by decide +kernel
theorem d1_16 : decode prog_38_method_1_code 16 = .ok (.iconst 0, 1) := by decide +kernel
theorem d1_17 : decode prog_38_method_1_code 17 = .ok (.iconst 1, 1) := by decide +kernel
theorem d1_18 : decode prog_38_method_1_code 18 = .ok (.iload_n 1, 1) := by decide +kernel
theorem d1_19 : decode prog_38_method_1_code 19 = .ok (.sipush 8192, 3) := by decide +kernel
theorem d1_22 : decode prog_38_method_1_code 22 = .ok (.invokestatic 15, 3) := by decide +kernel
theorem pd : parseMethodDescriptor "(II)I" = some ⟨[.int, .int], some .int⟩ := by decide +kernel
theorem d1_25 : decode prog_38_method_1_code 25 = .ok (.invokestatic 21, 3) := by decide +kernel
theorem d1_28 : decode prog_38_method_1_code 28 = .ok (.newarray .long, 2) := by decide +kernel
theorem d1_30 : decode prog_38_method_1_code 30 = .ok (.aastore, 1) := by decide +kernel
theorem d1_31 : decode prog_38_method_1_code 31 = .ok (.return_, 1) := by decide +kernel
theorem pn : plainName "com/example/inchworm/inchworm/KeyBlocks" = true := by first | (simp [plainName, overriddenIn]; done) | decide +kernel
abbrev MN_2 : MethodName := ⟨"com/example/inchworm/inchworm/KeyBlocks", "<init>", "(I)V"⟩
theorem ef_rmKb (m : MethodId) (a1 : Addr) (p1 : Int32) : entryFrame m #[(.ref a1), (.int p1)] 2 = mkF m 0 #[.val (.ref a1), .val (.int p1)] [] := by first | (simp [entryFrame, mkF, argsToLocals, Value.category]; done) | rfl
def Q_rmKb (n0 : Nat) (Z : State) (a1 : Addr) (p1 : Int32) (h0 : Heap) (v : Option Value) (h : Heap) (L : List Loc) : Prop := ∃ A : Addr, ∃ kA : ClassId, ∃ B : Addr, ∃ kB : ClassId, ∃ n : Int32, v = none ∧ Fr n0 L ∧ Keep h0 h [a1] ∧ (h0.size ≤ A) ∧ (h0.size ≤ B) ∧ (Exa Z h a1 "com/example/inchworm/inchworm/KeyBlocks") ∧ (Fld Z h a1 "com/example/inchworm/inchworm/KeyBlocks" "blocks" "[[J" (.ref A)) ∧ (Fld Z h a1 "com/example/inchworm/inchworm/KeyBlocks" "size" "I" (.int (0 : Int32))) ∧ (Exa Z h B "[J") ∧ (OvrA Z kA .long "[J") ∧ (Arv Z h A kA (.array .long) (1 : Int32) [(.ref B)] .null) ∧ (Arv Z h B kB .long n [(.long (0 : Int64)), (.long (0 : Int64)), (.long (0 : Int64)), (.long (0 : Int64))] (.long (0 : Int64))) ∧ ((0 : Int32) < n)
set_option maxRecDepth 65536 in
set_option maxHeartbeats 40000000 in
theorem rmKb (l : Launch) (Z : State) (a0 : Array Value) (hw : ∀ d ∈ tables_1, d.before a0 Z = true) (ws : List Jvm.Cond) (a1 : Addr) (p1 : Int32) (h0 : Heap) (n0 : Nat) (O0 : Old Z n0 h0) (GL : GF Z) (E_a1 : Exa Z h0 a1 "com/example/inchworm/inchworm/KeyBlocks") (F_blocks_a1 : Fld Z h0 a1 "com/example/inchworm/inchworm/KeyBlocks" "blocks" "[[J" .null) (F_size_a1 : Fld Z h0 a1 "com/example/inchworm/inchworm/KeyBlocks" "size" "I" (.int (0 : Int32))) (g_a1 : n0 ≤ a1) :
    MetFree l MN_2 (head1 (Jvm.Cond.code MN_2 prog_38_method_1_code 2 none :: ws) ({ frames := 1, cells := 2, slots := 8193, locals := 16 } : Room)) (fun a U => a = #[(.ref a1), (.int p1)] ∧ Z.Warmed39 U.vm ∧ U.heap = h0) (fun _ _ _ _ _ => True) (fun _ U o U' => ∃ v L, o = .returned v ∧ Q_rmKb n0 Z a1 p1 h0 v U'.heap L ∧ FrameEnd U o U' L ({ frames := 1, cells := 2, slots := 8193, locals := 16 } : Room).cells ({ frames := 1, cells := 2, slots := 8193, locals := 16 } : Room).slots) := by
  refine MetFree.of_bodySF (plainFor_of_name pn) hisR ?_
  intro p e s m args below meth c s₁ Bd hml0 hP hK
  obtain ⟨rfl, hZ, hh⟩ := hP
  have hx := Bd.exec
  have hby := Bd.bytes
  have hml : c.maxLocals = 2 := hml0
  have hown : s.vm.findClass "com/example/inchworm/inchworm/KeyBlocks" = some m.cls := findClass_of_methodNamed Bd.named
  have hnm := (name_of_methodNamed Bd.named Bd.method).1
  have X0 : Stand p l e ({ frames := 1, cells := 2, slots := 8193, locals := 16 } : Room) s m #[(.ref a1), (.int p1)] below meth c s₁ [] 0 0 := Stand.of_body Bd
  have e0 : s₁.heap = h0 := by rw [← hh, Bd.state]; rfl
  have N0 := Fr.nil n0
  have pre0 : ∀ t, Steps p.tables e below (s₁.setTop (mkF m 0 #[.val (.ref a1), .val (.int p1)] [])) t → Steps p.tables e below (s₁.setTop (entryFrame m #[(.ref a1), (.int p1)] 2)) t := fun t k => castTop (ef_rmKb m a1 p1) k
  have GSB := GL
  obtain ⟨T1, X1, e1, st1⟩ := initO X0 hx hZ hown (Wd hw 6 rfl) (Wd hw 7 rfl) (Wd hw 8 rfl) e0 (g := (mkF m 1 #[.val (.ref a1), .val (.int p1)] [(.ref a1)])) rfl (by rw [hml]; rfl) rfl (hb hby d1_1) (by decide) (W := 0) (by show 2 * 0 + _ ≤ _; exact Nat.le_of_eq rfl) (by decide)
  obtain ⟨T2, h2, k2, X2, e2, E2, A2, A2', Ov2, st2⟩ := newRA X1 hx hZ hown (ty := .long) (C := "[J") rfl (Wd hw 9 rfl) (Wd hw 10 rfl) e1 (g := (mkF m 6 #[.val (.ref a1), .val (.int p1)] [(.int (1 : Int32)), (.ref a1)])) rfl (hb hby d1_6) rfl (by decide) (cap := 1) (by decide) (by decide) (by decide) (by decide) (ad := "[[J") rfl
  obtain ⟨b2, g2⟩ : ∃ z, z = h0.size := ⟨_, rfl⟩
  rw [← g2] at A2 A2' st2
  have g_b2 : n0 ≤ b2 := Nat.le_trans (own_sz O0) (Nat.le_of_eq g2.symm)
  have sz_b2 : h0.size ≤ b2 := Nat.le_trans (Keep.refl h0 [a1]).1 (Nat.le_of_eq g2.symm)
  have K2 : Keep h0 h2 [a1] := (Keep.refl h0 [a1]).ext E2
  have O2 := O0.ext E2
  have V_b2 : Arv Z h2 b2 k2 (.array .long) (1 : Int32) [.null] .null := (Arv.new A2 (by decide)).pad (pad_rep [] .null 1)
  obtain ⟨T3, h3, X3, e3, W3, st3⟩ := putF X2 hx hZ hown (host := "") (Or.inl (Wd hw 11 rfl)) Via.refl e2 (F_blocks_a1.ext E2) (E_a1.ext E2) (Or.inl (Wd hw 12 rfl)) (Wd hw 1 rfl) (ty := (.array (.array .long))) (by decide) rfl rfl (g := (mkF m 9 #[.val (.ref a1), .val (.int p1)] [(.ref b2), (.ref a1)])) rfl rfl (hb hby d1_9)
  have Fw3 := (F_blocks_a1.ext E2).same W3
  have K3 : Keep h0 h3 [a1] := K2.wr W3 (Or.inl (List.mem_of_getElem? (i := 0) rfl))
  have O3 := O2.wr W3 g_a1
  have N3 := Fr.snoc X3 N0 g_a1
  obtain ⟨T4, X4, e4, st4⟩ := getF X3 hx hZ hown (host := "") (Or.inl (Wd hw 11 rfl)) Via.refl e3 Fw3 (g := (mkF m 13 #[.val (.ref a1), .val (.int p1)] [(.ref a1)])) rfl rfl (hb hby d1_13)
  obtain ⟨_, _, ⟨T5, L5, k5, n5⟩, -, X5, ⟨Lc5, hQ5, l5, y5, z5⟩, st5⟩ := Jvm.LawKit.callS X4 hx (y := MN_1) hown (mvT hZ (Wd hw 13 rfl)) (mvT hZ (Wd hw 14 rfl)) (mvT hZ (Wd hw 15 rfl)) (mvT hZ (Wd hw 16 rfl)) (by decide) (backOf (W := 3) (rmMin l Z a0 hw [] (p1) ((8192 : Int32)) (h3) n0 O3 GL) hZ (Wd hw 16 rfl) (Wd hw 15 rfl) (by decide) (by decide)) (g := (mkF m 22 #[.val (.ref a1), .val (.int p1)] [(.int (8192 : Int32)), (.int p1), (.int (1 : Int32)), (.int (0 : Int32)), (.ref b2)])) rfl (by rw [hml]; rfl) (argsL := [(.int p1), (.int (8192 : Int32))]) (rest := [(.int (1 : Int32)), (.int (0 : Int32)), (.ref b2)]) (lenOf pd rfl) rfl (by show 2 * 0 + _ ≤ _; exact Nat.le_of_eq rfl) (hb hby d1_22) (fun _ _ => ⟨rfl, e4, (by decide : 1 + 0 ≤ _), (by decide : 1 + 0 ≤ _)⟩)
  dsimp only [Pt.U, Pt.locs, Pt.cells, Pt.slots] at X5 l5 y5 z5 st5 hQ5
  subst l5 y5 z5
  obtain ⟨rfl, N5q, e5⟩ := hQ5
  have N5 := Fr.app N3 N5q
  obtain ⟨_, _, ⟨T6, L6, k6, n6⟩, -, X6, ⟨Lc6, hQ6, l6, y6, z6⟩, st6⟩ := Jvm.LawKit.callS X5 hx (y := MN_0) hown (mvT hZ (Wd hw 17 rfl)) (mvT hZ (Wd hw 18 rfl)) (mvT hZ (Wd hw 15 rfl)) (mvT hZ (Wd hw 19 rfl)) (by decide) (backOf (W := 2) (rmMax l Z a0 hw [] ((1 : Int32)) ((own_minI p1 (8192 : Int32))) (h3) n0 O3 GL) hZ (Wd hw 19 rfl) (Wd hw 15 rfl) (by decide) (by decide)) (g := (mkF m 25 #[.val (.ref a1), .val (.int p1)] [(.int (own_minI p1 (8192 : Int32))), (.int (1 : Int32)), (.int (0 : Int32)), (.ref b2)])) rfl (by rw [hml]; rfl) (argsL := [(.int (1 : Int32)), (.int (own_minI p1 (8192 : Int32)))]) (rest := [(.int (0 : Int32)), (.ref b2)]) (lenOf pd rfl) rfl (by show 2 * 0 + _ ≤ _; exact Nat.le_of_eq rfl) (hb hby d1_25) (fun _ _ => ⟨rfl, e5, (by decide : 1 + 0 ≤ _), (by decide : 1 + 0 ≤ _)⟩)
  dsimp only [Pt.U, Pt.locs, Pt.cells, Pt.slots] at X6 l6 y6 z6 st6 hQ6
  subst l6 y6 z6
  obtain ⟨rfl, N6q, e6⟩ := hQ6
  have N6 := Fr.app N5 N6q
  have hn1 := own_n1 p1
  obtain ⟨T7, h7, k7, X7, e7, E7, A7, A7', st7⟩ := newPE X6 hx hZ (Wd hw 20 rfl) e6 (g := (mkF m 28 #[.val (.ref a1), .val (.int p1)] [(.int (own_maxI (1 : Int32) (own_minI p1 (8192 : Int32)))), (.int (0 : Int32)), (.ref b2)])) rfl (hb hby d1_28) rfl (own_nneg hn1.1) (cap := 8192) hn1.2 (by decide) (by decide) (by decide) (ad := "[J") rfl
  obtain ⟨b7, g7⟩ : ∃ z, z = h3.size := ⟨_, rfl⟩
  rw [← g7] at A7 A7' st7
  have g_b7 : n0 ≤ b7 := Nat.le_trans (own_sz O3) (Nat.le_of_eq g7.symm)
  have sz_b7 : h0.size ≤ b7 := Nat.le_trans K3.1 (Nat.le_of_eq g7.symm)
  have K7 : Keep h0 h7 [a1] := K3.ext E7
  have O7 := O3.ext E7
  have V_b7 : Arv Z h7 b7 k7 .long (own_maxI (1 : Int32) (own_minI p1 (8192 : Int32))) [(.long (0 : Int64)), (.long (0 : Int64)), (.long (0 : Int64)), (.long (0 : Int64))] (.long (0 : Int64)) := (Arv.new A7 (own_nneg hn1.1)).pad (pad_rep [] (.long (0 : Int64)) 4)
  obtain ⟨cl8, Ar8, q8, S8, N8_, H8, G8⟩ := id (((V_b2.other W3 (Ne.symm (Nat.ne_of_lt (Nat.lt_of_lt_of_le E_a1.lt (Nat.le_of_eq g2.symm))))).ext E7))
  have hin8 : ¬ ((0 : Int32) < 0 ∨ cl8.slots.size ≤ ((0 : Int32)).toNatClampNeg) := inb_of S8 ⟨(by decide), (by decide)⟩
  obtain ⟨T8, h8, X8, e8, W8, st8⟩ := stR X7 hx hZ e7 Ar8 (j := (0 : Int32)) hin8 rfl (Sto.ofVA Ar8 q8 Ov2 (Ins.self A7')) (g := (mkF m 30 #[.val (.ref a1), .val (.int p1)] [(.ref b7), (.int (0 : Int32)), (.ref b2)])) rfl rfl (hb hby d1_30)
  have K8 : Keep h0 h8 [a1] := K7.wr W8 (Or.inr sz_b2)
  have O8 := O7.wr W8 g_b2
  have N8 := Fr.snoc X8 N6 g_b2
  have V8 : Arv Z h8 b2 k2 (.array .long) (1 : Int32) [(.ref b7)] .null := Arv.set Ar8 q8 S8 N8_ H8 G8 rfl W8 0 rfl (Nat.le_of_ble_eq_true rfl)
  obtain ⟨fs, hr, hrun, hended, hW, hsame⟩ := X8.leave (v := none) (fun _ => rfl)
  refine ⟨_, _, pre0 _ ?_, hrun, hended, _, _, rfl, ?_, ⟨_, rfl⟩, hW, hsame.mono (by decide) (by decide)⟩
  · show Steps p.tables e below (s₁.setTop (mkF m 0 #[.val (.ref a1), .val (.int p1)] [])) _
    refine XS.aloadN X0.here hx rfl (hb hby d1_0) rfl rfl ?_
    show Steps p.tables e below (s₁.setTop (mkF m 1 #[.val (.ref a1), .val (.int p1)] [(.ref a1)])) _
    refine st1 _ ?_
    show Steps p.tables e below (T1.setTop (mkF m 4 #[.val (.ref a1), .val (.int p1)] [])) _
    refine XS.aloadN X1.here hx rfl (hb hby d1_4) rfl rfl ?_
    show Steps p.tables e below (T1.setTop (mkF m 5 #[.val (.ref a1), .val (.int p1)] [(.ref a1)])) _
    refine XS.iconst X1.here hx rfl (hb hby d1_5) ?_
    show Steps p.tables e below (T1.setTop (mkF m 6 #[.val (.ref a1), .val (.int p1)] [(.int (1 : Int32)), (.ref a1)])) _
    refine st2 _ ?_
    show Steps p.tables e below (T2.setTop (mkF m 9 #[.val (.ref a1), .val (.int p1)] [(.ref b2), (.ref a1)])) _
    refine st3 _ ?_
    show Steps p.tables e below (T3.setTop (mkF m 12 #[.val (.ref a1), .val (.int p1)] [])) _
    refine XS.aloadN X3.here hx rfl (hb hby d1_12) rfl rfl ?_
    show Steps p.tables e below (T3.setTop (mkF m 13 #[.val (.ref a1), .val (.int p1)] [(.ref a1)])) _
    refine st4 _ ?_
    show Steps p.tables e below (T4.setTop (mkF m 16 #[.val (.ref a1), .val (.int p1)] [(.ref b2)])) _
    refine XS.iconst X4.here hx rfl (hb hby d1_16) ?_
    show Steps p.tables e below (T4.setTop (mkF m 17 #[.val (.ref a1), .val (.int p1)] [(.int (0 : Int32)), (.ref b2)])) _
    refine XS.iconst X4.here hx rfl (hb hby d1_17) ?_
    show Steps p.tables e below (T4.setTop (mkF m 18 #[.val (.ref a1), .val (.int p1)] [(.int (1 : Int32)), (.int (0 : Int32)), (.ref b2)])) _
    refine XS.iloadN X4.here hx rfl (hb hby d1_18) rfl ?_
    show Steps p.tables e below (T4.setTop (mkF m 19 #[.val (.ref a1), .val (.int p1)] [(.int p1), (.int (1 : Int32)), (.int (0 : Int32)), (.ref b2)])) _
    refine XS.sipush X4.here hx rfl (hb hby d1_19) ?_
    show Steps p.tables e below (T4.setTop (mkF m 22 #[.val (.ref a1), .val (.int p1)] [(.int (8192 : Int32)), (.int p1), (.int (1 : Int32)), (.int (0 : Int32)), (.ref b2)])) _
    refine st5 _ ?_
    show Steps p.tables e below (T5.setTop (mkF m 25 #[.val (.ref a1), .val (.int p1)] [(.int (own_minI p1 (8192 : Int32))), (.int (1 : Int32)), (.int (0 : Int32)), (.ref b2)])) _
    refine st6 _ ?_
    show Steps p.tables e below (T6.setTop (mkF m 28 #[.val (.ref a1), .val (.int p1)] [(.int (own_maxI (1 : Int32) (own_minI p1 (8192 : Int32)))), (.int (0 : Int32)), (.ref b2)])) _
    refine st7 _ ?_
    show Steps p.tables e below (T7.setTop (mkF m 30 #[.val (.ref a1), .val (.int p1)] [(.ref b7), (.int (0 : Int32)), (.ref b2)])) _
    refine st8 _ ?_
    show Steps p.tables e below (T8.setTop (mkF m 31 #[.val (.ref a1), .val (.int p1)] [])) _
    exact X8.returnOut hx Bd.returns (hb hby d1_31) hr
  · show Q_rmKb n0 Z a1 p1 h0 _ T8.heap _
    rw [e8]
    exact ⟨b2, k2, b7, k7, (own_maxI (1 : Int32) (own_minI p1 (8192 : Int32))), rfl, N8, K8, sz_b2, sz_b7, ((((E_a1.ext E2).wr W3).ext E7).wr W8), ((Fw3.ext E7).other W8 (Or.inl (Nat.ne_of_lt (Nat.lt_of_lt_of_le E_a1.lt (Nat.le_of_eq g2.symm))))), ((((F_size_a1.ext E2).other W3 (Or.inr (slot_ne (a0 := a0) (Or.inl (Wd hw 28 rfl)) (Or.inl (Wd hw 12 rfl)) (by decide) (t := .int) (t' := (.array (.array .long))) (by decide) (by decide)))).ext E7).other W8 (Or.inl (Nat.ne_of_lt (Nat.lt_of_lt_of_le E_a1.lt (Nat.le_of_eq g2.symm))))), (A7'.wr W8), Ov2, V8, (V_b7.other W8 (Ne.symm (Nat.ne_of_lt (Nat.lt_of_lt_of_le (Nat.lt_of_lt_of_le V_b2.lt (Keep.of_wr W3).1) (Nat.le_of_eq g7.symm))))), hn1.1⟩
theorem d6_0 : decode jdk_65_method_124_code 0 = .ok (.iload_n 1, 1) := by decide +kernel
theorem d6_1 : decode jdk_65_method_124_code 1 = .ok (.aload_n 0, 1) := by decide +kernel
theorem d6_2 : decode jdk_65_method_124_code 2 = .ok (.arraylength, 1) := by decide +kernel
theorem d6_3 : decode jdk_65_method_124_code 3 = .ok (.if_icmp .ne 11, 3) := by decide +kernel
theorem d6_14 : decode jdk_65_method_124_code 14 = .ok (.iload_n 1, 1) := by decide +kernel
theorem d6_15 : decode jdk_65_method_124_code 15 = .ok (.newarray .long, 2) := by decide +kernel
theorem d6_17 : decode jdk_65_method_124_code 17 = .ok (.astore_n 2, 1) := by decide +kernel
theorem d6_18 : decode jdk_65_method_124_code 18 = .ok (.aload_n 0, 1) := by decide +kernel
theorem d6_19 : decode jdk_65_method_124_code 19 = .ok (.iconst 0, 1) := by decide +kernel
theorem d6_20 : decode jdk_65_method_124_code 20 = .ok (.aload_n 2, 1) := by decide +kernel
theorem d6_21 : decode jdk_65_method_124_code 21 = .ok (.iconst 0, 1) := by decide +kernel
theorem d6_22 : decode jdk_65_method_124_code 22 = .ok (.aload_n 0, 1) := by decide +kernel
theorem d6_23 : decode jdk_65_method_124_code 23 = .ok (.arraylength, 1) := by decide +kernel
theorem d6_24 : decode jdk_65_method_124_code 24 = .ok (.iload_n 1, 1) := by decide +kernel
theorem d6_25 : decode jdk_65_method_124_code 25 = .ok (.invokestatic 304, 3) := by decide +kernel
theorem d6_28 : decode jdk_65_method_124_code 28 = .ok (.invokestatic 150, 3) := by decide +kernel
theorem d6_31 : decode jdk_65_method_124_code 31 = .ok (.aload_n 2, 1) := by decide +kernel
theorem d6_32 : decode jdk_65_method_124_code 32 = .ok (.areturn, 1) := by decide +kernel
theorem pnv1 : plainName "java/util/Arrays" = true := by first | (simp [plainName, overriddenIn]; done) | decide +kernel
abbrev MN_3 : MethodName := ⟨"java/util/Arrays", "copyOf", "([JI)[J"⟩
theorem ef_rmCp1 (m : MethodId) (a9 : Addr) : entryFrame m #[(.ref a9), (.int (2 : Int32))] 3 = mkF m 0 #[.val (.ref a9), .val (.int (2 : Int32)), .unset] [] := by first | (simp [entryFrame, mkF, argsToLocals, Value.category]; done) | rfl
def Q_rmCp1 (n0 : Nat) (Z : State) (a9 : Addr) (k9 : ClassId) (v0 : Int64) (v1 : Int64) (v2 : Int64) (v3 : Int64) (h0 : Heap) (v : Option Value) (h : Heap) (L : List Loc) : Prop := ∃ b : Addr, ∃ kb : ClassId, v = some (.ref b) ∧ Fr n0 L ∧ Keep h0 h [] ∧ (h0.size ≤ b) ∧ (Exa Z h b "[J") ∧ (Arv Z h b kb .long (2 : Int32) [(.long v0), (.long (0 : Int64))] (.long (0 : Int64)))
set_option maxRecDepth 65536 in
set_option maxHeartbeats 40000000 in
theorem rmCp1 (l : Launch) (Z : State) (a0 : Array Value) (hw : ∀ d ∈ tables_1, d.before a0 Z = true) (ws : List Jvm.Cond) (a9 : Addr) (k9 : ClassId) (v0 : Int64) (v1 : Int64) (v2 : Int64) (v3 : Int64) (h0 : Heap) (n0 : Nat) (O0 : Old Z n0 h0) (GL : GF Z) (V_a9 : Arv Z h0 a9 k9 .long (1 : Int32) [(.long v0), (.long v1), (.long v2), (.long v3)] (.long (0 : Int64))) :
    MetFree l MN_3 (head1 (Jvm.Cond.code MN_3 jdk_65_method_124_code 3 (some (.array .long)) :: ws) ({ frames := 1, cells := 1, slots := 2, locals := 18 } : Room)) (fun a U => a = #[(.ref a9), (.int (2 : Int32))] ∧ Z.Warmed39 U.vm ∧ U.heap = h0) (fun _ _ _ _ _ => True) (fun _ U o U' => ∃ v L, o = .returned v ∧ Q_rmCp1 n0 Z a9 k9 v0 v1 v2 v3 h0 v U'.heap L ∧ FrameEnd U o U' L ({ frames := 1, cells := 1, slots := 2, locals := 18 } : Room).cells ({ frames := 1, cells := 1, slots := 2, locals := 18 } : Room).slots) := by
  refine MetFree.of_bodySF (plainFor_of_name pnv1) hisR ?_
  intro p e s m args below meth c s₁ Bd hml0 hP hK
  obtain ⟨rfl, hZ, hh⟩ := hP
  have hx := Bd.exec
  have hby := Bd.bytes
  have hml : c.maxLocals = 3 := hml0
  have hown : s.vm.findClass "java/util/Arrays" = some m.cls := findClass_of_methodNamed Bd.named
  have hnm := (name_of_methodNamed Bd.named Bd.method).1
  have X0 : Stand p l e ({ frames := 1, cells := 1, slots := 2, locals := 18 } : Room) s m #[(.ref a9), (.int (2 : Int32))] below meth c s₁ [] 0 0 := Stand.of_body Bd
  have e0 : s₁.heap = h0 := by rw [← hh, Bd.state]; rfl
  have N0 := Fr.nil n0
  have pre0 : ∀ t, Steps p.tables e below (s₁.setTop (mkF m 0 #[.val (.ref a9), .val (.int (2 : Int32)), .unset] [])) t → Steps p.tables e below (s₁.setTop (entryFrame m #[(.ref a9), (.int (2 : Int32))] 3)) t := fun t k => castTop (ef_rmCp1 m a9) k
  have GSB := GL
  obtain ⟨cl1, Ar1, -, S1, N1_, -, -⟩ := id (V_a9)
  obtain ⟨T2, h2, k2, X2, e2, E2, A2, A2', st2⟩ := newPE X0 hx hZ (Wd hw 20 rfl) e0 (g := (mkF m 15 #[.val (.ref a9), .val (.int (2 : Int32)), .unset] [(.int (2 : Int32))])) rfl (hb hby d6_15) rfl (by decide) (cap := 2) (by decide) (by decide) (by decide) (by decide) (ad := "[J") rfl
  obtain ⟨b2, g2⟩ : ∃ z, z = h0.size := ⟨_, rfl⟩
  rw [← g2] at A2 A2' st2
  have g_b2 : n0 ≤ b2 := Nat.le_trans (own_sz O0) (Nat.le_of_eq g2.symm)
  have sz_b2 : h0.size ≤ b2 := Nat.le_trans (Keep.refl h0 []).1 (Nat.le_of_eq g2.symm)
  have K2 : Keep h0 h2 [] := (Keep.refl h0 []).ext E2
  have O2 := O0.ext E2
  have V_b2 : Arv Z h2 b2 k2 .long (2 : Int32) [(.long (0 : Int64)), (.long (0 : Int64))] (.long (0 : Int64)) := (Arv.new A2 (by decide)).pad (pad_rep [] (.long (0 : Int64)) 2)
  obtain ⟨cl3, Ar3, -, S3, N3_, -, -⟩ := id ((V_a9.ext E2))
  obtain ⟨_, _, ⟨T4, L4, k4, n4⟩, -, X4, ⟨Lc4, hQ4, l4, y4, z4⟩, st4⟩ := Jvm.LawKit.callS X2 hx (y := MN_1) hown (mvT hZ (Wd hw 35 rfl)) (mvT hZ (Wd hw 14 rfl)) (mvT hZ (Wd hw 15 rfl)) (mvT hZ (Wd hw 16 rfl)) (by decide) (backOf (W := 4) (rmMin l Z a0 hw [] ((1 : Int32)) ((2 : Int32)) (h2) n0 O2 GL) hZ (Wd hw 16 rfl) (Wd hw 15 rfl) (by decide) (by decide)) (g := (mkF m 25 #[.val (.ref a9), .val (.int (2 : Int32)), .val (.ref b2)] [(.int (2 : Int32)), (.int (1 : Int32)), (.int (0 : Int32)), (.ref b2), (.int (0 : Int32)), (.ref a9)])) rfl (by rw [hml]; rfl) (argsL := [(.int (1 : Int32)), (.int (2 : Int32))]) (rest := [(.int (0 : Int32)), (.ref b2), (.int (0 : Int32)), (.ref a9)]) (lenOf pd rfl) rfl (by show 2 * 0 + _ ≤ _; exact Nat.le_of_eq rfl) (hb hby d6_25) (fun _ _ => ⟨rfl, e2, (by decide : 1 + 0 ≤ _), (by decide : 2 + 0 ≤ _)⟩)
  dsimp only [Pt.U, Pt.locs, Pt.cells, Pt.slots] at X4 l4 y4 z4 st4 hQ4
  subst l4 y4 z4
  obtain ⟨rfl, N4q, e4⟩ := hQ4
  have N4 := Fr.app N0 N4q
  obtain ⟨T5, h5, L5, X5, e5, N5, Kc5, V5, st5⟩ := cpA X4 hx hZ hown (Wd hw 36 rfl) (Wd hw 39 rfl) (Wd hw 37 rfl) (Wd hw 38 rfl) e4 (V_a9.ext E2) V_b2 (us := [(.long v0)]) (Or.inl ⟨rfl, rfl⟩) (by decide) (by decide) (by decide) (by decide) (by decide) rfl (by decide) N4 g_b2 (g := (mkF m 28 #[.val (.ref a9), .val (.int (2 : Int32)), .val (.ref b2)] [(.int (1 : Int32)), (.int (0 : Int32)), (.ref b2), (.int (0 : Int32)), (.ref a9)])) rfl (by rw [hml]; rfl) rfl (hb hby d6_28) (by decide) (W := 0) (by show 2 * 0 + _ ≤ _; exact Nat.le_of_eq rfl) (by decide)
  have V5' : Arv Z h5 b2 k2 .long (2 : Int32) [(.long v0), (.long (0 : Int64))] (.long (0 : Int64)) := V5
  have K5 : Keep h0 h5 [] := K2.trans Kc5 (allS (Or.inr sz_b2) all0)
  have O5 := O2.keep Kc5 (allS g_b2 all0)
  obtain ⟨fs, hr, hrun, hended, hW, hsame⟩ := X5.leave (v := some (.ref b2)) (fun h => by rw [Bd.returns] at h; cases h)
  refine ⟨_, _, pre0 _ ?_, hrun, hended, _, _, rfl, ?_, ⟨_, rfl⟩, hW, hsame.mono (by decide) (by decide)⟩
  · show Steps p.tables e below (s₁.setTop (mkF m 0 #[.val (.ref a9), .val (.int (2 : Int32)), .unset] [])) _
    refine XS.iloadN X0.here hx rfl (hb hby d6_0) rfl ?_
    show Steps p.tables e below (s₁.setTop (mkF m 1 #[.val (.ref a9), .val (.int (2 : Int32)), .unset] [(.int (2 : Int32))])) _
    refine XS.aloadN X0.here hx rfl (hb hby d6_1) rfl rfl ?_
    show Steps p.tables e below (s₁.setTop (mkF m 2 #[.val (.ref a9), .val (.int (2 : Int32)), .unset] [(.ref a9), (.int (2 : Int32))])) _
    refine X0.arraylength hx (by rw [e0]; exact Ar1.1) (State.isArrayOf_alike hZ.alike Ar1.2.1) (g := (mkF m 2 #[.val (.ref a9), .val (.int (2 : Int32)), .unset] [(.ref a9), (.int (2 : Int32))])) rfl rfl (hb hby d6_2) _ ?_
    rw [len_of S1 N1_]
    show Steps p.tables e below (s₁.setTop (mkF m 3 #[.val (.ref a9), .val (.int (2 : Int32)), .unset] [(.int (1 : Int32)), (.int (2 : Int32))])) _
    refine XS.icmpYes X0.here hx rfl (pc0 := 3) (pc' := 14) rfl (hb hby d6_3) rfl (feq (by decide : ¬ ((2 : Int32) = (1 : Int32)))).2 (by decide) (by decide) ?_
    show Steps p.tables e below (s₁.setTop (mkF m 14 #[.val (.ref a9), .val (.int (2 : Int32)), .unset] [])) _
    refine XS.iloadN X0.here hx rfl (hb hby d6_14) rfl ?_
    show Steps p.tables e below (s₁.setTop (mkF m 15 #[.val (.ref a9), .val (.int (2 : Int32)), .unset] [(.int (2 : Int32))])) _
    refine st2 _ ?_
    show Steps p.tables e below (T2.setTop (mkF m 17 #[.val (.ref a9), .val (.int (2 : Int32)), .unset] [(.ref b2)])) _
    refine XS.astoreN X2.here hx rfl (hb hby d6_17) rfl rfl (l' := #[.val (.ref a9), .val (.int (2 : Int32)), .val (.ref b2)]) rfl ?_
    show Steps p.tables e below (T2.setTop (mkF m 18 #[.val (.ref a9), .val (.int (2 : Int32)), .val (.ref b2)] [])) _
    refine XS.aloadN X2.here hx rfl (hb hby d6_18) rfl rfl ?_
    show Steps p.tables e below (T2.setTop (mkF m 19 #[.val (.ref a9), .val (.int (2 : Int32)), .val (.ref b2)] [(.ref a9)])) _
    refine XS.iconst X2.here hx rfl (hb hby d6_19) ?_
    show Steps p.tables e below (T2.setTop (mkF m 20 #[.val (.ref a9), .val (.int (2 : Int32)), .val (.ref b2)] [(.int (0 : Int32)), (.ref a9)])) _
    refine XS.aloadN X2.here hx rfl (hb hby d6_20) rfl rfl ?_
    show Steps p.tables e below (T2.setTop (mkF m 21 #[.val (.ref a9), .val (.int (2 : Int32)), .val (.ref b2)] [(.ref b2), (.int (0 : Int32)), (.ref a9)])) _
    refine XS.iconst X2.here hx rfl (hb hby d6_21) ?_
    show Steps p.tables e below (T2.setTop (mkF m 22 #[.val (.ref a9), .val (.int (2 : Int32)), .val (.ref b2)] [(.int (0 : Int32)), (.ref b2), (.int (0 : Int32)), (.ref a9)])) _
    refine XS.aloadN X2.here hx rfl (hb hby d6_22) rfl rfl ?_
    show Steps p.tables e below (T2.setTop (mkF m 23 #[.val (.ref a9), .val (.int (2 : Int32)), .val (.ref b2)] [(.ref a9), (.int (0 : Int32)), (.ref b2), (.int (0 : Int32)), (.ref a9)])) _
    refine X2.arraylength hx (by rw [e2]; exact Ar3.1) (State.isArrayOf_alike hZ.alike Ar3.2.1) (g := (mkF m 23 #[.val (.ref a9), .val (.int (2 : Int32)), .val (.ref b2)] [(.ref a9), (.int (0 : Int32)), (.ref b2), (.int (0 : Int32)), (.ref a9)])) rfl rfl (hb hby d6_23) _ ?_
    rw [len_of S3 N3_]
    show Steps p.tables e below (T2.setTop (mkF m 24 #[.val (.ref a9), .val (.int (2 : Int32)), .val (.ref b2)] [(.int (1 : Int32)), (.int (0 : Int32)), (.ref b2), (.int (0 : Int32)), (.ref a9)])) _
    refine XS.iloadN X2.here hx rfl (hb hby d6_24) rfl ?_
    show Steps p.tables e below (T2.setTop (mkF m 25 #[.val (.ref a9), .val (.int (2 : Int32)), .val (.ref b2)] [(.int (2 : Int32)), (.int (1 : Int32)), (.int (0 : Int32)), (.ref b2), (.int (0 : Int32)), (.ref a9)])) _
    refine st4 _ ?_
    show Steps p.tables e below (T4.setTop (mkF m 28 #[.val (.ref a9), .val (.int (2 : Int32)), .val (.ref b2)] [(.int (own_minI (1 : Int32) (2 : Int32))), (.int (0 : Int32)), (.ref b2), (.int (0 : Int32)), (.ref a9)])) _
    show Steps p.tables e below (T4.setTop (mkF m 28 #[.val (.ref a9), .val (.int (2 : Int32)), .val (.ref b2)] [(.int (1 : Int32)), (.int (0 : Int32)), (.ref b2), (.int (0 : Int32)), (.ref a9)])) _
    refine st5 _ ?_
    show Steps p.tables e below (T5.setTop (mkF m 31 #[.val (.ref a9), .val (.int (2 : Int32)), .val (.ref b2)] [])) _
    refine XS.aloadN X5.here hx rfl (hb hby d6_31) rfl rfl ?_
    show Steps p.tables e below (T5.setTop (mkF m 32 #[.val (.ref a9), .val (.int (2 : Int32)), .val (.ref b2)] [(.ref b2)])) _
    jvm_step X5.here [X5.here.top, hx, (hb hby d6_32), X5.method', Bd.returns, Value.isRef, FieldType.isReference]
    first | (intro acts; rw [hr _ acts rfl rfl rfl]) | rw [hr _ _ rfl rfl rfl]
    exact Steps.refl _
  · show Q_rmCp1 n0 Z a9 k9 v0 v1 v2 v3 h0 _ T5.heap _
    rw [e5]
    exact ⟨b2, k2, rfl, N5, K5, sz_b2, (A2'.keep Kc5), V5'⟩
theorem ef_rmCp2 (m : MethodId) (a9 : Addr) : entryFrame m #[(.ref a9), (.int (4 : Int32))] 3 = mkF m 0 #[.val (.ref a9), .val (.int (4 : Int32)), .unset] [] := by first | (simp [entryFrame, mkF, argsToLocals, Value.category]; done) | rfl
def Q_rmCp2 (n0 : Nat) (Z : State) (a9 : Addr) (k9 : ClassId) (v0 : Int64) (v1 : Int64) (v2 : Int64) (v3 : Int64) (h0 : Heap) (v : Option Value) (h : Heap) (L : List Loc) : Prop := ∃ b : Addr, ∃ kb : ClassId, v = some (.ref b) ∧ Fr n0 L ∧ Keep h0 h [] ∧ (h0.size ≤ b) ∧ (Exa Z h b "[J") ∧ (Arv Z h b kb .long (4 : Int32) [(.long v0), (.long v1), (.long (0 : Int64)), (.long (0 : Int64))] (.long (0 : Int64)))
set_option maxRecDepth 65536 in
set_option maxHeartbeats 40000000 in
theorem rmCp2 (l : Launch) (Z : State) (a0 : Array Value) (hw : ∀ d ∈ tables_1, d.before a0 Z = true) (ws : List Jvm.Cond) (a9 : Addr) (k9 : ClassId) (v0 : Int64) (v1 : Int64) (v2 : Int64) (v3 : Int64) (h0 : Heap) (n0 : Nat) (O0 : Old Z n0 h0) (GL : GF Z) (V_a9 : Arv Z h0 a9 k9 .long (2 : Int32) [(.long v0), (.long v1), (.long v2), (.long v3)] (.long (0 : Int64))) :
    MetFree l MN_3 (head1 (Jvm.Cond.code MN_3 jdk_65_method_124_code 3 (some (.array .long)) :: ws) ({ frames := 1, cells := 1, slots := 4, locals := 18 } : Room)) (fun a U => a = #[(.ref a9), (.int (4 : Int32))] ∧ Z.Warmed39 U.vm ∧ U.heap = h0) (fun _ _ _ _ _ => True) (fun _ U o U' => ∃ v L, o = .returned v ∧ Q_rmCp2 n0 Z a9 k9 v0 v1 v2 v3 h0 v U'.heap L ∧ FrameEnd U o U' L ({ frames := 1, cells := 1, slots := 4, locals := 18 } : Room).cells ({ frames := 1, cells := 1, slots := 4, locals := 18 } : Room).slots) := by
  refine MetFree.of_bodySF (plainFor_of_name pnv1) hisR ?_
  intro p e s m args below meth c s₁ Bd hml0 hP hK
  obtain ⟨rfl, hZ, hh⟩ := hP
  have hx := Bd.exec
  have hby := Bd.bytes
  have hml : c.maxLocals = 3 := hml0
  have hown : s.vm.findClass "java/util/Arrays" = some m.cls := findClass_of_methodNamed Bd.named
  have hnm := (name_of_methodNamed Bd.named Bd.method).1
  have X0 : Stand p l e ({ frames := 1, cells := 1, slots := 4, locals := 18 } : Room) s m #[(.ref a9), (.int (4 : Int32))] below meth c s₁ [] 0 0 := Stand.of_body Bd
  have e0 : s₁.heap = h0 := by rw [← hh, Bd.state]; rfl
  have N0 := Fr.nil n0
  have pre0 : ∀ t, Steps p.tables e below (s₁.setTop (mkF m 0 #[.val (.ref a9), .val (.int (4 : Int32)), .unset] [])) t → Steps p.tables e below (s₁.setTop (entryFrame m #[(.ref a9), (.int (4 : Int32))] 3)) t := fun t k => castTop (ef_rmCp2 m a9) k
  have GSB := GL
  obtain ⟨cl1, Ar1, -, S1, N1_, -, -⟩ := id (V_a9)
  obtain ⟨T2, h2, k2, X2, e2, E2, A2, A2', st2⟩ := newPE X0 hx hZ (Wd hw 20 rfl) e0 (g := (mkF m 15 #[.val (.ref a9), .val (.int (4 : Int32)), .unset] [(.int (4 : Int32))])) rfl (hb hby d6_15) rfl (by decide) (cap := 4) (by decide) (by decide) (by decide) (by decide) (ad := "[J") rfl
  obtain ⟨b2, g2⟩ : ∃ z, z = h0.size := ⟨_, rfl⟩
  rw [← g2] at A2 A2' st2
  have g_b2 : n0 ≤ b2 := Nat.le_trans (own_sz O0) (Nat.le_of_eq g2.symm)
  have sz_b2 : h0.size ≤ b2 := Nat.le_trans (Keep.refl h0 []).1 (Nat.le_of_eq g2.symm)
  have K2 : Keep h0 h2 [] := (Keep.refl h0 []).ext E2
  have O2 := O0.ext E2
  have V_b2 : Arv Z h2 b2 k2 .long (4 : Int32) [(.long (0 : Int64)), (.long (0 : Int64)), (.long (0 : Int64)), (.long (0 : Int64))] (.long (0 : Int64)) := (Arv.new A2 (by decide)).pad (pad_rep [] (.long (0 : Int64)) 4)
  obtain ⟨cl3, Ar3, -, S3, N3_, -, -⟩ := id ((V_a9.ext E2))
  obtain ⟨_, _, ⟨T4, L4, k4, n4⟩, -, X4, ⟨Lc4, hQ4, l4, y4, z4⟩, st4⟩ := Jvm.LawKit.callS X2 hx (y := MN_1) hown (mvT hZ (Wd hw 35 rfl)) (mvT hZ (Wd hw 14 rfl)) (mvT hZ (Wd hw 15 rfl)) (mvT hZ (Wd hw 16 rfl)) (by decide) (backOf (W := 4) (rmMin l Z a0 hw [] ((2 : Int32)) ((4 : Int32)) (h2) n0 O2 GL) hZ (Wd hw 16 rfl) (Wd hw 15 rfl) (by decide) (by decide)) (g := (mkF m 25 #[.val (.ref a9), .val (.int (4 : Int32)), .val (.ref b2)] [(.int (4 : Int32)), (.int (2 : Int32)), (.int (0 : Int32)), (.ref b2), (.int (0 : Int32)), (.ref a9)])) rfl (by rw [hml]; rfl) (argsL := [(.int (2 : Int32)), (.int (4 : Int32))]) (rest := [(.int (0 : Int32)), (.ref b2), (.int (0 : Int32)), (.ref a9)]) (lenOf pd rfl) rfl (by show 2 * 0 + _ ≤ _; exact Nat.le_of_eq rfl) (hb hby d6_25) (fun _ _ => ⟨rfl, e2, (by decide : 1 + 0 ≤ _), (by decide : 4 + 0 ≤ _)⟩)
  dsimp only [Pt.U, Pt.locs, Pt.cells, Pt.slots] at X4 l4 y4 z4 st4 hQ4
  subst l4 y4 z4
  obtain ⟨rfl, N4q, e4⟩ := hQ4
  have N4 := Fr.app N0 N4q
  obtain ⟨T5, h5, L5, X5, e5, N5, Kc5, V5, st5⟩ := cpA X4 hx hZ hown (Wd hw 36 rfl) (Wd hw 39 rfl) (Wd hw 37 rfl) (Wd hw 38 rfl) e4 (V_a9.ext E2) V_b2 (us := [(.long v0), (.long v1)]) (Or.inl ⟨rfl, rfl⟩) (by decide) (by decide) (by decide) (by decide) (by decide) rfl (by decide) N4 g_b2 (g := (mkF m 28 #[.val (.ref a9), .val (.int (4 : Int32)), .val (.ref b2)] [(.int (2 : Int32)), (.int (0 : Int32)), (.ref b2), (.int (0 : Int32)), (.ref a9)])) rfl (by rw [hml]; rfl) rfl (hb hby d6_28) (by decide) (W := 0) (by show 2 * 0 + _ ≤ _; exact Nat.le_of_eq rfl) (by decide)
  have V5' : Arv Z h5 b2 k2 .long (4 : Int32) [(.long v0), (.long v1), (.long (0 : Int64)), (.long (0 : Int64))] (.long (0 : Int64)) := V5
  have K5 : Keep h0 h5 [] := K2.trans Kc5 (allS (Or.inr sz_b2) all0)
  have O5 := O2.keep Kc5 (allS g_b2 all0)
  obtain ⟨fs, hr, hrun, hended, hW, hsame⟩ := X5.leave (v := some (.ref b2)) (fun h => by rw [Bd.returns] at h; cases h)
  refine ⟨_, _, pre0 _ ?_, hrun, hended, _, _, rfl, ?_, ⟨_, rfl⟩, hW, hsame.mono (by decide) (by decide)⟩
  · show Steps p.tables e below (s₁.setTop (mkF m 0 #[.val (.ref a9), .val (.int (4 : Int32)), .unset] [])) _
    refine XS.iloadN X0.here hx rfl (hb hby d6_0) rfl ?_
    show Steps p.tables e below (s₁.setTop (mkF m 1 #[.val (.ref a9), .val (.int (4 : Int32)), .unset] [(.int (4 : Int32))])) _
    refine XS.aloadN X0.here hx rfl (hb hby d6_1) rfl rfl ?_
    show Steps p.tables e below (s₁.setTop (mkF m 2 #[.val (.ref a9), .val (.int (4 : Int32)), .unset] [(.ref a9), (.int (4 : Int32))])) _
    refine X0.arraylength hx (by rw [e0]; exact Ar1.1) (State.isArrayOf_alike hZ.alike Ar1.2.1) (g := (mkF m 2 #[.val (.ref a9), .val (.int (4 : Int32)), .unset] [(.ref a9), (.int (4 : Int32))])) rfl rfl (hb hby d6_2) _ ?_
    rw [len_of S1 N1_]
    show Steps p.tables e below (s₁.setTop (mkF m 3 #[.val (.ref a9), .val (.int (4 : Int32)), .unset] [(.int (2 : Int32)), (.int (4 : Int32))])) _
    refine XS.icmpYes X0.here hx rfl (pc0 := 3) (pc' := 14) rfl (hb hby d6_3) rfl (feq (by decide : ¬ ((4 : Int32) = (2 : Int32)))).2 (by decide) (by decide) ?_
    show Steps p.tables e below (s₁.setTop (mkF m 14 #[.val (.ref a9), .val (.int (4 : Int32)), .unset] [])) _
    refine XS.iloadN X0.here hx rfl (hb hby d6_14) rfl ?_
    show Steps p.tables e below (s₁.setTop (mkF m 15 #[.val (.ref a9), .val (.int (4 : Int32)), .unset] [(.int (4 : Int32))])) _
    refine st2 _ ?_
    show Steps p.tables e below (T2.setTop (mkF m 17 #[.val (.ref a9), .val (.int (4 : Int32)), .unset] [(.ref b2)])) _
    refine XS.astoreN X2.here hx rfl (hb hby d6_17) rfl rfl (l' := #[.val (.ref a9), .val (.int (4 : Int32)), .val (.ref b2)]) rfl ?_
    show Steps p.tables e below (T2.setTop (mkF m 18 #[.val (.ref a9), .val (.int (4 : Int32)), .val (.ref b2)] [])) _
    refine XS.aloadN X2.here hx rfl (hb hby d6_18) rfl rfl ?_
    show Steps p.tables e below (T2.setTop (mkF m 19 #[.val (.ref a9), .val (.int (4 : Int32)), .val (.ref b2)] [(.ref a9)])) _
    refine XS.iconst X2.here hx rfl (hb hby d6_19) ?_
    show Steps p.tables e below (T2.setTop (mkF m 20 #[.val (.ref a9), .val (.int (4 : Int32)), .val (.ref b2)] [(.int (0 : Int32)), (.ref a9)])) _
    refine XS.aloadN X2.here hx rfl (hb hby d6_20) rfl rfl ?_
    show Steps p.tables e below (T2.setTop (mkF m 21 #[.val (.ref a9), .val (.int (4 : Int32)), .val (.ref b2)] [(.ref b2), (.int (0 : Int32)), (.ref a9)])) _
    refine XS.iconst X2.here hx rfl (hb hby d6_21) ?_
    show Steps p.tables e below (T2.setTop (mkF m 22 #[.val (.ref a9), .val (.int (4 : Int32)), .val (.ref b2)] [(.int (0 : Int32)), (.ref b2), (.int (0 : Int32)), (.ref a9)])) _
    refine XS.aloadN X2.here hx rfl (hb hby d6_22) rfl rfl ?_
    show Steps p.tables e below (T2.setTop (mkF m 23 #[.val (.ref a9), .val (.int (4 : Int32)), .val (.ref b2)] [(.ref a9), (.int (0 : Int32)), (.ref b2), (.int (0 : Int32)), (.ref a9)])) _
    refine X2.arraylength hx (by rw [e2]; exact Ar3.1) (State.isArrayOf_alike hZ.alike Ar3.2.1) (g := (mkF m 23 #[.val (.ref a9), .val (.int (4 : Int32)), .val (.ref b2)] [(.ref a9), (.int (0 : Int32)), (.ref b2), (.int (0 : Int32)), (.ref a9)])) rfl rfl (hb hby d6_23) _ ?_
    rw [len_of S3 N3_]
    show Steps p.tables e below (T2.setTop (mkF m 24 #[.val (.ref a9), .val (.int (4 : Int32)), .val (.ref b2)] [(.int (2 : Int32)), (.int (0 : Int32)), (.ref b2), (.int (0 : Int32)), (.ref a9)])) _
    refine XS.iloadN X2.here hx rfl (hb hby d6_24) rfl ?_
    show Steps p.tables e below (T2.setTop (mkF m 25 #[.val (.ref a9), .val (.int (4 : Int32)), .val (.ref b2)] [(.int (4 : Int32)), (.int (2 : Int32)), (.int (0 : Int32)), (.ref b2), (.int (0 : Int32)), (.ref a9)])) _
    refine st4 _ ?_
    show Steps p.tables e below (T4.setTop (mkF m 28 #[.val (.ref a9), .val (.int (4 : Int32)), .val (.ref b2)] [(.int (own_minI (2 : Int32) (4 : Int32))), (.int (0 : Int32)), (.ref b2), (.int (0 : Int32)), (.ref a9)])) _
    show Steps p.tables e below (T4.setTop (mkF m 28 #[.val (.ref a9), .val (.int (4 : Int32)), .val (.ref b2)] [(.int (2 : Int32)), (.int (0 : Int32)), (.ref b2), (.int (0 : Int32)), (.ref a9)])) _
    refine st5 _ ?_
    show Steps p.tables e below (T5.setTop (mkF m 31 #[.val (.ref a9), .val (.int (4 : Int32)), .val (.ref b2)] [])) _
    refine XS.aloadN X5.here hx rfl (hb hby d6_31) rfl rfl ?_
    show Steps p.tables e below (T5.setTop (mkF m 32 #[.val (.ref a9), .val (.int (4 : Int32)), .val (.ref b2)] [(.ref b2)])) _
    jvm_step X5.here [X5.here.top, hx, (hb hby d6_32), X5.method', Bd.returns, Value.isRef, FieldType.isReference]
    first | (intro acts; rw [hr _ acts rfl rfl rfl]) | rw [hr _ _ rfl rfl rfl]
    exact Steps.refl _
  · show Q_rmCp2 n0 Z a9 k9 v0 v1 v2 v3 h0 _ T5.heap _
    rw [e5]
    exact ⟨b2, k2, rfl, N5, K5, sz_b2, (A2'.keep Kc5), V5'⟩
theorem ef_rmCp3 (m : MethodId) (a9 : Addr) : entryFrame m #[(.ref a9), (.int (6 : Int32))] 3 = mkF m 0 #[.val (.ref a9), .val (.int (6 : Int32)), .unset] [] := by first | (simp [entryFrame, mkF, argsToLocals, Value.category]; done) | rfl
def Q_rmCp3 (n0 : Nat) (Z : State) (a9 : Addr) (k9 : ClassId) (v0 : Int64) (v1 : Int64) (v2 : Int64) (v3 : Int64) (h0 : Heap) (v : Option Value) (h : Heap) (L : List Loc) : Prop := ∃ b : Addr, ∃ kb : ClassId, v = some (.ref b) ∧ Fr n0 L ∧ Keep h0 h [] ∧ (h0.size ≤ b) ∧ (Exa Z h b "[J") ∧ (Arv Z h b kb .long (6 : Int32) [(.long v0), (.long v1), (.long v2), (.long (0 : Int64)), (.long (0 : Int64)), (.long (0 : Int64))] (.long (0 : Int64)))
set_option maxRecDepth 65536 in
set_option maxHeartbeats 40000000 in
theorem rmCp3 (l : Launch) (Z : State) (a0 : Array Value) (hw : ∀ d ∈ tables_1, d.before a0 Z = true) (ws : List Jvm.Cond) (a9 : Addr) (k9 : ClassId) (v0 : Int64) (v1 : Int64) (v2 : Int64) (v3 : Int64) (h0 : Heap) (n0 : Nat) (O0 : Old Z n0 h0) (GL : GF Z) (V_a9 : Arv Z h0 a9 k9 .long (3 : Int32) [(.long v0), (.long v1), (.long v2), (.long v3)] (.long (0 : Int64))) :
    MetFree l MN_3 (head1 (Jvm.Cond.code MN_3 jdk_65_method_124_code 3 (some (.array .long)) :: ws) ({ frames := 1, cells := 1, slots := 6, locals := 18 } : Room)) (fun a U => a = #[(.ref a9), (.int (6 : Int32))] ∧ Z.Warmed39 U.vm ∧ U.heap = h0) (fun _ _ _ _ _ => True) (fun _ U o U' => ∃ v L, o = .returned v ∧ Q_rmCp3 n0 Z a9 k9 v0 v1 v2 v3 h0 v U'.heap L ∧ FrameEnd U o U' L ({ frames := 1, cells := 1, slots := 6, locals := 18 } : Room).cells ({ frames := 1, cells := 1, slots := 6, locals := 18 } : Room).slots) := by
  refine MetFree.of_bodySF (plainFor_of_name pnv1) hisR ?_
  intro p e s m args below meth c s₁ Bd hml0 hP hK
  obtain ⟨rfl, hZ, hh⟩ := hP
  have hx := Bd.exec
  have hby := Bd.bytes
  have hml : c.maxLocals = 3 := hml0
  have hown : s.vm.findClass "java/util/Arrays" = some m.cls := findClass_of_methodNamed Bd.named
  have hnm := (name_of_methodNamed Bd.named Bd.method).1
  have X0 : Stand p l e ({ frames := 1, cells := 1, slots := 6, locals := 18 } : Room) s m #[(.ref a9), (.int (6 : Int32))] below meth c s₁ [] 0 0 := Stand.of_body Bd
  have e0 : s₁.heap = h0 := by rw [← hh, Bd.state]; rfl
  have N0 := Fr.nil n0
  have pre0 : ∀ t, Steps p.tables e below (s₁.setTop (mkF m 0 #[.val (.ref a9), .val (.int (6 : Int32)), .unset] [])) t → Steps p.tables e below (s₁.setTop (entryFrame m #[(.ref a9), (.int (6 : Int32))] 3)) t := fun t k => castTop (ef_rmCp3 m a9) k
  have GSB := GL
  obtain ⟨cl1, Ar1, -, S1, N1_, -, -⟩ := id (V_a9)
  obtain ⟨T2, h2, k2, X2, e2, E2, A2, A2', st2⟩ := newPE X0 hx hZ (Wd hw 20 rfl) e0 (g := (mkF m 15 #[.val (.ref a9), .val (.int (6 : Int32)), .unset] [(.int (6 : Int32))])) rfl (hb hby d6_15) rfl (by decide) (cap := 6) (by decide) (by decide) (by decide) (by decide) (ad := "[J") rfl
  obtain ⟨b2, g2⟩ : ∃ z, z = h0.size := ⟨_, rfl⟩
  rw [← g2] at A2 A2' st2
  have g_b2 : n0 ≤ b2 := Nat.le_trans (own_sz O0) (Nat.le_of_eq g2.symm)
  have sz_b2 : h0.size ≤ b2 := Nat.le_trans (Keep.refl h0 []).1 (Nat.le_of_eq g2.symm)
  have K2 : Keep h0 h2 [] := (Keep.refl h0 []).ext E2
  have O2 := O0.ext E2
  have V_b2 : Arv Z h2 b2 k2 .long (6 : Int32) [(.long (0 : Int64)), (.long (0 : Int64)), (.long (0 : Int64)), (.long (0 : Int64)), (.long (0 : Int64)), (.long (0 : Int64))] (.long (0 : Int64)) := (Arv.new A2 (by decide)).pad (pad_rep [] (.long (0 : Int64)) 6)
  obtain ⟨cl3, Ar3, -, S3, N3_, -, -⟩ := id ((V_a9.ext E2))
  obtain ⟨_, _, ⟨T4, L4, k4, n4⟩, -, X4, ⟨Lc4, hQ4, l4, y4, z4⟩, st4⟩ := Jvm.LawKit.callS X2 hx (y := MN_1) hown (mvT hZ (Wd hw 35 rfl)) (mvT hZ (Wd hw 14 rfl)) (mvT hZ (Wd hw 15 rfl)) (mvT hZ (Wd hw 16 rfl)) (by decide) (backOf (W := 4) (rmMin l Z a0 hw [] ((3 : Int32)) ((6 : Int32)) (h2) n0 O2 GL) hZ (Wd hw 16 rfl) (Wd hw 15 rfl) (by decide) (by decide)) (g := (mkF m 25 #[.val (.ref a9), .val (.int (6 : Int32)), .val (.ref b2)] [(.int (6 : Int32)), (.int (3 : Int32)), (.int (0 : Int32)), (.ref b2), (.int (0 : Int32)), (.ref a9)])) rfl (by rw [hml]; rfl) (argsL := [(.int (3 : Int32)), (.int (6 : Int32))]) (rest := [(.int (0 : Int32)), (.ref b2), (.int (0 : Int32)), (.ref a9)]) (lenOf pd rfl) rfl (by show 2 * 0 + _ ≤ _; exact Nat.le_of_eq rfl) (hb hby d6_25) (fun _ _ => ⟨rfl, e2, (by decide : 1 + 0 ≤ _), (by decide : 6 + 0 ≤ _)⟩)
  dsimp only [Pt.U, Pt.locs, Pt.cells, Pt.slots] at X4 l4 y4 z4 st4 hQ4
  subst l4 y4 z4
  obtain ⟨rfl, N4q, e4⟩ := hQ4
  have N4 := Fr.app N0 N4q
  obtain ⟨T5, h5, L5, X5, e5, N5, Kc5, V5, st5⟩ := cpA X4 hx hZ hown (Wd hw 36 rfl) (Wd hw 39 rfl) (Wd hw 37 rfl) (Wd hw 38 rfl) e4 (V_a9.ext E2) V_b2 (us := [(.long v0), (.long v1), (.long v2)]) (Or.inl ⟨rfl, rfl⟩) (by decide) (by decide) (by decide) (by decide) (by decide) rfl (by decide) N4 g_b2 (g := (mkF m 28 #[.val (.ref a9), .val (.int (6 : Int32)), .val (.ref b2)] [(.int (3 : Int32)), (.int (0 : Int32)), (.ref b2), (.int (0 : Int32)), (.ref a9)])) rfl (by rw [hml]; rfl) rfl (hb hby d6_28) (by decide) (W := 0) (by show 2 * 0 + _ ≤ _; exact Nat.le_of_eq rfl) (by decide)
  have V5' : Arv Z h5 b2 k2 .long (6 : Int32) [(.long v0), (.long v1), (.long v2), (.long (0 : Int64)), (.long (0 : Int64)), (.long (0 : Int64))] (.long (0 : Int64)) := V5
  have K5 : Keep h0 h5 [] := K2.trans Kc5 (allS (Or.inr sz_b2) all0)
  have O5 := O2.keep Kc5 (allS g_b2 all0)
  obtain ⟨fs, hr, hrun, hended, hW, hsame⟩ := X5.leave (v := some (.ref b2)) (fun h => by rw [Bd.returns] at h; cases h)
  refine ⟨_, _, pre0 _ ?_, hrun, hended, _, _, rfl, ?_, ⟨_, rfl⟩, hW, hsame.mono (by decide) (by decide)⟩
  · show Steps p.tables e below (s₁.setTop (mkF m 0 #[.val (.ref a9), .val (.int (6 : Int32)), .unset] [])) _
    refine XS.iloadN X0.here hx rfl (hb hby d6_0) rfl ?_
    show Steps p.tables e below (s₁.setTop (mkF m 1 #[.val (.ref a9), .val (.int (6 : Int32)), .unset] [(.int (6 : Int32))])) _
    refine XS.aloadN X0.here hx rfl (hb hby d6_1) rfl rfl ?_
    show Steps p.tables e below (s₁.setTop (mkF m 2 #[.val (.ref a9), .val (.int (6 : Int32)), .unset] [(.ref a9), (.int (6 : Int32))])) _
    refine X0.arraylength hx (by rw [e0]; exact Ar1.1) (State.isArrayOf_alike hZ.alike Ar1.2.1) (g := (mkF m 2 #[.val (.ref a9), .val (.int (6 : Int32)), .unset] [(.ref a9), (.int (6 : Int32))])) rfl rfl (hb hby d6_2) _ ?_
    rw [len_of S1 N1_]
    show Steps p.tables e below (s₁.setTop (mkF m 3 #[.val (.ref a9), .val (.int (6 : Int32)), .unset] [(.int (3 : Int32)), (.int (6 : Int32))])) _
    refine XS.icmpYes X0.here hx rfl (pc0 := 3) (pc' := 14) rfl (hb hby d6_3) rfl (feq (by decide : ¬ ((6 : Int32) = (3 : Int32)))).2 (by decide) (by decide) ?_
    show Steps p.tables e below (s₁.setTop (mkF m 14 #[.val (.ref a9), .val (.int (6 : Int32)), .unset] [])) _
    refine XS.iloadN X0.here hx rfl (hb hby d6_14) rfl ?_
    show Steps p.tables e below (s₁.setTop (mkF m 15 #[.val (.ref a9), .val (.int (6 : Int32)), .unset] [(.int (6 : Int32))])) _
    refine st2 _ ?_
    show Steps p.tables e below (T2.setTop (mkF m 17 #[.val (.ref a9), .val (.int (6 : Int32)), .unset] [(.ref b2)])) _
    refine XS.astoreN X2.here hx rfl (hb hby d6_17) rfl rfl (l' := #[.val (.ref a9), .val (.int (6 : Int32)), .val (.ref b2)]) rfl ?_
    show Steps p.tables e below (T2.setTop (mkF m 18 #[.val (.ref a9), .val (.int (6 : Int32)), .val (.ref b2)] [])) _
    refine XS.aloadN X2.here hx rfl (hb hby d6_18) rfl rfl ?_
    show Steps p.tables e below (T2.setTop (mkF m 19 #[.val (.ref a9), .val (.int (6 : Int32)), .val (.ref b2)] [(.ref a9)])) _
    refine XS.iconst X2.here hx rfl (hb hby d6_19) ?_
    show Steps p.tables e below (T2.setTop (mkF m 20 #[.val (.ref a9), .val (.int (6 : Int32)), .val (.ref b2)] [(.int (0 : Int32)), (.ref a9)])) _
    refine XS.aloadN X2.here hx rfl (hb hby d6_20) rfl rfl ?_
    show Steps p.tables e below (T2.setTop (mkF m 21 #[.val (.ref a9), .val (.int (6 : Int32)), .val (.ref b2)] [(.ref b2), (.int (0 : Int32)), (.ref a9)])) _
    refine XS.iconst X2.here hx rfl (hb hby d6_21) ?_
    show Steps p.tables e below (T2.setTop (mkF m 22 #[.val (.ref a9), .val (.int (6 : Int32)), .val (.ref b2)] [(.int (0 : Int32)), (.ref b2), (.int (0 : Int32)), (.ref a9)])) _
    refine XS.aloadN X2.here hx rfl (hb hby d6_22) rfl rfl ?_
    show Steps p.tables e below (T2.setTop (mkF m 23 #[.val (.ref a9), .val (.int (6 : Int32)), .val (.ref b2)] [(.ref a9), (.int (0 : Int32)), (.ref b2), (.int (0 : Int32)), (.ref a9)])) _
    refine X2.arraylength hx (by rw [e2]; exact Ar3.1) (State.isArrayOf_alike hZ.alike Ar3.2.1) (g := (mkF m 23 #[.val (.ref a9), .val (.int (6 : Int32)), .val (.ref b2)] [(.ref a9), (.int (0 : Int32)), (.ref b2), (.int (0 : Int32)), (.ref a9)])) rfl rfl (hb hby d6_23) _ ?_
    rw [len_of S3 N3_]
    show Steps p.tables e below (T2.setTop (mkF m 24 #[.val (.ref a9), .val (.int (6 : Int32)), .val (.ref b2)] [(.int (3 : Int32)), (.int (0 : Int32)), (.ref b2), (.int (0 : Int32)), (.ref a9)])) _
    refine XS.iloadN X2.here hx rfl (hb hby d6_24) rfl ?_
    show Steps p.tables e below (T2.setTop (mkF m 25 #[.val (.ref a9), .val (.int (6 : Int32)), .val (.ref b2)] [(.int (6 : Int32)), (.int (3 : Int32)), (.int (0 : Int32)), (.ref b2), (.int (0 : Int32)), (.ref a9)])) _
    refine st4 _ ?_
    show Steps p.tables e below (T4.setTop (mkF m 28 #[.val (.ref a9), .val (.int (6 : Int32)), .val (.ref b2)] [(.int (own_minI (3 : Int32) (6 : Int32))), (.int (0 : Int32)), (.ref b2), (.int (0 : Int32)), (.ref a9)])) _
    show Steps p.tables e below (T4.setTop (mkF m 28 #[.val (.ref a9), .val (.int (6 : Int32)), .val (.ref b2)] [(.int (3 : Int32)), (.int (0 : Int32)), (.ref b2), (.int (0 : Int32)), (.ref a9)])) _
    refine st5 _ ?_
    show Steps p.tables e below (T5.setTop (mkF m 31 #[.val (.ref a9), .val (.int (6 : Int32)), .val (.ref b2)] [])) _
    refine XS.aloadN X5.here hx rfl (hb hby d6_31) rfl rfl ?_
    show Steps p.tables e below (T5.setTop (mkF m 32 #[.val (.ref a9), .val (.int (6 : Int32)), .val (.ref b2)] [(.ref b2)])) _
    jvm_step X5.here [X5.here.top, hx, (hb hby d6_32), X5.method', Bd.returns, Value.isRef, FieldType.isReference]
    first | (intro acts; rw [hr _ acts rfl rfl rfl]) | rw [hr _ _ rfl rfl rfl]
    exact Steps.refl _
  · show Q_rmCp3 n0 Z a9 k9 v0 v1 v2 v3 h0 _ T5.heap _
    rw [e5]
    exact ⟨b2, k2, rfl, N5, K5, sz_b2, (A2'.keep Kc5), V5'⟩
theorem d5_0 : decode prog_38_method_3_code 0 = .ok (.aload_n 0, 1) := by decide +kernel
theorem d5_1 : decode prog_38_method_3_code 1 = .ok (.getfield 24, 3) := by decide +kernel
theorem d5_4 : decode prog_38_method_3_code 4 = .ok (.getstatic 28, 3) := by decide +kernel
theorem d5_7 : decode prog_38_method_3_code 7 = .ok (.iushr, 1) := by decide +kernel
theorem d5_8 : decode prog_38_method_3_code 8 = .ok (.istore_n 3, 1) := by decide +kernel
theorem d5_9 : decode prog_38_method_3_code 9 = .ok (.aload_n 0, 1) := by decide +kernel
theorem d5_10 : decode prog_38_method_3_code 10 = .ok (.getfield 24, 3) := by decide +kernel
theorem d5_13 : decode prog_38_method_3_code 13 = .ok (.sipush 8191, 3) := by decide +kernel
theorem d5_16 : decode prog_38_method_3_code 16 = .ok (.iand, 1) := by decide +kernel
theorem d5_17 : decode prog_38_method_3_code 17 = .ok (.istore 4, 2) := by decide +kernel
theorem d5_19 : decode prog_38_method_3_code 19 = .ok (.iload_n 3, 1) := by decide +kernel
theorem d5_20 : decode prog_38_method_3_code 20 = .ok (.aload_n 0, 1) := by decide +kernel
theorem d5_21 : decode prog_38_method_3_code 21 = .ok (.getfield 9, 3) := by decide +kernel
theorem d5_24 : decode prog_38_method_3_code 24 = .ok (.arraylength, 1) := by decide +kernel
theorem d5_25 : decode prog_38_method_3_code 25 = .ok (.if_icmp .ne 20, 3) := by decide +kernel
theorem d5_45 : decode prog_38_method_3_code 45 = .ok (.aload_n 0, 1) := by decide +kernel
theorem d5_46 : decode prog_38_method_3_code 46 = .ok (.getfield 9, 3) := by decide +kernel
theorem d5_49 : decode prog_38_method_3_code 49 = .ok (.iload_n 3, 1) := by decide +kernel
theorem d5_50 : decode prog_38_method_3_code 50 = .ok (.aaload, 1) := by decide +kernel
theorem d5_51 : decode prog_38_method_3_code 51 = .ok (.ifnonnull 17, 3) := by decide +kernel
theorem d5_68 : decode prog_38_method_3_code 68 = .ok (.iload 4, 2) := by decide +kernel
theorem d5_70 : decode prog_38_method_3_code 70 = .ok (.aload_n 0, 1) := by decide +kernel
theorem d5_71 : decode prog_38_method_3_code 71 = .ok (.getfield 9, 3) := by decide +kernel
theorem d5_74 : decode prog_38_method_3_code 74 = .ok (.iload_n 3, 1) := by decide +kernel
theorem d5_75 : decode prog_38_method_3_code 75 = .ok (.aaload, 1) := by decide +kernel
theorem d5_76 : decode prog_38_method_3_code 76 = .ok (.arraylength, 1) := by decide +kernel
theorem d5_77 : decode prog_38_method_3_code 77 = .ok (.if_icmp .ne 28, 3) := by decide +kernel
theorem d5_105 : decode prog_38_method_3_code 105 = .ok (.aload_n 0, 1) := by decide +kernel
theorem d5_106 : decode prog_38_method_3_code 106 = .ok (.getfield 9, 3) := by decide +kernel
theorem d5_109 : decode prog_38_method_3_code 109 = .ok (.iload_n 3, 1) := by decide +kernel
theorem d5_110 : decode prog_38_method_3_code 110 = .ok (.aaload, 1) := by decide +kernel
theorem d5_111 : decode prog_38_method_3_code 111 = .ok (.iload 4, 2) := by decide +kernel
theorem d5_113 : decode prog_38_method_3_code 113 = .ok (.lload_n 1, 1) := by decide +kernel
theorem d5_114 : decode prog_38_method_3_code 114 = .ok (.lastore, 1) := by decide +kernel
theorem d5_115 : decode prog_38_method_3_code 115 = .ok (.aload_n 0, 1) := by decide +kernel
theorem d5_116 : decode prog_38_method_3_code 116 = .ok (.dup, 1) := by decide +kernel
theorem d5_117 : decode prog_38_method_3_code 117 = .ok (.getfield 24, 3) := by decide +kernel
theorem d5_120 : decode prog_38_method_3_code 120 = .ok (.iconst 1, 1) := by decide +kernel
theorem d5_121 : decode prog_38_method_3_code 121 = .ok (.iadd, 1) := by decide +kernel
theorem d5_122 : decode prog_38_method_3_code 122 = .ok (.putfield 24, 3) := by decide +kernel
theorem d5_125 : decode prog_38_method_3_code 125 = .ok (.return_, 1) := by decide +kernel
abbrev MN_4 : MethodName := ⟨"com/example/inchworm/inchworm/KeyBlocks", "add", "(J)V"⟩
theorem ef_rmAdd0 (m : MethodId) (a9 : Addr) (q1 : Int64) : entryFrame m #[(.ref a9), (.long q1)] 5 = mkF m 0 #[.val (.ref a9), .val (.long q1), .second, .unset, .unset] [] := by first | (simp [entryFrame, mkF, argsToLocals, Value.category]; done) | rfl
def Q_rmAdd0 (n0 : Nat) (Z : State) (a9 : Addr) (q1 : Int64) (A : Addr) (kA : ClassId) (B : Addr) (kB : ClassId) (n : Int32) (h0 : Heap) (v : Option Value) (h : Heap) (L : List Loc) : Prop := ∃ Bn : Addr, ∃ kBn : ClassId, ∃ nn : Int32, v = none ∧ Fr n0 L ∧ Keep h0 h [a9, A, B] ∧ (n0 ≤ Bn) ∧ (Exa Z h a9 "com/example/inchworm/inchworm/KeyBlocks") ∧ (Fld Z h a9 "com/example/inchworm/inchworm/KeyBlocks" "blocks" "[[J" (.ref A)) ∧ (Fld Z h a9 "com/example/inchworm/inchworm/KeyBlocks" "size" "I" (.int (1 : Int32))) ∧ (Exa Z h Bn "[J") ∧ (Arv Z h A kA (.array .long) (1 : Int32) [(.ref Bn)] .null) ∧ (Arv Z h Bn kBn .long nn [(.long q1), (.long (0 : Int64)), (.long (0 : Int64)), (.long (0 : Int64))] (.long (0 : Int64))) ∧ ((0 : Int32) < nn)
set_option maxRecDepth 65536 in
set_option maxHeartbeats 40000000 in
theorem rmAdd0 (l : Launch) (Z : State) (a0 : Array Value) (hw : ∀ d ∈ tables_1, d.before a0 Z = true) (ws : List Jvm.Cond) (a9 : Addr) (q1 : Int64) (A : Addr) (kA : ClassId) (B : Addr) (kB : ClassId) (n : Int32) (h0 : Heap) (n0 : Nat) (O0 : Old Z n0 h0) (GL : GF Z) (E_a9 : Exa Z h0 a9 "com/example/inchworm/inchworm/KeyBlocks") (F_blocks_a9 : Fld Z h0 a9 "com/example/inchworm/inchworm/KeyBlocks" "blocks" "[[J" (.ref A)) (F_size_a9 : Fld Z h0 a9 "com/example/inchworm/inchworm/KeyBlocks" "size" "I" (.int (0 : Int32))) (V_A : Arv Z h0 A kA (.array .long) (1 : Int32) [(.ref B)] .null) (E_B : Exa Z h0 B "[J") (V_B : Arv Z h0 B kB .long n [(.long (0 : Int64)), (.long (0 : Int64)), (.long (0 : Int64)), (.long (0 : Int64))] (.long (0 : Int64))) (hov : OvrA Z kA .long "[J") (hlt : (0 : Int32) < n) (g_a9 : n0 ≤ a9) (g_A : n0 ≤ A) (g_B : n0 ≤ B) :
    MetFree l MN_4 (head1 (Jvm.Cond.code MN_4 prog_38_method_3_code 5 none :: ws) ({ frames := 0, cells := 0, slots := 0, locals := 0 } : Room)) (fun a U => a = #[(.ref a9), (.long q1)] ∧ Z.Warmed39 U.vm ∧ U.heap = h0) (fun _ _ _ _ _ => True) (fun _ U o U' => ∃ v L, o = .returned v ∧ Q_rmAdd0 n0 Z a9 q1 A kA B kB n h0 v U'.heap L ∧ FrameEnd U o U' L ({ frames := 0, cells := 0, slots := 0, locals := 0 } : Room).cells ({ frames := 0, cells := 0, slots := 0, locals := 0 } : Room).slots) := by
  refine MetFree.of_bodySF (plainFor_of_name pn) hisR ?_
  intro p e s m args below meth c s₁ Bd hml0 hP hK
  obtain ⟨rfl, hZ, hh⟩ := hP
  have hx := Bd.exec
  have hby := Bd.bytes
  have hml : c.maxLocals = 5 := hml0
  have hown : s.vm.findClass "com/example/inchworm/inchworm/KeyBlocks" = some m.cls := findClass_of_methodNamed Bd.named
  have hnm := (name_of_methodNamed Bd.named Bd.method).1
  have X0 : Stand p l e ({ frames := 0, cells := 0, slots := 0, locals := 0 } : Room) s m #[(.ref a9), (.long q1)] below meth c s₁ [] 0 0 := Stand.of_body Bd
  have e0 : s₁.heap = h0 := by rw [← hh, Bd.state]; rfl
  have N0 := Fr.nil n0
  have pre0 : ∀ t, Steps p.tables e below (s₁.setTop (mkF m 0 #[.val (.ref a9), .val (.long q1), .second, .unset, .unset] [])) t → Steps p.tables e below (s₁.setTop (entryFrame m #[(.ref a9), (.long q1)] 5)) t := fun t k => castTop (ef_rmAdd0 m a9 q1) k
  have GSB := GL
  obtain ⟨T1, X1, e1, st1⟩ := getF X0 hx hZ hown (host := "") (Or.inl (Wd hw 27 rfl)) Via.refl e0 F_size_a9 (g := (mkF m 1 #[.val (.ref a9), .val (.long q1), .second, .unset, .unset] [(.ref a9)])) rfl rfl (hb hby d5_1)
  obtain ⟨T2, X2, e2, st2⟩ := getS2 X1 hx hZ hown (host := "") (Or.inl (Wd hw 29 rfl)) Via.refl e1 (GSB.ext O0.2) (g := (mkF m 4 #[.val (.ref a9), .val (.long q1), .second, .unset, .unset] [(.int (0 : Int32))])) rfl (hb hby d5_4)
  obtain ⟨T3, X3, e3, st3⟩ := getF X2 hx hZ hown (host := "") (Or.inl (Wd hw 27 rfl)) Via.refl e2 F_size_a9 (g := (mkF m 10 #[.val (.ref a9), .val (.long q1), .second, .val (.int (0 : Int32)), .unset] [(.ref a9)])) rfl rfl (hb hby d5_10)
  obtain ⟨T4, X4, e4, st4⟩ := getF X3 hx hZ hown (host := "") (Or.inl (Wd hw 11 rfl)) Via.refl e3 F_blocks_a9 (g := (mkF m 21 #[.val (.ref a9), .val (.long q1), .second, .val (.int (0 : Int32)), .val (.int (0 : Int32))] [(.ref a9), (.int (0 : Int32))])) rfl rfl (hb hby d5_21)
  obtain ⟨cl5, Ar5, -, S5, N5_, -, -⟩ := id (V_A)
  obtain ⟨T6, X6, e6, st6⟩ := getF X4 hx hZ hown (host := "") (Or.inl (Wd hw 11 rfl)) Via.refl e4 F_blocks_a9 (g := (mkF m 46 #[.val (.ref a9), .val (.long q1), .second, .val (.int (0 : Int32)), .val (.int (0 : Int32))] [(.ref a9)])) rfl rfl (hb hby d5_46)
  obtain ⟨cl7, Ar7, -, S7, N7_, H7, G7⟩ := id (V_A)
  have hin7 : ¬ ((0 : Int32) < 0 ∨ cl7.slots.size ≤ ((0 : Int32)).toNatClampNeg) := inb_of S7 ⟨(by decide), (by decide)⟩
  have hat7 : cl7.slots[((0 : Int32)).toNatClampNeg]? = some (.ref B) := H7.at hin7 rfl
  obtain ⟨T8, X8, e8, st8⟩ := getF X6 hx hZ hown (host := "") (Or.inl (Wd hw 11 rfl)) Via.refl e6 F_blocks_a9 (g := (mkF m 71 #[.val (.ref a9), .val (.long q1), .second, .val (.int (0 : Int32)), .val (.int (0 : Int32))] [(.ref a9), (.int (0 : Int32))])) rfl rfl (hb hby d5_71)
  obtain ⟨cl9, Ar9, -, S9, N9_, H9, G9⟩ := id (V_A)
  have hin9 : ¬ ((0 : Int32) < 0 ∨ cl9.slots.size ≤ ((0 : Int32)).toNatClampNeg) := inb_of S9 ⟨(by decide), (by decide)⟩
  have hat9 : cl9.slots[((0 : Int32)).toNatClampNeg]? = some (.ref B) := H9.at hin9 rfl
  obtain ⟨cl10, Ar10, -, S10, N10_, -, -⟩ := id (V_B)
  have hne : ¬ ((0 : Int32) = n) := (fun q => by rw [← q] at hlt; exact absurd hlt (by decide))
  obtain ⟨T11, X11, e11, st11⟩ := getF X8 hx hZ hown (host := "") (Or.inl (Wd hw 11 rfl)) Via.refl e8 F_blocks_a9 (g := (mkF m 106 #[.val (.ref a9), .val (.long q1), .second, .val (.int (0 : Int32)), .val (.int (0 : Int32))] [(.ref a9)])) rfl rfl (hb hby d5_106)
  obtain ⟨cl12, Ar12, -, S12, N12_, H12, G12⟩ := id (V_A)
  have hin12 : ¬ ((0 : Int32) < 0 ∨ cl12.slots.size ≤ ((0 : Int32)).toNatClampNeg) := inb_of S12 ⟨(by decide), (by decide)⟩
  have hat12 : cl12.slots[((0 : Int32)).toNatClampNeg]? = some (.ref B) := H12.at hin12 rfl
  obtain ⟨cl13, Ar13, q13, S13, N13_, H13, G13⟩ := id (V_B)
  have hin13 : ¬ ((0 : Int32) < 0 ∨ cl13.slots.size ≤ ((0 : Int32)).toNatClampNeg) := inb_of S13 ⟨(by decide), hlt⟩
  obtain ⟨T13, h13, X13, e13, W13, st13⟩ := stJ X11 hx hZ e11 Ar13 (j := (0 : Int32)) hin13 (g := (mkF m 114 #[.val (.ref a9), .val (.long q1), .second, .val (.int (0 : Int32)), .val (.int (0 : Int32))] [(.long q1), (.int (0 : Int32)), (.ref B)])) rfl rfl (hb hby d5_114)
  have K13 : Keep h0 h13 [a9, A, B] := (Keep.refl h0 [a9, A, B]).wr W13 (Or.inl (List.mem_of_getElem? (i := 2) rfl))
  have O13 := O0.wr W13 g_B
  have N13 := Fr.snoc X13 N0 g_B
  have V13 : Arv Z h13 B kB .long n [(.long q1), (.long (0 : Int64)), (.long (0 : Int64)), (.long (0 : Int64))] (.long (0 : Int64)) := Arv.set Ar13 q13 S13 N13_ H13 G13 rfl W13 0 rfl (Nat.le_of_ble_eq_true rfl)
  obtain ⟨T14, X14, e14, st14⟩ := getF X13 hx hZ hown (host := "") (Or.inl (Wd hw 27 rfl)) Via.refl e13 (F_size_a9.other W13 (Or.inl (Exa.ne E_a9 E_B (by decide)))) (g := (mkF m 117 #[.val (.ref a9), .val (.long q1), .second, .val (.int (0 : Int32)), .val (.int (0 : Int32))] [(.ref a9), (.ref a9)])) rfl rfl (hb hby d5_117)
  obtain ⟨T15, h15, X15, e15, W15, st15⟩ := putF X14 hx hZ hown (host := "") (Or.inl (Wd hw 27 rfl)) Via.refl e14 (F_size_a9.other W13 (Or.inl (Exa.ne E_a9 E_B (by decide)))) (E_a9.wr W13) (Or.inl (Wd hw 28 rfl)) (Wd hw 1 rfl) (ty := .int) (by decide) rfl rfl (g := (mkF m 122 #[.val (.ref a9), .val (.long q1), .second, .val (.int (0 : Int32)), .val (.int (0 : Int32))] [(.int (1 : Int32)), (.ref a9)])) rfl rfl (hb hby d5_122)
  have Fw15 := (F_size_a9.other W13 (Or.inl (Exa.ne E_a9 E_B (by decide)))).same W15
  have K15 : Keep h0 h15 [a9, A, B] := K13.wr W15 (Or.inl (List.mem_of_getElem? (i := 0) rfl))
  have O15 := O13.wr W15 g_a9
  have N15 := Fr.snoc X15 N13 g_a9
  obtain ⟨fs, hr, hrun, hended, hW, hsame⟩ := X15.leave (v := none) (fun _ => rfl)
  refine ⟨_, _, pre0 _ ?_, hrun, hended, _, _, rfl, ?_, ⟨_, rfl⟩, hW, hsame.mono (by decide) (by decide)⟩
  · show Steps p.tables e below (s₁.setTop (mkF m 0 #[.val (.ref a9), .val (.long q1), .second, .unset, .unset] [])) _
    refine XS.aloadN X0.here hx rfl (hb hby d5_0) rfl rfl ?_
    show Steps p.tables e below (s₁.setTop (mkF m 1 #[.val (.ref a9), .val (.long q1), .second, .unset, .unset] [(.ref a9)])) _
    refine st1 _ ?_
    show Steps p.tables e below (T1.setTop (mkF m 4 #[.val (.ref a9), .val (.long q1), .second, .unset, .unset] [(.int (0 : Int32))])) _
    refine st2 _ ?_
    show Steps p.tables e below (T2.setTop (mkF m 7 #[.val (.ref a9), .val (.long q1), .second, .unset, .unset] [(.int (13 : Int32)), (.int (0 : Int32))])) _
    refine XS.iushr X2.here hx rfl (hb hby d5_7) rfl ?_
    show Steps p.tables e below (T2.setTop (mkF m 8 #[.val (.ref a9), .val (.long q1), .second, .unset, .unset] [(.int (0 : Int32))])) _
    refine XS.istoreN X2.here hx rfl (hb hby d5_8) rfl (l' := #[.val (.ref a9), .val (.long q1), .second, .val (.int (0 : Int32)), .unset]) rfl ?_
    show Steps p.tables e below (T2.setTop (mkF m 9 #[.val (.ref a9), .val (.long q1), .second, .val (.int (0 : Int32)), .unset] [])) _
    refine XS.aloadN X2.here hx rfl (hb hby d5_9) rfl rfl ?_
    show Steps p.tables e below (T2.setTop (mkF m 10 #[.val (.ref a9), .val (.long q1), .second, .val (.int (0 : Int32)), .unset] [(.ref a9)])) _
    refine st3 _ ?_
    show Steps p.tables e below (T3.setTop (mkF m 13 #[.val (.ref a9), .val (.long q1), .second, .val (.int (0 : Int32)), .unset] [(.int (0 : Int32))])) _
    refine XS.sipush X3.here hx rfl (hb hby d5_13) ?_
    show Steps p.tables e below (T3.setTop (mkF m 16 #[.val (.ref a9), .val (.long q1), .second, .val (.int (0 : Int32)), .unset] [(.int (8191 : Int32)), (.int (0 : Int32))])) _
    refine XS.iand X3.here hx rfl (hb hby d5_16) rfl ?_
    show Steps p.tables e below (T3.setTop (mkF m 17 #[.val (.ref a9), .val (.long q1), .second, .val (.int (0 : Int32)), .unset] [(.int (0 : Int32))])) _
    refine XS.istore X3.here hx rfl (hb hby d5_17) rfl (l' := #[.val (.ref a9), .val (.long q1), .second, .val (.int (0 : Int32)), .val (.int (0 : Int32))]) rfl ?_
    show Steps p.tables e below (T3.setTop (mkF m 19 #[.val (.ref a9), .val (.long q1), .second, .val (.int (0 : Int32)), .val (.int (0 : Int32))] [])) _
    refine XS.iloadN X3.here hx rfl (hb hby d5_19) rfl ?_
    show Steps p.tables e below (T3.setTop (mkF m 20 #[.val (.ref a9), .val (.long q1), .second, .val (.int (0 : Int32)), .val (.int (0 : Int32))] [(.int (0 : Int32))])) _
    refine XS.aloadN X3.here hx rfl (hb hby d5_20) rfl rfl ?_
    show Steps p.tables e below (T3.setTop (mkF m 21 #[.val (.ref a9), .val (.long q1), .second, .val (.int (0 : Int32)), .val (.int (0 : Int32))] [(.ref a9), (.int (0 : Int32))])) _
    refine st4 _ ?_
    show Steps p.tables e below (T4.setTop (mkF m 24 #[.val (.ref a9), .val (.long q1), .second, .val (.int (0 : Int32)), .val (.int (0 : Int32))] [(.ref A), (.int (0 : Int32))])) _
    refine X4.arraylength hx (by rw [e4]; exact Ar5.1) (State.isArrayOf_alike hZ.alike Ar5.2.1) (g := (mkF m 24 #[.val (.ref a9), .val (.long q1), .second, .val (.int (0 : Int32)), .val (.int (0 : Int32))] [(.ref A), (.int (0 : Int32))])) rfl rfl (hb hby d5_24) _ ?_
    rw [len_of S5 N5_]
    show Steps p.tables e below (T4.setTop (mkF m 25 #[.val (.ref a9), .val (.long q1), .second, .val (.int (0 : Int32)), .val (.int (0 : Int32))] [(.int (1 : Int32)), (.int (0 : Int32))])) _
    refine XS.icmpYes X4.here hx rfl (pc0 := 25) (pc' := 45) rfl (hb hby d5_25) rfl (feq (by decide : ¬ ((0 : Int32) = (1 : Int32)))).2 (by decide) (by decide) ?_
    show Steps p.tables e below (T4.setTop (mkF m 45 #[.val (.ref a9), .val (.long q1), .second, .val (.int (0 : Int32)), .val (.int (0 : Int32))] [])) _
    refine XS.aloadN X4.here hx rfl (hb hby d5_45) rfl rfl ?_
    show Steps p.tables e below (T4.setTop (mkF m 46 #[.val (.ref a9), .val (.long q1), .second, .val (.int (0 : Int32)), .val (.int (0 : Int32))] [(.ref a9)])) _
    refine st6 _ ?_
    show Steps p.tables e below (T6.setTop (mkF m 49 #[.val (.ref a9), .val (.long q1), .second, .val (.int (0 : Int32)), .val (.int (0 : Int32))] [(.ref A)])) _
    refine XS.iloadN X6.here hx rfl (hb hby d5_49) rfl ?_
    show Steps p.tables e below (T6.setTop (mkF m 50 #[.val (.ref a9), .val (.long q1), .second, .val (.int (0 : Int32)), .val (.int (0 : Int32))] [(.int (0 : Int32)), (.ref A)])) _
    refine X6.aaload hx (j := (0 : Int32)) (v := (.ref B)) (by rw [e6]; exact Ar7.1) (State.isArrayOf_alike hZ.alike Ar7.2.1) rfl Ar7.2.2 hin7 hat7 (g := (mkF m 50 #[.val (.ref a9), .val (.long q1), .second, .val (.int (0 : Int32)), .val (.int (0 : Int32))] [(.int (0 : Int32)), (.ref A)])) rfl rfl (hb hby d5_50) _ ?_
    show Steps p.tables e below (T6.setTop (mkF m 51 #[.val (.ref a9), .val (.long q1), .second, .val (.int (0 : Int32)), .val (.int (0 : Int32))] [(.ref B)])) _
    refine XS.ifnonnullYes X6.here hx rfl (pc0 := 51) (pc' := 68) rfl (hb hby d5_51) rfl (by decide) (by decide) ?_
    show Steps p.tables e below (T6.setTop (mkF m 68 #[.val (.ref a9), .val (.long q1), .second, .val (.int (0 : Int32)), .val (.int (0 : Int32))] [])) _
    refine XS.iload X6.here hx rfl (hb hby d5_68) rfl ?_
    show Steps p.tables e below (T6.setTop (mkF m 70 #[.val (.ref a9), .val (.long q1), .second, .val (.int (0 : Int32)), .val (.int (0 : Int32))] [(.int (0 : Int32))])) _
    refine XS.aloadN X6.here hx rfl (hb hby d5_70) rfl rfl ?_
    show Steps p.tables e below (T6.setTop (mkF m 71 #[.val (.ref a9), .val (.long q1), .second, .val (.int (0 : Int32)), .val (.int (0 : Int32))] [(.ref a9), (.int (0 : Int32))])) _
    refine st8 _ ?_
    show Steps p.tables e below (T8.setTop (mkF m 74 #[.val (.ref a9), .val (.long q1), .second, .val (.int (0 : Int32)), .val (.int (0 : Int32))] [(.ref A), (.int (0 : Int32))])) _
    refine XS.iloadN X8.here hx rfl (hb hby d5_74) rfl ?_
    show Steps p.tables e below (T8.setTop (mkF m 75 #[.val (.ref a9), .val (.long q1), .second, .val (.int (0 : Int32)), .val (.int (0 : Int32))] [(.int (0 : Int32)), (.ref A), (.int (0 : Int32))])) _
    refine X8.aaload hx (j := (0 : Int32)) (v := (.ref B)) (by rw [e8]; exact Ar9.1) (State.isArrayOf_alike hZ.alike Ar9.2.1) rfl Ar9.2.2 hin9 hat9 (g := (mkF m 75 #[.val (.ref a9), .val (.long q1), .second, .val (.int (0 : Int32)), .val (.int (0 : Int32))] [(.int (0 : Int32)), (.ref A), (.int (0 : Int32))])) rfl rfl (hb hby d5_75) _ ?_
    show Steps p.tables e below (T8.setTop (mkF m 76 #[.val (.ref a9), .val (.long q1), .second, .val (.int (0 : Int32)), .val (.int (0 : Int32))] [(.ref B), (.int (0 : Int32))])) _
    refine X8.arraylength hx (by rw [e8]; exact Ar10.1) (State.isArrayOf_alike hZ.alike Ar10.2.1) (g := (mkF m 76 #[.val (.ref a9), .val (.long q1), .second, .val (.int (0 : Int32)), .val (.int (0 : Int32))] [(.ref B), (.int (0 : Int32))])) rfl rfl (hb hby d5_76) _ ?_
    rw [len_of S10 N10_]
    show Steps p.tables e below (T8.setTop (mkF m 77 #[.val (.ref a9), .val (.long q1), .second, .val (.int (0 : Int32)), .val (.int (0 : Int32))] [(.int n), (.int (0 : Int32))])) _
    refine XS.icmpYes X8.here hx rfl (pc0 := 77) (pc' := 105) rfl (hb hby d5_77) rfl (feq hne).2 (by decide) (by decide) ?_
    show Steps p.tables e below (T8.setTop (mkF m 105 #[.val (.ref a9), .val (.long q1), .second, .val (.int (0 : Int32)), .val (.int (0 : Int32))] [])) _
    refine XS.aloadN X8.here hx rfl (hb hby d5_105) rfl rfl ?_
    show Steps p.tables e below (T8.setTop (mkF m 106 #[.val (.ref a9), .val (.long q1), .second, .val (.int (0 : Int32)), .val (.int (0 : Int32))] [(.ref a9)])) _
    refine st11 _ ?_
    show Steps p.tables e below (T11.setTop (mkF m 109 #[.val (.ref a9), .val (.long q1), .second, .val (.int (0 : Int32)), .val (.int (0 : Int32))] [(.ref A)])) _
    refine XS.iloadN X11.here hx rfl (hb hby d5_109) rfl ?_
    show Steps p.tables e below (T11.setTop (mkF m 110 #[.val (.ref a9), .val (.long q1), .second, .val (.int (0 : Int32)), .val (.int (0 : Int32))] [(.int (0 : Int32)), (.ref A)])) _
    refine X11.aaload hx (j := (0 : Int32)) (v := (.ref B)) (by rw [e11]; exact Ar12.1) (State.isArrayOf_alike hZ.alike Ar12.2.1) rfl Ar12.2.2 hin12 hat12 (g := (mkF m 110 #[.val (.ref a9), .val (.long q1), .second, .val (.int (0 : Int32)), .val (.int (0 : Int32))] [(.int (0 : Int32)), (.ref A)])) rfl rfl (hb hby d5_110) _ ?_
    show Steps p.tables e below (T11.setTop (mkF m 111 #[.val (.ref a9), .val (.long q1), .second, .val (.int (0 : Int32)), .val (.int (0 : Int32))] [(.ref B)])) _
    refine XS.iload X11.here hx rfl (hb hby d5_111) rfl ?_
    show Steps p.tables e below (T11.setTop (mkF m 113 #[.val (.ref a9), .val (.long q1), .second, .val (.int (0 : Int32)), .val (.int (0 : Int32))] [(.int (0 : Int32)), (.ref B)])) _
    refine XS.lloadN X11.here hx rfl (hb hby d5_113) rfl ?_
    show Steps p.tables e below (T11.setTop (mkF m 114 #[.val (.ref a9), .val (.long q1), .second, .val (.int (0 : Int32)), .val (.int (0 : Int32))] [(.long q1), (.int (0 : Int32)), (.ref B)])) _
    refine st13 _ ?_
    show Steps p.tables e below (T13.setTop (mkF m 115 #[.val (.ref a9), .val (.long q1), .second, .val (.int (0 : Int32)), .val (.int (0 : Int32))] [])) _
    refine XS.aloadN X13.here hx rfl (hb hby d5_115) rfl rfl ?_
    show Steps p.tables e below (T13.setTop (mkF m 116 #[.val (.ref a9), .val (.long q1), .second, .val (.int (0 : Int32)), .val (.int (0 : Int32))] [(.ref a9)])) _
    refine XS.dup X13.here hx rfl (hb hby d5_116) rfl rfl ?_
    show Steps p.tables e below (T13.setTop (mkF m 117 #[.val (.ref a9), .val (.long q1), .second, .val (.int (0 : Int32)), .val (.int (0 : Int32))] [(.ref a9), (.ref a9)])) _
    refine st14 _ ?_
    show Steps p.tables e below (T14.setTop (mkF m 120 #[.val (.ref a9), .val (.long q1), .second, .val (.int (0 : Int32)), .val (.int (0 : Int32))] [(.int (0 : Int32)), (.ref a9)])) _
    refine XS.iconst X14.here hx rfl (hb hby d5_120) ?_
    show Steps p.tables e below (T14.setTop (mkF m 121 #[.val (.ref a9), .val (.long q1), .second, .val (.int (0 : Int32)), .val (.int (0 : Int32))] [(.int (1 : Int32)), (.int (0 : Int32)), (.ref a9)])) _
    refine XS.iadd X14.here hx rfl (hb hby d5_121) rfl ?_
    show Steps p.tables e below (T14.setTop (mkF m 122 #[.val (.ref a9), .val (.long q1), .second, .val (.int (0 : Int32)), .val (.int (0 : Int32))] [(.int (1 : Int32)), (.ref a9)])) _
    refine st15 _ ?_
    show Steps p.tables e below (T15.setTop (mkF m 125 #[.val (.ref a9), .val (.long q1), .second, .val (.int (0 : Int32)), .val (.int (0 : Int32))] [])) _
    exact X15.returnOut hx Bd.returns (hb hby d5_125) hr
  · show Q_rmAdd0 n0 Z a9 q1 A kA B kB n h0 _ T15.heap _
    rw [e15]
    exact ⟨B, kB, n, rfl, N15, K15, g_B, ((E_a9.wr W13).wr W15), ((F_blocks_a9.other W13 (Or.inl (Exa.ne E_a9 E_B (by decide)))).other W15 (Or.inr (slot_ne (a0 := a0) (Or.inl (Wd hw 12 rfl)) (Or.inl (Wd hw 28 rfl)) (by decide) (t := (.array (.array .long))) (t' := .int) (by decide) (by decide)))), Fw15, ((E_B.wr W13).wr W15), ((V_A.other W13 (own_neArv V_A V_B (by decide))).other W15 (Ne.symm (Exa.neArv (a0 := a0) E_a9 V_A (Wd hw 1 rfl)))), (V13.other W15 (Exa.ne E_B E_a9 (by decide))), hlt⟩
theorem d5_80 : decode prog_38_method_3_code 80 = .ok (.aload_n 0, 1) := by decide +kernel
theorem d5_81 : decode prog_38_method_3_code 81 = .ok (.getfield 9, 3) := by decide +kernel
theorem d5_84 : decode prog_38_method_3_code 84 = .ok (.iload_n 3, 1) := by decide +kernel
theorem d5_85 : decode prog_38_method_3_code 85 = .ok (.aload_n 0, 1) := by decide +kernel
theorem d5_86 : decode prog_38_method_3_code 86 = .ok (.getfield 9, 3) := by decide +kernel
theorem d5_89 : decode prog_38_method_3_code 89 = .ok (.iload_n 3, 1) := by decide +kernel
theorem d5_90 : decode prog_38_method_3_code 90 = .ok (.aaload, 1) := by decide +kernel
theorem d5_91 : decode prog_38_method_3_code 91 = .ok (.iconst 2, 1) := by decide +kernel
theorem d5_92 : decode prog_38_method_3_code 92 = .ok (.iload 4, 2) := by decide +kernel
theorem d5_94 : decode prog_38_method_3_code 94 = .ok (.imul, 1) := by decide +kernel
theorem d5_95 : decode prog_38_method_3_code 95 = .ok (.sipush 8192, 3) := by decide +kernel
theorem d5_98 : decode prog_38_method_3_code 98 = .ok (.invokestatic 15, 3) := by decide +kernel
theorem d5_101 : decode prog_38_method_3_code 101 = .ok (.invokestatic 38, 3) := by decide +kernel
theorem pdv1 : parseMethodDescriptor "([JI)[J" = some ⟨[(.array .long), .int], some (.array .long)⟩ := by decide +kernel
theorem d5_104 : decode prog_38_method_3_code 104 = .ok (.aastore, 1) := by decide +kernel
def Q_rmAdd1 (n0 : Nat) (Z : State) (a9 : Addr) (q1 : Int64) (A : Addr) (kA : ClassId) (B : Addr) (kB : ClassId) (n : Int32) (v0 : Int64) (h0 : Heap) (v : Option Value) (h : Heap) (L : List Loc) : Prop := ∃ Bn : Addr, ∃ kBn : ClassId, ∃ nn : Int32, v = none ∧ Fr n0 L ∧ Keep h0 h [a9, A, B] ∧ (n0 ≤ Bn) ∧ (Exa Z h a9 "com/example/inchworm/inchworm/KeyBlocks") ∧ (Fld Z h a9 "com/example/inchworm/inchworm/KeyBlocks" "blocks" "[[J" (.ref A)) ∧ (Fld Z h a9 "com/example/inchworm/inchworm/KeyBlocks" "size" "I" (.int (2 : Int32))) ∧ (Exa Z h Bn "[J") ∧ (Arv Z h A kA (.array .long) (1 : Int32) [(.ref Bn)] .null) ∧ (Arv Z h Bn kBn .long nn [(.long v0), (.long q1), (.long (0 : Int64)), (.long (0 : Int64))] (.long (0 : Int64))) ∧ ((1 : Int32) < nn)
set_option maxRecDepth 65536 in
set_option maxHeartbeats 40000000 in
theorem rmAdd1 (l : Launch) (Z : State) (a0 : Array Value) (hw : ∀ d ∈ tables_1, d.before a0 Z = true) (ws : List Jvm.Cond) (a9 : Addr) (q1 : Int64) (A : Addr) (kA : ClassId) (B : Addr) (kB : ClassId) (n : Int32) (v0 : Int64) (h0 : Heap) (n0 : Nat) (O0 : Old Z n0 h0) (GL : GF Z) (E_a9 : Exa Z h0 a9 "com/example/inchworm/inchworm/KeyBlocks") (F_blocks_a9 : Fld Z h0 a9 "com/example/inchworm/inchworm/KeyBlocks" "blocks" "[[J" (.ref A)) (F_size_a9 : Fld Z h0 a9 "com/example/inchworm/inchworm/KeyBlocks" "size" "I" (.int (1 : Int32))) (V_A : Arv Z h0 A kA (.array .long) (1 : Int32) [(.ref B)] .null) (E_B : Exa Z h0 B "[J") (V_B : Arv Z h0 B kB .long n [(.long v0), (.long (0 : Int64)), (.long (0 : Int64)), (.long (0 : Int64))] (.long (0 : Int64))) (hov : OvrA Z kA .long "[J") (hlt : (0 : Int32) < n) (g_a9 : n0 ≤ a9) (g_A : n0 ≤ A) (g_B : n0 ≤ B) :
    MetFree l MN_4 (head1 (Jvm.Cond.code MN_4 prog_38_method_3_code 5 none :: ws) ({ frames := 2, cells := 1, slots := 2, locals := 34 } : Room)) (fun a U => a = #[(.ref a9), (.long q1)] ∧ Z.Warmed39 U.vm ∧ U.heap = h0) (fun _ _ _ _ _ => True) (fun _ U o U' => ∃ v L, o = .returned v ∧ Q_rmAdd1 n0 Z a9 q1 A kA B kB n v0 h0 v U'.heap L ∧ FrameEnd U o U' L ({ frames := 2, cells := 1, slots := 2, locals := 34 } : Room).cells ({ frames := 2, cells := 1, slots := 2, locals := 34 } : Room).slots) := by
  refine MetFree.of_bodySF (plainFor_of_name pn) hisR ?_
  intro p e s m args below meth c s₁ Bd hml0 hP hK
  obtain ⟨rfl, hZ, hh⟩ := hP
  have hx := Bd.exec
  have hby := Bd.bytes
  have hml : c.maxLocals = 5 := hml0
  have hown : s.vm.findClass "com/example/inchworm/inchworm/KeyBlocks" = some m.cls := findClass_of_methodNamed Bd.named
  have hnm := (name_of_methodNamed Bd.named Bd.method).1
  have X0 : Stand p l e ({ frames := 2, cells := 1, slots := 2, locals := 34 } : Room) s m #[(.ref a9), (.long q1)] below meth c s₁ [] 0 0 := Stand.of_body Bd
  have e0 : s₁.heap = h0 := by rw [← hh, Bd.state]; rfl
  have N0 := Fr.nil n0
  have pre0 : ∀ t, Steps p.tables e below (s₁.setTop (mkF m 0 #[.val (.ref a9), .val (.long q1), .second, .unset, .unset] [])) t → Steps p.tables e below (s₁.setTop (entryFrame m #[(.ref a9), (.long q1)] 5)) t := fun t k => castTop (ef_rmAdd0 m a9 q1) k
  have GSB := GL
  obtain ⟨T1, X1, e1, st1⟩ := getF X0 hx hZ hown (host := "") (Or.inl (Wd hw 27 rfl)) Via.refl e0 F_size_a9 (g := (mkF m 1 #[.val (.ref a9), .val (.long q1), .second, .unset, .unset] [(.ref a9)])) rfl rfl (hb hby d5_1)
  obtain ⟨T2, X2, e2, st2⟩ := getS2 X1 hx hZ hown (host := "") (Or.inl (Wd hw 29 rfl)) Via.refl e1 (GSB.ext O0.2) (g := (mkF m 4 #[.val (.ref a9), .val (.long q1), .second, .unset, .unset] [(.int (1 : Int32))])) rfl (hb hby d5_4)
  obtain ⟨T3, X3, e3, st3⟩ := getF X2 hx hZ hown (host := "") (Or.inl (Wd hw 27 rfl)) Via.refl e2 F_size_a9 (g := (mkF m 10 #[.val (.ref a9), .val (.long q1), .second, .val (.int (0 : Int32)), .unset] [(.ref a9)])) rfl rfl (hb hby d5_10)
  obtain ⟨T4, X4, e4, st4⟩ := getF X3 hx hZ hown (host := "") (Or.inl (Wd hw 11 rfl)) Via.refl e3 F_blocks_a9 (g := (mkF m 21 #[.val (.ref a9), .val (.long q1), .second, .val (.int (0 : Int32)), .val (.int (1 : Int32))] [(.ref a9), (.int (0 : Int32))])) rfl rfl (hb hby d5_21)
  obtain ⟨cl5, Ar5, -, S5, N5_, -, -⟩ := id (V_A)
  obtain ⟨T6, X6, e6, st6⟩ := getF X4 hx hZ hown (host := "") (Or.inl (Wd hw 11 rfl)) Via.refl e4 F_blocks_a9 (g := (mkF m 46 #[.val (.ref a9), .val (.long q1), .second, .val (.int (0 : Int32)), .val (.int (1 : Int32))] [(.ref a9)])) rfl rfl (hb hby d5_46)
  obtain ⟨cl7, Ar7, -, S7, N7_, H7, G7⟩ := id (V_A)
  have hin7 : ¬ ((0 : Int32) < 0 ∨ cl7.slots.size ≤ ((0 : Int32)).toNatClampNeg) := inb_of S7 ⟨(by decide), (by decide)⟩
  have hat7 : cl7.slots[((0 : Int32)).toNatClampNeg]? = some (.ref B) := H7.at hin7 rfl
  obtain ⟨T8, X8, e8, st8⟩ := getF X6 hx hZ hown (host := "") (Or.inl (Wd hw 11 rfl)) Via.refl e6 F_blocks_a9 (g := (mkF m 71 #[.val (.ref a9), .val (.long q1), .second, .val (.int (0 : Int32)), .val (.int (1 : Int32))] [(.ref a9), (.int (1 : Int32))])) rfl rfl (hb hby d5_71)
  obtain ⟨cl9, Ar9, -, S9, N9_, H9, G9⟩ := id (V_A)
  have hin9 : ¬ ((0 : Int32) < 0 ∨ cl9.slots.size ≤ ((0 : Int32)).toNatClampNeg) := inb_of S9 ⟨(by decide), (by decide)⟩
  have hat9 : cl9.slots[((0 : Int32)).toNatClampNeg]? = some (.ref B) := H9.at hin9 rfl
  obtain ⟨cl10, Ar10, -, S10, N10_, -, -⟩ := id (V_B)
  have pre11 : ∀ t, Steps p.tables e below (T8.setTop (mkF m 77 #[.val (.ref a9), .val (.long q1), .second, .val (.int (0 : Int32)), .val (.int (1 : Int32))] [(.int n), (.int (1 : Int32))])) t → Steps p.tables e below (s₁.setTop (entryFrame m #[(.ref a9), (.long q1)] 5)) t := fun t kt => by
    refine pre0 t ?_
    show Steps p.tables e below (s₁.setTop (mkF m 0 #[.val (.ref a9), .val (.long q1), .second, .unset, .unset] [])) _
    refine XS.aloadN X0.here hx rfl (hb hby d5_0) rfl rfl ?_
    show Steps p.tables e below (s₁.setTop (mkF m 1 #[.val (.ref a9), .val (.long q1), .second, .unset, .unset] [(.ref a9)])) _
    refine st1 _ ?_
    show Steps p.tables e below (T1.setTop (mkF m 4 #[.val (.ref a9), .val (.long q1), .second, .unset, .unset] [(.int (1 : Int32))])) _
    refine st2 _ ?_
    show Steps p.tables e below (T2.setTop (mkF m 7 #[.val (.ref a9), .val (.long q1), .second, .unset, .unset] [(.int (13 : Int32)), (.int (1 : Int32))])) _
    refine XS.iushr X2.here hx rfl (hb hby d5_7) rfl ?_
    show Steps p.tables e below (T2.setTop (mkF m 8 #[.val (.ref a9), .val (.long q1), .second, .unset, .unset] [(.int (0 : Int32))])) _
    refine XS.istoreN X2.here hx rfl (hb hby d5_8) rfl (l' := #[.val (.ref a9), .val (.long q1), .second, .val (.int (0 : Int32)), .unset]) rfl ?_
    show Steps p.tables e below (T2.setTop (mkF m 9 #[.val (.ref a9), .val (.long q1), .second, .val (.int (0 : Int32)), .unset] [])) _
    refine XS.aloadN X2.here hx rfl (hb hby d5_9) rfl rfl ?_
    show Steps p.tables e below (T2.setTop (mkF m 10 #[.val (.ref a9), .val (.long q1), .second, .val (.int (0 : Int32)), .unset] [(.ref a9)])) _
    refine st3 _ ?_
    show Steps p.tables e below (T3.setTop (mkF m 13 #[.val (.ref a9), .val (.long q1), .second, .val (.int (0 : Int32)), .unset] [(.int (1 : Int32))])) _
    refine XS.sipush X3.here hx rfl (hb hby d5_13) ?_
    show Steps p.tables e below (T3.setTop (mkF m 16 #[.val (.ref a9), .val (.long q1), .second, .val (.int (0 : Int32)), .unset] [(.int (8191 : Int32)), (.int (1 : Int32))])) _
    refine XS.iand X3.here hx rfl (hb hby d5_16) rfl ?_
    show Steps p.tables e below (T3.setTop (mkF m 17 #[.val (.ref a9), .val (.long q1), .second, .val (.int (0 : Int32)), .unset] [(.int (1 : Int32))])) _
    refine XS.istore X3.here hx rfl (hb hby d5_17) rfl (l' := #[.val (.ref a9), .val (.long q1), .second, .val (.int (0 : Int32)), .val (.int (1 : Int32))]) rfl ?_
    show Steps p.tables e below (T3.setTop (mkF m 19 #[.val (.ref a9), .val (.long q1), .second, .val (.int (0 : Int32)), .val (.int (1 : Int32))] [])) _
    refine XS.iloadN X3.here hx rfl (hb hby d5_19) rfl ?_
    show Steps p.tables e below (T3.setTop (mkF m 20 #[.val (.ref a9), .val (.long q1), .second, .val (.int (0 : Int32)), .val (.int (1 : Int32))] [(.int (0 : Int32))])) _
    refine XS.aloadN X3.here hx rfl (hb hby d5_20) rfl rfl ?_
    show Steps p.tables e below (T3.setTop (mkF m 21 #[.val (.ref a9), .val (.long q1), .second, .val (.int (0 : Int32)), .val (.int (1 : Int32))] [(.ref a9), (.int (0 : Int32))])) _
    refine st4 _ ?_
    show Steps p.tables e below (T4.setTop (mkF m 24 #[.val (.ref a9), .val (.long q1), .second, .val (.int (0 : Int32)), .val (.int (1 : Int32))] [(.ref A), (.int (0 : Int32))])) _
    refine X4.arraylength hx (by rw [e4]; exact Ar5.1) (State.isArrayOf_alike hZ.alike Ar5.2.1) (g := (mkF m 24 #[.val (.ref a9), .val (.long q1), .second, .val (.int (0 : Int32)), .val (.int (1 : Int32))] [(.ref A), (.int (0 : Int32))])) rfl rfl (hb hby d5_24) _ ?_
    rw [len_of S5 N5_]
    show Steps p.tables e below (T4.setTop (mkF m 25 #[.val (.ref a9), .val (.long q1), .second, .val (.int (0 : Int32)), .val (.int (1 : Int32))] [(.int (1 : Int32)), (.int (0 : Int32))])) _
    refine XS.icmpYes X4.here hx rfl (pc0 := 25) (pc' := 45) rfl (hb hby d5_25) rfl (feq (by decide : ¬ ((0 : Int32) = (1 : Int32)))).2 (by decide) (by decide) ?_
    show Steps p.tables e below (T4.setTop (mkF m 45 #[.val (.ref a9), .val (.long q1), .second, .val (.int (0 : Int32)), .val (.int (1 : Int32))] [])) _
    refine XS.aloadN X4.here hx rfl (hb hby d5_45) rfl rfl ?_
    show Steps p.tables e below (T4.setTop (mkF m 46 #[.val (.ref a9), .val (.long q1), .second, .val (.int (0 : Int32)), .val (.int (1 : Int32))] [(.ref a9)])) _
    refine st6 _ ?_
    show Steps p.tables e below (T6.setTop (mkF m 49 #[.val (.ref a9), .val (.long q1), .second, .val (.int (0 : Int32)), .val (.int (1 : Int32))] [(.ref A)])) _
    refine XS.iloadN X6.here hx rfl (hb hby d5_49) rfl ?_
    show Steps p.tables e below (T6.setTop (mkF m 50 #[.val (.ref a9), .val (.long q1), .second, .val (.int (0 : Int32)), .val (.int (1 : Int32))] [(.int (0 : Int32)), (.ref A)])) _
    refine X6.aaload hx (j := (0 : Int32)) (v := (.ref B)) (by rw [e6]; exact Ar7.1) (State.isArrayOf_alike hZ.alike Ar7.2.1) rfl Ar7.2.2 hin7 hat7 (g := (mkF m 50 #[.val (.ref a9), .val (.long q1), .second, .val (.int (0 : Int32)), .val (.int (1 : Int32))] [(.int (0 : Int32)), (.ref A)])) rfl rfl (hb hby d5_50) _ ?_
    show Steps p.tables e below (T6.setTop (mkF m 51 #[.val (.ref a9), .val (.long q1), .second, .val (.int (0 : Int32)), .val (.int (1 : Int32))] [(.ref B)])) _
    refine XS.ifnonnullYes X6.here hx rfl (pc0 := 51) (pc' := 68) rfl (hb hby d5_51) rfl (by decide) (by decide) ?_
    show Steps p.tables e below (T6.setTop (mkF m 68 #[.val (.ref a9), .val (.long q1), .second, .val (.int (0 : Int32)), .val (.int (1 : Int32))] [])) _
    refine XS.iload X6.here hx rfl (hb hby d5_68) rfl ?_
    show Steps p.tables e below (T6.setTop (mkF m 70 #[.val (.ref a9), .val (.long q1), .second, .val (.int (0 : Int32)), .val (.int (1 : Int32))] [(.int (1 : Int32))])) _
    refine XS.aloadN X6.here hx rfl (hb hby d5_70) rfl rfl ?_
    show Steps p.tables e below (T6.setTop (mkF m 71 #[.val (.ref a9), .val (.long q1), .second, .val (.int (0 : Int32)), .val (.int (1 : Int32))] [(.ref a9), (.int (1 : Int32))])) _
    refine st8 _ ?_
    show Steps p.tables e below (T8.setTop (mkF m 74 #[.val (.ref a9), .val (.long q1), .second, .val (.int (0 : Int32)), .val (.int (1 : Int32))] [(.ref A), (.int (1 : Int32))])) _
    refine XS.iloadN X8.here hx rfl (hb hby d5_74) rfl ?_
    show Steps p.tables e below (T8.setTop (mkF m 75 #[.val (.ref a9), .val (.long q1), .second, .val (.int (0 : Int32)), .val (.int (1 : Int32))] [(.int (0 : Int32)), (.ref A), (.int (1 : Int32))])) _
    refine X8.aaload hx (j := (0 : Int32)) (v := (.ref B)) (by rw [e8]; exact Ar9.1) (State.isArrayOf_alike hZ.alike Ar9.2.1) rfl Ar9.2.2 hin9 hat9 (g := (mkF m 75 #[.val (.ref a9), .val (.long q1), .second, .val (.int (0 : Int32)), .val (.int (1 : Int32))] [(.int (0 : Int32)), (.ref A), (.int (1 : Int32))])) rfl rfl (hb hby d5_75) _ ?_
    show Steps p.tables e below (T8.setTop (mkF m 76 #[.val (.ref a9), .val (.long q1), .second, .val (.int (0 : Int32)), .val (.int (1 : Int32))] [(.ref B), (.int (1 : Int32))])) _
    refine X8.arraylength hx (by rw [e8]; exact Ar10.1) (State.isArrayOf_alike hZ.alike Ar10.2.1) (g := (mkF m 76 #[.val (.ref a9), .val (.long q1), .second, .val (.int (0 : Int32)), .val (.int (1 : Int32))] [(.ref B), (.int (1 : Int32))])) rfl rfl (hb hby d5_76) _ ?_
    rw [len_of S10 N10_]
    exact kt
  by_cases hg : (1 : Int32) = n
  · obtain ⟨T12, X12, e12, st12⟩ := getF X8 hx hZ hown (host := "") (Or.inl (Wd hw 11 rfl)) Via.refl e8 F_blocks_a9 (g := (mkF m 81 #[.val (.ref a9), .val (.long q1), .second, .val (.int (0 : Int32)), .val (.int (1 : Int32))] [(.ref a9)])) rfl rfl (hb hby d5_81)
    obtain ⟨T13, X13, e13, st13⟩ := getF X12 hx hZ hown (host := "") (Or.inl (Wd hw 11 rfl)) Via.refl e12 F_blocks_a9 (g := (mkF m 86 #[.val (.ref a9), .val (.long q1), .second, .val (.int (0 : Int32)), .val (.int (1 : Int32))] [(.ref a9), (.int (0 : Int32)), (.ref A)])) rfl rfl (hb hby d5_86)
    obtain ⟨cl14, Ar14, -, S14, N14_, H14, G14⟩ := id (V_A)
    have hin14 : ¬ ((0 : Int32) < 0 ∨ cl14.slots.size ≤ ((0 : Int32)).toNatClampNeg) := inb_of S14 ⟨(by decide), (by decide)⟩
    have hat14 : cl14.slots[((0 : Int32)).toNatClampNeg]? = some (.ref B) := H14.at hin14 rfl
    obtain ⟨_, _, ⟨T15, L15, k15, n15⟩, -, X15, ⟨Lc15, hQ15, l15, y15, z15⟩, st15⟩ := Jvm.LawKit.callS X13 hx (y := MN_1) hown (mvT hZ (Wd hw 13 rfl)) (mvT hZ (Wd hw 14 rfl)) (mvT hZ (Wd hw 15 rfl)) (mvT hZ (Wd hw 16 rfl)) (by decide) (backOf (W := 3) (rmMin l Z a0 hw [] ((2 : Int32)) ((8192 : Int32)) (h0) n0 O0 GL) hZ (Wd hw 16 rfl) (Wd hw 15 rfl) (by decide) (by decide)) (g := (mkF m 98 #[.val (.ref a9), .val (.long q1), .second, .val (.int (0 : Int32)), .val (.int (1 : Int32))] [(.int (8192 : Int32)), (.int (2 : Int32)), (.ref B), (.int (0 : Int32)), (.ref A)])) rfl (by rw [hml]; rfl) (argsL := [(.int (2 : Int32)), (.int (8192 : Int32))]) (rest := [(.ref B), (.int (0 : Int32)), (.ref A)]) (lenOf pd rfl) rfl (by show 2 * 0 + _ ≤ _; exact Nat.le_of_eq rfl) (hb hby d5_98) (fun _ _ => ⟨rfl, e13, (by decide : 0 + 0 ≤ _), (by decide : 0 + 0 ≤ _)⟩)
    dsimp only [Pt.U, Pt.locs, Pt.cells, Pt.slots] at X15 l15 y15 z15 st15 hQ15
    subst l15 y15 z15
    obtain ⟨rfl, N15q, e15⟩ := hQ15
    have N15 := Fr.app N0 N15q
    have Vg := own_arvn hg.symm V_B
    obtain ⟨_, _, ⟨T16, L16, k16, n16⟩, -, X16, ⟨Lc16, hQ16, l16, y16, z16⟩, st16⟩ := Jvm.LawKit.callS X15 hx (y := MN_3) hown (mvT hZ (Wd hw 31 rfl)) (mvT hZ (Wd hw 32 rfl)) (mvT hZ (Wd hw 33 rfl)) (mvT hZ (Wd hw 34 rfl)) (by decide) (backOf (W := 2) (rmCp1 l Z a0 hw [] (B) (kB) (v0) ((0 : Int64)) ((0 : Int64)) ((0 : Int64)) (h0) n0 O0 GL Vg) hZ (Wd hw 34 rfl) (Wd hw 33 rfl) (by decide) (by decide)) (g := (mkF m 101 #[.val (.ref a9), .val (.long q1), .second, .val (.int (0 : Int32)), .val (.int (1 : Int32))] [(.int (2 : Int32)), (.ref B), (.int (0 : Int32)), (.ref A)])) rfl (by rw [hml]; rfl) (argsL := [(.ref B), (.int (2 : Int32))]) (rest := [(.int (0 : Int32)), (.ref A)]) (lenOf pdv1 rfl) rfl (by show 2 * 0 + _ ≤ _; exact Nat.le_of_eq rfl) (hb hby d5_101) (fun _ _ => ⟨rfl, e15, (by decide : 0 + 1 ≤ _), (by decide : 0 + 2 ≤ _)⟩)
    dsimp only [Pt.U, Pt.locs, Pt.cells, Pt.slots] at X16 l16 y16 z16 st16 hQ16
    subst l16 y16 z16
    obtain ⟨b_16, kb_16, rfl, N16q, Kc16, P16_0, P16_1, P16_2⟩ := hQ16
    have K16 : Keep h0 T16.heap [a9, A, B] := (Keep.refl h0 [a9, A, B]).trans Kc16 all0
    have O16 := O0.keep Kc16 all0
    have g_b_16 : n0 ≤ b_16 := Nat.le_trans (own_sz O0) P16_0
    have sz_b_16 : h0.size ≤ b_16 := Nat.le_trans (Keep.refl h0 [a9, A, B]).1 P16_0
    have N16 := Fr.app N15 N16q
    obtain ⟨cl17, Ar17, q17, S17, N17_, H17, G17⟩ := id ((V_A.keep Kc16 nin0))
    have hin17 : ¬ ((0 : Int32) < 0 ∨ cl17.slots.size ≤ ((0 : Int32)).toNatClampNeg) := inb_of S17 ⟨(by decide), (by decide)⟩
    obtain ⟨T17, h17, X17, e17, W17, st17⟩ := stR X16 hx hZ rfl Ar17 (j := (0 : Int32)) hin17 rfl (Sto.ofVA Ar17 q17 hov (Ins.self P16_1)) (g := (mkF m 104 #[.val (.ref a9), .val (.long q1), .second, .val (.int (0 : Int32)), .val (.int (1 : Int32))] [(.ref b_16), (.int (0 : Int32)), (.ref A)])) rfl rfl (hb hby d5_104)
    have K17 : Keep h0 h17 [a9, A, B] := K16.wr W17 (Or.inl (List.mem_of_getElem? (i := 1) rfl))
    have O17 := O16.wr W17 g_A
    have N17 := Fr.snoc X17 N16 g_A
    have V17 : Arv Z h17 A kA (.array .long) (1 : Int32) [(.ref b_16)] .null := Arv.set Ar17 q17 S17 N17_ H17 G17 rfl W17 0 rfl (Nat.le_of_ble_eq_true rfl)
    have Vp := (P16_2.other W17 (Ne.symm (Nat.ne_of_lt (Nat.lt_of_lt_of_le V_A.lt P16_0)))).pad (own_pad2 (.long v0) (.long (0 : Int64)))
    obtain ⟨T18, X18, e18, st18⟩ := getF X17 hx hZ hown (host := "") (Or.inl (Wd hw 11 rfl)) Via.refl e17 ((F_blocks_a9.keep Kc16 nin0).other W17 (Or.inl (Exa.neArv (a0 := a0) E_a9 V_A (Wd hw 1 rfl)))) (g := (mkF m 106 #[.val (.ref a9), .val (.long q1), .second, .val (.int (0 : Int32)), .val (.int (1 : Int32))] [(.ref a9)])) rfl rfl (hb hby d5_106)
    obtain ⟨cl19, Ar19, -, S19, N19_, H19, G19⟩ := id (V17)
    have hin19 : ¬ ((0 : Int32) < 0 ∨ cl19.slots.size ≤ ((0 : Int32)).toNatClampNeg) := inb_of S19 ⟨(by decide), (by decide)⟩
    have hat19 : cl19.slots[((0 : Int32)).toNatClampNeg]? = some (.ref b_16) := H19.at hin19 rfl
    obtain ⟨cl20, Ar20, q20, S20, N20_, H20, G20⟩ := id (Vp)
    have hin20 : ¬ ((1 : Int32) < 0 ∨ cl20.slots.size ≤ ((1 : Int32)).toNatClampNeg) := inb_of S20 ⟨(by decide), (by decide)⟩
    obtain ⟨T20, h20, X20, e20, W20, st20⟩ := stJ X18 hx hZ e18 Ar20 (j := (1 : Int32)) hin20 (g := (mkF m 114 #[.val (.ref a9), .val (.long q1), .second, .val (.int (0 : Int32)), .val (.int (1 : Int32))] [(.long q1), (.int (1 : Int32)), (.ref b_16)])) rfl rfl (hb hby d5_114)
    have K20 : Keep h0 h20 [a9, A, B] := K17.wr W20 (Or.inr sz_b_16)
    have O20 := O17.wr W20 g_b_16
    have N20 := Fr.snoc X20 N17 g_b_16
    have V20 : Arv Z h20 b_16 kb_16 .long (2 : Int32) [(.long v0), (.long q1), (.long (0 : Int64)), (.long (0 : Int64))] (.long (0 : Int64)) := Arv.set Ar20 q20 S20 N20_ H20 G20 rfl W20 1 rfl (Nat.le_of_ble_eq_true rfl)
    obtain ⟨T21, X21, e21, st21⟩ := getF X20 hx hZ hown (host := "") (Or.inl (Wd hw 27 rfl)) Via.refl e20 (((F_size_a9.keep Kc16 nin0).other W17 (Or.inl (Exa.neArv (a0 := a0) E_a9 V_A (Wd hw 1 rfl)))).other W20 (Or.inl (Nat.ne_of_lt (Nat.lt_of_lt_of_le E_a9.lt P16_0)))) (g := (mkF m 117 #[.val (.ref a9), .val (.long q1), .second, .val (.int (0 : Int32)), .val (.int (1 : Int32))] [(.ref a9), (.ref a9)])) rfl rfl (hb hby d5_117)
    obtain ⟨T22, h22, X22, e22, W22, st22⟩ := putF X21 hx hZ hown (host := "") (Or.inl (Wd hw 27 rfl)) Via.refl e21 (((F_size_a9.keep Kc16 nin0).other W17 (Or.inl (Exa.neArv (a0 := a0) E_a9 V_A (Wd hw 1 rfl)))).other W20 (Or.inl (Nat.ne_of_lt (Nat.lt_of_lt_of_le E_a9.lt P16_0)))) (((E_a9.keep Kc16).wr W17).wr W20) (Or.inl (Wd hw 28 rfl)) (Wd hw 1 rfl) (ty := .int) (by decide) rfl rfl (g := (mkF m 122 #[.val (.ref a9), .val (.long q1), .second, .val (.int (0 : Int32)), .val (.int (1 : Int32))] [(.int (2 : Int32)), (.ref a9)])) rfl rfl (hb hby d5_122)
    have Fw22 := (((F_size_a9.keep Kc16 nin0).other W17 (Or.inl (Exa.neArv (a0 := a0) E_a9 V_A (Wd hw 1 rfl)))).other W20 (Or.inl (Nat.ne_of_lt (Nat.lt_of_lt_of_le E_a9.lt P16_0)))).same W22
    have K22 : Keep h0 h22 [a9, A, B] := K20.wr W22 (Or.inl (List.mem_of_getElem? (i := 0) rfl))
    have O22 := O20.wr W22 g_a9
    have N22 := Fr.snoc X22 N20 g_a9
    obtain ⟨fs, hr, hrun, hended, hW, hsame⟩ := X22.leave (v := none) (fun _ => rfl)
    refine ⟨_, _, pre11 _ ?_, hrun, hended, _, _, rfl, ?_, ⟨_, rfl⟩, hW, hsame.mono (by decide) (by decide)⟩
    · show Steps p.tables e below (T8.setTop (mkF m 77 #[.val (.ref a9), .val (.long q1), .second, .val (.int (0 : Int32)), .val (.int (1 : Int32))] [(.int n), (.int (1 : Int32))])) _
      refine XS.icmpNo X8.here hx rfl (hb hby d5_77) rfl (teq hg).2 ?_
      show Steps p.tables e below (T8.setTop (mkF m 80 #[.val (.ref a9), .val (.long q1), .second, .val (.int (0 : Int32)), .val (.int (1 : Int32))] [])) _
      refine XS.aloadN X8.here hx rfl (hb hby d5_80) rfl rfl ?_
      show Steps p.tables e below (T8.setTop (mkF m 81 #[.val (.ref a9), .val (.long q1), .second, .val (.int (0 : Int32)), .val (.int (1 : Int32))] [(.ref a9)])) _
      refine st12 _ ?_
      show Steps p.tables e below (T12.setTop (mkF m 84 #[.val (.ref a9), .val (.long q1), .second, .val (.int (0 : Int32)), .val (.int (1 : Int32))] [(.ref A)])) _
      refine XS.iloadN X12.here hx rfl (hb hby d5_84) rfl ?_
      show Steps p.tables e below (T12.setTop (mkF m 85 #[.val (.ref a9), .val (.long q1), .second, .val (.int (0 : Int32)), .val (.int (1 : Int32))] [(.int (0 : Int32)), (.ref A)])) _
      refine XS.aloadN X12.here hx rfl (hb hby d5_85) rfl rfl ?_
      show Steps p.tables e below (T12.setTop (mkF m 86 #[.val (.ref a9), .val (.long q1), .second, .val (.int (0 : Int32)), .val (.int (1 : Int32))] [(.ref a9), (.int (0 : Int32)), (.ref A)])) _
      refine st13 _ ?_
      show Steps p.tables e below (T13.setTop (mkF m 89 #[.val (.ref a9), .val (.long q1), .second, .val (.int (0 : Int32)), .val (.int (1 : Int32))] [(.ref A), (.int (0 : Int32)), (.ref A)])) _
      refine XS.iloadN X13.here hx rfl (hb hby d5_89) rfl ?_
      show Steps p.tables e below (T13.setTop (mkF m 90 #[.val (.ref a9), .val (.long q1), .second, .val (.int (0 : Int32)), .val (.int (1 : Int32))] [(.int (0 : Int32)), (.ref A), (.int (0 : Int32)), (.ref A)])) _
      refine X13.aaload hx (j := (0 : Int32)) (v := (.ref B)) (by rw [e13]; exact Ar14.1) (State.isArrayOf_alike hZ.alike Ar14.2.1) rfl Ar14.2.2 hin14 hat14 (g := (mkF m 90 #[.val (.ref a9), .val (.long q1), .second, .val (.int (0 : Int32)), .val (.int (1 : Int32))] [(.int (0 : Int32)), (.ref A), (.int (0 : Int32)), (.ref A)])) rfl rfl (hb hby d5_90) _ ?_
      show Steps p.tables e below (T13.setTop (mkF m 91 #[.val (.ref a9), .val (.long q1), .second, .val (.int (0 : Int32)), .val (.int (1 : Int32))] [(.ref B), (.int (0 : Int32)), (.ref A)])) _
      refine XS.iconst X13.here hx rfl (hb hby d5_91) ?_
      show Steps p.tables e below (T13.setTop (mkF m 92 #[.val (.ref a9), .val (.long q1), .second, .val (.int (0 : Int32)), .val (.int (1 : Int32))] [(.int (2 : Int32)), (.ref B), (.int (0 : Int32)), (.ref A)])) _
      refine XS.iload X13.here hx rfl (hb hby d5_92) rfl ?_
      show Steps p.tables e below (T13.setTop (mkF m 94 #[.val (.ref a9), .val (.long q1), .second, .val (.int (0 : Int32)), .val (.int (1 : Int32))] [(.int (1 : Int32)), (.int (2 : Int32)), (.ref B), (.int (0 : Int32)), (.ref A)])) _
      refine XS.imul X13.here hx rfl (hb hby d5_94) rfl ?_
      show Steps p.tables e below (T13.setTop (mkF m 95 #[.val (.ref a9), .val (.long q1), .second, .val (.int (0 : Int32)), .val (.int (1 : Int32))] [(.int (2 : Int32)), (.ref B), (.int (0 : Int32)), (.ref A)])) _
      refine XS.sipush X13.here hx rfl (hb hby d5_95) ?_
      show Steps p.tables e below (T13.setTop (mkF m 98 #[.val (.ref a9), .val (.long q1), .second, .val (.int (0 : Int32)), .val (.int (1 : Int32))] [(.int (8192 : Int32)), (.int (2 : Int32)), (.ref B), (.int (0 : Int32)), (.ref A)])) _
      refine st15 _ ?_
      show Steps p.tables e below (T15.setTop (mkF m 101 #[.val (.ref a9), .val (.long q1), .second, .val (.int (0 : Int32)), .val (.int (1 : Int32))] [(.int (own_minI (2 : Int32) (8192 : Int32))), (.ref B), (.int (0 : Int32)), (.ref A)])) _
      show Steps p.tables e below (T15.setTop (mkF m 101 #[.val (.ref a9), .val (.long q1), .second, .val (.int (0 : Int32)), .val (.int (1 : Int32))] [(.int (2 : Int32)), (.ref B), (.int (0 : Int32)), (.ref A)])) _
      refine st16 _ ?_
      show Steps p.tables e below (T16.setTop (mkF m 104 #[.val (.ref a9), .val (.long q1), .second, .val (.int (0 : Int32)), .val (.int (1 : Int32))] [(.ref b_16), (.int (0 : Int32)), (.ref A)])) _
      refine st17 _ ?_
      show Steps p.tables e below (T17.setTop (mkF m 105 #[.val (.ref a9), .val (.long q1), .second, .val (.int (0 : Int32)), .val (.int (1 : Int32))] [])) _
      refine XS.aloadN X17.here hx rfl (hb hby d5_105) rfl rfl ?_
      show Steps p.tables e below (T17.setTop (mkF m 106 #[.val (.ref a9), .val (.long q1), .second, .val (.int (0 : Int32)), .val (.int (1 : Int32))] [(.ref a9)])) _
      refine st18 _ ?_
      show Steps p.tables e below (T18.setTop (mkF m 109 #[.val (.ref a9), .val (.long q1), .second, .val (.int (0 : Int32)), .val (.int (1 : Int32))] [(.ref A)])) _
      refine XS.iloadN X18.here hx rfl (hb hby d5_109) rfl ?_
      show Steps p.tables e below (T18.setTop (mkF m 110 #[.val (.ref a9), .val (.long q1), .second, .val (.int (0 : Int32)), .val (.int (1 : Int32))] [(.int (0 : Int32)), (.ref A)])) _
      refine X18.aaload hx (j := (0 : Int32)) (v := (.ref b_16)) (by rw [e18]; exact Ar19.1) (State.isArrayOf_alike hZ.alike Ar19.2.1) rfl Ar19.2.2 hin19 hat19 (g := (mkF m 110 #[.val (.ref a9), .val (.long q1), .second, .val (.int (0 : Int32)), .val (.int (1 : Int32))] [(.int (0 : Int32)), (.ref A)])) rfl rfl (hb hby d5_110) _ ?_
      show Steps p.tables e below (T18.setTop (mkF m 111 #[.val (.ref a9), .val (.long q1), .second, .val (.int (0 : Int32)), .val (.int (1 : Int32))] [(.ref b_16)])) _
      refine XS.iload X18.here hx rfl (hb hby d5_111) rfl ?_
      show Steps p.tables e below (T18.setTop (mkF m 113 #[.val (.ref a9), .val (.long q1), .second, .val (.int (0 : Int32)), .val (.int (1 : Int32))] [(.int (1 : Int32)), (.ref b_16)])) _
      refine XS.lloadN X18.here hx rfl (hb hby d5_113) rfl ?_
      show Steps p.tables e below (T18.setTop (mkF m 114 #[.val (.ref a9), .val (.long q1), .second, .val (.int (0 : Int32)), .val (.int (1 : Int32))] [(.long q1), (.int (1 : Int32)), (.ref b_16)])) _
      refine st20 _ ?_
      show Steps p.tables e below (T20.setTop (mkF m 115 #[.val (.ref a9), .val (.long q1), .second, .val (.int (0 : Int32)), .val (.int (1 : Int32))] [])) _
      refine XS.aloadN X20.here hx rfl (hb hby d5_115) rfl rfl ?_
      show Steps p.tables e below (T20.setTop (mkF m 116 #[.val (.ref a9), .val (.long q1), .second, .val (.int (0 : Int32)), .val (.int (1 : Int32))] [(.ref a9)])) _
      refine XS.dup X20.here hx rfl (hb hby d5_116) rfl rfl ?_
      show Steps p.tables e below (T20.setTop (mkF m 117 #[.val (.ref a9), .val (.long q1), .second, .val (.int (0 : Int32)), .val (.int (1 : Int32))] [(.ref a9), (.ref a9)])) _
      refine st21 _ ?_
      show Steps p.tables e below (T21.setTop (mkF m 120 #[.val (.ref a9), .val (.long q1), .second, .val (.int (0 : Int32)), .val (.int (1 : Int32))] [(.int (1 : Int32)), (.ref a9)])) _
      refine XS.iconst X21.here hx rfl (hb hby d5_120) ?_
      show Steps p.tables e below (T21.setTop (mkF m 121 #[.val (.ref a9), .val (.long q1), .second, .val (.int (0 : Int32)), .val (.int (1 : Int32))] [(.int (1 : Int32)), (.int (1 : Int32)), (.ref a9)])) _
      refine XS.iadd X21.here hx rfl (hb hby d5_121) rfl ?_
      show Steps p.tables e below (T21.setTop (mkF m 122 #[.val (.ref a9), .val (.long q1), .second, .val (.int (0 : Int32)), .val (.int (1 : Int32))] [(.int (2 : Int32)), (.ref a9)])) _
      refine st22 _ ?_
      show Steps p.tables e below (T22.setTop (mkF m 125 #[.val (.ref a9), .val (.long q1), .second, .val (.int (0 : Int32)), .val (.int (1 : Int32))] [])) _
      exact X22.returnOut hx Bd.returns (hb hby d5_125) hr
    · show Q_rmAdd1 n0 Z a9 q1 A kA B kB n v0 h0 _ T22.heap _
      rw [e22]
      exact ⟨b_16, kb_16, (2 : Int32), rfl, N22, K22, g_b_16, ((((E_a9.keep Kc16).wr W17).wr W20).wr W22), ((((F_blocks_a9.keep Kc16 nin0).other W17 (Or.inl (Exa.neArv (a0 := a0) E_a9 V_A (Wd hw 1 rfl)))).other W20 (Or.inl (Nat.ne_of_lt (Nat.lt_of_lt_of_le E_a9.lt P16_0)))).other W22 (Or.inr (slot_ne (a0 := a0) (Or.inl (Wd hw 12 rfl)) (Or.inl (Wd hw 28 rfl)) (by decide) (t := (.array (.array .long))) (t' := .int) (by decide) (by decide)))), Fw22, (((P16_1.wr W17).wr W20).wr W22), ((V17.other W20 (Nat.ne_of_lt (Nat.lt_of_lt_of_le V_A.lt P16_0))).other W22 (Ne.symm (Exa.neArv (a0 := a0) E_a9 V_A (Wd hw 1 rfl)))), (V20.other W22 (Ne.symm (Nat.ne_of_lt (Nat.lt_of_lt_of_le E_a9.lt P16_0)))), (by decide)⟩
  · have hin : (1 : Int32) < n := own_up (a := (0 : Int32)) rfl hlt hg
    obtain ⟨T23, X23, e23, st23⟩ := getF X8 hx hZ hown (host := "") (Or.inl (Wd hw 11 rfl)) Via.refl e8 F_blocks_a9 (g := (mkF m 106 #[.val (.ref a9), .val (.long q1), .second, .val (.int (0 : Int32)), .val (.int (1 : Int32))] [(.ref a9)])) rfl rfl (hb hby d5_106)
    obtain ⟨cl24, Ar24, -, S24, N24_, H24, G24⟩ := id (V_A)
    have hin24 : ¬ ((0 : Int32) < 0 ∨ cl24.slots.size ≤ ((0 : Int32)).toNatClampNeg) := inb_of S24 ⟨(by decide), (by decide)⟩
    have hat24 : cl24.slots[((0 : Int32)).toNatClampNeg]? = some (.ref B) := H24.at hin24 rfl
    obtain ⟨cl25, Ar25, q25, S25, N25_, H25, G25⟩ := id (V_B)
    have hin25 : ¬ ((1 : Int32) < 0 ∨ cl25.slots.size ≤ ((1 : Int32)).toNatClampNeg) := inb_of S25 ⟨(by decide), hin⟩
    obtain ⟨T25, h25, X25, e25, W25, st25⟩ := stJ X23 hx hZ e23 Ar25 (j := (1 : Int32)) hin25 (g := (mkF m 114 #[.val (.ref a9), .val (.long q1), .second, .val (.int (0 : Int32)), .val (.int (1 : Int32))] [(.long q1), (.int (1 : Int32)), (.ref B)])) rfl rfl (hb hby d5_114)
    have K25 : Keep h0 h25 [a9, A, B] := (Keep.refl h0 [a9, A, B]).wr W25 (Or.inl (List.mem_of_getElem? (i := 2) rfl))
    have O25 := O0.wr W25 g_B
    have N25 := Fr.snoc X25 N0 g_B
    have V25 : Arv Z h25 B kB .long n [(.long v0), (.long q1), (.long (0 : Int64)), (.long (0 : Int64))] (.long (0 : Int64)) := Arv.set Ar25 q25 S25 N25_ H25 G25 rfl W25 1 rfl (Nat.le_of_ble_eq_true rfl)
    obtain ⟨T26, X26, e26, st26⟩ := getF X25 hx hZ hown (host := "") (Or.inl (Wd hw 27 rfl)) Via.refl e25 (F_size_a9.other W25 (Or.inl (Exa.ne E_a9 E_B (by decide)))) (g := (mkF m 117 #[.val (.ref a9), .val (.long q1), .second, .val (.int (0 : Int32)), .val (.int (1 : Int32))] [(.ref a9), (.ref a9)])) rfl rfl (hb hby d5_117)
    obtain ⟨T27, h27, X27, e27, W27, st27⟩ := putF X26 hx hZ hown (host := "") (Or.inl (Wd hw 27 rfl)) Via.refl e26 (F_size_a9.other W25 (Or.inl (Exa.ne E_a9 E_B (by decide)))) (E_a9.wr W25) (Or.inl (Wd hw 28 rfl)) (Wd hw 1 rfl) (ty := .int) (by decide) rfl rfl (g := (mkF m 122 #[.val (.ref a9), .val (.long q1), .second, .val (.int (0 : Int32)), .val (.int (1 : Int32))] [(.int (2 : Int32)), (.ref a9)])) rfl rfl (hb hby d5_122)
    have Fw27 := (F_size_a9.other W25 (Or.inl (Exa.ne E_a9 E_B (by decide)))).same W27
    have K27 : Keep h0 h27 [a9, A, B] := K25.wr W27 (Or.inl (List.mem_of_getElem? (i := 0) rfl))
    have O27 := O25.wr W27 g_a9
    have N27 := Fr.snoc X27 N25 g_a9
    obtain ⟨fs, hr, hrun, hended, hW, hsame⟩ := X27.leave (v := none) (fun _ => rfl)
    refine ⟨_, _, pre11 _ ?_, hrun, hended, _, _, rfl, ?_, ⟨_, rfl⟩, hW, hsame.mono (by decide) (by decide)⟩
    · show Steps p.tables e below (T8.setTop (mkF m 77 #[.val (.ref a9), .val (.long q1), .second, .val (.int (0 : Int32)), .val (.int (1 : Int32))] [(.int n), (.int (1 : Int32))])) _
      refine XS.icmpYes X8.here hx rfl (pc0 := 77) (pc' := 105) rfl (hb hby d5_77) rfl (feq hg).2 (by decide) (by decide) ?_
      show Steps p.tables e below (T8.setTop (mkF m 105 #[.val (.ref a9), .val (.long q1), .second, .val (.int (0 : Int32)), .val (.int (1 : Int32))] [])) _
      refine XS.aloadN X8.here hx rfl (hb hby d5_105) rfl rfl ?_
      show Steps p.tables e below (T8.setTop (mkF m 106 #[.val (.ref a9), .val (.long q1), .second, .val (.int (0 : Int32)), .val (.int (1 : Int32))] [(.ref a9)])) _
      refine st23 _ ?_
      show Steps p.tables e below (T23.setTop (mkF m 109 #[.val (.ref a9), .val (.long q1), .second, .val (.int (0 : Int32)), .val (.int (1 : Int32))] [(.ref A)])) _
      refine XS.iloadN X23.here hx rfl (hb hby d5_109) rfl ?_
      show Steps p.tables e below (T23.setTop (mkF m 110 #[.val (.ref a9), .val (.long q1), .second, .val (.int (0 : Int32)), .val (.int (1 : Int32))] [(.int (0 : Int32)), (.ref A)])) _
      refine X23.aaload hx (j := (0 : Int32)) (v := (.ref B)) (by rw [e23]; exact Ar24.1) (State.isArrayOf_alike hZ.alike Ar24.2.1) rfl Ar24.2.2 hin24 hat24 (g := (mkF m 110 #[.val (.ref a9), .val (.long q1), .second, .val (.int (0 : Int32)), .val (.int (1 : Int32))] [(.int (0 : Int32)), (.ref A)])) rfl rfl (hb hby d5_110) _ ?_
      show Steps p.tables e below (T23.setTop (mkF m 111 #[.val (.ref a9), .val (.long q1), .second, .val (.int (0 : Int32)), .val (.int (1 : Int32))] [(.ref B)])) _
      refine XS.iload X23.here hx rfl (hb hby d5_111) rfl ?_
      show Steps p.tables e below (T23.setTop (mkF m 113 #[.val (.ref a9), .val (.long q1), .second, .val (.int (0 : Int32)), .val (.int (1 : Int32))] [(.int (1 : Int32)), (.ref B)])) _
      refine XS.lloadN X23.here hx rfl (hb hby d5_113) rfl ?_
      show Steps p.tables e below (T23.setTop (mkF m 114 #[.val (.ref a9), .val (.long q1), .second, .val (.int (0 : Int32)), .val (.int (1 : Int32))] [(.long q1), (.int (1 : Int32)), (.ref B)])) _
      refine st25 _ ?_
      show Steps p.tables e below (T25.setTop (mkF m 115 #[.val (.ref a9), .val (.long q1), .second, .val (.int (0 : Int32)), .val (.int (1 : Int32))] [])) _
      refine XS.aloadN X25.here hx rfl (hb hby d5_115) rfl rfl ?_
      show Steps p.tables e below (T25.setTop (mkF m 116 #[.val (.ref a9), .val (.long q1), .second, .val (.int (0 : Int32)), .val (.int (1 : Int32))] [(.ref a9)])) _
      refine XS.dup X25.here hx rfl (hb hby d5_116) rfl rfl ?_
      show Steps p.tables e below (T25.setTop (mkF m 117 #[.val (.ref a9), .val (.long q1), .second, .val (.int (0 : Int32)), .val (.int (1 : Int32))] [(.ref a9), (.ref a9)])) _
      refine st26 _ ?_
      show Steps p.tables e below (T26.setTop (mkF m 120 #[.val (.ref a9), .val (.long q1), .second, .val (.int (0 : Int32)), .val (.int (1 : Int32))] [(.int (1 : Int32)), (.ref a9)])) _
      refine XS.iconst X26.here hx rfl (hb hby d5_120) ?_
      show Steps p.tables e below (T26.setTop (mkF m 121 #[.val (.ref a9), .val (.long q1), .second, .val (.int (0 : Int32)), .val (.int (1 : Int32))] [(.int (1 : Int32)), (.int (1 : Int32)), (.ref a9)])) _
      refine XS.iadd X26.here hx rfl (hb hby d5_121) rfl ?_
      show Steps p.tables e below (T26.setTop (mkF m 122 #[.val (.ref a9), .val (.long q1), .second, .val (.int (0 : Int32)), .val (.int (1 : Int32))] [(.int (2 : Int32)), (.ref a9)])) _
      refine st27 _ ?_
      show Steps p.tables e below (T27.setTop (mkF m 125 #[.val (.ref a9), .val (.long q1), .second, .val (.int (0 : Int32)), .val (.int (1 : Int32))] [])) _
      exact X27.returnOut hx Bd.returns (hb hby d5_125) hr
    · show Q_rmAdd1 n0 Z a9 q1 A kA B kB n v0 h0 _ T27.heap _
      rw [e27]
      exact ⟨B, kB, n, rfl, N27, K27, g_B, ((E_a9.wr W25).wr W27), ((F_blocks_a9.other W25 (Or.inl (Exa.ne E_a9 E_B (by decide)))).other W27 (Or.inr (slot_ne (a0 := a0) (Or.inl (Wd hw 12 rfl)) (Or.inl (Wd hw 28 rfl)) (by decide) (t := (.array (.array .long))) (t' := .int) (by decide) (by decide)))), Fw27, ((E_B.wr W25).wr W27), ((V_A.other W25 (own_neArv V_A V_B (by decide))).other W27 (Ne.symm (Exa.neArv (a0 := a0) E_a9 V_A (Wd hw 1 rfl)))), (V25.other W27 (Exa.ne E_B E_a9 (by decide))), hin⟩
def Q_rmAdd2 (n0 : Nat) (Z : State) (a9 : Addr) (q1 : Int64) (A : Addr) (kA : ClassId) (B : Addr) (kB : ClassId) (n : Int32) (v0 : Int64) (v1 : Int64) (h0 : Heap) (v : Option Value) (h : Heap) (L : List Loc) : Prop := ∃ Bn : Addr, ∃ kBn : ClassId, ∃ nn : Int32, v = none ∧ Fr n0 L ∧ Keep h0 h [a9, A, B] ∧ (n0 ≤ Bn) ∧ (Exa Z h a9 "com/example/inchworm/inchworm/KeyBlocks") ∧ (Fld Z h a9 "com/example/inchworm/inchworm/KeyBlocks" "blocks" "[[J" (.ref A)) ∧ (Fld Z h a9 "com/example/inchworm/inchworm/KeyBlocks" "size" "I" (.int (3 : Int32))) ∧ (Exa Z h Bn "[J") ∧ (Arv Z h A kA (.array .long) (1 : Int32) [(.ref Bn)] .null) ∧ (Arv Z h Bn kBn .long nn [(.long v0), (.long v1), (.long q1), (.long (0 : Int64))] (.long (0 : Int64))) ∧ ((2 : Int32) < nn)
set_option maxRecDepth 65536 in
set_option maxHeartbeats 40000000 in
theorem rmAdd2 (l : Launch) (Z : State) (a0 : Array Value) (hw : ∀ d ∈ tables_1, d.before a0 Z = true) (ws : List Jvm.Cond) (a9 : Addr) (q1 : Int64) (A : Addr) (kA : ClassId) (B : Addr) (kB : ClassId) (n : Int32) (v0 : Int64) (v1 : Int64) (h0 : Heap) (n0 : Nat) (O0 : Old Z n0 h0) (GL : GF Z) (E_a9 : Exa Z h0 a9 "com/example/inchworm/inchworm/KeyBlocks") (F_blocks_a9 : Fld Z h0 a9 "com/example/inchworm/inchworm/KeyBlocks" "blocks" "[[J" (.ref A)) (F_size_a9 : Fld Z h0 a9 "com/example/inchworm/inchworm/KeyBlocks" "size" "I" (.int (2 : Int32))) (V_A : Arv Z h0 A kA (.array .long) (1 : Int32) [(.ref B)] .null) (E_B : Exa Z h0 B "[J") (V_B : Arv Z h0 B kB .long n [(.long v0), (.long v1), (.long (0 : Int64)), (.long (0 : Int64))] (.long (0 : Int64))) (hov : OvrA Z kA .long "[J") (hlt : (1 : Int32) < n) (g_a9 : n0 ≤ a9) (g_A : n0 ≤ A) (g_B : n0 ≤ B) :
    MetFree l MN_4 (head1 (Jvm.Cond.code MN_4 prog_38_method_3_code 5 none :: ws) ({ frames := 2, cells := 1, slots := 4, locals := 34 } : Room)) (fun a U => a = #[(.ref a9), (.long q1)] ∧ Z.Warmed39 U.vm ∧ U.heap = h0) (fun _ _ _ _ _ => True) (fun _ U o U' => ∃ v L, o = .returned v ∧ Q_rmAdd2 n0 Z a9 q1 A kA B kB n v0 v1 h0 v U'.heap L ∧ FrameEnd U o U' L ({ frames := 2, cells := 1, slots := 4, locals := 34 } : Room).cells ({ frames := 2, cells := 1, slots := 4, locals := 34 } : Room).slots) := by
  refine MetFree.of_bodySF (plainFor_of_name pn) hisR ?_
  intro p e s m args below meth c s₁ Bd hml0 hP hK
  obtain ⟨rfl, hZ, hh⟩ := hP
  have hx := Bd.exec
  have hby := Bd.bytes
  have hml : c.maxLocals = 5 := hml0
  have hown : s.vm.findClass "com/example/inchworm/inchworm/KeyBlocks" = some m.cls := findClass_of_methodNamed Bd.named
  have hnm := (name_of_methodNamed Bd.named Bd.method).1
  have X0 : Stand p l e ({ frames := 2, cells := 1, slots := 4, locals := 34 } : Room) s m #[(.ref a9), (.long q1)] below meth c s₁ [] 0 0 := Stand.of_body Bd
  have e0 : s₁.heap = h0 := by rw [← hh, Bd.state]; rfl
  have N0 := Fr.nil n0
  have pre0 : ∀ t, Steps p.tables e below (s₁.setTop (mkF m 0 #[.val (.ref a9), .val (.long q1), .second, .unset, .unset] [])) t → Steps p.tables e below (s₁.setTop (entryFrame m #[(.ref a9), (.long q1)] 5)) t := fun t k => castTop (ef_rmAdd0 m a9 q1) k
  have GSB := GL
  obtain ⟨T1, X1, e1, st1⟩ := getF X0 hx hZ hown (host := "") (Or.inl (Wd hw 27 rfl)) Via.refl e0 F_size_a9 (g := (mkF m 1 #[.val (.ref a9), .val (.long q1), .second, .unset, .unset] [(.ref a9)])) rfl rfl (hb hby d5_1)
  obtain ⟨T2, X2, e2, st2⟩ := getS2 X1 hx hZ hown (host := "") (Or.inl (Wd hw 29 rfl)) Via.refl e1 (GSB.ext O0.2) (g := (mkF m 4 #[.val (.ref a9), .val (.long q1), .second, .unset, .unset] [(.int (2 : Int32))])) rfl (hb hby d5_4)
  obtain ⟨T3, X3, e3, st3⟩ := getF X2 hx hZ hown (host := "") (Or.inl (Wd hw 27 rfl)) Via.refl e2 F_size_a9 (g := (mkF m 10 #[.val (.ref a9), .val (.long q1), .second, .val (.int (0 : Int32)), .unset] [(.ref a9)])) rfl rfl (hb hby d5_10)
  obtain ⟨T4, X4, e4, st4⟩ := getF X3 hx hZ hown (host := "") (Or.inl (Wd hw 11 rfl)) Via.refl e3 F_blocks_a9 (g := (mkF m 21 #[.val (.ref a9), .val (.long q1), .second, .val (.int (0 : Int32)), .val (.int (2 : Int32))] [(.ref a9), (.int (0 : Int32))])) rfl rfl (hb hby d5_21)
  obtain ⟨cl5, Ar5, -, S5, N5_, -, -⟩ := id (V_A)
  obtain ⟨T6, X6, e6, st6⟩ := getF X4 hx hZ hown (host := "") (Or.inl (Wd hw 11 rfl)) Via.refl e4 F_blocks_a9 (g := (mkF m 46 #[.val (.ref a9), .val (.long q1), .second, .val (.int (0 : Int32)), .val (.int (2 : Int32))] [(.ref a9)])) rfl rfl (hb hby d5_46)
  obtain ⟨cl7, Ar7, -, S7, N7_, H7, G7⟩ := id (V_A)
  have hin7 : ¬ ((0 : Int32) < 0 ∨ cl7.slots.size ≤ ((0 : Int32)).toNatClampNeg) := inb_of S7 ⟨(by decide), (by decide)⟩
  have hat7 : cl7.slots[((0 : Int32)).toNatClampNeg]? = some (.ref B) := H7.at hin7 rfl
  obtain ⟨T8, X8, e8, st8⟩ := getF X6 hx hZ hown (host := "") (Or.inl (Wd hw 11 rfl)) Via.refl e6 F_blocks_a9 (g := (mkF m 71 #[.val (.ref a9), .val (.long q1), .second, .val (.int (0 : Int32)), .val (.int (2 : Int32))] [(.ref a9), (.int (2 : Int32))])) rfl rfl (hb hby d5_71)
  obtain ⟨cl9, Ar9, -, S9, N9_, H9, G9⟩ := id (V_A)
  have hin9 : ¬ ((0 : Int32) < 0 ∨ cl9.slots.size ≤ ((0 : Int32)).toNatClampNeg) := inb_of S9 ⟨(by decide), (by decide)⟩
  have hat9 : cl9.slots[((0 : Int32)).toNatClampNeg]? = some (.ref B) := H9.at hin9 rfl
  obtain ⟨cl10, Ar10, -, S10, N10_, -, -⟩ := id (V_B)
  have pre11 : ∀ t, Steps p.tables e below (T8.setTop (mkF m 77 #[.val (.ref a9), .val (.long q1), .second, .val (.int (0 : Int32)), .val (.int (2 : Int32))] [(.int n), (.int (2 : Int32))])) t → Steps p.tables e below (s₁.setTop (entryFrame m #[(.ref a9), (.long q1)] 5)) t := fun t kt => by
    refine pre0 t ?_
    show Steps p.tables e below (s₁.setTop (mkF m 0 #[.val (.ref a9), .val (.long q1), .second, .unset, .unset] [])) _
    refine XS.aloadN X0.here hx rfl (hb hby d5_0) rfl rfl ?_
    show Steps p.tables e below (s₁.setTop (mkF m 1 #[.val (.ref a9), .val (.long q1), .second, .unset, .unset] [(.ref a9)])) _
    refine st1 _ ?_
    show Steps p.tables e below (T1.setTop (mkF m 4 #[.val (.ref a9), .val (.long q1), .second, .unset, .unset] [(.int (2 : Int32))])) _
    refine st2 _ ?_
    show Steps p.tables e below (T2.setTop (mkF m 7 #[.val (.ref a9), .val (.long q1), .second, .unset, .unset] [(.int (13 : Int32)), (.int (2 : Int32))])) _
    refine XS.iushr X2.here hx rfl (hb hby d5_7) rfl ?_
    show Steps p.tables e below (T2.setTop (mkF m 8 #[.val (.ref a9), .val (.long q1), .second, .unset, .unset] [(.int (0 : Int32))])) _
    refine XS.istoreN X2.here hx rfl (hb hby d5_8) rfl (l' := #[.val (.ref a9), .val (.long q1), .second, .val (.int (0 : Int32)), .unset]) rfl ?_
    show Steps p.tables e below (T2.setTop (mkF m 9 #[.val (.ref a9), .val (.long q1), .second, .val (.int (0 : Int32)), .unset] [])) _
    refine XS.aloadN X2.here hx rfl (hb hby d5_9) rfl rfl ?_
    show Steps p.tables e below (T2.setTop (mkF m 10 #[.val (.ref a9), .val (.long q1), .second, .val (.int (0 : Int32)), .unset] [(.ref a9)])) _
    refine st3 _ ?_
    show Steps p.tables e below (T3.setTop (mkF m 13 #[.val (.ref a9), .val (.long q1), .second, .val (.int (0 : Int32)), .unset] [(.int (2 : Int32))])) _
    refine XS.sipush X3.here hx rfl (hb hby d5_13) ?_
    show Steps p.tables e below (T3.setTop (mkF m 16 #[.val (.ref a9), .val (.long q1), .second, .val (.int (0 : Int32)), .unset] [(.int (8191 : Int32)), (.int (2 : Int32))])) _
    refine XS.iand X3.here hx rfl (hb hby d5_16) rfl ?_
    show Steps p.tables e below (T3.setTop (mkF m 17 #[.val (.ref a9), .val (.long q1), .second, .val (.int (0 : Int32)), .unset] [(.int (2 : Int32))])) _
    refine XS.istore X3.here hx rfl (hb hby d5_17) rfl (l' := #[.val (.ref a9), .val (.long q1), .second, .val (.int (0 : Int32)), .val (.int (2 : Int32))]) rfl ?_
    show Steps p.tables e below (T3.setTop (mkF m 19 #[.val (.ref a9), .val (.long q1), .second, .val (.int (0 : Int32)), .val (.int (2 : Int32))] [])) _
    refine XS.iloadN X3.here hx rfl (hb hby d5_19) rfl ?_
    show Steps p.tables e below (T3.setTop (mkF m 20 #[.val (.ref a9), .val (.long q1), .second, .val (.int (0 : Int32)), .val (.int (2 : Int32))] [(.int (0 : Int32))])) _
    refine XS.aloadN X3.here hx rfl (hb hby d5_20) rfl rfl ?_
    show Steps p.tables e below (T3.setTop (mkF m 21 #[.val (.ref a9), .val (.long q1), .second, .val (.int (0 : Int32)), .val (.int (2 : Int32))] [(.ref a9), (.int (0 : Int32))])) _
    refine st4 _ ?_
    show Steps p.tables e below (T4.setTop (mkF m 24 #[.val (.ref a9), .val (.long q1), .second, .val (.int (0 : Int32)), .val (.int (2 : Int32))] [(.ref A), (.int (0 : Int32))])) _
    refine X4.arraylength hx (by rw [e4]; exact Ar5.1) (State.isArrayOf_alike hZ.alike Ar5.2.1) (g := (mkF m 24 #[.val (.ref a9), .val (.long q1), .second, .val (.int (0 : Int32)), .val (.int (2 : Int32))] [(.ref A), (.int (0 : Int32))])) rfl rfl (hb hby d5_24) _ ?_
    rw [len_of S5 N5_]
    show Steps p.tables e below (T4.setTop (mkF m 25 #[.val (.ref a9), .val (.long q1), .second, .val (.int (0 : Int32)), .val (.int (2 : Int32))] [(.int (1 : Int32)), (.int (0 : Int32))])) _
    refine XS.icmpYes X4.here hx rfl (pc0 := 25) (pc' := 45) rfl (hb hby d5_25) rfl (feq (by decide : ¬ ((0 : Int32) = (1 : Int32)))).2 (by decide) (by decide) ?_
    show Steps p.tables e below (T4.setTop (mkF m 45 #[.val (.ref a9), .val (.long q1), .second, .val (.int (0 : Int32)), .val (.int (2 : Int32))] [])) _
    refine XS.aloadN X4.here hx rfl (hb hby d5_45) rfl rfl ?_
    show Steps p.tables e below (T4.setTop (mkF m 46 #[.val (.ref a9), .val (.long q1), .second, .val (.int (0 : Int32)), .val (.int (2 : Int32))] [(.ref a9)])) _
    refine st6 _ ?_
    show Steps p.tables e below (T6.setTop (mkF m 49 #[.val (.ref a9), .val (.long q1), .second, .val (.int (0 : Int32)), .val (.int (2 : Int32))] [(.ref A)])) _
    refine XS.iloadN X6.here hx rfl (hb hby d5_49) rfl ?_
    show Steps p.tables e below (T6.setTop (mkF m 50 #[.val (.ref a9), .val (.long q1), .second, .val (.int (0 : Int32)), .val (.int (2 : Int32))] [(.int (0 : Int32)), (.ref A)])) _
    refine X6.aaload hx (j := (0 : Int32)) (v := (.ref B)) (by rw [e6]; exact Ar7.1) (State.isArrayOf_alike hZ.alike Ar7.2.1) rfl Ar7.2.2 hin7 hat7 (g := (mkF m 50 #[.val (.ref a9), .val (.long q1), .second, .val (.int (0 : Int32)), .val (.int (2 : Int32))] [(.int (0 : Int32)), (.ref A)])) rfl rfl (hb hby d5_50) _ ?_
    show Steps p.tables e below (T6.setTop (mkF m 51 #[.val (.ref a9), .val (.long q1), .second, .val (.int (0 : Int32)), .val (.int (2 : Int32))] [(.ref B)])) _
    refine XS.ifnonnullYes X6.here hx rfl (pc0 := 51) (pc' := 68) rfl (hb hby d5_51) rfl (by decide) (by decide) ?_
    show Steps p.tables e below (T6.setTop (mkF m 68 #[.val (.ref a9), .val (.long q1), .second, .val (.int (0 : Int32)), .val (.int (2 : Int32))] [])) _
    refine XS.iload X6.here hx rfl (hb hby d5_68) rfl ?_
    show Steps p.tables e below (T6.setTop (mkF m 70 #[.val (.ref a9), .val (.long q1), .second, .val (.int (0 : Int32)), .val (.int (2 : Int32))] [(.int (2 : Int32))])) _
    refine XS.aloadN X6.here hx rfl (hb hby d5_70) rfl rfl ?_
    show Steps p.tables e below (T6.setTop (mkF m 71 #[.val (.ref a9), .val (.long q1), .second, .val (.int (0 : Int32)), .val (.int (2 : Int32))] [(.ref a9), (.int (2 : Int32))])) _
    refine st8 _ ?_
    show Steps p.tables e below (T8.setTop (mkF m 74 #[.val (.ref a9), .val (.long q1), .second, .val (.int (0 : Int32)), .val (.int (2 : Int32))] [(.ref A), (.int (2 : Int32))])) _
    refine XS.iloadN X8.here hx rfl (hb hby d5_74) rfl ?_
    show Steps p.tables e below (T8.setTop (mkF m 75 #[.val (.ref a9), .val (.long q1), .second, .val (.int (0 : Int32)), .val (.int (2 : Int32))] [(.int (0 : Int32)), (.ref A), (.int (2 : Int32))])) _
    refine X8.aaload hx (j := (0 : Int32)) (v := (.ref B)) (by rw [e8]; exact Ar9.1) (State.isArrayOf_alike hZ.alike Ar9.2.1) rfl Ar9.2.2 hin9 hat9 (g := (mkF m 75 #[.val (.ref a9), .val (.long q1), .second, .val (.int (0 : Int32)), .val (.int (2 : Int32))] [(.int (0 : Int32)), (.ref A), (.int (2 : Int32))])) rfl rfl (hb hby d5_75) _ ?_
    show Steps p.tables e below (T8.setTop (mkF m 76 #[.val (.ref a9), .val (.long q1), .second, .val (.int (0 : Int32)), .val (.int (2 : Int32))] [(.ref B), (.int (2 : Int32))])) _
    refine X8.arraylength hx (by rw [e8]; exact Ar10.1) (State.isArrayOf_alike hZ.alike Ar10.2.1) (g := (mkF m 76 #[.val (.ref a9), .val (.long q1), .second, .val (.int (0 : Int32)), .val (.int (2 : Int32))] [(.ref B), (.int (2 : Int32))])) rfl rfl (hb hby d5_76) _ ?_
    rw [len_of S10 N10_]
    exact kt
  by_cases hg : (2 : Int32) = n
  · obtain ⟨T12, X12, e12, st12⟩ := getF X8 hx hZ hown (host := "") (Or.inl (Wd hw 11 rfl)) Via.refl e8 F_blocks_a9 (g := (mkF m 81 #[.val (.ref a9), .val (.long q1), .second, .val (.int (0 : Int32)), .val (.int (2 : Int32))] [(.ref a9)])) rfl rfl (hb hby d5_81)
    obtain ⟨T13, X13, e13, st13⟩ := getF X12 hx hZ hown (host := "") (Or.inl (Wd hw 11 rfl)) Via.refl e12 F_blocks_a9 (g := (mkF m 86 #[.val (.ref a9), .val (.long q1), .second, .val (.int (0 : Int32)), .val (.int (2 : Int32))] [(.ref a9), (.int (0 : Int32)), (.ref A)])) rfl rfl (hb hby d5_86)
    obtain ⟨cl14, Ar14, -, S14, N14_, H14, G14⟩ := id (V_A)
    have hin14 : ¬ ((0 : Int32) < 0 ∨ cl14.slots.size ≤ ((0 : Int32)).toNatClampNeg) := inb_of S14 ⟨(by decide), (by decide)⟩
    have hat14 : cl14.slots[((0 : Int32)).toNatClampNeg]? = some (.ref B) := H14.at hin14 rfl
    obtain ⟨_, _, ⟨T15, L15, k15, n15⟩, -, X15, ⟨Lc15, hQ15, l15, y15, z15⟩, st15⟩ := Jvm.LawKit.callS X13 hx (y := MN_1) hown (mvT hZ (Wd hw 13 rfl)) (mvT hZ (Wd hw 14 rfl)) (mvT hZ (Wd hw 15 rfl)) (mvT hZ (Wd hw 16 rfl)) (by decide) (backOf (W := 3) (rmMin l Z a0 hw [] ((4 : Int32)) ((8192 : Int32)) (h0) n0 O0 GL) hZ (Wd hw 16 rfl) (Wd hw 15 rfl) (by decide) (by decide)) (g := (mkF m 98 #[.val (.ref a9), .val (.long q1), .second, .val (.int (0 : Int32)), .val (.int (2 : Int32))] [(.int (8192 : Int32)), (.int (4 : Int32)), (.ref B), (.int (0 : Int32)), (.ref A)])) rfl (by rw [hml]; rfl) (argsL := [(.int (4 : Int32)), (.int (8192 : Int32))]) (rest := [(.ref B), (.int (0 : Int32)), (.ref A)]) (lenOf pd rfl) rfl (by show 2 * 0 + _ ≤ _; exact Nat.le_of_eq rfl) (hb hby d5_98) (fun _ _ => ⟨rfl, e13, (by decide : 0 + 0 ≤ _), (by decide : 0 + 0 ≤ _)⟩)
    dsimp only [Pt.U, Pt.locs, Pt.cells, Pt.slots] at X15 l15 y15 z15 st15 hQ15
    subst l15 y15 z15
    obtain ⟨rfl, N15q, e15⟩ := hQ15
    have N15 := Fr.app N0 N15q
    have Vg := own_arvn hg.symm V_B
    obtain ⟨_, _, ⟨T16, L16, k16, n16⟩, -, X16, ⟨Lc16, hQ16, l16, y16, z16⟩, st16⟩ := Jvm.LawKit.callS X15 hx (y := MN_3) hown (mvT hZ (Wd hw 31 rfl)) (mvT hZ (Wd hw 32 rfl)) (mvT hZ (Wd hw 33 rfl)) (mvT hZ (Wd hw 34 rfl)) (by decide) (backOf (W := 2) (rmCp2 l Z a0 hw [] (B) (kB) (v0) (v1) ((0 : Int64)) ((0 : Int64)) (h0) n0 O0 GL Vg) hZ (Wd hw 34 rfl) (Wd hw 33 rfl) (by decide) (by decide)) (g := (mkF m 101 #[.val (.ref a9), .val (.long q1), .second, .val (.int (0 : Int32)), .val (.int (2 : Int32))] [(.int (4 : Int32)), (.ref B), (.int (0 : Int32)), (.ref A)])) rfl (by rw [hml]; rfl) (argsL := [(.ref B), (.int (4 : Int32))]) (rest := [(.int (0 : Int32)), (.ref A)]) (lenOf pdv1 rfl) rfl (by show 2 * 0 + _ ≤ _; exact Nat.le_of_eq rfl) (hb hby d5_101) (fun _ _ => ⟨rfl, e15, (by decide : 0 + 1 ≤ _), (by decide : 0 + 4 ≤ _)⟩)
    dsimp only [Pt.U, Pt.locs, Pt.cells, Pt.slots] at X16 l16 y16 z16 st16 hQ16
    subst l16 y16 z16
    obtain ⟨b_16, kb_16, rfl, N16q, Kc16, P16_0, P16_1, P16_2⟩ := hQ16
    have K16 : Keep h0 T16.heap [a9, A, B] := (Keep.refl h0 [a9, A, B]).trans Kc16 all0
    have O16 := O0.keep Kc16 all0
    have g_b_16 : n0 ≤ b_16 := Nat.le_trans (own_sz O0) P16_0
    have sz_b_16 : h0.size ≤ b_16 := Nat.le_trans (Keep.refl h0 [a9, A, B]).1 P16_0
    have N16 := Fr.app N15 N16q
    obtain ⟨cl17, Ar17, q17, S17, N17_, H17, G17⟩ := id ((V_A.keep Kc16 nin0))
    have hin17 : ¬ ((0 : Int32) < 0 ∨ cl17.slots.size ≤ ((0 : Int32)).toNatClampNeg) := inb_of S17 ⟨(by decide), (by decide)⟩
    obtain ⟨T17, h17, X17, e17, W17, st17⟩ := stR X16 hx hZ rfl Ar17 (j := (0 : Int32)) hin17 rfl (Sto.ofVA Ar17 q17 hov (Ins.self P16_1)) (g := (mkF m 104 #[.val (.ref a9), .val (.long q1), .second, .val (.int (0 : Int32)), .val (.int (2 : Int32))] [(.ref b_16), (.int (0 : Int32)), (.ref A)])) rfl rfl (hb hby d5_104)
    have K17 : Keep h0 h17 [a9, A, B] := K16.wr W17 (Or.inl (List.mem_of_getElem? (i := 1) rfl))
    have O17 := O16.wr W17 g_A
    have N17 := Fr.snoc X17 N16 g_A
    have V17 : Arv Z h17 A kA (.array .long) (1 : Int32) [(.ref b_16)] .null := Arv.set Ar17 q17 S17 N17_ H17 G17 rfl W17 0 rfl (Nat.le_of_ble_eq_true rfl)
    obtain ⟨T18, X18, e18, st18⟩ := getF X17 hx hZ hown (host := "") (Or.inl (Wd hw 11 rfl)) Via.refl e17 ((F_blocks_a9.keep Kc16 nin0).other W17 (Or.inl (Exa.neArv (a0 := a0) E_a9 V_A (Wd hw 1 rfl)))) (g := (mkF m 106 #[.val (.ref a9), .val (.long q1), .second, .val (.int (0 : Int32)), .val (.int (2 : Int32))] [(.ref a9)])) rfl rfl (hb hby d5_106)
    obtain ⟨cl19, Ar19, -, S19, N19_, H19, G19⟩ := id (V17)
    have hin19 : ¬ ((0 : Int32) < 0 ∨ cl19.slots.size ≤ ((0 : Int32)).toNatClampNeg) := inb_of S19 ⟨(by decide), (by decide)⟩
    have hat19 : cl19.slots[((0 : Int32)).toNatClampNeg]? = some (.ref b_16) := H19.at hin19 rfl
    obtain ⟨cl20, Ar20, q20, S20, N20_, H20, G20⟩ := id ((P16_2.other W17 (Ne.symm (Nat.ne_of_lt (Nat.lt_of_lt_of_le V_A.lt P16_0)))))
    have hin20 : ¬ ((2 : Int32) < 0 ∨ cl20.slots.size ≤ ((2 : Int32)).toNatClampNeg) := inb_of S20 ⟨(by decide), (by decide)⟩
    obtain ⟨T20, h20, X20, e20, W20, st20⟩ := stJ X18 hx hZ e18 Ar20 (j := (2 : Int32)) hin20 (g := (mkF m 114 #[.val (.ref a9), .val (.long q1), .second, .val (.int (0 : Int32)), .val (.int (2 : Int32))] [(.long q1), (.int (2 : Int32)), (.ref b_16)])) rfl rfl (hb hby d5_114)
    have K20 : Keep h0 h20 [a9, A, B] := K17.wr W20 (Or.inr sz_b_16)
    have O20 := O17.wr W20 g_b_16
    have N20 := Fr.snoc X20 N17 g_b_16
    have V20 : Arv Z h20 b_16 kb_16 .long (4 : Int32) [(.long v0), (.long v1), (.long q1), (.long (0 : Int64))] (.long (0 : Int64)) := Arv.set Ar20 q20 S20 N20_ H20 G20 rfl W20 2 rfl (Nat.le_of_ble_eq_true rfl)
    obtain ⟨T21, X21, e21, st21⟩ := getF X20 hx hZ hown (host := "") (Or.inl (Wd hw 27 rfl)) Via.refl e20 (((F_size_a9.keep Kc16 nin0).other W17 (Or.inl (Exa.neArv (a0 := a0) E_a9 V_A (Wd hw 1 rfl)))).other W20 (Or.inl (Nat.ne_of_lt (Nat.lt_of_lt_of_le E_a9.lt P16_0)))) (g := (mkF m 117 #[.val (.ref a9), .val (.long q1), .second, .val (.int (0 : Int32)), .val (.int (2 : Int32))] [(.ref a9), (.ref a9)])) rfl rfl (hb hby d5_117)
    obtain ⟨T22, h22, X22, e22, W22, st22⟩ := putF X21 hx hZ hown (host := "") (Or.inl (Wd hw 27 rfl)) Via.refl e21 (((F_size_a9.keep Kc16 nin0).other W17 (Or.inl (Exa.neArv (a0 := a0) E_a9 V_A (Wd hw 1 rfl)))).other W20 (Or.inl (Nat.ne_of_lt (Nat.lt_of_lt_of_le E_a9.lt P16_0)))) (((E_a9.keep Kc16).wr W17).wr W20) (Or.inl (Wd hw 28 rfl)) (Wd hw 1 rfl) (ty := .int) (by decide) rfl rfl (g := (mkF m 122 #[.val (.ref a9), .val (.long q1), .second, .val (.int (0 : Int32)), .val (.int (2 : Int32))] [(.int (3 : Int32)), (.ref a9)])) rfl rfl (hb hby d5_122)
    have Fw22 := (((F_size_a9.keep Kc16 nin0).other W17 (Or.inl (Exa.neArv (a0 := a0) E_a9 V_A (Wd hw 1 rfl)))).other W20 (Or.inl (Nat.ne_of_lt (Nat.lt_of_lt_of_le E_a9.lt P16_0)))).same W22
    have K22 : Keep h0 h22 [a9, A, B] := K20.wr W22 (Or.inl (List.mem_of_getElem? (i := 0) rfl))
    have O22 := O20.wr W22 g_a9
    have N22 := Fr.snoc X22 N20 g_a9
    obtain ⟨fs, hr, hrun, hended, hW, hsame⟩ := X22.leave (v := none) (fun _ => rfl)
    refine ⟨_, _, pre11 _ ?_, hrun, hended, _, _, rfl, ?_, ⟨_, rfl⟩, hW, hsame.mono (by decide) (by decide)⟩
    · show Steps p.tables e below (T8.setTop (mkF m 77 #[.val (.ref a9), .val (.long q1), .second, .val (.int (0 : Int32)), .val (.int (2 : Int32))] [(.int n), (.int (2 : Int32))])) _
      refine XS.icmpNo X8.here hx rfl (hb hby d5_77) rfl (teq hg).2 ?_
      show Steps p.tables e below (T8.setTop (mkF m 80 #[.val (.ref a9), .val (.long q1), .second, .val (.int (0 : Int32)), .val (.int (2 : Int32))] [])) _
      refine XS.aloadN X8.here hx rfl (hb hby d5_80) rfl rfl ?_
      show Steps p.tables e below (T8.setTop (mkF m 81 #[.val (.ref a9), .val (.long q1), .second, .val (.int (0 : Int32)), .val (.int (2 : Int32))] [(.ref a9)])) _
      refine st12 _ ?_
      show Steps p.tables e below (T12.setTop (mkF m 84 #[.val (.ref a9), .val (.long q1), .second, .val (.int (0 : Int32)), .val (.int (2 : Int32))] [(.ref A)])) _
      refine XS.iloadN X12.here hx rfl (hb hby d5_84) rfl ?_
      show Steps p.tables e below (T12.setTop (mkF m 85 #[.val (.ref a9), .val (.long q1), .second, .val (.int (0 : Int32)), .val (.int (2 : Int32))] [(.int (0 : Int32)), (.ref A)])) _
      refine XS.aloadN X12.here hx rfl (hb hby d5_85) rfl rfl ?_
      show Steps p.tables e below (T12.setTop (mkF m 86 #[.val (.ref a9), .val (.long q1), .second, .val (.int (0 : Int32)), .val (.int (2 : Int32))] [(.ref a9), (.int (0 : Int32)), (.ref A)])) _
      refine st13 _ ?_
      show Steps p.tables e below (T13.setTop (mkF m 89 #[.val (.ref a9), .val (.long q1), .second, .val (.int (0 : Int32)), .val (.int (2 : Int32))] [(.ref A), (.int (0 : Int32)), (.ref A)])) _
      refine XS.iloadN X13.here hx rfl (hb hby d5_89) rfl ?_
      show Steps p.tables e below (T13.setTop (mkF m 90 #[.val (.ref a9), .val (.long q1), .second, .val (.int (0 : Int32)), .val (.int (2 : Int32))] [(.int (0 : Int32)), (.ref A), (.int (0 : Int32)), (.ref A)])) _
      refine X13.aaload hx (j := (0 : Int32)) (v := (.ref B)) (by rw [e13]; exact Ar14.1) (State.isArrayOf_alike hZ.alike Ar14.2.1) rfl Ar14.2.2 hin14 hat14 (g := (mkF m 90 #[.val (.ref a9), .val (.long q1), .second, .val (.int (0 : Int32)), .val (.int (2 : Int32))] [(.int (0 : Int32)), (.ref A), (.int (0 : Int32)), (.ref A)])) rfl rfl (hb hby d5_90) _ ?_
      show Steps p.tables e below (T13.setTop (mkF m 91 #[.val (.ref a9), .val (.long q1), .second, .val (.int (0 : Int32)), .val (.int (2 : Int32))] [(.ref B), (.int (0 : Int32)), (.ref A)])) _
      refine XS.iconst X13.here hx rfl (hb hby d5_91) ?_
      show Steps p.tables e below (T13.setTop (mkF m 92 #[.val (.ref a9), .val (.long q1), .second, .val (.int (0 : Int32)), .val (.int (2 : Int32))] [(.int (2 : Int32)), (.ref B), (.int (0 : Int32)), (.ref A)])) _
      refine XS.iload X13.here hx rfl (hb hby d5_92) rfl ?_
      show Steps p.tables e below (T13.setTop (mkF m 94 #[.val (.ref a9), .val (.long q1), .second, .val (.int (0 : Int32)), .val (.int (2 : Int32))] [(.int (2 : Int32)), (.int (2 : Int32)), (.ref B), (.int (0 : Int32)), (.ref A)])) _
      refine XS.imul X13.here hx rfl (hb hby d5_94) rfl ?_
      show Steps p.tables e below (T13.setTop (mkF m 95 #[.val (.ref a9), .val (.long q1), .second, .val (.int (0 : Int32)), .val (.int (2 : Int32))] [(.int (4 : Int32)), (.ref B), (.int (0 : Int32)), (.ref A)])) _
      refine XS.sipush X13.here hx rfl (hb hby d5_95) ?_
      show Steps p.tables e below (T13.setTop (mkF m 98 #[.val (.ref a9), .val (.long q1), .second, .val (.int (0 : Int32)), .val (.int (2 : Int32))] [(.int (8192 : Int32)), (.int (4 : Int32)), (.ref B), (.int (0 : Int32)), (.ref A)])) _
      refine st15 _ ?_
      show Steps p.tables e below (T15.setTop (mkF m 101 #[.val (.ref a9), .val (.long q1), .second, .val (.int (0 : Int32)), .val (.int (2 : Int32))] [(.int (own_minI (4 : Int32) (8192 : Int32))), (.ref B), (.int (0 : Int32)), (.ref A)])) _
      show Steps p.tables e below (T15.setTop (mkF m 101 #[.val (.ref a9), .val (.long q1), .second, .val (.int (0 : Int32)), .val (.int (2 : Int32))] [(.int (4 : Int32)), (.ref B), (.int (0 : Int32)), (.ref A)])) _
      refine st16 _ ?_
      show Steps p.tables e below (T16.setTop (mkF m 104 #[.val (.ref a9), .val (.long q1), .second, .val (.int (0 : Int32)), .val (.int (2 : Int32))] [(.ref b_16), (.int (0 : Int32)), (.ref A)])) _
      refine st17 _ ?_
      show Steps p.tables e below (T17.setTop (mkF m 105 #[.val (.ref a9), .val (.long q1), .second, .val (.int (0 : Int32)), .val (.int (2 : Int32))] [])) _
      refine XS.aloadN X17.here hx rfl (hb hby d5_105) rfl rfl ?_
      show Steps p.tables e below (T17.setTop (mkF m 106 #[.val (.ref a9), .val (.long q1), .second, .val (.int (0 : Int32)), .val (.int (2 : Int32))] [(.ref a9)])) _
      refine st18 _ ?_
      show Steps p.tables e below (T18.setTop (mkF m 109 #[.val (.ref a9), .val (.long q1), .second, .val (.int (0 : Int32)), .val (.int (2 : Int32))] [(.ref A)])) _
      refine XS.iloadN X18.here hx rfl (hb hby d5_109) rfl ?_
      show Steps p.tables e below (T18.setTop (mkF m 110 #[.val (.ref a9), .val (.long q1), .second, .val (.int (0 : Int32)), .val (.int (2 : Int32))] [(.int (0 : Int32)), (.ref A)])) _
      refine X18.aaload hx (j := (0 : Int32)) (v := (.ref b_16)) (by rw [e18]; exact Ar19.1) (State.isArrayOf_alike hZ.alike Ar19.2.1) rfl Ar19.2.2 hin19 hat19 (g := (mkF m 110 #[.val (.ref a9), .val (.long q1), .second, .val (.int (0 : Int32)), .val (.int (2 : Int32))] [(.int (0 : Int32)), (.ref A)])) rfl rfl (hb hby d5_110) _ ?_
      show Steps p.tables e below (T18.setTop (mkF m 111 #[.val (.ref a9), .val (.long q1), .second, .val (.int (0 : Int32)), .val (.int (2 : Int32))] [(.ref b_16)])) _
      refine XS.iload X18.here hx rfl (hb hby d5_111) rfl ?_
      show Steps p.tables e below (T18.setTop (mkF m 113 #[.val (.ref a9), .val (.long q1), .second, .val (.int (0 : Int32)), .val (.int (2 : Int32))] [(.int (2 : Int32)), (.ref b_16)])) _
      refine XS.lloadN X18.here hx rfl (hb hby d5_113) rfl ?_
      show Steps p.tables e below (T18.setTop (mkF m 114 #[.val (.ref a9), .val (.long q1), .second, .val (.int (0 : Int32)), .val (.int (2 : Int32))] [(.long q1), (.int (2 : Int32)), (.ref b_16)])) _
      refine st20 _ ?_
      show Steps p.tables e below (T20.setTop (mkF m 115 #[.val (.ref a9), .val (.long q1), .second, .val (.int (0 : Int32)), .val (.int (2 : Int32))] [])) _
      refine XS.aloadN X20.here hx rfl (hb hby d5_115) rfl rfl ?_
      show Steps p.tables e below (T20.setTop (mkF m 116 #[.val (.ref a9), .val (.long q1), .second, .val (.int (0 : Int32)), .val (.int (2 : Int32))] [(.ref a9)])) _
      refine XS.dup X20.here hx rfl (hb hby d5_116) rfl rfl ?_
      show Steps p.tables e below (T20.setTop (mkF m 117 #[.val (.ref a9), .val (.long q1), .second, .val (.int (0 : Int32)), .val (.int (2 : Int32))] [(.ref a9), (.ref a9)])) _
      refine st21 _ ?_
      show Steps p.tables e below (T21.setTop (mkF m 120 #[.val (.ref a9), .val (.long q1), .second, .val (.int (0 : Int32)), .val (.int (2 : Int32))] [(.int (2 : Int32)), (.ref a9)])) _
      refine XS.iconst X21.here hx rfl (hb hby d5_120) ?_
      show Steps p.tables e below (T21.setTop (mkF m 121 #[.val (.ref a9), .val (.long q1), .second, .val (.int (0 : Int32)), .val (.int (2 : Int32))] [(.int (1 : Int32)), (.int (2 : Int32)), (.ref a9)])) _
      refine XS.iadd X21.here hx rfl (hb hby d5_121) rfl ?_
      show Steps p.tables e below (T21.setTop (mkF m 122 #[.val (.ref a9), .val (.long q1), .second, .val (.int (0 : Int32)), .val (.int (2 : Int32))] [(.int (3 : Int32)), (.ref a9)])) _
      refine st22 _ ?_
      show Steps p.tables e below (T22.setTop (mkF m 125 #[.val (.ref a9), .val (.long q1), .second, .val (.int (0 : Int32)), .val (.int (2 : Int32))] [])) _
      exact X22.returnOut hx Bd.returns (hb hby d5_125) hr
    · show Q_rmAdd2 n0 Z a9 q1 A kA B kB n v0 v1 h0 _ T22.heap _
      rw [e22]
      exact ⟨b_16, kb_16, (4 : Int32), rfl, N22, K22, g_b_16, ((((E_a9.keep Kc16).wr W17).wr W20).wr W22), ((((F_blocks_a9.keep Kc16 nin0).other W17 (Or.inl (Exa.neArv (a0 := a0) E_a9 V_A (Wd hw 1 rfl)))).other W20 (Or.inl (Nat.ne_of_lt (Nat.lt_of_lt_of_le E_a9.lt P16_0)))).other W22 (Or.inr (slot_ne (a0 := a0) (Or.inl (Wd hw 12 rfl)) (Or.inl (Wd hw 28 rfl)) (by decide) (t := (.array (.array .long))) (t' := .int) (by decide) (by decide)))), Fw22, (((P16_1.wr W17).wr W20).wr W22), ((V17.other W20 (Nat.ne_of_lt (Nat.lt_of_lt_of_le V_A.lt P16_0))).other W22 (Ne.symm (Exa.neArv (a0 := a0) E_a9 V_A (Wd hw 1 rfl)))), (V20.other W22 (Ne.symm (Nat.ne_of_lt (Nat.lt_of_lt_of_le E_a9.lt P16_0)))), (by decide)⟩
  · have hin : (2 : Int32) < n := own_up (a := (1 : Int32)) rfl hlt hg
    obtain ⟨T23, X23, e23, st23⟩ := getF X8 hx hZ hown (host := "") (Or.inl (Wd hw 11 rfl)) Via.refl e8 F_blocks_a9 (g := (mkF m 106 #[.val (.ref a9), .val (.long q1), .second, .val (.int (0 : Int32)), .val (.int (2 : Int32))] [(.ref a9)])) rfl rfl (hb hby d5_106)
    obtain ⟨cl24, Ar24, -, S24, N24_, H24, G24⟩ := id (V_A)
    have hin24 : ¬ ((0 : Int32) < 0 ∨ cl24.slots.size ≤ ((0 : Int32)).toNatClampNeg) := inb_of S24 ⟨(by decide), (by decide)⟩
    have hat24 : cl24.slots[((0 : Int32)).toNatClampNeg]? = some (.ref B) := H24.at hin24 rfl
    obtain ⟨cl25, Ar25, q25, S25, N25_, H25, G25⟩ := id (V_B)
    have hin25 : ¬ ((2 : Int32) < 0 ∨ cl25.slots.size ≤ ((2 : Int32)).toNatClampNeg) := inb_of S25 ⟨(by decide), hin⟩
    obtain ⟨T25, h25, X25, e25, W25, st25⟩ := stJ X23 hx hZ e23 Ar25 (j := (2 : Int32)) hin25 (g := (mkF m 114 #[.val (.ref a9), .val (.long q1), .second, .val (.int (0 : Int32)), .val (.int (2 : Int32))] [(.long q1), (.int (2 : Int32)), (.ref B)])) rfl rfl (hb hby d5_114)
    have K25 : Keep h0 h25 [a9, A, B] := (Keep.refl h0 [a9, A, B]).wr W25 (Or.inl (List.mem_of_getElem? (i := 2) rfl))
    have O25 := O0.wr W25 g_B
    have N25 := Fr.snoc X25 N0 g_B
    have V25 : Arv Z h25 B kB .long n [(.long v0), (.long v1), (.long q1), (.long (0 : Int64))] (.long (0 : Int64)) := Arv.set Ar25 q25 S25 N25_ H25 G25 rfl W25 2 rfl (Nat.le_of_ble_eq_true rfl)
    obtain ⟨T26, X26, e26, st26⟩ := getF X25 hx hZ hown (host := "") (Or.inl (Wd hw 27 rfl)) Via.refl e25 (F_size_a9.other W25 (Or.inl (Exa.ne E_a9 E_B (by decide)))) (g := (mkF m 117 #[.val (.ref a9), .val (.long q1), .second, .val (.int (0 : Int32)), .val (.int (2 : Int32))] [(.ref a9), (.ref a9)])) rfl rfl (hb hby d5_117)
    obtain ⟨T27, h27, X27, e27, W27, st27⟩ := putF X26 hx hZ hown (host := "") (Or.inl (Wd hw 27 rfl)) Via.refl e26 (F_size_a9.other W25 (Or.inl (Exa.ne E_a9 E_B (by decide)))) (E_a9.wr W25) (Or.inl (Wd hw 28 rfl)) (Wd hw 1 rfl) (ty := .int) (by decide) rfl rfl (g := (mkF m 122 #[.val (.ref a9), .val (.long q1), .second, .val (.int (0 : Int32)), .val (.int (2 : Int32))] [(.int (3 : Int32)), (.ref a9)])) rfl rfl (hb hby d5_122)
    have Fw27 := (F_size_a9.other W25 (Or.inl (Exa.ne E_a9 E_B (by decide)))).same W27
    have K27 : Keep h0 h27 [a9, A, B] := K25.wr W27 (Or.inl (List.mem_of_getElem? (i := 0) rfl))
    have O27 := O25.wr W27 g_a9
    have N27 := Fr.snoc X27 N25 g_a9
    obtain ⟨fs, hr, hrun, hended, hW, hsame⟩ := X27.leave (v := none) (fun _ => rfl)
    refine ⟨_, _, pre11 _ ?_, hrun, hended, _, _, rfl, ?_, ⟨_, rfl⟩, hW, hsame.mono (by decide) (by decide)⟩
    · show Steps p.tables e below (T8.setTop (mkF m 77 #[.val (.ref a9), .val (.long q1), .second, .val (.int (0 : Int32)), .val (.int (2 : Int32))] [(.int n), (.int (2 : Int32))])) _
      refine XS.icmpYes X8.here hx rfl (pc0 := 77) (pc' := 105) rfl (hb hby d5_77) rfl (feq hg).2 (by decide) (by decide) ?_
      show Steps p.tables e below (T8.setTop (mkF m 105 #[.val (.ref a9), .val (.long q1), .second, .val (.int (0 : Int32)), .val (.int (2 : Int32))] [])) _
      refine XS.aloadN X8.here hx rfl (hb hby d5_105) rfl rfl ?_
      show Steps p.tables e below (T8.setTop (mkF m 106 #[.val (.ref a9), .val (.long q1), .second, .val (.int (0 : Int32)), .val (.int (2 : Int32))] [(.ref a9)])) _
      refine st23 _ ?_
      show Steps p.tables e below (T23.setTop (mkF m 109 #[.val (.ref a9), .val (.long q1), .second, .val (.int (0 : Int32)), .val (.int (2 : Int32))] [(.ref A)])) _
      refine XS.iloadN X23.here hx rfl (hb hby d5_109) rfl ?_
      show Steps p.tables e below (T23.setTop (mkF m 110 #[.val (.ref a9), .val (.long q1), .second, .val (.int (0 : Int32)), .val (.int (2 : Int32))] [(.int (0 : Int32)), (.ref A)])) _
      refine X23.aaload hx (j := (0 : Int32)) (v := (.ref B)) (by rw [e23]; exact Ar24.1) (State.isArrayOf_alike hZ.alike Ar24.2.1) rfl Ar24.2.2 hin24 hat24 (g := (mkF m 110 #[.val (.ref a9), .val (.long q1), .second, .val (.int (0 : Int32)), .val (.int (2 : Int32))] [(.int (0 : Int32)), (.ref A)])) rfl rfl (hb hby d5_110) _ ?_
      show Steps p.tables e below (T23.setTop (mkF m 111 #[.val (.ref a9), .val (.long q1), .second, .val (.int (0 : Int32)), .val (.int (2 : Int32))] [(.ref B)])) _
      refine XS.iload X23.here hx rfl (hb hby d5_111) rfl ?_
      show Steps p.tables e below (T23.setTop (mkF m 113 #[.val (.ref a9), .val (.long q1), .second, .val (.int (0 : Int32)), .val (.int (2 : Int32))] [(.int (2 : Int32)), (.ref B)])) _
      refine XS.lloadN X23.here hx rfl (hb hby d5_113) rfl ?_
      show Steps p.tables e below (T23.setTop (mkF m 114 #[.val (.ref a9), .val (.long q1), .second, .val (.int (0 : Int32)), .val (.int (2 : Int32))] [(.long q1), (.int (2 : Int32)), (.ref B)])) _
      refine st25 _ ?_
      show Steps p.tables e below (T25.setTop (mkF m 115 #[.val (.ref a9), .val (.long q1), .second, .val (.int (0 : Int32)), .val (.int (2 : Int32))] [])) _
      refine XS.aloadN X25.here hx rfl (hb hby d5_115) rfl rfl ?_
      show Steps p.tables e below (T25.setTop (mkF m 116 #[.val (.ref a9), .val (.long q1), .second, .val (.int (0 : Int32)), .val (.int (2 : Int32))] [(.ref a9)])) _
      refine XS.dup X25.here hx rfl (hb hby d5_116) rfl rfl ?_
      show Steps p.tables e below (T25.setTop (mkF m 117 #[.val (.ref a9), .val (.long q1), .second, .val (.int (0 : Int32)), .val (.int (2 : Int32))] [(.ref a9), (.ref a9)])) _
      refine st26 _ ?_
      show Steps p.tables e below (T26.setTop (mkF m 120 #[.val (.ref a9), .val (.long q1), .second, .val (.int (0 : Int32)), .val (.int (2 : Int32))] [(.int (2 : Int32)), (.ref a9)])) _
      refine XS.iconst X26.here hx rfl (hb hby d5_120) ?_
      show Steps p.tables e below (T26.setTop (mkF m 121 #[.val (.ref a9), .val (.long q1), .second, .val (.int (0 : Int32)), .val (.int (2 : Int32))] [(.int (1 : Int32)), (.int (2 : Int32)), (.ref a9)])) _
      refine XS.iadd X26.here hx rfl (hb hby d5_121) rfl ?_
      show Steps p.tables e below (T26.setTop (mkF m 122 #[.val (.ref a9), .val (.long q1), .second, .val (.int (0 : Int32)), .val (.int (2 : Int32))] [(.int (3 : Int32)), (.ref a9)])) _
      refine st27 _ ?_
      show Steps p.tables e below (T27.setTop (mkF m 125 #[.val (.ref a9), .val (.long q1), .second, .val (.int (0 : Int32)), .val (.int (2 : Int32))] [])) _
      exact X27.returnOut hx Bd.returns (hb hby d5_125) hr
    · show Q_rmAdd2 n0 Z a9 q1 A kA B kB n v0 v1 h0 _ T27.heap _
      rw [e27]
      exact ⟨B, kB, n, rfl, N27, K27, g_B, ((E_a9.wr W25).wr W27), ((F_blocks_a9.other W25 (Or.inl (Exa.ne E_a9 E_B (by decide)))).other W27 (Or.inr (slot_ne (a0 := a0) (Or.inl (Wd hw 12 rfl)) (Or.inl (Wd hw 28 rfl)) (by decide) (t := (.array (.array .long))) (t' := .int) (by decide) (by decide)))), Fw27, ((E_B.wr W25).wr W27), ((V_A.other W25 (own_neArv V_A V_B (by decide))).other W27 (Ne.symm (Exa.neArv (a0 := a0) E_a9 V_A (Wd hw 1 rfl)))), (V25.other W27 (Exa.ne E_B E_a9 (by decide))), hin⟩
def Q_rmAdd3 (n0 : Nat) (Z : State) (a9 : Addr) (q1 : Int64) (A : Addr) (kA : ClassId) (B : Addr) (kB : ClassId) (n : Int32) (v0 : Int64) (v1 : Int64) (v2 : Int64) (h0 : Heap) (v : Option Value) (h : Heap) (L : List Loc) : Prop := ∃ Bn : Addr, ∃ kBn : ClassId, ∃ nn : Int32, v = none ∧ Fr n0 L ∧ Keep h0 h [a9, A, B] ∧ (n0 ≤ Bn) ∧ (Exa Z h a9 "com/example/inchworm/inchworm/KeyBlocks") ∧ (Fld Z h a9 "com/example/inchworm/inchworm/KeyBlocks" "blocks" "[[J" (.ref A)) ∧ (Fld Z h a9 "com/example/inchworm/inchworm/KeyBlocks" "size" "I" (.int (4 : Int32))) ∧ (Exa Z h Bn "[J") ∧ (Arv Z h A kA (.array .long) (1 : Int32) [(.ref Bn)] .null) ∧ (Arv Z h Bn kBn .long nn [(.long v0), (.long v1), (.long v2), (.long q1)] (.long (0 : Int64))) ∧ ((3 : Int32) < nn)
set_option maxRecDepth 65536 in
set_option maxHeartbeats 40000000 in
theorem rmAdd3 (l : Launch) (Z : State) (a0 : Array Value) (hw : ∀ d ∈ tables_1, d.before a0 Z = true) (ws : List Jvm.Cond) (a9 : Addr) (q1 : Int64) (A : Addr) (kA : ClassId) (B : Addr) (kB : ClassId) (n : Int32) (v0 : Int64) (v1 : Int64) (v2 : Int64) (h0 : Heap) (n0 : Nat) (O0 : Old Z n0 h0) (GL : GF Z) (E_a9 : Exa Z h0 a9 "com/example/inchworm/inchworm/KeyBlocks") (F_blocks_a9 : Fld Z h0 a9 "com/example/inchworm/inchworm/KeyBlocks" "blocks" "[[J" (.ref A)) (F_size_a9 : Fld Z h0 a9 "com/example/inchworm/inchworm/KeyBlocks" "size" "I" (.int (3 : Int32))) (V_A : Arv Z h0 A kA (.array .long) (1 : Int32) [(.ref B)] .null) (E_B : Exa Z h0 B "[J") (V_B : Arv Z h0 B kB .long n [(.long v0), (.long v1), (.long v2), (.long (0 : Int64))] (.long (0 : Int64))) (hov : OvrA Z kA .long "[J") (hlt : (2 : Int32) < n) (g_a9 : n0 ≤ a9) (g_A : n0 ≤ A) (g_B : n0 ≤ B) :
    MetFree l MN_4 (head1 (Jvm.Cond.code MN_4 prog_38_method_3_code 5 none :: ws) ({ frames := 2, cells := 1, slots := 6, locals := 34 } : Room)) (fun a U => a = #[(.ref a9), (.long q1)] ∧ Z.Warmed39 U.vm ∧ U.heap = h0) (fun _ _ _ _ _ => True) (fun _ U o U' => ∃ v L, o = .returned v ∧ Q_rmAdd3 n0 Z a9 q1 A kA B kB n v0 v1 v2 h0 v U'.heap L ∧ FrameEnd U o U' L ({ frames := 2, cells := 1, slots := 6, locals := 34 } : Room).cells ({ frames := 2, cells := 1, slots := 6, locals := 34 } : Room).slots) := by
  refine MetFree.of_bodySF (plainFor_of_name pn) hisR ?_
  intro p e s m args below meth c s₁ Bd hml0 hP hK
  obtain ⟨rfl, hZ, hh⟩ := hP
  have hx := Bd.exec
  have hby := Bd.bytes
  have hml : c.maxLocals = 5 := hml0
  have hown : s.vm.findClass "com/example/inchworm/inchworm/KeyBlocks" = some m.cls := findClass_of_methodNamed Bd.named
  have hnm := (name_of_methodNamed Bd.named Bd.method).1
  have X0 : Stand p l e ({ frames := 2, cells := 1, slots := 6, locals := 34 } : Room) s m #[(.ref a9), (.long q1)] below meth c s₁ [] 0 0 := Stand.of_body Bd
  have e0 : s₁.heap = h0 := by rw [← hh, Bd.state]; rfl
  have N0 := Fr.nil n0
  have pre0 : ∀ t, Steps p.tables e below (s₁.setTop (mkF m 0 #[.val (.ref a9), .val (.long q1), .second, .unset, .unset] [])) t → Steps p.tables e below (s₁.setTop (entryFrame m #[(.ref a9), (.long q1)] 5)) t := fun t k => castTop (ef_rmAdd0 m a9 q1) k
  have GSB := GL
  obtain ⟨T1, X1, e1, st1⟩ := getF X0 hx hZ hown (host := "") (Or.inl (Wd hw 27 rfl)) Via.refl e0 F_size_a9 (g := (mkF m 1 #[.val (.ref a9), .val (.long q1), .second, .unset, .unset] [(.ref a9)])) rfl rfl (hb hby d5_1)
  obtain ⟨T2, X2, e2, st2⟩ := getS2 X1 hx hZ hown (host := "") (Or.inl (Wd hw 29 rfl)) Via.refl e1 (GSB.ext O0.2) (g := (mkF m 4 #[.val (.ref a9), .val (.long q1), .second, .unset, .unset] [(.int (3 : Int32))])) rfl (hb hby d5_4)
  obtain ⟨T3, X3, e3, st3⟩ := getF X2 hx hZ hown (host := "") (Or.inl (Wd hw 27 rfl)) Via.refl e2 F_size_a9 (g := (mkF m 10 #[.val (.ref a9), .val (.long q1), .second, .val (.int (0 : Int32)), .unset] [(.ref a9)])) rfl rfl (hb hby d5_10)
  obtain ⟨T4, X4, e4, st4⟩ := getF X3 hx hZ hown (host := "") (Or.inl (Wd hw 11 rfl)) Via.refl e3 F_blocks_a9 (g := (mkF m 21 #[.val (.ref a9), .val (.long q1), .second, .val (.int (0 : Int32)), .val (.int (3 : Int32))] [(.ref a9), (.int (0 : Int32))])) rfl rfl (hb hby d5_21)
  obtain ⟨cl5, Ar5, -, S5, N5_, -, -⟩ := id (V_A)
  obtain ⟨T6, X6, e6, st6⟩ := getF X4 hx hZ hown (host := "") (Or.inl (Wd hw 11 rfl)) Via.refl e4 F_blocks_a9 (g := (mkF m 46 #[.val (.ref a9), .val (.long q1), .second, .val (.int (0 : Int32)), .val (.int (3 : Int32))] [(.ref a9)])) rfl rfl (hb hby d5_46)
  obtain ⟨cl7, Ar7, -, S7, N7_, H7, G7⟩ := id (V_A)
  have hin7 : ¬ ((0 : Int32) < 0 ∨ cl7.slots.size ≤ ((0 : Int32)).toNatClampNeg) := inb_of S7 ⟨(by decide), (by decide)⟩
  have hat7 : cl7.slots[((0 : Int32)).toNatClampNeg]? = some (.ref B) := H7.at hin7 rfl
  obtain ⟨T8, X8, e8, st8⟩ := getF X6 hx hZ hown (host := "") (Or.inl (Wd hw 11 rfl)) Via.refl e6 F_blocks_a9 (g := (mkF m 71 #[.val (.ref a9), .val (.long q1), .second, .val (.int (0 : Int32)), .val (.int (3 : Int32))] [(.ref a9), (.int (3 : Int32))])) rfl rfl (hb hby d5_71)
  obtain ⟨cl9, Ar9, -, S9, N9_, H9, G9⟩ := id (V_A)
  have hin9 : ¬ ((0 : Int32) < 0 ∨ cl9.slots.size ≤ ((0 : Int32)).toNatClampNeg) := inb_of S9 ⟨(by decide), (by decide)⟩
  have hat9 : cl9.slots[((0 : Int32)).toNatClampNeg]? = some (.ref B) := H9.at hin9 rfl
  obtain ⟨cl10, Ar10, -, S10, N10_, -, -⟩ := id (V_B)
  have pre11 : ∀ t, Steps p.tables e below (T8.setTop (mkF m 77 #[.val (.ref a9), .val (.long q1), .second, .val (.int (0 : Int32)), .val (.int (3 : Int32))] [(.int n), (.int (3 : Int32))])) t → Steps p.tables e below (s₁.setTop (entryFrame m #[(.ref a9), (.long q1)] 5)) t := fun t kt => by
    refine pre0 t ?_
    show Steps p.tables e below (s₁.setTop (mkF m 0 #[.val (.ref a9), .val (.long q1), .second, .unset, .unset] [])) _
    refine XS.aloadN X0.here hx rfl (hb hby d5_0) rfl rfl ?_
    show Steps p.tables e below (s₁.setTop (mkF m 1 #[.val (.ref a9), .val (.long q1), .second, .unset, .unset] [(.ref a9)])) _
    refine st1 _ ?_
    show Steps p.tables e below (T1.setTop (mkF m 4 #[.val (.ref a9), .val (.long q1), .second, .unset, .unset] [(.int (3 : Int32))])) _
    refine st2 _ ?_
    show Steps p.tables e below (T2.setTop (mkF m 7 #[.val (.ref a9), .val (.long q1), .second, .unset, .unset] [(.int (13 : Int32)), (.int (3 : Int32))])) _
    refine XS.iushr X2.here hx rfl (hb hby d5_7) rfl ?_
    show Steps p.tables e below (T2.setTop (mkF m 8 #[.val (.ref a9), .val (.long q1), .second, .unset, .unset] [(.int (0 : Int32))])) _
    refine XS.istoreN X2.here hx rfl (hb hby d5_8) rfl (l' := #[.val (.ref a9), .val (.long q1), .second, .val (.int (0 : Int32)), .unset]) rfl ?_
    show Steps p.tables e below (T2.setTop (mkF m 9 #[.val (.ref a9), .val (.long q1), .second, .val (.int (0 : Int32)), .unset] [])) _
    refine XS.aloadN X2.here hx rfl (hb hby d5_9) rfl rfl ?_
    show Steps p.tables e below (T2.setTop (mkF m 10 #[.val (.ref a9), .val (.long q1), .second, .val (.int (0 : Int32)), .unset] [(.ref a9)])) _
    refine st3 _ ?_
    show Steps p.tables e below (T3.setTop (mkF m 13 #[.val (.ref a9), .val (.long q1), .second, .val (.int (0 : Int32)), .unset] [(.int (3 : Int32))])) _
    refine XS.sipush X3.here hx rfl (hb hby d5_13) ?_
    show Steps p.tables e below (T3.setTop (mkF m 16 #[.val (.ref a9), .val (.long q1), .second, .val (.int (0 : Int32)), .unset] [(.int (8191 : Int32)), (.int (3 : Int32))])) _
    refine XS.iand X3.here hx rfl (hb hby d5_16) rfl ?_
    show Steps p.tables e below (T3.setTop (mkF m 17 #[.val (.ref a9), .val (.long q1), .second, .val (.int (0 : Int32)), .unset] [(.int (3 : Int32))])) _
    refine XS.istore X3.here hx rfl (hb hby d5_17) rfl (l' := #[.val (.ref a9), .val (.long q1), .second, .val (.int (0 : Int32)), .val (.int (3 : Int32))]) rfl ?_
    show Steps p.tables e below (T3.setTop (mkF m 19 #[.val (.ref a9), .val (.long q1), .second, .val (.int (0 : Int32)), .val (.int (3 : Int32))] [])) _
    refine XS.iloadN X3.here hx rfl (hb hby d5_19) rfl ?_
    show Steps p.tables e below (T3.setTop (mkF m 20 #[.val (.ref a9), .val (.long q1), .second, .val (.int (0 : Int32)), .val (.int (3 : Int32))] [(.int (0 : Int32))])) _
    refine XS.aloadN X3.here hx rfl (hb hby d5_20) rfl rfl ?_
    show Steps p.tables e below (T3.setTop (mkF m 21 #[.val (.ref a9), .val (.long q1), .second, .val (.int (0 : Int32)), .val (.int (3 : Int32))] [(.ref a9), (.int (0 : Int32))])) _
    refine st4 _ ?_
    show Steps p.tables e below (T4.setTop (mkF m 24 #[.val (.ref a9), .val (.long q1), .second, .val (.int (0 : Int32)), .val (.int (3 : Int32))] [(.ref A), (.int (0 : Int32))])) _
    refine X4.arraylength hx (by rw [e4]; exact Ar5.1) (State.isArrayOf_alike hZ.alike Ar5.2.1) (g := (mkF m 24 #[.val (.ref a9), .val (.long q1), .second, .val (.int (0 : Int32)), .val (.int (3 : Int32))] [(.ref A), (.int (0 : Int32))])) rfl rfl (hb hby d5_24) _ ?_
    rw [len_of S5 N5_]
    show Steps p.tables e below (T4.setTop (mkF m 25 #[.val (.ref a9), .val (.long q1), .second, .val (.int (0 : Int32)), .val (.int (3 : Int32))] [(.int (1 : Int32)), (.int (0 : Int32))])) _
    refine XS.icmpYes X4.here hx rfl (pc0 := 25) (pc' := 45) rfl (hb hby d5_25) rfl (feq (by decide : ¬ ((0 : Int32) = (1 : Int32)))).2 (by decide) (by decide) ?_
    show Steps p.tables e below (T4.setTop (mkF m 45 #[.val (.ref a9), .val (.long q1), .second, .val (.int (0 : Int32)), .val (.int (3 : Int32))] [])) _
    refine XS.aloadN X4.here hx rfl (hb hby d5_45) rfl rfl ?_
    show Steps p.tables e below (T4.setTop (mkF m 46 #[.val (.ref a9), .val (.long q1), .second, .val (.int (0 : Int32)), .val (.int (3 : Int32))] [(.ref a9)])) _
    refine st6 _ ?_
    show Steps p.tables e below (T6.setTop (mkF m 49 #[.val (.ref a9), .val (.long q1), .second, .val (.int (0 : Int32)), .val (.int (3 : Int32))] [(.ref A)])) _
    refine XS.iloadN X6.here hx rfl (hb hby d5_49) rfl ?_
    show Steps p.tables e below (T6.setTop (mkF m 50 #[.val (.ref a9), .val (.long q1), .second, .val (.int (0 : Int32)), .val (.int (3 : Int32))] [(.int (0 : Int32)), (.ref A)])) _
    refine X6.aaload hx (j := (0 : Int32)) (v := (.ref B)) (by rw [e6]; exact Ar7.1) (State.isArrayOf_alike hZ.alike Ar7.2.1) rfl Ar7.2.2 hin7 hat7 (g := (mkF m 50 #[.val (.ref a9), .val (.long q1), .second, .val (.int (0 : Int32)), .val (.int (3 : Int32))] [(.int (0 : Int32)), (.ref A)])) rfl rfl (hb hby d5_50) _ ?_
    show Steps p.tables e below (T6.setTop (mkF m 51 #[.val (.ref a9), .val (.long q1), .second, .val (.int (0 : Int32)), .val (.int (3 : Int32))] [(.ref B)])) _
    refine XS.ifnonnullYes X6.here hx rfl (pc0 := 51) (pc' := 68) rfl (hb hby d5_51) rfl (by decide) (by decide) ?_
    show Steps p.tables e below (T6.setTop (mkF m 68 #[.val (.ref a9), .val (.long q1), .second, .val (.int (0 : Int32)), .val (.int (3 : Int32))] [])) _
    refine XS.iload X6.here hx rfl (hb hby d5_68) rfl ?_
    show Steps p.tables e below (T6.setTop (mkF m 70 #[.val (.ref a9), .val (.long q1), .second, .val (.int (0 : Int32)), .val (.int (3 : Int32))] [(.int (3 : Int32))])) _
    refine XS.aloadN X6.here hx rfl (hb hby d5_70) rfl rfl ?_
    show Steps p.tables e below (T6.setTop (mkF m 71 #[.val (.ref a9), .val (.long q1), .second, .val (.int (0 : Int32)), .val (.int (3 : Int32))] [(.ref a9), (.int (3 : Int32))])) _
    refine st8 _ ?_
    show Steps p.tables e below (T8.setTop (mkF m 74 #[.val (.ref a9), .val (.long q1), .second, .val (.int (0 : Int32)), .val (.int (3 : Int32))] [(.ref A), (.int (3 : Int32))])) _
    refine XS.iloadN X8.here hx rfl (hb hby d5_74) rfl ?_
    show Steps p.tables e below (T8.setTop (mkF m 75 #[.val (.ref a9), .val (.long q1), .second, .val (.int (0 : Int32)), .val (.int (3 : Int32))] [(.int (0 : Int32)), (.ref A), (.int (3 : Int32))])) _
    refine X8.aaload hx (j := (0 : Int32)) (v := (.ref B)) (by rw [e8]; exact Ar9.1) (State.isArrayOf_alike hZ.alike Ar9.2.1) rfl Ar9.2.2 hin9 hat9 (g := (mkF m 75 #[.val (.ref a9), .val (.long q1), .second, .val (.int (0 : Int32)), .val (.int (3 : Int32))] [(.int (0 : Int32)), (.ref A), (.int (3 : Int32))])) rfl rfl (hb hby d5_75) _ ?_
    show Steps p.tables e below (T8.setTop (mkF m 76 #[.val (.ref a9), .val (.long q1), .second, .val (.int (0 : Int32)), .val (.int (3 : Int32))] [(.ref B), (.int (3 : Int32))])) _
    refine X8.arraylength hx (by rw [e8]; exact Ar10.1) (State.isArrayOf_alike hZ.alike Ar10.2.1) (g := (mkF m 76 #[.val (.ref a9), .val (.long q1), .second, .val (.int (0 : Int32)), .val (.int (3 : Int32))] [(.ref B), (.int (3 : Int32))])) rfl rfl (hb hby d5_76) _ ?_
    rw [len_of S10 N10_]
    exact kt
  by_cases hg : (3 : Int32) = n
  · obtain ⟨T12, X12, e12, st12⟩ := getF X8 hx hZ hown (host := "") (Or.inl (Wd hw 11 rfl)) Via.refl e8 F_blocks_a9 (g := (mkF m 81 #[.val (.ref a9), .val (.long q1), .second, .val (.int (0 : Int32)), .val (.int (3 : Int32))] [(.ref a9)])) rfl rfl (hb hby d5_81)
    obtain ⟨T13, X13, e13, st13⟩ := getF X12 hx hZ hown (host := "") (Or.inl (Wd hw 11 rfl)) Via.refl e12 F_blocks_a9 (g := (mkF m 86 #[.val (.ref a9), .val (.long q1), .second, .val (.int (0 : Int32)), .val (.int (3 : Int32))] [(.ref a9), (.int (0 : Int32)), (.ref A)])) rfl rfl (hb hby d5_86)
    obtain ⟨cl14, Ar14, -, S14, N14_, H14, G14⟩ := id (V_A)
    have hin14 : ¬ ((0 : Int32) < 0 ∨ cl14.slots.size ≤ ((0 : Int32)).toNatClampNeg) := inb_of S14 ⟨(by decide), (by decide)⟩
    have hat14 : cl14.slots[((0 : Int32)).toNatClampNeg]? = some (.ref B) := H14.at hin14 rfl
    obtain ⟨_, _, ⟨T15, L15, k15, n15⟩, -, X15, ⟨Lc15, hQ15, l15, y15, z15⟩, st15⟩ := Jvm.LawKit.callS X13 hx (y := MN_1) hown (mvT hZ (Wd hw 13 rfl)) (mvT hZ (Wd hw 14 rfl)) (mvT hZ (Wd hw 15 rfl)) (mvT hZ (Wd hw 16 rfl)) (by decide) (backOf (W := 3) (rmMin l Z a0 hw [] ((6 : Int32)) ((8192 : Int32)) (h0) n0 O0 GL) hZ (Wd hw 16 rfl) (Wd hw 15 rfl) (by decide) (by decide)) (g := (mkF m 98 #[.val (.ref a9), .val (.long q1), .second, .val (.int (0 : Int32)), .val (.int (3 : Int32))] [(.int (8192 : Int32)), (.int (6 : Int32)), (.ref B), (.int (0 : Int32)), (.ref A)])) rfl (by rw [hml]; rfl) (argsL := [(.int (6 : Int32)), (.int (8192 : Int32))]) (rest := [(.ref B), (.int (0 : Int32)), (.ref A)]) (lenOf pd rfl) rfl (by show 2 * 0 + _ ≤ _; exact Nat.le_of_eq rfl) (hb hby d5_98) (fun _ _ => ⟨rfl, e13, (by decide : 0 + 0 ≤ _), (by decide : 0 + 0 ≤ _)⟩)
    dsimp only [Pt.U, Pt.locs, Pt.cells, Pt.slots] at X15 l15 y15 z15 st15 hQ15
    subst l15 y15 z15
    obtain ⟨rfl, N15q, e15⟩ := hQ15
    have N15 := Fr.app N0 N15q
    have Vg := own_arvn hg.symm V_B
    obtain ⟨_, _, ⟨T16, L16, k16, n16⟩, -, X16, ⟨Lc16, hQ16, l16, y16, z16⟩, st16⟩ := Jvm.LawKit.callS X15 hx (y := MN_3) hown (mvT hZ (Wd hw 31 rfl)) (mvT hZ (Wd hw 32 rfl)) (mvT hZ (Wd hw 33 rfl)) (mvT hZ (Wd hw 34 rfl)) (by decide) (backOf (W := 2) (rmCp3 l Z a0 hw [] (B) (kB) (v0) (v1) (v2) ((0 : Int64)) (h0) n0 O0 GL Vg) hZ (Wd hw 34 rfl) (Wd hw 33 rfl) (by decide) (by decide)) (g := (mkF m 101 #[.val (.ref a9), .val (.long q1), .second, .val (.int (0 : Int32)), .val (.int (3 : Int32))] [(.int (6 : Int32)), (.ref B), (.int (0 : Int32)), (.ref A)])) rfl (by rw [hml]; rfl) (argsL := [(.ref B), (.int (6 : Int32))]) (rest := [(.int (0 : Int32)), (.ref A)]) (lenOf pdv1 rfl) rfl (by show 2 * 0 + _ ≤ _; exact Nat.le_of_eq rfl) (hb hby d5_101) (fun _ _ => ⟨rfl, e15, (by decide : 0 + 1 ≤ _), (by decide : 0 + 6 ≤ _)⟩)
    dsimp only [Pt.U, Pt.locs, Pt.cells, Pt.slots] at X16 l16 y16 z16 st16 hQ16
    subst l16 y16 z16
    obtain ⟨b_16, kb_16, rfl, N16q, Kc16, P16_0, P16_1, P16_2⟩ := hQ16
    have K16 : Keep h0 T16.heap [a9, A, B] := (Keep.refl h0 [a9, A, B]).trans Kc16 all0
    have O16 := O0.keep Kc16 all0
    have g_b_16 : n0 ≤ b_16 := Nat.le_trans (own_sz O0) P16_0
    have sz_b_16 : h0.size ≤ b_16 := Nat.le_trans (Keep.refl h0 [a9, A, B]).1 P16_0
    have N16 := Fr.app N15 N16q
    obtain ⟨cl17, Ar17, q17, S17, N17_, H17, G17⟩ := id ((V_A.keep Kc16 nin0))
    have hin17 : ¬ ((0 : Int32) < 0 ∨ cl17.slots.size ≤ ((0 : Int32)).toNatClampNeg) := inb_of S17 ⟨(by decide), (by decide)⟩
    obtain ⟨T17, h17, X17, e17, W17, st17⟩ := stR X16 hx hZ rfl Ar17 (j := (0 : Int32)) hin17 rfl (Sto.ofVA Ar17 q17 hov (Ins.self P16_1)) (g := (mkF m 104 #[.val (.ref a9), .val (.long q1), .second, .val (.int (0 : Int32)), .val (.int (3 : Int32))] [(.ref b_16), (.int (0 : Int32)), (.ref A)])) rfl rfl (hb hby d5_104)
    have K17 : Keep h0 h17 [a9, A, B] := K16.wr W17 (Or.inl (List.mem_of_getElem? (i := 1) rfl))
    have O17 := O16.wr W17 g_A
    have N17 := Fr.snoc X17 N16 g_A
    have V17 : Arv Z h17 A kA (.array .long) (1 : Int32) [(.ref b_16)] .null := Arv.set Ar17 q17 S17 N17_ H17 G17 rfl W17 0 rfl (Nat.le_of_ble_eq_true rfl)
    have Vp := (P16_2.other W17 (Ne.symm (Nat.ne_of_lt (Nat.lt_of_lt_of_le V_A.lt P16_0)))).pad (own_pad6 (.long v0) (.long v1) (.long v2) (.long (0 : Int64)))
    obtain ⟨T18, X18, e18, st18⟩ := getF X17 hx hZ hown (host := "") (Or.inl (Wd hw 11 rfl)) Via.refl e17 ((F_blocks_a9.keep Kc16 nin0).other W17 (Or.inl (Exa.neArv (a0 := a0) E_a9 V_A (Wd hw 1 rfl)))) (g := (mkF m 106 #[.val (.ref a9), .val (.long q1), .second, .val (.int (0 : Int32)), .val (.int (3 : Int32))] [(.ref a9)])) rfl rfl (hb hby d5_106)
    obtain ⟨cl19, Ar19, -, S19, N19_, H19, G19⟩ := id (V17)
    have hin19 : ¬ ((0 : Int32) < 0 ∨ cl19.slots.size ≤ ((0 : Int32)).toNatClampNeg) := inb_of S19 ⟨(by decide), (by decide)⟩
    have hat19 : cl19.slots[((0 : Int32)).toNatClampNeg]? = some (.ref b_16) := H19.at hin19 rfl
    obtain ⟨cl20, Ar20, q20, S20, N20_, H20, G20⟩ := id (Vp)
    have hin20 : ¬ ((3 : Int32) < 0 ∨ cl20.slots.size ≤ ((3 : Int32)).toNatClampNeg) := inb_of S20 ⟨(by decide), (by decide)⟩
    obtain ⟨T20, h20, X20, e20, W20, st20⟩ := stJ X18 hx hZ e18 Ar20 (j := (3 : Int32)) hin20 (g := (mkF m 114 #[.val (.ref a9), .val (.long q1), .second, .val (.int (0 : Int32)), .val (.int (3 : Int32))] [(.long q1), (.int (3 : Int32)), (.ref b_16)])) rfl rfl (hb hby d5_114)
    have K20 : Keep h0 h20 [a9, A, B] := K17.wr W20 (Or.inr sz_b_16)
    have O20 := O17.wr W20 g_b_16
    have N20 := Fr.snoc X20 N17 g_b_16
    have V20 : Arv Z h20 b_16 kb_16 .long (6 : Int32) [(.long v0), (.long v1), (.long v2), (.long q1)] (.long (0 : Int64)) := Arv.set Ar20 q20 S20 N20_ H20 G20 rfl W20 3 rfl (Nat.le_of_ble_eq_true rfl)
    obtain ⟨T21, X21, e21, st21⟩ := getF X20 hx hZ hown (host := "") (Or.inl (Wd hw 27 rfl)) Via.refl e20 (((F_size_a9.keep Kc16 nin0).other W17 (Or.inl (Exa.neArv (a0 := a0) E_a9 V_A (Wd hw 1 rfl)))).other W20 (Or.inl (Nat.ne_of_lt (Nat.lt_of_lt_of_le E_a9.lt P16_0)))) (g := (mkF m 117 #[.val (.ref a9), .val (.long q1), .second, .val (.int (0 : Int32)), .val (.int (3 : Int32))] [(.ref a9), (.ref a9)])) rfl rfl (hb hby d5_117)
    obtain ⟨T22, h22, X22, e22, W22, st22⟩ := putF X21 hx hZ hown (host := "") (Or.inl (Wd hw 27 rfl)) Via.refl e21 (((F_size_a9.keep Kc16 nin0).other W17 (Or.inl (Exa.neArv (a0 := a0) E_a9 V_A (Wd hw 1 rfl)))).other W20 (Or.inl (Nat.ne_of_lt (Nat.lt_of_lt_of_le E_a9.lt P16_0)))) (((E_a9.keep Kc16).wr W17).wr W20) (Or.inl (Wd hw 28 rfl)) (Wd hw 1 rfl) (ty := .int) (by decide) rfl rfl (g := (mkF m 122 #[.val (.ref a9), .val (.long q1), .second, .val (.int (0 : Int32)), .val (.int (3 : Int32))] [(.int (4 : Int32)), (.ref a9)])) rfl rfl (hb hby d5_122)
    have Fw22 := (((F_size_a9.keep Kc16 nin0).other W17 (Or.inl (Exa.neArv (a0 := a0) E_a9 V_A (Wd hw 1 rfl)))).other W20 (Or.inl (Nat.ne_of_lt (Nat.lt_of_lt_of_le E_a9.lt P16_0)))).same W22
    have K22 : Keep h0 h22 [a9, A, B] := K20.wr W22 (Or.inl (List.mem_of_getElem? (i := 0) rfl))
    have O22 := O20.wr W22 g_a9
    have N22 := Fr.snoc X22 N20 g_a9
    obtain ⟨fs, hr, hrun, hended, hW, hsame⟩ := X22.leave (v := none) (fun _ => rfl)
    refine ⟨_, _, pre11 _ ?_, hrun, hended, _, _, rfl, ?_, ⟨_, rfl⟩, hW, hsame.mono (by decide) (by decide)⟩
    · show Steps p.tables e below (T8.setTop (mkF m 77 #[.val (.ref a9), .val (.long q1), .second, .val (.int (0 : Int32)), .val (.int (3 : Int32))] [(.int n), (.int (3 : Int32))])) _
      refine XS.icmpNo X8.here hx rfl (hb hby d5_77) rfl (teq hg).2 ?_
      show Steps p.tables e below (T8.setTop (mkF m 80 #[.val (.ref a9), .val (.long q1), .second, .val (.int (0 : Int32)), .val (.int (3 : Int32))] [])) _
      refine XS.aloadN X8.here hx rfl (hb hby d5_80) rfl rfl ?_
      show Steps p.tables e below (T8.setTop (mkF m 81 #[.val (.ref a9), .val (.long q1), .second, .val (.int (0 : Int32)), .val (.int (3 : Int32))] [(.ref a9)])) _
      refine st12 _ ?_
      show Steps p.tables e below (T12.setTop (mkF m 84 #[.val (.ref a9), .val (.long q1), .second, .val (.int (0 : Int32)), .val (.int (3 : Int32))] [(.ref A)])) _
      refine XS.iloadN X12.here hx rfl (hb hby d5_84) rfl ?_
      show Steps p.tables e below (T12.setTop (mkF m 85 #[.val (.ref a9), .val (.long q1), .second, .val (.int (0 : Int32)), .val (.int (3 : Int32))] [(.int (0 : Int32)), (.ref A)])) _
      refine XS.aloadN X12.here hx rfl (hb hby d5_85) rfl rfl ?_
      show Steps p.tables e below (T12.setTop (mkF m 86 #[.val (.ref a9), .val (.long q1), .second, .val (.int (0 : Int32)), .val (.int (3 : Int32))] [(.ref a9), (.int (0 : Int32)), (.ref A)])) _
      refine st13 _ ?_
      show Steps p.tables e below (T13.setTop (mkF m 89 #[.val (.ref a9), .val (.long q1), .second, .val (.int (0 : Int32)), .val (.int (3 : Int32))] [(.ref A), (.int (0 : Int32)), (.ref A)])) _
      refine XS.iloadN X13.here hx rfl (hb hby d5_89) rfl ?_
      show Steps p.tables e below (T13.setTop (mkF m 90 #[.val (.ref a9), .val (.long q1), .second, .val (.int (0 : Int32)), .val (.int (3 : Int32))] [(.int (0 : Int32)), (.ref A), (.int (0 : Int32)), (.ref A)])) _
      refine X13.aaload hx (j := (0 : Int32)) (v := (.ref B)) (by rw [e13]; exact Ar14.1) (State.isArrayOf_alike hZ.alike Ar14.2.1) rfl Ar14.2.2 hin14 hat14 (g := (mkF m 90 #[.val (.ref a9), .val (.long q1), .second, .val (.int (0 : Int32)), .val (.int (3 : Int32))] [(.int (0 : Int32)), (.ref A), (.int (0 : Int32)), (.ref A)])) rfl rfl (hb hby d5_90) _ ?_
      show Steps p.tables e below (T13.setTop (mkF m 91 #[.val (.ref a9), .val (.long q1), .second, .val (.int (0 : Int32)), .val (.int (3 : Int32))] [(.ref B), (.int (0 : Int32)), (.ref A)])) _
      refine XS.iconst X13.here hx rfl (hb hby d5_91) ?_
      show Steps p.tables e below (T13.setTop (mkF m 92 #[.val (.ref a9), .val (.long q1), .second, .val (.int (0 : Int32)), .val (.int (3 : Int32))] [(.int (2 : Int32)), (.ref B), (.int (0 : Int32)), (.ref A)])) _
      refine XS.iload X13.here hx rfl (hb hby d5_92) rfl ?_
      show Steps p.tables e below (T13.setTop (mkF m 94 #[.val (.ref a9), .val (.long q1), .second, .val (.int (0 : Int32)), .val (.int (3 : Int32))] [(.int (3 : Int32)), (.int (2 : Int32)), (.ref B), (.int (0 : Int32)), (.ref A)])) _
      refine XS.imul X13.here hx rfl (hb hby d5_94) rfl ?_
      show Steps p.tables e below (T13.setTop (mkF m 95 #[.val (.ref a9), .val (.long q1), .second, .val (.int (0 : Int32)), .val (.int (3 : Int32))] [(.int (6 : Int32)), (.ref B), (.int (0 : Int32)), (.ref A)])) _
      refine XS.sipush X13.here hx rfl (hb hby d5_95) ?_
      show Steps p.tables e below (T13.setTop (mkF m 98 #[.val (.ref a9), .val (.long q1), .second, .val (.int (0 : Int32)), .val (.int (3 : Int32))] [(.int (8192 : Int32)), (.int (6 : Int32)), (.ref B), (.int (0 : Int32)), (.ref A)])) _
      refine st15 _ ?_
      show Steps p.tables e below (T15.setTop (mkF m 101 #[.val (.ref a9), .val (.long q1), .second, .val (.int (0 : Int32)), .val (.int (3 : Int32))] [(.int (own_minI (6 : Int32) (8192 : Int32))), (.ref B), (.int (0 : Int32)), (.ref A)])) _
      show Steps p.tables e below (T15.setTop (mkF m 101 #[.val (.ref a9), .val (.long q1), .second, .val (.int (0 : Int32)), .val (.int (3 : Int32))] [(.int (6 : Int32)), (.ref B), (.int (0 : Int32)), (.ref A)])) _
      refine st16 _ ?_
      show Steps p.tables e below (T16.setTop (mkF m 104 #[.val (.ref a9), .val (.long q1), .second, .val (.int (0 : Int32)), .val (.int (3 : Int32))] [(.ref b_16), (.int (0 : Int32)), (.ref A)])) _
      refine st17 _ ?_
      show Steps p.tables e below (T17.setTop (mkF m 105 #[.val (.ref a9), .val (.long q1), .second, .val (.int (0 : Int32)), .val (.int (3 : Int32))] [])) _
      refine XS.aloadN X17.here hx rfl (hb hby d5_105) rfl rfl ?_
      show Steps p.tables e below (T17.setTop (mkF m 106 #[.val (.ref a9), .val (.long q1), .second, .val (.int (0 : Int32)), .val (.int (3 : Int32))] [(.ref a9)])) _
      refine st18 _ ?_
      show Steps p.tables e below (T18.setTop (mkF m 109 #[.val (.ref a9), .val (.long q1), .second, .val (.int (0 : Int32)), .val (.int (3 : Int32))] [(.ref A)])) _
      refine XS.iloadN X18.here hx rfl (hb hby d5_109) rfl ?_
      show Steps p.tables e below (T18.setTop (mkF m 110 #[.val (.ref a9), .val (.long q1), .second, .val (.int (0 : Int32)), .val (.int (3 : Int32))] [(.int (0 : Int32)), (.ref A)])) _
      refine X18.aaload hx (j := (0 : Int32)) (v := (.ref b_16)) (by rw [e18]; exact Ar19.1) (State.isArrayOf_alike hZ.alike Ar19.2.1) rfl Ar19.2.2 hin19 hat19 (g := (mkF m 110 #[.val (.ref a9), .val (.long q1), .second, .val (.int (0 : Int32)), .val (.int (3 : Int32))] [(.int (0 : Int32)), (.ref A)])) rfl rfl (hb hby d5_110) _ ?_
      show Steps p.tables e below (T18.setTop (mkF m 111 #[.val (.ref a9), .val (.long q1), .second, .val (.int (0 : Int32)), .val (.int (3 : Int32))] [(.ref b_16)])) _
      refine XS.iload X18.here hx rfl (hb hby d5_111) rfl ?_
      show Steps p.tables e below (T18.setTop (mkF m 113 #[.val (.ref a9), .val (.long q1), .second, .val (.int (0 : Int32)), .val (.int (3 : Int32))] [(.int (3 : Int32)), (.ref b_16)])) _
      refine XS.lloadN X18.here hx rfl (hb hby d5_113) rfl ?_
      show Steps p.tables e below (T18.setTop (mkF m 114 #[.val (.ref a9), .val (.long q1), .second, .val (.int (0 : Int32)), .val (.int (3 : Int32))] [(.long q1), (.int (3 : Int32)), (.ref b_16)])) _
      refine st20 _ ?_
      show Steps p.tables e below (T20.setTop (mkF m 115 #[.val (.ref a9), .val (.long q1), .second, .val (.int (0 : Int32)), .val (.int (3 : Int32))] [])) _
      refine XS.aloadN X20.here hx rfl (hb hby d5_115) rfl rfl ?_
      show Steps p.tables e below (T20.setTop (mkF m 116 #[.val (.ref a9), .val (.long q1), .second, .val (.int (0 : Int32)), .val (.int (3 : Int32))] [(.ref a9)])) _
      refine XS.dup X20.here hx rfl (hb hby d5_116) rfl rfl ?_
      show Steps p.tables e below (T20.setTop (mkF m 117 #[.val (.ref a9), .val (.long q1), .second, .val (.int (0 : Int32)), .val (.int (3 : Int32))] [(.ref a9), (.ref a9)])) _
      refine st21 _ ?_
      show Steps p.tables e below (T21.setTop (mkF m 120 #[.val (.ref a9), .val (.long q1), .second, .val (.int (0 : Int32)), .val (.int (3 : Int32))] [(.int (3 : Int32)), (.ref a9)])) _
      refine XS.iconst X21.here hx rfl (hb hby d5_120) ?_
      show Steps p.tables e below (T21.setTop (mkF m 121 #[.val (.ref a9), .val (.long q1), .second, .val (.int (0 : Int32)), .val (.int (3 : Int32))] [(.int (1 : Int32)), (.int (3 : Int32)), (.ref a9)])) _
      refine XS.iadd X21.here hx rfl (hb hby d5_121) rfl ?_
      show Steps p.tables e below (T21.setTop (mkF m 122 #[.val (.ref a9), .val (.long q1), .second, .val (.int (0 : Int32)), .val (.int (3 : Int32))] [(.int (4 : Int32)), (.ref a9)])) _
      refine st22 _ ?_
      show Steps p.tables e below (T22.setTop (mkF m 125 #[.val (.ref a9), .val (.long q1), .second, .val (.int (0 : Int32)), .val (.int (3 : Int32))] [])) _
      exact X22.returnOut hx Bd.returns (hb hby d5_125) hr
    · show Q_rmAdd3 n0 Z a9 q1 A kA B kB n v0 v1 v2 h0 _ T22.heap _
      rw [e22]
      exact ⟨b_16, kb_16, (6 : Int32), rfl, N22, K22, g_b_16, ((((E_a9.keep Kc16).wr W17).wr W20).wr W22), ((((F_blocks_a9.keep Kc16 nin0).other W17 (Or.inl (Exa.neArv (a0 := a0) E_a9 V_A (Wd hw 1 rfl)))).other W20 (Or.inl (Nat.ne_of_lt (Nat.lt_of_lt_of_le E_a9.lt P16_0)))).other W22 (Or.inr (slot_ne (a0 := a0) (Or.inl (Wd hw 12 rfl)) (Or.inl (Wd hw 28 rfl)) (by decide) (t := (.array (.array .long))) (t' := .int) (by decide) (by decide)))), Fw22, (((P16_1.wr W17).wr W20).wr W22), ((V17.other W20 (Nat.ne_of_lt (Nat.lt_of_lt_of_le V_A.lt P16_0))).other W22 (Ne.symm (Exa.neArv (a0 := a0) E_a9 V_A (Wd hw 1 rfl)))), (V20.other W22 (Ne.symm (Nat.ne_of_lt (Nat.lt_of_lt_of_le E_a9.lt P16_0)))), (by decide)⟩
  · have hin : (3 : Int32) < n := own_up (a := (2 : Int32)) rfl hlt hg
    obtain ⟨T23, X23, e23, st23⟩ := getF X8 hx hZ hown (host := "") (Or.inl (Wd hw 11 rfl)) Via.refl e8 F_blocks_a9 (g := (mkF m 106 #[.val (.ref a9), .val (.long q1), .second, .val (.int (0 : Int32)), .val (.int (3 : Int32))] [(.ref a9)])) rfl rfl (hb hby d5_106)
    obtain ⟨cl24, Ar24, -, S24, N24_, H24, G24⟩ := id (V_A)
    have hin24 : ¬ ((0 : Int32) < 0 ∨ cl24.slots.size ≤ ((0 : Int32)).toNatClampNeg) := inb_of S24 ⟨(by decide), (by decide)⟩
    have hat24 : cl24.slots[((0 : Int32)).toNatClampNeg]? = some (.ref B) := H24.at hin24 rfl
    obtain ⟨cl25, Ar25, q25, S25, N25_, H25, G25⟩ := id (V_B)
    have hin25 : ¬ ((3 : Int32) < 0 ∨ cl25.slots.size ≤ ((3 : Int32)).toNatClampNeg) := inb_of S25 ⟨(by decide), hin⟩
    obtain ⟨T25, h25, X25, e25, W25, st25⟩ := stJ X23 hx hZ e23 Ar25 (j := (3 : Int32)) hin25 (g := (mkF m 114 #[.val (.ref a9), .val (.long q1), .second, .val (.int (0 : Int32)), .val (.int (3 : Int32))] [(.long q1), (.int (3 : Int32)), (.ref B)])) rfl rfl (hb hby d5_114)
    have K25 : Keep h0 h25 [a9, A, B] := (Keep.refl h0 [a9, A, B]).wr W25 (Or.inl (List.mem_of_getElem? (i := 2) rfl))
    have O25 := O0.wr W25 g_B
    have N25 := Fr.snoc X25 N0 g_B
    have V25 : Arv Z h25 B kB .long n [(.long v0), (.long v1), (.long v2), (.long q1)] (.long (0 : Int64)) := Arv.set Ar25 q25 S25 N25_ H25 G25 rfl W25 3 rfl (Nat.le_of_ble_eq_true rfl)
    obtain ⟨T26, X26, e26, st26⟩ := getF X25 hx hZ hown (host := "") (Or.inl (Wd hw 27 rfl)) Via.refl e25 (F_size_a9.other W25 (Or.inl (Exa.ne E_a9 E_B (by decide)))) (g := (mkF m 117 #[.val (.ref a9), .val (.long q1), .second, .val (.int (0 : Int32)), .val (.int (3 : Int32))] [(.ref a9), (.ref a9)])) rfl rfl (hb hby d5_117)
    obtain ⟨T27, h27, X27, e27, W27, st27⟩ := putF X26 hx hZ hown (host := "") (Or.inl (Wd hw 27 rfl)) Via.refl e26 (F_size_a9.other W25 (Or.inl (Exa.ne E_a9 E_B (by decide)))) (E_a9.wr W25) (Or.inl (Wd hw 28 rfl)) (Wd hw 1 rfl) (ty := .int) (by decide) rfl rfl (g := (mkF m 122 #[.val (.ref a9), .val (.long q1), .second, .val (.int (0 : Int32)), .val (.int (3 : Int32))] [(.int (4 : Int32)), (.ref a9)])) rfl rfl (hb hby d5_122)
    have Fw27 := (F_size_a9.other W25 (Or.inl (Exa.ne E_a9 E_B (by decide)))).same W27
    have K27 : Keep h0 h27 [a9, A, B] := K25.wr W27 (Or.inl (List.mem_of_getElem? (i := 0) rfl))
    have O27 := O25.wr W27 g_a9
    have N27 := Fr.snoc X27 N25 g_a9
    obtain ⟨fs, hr, hrun, hended, hW, hsame⟩ := X27.leave (v := none) (fun _ => rfl)
    refine ⟨_, _, pre11 _ ?_, hrun, hended, _, _, rfl, ?_, ⟨_, rfl⟩, hW, hsame.mono (by decide) (by decide)⟩
    · show Steps p.tables e below (T8.setTop (mkF m 77 #[.val (.ref a9), .val (.long q1), .second, .val (.int (0 : Int32)), .val (.int (3 : Int32))] [(.int n), (.int (3 : Int32))])) _
      refine XS.icmpYes X8.here hx rfl (pc0 := 77) (pc' := 105) rfl (hb hby d5_77) rfl (feq hg).2 (by decide) (by decide) ?_
      show Steps p.tables e below (T8.setTop (mkF m 105 #[.val (.ref a9), .val (.long q1), .second, .val (.int (0 : Int32)), .val (.int (3 : Int32))] [])) _
      refine XS.aloadN X8.here hx rfl (hb hby d5_105) rfl rfl ?_
      show Steps p.tables e below (T8.setTop (mkF m 106 #[.val (.ref a9), .val (.long q1), .second, .val (.int (0 : Int32)), .val (.int (3 : Int32))] [(.ref a9)])) _
      refine st23 _ ?_
      show Steps p.tables e below (T23.setTop (mkF m 109 #[.val (.ref a9), .val (.long q1), .second, .val (.int (0 : Int32)), .val (.int (3 : Int32))] [(.ref A)])) _
      refine XS.iloadN X23.here hx rfl (hb hby d5_109) rfl ?_
      show Steps p.tables e below (T23.setTop (mkF m 110 #[.val (.ref a9), .val (.long q1), .second, .val (.int (0 : Int32)), .val (.int (3 : Int32))] [(.int (0 : Int32)), (.ref A)])) _
      refine X23.aaload hx (j := (0 : Int32)) (v := (.ref B)) (by rw [e23]; exact Ar24.1) (State.isArrayOf_alike hZ.alike Ar24.2.1) rfl Ar24.2.2 hin24 hat24 (g := (mkF m 110 #[.val (.ref a9), .val (.long q1), .second, .val (.int (0 : Int32)), .val (.int (3 : Int32))] [(.int (0 : Int32)), (.ref A)])) rfl rfl (hb hby d5_110) _ ?_
      show Steps p.tables e below (T23.setTop (mkF m 111 #[.val (.ref a9), .val (.long q1), .second, .val (.int (0 : Int32)), .val (.int (3 : Int32))] [(.ref B)])) _
      refine XS.iload X23.here hx rfl (hb hby d5_111) rfl ?_
      show Steps p.tables e below (T23.setTop (mkF m 113 #[.val (.ref a9), .val (.long q1), .second, .val (.int (0 : Int32)), .val (.int (3 : Int32))] [(.int (3 : Int32)), (.ref B)])) _
      refine XS.lloadN X23.here hx rfl (hb hby d5_113) rfl ?_
      show Steps p.tables e below (T23.setTop (mkF m 114 #[.val (.ref a9), .val (.long q1), .second, .val (.int (0 : Int32)), .val (.int (3 : Int32))] [(.long q1), (.int (3 : Int32)), (.ref B)])) _
      refine st25 _ ?_
      show Steps p.tables e below (T25.setTop (mkF m 115 #[.val (.ref a9), .val (.long q1), .second, .val (.int (0 : Int32)), .val (.int (3 : Int32))] [])) _
      refine XS.aloadN X25.here hx rfl (hb hby d5_115) rfl rfl ?_
      show Steps p.tables e below (T25.setTop (mkF m 116 #[.val (.ref a9), .val (.long q1), .second, .val (.int (0 : Int32)), .val (.int (3 : Int32))] [(.ref a9)])) _
      refine XS.dup X25.here hx rfl (hb hby d5_116) rfl rfl ?_
      show Steps p.tables e below (T25.setTop (mkF m 117 #[.val (.ref a9), .val (.long q1), .second, .val (.int (0 : Int32)), .val (.int (3 : Int32))] [(.ref a9), (.ref a9)])) _
      refine st26 _ ?_
      show Steps p.tables e below (T26.setTop (mkF m 120 #[.val (.ref a9), .val (.long q1), .second, .val (.int (0 : Int32)), .val (.int (3 : Int32))] [(.int (3 : Int32)), (.ref a9)])) _
      refine XS.iconst X26.here hx rfl (hb hby d5_120) ?_
      show Steps p.tables e below (T26.setTop (mkF m 121 #[.val (.ref a9), .val (.long q1), .second, .val (.int (0 : Int32)), .val (.int (3 : Int32))] [(.int (1 : Int32)), (.int (3 : Int32)), (.ref a9)])) _
      refine XS.iadd X26.here hx rfl (hb hby d5_121) rfl ?_
      show Steps p.tables e below (T26.setTop (mkF m 122 #[.val (.ref a9), .val (.long q1), .second, .val (.int (0 : Int32)), .val (.int (3 : Int32))] [(.int (4 : Int32)), (.ref a9)])) _
      refine st27 _ ?_
      show Steps p.tables e below (T27.setTop (mkF m 125 #[.val (.ref a9), .val (.long q1), .second, .val (.int (0 : Int32)), .val (.int (3 : Int32))] [])) _
      exact X27.returnOut hx Bd.returns (hb hby d5_125) hr
    · show Q_rmAdd3 n0 Z a9 q1 A kA B kB n v0 v1 v2 h0 _ T27.heap _
      rw [e27]
      exact ⟨B, kB, n, rfl, N27, K27, g_B, ((E_a9.wr W25).wr W27), ((F_blocks_a9.other W25 (Or.inl (Exa.ne E_a9 E_B (by decide)))).other W27 (Or.inr (slot_ne (a0 := a0) (Or.inl (Wd hw 12 rfl)) (Or.inl (Wd hw 28 rfl)) (by decide) (t := (.array (.array .long))) (t' := .int) (by decide) (by decide)))), Fw27, ((E_B.wr W25).wr W27), ((V_A.other W25 (own_neArv V_A V_B (by decide))).other W27 (Ne.symm (Exa.neArv (a0 := a0) E_a9 V_A (Wd hw 1 rfl)))), (V25.other W27 (Exa.ne E_B E_a9 (by decide))), hin⟩
theorem d7_0 : decode prog_38_method_4_code 0 = .ok (.aload_n 0, 1) := by decide +kernel
theorem d7_1 : decode prog_38_method_4_code 1 = .ok (.getfield 9, 3) := by decide +kernel
theorem d7_4 : decode prog_38_method_4_code 4 = .ok (.iload_n 1, 1) := by decide +kernel
theorem d7_5 : decode prog_38_method_4_code 5 = .ok (.getstatic 28, 3) := by decide +kernel
theorem d7_8 : decode prog_38_method_4_code 8 = .ok (.iushr, 1) := by decide +kernel
theorem d7_9 : decode prog_38_method_4_code 9 = .ok (.aaload, 1) := by decide +kernel
theorem d7_10 : decode prog_38_method_4_code 10 = .ok (.iload_n 1, 1) := by decide +kernel
theorem d7_11 : decode prog_38_method_4_code 11 = .ok (.sipush 8191, 3) := by decide +kernel
theorem d7_14 : decode prog_38_method_4_code 14 = .ok (.iand, 1) := by decide +kernel
theorem d7_15 : decode prog_38_method_4_code 15 = .ok (.laload, 1) := by decide +kernel
theorem d7_16 : decode prog_38_method_4_code 16 = .ok (.lreturn, 1) := by decide +kernel
abbrev MN_5 : MethodName := ⟨"com/example/inchworm/inchworm/KeyBlocks", "get", "(I)J"⟩
theorem ef_rmGet0 (m : MethodId) (a9 : Addr) : entryFrame m #[(.ref a9), (.int (0 : Int32))] 2 = mkF m 0 #[.val (.ref a9), .val (.int (0 : Int32))] [] := by first | (simp [entryFrame, mkF, argsToLocals, Value.category]; done) | rfl
def Q_rmGet0 (n0 : Nat) (Z : State) (a9 : Addr) (A : Addr) (kA : ClassId) (B : Addr) (kB : ClassId) (n : Int32) (v0 : Int64) (v1 : Int64) (v2 : Int64) (v3 : Int64) (h0 : Heap) (v : Option Value) (h : Heap) (L : List Loc) : Prop := v = some (.long v0) ∧ Fr n0 L ∧ h = h0
set_option maxRecDepth 65536 in
set_option maxHeartbeats 40000000 in
theorem rmGet0 (l : Launch) (Z : State) (a0 : Array Value) (hw : ∀ d ∈ tables_1, d.before a0 Z = true) (ws : List Jvm.Cond) (a9 : Addr) (A : Addr) (kA : ClassId) (B : Addr) (kB : ClassId) (n : Int32) (v0 : Int64) (v1 : Int64) (v2 : Int64) (v3 : Int64) (h0 : Heap) (n0 : Nat) (O0 : Old Z n0 h0) (GL : GF Z) (F_blocks_a9 : Fld Z h0 a9 "com/example/inchworm/inchworm/KeyBlocks" "blocks" "[[J" (.ref A)) (V_A : Arv Z h0 A kA (.array .long) (1 : Int32) [(.ref B)] .null) (V_B : Arv Z h0 B kB .long n [(.long v0), (.long v1), (.long v2), (.long v3)] (.long (0 : Int64))) (hlt : (0 : Int32) < n) :
    MetFree l MN_5 (head1 (Jvm.Cond.code MN_5 prog_38_method_4_code 2 (some .long) :: ws) ({ frames := 0, cells := 0, slots := 0, locals := 0 } : Room)) (fun a U => a = #[(.ref a9), (.int (0 : Int32))] ∧ Z.Warmed39 U.vm ∧ U.heap = h0) (fun _ _ _ _ _ => True) (fun _ U o U' => ∃ v L, o = .returned v ∧ Q_rmGet0 n0 Z a9 A kA B kB n v0 v1 v2 v3 h0 v U'.heap L ∧ FrameEnd U o U' L ({ frames := 0, cells := 0, slots := 0, locals := 0 } : Room).cells ({ frames := 0, cells := 0, slots := 0, locals := 0 } : Room).slots) := by
  refine MetFree.of_bodySF (plainFor_of_name pn) hisR ?_
  intro p e s m args below meth c s₁ Bd hml0 hP hK
  obtain ⟨rfl, hZ, hh⟩ := hP
  have hx := Bd.exec
  have hby := Bd.bytes
  have hml : c.maxLocals = 2 := hml0
  have hown : s.vm.findClass "com/example/inchworm/inchworm/KeyBlocks" = some m.cls := findClass_of_methodNamed Bd.named
  have hnm := (name_of_methodNamed Bd.named Bd.method).1
  have X0 : Stand p l e ({ frames := 0, cells := 0, slots := 0, locals := 0 } : Room) s m #[(.ref a9), (.int (0 : Int32))] below meth c s₁ [] 0 0 := Stand.of_body Bd
  have e0 : s₁.heap = h0 := by rw [← hh, Bd.state]; rfl
  have N0 := Fr.nil n0
  have pre0 : ∀ t, Steps p.tables e below (s₁.setTop (mkF m 0 #[.val (.ref a9), .val (.int (0 : Int32))] [])) t → Steps p.tables e below (s₁.setTop (entryFrame m #[(.ref a9), (.int (0 : Int32))] 2)) t := fun t k => castTop (ef_rmGet0 m a9) k
  have GSB := GL
  obtain ⟨T1, X1, e1, st1⟩ := getF X0 hx hZ hown (host := "") (Or.inl (Wd hw 11 rfl)) Via.refl e0 F_blocks_a9 (g := (mkF m 1 #[.val (.ref a9), .val (.int (0 : Int32))] [(.ref a9)])) rfl rfl (hb hby d7_1)
  obtain ⟨T2, X2, e2, st2⟩ := getS2 X1 hx hZ hown (host := "") (Or.inl (Wd hw 29 rfl)) Via.refl e1 (GSB.ext O0.2) (g := (mkF m 5 #[.val (.ref a9), .val (.int (0 : Int32))] [(.int (0 : Int32)), (.ref A)])) rfl (hb hby d7_5)
  obtain ⟨cl3, Ar3, -, S3, N3_, H3, G3⟩ := id (V_A)
  have hin3 : ¬ ((0 : Int32) < 0 ∨ cl3.slots.size ≤ ((0 : Int32)).toNatClampNeg) := inb_of S3 ⟨(by decide), (by decide)⟩
  have hat3 : cl3.slots[((0 : Int32)).toNatClampNeg]? = some (.ref B) := H3.at hin3 rfl
  obtain ⟨cl4, Ar4, -, S4, N4_, H4, G4⟩ := id (V_B)
  have hin4 : ¬ ((0 : Int32) < 0 ∨ cl4.slots.size ≤ ((0 : Int32)).toNatClampNeg) := inb_of S4 ⟨(by decide), hlt⟩
  have hat4 : cl4.slots[((0 : Int32)).toNatClampNeg]? = some (.long v0) := H4.at hin4 rfl
  obtain ⟨fs, hr, hrun, hended, hW, hsame⟩ := X2.leave (v := some (.long v0)) (fun h => by rw [Bd.returns] at h; cases h)
  refine ⟨_, _, pre0 _ ?_, hrun, hended, _, _, rfl, ?_, ⟨_, rfl⟩, hW, hsame.mono (by decide) (by decide)⟩
  · show Steps p.tables e below (s₁.setTop (mkF m 0 #[.val (.ref a9), .val (.int (0 : Int32))] [])) _
    refine XS.aloadN X0.here hx rfl (hb hby d7_0) rfl rfl ?_
    show Steps p.tables e below (s₁.setTop (mkF m 1 #[.val (.ref a9), .val (.int (0 : Int32))] [(.ref a9)])) _
    refine st1 _ ?_
    show Steps p.tables e below (T1.setTop (mkF m 4 #[.val (.ref a9), .val (.int (0 : Int32))] [(.ref A)])) _
    refine XS.iloadN X1.here hx rfl (hb hby d7_4) rfl ?_
    show Steps p.tables e below (T1.setTop (mkF m 5 #[.val (.ref a9), .val (.int (0 : Int32))] [(.int (0 : Int32)), (.ref A)])) _
    refine st2 _ ?_
    show Steps p.tables e below (T2.setTop (mkF m 8 #[.val (.ref a9), .val (.int (0 : Int32))] [(.int (13 : Int32)), (.int (0 : Int32)), (.ref A)])) _
    refine XS.iushr X2.here hx rfl (hb hby d7_8) rfl ?_
    show Steps p.tables e below (T2.setTop (mkF m 9 #[.val (.ref a9), .val (.int (0 : Int32))] [(.int (0 : Int32)), (.ref A)])) _
    refine X2.aaload hx (j := (0 : Int32)) (v := (.ref B)) (by rw [e2]; exact Ar3.1) (State.isArrayOf_alike hZ.alike Ar3.2.1) rfl Ar3.2.2 hin3 hat3 (g := (mkF m 9 #[.val (.ref a9), .val (.int (0 : Int32))] [(.int (0 : Int32)), (.ref A)])) rfl rfl (hb hby d7_9) _ ?_
    show Steps p.tables e below (T2.setTop (mkF m 10 #[.val (.ref a9), .val (.int (0 : Int32))] [(.ref B)])) _
    refine XS.iloadN X2.here hx rfl (hb hby d7_10) rfl ?_
    show Steps p.tables e below (T2.setTop (mkF m 11 #[.val (.ref a9), .val (.int (0 : Int32))] [(.int (0 : Int32)), (.ref B)])) _
    refine XS.sipush X2.here hx rfl (hb hby d7_11) ?_
    show Steps p.tables e below (T2.setTop (mkF m 14 #[.val (.ref a9), .val (.int (0 : Int32))] [(.int (8191 : Int32)), (.int (0 : Int32)), (.ref B)])) _
    refine XS.iand X2.here hx rfl (hb hby d7_14) rfl ?_
    show Steps p.tables e below (T2.setTop (mkF m 15 #[.val (.ref a9), .val (.int (0 : Int32))] [(.int (0 : Int32)), (.ref B)])) _
    refine X2.laload hx (j := (0 : Int32)) (v := (.long v0)) (by rw [e2]; exact Ar4.1) (State.isArrayOf_alike hZ.alike Ar4.2.1) Ar4.2.2 hin4 hat4 (g := (mkF m 15 #[.val (.ref a9), .val (.int (0 : Int32))] [(.int (0 : Int32)), (.ref B)])) rfl rfl (hb hby d7_15) _ ?_
    show Steps p.tables e below (T2.setTop (mkF m 16 #[.val (.ref a9), .val (.int (0 : Int32))] [(.long v0)])) _
    jvm_step X2.here [X2.here.top, hx, (hb hby d7_16), X2.method', Bd.returns, narrow]
    first | (intro acts; rw [hr _ acts rfl rfl rfl]) | rw [hr _ _ rfl rfl rfl]
    exact Steps.refl _
  · show Q_rmGet0 n0 Z a9 A kA B kB n v0 v1 v2 v3 h0 _ T2.heap _
    rw [e2]
    exact ⟨rfl, N0, rfl⟩
theorem ef_rmGet1 (m : MethodId) (a9 : Addr) : entryFrame m #[(.ref a9), (.int (1 : Int32))] 2 = mkF m 0 #[.val (.ref a9), .val (.int (1 : Int32))] [] := by first | (simp [entryFrame, mkF, argsToLocals, Value.category]; done) | rfl
def Q_rmGet1 (n0 : Nat) (Z : State) (a9 : Addr) (A : Addr) (kA : ClassId) (B : Addr) (kB : ClassId) (n : Int32) (v0 : Int64) (v1 : Int64) (v2 : Int64) (v3 : Int64) (h0 : Heap) (v : Option Value) (h : Heap) (L : List Loc) : Prop := v = some (.long v1) ∧ Fr n0 L ∧ h = h0
set_option maxRecDepth 65536 in
set_option maxHeartbeats 40000000 in
theorem rmGet1 (l : Launch) (Z : State) (a0 : Array Value) (hw : ∀ d ∈ tables_1, d.before a0 Z = true) (ws : List Jvm.Cond) (a9 : Addr) (A : Addr) (kA : ClassId) (B : Addr) (kB : ClassId) (n : Int32) (v0 : Int64) (v1 : Int64) (v2 : Int64) (v3 : Int64) (h0 : Heap) (n0 : Nat) (O0 : Old Z n0 h0) (GL : GF Z) (F_blocks_a9 : Fld Z h0 a9 "com/example/inchworm/inchworm/KeyBlocks" "blocks" "[[J" (.ref A)) (V_A : Arv Z h0 A kA (.array .long) (1 : Int32) [(.ref B)] .null) (V_B : Arv Z h0 B kB .long n [(.long v0), (.long v1), (.long v2), (.long v3)] (.long (0 : Int64))) (hlt : (1 : Int32) < n) :
    MetFree l MN_5 (head1 (Jvm.Cond.code MN_5 prog_38_method_4_code 2 (some .long) :: ws) ({ frames := 0, cells := 0, slots := 0, locals := 0 } : Room)) (fun a U => a = #[(.ref a9), (.int (1 : Int32))] ∧ Z.Warmed39 U.vm ∧ U.heap = h0) (fun _ _ _ _ _ => True) (fun _ U o U' => ∃ v L, o = .returned v ∧ Q_rmGet1 n0 Z a9 A kA B kB n v0 v1 v2 v3 h0 v U'.heap L ∧ FrameEnd U o U' L ({ frames := 0, cells := 0, slots := 0, locals := 0 } : Room).cells ({ frames := 0, cells := 0, slots := 0, locals := 0 } : Room).slots) := by
  refine MetFree.of_bodySF (plainFor_of_name pn) hisR ?_
  intro p e s m args below meth c s₁ Bd hml0 hP hK
  obtain ⟨rfl, hZ, hh⟩ := hP
  have hx := Bd.exec
  have hby := Bd.bytes
  have hml : c.maxLocals = 2 := hml0
  have hown : s.vm.findClass "com/example/inchworm/inchworm/KeyBlocks" = some m.cls := findClass_of_methodNamed Bd.named
  have hnm := (name_of_methodNamed Bd.named Bd.method).1
  have X0 : Stand p l e ({ frames := 0, cells := 0, slots := 0, locals := 0 } : Room) s m #[(.ref a9), (.int (1 : Int32))] below meth c s₁ [] 0 0 := Stand.of_body Bd
  have e0 : s₁.heap = h0 := by rw [← hh, Bd.state]; rfl
  have N0 := Fr.nil n0
  have pre0 : ∀ t, Steps p.tables e below (s₁.setTop (mkF m 0 #[.val (.ref a9), .val (.int (1 : Int32))] [])) t → Steps p.tables e below (s₁.setTop (entryFrame m #[(.ref a9), (.int (1 : Int32))] 2)) t := fun t k => castTop (ef_rmGet1 m a9) k
  have GSB := GL
  obtain ⟨T1, X1, e1, st1⟩ := getF X0 hx hZ hown (host := "") (Or.inl (Wd hw 11 rfl)) Via.refl e0 F_blocks_a9 (g := (mkF m 1 #[.val (.ref a9), .val (.int (1 : Int32))] [(.ref a9)])) rfl rfl (hb hby d7_1)
  obtain ⟨T2, X2, e2, st2⟩ := getS2 X1 hx hZ hown (host := "") (Or.inl (Wd hw 29 rfl)) Via.refl e1 (GSB.ext O0.2) (g := (mkF m 5 #[.val (.ref a9), .val (.int (1 : Int32))] [(.int (1 : Int32)), (.ref A)])) rfl (hb hby d7_5)
  obtain ⟨cl3, Ar3, -, S3, N3_, H3, G3⟩ := id (V_A)
  have hin3 : ¬ ((0 : Int32) < 0 ∨ cl3.slots.size ≤ ((0 : Int32)).toNatClampNeg) := inb_of S3 ⟨(by decide), (by decide)⟩
  have hat3 : cl3.slots[((0 : Int32)).toNatClampNeg]? = some (.ref B) := H3.at hin3 rfl
  obtain ⟨cl4, Ar4, -, S4, N4_, H4, G4⟩ := id (V_B)
  have hin4 : ¬ ((1 : Int32) < 0 ∨ cl4.slots.size ≤ ((1 : Int32)).toNatClampNeg) := inb_of S4 ⟨(by decide), hlt⟩
  have hat4 : cl4.slots[((1 : Int32)).toNatClampNeg]? = some (.long v1) := H4.at hin4 rfl
  obtain ⟨fs, hr, hrun, hended, hW, hsame⟩ := X2.leave (v := some (.long v1)) (fun h => by rw [Bd.returns] at h; cases h)
  refine ⟨_, _, pre0 _ ?_, hrun, hended, _, _, rfl, ?_, ⟨_, rfl⟩, hW, hsame.mono (by decide) (by decide)⟩
  · show Steps p.tables e below (s₁.setTop (mkF m 0 #[.val (.ref a9), .val (.int (1 : Int32))] [])) _
    refine XS.aloadN X0.here hx rfl (hb hby d7_0) rfl rfl ?_
    show Steps p.tables e below (s₁.setTop (mkF m 1 #[.val (.ref a9), .val (.int (1 : Int32))] [(.ref a9)])) _
    refine st1 _ ?_
    show Steps p.tables e below (T1.setTop (mkF m 4 #[.val (.ref a9), .val (.int (1 : Int32))] [(.ref A)])) _
    refine XS.iloadN X1.here hx rfl (hb hby d7_4) rfl ?_
    show Steps p.tables e below (T1.setTop (mkF m 5 #[.val (.ref a9), .val (.int (1 : Int32))] [(.int (1 : Int32)), (.ref A)])) _
    refine st2 _ ?_
    show Steps p.tables e below (T2.setTop (mkF m 8 #[.val (.ref a9), .val (.int (1 : Int32))] [(.int (13 : Int32)), (.int (1 : Int32)), (.ref A)])) _
    refine XS.iushr X2.here hx rfl (hb hby d7_8) rfl ?_
    show Steps p.tables e below (T2.setTop (mkF m 9 #[.val (.ref a9), .val (.int (1 : Int32))] [(.int (0 : Int32)), (.ref A)])) _
    refine X2.aaload hx (j := (0 : Int32)) (v := (.ref B)) (by rw [e2]; exact Ar3.1) (State.isArrayOf_alike hZ.alike Ar3.2.1) rfl Ar3.2.2 hin3 hat3 (g := (mkF m 9 #[.val (.ref a9), .val (.int (1 : Int32))] [(.int (0 : Int32)), (.ref A)])) rfl rfl (hb hby d7_9) _ ?_
    show Steps p.tables e below (T2.setTop (mkF m 10 #[.val (.ref a9), .val (.int (1 : Int32))] [(.ref B)])) _
    refine XS.iloadN X2.here hx rfl (hb hby d7_10) rfl ?_
    show Steps p.tables e below (T2.setTop (mkF m 11 #[.val (.ref a9), .val (.int (1 : Int32))] [(.int (1 : Int32)), (.ref B)])) _
    refine XS.sipush X2.here hx rfl (hb hby d7_11) ?_
    show Steps p.tables e below (T2.setTop (mkF m 14 #[.val (.ref a9), .val (.int (1 : Int32))] [(.int (8191 : Int32)), (.int (1 : Int32)), (.ref B)])) _
    refine XS.iand X2.here hx rfl (hb hby d7_14) rfl ?_
    show Steps p.tables e below (T2.setTop (mkF m 15 #[.val (.ref a9), .val (.int (1 : Int32))] [(.int (1 : Int32)), (.ref B)])) _
    refine X2.laload hx (j := (1 : Int32)) (v := (.long v1)) (by rw [e2]; exact Ar4.1) (State.isArrayOf_alike hZ.alike Ar4.2.1) Ar4.2.2 hin4 hat4 (g := (mkF m 15 #[.val (.ref a9), .val (.int (1 : Int32))] [(.int (1 : Int32)), (.ref B)])) rfl rfl (hb hby d7_15) _ ?_
    show Steps p.tables e below (T2.setTop (mkF m 16 #[.val (.ref a9), .val (.int (1 : Int32))] [(.long v1)])) _
    jvm_step X2.here [X2.here.top, hx, (hb hby d7_16), X2.method', Bd.returns, narrow]
    first | (intro acts; rw [hr _ acts rfl rfl rfl]) | rw [hr _ _ rfl rfl rfl]
    exact Steps.refl _
  · show Q_rmGet1 n0 Z a9 A kA B kB n v0 v1 v2 v3 h0 _ T2.heap _
    rw [e2]
    exact ⟨rfl, N0, rfl⟩
theorem ef_rmGet2 (m : MethodId) (a9 : Addr) : entryFrame m #[(.ref a9), (.int (2 : Int32))] 2 = mkF m 0 #[.val (.ref a9), .val (.int (2 : Int32))] [] := by first | (simp [entryFrame, mkF, argsToLocals, Value.category]; done) | rfl
def Q_rmGet2 (n0 : Nat) (Z : State) (a9 : Addr) (A : Addr) (kA : ClassId) (B : Addr) (kB : ClassId) (n : Int32) (v0 : Int64) (v1 : Int64) (v2 : Int64) (v3 : Int64) (h0 : Heap) (v : Option Value) (h : Heap) (L : List Loc) : Prop := v = some (.long v2) ∧ Fr n0 L ∧ h = h0
set_option maxRecDepth 65536 in
set_option maxHeartbeats 40000000 in
theorem rmGet2 (l : Launch) (Z : State) (a0 : Array Value) (hw : ∀ d ∈ tables_1, d.before a0 Z = true) (ws : List Jvm.Cond) (a9 : Addr) (A : Addr) (kA : ClassId) (B : Addr) (kB : ClassId) (n : Int32) (v0 : Int64) (v1 : Int64) (v2 : Int64) (v3 : Int64) (h0 : Heap) (n0 : Nat) (O0 : Old Z n0 h0) (GL : GF Z) (F_blocks_a9 : Fld Z h0 a9 "com/example/inchworm/inchworm/KeyBlocks" "blocks" "[[J" (.ref A)) (V_A : Arv Z h0 A kA (.array .long) (1 : Int32) [(.ref B)] .null) (V_B : Arv Z h0 B kB .long n [(.long v0), (.long v1), (.long v2), (.long v3)] (.long (0 : Int64))) (hlt : (2 : Int32) < n) :
    MetFree l MN_5 (head1 (Jvm.Cond.code MN_5 prog_38_method_4_code 2 (some .long) :: ws) ({ frames := 0, cells := 0, slots := 0, locals := 0 } : Room)) (fun a U => a = #[(.ref a9), (.int (2 : Int32))] ∧ Z.Warmed39 U.vm ∧ U.heap = h0) (fun _ _ _ _ _ => True) (fun _ U o U' => ∃ v L, o = .returned v ∧ Q_rmGet2 n0 Z a9 A kA B kB n v0 v1 v2 v3 h0 v U'.heap L ∧ FrameEnd U o U' L ({ frames := 0, cells := 0, slots := 0, locals := 0 } : Room).cells ({ frames := 0, cells := 0, slots := 0, locals := 0 } : Room).slots) := by
  refine MetFree.of_bodySF (plainFor_of_name pn) hisR ?_
  intro p e s m args below meth c s₁ Bd hml0 hP hK
  obtain ⟨rfl, hZ, hh⟩ := hP
  have hx := Bd.exec
  have hby := Bd.bytes
  have hml : c.maxLocals = 2 := hml0
  have hown : s.vm.findClass "com/example/inchworm/inchworm/KeyBlocks" = some m.cls := findClass_of_methodNamed Bd.named
  have hnm := (name_of_methodNamed Bd.named Bd.method).1
  have X0 : Stand p l e ({ frames := 0, cells := 0, slots := 0, locals := 0 } : Room) s m #[(.ref a9), (.int (2 : Int32))] below meth c s₁ [] 0 0 := Stand.of_body Bd
  have e0 : s₁.heap = h0 := by rw [← hh, Bd.state]; rfl
  have N0 := Fr.nil n0
  have pre0 : ∀ t, Steps p.tables e below (s₁.setTop (mkF m 0 #[.val (.ref a9), .val (.int (2 : Int32))] [])) t → Steps p.tables e below (s₁.setTop (entryFrame m #[(.ref a9), (.int (2 : Int32))] 2)) t := fun t k => castTop (ef_rmGet2 m a9) k
  have GSB := GL
  obtain ⟨T1, X1, e1, st1⟩ := getF X0 hx hZ hown (host := "") (Or.inl (Wd hw 11 rfl)) Via.refl e0 F_blocks_a9 (g := (mkF m 1 #[.val (.ref a9), .val (.int (2 : Int32))] [(.ref a9)])) rfl rfl (hb hby d7_1)
  obtain ⟨T2, X2, e2, st2⟩ := getS2 X1 hx hZ hown (host := "") (Or.inl (Wd hw 29 rfl)) Via.refl e1 (GSB.ext O0.2) (g := (mkF m 5 #[.val (.ref a9), .val (.int (2 : Int32))] [(.int (2 : Int32)), (.ref A)])) rfl (hb hby d7_5)
  obtain ⟨cl3, Ar3, -, S3, N3_, H3, G3⟩ := id (V_A)
  have hin3 : ¬ ((0 : Int32) < 0 ∨ cl3.slots.size ≤ ((0 : Int32)).toNatClampNeg) := inb_of S3 ⟨(by decide), (by decide)⟩
  have hat3 : cl3.slots[((0 : Int32)).toNatClampNeg]? = some (.ref B) := H3.at hin3 rfl
  obtain ⟨cl4, Ar4, -, S4, N4_, H4, G4⟩ := id (V_B)
  have hin4 : ¬ ((2 : Int32) < 0 ∨ cl4.slots.size ≤ ((2 : Int32)).toNatClampNeg) := inb_of S4 ⟨(by decide), hlt⟩
  have hat4 : cl4.slots[((2 : Int32)).toNatClampNeg]? = some (.long v2) := H4.at hin4 rfl
  obtain ⟨fs, hr, hrun, hended, hW, hsame⟩ := X2.leave (v := some (.long v2)) (fun h => by rw [Bd.returns] at h; cases h)
  refine ⟨_, _, pre0 _ ?_, hrun, hended, _, _, rfl, ?_, ⟨_, rfl⟩, hW, hsame.mono (by decide) (by decide)⟩
  · show Steps p.tables e below (s₁.setTop (mkF m 0 #[.val (.ref a9), .val (.int (2 : Int32))] [])) _
    refine XS.aloadN X0.here hx rfl (hb hby d7_0) rfl rfl ?_
    show Steps p.tables e below (s₁.setTop (mkF m 1 #[.val (.ref a9), .val (.int (2 : Int32))] [(.ref a9)])) _
    refine st1 _ ?_
    show Steps p.tables e below (T1.setTop (mkF m 4 #[.val (.ref a9), .val (.int (2 : Int32))] [(.ref A)])) _
    refine XS.iloadN X1.here hx rfl (hb hby d7_4) rfl ?_
    show Steps p.tables e below (T1.setTop (mkF m 5 #[.val (.ref a9), .val (.int (2 : Int32))] [(.int (2 : Int32)), (.ref A)])) _
    refine st2 _ ?_
    show Steps p.tables e below (T2.setTop (mkF m 8 #[.val (.ref a9), .val (.int (2 : Int32))] [(.int (13 : Int32)), (.int (2 : Int32)), (.ref A)])) _
    refine XS.iushr X2.here hx rfl (hb hby d7_8) rfl ?_
    show Steps p.tables e below (T2.setTop (mkF m 9 #[.val (.ref a9), .val (.int (2 : Int32))] [(.int (0 : Int32)), (.ref A)])) _
    refine X2.aaload hx (j := (0 : Int32)) (v := (.ref B)) (by rw [e2]; exact Ar3.1) (State.isArrayOf_alike hZ.alike Ar3.2.1) rfl Ar3.2.2 hin3 hat3 (g := (mkF m 9 #[.val (.ref a9), .val (.int (2 : Int32))] [(.int (0 : Int32)), (.ref A)])) rfl rfl (hb hby d7_9) _ ?_
    show Steps p.tables e below (T2.setTop (mkF m 10 #[.val (.ref a9), .val (.int (2 : Int32))] [(.ref B)])) _
    refine XS.iloadN X2.here hx rfl (hb hby d7_10) rfl ?_
    show Steps p.tables e below (T2.setTop (mkF m 11 #[.val (.ref a9), .val (.int (2 : Int32))] [(.int (2 : Int32)), (.ref B)])) _
    refine XS.sipush X2.here hx rfl (hb hby d7_11) ?_
    show Steps p.tables e below (T2.setTop (mkF m 14 #[.val (.ref a9), .val (.int (2 : Int32))] [(.int (8191 : Int32)), (.int (2 : Int32)), (.ref B)])) _
    refine XS.iand X2.here hx rfl (hb hby d7_14) rfl ?_
    show Steps p.tables e below (T2.setTop (mkF m 15 #[.val (.ref a9), .val (.int (2 : Int32))] [(.int (2 : Int32)), (.ref B)])) _
    refine X2.laload hx (j := (2 : Int32)) (v := (.long v2)) (by rw [e2]; exact Ar4.1) (State.isArrayOf_alike hZ.alike Ar4.2.1) Ar4.2.2 hin4 hat4 (g := (mkF m 15 #[.val (.ref a9), .val (.int (2 : Int32))] [(.int (2 : Int32)), (.ref B)])) rfl rfl (hb hby d7_15) _ ?_
    show Steps p.tables e below (T2.setTop (mkF m 16 #[.val (.ref a9), .val (.int (2 : Int32))] [(.long v2)])) _
    jvm_step X2.here [X2.here.top, hx, (hb hby d7_16), X2.method', Bd.returns, narrow]
    first | (intro acts; rw [hr _ acts rfl rfl rfl]) | rw [hr _ _ rfl rfl rfl]
    exact Steps.refl _
  · show Q_rmGet2 n0 Z a9 A kA B kB n v0 v1 v2 v3 h0 _ T2.heap _
    rw [e2]
    exact ⟨rfl, N0, rfl⟩
theorem ef_rmGet3 (m : MethodId) (a9 : Addr) : entryFrame m #[(.ref a9), (.int (3 : Int32))] 2 = mkF m 0 #[.val (.ref a9), .val (.int (3 : Int32))] [] := by first | (simp [entryFrame, mkF, argsToLocals, Value.category]; done) | rfl
def Q_rmGet3 (n0 : Nat) (Z : State) (a9 : Addr) (A : Addr) (kA : ClassId) (B : Addr) (kB : ClassId) (n : Int32) (v0 : Int64) (v1 : Int64) (v2 : Int64) (v3 : Int64) (h0 : Heap) (v : Option Value) (h : Heap) (L : List Loc) : Prop := v = some (.long v3) ∧ Fr n0 L ∧ h = h0
set_option maxRecDepth 65536 in
set_option maxHeartbeats 40000000 in
theorem rmGet3 (l : Launch) (Z : State) (a0 : Array Value) (hw : ∀ d ∈ tables_1, d.before a0 Z = true) (ws : List Jvm.Cond) (a9 : Addr) (A : Addr) (kA : ClassId) (B : Addr) (kB : ClassId) (n : Int32) (v0 : Int64) (v1 : Int64) (v2 : Int64) (v3 : Int64) (h0 : Heap) (n0 : Nat) (O0 : Old Z n0 h0) (GL : GF Z) (F_blocks_a9 : Fld Z h0 a9 "com/example/inchworm/inchworm/KeyBlocks" "blocks" "[[J" (.ref A)) (V_A : Arv Z h0 A kA (.array .long) (1 : Int32) [(.ref B)] .null) (V_B : Arv Z h0 B kB .long n [(.long v0), (.long v1), (.long v2), (.long v3)] (.long (0 : Int64))) (hlt : (3 : Int32) < n) :
    MetFree l MN_5 (head1 (Jvm.Cond.code MN_5 prog_38_method_4_code 2 (some .long) :: ws) ({ frames := 0, cells := 0, slots := 0, locals := 0 } : Room)) (fun a U => a = #[(.ref a9), (.int (3 : Int32))] ∧ Z.Warmed39 U.vm ∧ U.heap = h0) (fun _ _ _ _ _ => True) (fun _ U o U' => ∃ v L, o = .returned v ∧ Q_rmGet3 n0 Z a9 A kA B kB n v0 v1 v2 v3 h0 v U'.heap L ∧ FrameEnd U o U' L ({ frames := 0, cells := 0, slots := 0, locals := 0 } : Room).cells ({ frames := 0, cells := 0, slots := 0, locals := 0 } : Room).slots) := by
  refine MetFree.of_bodySF (plainFor_of_name pn) hisR ?_
  intro p e s m args below meth c s₁ Bd hml0 hP hK
  obtain ⟨rfl, hZ, hh⟩ := hP
  have hx := Bd.exec
  have hby := Bd.bytes
  have hml : c.maxLocals = 2 := hml0
  have hown : s.vm.findClass "com/example/inchworm/inchworm/KeyBlocks" = some m.cls := findClass_of_methodNamed Bd.named
  have hnm := (name_of_methodNamed Bd.named Bd.method).1
  have X0 : Stand p l e ({ frames := 0, cells := 0, slots := 0, locals := 0 } : Room) s m #[(.ref a9), (.int (3 : Int32))] below meth c s₁ [] 0 0 := Stand.of_body Bd
  have e0 : s₁.heap = h0 := by rw [← hh, Bd.state]; rfl
  have N0 := Fr.nil n0
  have pre0 : ∀ t, Steps p.tables e below (s₁.setTop (mkF m 0 #[.val (.ref a9), .val (.int (3 : Int32))] [])) t → Steps p.tables e below (s₁.setTop (entryFrame m #[(.ref a9), (.int (3 : Int32))] 2)) t := fun t k => castTop (ef_rmGet3 m a9) k
  have GSB := GL
  obtain ⟨T1, X1, e1, st1⟩ := getF X0 hx hZ hown (host := "") (Or.inl (Wd hw 11 rfl)) Via.refl e0 F_blocks_a9 (g := (mkF m 1 #[.val (.ref a9), .val (.int (3 : Int32))] [(.ref a9)])) rfl rfl (hb hby d7_1)
  obtain ⟨T2, X2, e2, st2⟩ := getS2 X1 hx hZ hown (host := "") (Or.inl (Wd hw 29 rfl)) Via.refl e1 (GSB.ext O0.2) (g := (mkF m 5 #[.val (.ref a9), .val (.int (3 : Int32))] [(.int (3 : Int32)), (.ref A)])) rfl (hb hby d7_5)
  obtain ⟨cl3, Ar3, -, S3, N3_, H3, G3⟩ := id (V_A)
  have hin3 : ¬ ((0 : Int32) < 0 ∨ cl3.slots.size ≤ ((0 : Int32)).toNatClampNeg) := inb_of S3 ⟨(by decide), (by decide)⟩
  have hat3 : cl3.slots[((0 : Int32)).toNatClampNeg]? = some (.ref B) := H3.at hin3 rfl
  obtain ⟨cl4, Ar4, -, S4, N4_, H4, G4⟩ := id (V_B)
  have hin4 : ¬ ((3 : Int32) < 0 ∨ cl4.slots.size ≤ ((3 : Int32)).toNatClampNeg) := inb_of S4 ⟨(by decide), hlt⟩
  have hat4 : cl4.slots[((3 : Int32)).toNatClampNeg]? = some (.long v3) := H4.at hin4 rfl
  obtain ⟨fs, hr, hrun, hended, hW, hsame⟩ := X2.leave (v := some (.long v3)) (fun h => by rw [Bd.returns] at h; cases h)
  refine ⟨_, _, pre0 _ ?_, hrun, hended, _, _, rfl, ?_, ⟨_, rfl⟩, hW, hsame.mono (by decide) (by decide)⟩
  · show Steps p.tables e below (s₁.setTop (mkF m 0 #[.val (.ref a9), .val (.int (3 : Int32))] [])) _
    refine XS.aloadN X0.here hx rfl (hb hby d7_0) rfl rfl ?_
    show Steps p.tables e below (s₁.setTop (mkF m 1 #[.val (.ref a9), .val (.int (3 : Int32))] [(.ref a9)])) _
    refine st1 _ ?_
    show Steps p.tables e below (T1.setTop (mkF m 4 #[.val (.ref a9), .val (.int (3 : Int32))] [(.ref A)])) _
    refine XS.iloadN X1.here hx rfl (hb hby d7_4) rfl ?_
    show Steps p.tables e below (T1.setTop (mkF m 5 #[.val (.ref a9), .val (.int (3 : Int32))] [(.int (3 : Int32)), (.ref A)])) _
    refine st2 _ ?_
    show Steps p.tables e below (T2.setTop (mkF m 8 #[.val (.ref a9), .val (.int (3 : Int32))] [(.int (13 : Int32)), (.int (3 : Int32)), (.ref A)])) _
    refine XS.iushr X2.here hx rfl (hb hby d7_8) rfl ?_
    show Steps p.tables e below (T2.setTop (mkF m 9 #[.val (.ref a9), .val (.int (3 : Int32))] [(.int (0 : Int32)), (.ref A)])) _
    refine X2.aaload hx (j := (0 : Int32)) (v := (.ref B)) (by rw [e2]; exact Ar3.1) (State.isArrayOf_alike hZ.alike Ar3.2.1) rfl Ar3.2.2 hin3 hat3 (g := (mkF m 9 #[.val (.ref a9), .val (.int (3 : Int32))] [(.int (0 : Int32)), (.ref A)])) rfl rfl (hb hby d7_9) _ ?_
    show Steps p.tables e below (T2.setTop (mkF m 10 #[.val (.ref a9), .val (.int (3 : Int32))] [(.ref B)])) _
    refine XS.iloadN X2.here hx rfl (hb hby d7_10) rfl ?_
    show Steps p.tables e below (T2.setTop (mkF m 11 #[.val (.ref a9), .val (.int (3 : Int32))] [(.int (3 : Int32)), (.ref B)])) _
    refine XS.sipush X2.here hx rfl (hb hby d7_11) ?_
    show Steps p.tables e below (T2.setTop (mkF m 14 #[.val (.ref a9), .val (.int (3 : Int32))] [(.int (8191 : Int32)), (.int (3 : Int32)), (.ref B)])) _
    refine XS.iand X2.here hx rfl (hb hby d7_14) rfl ?_
    show Steps p.tables e below (T2.setTop (mkF m 15 #[.val (.ref a9), .val (.int (3 : Int32))] [(.int (3 : Int32)), (.ref B)])) _
    refine X2.laload hx (j := (3 : Int32)) (v := (.long v3)) (by rw [e2]; exact Ar4.1) (State.isArrayOf_alike hZ.alike Ar4.2.1) Ar4.2.2 hin4 hat4 (g := (mkF m 15 #[.val (.ref a9), .val (.int (3 : Int32))] [(.int (3 : Int32)), (.ref B)])) rfl rfl (hb hby d7_15) _ ?_
    show Steps p.tables e below (T2.setTop (mkF m 16 #[.val (.ref a9), .val (.int (3 : Int32))] [(.long v3)])) _
    jvm_step X2.here [X2.here.top, hx, (hb hby d7_16), X2.method', Bd.returns, narrow]
    first | (intro acts; rw [hr _ acts rfl rfl rfl]) | rw [hr _ _ rfl rfl rfl]
    exact Steps.refl _
  · show Q_rmGet3 n0 Z a9 A kA B kB n v0 v1 v2 v3 h0 _ T2.heap _
    rw [e2]
    exact ⟨rfl, N0, rfl⟩
theorem pdv2 : parseMethodDescriptor "(I)V" = some ⟨[.int], none⟩ := by decide +kernel
theorem pdv3 : parseMethodDescriptor "(J)V" = some ⟨[.long], none⟩ := by decide +kernel
theorem pdv4 : parseMethodDescriptor "(I)J" = some ⟨[.int], some .long⟩ := by decide +kernel
theorem pnv2 : plainName "com/example/inchworm/inchworm/KeyBlocksGetPinLaw" = true := by first | (simp [plainName, overriddenIn]; done) | decide +kernel
theorem ef_rm0 (m : MethodId) (p0 : Int32) (q1 : Int64) (q2 : Int64) (q3 : Int64) (q4 : Int64) : entryFrame m #[(.int p0), (.long q1), (.long q2), (.long q3), (.long q4)] maxLocals = mkF m 0 #[.val (.int p0), .val (.long q1), .second, .val (.long q2), .second, .val (.long q3), .second, .val (.long q4), .second, .unset] [] := by first | (simp [entryFrame, mkF, argsToLocals, Value.category, maxLocals]; done) | rfl
def Q_rm0 (n0 : Nat) (v : Option Value) (h : Heap) (L : List Loc) : Prop := v = some (.int (1 : Int32)) ∧ Fr n0 L
set_option maxRecDepth 65536 in
set_option maxHeartbeats 40000000 in
theorem rm0 (l : Launch) (Z : State) (a0 : Array Value) (hw : ∀ d ∈ tables_1, d.before a0 Z = true) (ws : List Jvm.Cond) (p0 : Int32) (q1 : Int64) (q2 : Int64) (q3 : Int64) (q4 : Int64) (h0 : Heap) (n0 : Nat) (O0 : Old Z n0 h0) (GL : GF Z) :
    MetFree l x (head1 (Jvm.Cond.code x code maxLocals ret :: ws) room_1) (fun a U => a = #[(.int p0), (.long q1), (.long q2), (.long q3), (.long q4)] ∧ Z.Warmed39 U.vm ∧ U.heap = h0) (fun _ _ _ _ _ => True) (fun _ U o U' => ∃ v L, o = .returned v ∧ Q_rm0 n0 v U'.heap L ∧ FrameEnd U o U' L room_1.cells room_1.slots) := by
  refine MetFree.of_bodySF (plainFor_of_name pnv2) hisR ?_
  intro p e s m args below meth c s₁ Bd hml0 hP hK
  obtain ⟨rfl, hZ, hh⟩ := hP
  have hx := Bd.exec
  have hby := Bd.bytes
  have hml : c.maxLocals = 10 := hml0
  have hown : s.vm.findClass "com/example/inchworm/inchworm/KeyBlocksGetPinLaw" = some m.cls := findClass_of_methodNamed Bd.named
  have hnm := (name_of_methodNamed Bd.named Bd.method).1
  have X0 : Stand p l e room_1 s m #[(.int p0), (.long q1), (.long q2), (.long q3), (.long q4)] below meth c s₁ [] 0 0 := Stand.of_body Bd
  have e0 : s₁.heap = h0 := by rw [← hh, Bd.state]; rfl
  have N0 := Fr.nil n0
  have pre0 : ∀ t, Steps p.tables e below (s₁.setTop (mkF m 0 #[.val (.int p0), .val (.long q1), .second, .val (.long q2), .second, .val (.long q3), .second, .val (.long q4), .second, .unset] [])) t → Steps p.tables e below (s₁.setTop (entryFrame m #[(.int p0), (.long q1), (.long q2), (.long q3), (.long q4)] maxLocals)) t := fun t k => castTop (ef_rm0 m p0 q1 q2 q3 q4) k
  have GSB := GL
  obtain ⟨T1, h1, X1, e1, E1, A1, D1, -, st1⟩ := newO X0 hx hZ hown (Wd hw 0 rfl) (Wd hw 1 rfl) (Wd hw 2 rfl) e0 (g := (mkF m 0 #[.val (.int p0), .val (.long q1), .second, .val (.long q2), .second, .val (.long q3), .second, .val (.long q4), .second, .unset] [])) rfl (hb hby at_0) (by decide) (by decide)
  obtain ⟨b1, g1⟩ : ∃ z, z = h0.size := ⟨_, rfl⟩
  rw [← g1] at A1 D1 st1
  have g_b1 : n0 ≤ b1 := Nat.le_trans (own_sz O0) (Nat.le_of_eq g1.symm)
  have O1 := O0.ext E1
  have F_blocks_b1 : Fld Z h1 b1 "com/example/inchworm/inchworm/KeyBlocks" "blocks" "[[J" .null := D1 (Or.inl (Wd hw 12 rfl)) (ty := (.array (.array .long))) (by decide)
  have F_size_b1 : Fld Z h1 b1 "com/example/inchworm/inchworm/KeyBlocks" "size" "I" (.int (0 : Int32)) := D1 (Or.inl (Wd hw 28 rfl)) (ty := .int) (by decide)
  obtain ⟨_, _, ⟨T2, L2, k2, n2⟩, -, X2, ⟨Lc2, hQ2, l2, y2, z2⟩, st2⟩ := X1.specialBack hx (y := MN_2) rfl hown (mvT hZ (Wd hw 3 rfl)) (mvT hZ (Wd hw 4 rfl)) (mvT hZ (Wd hw 5 rfl)) (by decide) (backOf (W := 1) (rmKb l Z a0 hw [] (b1) (p0) (h1) n0 O1 GL A1 F_blocks_b1 F_size_b1 g_b1) hZ (Wd hw 5 rfl) (Wd hw 2 rfl) (by decide) (by decide)) (g := (mkF m 5 #[.val (.int p0), .val (.long q1), .second, .val (.long q2), .second, .val (.long q3), .second, .val (.long q4), .second, .unset] [(.int p0), (.ref b1), (.ref b1)])) rfl (by rw [hml]; rfl) (Steps.refl _) (a := b1) (argsL := [(.int p0)]) (rest := [(.ref b1)]) (lenOf pdv2 rfl) rfl (by show 2 * 0 + _ ≤ _; exact Nat.le_of_eq rfl) (hb hby at_5) (fun _ _ => ⟨rfl, e1, (by decide : 1 + 2 ≤ _), (by decide : 2 + 8193 ≤ _)⟩)
  dsimp only [Pt.U, Pt.locs, Pt.cells, Pt.slots] at X2 l2 y2 z2 st2 hQ2
  subst l2 y2 z2
  obtain ⟨A_2, kA_2, B_2, kB_2, n_2, rfl, N2q, Kc2, P2_0, P2_1, P2_2, P2_3, P2_4, P2_5, P2_6, P2_7, P2_8, P2_9⟩ := hQ2
  have O2 := O1.keep Kc2 (allS g_b1 all0)
  have g_A_2 : n0 ≤ A_2 := Nat.le_trans (own_sz O1) P2_0
  have g_B_2 : n0 ≤ B_2 := Nat.le_trans (own_sz O1) P2_1
  have N2 := Fr.app N0 N2q
  obtain ⟨cq3, kq3, q3a, q3b, q3c⟩ := isOf hZ rfl P2_2
  obtain ⟨_, _, ⟨T3, L3, k3, n3⟩, -, X3, ⟨Lc3, hQ3, l3, y3, z3⟩, st3⟩ := X2.virtualBack hx (y := MN_4) (z := MN_4) hown (mvT hZ (Wd hw 22 rfl)) (mvT hZ (Wd hw 23 rfl)) (notFace_of_selects (args := #[]) (mvT hZ (Wd hw 25 rfl))) (mvT hZ (Wd hw 25 rfl)) (mvT hZ (Wd hw 24 rfl)) (by decide) (backOf (W := 0) (rmAdd0 l Z a0 hw [] (b1) (q1) (A_2) (kA_2) (B_2) (kB_2) (n_2) (T2.heap) n0 O2 GL P2_2 P2_3 P2_4 P2_7 P2_5 P2_8 P2_6 P2_9 g_b1 g_A_2 g_B_2) hZ (Wd hw 26 rfl) (Wd hw 2 rfl) (by decide) (by decide)) q3a q3c (g := (mkF m 13 #[.val (.int p0), .val (.long q1), .second, .val (.long q2), .second, .val (.long q3), .second, .val (.long q4), .second, .val (.ref b1)] [(.long q1), (.ref b1)])) rfl (by rw [hml]; rfl) (Steps.refl _) (argsL := [(.long q1)]) (rest := []) (lenOf pdv3 rfl) rfl (by show 2 * 0 + _ ≤ _; exact Nat.le_of_eq rfl) (hb hby at_13) (fun _ _ => ⟨rfl, rfl, (by decide : 3 + 0 ≤ _), (by decide : 8195 + 0 ≤ _)⟩)
  dsimp only [Pt.U, Pt.locs, Pt.cells, Pt.slots] at X3 l3 y3 z3 st3 hQ3
  subst l3 y3 z3
  obtain ⟨Bn_3, kBn_3, nn_3, rfl, N3q, Kc3, P3_0, P3_1, P3_2, P3_3, P3_4, P3_5, P3_6, P3_7⟩ := hQ3
  have O3 := O2.keep Kc3 (allS g_b1 (allS g_A_2 (allS g_B_2 all0)))
  have g_Bn_3 := P3_0
  have N3 := Fr.app N2 N3q
  obtain ⟨cq4, kq4, q4a, q4b, q4c⟩ := isOf hZ rfl P3_1
  obtain ⟨_, _, ⟨T4, L4, k4, n4⟩, -, X4, ⟨Lc4, hQ4, l4, y4, z4⟩, st4⟩ := X3.virtualBack hx (y := MN_4) (z := MN_4) hown (mvT hZ (Wd hw 22 rfl)) (mvT hZ (Wd hw 23 rfl)) (notFace_of_selects (args := #[]) (mvT hZ (Wd hw 25 rfl))) (mvT hZ (Wd hw 25 rfl)) (mvT hZ (Wd hw 24 rfl)) (by decide) (backOf (W := 0) (rmAdd1 l Z a0 hw [] (b1) (q2) (A_2) (kA_2) (Bn_3) (kBn_3) (nn_3) (q1) (T3.heap) n0 O3 GL P3_1 P3_2 P3_3 P3_5 P3_4 P3_6 P2_6 P3_7 g_b1 g_A_2 g_Bn_3) hZ (Wd hw 26 rfl) (Wd hw 2 rfl) (by decide) (by decide)) q4a q4c (g := (mkF m 19 #[.val (.int p0), .val (.long q1), .second, .val (.long q2), .second, .val (.long q3), .second, .val (.long q4), .second, .val (.ref b1)] [(.long q2), (.ref b1)])) rfl (by rw [hml]; rfl) (Steps.refl _) (argsL := [(.long q2)]) (rest := []) (lenOf pdv3 rfl) rfl (by show 2 * 0 + _ ≤ _; exact Nat.le_of_eq rfl) (hb hby at_19) (fun _ _ => ⟨rfl, rfl, (by decide : 3 + 1 ≤ _), (by decide : 8195 + 2 ≤ _)⟩)
  dsimp only [Pt.U, Pt.locs, Pt.cells, Pt.slots] at X4 l4 y4 z4 st4 hQ4
  subst l4 y4 z4
  obtain ⟨Bn_4, kBn_4, nn_4, rfl, N4q, Kc4, P4_0, P4_1, P4_2, P4_3, P4_4, P4_5, P4_6, P4_7⟩ := hQ4
  have O4 := O3.keep Kc4 (allS g_b1 (allS g_A_2 (allS g_Bn_3 all0)))
  have g_Bn_4 := P4_0
  have N4 := Fr.app N3 N4q
  obtain ⟨cq5, kq5, q5a, q5b, q5c⟩ := isOf hZ rfl P4_1
  obtain ⟨_, _, ⟨T5, L5, k5, n5⟩, -, X5, ⟨Lc5, hQ5, l5, y5, z5⟩, st5⟩ := X4.virtualBack hx (y := MN_4) (z := MN_4) hown (mvT hZ (Wd hw 22 rfl)) (mvT hZ (Wd hw 23 rfl)) (notFace_of_selects (args := #[]) (mvT hZ (Wd hw 25 rfl))) (mvT hZ (Wd hw 25 rfl)) (mvT hZ (Wd hw 24 rfl)) (by decide) (backOf (W := 0) (rmAdd2 l Z a0 hw [] (b1) (q3) (A_2) (kA_2) (Bn_4) (kBn_4) (nn_4) (q1) (q2) (T4.heap) n0 O4 GL P4_1 P4_2 P4_3 P4_5 P4_4 P4_6 P2_6 P4_7 g_b1 g_A_2 g_Bn_4) hZ (Wd hw 26 rfl) (Wd hw 2 rfl) (by decide) (by decide)) q5a q5c (g := (mkF m 26 #[.val (.int p0), .val (.long q1), .second, .val (.long q2), .second, .val (.long q3), .second, .val (.long q4), .second, .val (.ref b1)] [(.long q3), (.ref b1)])) rfl (by rw [hml]; rfl) (Steps.refl _) (argsL := [(.long q3)]) (rest := []) (lenOf pdv3 rfl) rfl (by show 2 * 0 + _ ≤ _; exact Nat.le_of_eq rfl) (hb hby at_26) (fun _ _ => ⟨rfl, rfl, (by decide : 4 + 1 ≤ _), (by decide : 8197 + 4 ≤ _)⟩)
  dsimp only [Pt.U, Pt.locs, Pt.cells, Pt.slots] at X5 l5 y5 z5 st5 hQ5
  subst l5 y5 z5
  obtain ⟨Bn_5, kBn_5, nn_5, rfl, N5q, Kc5, P5_0, P5_1, P5_2, P5_3, P5_4, P5_5, P5_6, P5_7⟩ := hQ5
  have O5 := O4.keep Kc5 (allS g_b1 (allS g_A_2 (allS g_Bn_4 all0)))
  have g_Bn_5 := P5_0
  have N5 := Fr.app N4 N5q
  obtain ⟨cq6, kq6, q6a, q6b, q6c⟩ := isOf hZ rfl P5_1
  obtain ⟨_, _, ⟨T6, L6, k6, n6⟩, -, X6, ⟨Lc6, hQ6, l6, y6, z6⟩, st6⟩ := X5.virtualBack hx (y := MN_4) (z := MN_4) hown (mvT hZ (Wd hw 22 rfl)) (mvT hZ (Wd hw 23 rfl)) (notFace_of_selects (args := #[]) (mvT hZ (Wd hw 25 rfl))) (mvT hZ (Wd hw 25 rfl)) (mvT hZ (Wd hw 24 rfl)) (by decide) (backOf (W := 0) (rmAdd3 l Z a0 hw [] (b1) (q4) (A_2) (kA_2) (Bn_5) (kBn_5) (nn_5) (q1) (q2) (q3) (T5.heap) n0 O5 GL P5_1 P5_2 P5_3 P5_5 P5_4 P5_6 P2_6 P5_7 g_b1 g_A_2 g_Bn_5) hZ (Wd hw 26 rfl) (Wd hw 2 rfl) (by decide) (by decide)) q6a q6c (g := (mkF m 33 #[.val (.int p0), .val (.long q1), .second, .val (.long q2), .second, .val (.long q3), .second, .val (.long q4), .second, .val (.ref b1)] [(.long q4), (.ref b1)])) rfl (by rw [hml]; rfl) (Steps.refl _) (argsL := [(.long q4)]) (rest := []) (lenOf pdv3 rfl) rfl (by show 2 * 0 + _ ≤ _; exact Nat.le_of_eq rfl) (hb hby at_33) (fun _ _ => ⟨rfl, rfl, (by decide : 5 + 1 ≤ _), (by decide : 8201 + 6 ≤ _)⟩)
  dsimp only [Pt.U, Pt.locs, Pt.cells, Pt.slots] at X6 l6 y6 z6 st6 hQ6
  subst l6 y6 z6
  obtain ⟨Bn_6, kBn_6, nn_6, rfl, N6q, Kc6, P6_0, P6_1, P6_2, P6_3, P6_4, P6_5, P6_6, P6_7⟩ := hQ6
  have O6 := O5.keep Kc6 (allS g_b1 (allS g_A_2 (allS g_Bn_5 all0)))
  have g_Bn_6 := P6_0
  have N6 := Fr.app N5 N6q
  have hj0 : (0 : Int32) < nn_6 := own_dn (by decide : (0 : Int32) < (3 : Int32)) P6_7
  have hj1 : (1 : Int32) < nn_6 := own_dn (by decide : (1 : Int32) < (3 : Int32)) P6_7
  have hj2 : (2 : Int32) < nn_6 := own_dn (by decide : (2 : Int32) < (3 : Int32)) P6_7
  obtain ⟨cq7, kq7, q7a, q7b, q7c⟩ := isOf hZ rfl P6_1
  obtain ⟨_, _, ⟨T7, L7, k7, n7⟩, -, X7, ⟨Lc7, hQ7, l7, y7, z7⟩, st7⟩ := X6.virtualBack hx (y := MN_5) (z := MN_5) hown (mvT hZ (Wd hw 40 rfl)) (mvT hZ (Wd hw 41 rfl)) (notFace_of_selects (args := #[]) (mvT hZ (Wd hw 43 rfl))) (mvT hZ (Wd hw 43 rfl)) (mvT hZ (Wd hw 42 rfl)) (by decide) (backOf (W := 0) (rmGet0 l Z a0 hw [] (b1) (A_2) (kA_2) (Bn_6) (kBn_6) (nn_6) (q1) (q2) (q3) (q4) (T6.heap) n0 O6 GL P6_2 P6_5 P6_6 hj0) hZ (Wd hw 44 rfl) (Wd hw 2 rfl) (by decide) (by decide)) q7a q7c (g := (mkF m 39 #[.val (.int p0), .val (.long q1), .second, .val (.long q2), .second, .val (.long q3), .second, .val (.long q4), .second, .val (.ref b1)] [(.int (0 : Int32)), (.ref b1)])) rfl (by rw [hml]; rfl) (Steps.refl _) (argsL := [(.int (0 : Int32))]) (rest := []) (lenOf pdv4 rfl) rfl (by show 2 * 0 + _ ≤ _; exact Nat.le_of_eq rfl) (hb hby at_39) (fun _ _ => ⟨rfl, rfl, (by decide : 6 + 0 ≤ _), (by decide : 8207 + 0 ≤ _)⟩)
  dsimp only [Pt.U, Pt.locs, Pt.cells, Pt.slots] at X7 l7 y7 z7 st7 hQ7
  subst l7 y7 z7
  obtain ⟨rfl, N7q, e7⟩ := hQ7
  have N7 := Fr.app N6 N7q
  have hl44 : (lcmpW q1 q1) = (0 : Int32) := ((own_lceq _ _).2 rfl)
  obtain ⟨cq8, kq8, q8a, q8b, q8c⟩ := isOf hZ e7 P6_1
  obtain ⟨_, _, ⟨T8, L8, k8, n8⟩, -, X8, ⟨Lc8, hQ8, l8, y8, z8⟩, st8⟩ := X7.virtualBack hx (y := MN_5) (z := MN_5) hown (mvT hZ (Wd hw 40 rfl)) (mvT hZ (Wd hw 41 rfl)) (notFace_of_selects (args := #[]) (mvT hZ (Wd hw 43 rfl))) (mvT hZ (Wd hw 43 rfl)) (mvT hZ (Wd hw 42 rfl)) (by decide) (backOf (W := 0) (rmGet1 l Z a0 hw [] (b1) (A_2) (kA_2) (Bn_6) (kBn_6) (nn_6) (q1) (q2) (q3) (q4) (T6.heap) n0 O6 GL P6_2 P6_5 P6_6 hj1) hZ (Wd hw 44 rfl) (Wd hw 2 rfl) (by decide) (by decide)) q8a q8c (g := (mkF m 50 #[.val (.int p0), .val (.long q1), .second, .val (.long q2), .second, .val (.long q3), .second, .val (.long q4), .second, .val (.ref b1)] [(.int (1 : Int32)), (.ref b1)])) rfl (by rw [hml]; rfl) (Steps.refl _) (argsL := [(.int (1 : Int32))]) (rest := []) (lenOf pdv4 rfl) rfl (by show 2 * 0 + _ ≤ _; exact Nat.le_of_eq rfl) (hb hby at_50) (fun _ _ => ⟨rfl, e7, (by decide : 6 + 0 ≤ _), (by decide : 8207 + 0 ≤ _)⟩)
  dsimp only [Pt.U, Pt.locs, Pt.cells, Pt.slots] at X8 l8 y8 z8 st8 hQ8
  subst l8 y8 z8
  obtain ⟨rfl, N8q, e8⟩ := hQ8
  have N8 := Fr.app N7 N8q
  have hl55 : (lcmpW q2 q2) = (0 : Int32) := ((own_lceq _ _).2 rfl)
  obtain ⟨cq9, kq9, q9a, q9b, q9c⟩ := isOf hZ e8 P6_1
  obtain ⟨_, _, ⟨T9, L9, k9, n9⟩, -, X9, ⟨Lc9, hQ9, l9, y9, z9⟩, st9⟩ := X8.virtualBack hx (y := MN_5) (z := MN_5) hown (mvT hZ (Wd hw 40 rfl)) (mvT hZ (Wd hw 41 rfl)) (notFace_of_selects (args := #[]) (mvT hZ (Wd hw 43 rfl))) (mvT hZ (Wd hw 43 rfl)) (mvT hZ (Wd hw 42 rfl)) (by decide) (backOf (W := 0) (rmGet2 l Z a0 hw [] (b1) (A_2) (kA_2) (Bn_6) (kBn_6) (nn_6) (q1) (q2) (q3) (q4) (T6.heap) n0 O6 GL P6_2 P6_5 P6_6 hj2) hZ (Wd hw 44 rfl) (Wd hw 2 rfl) (by decide) (by decide)) q9a q9c (g := (mkF m 61 #[.val (.int p0), .val (.long q1), .second, .val (.long q2), .second, .val (.long q3), .second, .val (.long q4), .second, .val (.ref b1)] [(.int (2 : Int32)), (.ref b1)])) rfl (by rw [hml]; rfl) (Steps.refl _) (argsL := [(.int (2 : Int32))]) (rest := []) (lenOf pdv4 rfl) rfl (by show 2 * 0 + _ ≤ _; exact Nat.le_of_eq rfl) (hb hby at_61) (fun _ _ => ⟨rfl, e8, (by decide : 6 + 0 ≤ _), (by decide : 8207 + 0 ≤ _)⟩)
  dsimp only [Pt.U, Pt.locs, Pt.cells, Pt.slots] at X9 l9 y9 z9 st9 hQ9
  subst l9 y9 z9
  obtain ⟨rfl, N9q, e9⟩ := hQ9
  have N9 := Fr.app N8 N9q
  have hl67 : (lcmpW q3 q3) = (0 : Int32) := ((own_lceq _ _).2 rfl)
  obtain ⟨cq10, kq10, q10a, q10b, q10c⟩ := isOf hZ e9 P6_1
  obtain ⟨_, _, ⟨T10, L10, k10, n10⟩, -, X10, ⟨Lc10, hQ10, l10, y10, z10⟩, st10⟩ := X9.virtualBack hx (y := MN_5) (z := MN_5) hown (mvT hZ (Wd hw 40 rfl)) (mvT hZ (Wd hw 41 rfl)) (notFace_of_selects (args := #[]) (mvT hZ (Wd hw 43 rfl))) (mvT hZ (Wd hw 43 rfl)) (mvT hZ (Wd hw 42 rfl)) (by decide) (backOf (W := 0) (rmGet3 l Z a0 hw [] (b1) (A_2) (kA_2) (Bn_6) (kBn_6) (nn_6) (q1) (q2) (q3) (q4) (T6.heap) n0 O6 GL P6_2 P6_5 P6_6 P6_7) hZ (Wd hw 44 rfl) (Wd hw 2 rfl) (by decide) (by decide)) q10a q10c (g := (mkF m 73 #[.val (.int p0), .val (.long q1), .second, .val (.long q2), .second, .val (.long q3), .second, .val (.long q4), .second, .val (.ref b1)] [(.int (3 : Int32)), (.ref b1)])) rfl (by rw [hml]; rfl) (Steps.refl _) (argsL := [(.int (3 : Int32))]) (rest := []) (lenOf pdv4 rfl) rfl (by show 2 * 0 + _ ≤ _; exact Nat.le_of_eq rfl) (hb hby at_73) (fun _ _ => ⟨rfl, e9, (by decide : 6 + 0 ≤ _), (by decide : 8207 + 0 ≤ _)⟩)
  dsimp only [Pt.U, Pt.locs, Pt.cells, Pt.slots] at X10 l10 y10 z10 st10 hQ10
  subst l10 y10 z10
  obtain ⟨rfl, N10q, e10⟩ := hQ10
  have N10 := Fr.app N9 N10q
  have hl79 : (lcmpW q4 q4) = (0 : Int32) := ((own_lceq _ _).2 rfl)
  obtain ⟨fs, hr, hrun, hended, hW, hsame⟩ := X10.leave (v := some (.int (1 : Int32))) (fun h => by rw [Bd.returns] at h; cases h)
  refine ⟨_, _, pre0 _ ?_, hrun, hended, _, _, rfl, ?_, ⟨_, rfl⟩, hW, hsame.mono (by decide) (by decide)⟩
  · show Steps p.tables e below (s₁.setTop (mkF m 0 #[.val (.int p0), .val (.long q1), .second, .val (.long q2), .second, .val (.long q3), .second, .val (.long q4), .second, .unset] [])) _
    refine st1 _ ?_
    show Steps p.tables e below (T1.setTop (mkF m 3 #[.val (.int p0), .val (.long q1), .second, .val (.long q2), .second, .val (.long q3), .second, .val (.long q4), .second, .unset] [(.ref b1)])) _
    refine XS.dup X1.here hx rfl (hb hby at_3) rfl rfl ?_
    show Steps p.tables e below (T1.setTop (mkF m 4 #[.val (.int p0), .val (.long q1), .second, .val (.long q2), .second, .val (.long q3), .second, .val (.long q4), .second, .unset] [(.ref b1), (.ref b1)])) _
    refine XS.iloadN X1.here hx rfl (hb hby at_4) rfl ?_
    show Steps p.tables e below (T1.setTop (mkF m 5 #[.val (.int p0), .val (.long q1), .second, .val (.long q2), .second, .val (.long q3), .second, .val (.long q4), .second, .unset] [(.int p0), (.ref b1), (.ref b1)])) _
    refine st2.trans ?_
    show Steps p.tables e below (T2.setTop (mkF m 8 #[.val (.int p0), .val (.long q1), .second, .val (.long q2), .second, .val (.long q3), .second, .val (.long q4), .second, .unset] [(.ref b1)])) _
    refine XS.astore X2.here hx rfl (hb hby at_8) rfl rfl (l' := #[.val (.int p0), .val (.long q1), .second, .val (.long q2), .second, .val (.long q3), .second, .val (.long q4), .second, .val (.ref b1)]) rfl ?_
    show Steps p.tables e below (T2.setTop (mkF m 10 #[.val (.int p0), .val (.long q1), .second, .val (.long q2), .second, .val (.long q3), .second, .val (.long q4), .second, .val (.ref b1)] [])) _
    refine XS.aload X2.here hx rfl (hb hby at_10) rfl rfl ?_
    show Steps p.tables e below (T2.setTop (mkF m 12 #[.val (.int p0), .val (.long q1), .second, .val (.long q2), .second, .val (.long q3), .second, .val (.long q4), .second, .val (.ref b1)] [(.ref b1)])) _
    refine XS.lloadN X2.here hx rfl (hb hby at_12) rfl ?_
    show Steps p.tables e below (T2.setTop (mkF m 13 #[.val (.int p0), .val (.long q1), .second, .val (.long q2), .second, .val (.long q3), .second, .val (.long q4), .second, .val (.ref b1)] [(.long q1), (.ref b1)])) _
    refine st3.trans ?_
    show Steps p.tables e below (T3.setTop (mkF m 16 #[.val (.int p0), .val (.long q1), .second, .val (.long q2), .second, .val (.long q3), .second, .val (.long q4), .second, .val (.ref b1)] [])) _
    refine XS.aload X3.here hx rfl (hb hby at_16) rfl rfl ?_
    show Steps p.tables e below (T3.setTop (mkF m 18 #[.val (.int p0), .val (.long q1), .second, .val (.long q2), .second, .val (.long q3), .second, .val (.long q4), .second, .val (.ref b1)] [(.ref b1)])) _
    refine XS.lloadN X3.here hx rfl (hb hby at_18) rfl ?_
    show Steps p.tables e below (T3.setTop (mkF m 19 #[.val (.int p0), .val (.long q1), .second, .val (.long q2), .second, .val (.long q3), .second, .val (.long q4), .second, .val (.ref b1)] [(.long q2), (.ref b1)])) _
    refine st4.trans ?_
    show Steps p.tables e below (T4.setTop (mkF m 22 #[.val (.int p0), .val (.long q1), .second, .val (.long q2), .second, .val (.long q3), .second, .val (.long q4), .second, .val (.ref b1)] [])) _
    refine XS.aload X4.here hx rfl (hb hby at_22) rfl rfl ?_
    show Steps p.tables e below (T4.setTop (mkF m 24 #[.val (.int p0), .val (.long q1), .second, .val (.long q2), .second, .val (.long q3), .second, .val (.long q4), .second, .val (.ref b1)] [(.ref b1)])) _
    refine XS.lload X4.here hx rfl (hb hby at_24) rfl ?_
    show Steps p.tables e below (T4.setTop (mkF m 26 #[.val (.int p0), .val (.long q1), .second, .val (.long q2), .second, .val (.long q3), .second, .val (.long q4), .second, .val (.ref b1)] [(.long q3), (.ref b1)])) _
    refine st5.trans ?_
    show Steps p.tables e below (T5.setTop (mkF m 29 #[.val (.int p0), .val (.long q1), .second, .val (.long q2), .second, .val (.long q3), .second, .val (.long q4), .second, .val (.ref b1)] [])) _
    refine XS.aload X5.here hx rfl (hb hby at_29) rfl rfl ?_
    show Steps p.tables e below (T5.setTop (mkF m 31 #[.val (.int p0), .val (.long q1), .second, .val (.long q2), .second, .val (.long q3), .second, .val (.long q4), .second, .val (.ref b1)] [(.ref b1)])) _
    refine XS.lload X5.here hx rfl (hb hby at_31) rfl ?_
    show Steps p.tables e below (T5.setTop (mkF m 33 #[.val (.int p0), .val (.long q1), .second, .val (.long q2), .second, .val (.long q3), .second, .val (.long q4), .second, .val (.ref b1)] [(.long q4), (.ref b1)])) _
    refine st6.trans ?_
    show Steps p.tables e below (T6.setTop (mkF m 36 #[.val (.int p0), .val (.long q1), .second, .val (.long q2), .second, .val (.long q3), .second, .val (.long q4), .second, .val (.ref b1)] [])) _
    refine XS.aload X6.here hx rfl (hb hby at_36) rfl rfl ?_
    show Steps p.tables e below (T6.setTop (mkF m 38 #[.val (.int p0), .val (.long q1), .second, .val (.long q2), .second, .val (.long q3), .second, .val (.long q4), .second, .val (.ref b1)] [(.ref b1)])) _
    refine XS.iconst X6.here hx rfl (hb hby at_38) ?_
    show Steps p.tables e below (T6.setTop (mkF m 39 #[.val (.int p0), .val (.long q1), .second, .val (.long q2), .second, .val (.long q3), .second, .val (.long q4), .second, .val (.ref b1)] [(.int (0 : Int32)), (.ref b1)])) _
    refine st7.trans ?_
    show Steps p.tables e below (T7.setTop (mkF m 42 #[.val (.int p0), .val (.long q1), .second, .val (.long q2), .second, .val (.long q3), .second, .val (.long q4), .second, .val (.ref b1)] [(.long q1)])) _
    refine XS.lloadN X7.here hx rfl (hb hby at_42) rfl ?_
    show Steps p.tables e below (T7.setTop (mkF m 43 #[.val (.int p0), .val (.long q1), .second, .val (.long q2), .second, .val (.long q3), .second, .val (.long q4), .second, .val (.ref b1)] [(.long q1), (.long q1)])) _
    refine XS.lcmp X7.here hx rfl (hb hby at_43) rfl ?_
    show Steps p.tables e below (T7.setTop (mkF m 44 #[.val (.int p0), .val (.long q1), .second, .val (.long q2), .second, .val (.long q3), .second, .val (.long q4), .second, .val (.ref b1)] [(.int (lcmpW q1 q1))])) _
    refine XS.ifNo X7.here hx rfl (hb hby at_44) rfl ((if0 _ _).trans (teq hl44).2) ?_
    show Steps p.tables e below (T7.setTop (mkF m 47 #[.val (.int p0), .val (.long q1), .second, .val (.long q2), .second, .val (.long q3), .second, .val (.long q4), .second, .val (.ref b1)] [])) _
    refine XS.aload X7.here hx rfl (hb hby at_47) rfl rfl ?_
    show Steps p.tables e below (T7.setTop (mkF m 49 #[.val (.int p0), .val (.long q1), .second, .val (.long q2), .second, .val (.long q3), .second, .val (.long q4), .second, .val (.ref b1)] [(.ref b1)])) _
    refine XS.iconst X7.here hx rfl (hb hby at_49) ?_
    show Steps p.tables e below (T7.setTop (mkF m 50 #[.val (.int p0), .val (.long q1), .second, .val (.long q2), .second, .val (.long q3), .second, .val (.long q4), .second, .val (.ref b1)] [(.int (1 : Int32)), (.ref b1)])) _
    refine st8.trans ?_
    show Steps p.tables e below (T8.setTop (mkF m 53 #[.val (.int p0), .val (.long q1), .second, .val (.long q2), .second, .val (.long q3), .second, .val (.long q4), .second, .val (.ref b1)] [(.long q2)])) _
    refine XS.lloadN X8.here hx rfl (hb hby at_53) rfl ?_
    show Steps p.tables e below (T8.setTop (mkF m 54 #[.val (.int p0), .val (.long q1), .second, .val (.long q2), .second, .val (.long q3), .second, .val (.long q4), .second, .val (.ref b1)] [(.long q2), (.long q2)])) _
    refine XS.lcmp X8.here hx rfl (hb hby at_54) rfl ?_
    show Steps p.tables e below (T8.setTop (mkF m 55 #[.val (.int p0), .val (.long q1), .second, .val (.long q2), .second, .val (.long q3), .second, .val (.long q4), .second, .val (.ref b1)] [(.int (lcmpW q2 q2))])) _
    refine XS.ifNo X8.here hx rfl (hb hby at_55) rfl ((if0 _ _).trans (teq hl55).2) ?_
    show Steps p.tables e below (T8.setTop (mkF m 58 #[.val (.int p0), .val (.long q1), .second, .val (.long q2), .second, .val (.long q3), .second, .val (.long q4), .second, .val (.ref b1)] [])) _
    refine XS.aload X8.here hx rfl (hb hby at_58) rfl rfl ?_
    show Steps p.tables e below (T8.setTop (mkF m 60 #[.val (.int p0), .val (.long q1), .second, .val (.long q2), .second, .val (.long q3), .second, .val (.long q4), .second, .val (.ref b1)] [(.ref b1)])) _
    refine XS.iconst X8.here hx rfl (hb hby at_60) ?_
    show Steps p.tables e below (T8.setTop (mkF m 61 #[.val (.int p0), .val (.long q1), .second, .val (.long q2), .second, .val (.long q3), .second, .val (.long q4), .second, .val (.ref b1)] [(.int (2 : Int32)), (.ref b1)])) _
    refine st9.trans ?_
    show Steps p.tables e below (T9.setTop (mkF m 64 #[.val (.int p0), .val (.long q1), .second, .val (.long q2), .second, .val (.long q3), .second, .val (.long q4), .second, .val (.ref b1)] [(.long q3)])) _
    refine XS.lload X9.here hx rfl (hb hby at_64) rfl ?_
    show Steps p.tables e below (T9.setTop (mkF m 66 #[.val (.int p0), .val (.long q1), .second, .val (.long q2), .second, .val (.long q3), .second, .val (.long q4), .second, .val (.ref b1)] [(.long q3), (.long q3)])) _
    refine XS.lcmp X9.here hx rfl (hb hby at_66) rfl ?_
    show Steps p.tables e below (T9.setTop (mkF m 67 #[.val (.int p0), .val (.long q1), .second, .val (.long q2), .second, .val (.long q3), .second, .val (.long q4), .second, .val (.ref b1)] [(.int (lcmpW q3 q3))])) _
    refine XS.ifNo X9.here hx rfl (hb hby at_67) rfl ((if0 _ _).trans (teq hl67).2) ?_
    show Steps p.tables e below (T9.setTop (mkF m 70 #[.val (.int p0), .val (.long q1), .second, .val (.long q2), .second, .val (.long q3), .second, .val (.long q4), .second, .val (.ref b1)] [])) _
    refine XS.aload X9.here hx rfl (hb hby at_70) rfl rfl ?_
    show Steps p.tables e below (T9.setTop (mkF m 72 #[.val (.int p0), .val (.long q1), .second, .val (.long q2), .second, .val (.long q3), .second, .val (.long q4), .second, .val (.ref b1)] [(.ref b1)])) _
    refine XS.iconst X9.here hx rfl (hb hby at_72) ?_
    show Steps p.tables e below (T9.setTop (mkF m 73 #[.val (.int p0), .val (.long q1), .second, .val (.long q2), .second, .val (.long q3), .second, .val (.long q4), .second, .val (.ref b1)] [(.int (3 : Int32)), (.ref b1)])) _
    refine st10.trans ?_
    show Steps p.tables e below (T10.setTop (mkF m 76 #[.val (.int p0), .val (.long q1), .second, .val (.long q2), .second, .val (.long q3), .second, .val (.long q4), .second, .val (.ref b1)] [(.long q4)])) _
    refine XS.lload X10.here hx rfl (hb hby at_76) rfl ?_
    show Steps p.tables e below (T10.setTop (mkF m 78 #[.val (.int p0), .val (.long q1), .second, .val (.long q2), .second, .val (.long q3), .second, .val (.long q4), .second, .val (.ref b1)] [(.long q4), (.long q4)])) _
    refine XS.lcmp X10.here hx rfl (hb hby at_78) rfl ?_
    show Steps p.tables e below (T10.setTop (mkF m 79 #[.val (.int p0), .val (.long q1), .second, .val (.long q2), .second, .val (.long q3), .second, .val (.long q4), .second, .val (.ref b1)] [(.int (lcmpW q4 q4))])) _
    refine XS.ifNo X10.here hx rfl (hb hby at_79) rfl ((if0 _ _).trans (teq hl79).2) ?_
    show Steps p.tables e below (T10.setTop (mkF m 82 #[.val (.int p0), .val (.long q1), .second, .val (.long q2), .second, .val (.long q3), .second, .val (.long q4), .second, .val (.ref b1)] [])) _
    refine XS.iconst X10.here hx rfl (hb hby at_82) ?_
    show Steps p.tables e below (T10.setTop (mkF m 83 #[.val (.int p0), .val (.long q1), .second, .val (.long q2), .second, .val (.long q3), .second, .val (.long q4), .second, .val (.ref b1)] [(.int (1 : Int32))])) _
    refine XS.goto X10.here hx rfl (pc0 := 83) (pc' := 87) rfl (hb hby at_83) (by decide) (by decide) ?_
    show Steps p.tables e below (T10.setTop (mkF m 87 #[.val (.int p0), .val (.long q1), .second, .val (.long q2), .second, .val (.long q3), .second, .val (.long q4), .second, .val (.ref b1)] [(.int (1 : Int32))])) _
    exact retN X10 hx (t := .boolean) Bd.returns (by simp) (hb hby at_87) hr
  · show Q_rm0 n0 _ T10.heap _
    rw [e10]
    exact ⟨rfl, N10⟩
set_option maxRecDepth 65536 in
set_option maxHeartbeats 40000000 in
theorem comes_1 {Post : Tables → Env → Array Value → State → Outcome → State → Prop} (hpost : ∀ tb e args s v u, (limb_1_1.after args s (.returned v) u = true ∧ limb_1_2.after args s (.returned v) u = true ∧ True) → FrameEnd s (.returned v) u (Jvm.fieldLocs frame_1_writes args s ++ Jvm.arrayLocs frame_1_arrays args s ++ Jvm.staticLocs frame_1_statics s) 24 16512 → Post tb e args s (.returned v) u) :
    ArmFor flags0 classFile x code maxLocals ret World_1 tables_1 room_1 Calls_1 rest_1 Pre_1 Post := by
  intro l hfl _ _ p e ha hc hk s m args below hf hA hF happ hP
  obtain ⟨hcalls, hrest, hpre⟩ := hP
  obtain ⟨-, -, -, hnamed, -, -, -, hat⟩ := (Spec.applies_iff hf).mp happ
  obtain ⟨hg, hn⟩ := and_e (Cond.before_iff.mp (show (Jvm.Cond.and given_1 narrow_1).before args s = true from hpre))
  obtain ⟨gv_l0, gv_r0⟩ := and_e hg
  obtain ⟨gv_l2, gv_r2⟩ := and_e gv_r0
  obtain ⟨gv_l4, gv_r4⟩ := and_e gv_r2
  obtain ⟨gv_l6, gv_r6⟩ := and_e gv_r4
  obtain ⟨gv_l8, gv_r8⟩ := and_e gv_r6
  obtain ⟨w0, w1, w2, w3, w4, rfl⟩ : ∃ w0 w1 w2 w3 w4 : Value, args = #[w0, w1, w2, w3, w4] := by
    have hs : args.size = 5 := by simpa [Cond.value, given_1] using gv_l0
    obtain ⟨L⟩ := args
    match L, hs with
    | [w0, w1, w2, w3, w4], _ => exact ⟨w0, w1, w2, w3, w4, rfl⟩
  have hw := fun d (hd : d ∈ tables_1) => atoms_spec (ws := Jvm.Cond.code x code maxLocals ret :: tables_1) hat d (List.mem_cons_of_mem _ hd)
  have hfit : Fit s := fun {y c} hc i hi => by
    obtain ⟨ha, rfl⟩ := Array.getElem?_eq_some_iff.mp hc
    have q := List.all_eq_true.mp ((Array.all_eq_true_iff_forall_mem.mp hF) _ (Array.getElem_mem ha)) i (List.mem_range.mpr hi)
    simpa [Array.getElem?_eq_getElem hi] using q
  obtain ⟨i0, ei0⟩ := is_v gv_l2
  obtain rfl : w0 = (.int i0) := Option.some.inj ei0
  obtain ⟨i1, ei1⟩ := isL_v gv_l4
  obtain rfl : w1 = (.long i1) := Option.some.inj ei1
  obtain ⟨i2, ei2⟩ := isL_v gv_l6
  obtain rfl : w2 = (.long i2) := Option.some.inj ei2
  obtain ⟨i3, ei3⟩ := isL_v gv_l8
  obtain rfl : w3 = (.long i3) := Option.some.inj ei3
  obtain ⟨i4, ei4⟩ := isL_v gv_r8
  obtain rfl : w4 = (.long i4) := Option.some.inj ei4
  have vB : (Jvm.Term.static "com/example/inchworm/inchworm/KeyBlocks" "BLOCK_BITS" "I").eval _ s none [] s = some (.int (13 : Int32)) := Cond.eq_int (beq_iff_eq.mpr hn) (Term.int_eval (13 : Int32))
  have GL : GF s := Sta.start vB (Or.inr ⟨(Wd hw 2 rfl), (Wd hw 30 rfl)⟩)
  obtain ⟨n, o, h1, h2, h3, _, L, rfl, ⟨rfl, N⟩, hq⟩ := rm0 l s _ hw tables_1 i0 i1 i2 i3 i4 s.heap s.heap.size (Old.start s) GL p e ha hc hk s m _ below hf ((Spec.applies_iff_loose hf).mp happ).1 ⟨rfl, State.Warmed39.refl s, rfl⟩ trivial
  refine ⟨n, _, h1, h2, h3, hpost _ _ _ _ _ _ ⟨Cond.after_iff.mpr rfl, Cond.after_iff.mpr (eq_i res_at (Term.int_eval (1)) rfl), trivial⟩ ⟨hq.1, hq.2.1, (hq.2.2.sift fun y hy => Or.inr (N y hy)).mono (by decide) (by decide)⟩⟩
theorem main_1_1 : Claimed_1_1 := comes_1 fun _ _ _ _ _ _ h hF => ⟨h.1, hF⟩
theorem main_1_2 : Claimed_1_2 := comes_1 fun _ _ _ _ _ _ h hF => ⟨h.2.1, hF⟩
end Jvm.Pilot.@@N@@
namespace Jvm.Pilot.@@N@@
open Jvm Jvm.ClassFile Sem Op Lib Jvm.Free Jvm.Stand Jvm.Pilot.@@N@@.Jvm.D
/-! MADE BY PROGRAM (witnessworld.py) out of the Statement's table words and the real class files: 16 classes; the members and pool entries that the words name. The judged class is class 1, her method 1. -/
namespace start1
open Jvm.ClassFile
def u (s : String) : CpInfo := .utf8 (stringToUtf16 s)
/-- a pool by its gaps: so many unusable entries, then the entry; so many at the end -/
def gap : Nat → List CpInfo → List CpInfo
  | 0, r => r
  | n + 1, r => .unusable :: gap n r
def poolList (es : List (Nat × CpInfo)) (last : Nat) : List CpInfo := es.foldr (fun e r => gap e.1 (e.2 :: r)) (gap last [])
def pool (es : List (Nat × CpInfo)) (last : Nat) : Array CpInfo := ⟨poolList es last⟩
def fileOf (pool : Array CpInfo) (this : Nat) (attrs : Array Attribute := #[]) (ms : Array MethodInfo := #[]) (fl : Nat := 33) (sup : Nat := 0) (ifs : Array Nat := #[]) (fds : Array FieldInfo := #[]) : ClassFile where
  minorVersion := 0
  majorVersion := 65
  constantPool := pool
  accessFlags := fl
  thisClass := this
  superClass := sup
  interfaces := ifs
  fields := fds
  methods := ms
  attributes := attrs
def plain (name : String) (sup : Option ClassId) : Class where
  name := name
  kind := .ordinary
  loader := none
  accessFlags := 33
  super := sup
  interfaces := #[]
  cf := none
  fields := #[]
  methods := #[]
  instanceTypes := #[]
  staticTypes := #[]
  resolved := #[]
  callSites := []
  init := .initialized
  statics := none
  mirror := none

def pool0 : Array CpInfo := pool [(5, u "<init>"), (0, u "()V"), (1, .class_ 10), (1, u "java/lang/Object")] 113

def k0c0 : Code := { maxStack := 0, maxLocals := 1, code := object_method_1_code, exceptionTable := #[], attributes := #[] }
def k0m0 : Method := { name := "<init>", desc := "()V", sig := { parameters := [], returnType := none }, accessFlags := 1, code := some k0c0 }
/-- java/lang/Object -/
def k0 : Class := { plain "java/lang/Object" none with
  accessFlags := 33
  interfaces := #[]
  cf := some (fileOf pool0 8 #[] #[{ accessFlags := 1, nameIndex := 5, descriptorIndex := 6, attributes := #[] }] 33 0 #[] #[])
  fields := #[]
  methods := #[k0m0]
  instanceTypes := #[]
  staticTypes := #[]
  resolved := Array.replicate 124 none
  statics := none }

def pool1 : Array CpInfo := pool [(2, .class_ 4), (1, u "java/lang/Object"), (0, u "<init>"), (0, u "()V"), (0, .class_ 8), (0, u "com/example/inchworm/inchworm/KeyBlocks"), (0, .methodref 7 10), (0, .nameAndType 5 11), (0, u "(I)V"), (0, .methodref 7 13), (0, .nameAndType 14 15), (0, u "add"), (0, u "(J)V"), (0, .methodref 7 17), (0, .nameAndType 18 19), (0, u "get"), (0, u "(I)J"), (0, .class_ 21), (0, u "com/example/inchworm/inchworm/KeyBlocksGetPinLaw"), (2, u "law"), (0, u "(IJJJJ)Z")] 3

def k1m0 : Method := { name := "<init>", desc := "()V", sig := { parameters := [], returnType := none }, accessFlags := 1, code := none }
def k1c1 : Code := { maxStack := 4, maxLocals := 10, code := code, exceptionTable := #[], attributes := #[] }
def k1m1 : Method := { name := "law", desc := "(IJJJJ)Z", sig := { parameters := [.int, .long, .long, .long, .long], returnType := some .boolean }, accessFlags := 9, code := some k1c1 }
/-- com/example/inchworm/inchworm/KeyBlocksGetPinLaw -/
def k1 : Class := { plain "com/example/inchworm/inchworm/KeyBlocksGetPinLaw" (some 0) with
  accessFlags := 49
  interfaces := #[]
  cf := some (fileOf pool1 20 #[] #[{ accessFlags := 1, nameIndex := 5, descriptorIndex := 6, attributes := #[] }, { accessFlags := 9, nameIndex := 24, descriptorIndex := 25, attributes := #[] }] 49 2 #[] #[])
  fields := #[]
  methods := #[k1m0, k1m1]
  instanceTypes := #[]
  staticTypes := #[]
  resolved := Array.replicate 29 none
  statics := none }

def pool2 : Array CpInfo := pool [(1, .class_ 2), (0, u "com/example/inchworm/inchworm/Journal$Tail"), (0, .class_ 4), (0, u "java/lang/Object"), (7, .class_ 13), (0, u "com/example/inchworm/inchworm/Journal")] 2

/-- com/example/inchworm/inchworm/Journal$Tail -/
def k2 : Class := { plain "com/example/inchworm/inchworm/Journal$Tail" (some 0) with
  accessFlags := 1536
  interfaces := #[]
  cf := some (fileOf pool2 1 #[.nestHost 12] #[] 1536 3 #[] #[])
  fields := #[]
  methods := #[]
  instanceTypes := #[]
  staticTypes := #[]
  resolved := Array.replicate 16 none
  statics := none }

def pool3 : Array CpInfo := pool [(1, .class_ 2), (0, u "com/example/inchworm/inchworm/JournalRecords$Keys"), (0, .class_ 4), (0, u "java/lang/Object"), (0, .class_ 6), (0, u "com/example/inchworm/inchworm/Journal$Tail"), (3, .class_ 11), (0, u "com/example/inchworm/inchworm/JournalRecords")] 5

/-- com/example/inchworm/inchworm/JournalRecords$Keys -/
def k3 : Class := { plain "com/example/inchworm/inchworm/JournalRecords$Keys" (some 0) with
  accessFlags := 1536
  interfaces := #[2]
  cf := some (fileOf pool3 1 #[.nestHost 10] #[] 1536 3 #[5] #[])
  fields := #[]
  methods := #[]
  instanceTypes := #[]
  staticTypes := #[]
  resolved := Array.replicate 17 none
  statics := none }

def pool4 : Array CpInfo := pool [(1, .methodref 2 3), (0, .class_ 4), (0, .nameAndType 5 6), (0, u "java/lang/Object"), (0, u "<init>"), (0, u "()V"), (0, .class_ 8), (0, u "[J"), (0, .fieldref 10 11), (0, .class_ 12), (0, .nameAndType 13 14), (0, u "com/example/inchworm/inchworm/KeyBlocks"), (0, u "blocks"), (0, u "[[J"), (0, .methodref 16 17), (0, .class_ 18), (0, .nameAndType 19 20), (0, u "java/lang/Math"), (0, u "min"), (0, u "(II)I"), (0, .methodref 16 22), (0, .nameAndType 23 20), (0, u "max"), (0, .fieldref 10 25), (0, .nameAndType 26 27), (0, u "size"), (0, u "I"), (0, .fieldref 10 29), (0, .nameAndType 30 27), (0, u "BLOCK_BITS"), (1, .class_ 34), (1, u "java/util/Arrays"), (0, u "copyOf"), (2, .methodref 32 39), (0, .nameAndType 35 40), (0, u "([JI)[J"), (11, u "(J)V"), (20, .class_ 74), (0, u "com/example/inchworm/inchworm/JournalRecords$Keys"), (0, u "BLOCK_SIZE"), (2, u "(I)V"), (2, u "add"), (1, u "get"), (0, u "(I)J")] 12

def k4c0 : Code := { maxStack := 5, maxLocals := 2, code := prog_38_method_1_code, exceptionTable := #[], attributes := #[] }
def k4m0 : Method := { name := "<init>", desc := "(I)V", sig := { parameters := [.int], returnType := none }, accessFlags := 0, code := some k4c0 }
def k4c1 : Code := { maxStack := 5, maxLocals := 5, code := prog_38_method_3_code, exceptionTable := #[], attributes := #[] }
def k4m1 : Method := { name := "add", desc := "(J)V", sig := { parameters := [.long], returnType := none }, accessFlags := 0, code := some k4c1 }
def k4c2 : Code := { maxStack := 3, maxLocals := 2, code := prog_38_method_4_code, exceptionTable := #[], attributes := #[] }
def k4m2 : Method := { name := "get", desc := "(I)J", sig := { parameters := [.int], returnType := some .long }, accessFlags := 0, code := some k4c2 }
/-- com/example/inchworm/inchworm/KeyBlocks -/
def k4 : Class := { plain "com/example/inchworm/inchworm/KeyBlocks" (some 0) with
  accessFlags := 32
  interfaces := #[3]
  cf := some (fileOf pool4 10 #[] #[{ accessFlags := 0, nameIndex := 5, descriptorIndex := 78, attributes := #[] }, { accessFlags := 0, nameIndex := 81, descriptorIndex := 52, attributes := #[] }, { accessFlags := 0, nameIndex := 83, descriptorIndex := 84, attributes := #[] }] 32 2 #[73] #[{ accessFlags := 26, nameIndex := 75, descriptorIndex := 27, attributes := #[] }, { accessFlags := 26, nameIndex := 30, descriptorIndex := 27, attributes := #[] }, { accessFlags := 2, nameIndex := 13, descriptorIndex := 14, attributes := #[] }, { accessFlags := 2, nameIndex := 26, descriptorIndex := 27, attributes := #[] }])
  fields := #[{ name := "BLOCK_SIZE", type := .int, accessFlags := 26, slot := 0, constantValue := 0 }, { name := "BLOCK_BITS", type := .int, accessFlags := 26, slot := 1, constantValue := 0 }, { name := "blocks", type := (.array (.array .long)), accessFlags := 2, slot := 0, constantValue := 0 }, { name := "size", type := .int, accessFlags := 2, slot := 1, constantValue := 0 }]
  methods := #[k4m0, k4m1, k4m2]
  instanceTypes := #[(.array (.array .long)), .int]
  staticTypes := #[.int, .int]
  resolved := Array.replicate 97 none
  statics := some 0 }

def pool5 : Array CpInfo := pool [(1, .class_ 2), (0, u "java/lang/Math"), (1, .class_ 6), (1, u "java/lang/Object"), (0, u "<init>"), (0, u "()V"), (89, .class_ 100), (1, u "java/lang/Math$RandomNumberGeneratorHolder"), (71, u "negativeZeroFloatBits"), (0, u "J"), (2, u "negativeZeroDoubleBits"), (21, u "max"), (2, u "min"), (43, u "$assertionsDisabled"), (0, u "Z"), (88, u "(II)I"), (2, u "twoToTheDoubleScaleDown"), (0, u "D"), (4, u "twoToTheDoubleScaleUp"), (9, u "E"), (3, u "PI"), (2, u "TAU"), (2, u "DEGREES_TO_RADIANS"), (0, u "RADIANS_TO_DEGREES")] 94

def k5m0 : Method := { name := "<init>", desc := "()V", sig := { parameters := [], returnType := none }, accessFlags := 2, code := none }
def k5c1 : Code := { maxStack := 2, maxLocals := 2, code := jdk_29_method_65_code, exceptionTable := #[], attributes := #[] }
def k5m1 : Method := { name := "max", desc := "(II)I", sig := { parameters := [.int, .int], returnType := some .int }, accessFlags := 9, code := some k5c1 }
def k5c2 : Code := { maxStack := 2, maxLocals := 2, code := jdk_29_method_69_code, exceptionTable := #[], attributes := #[] }
def k5m2 : Method := { name := "min", desc := "(II)I", sig := { parameters := [.int, .int], returnType := some .int }, accessFlags := 9, code := some k5c2 }
/-- java/lang/Math -/
def k5 : Class := { plain "java/lang/Math" (some 0) with
  accessFlags := 49
  interfaces := #[]
  cf := some (fileOf pool5 1 #[.nestMembers #[98]] #[{ accessFlags := 2, nameIndex := 7, descriptorIndex := 8, attributes := #[] }, { accessFlags := 9, nameIndex := 198, descriptorIndex := 335, attributes := #[] }, { accessFlags := 9, nameIndex := 201, descriptorIndex := 335, attributes := #[] }] 49 4 #[] #[{ accessFlags := 25, nameIndex := 354, descriptorIndex := 339, attributes := #[] }, { accessFlags := 25, nameIndex := 358, descriptorIndex := 339, attributes := #[] }, { accessFlags := 25, nameIndex := 361, descriptorIndex := 339, attributes := #[] }, { accessFlags := 26, nameIndex := 364, descriptorIndex := 339, attributes := #[] }, { accessFlags := 26, nameIndex := 365, descriptorIndex := 339, attributes := #[] }, { accessFlags := 26, nameIndex := 172, descriptorIndex := 173, attributes := #[] }, { accessFlags := 26, nameIndex := 176, descriptorIndex := 173, attributes := #[] }, { accessFlags := 8, nameIndex := 344, descriptorIndex := 339, attributes := #[] }, { accessFlags := 8, nameIndex := 338, descriptorIndex := 339, attributes := #[] }, { accessFlags := 4120, nameIndex := 245, descriptorIndex := 246, attributes := #[] }])
  fields := #[{ name := "E", type := .double, accessFlags := 25, slot := 0, constantValue := 0 }, { name := "PI", type := .double, accessFlags := 25, slot := 1, constantValue := 0 }, { name := "TAU", type := .double, accessFlags := 25, slot := 2, constantValue := 0 }, { name := "DEGREES_TO_RADIANS", type := .double, accessFlags := 26, slot := 3, constantValue := 0 }, { name := "RADIANS_TO_DEGREES", type := .double, accessFlags := 26, slot := 4, constantValue := 0 }, { name := "negativeZeroFloatBits", type := .long, accessFlags := 26, slot := 5, constantValue := 0 }, { name := "negativeZeroDoubleBits", type := .long, accessFlags := 26, slot := 6, constantValue := 0 }, { name := "twoToTheDoubleScaleUp", type := .double, accessFlags := 8, slot := 7, constantValue := 0 }, { name := "twoToTheDoubleScaleDown", type := .double, accessFlags := 8, slot := 8, constantValue := 0 }, { name := "$assertionsDisabled", type := .boolean, accessFlags := 4120, slot := 9, constantValue := 0 }]
  methods := #[k5m0, k5m1, k5m2]
  instanceTypes := #[]
  staticTypes := #[.double, .double, .double, .double, .double, .long, .long, .double, .double, .boolean]
  resolved := Array.replicate 460 none
  statics := none }

def pool6 : Array CpInfo := pool [(2, .class_ 4), (1, u "java/lang/Object"), (0, u "<init>"), (0, u "()V"), (7, .class_ 16), (1, u "java/util/Arrays"), (57, .class_ 76), (1, u "java/util/Arrays$NaturalOrder"), (36, .class_ 115), (1, u "java/util/Arrays$LegacyMergeSort"), (1, u "Z"), (32, .methodref 151 152), (0, .class_ 153), (0, .nameAndType 154 155), (0, u "java/lang/System"), (0, u "arraycopy"), (0, u "(Ljava/lang/Object;ILjava/lang/Object;II)V"), (146, u "copyOf"), (1, .methodref 305 306), (0, .class_ 307), (0, .nameAndType 308 309), (0, u "java/lang/Math"), (0, u "min"), (0, u "(II)I"), (65, .class_ 376), (0, u "java/util/Arrays$ArrayList"), (68, u "$assertionsDisabled"), (269, u "MIN_ARRAY_SORT_GRAN"), (0, u "I"), (2, u "INSERTIONSORT_THRESHOLD"), (152, u "([JI)[J"), (102, .class_ 976), (0, u "java/util/Arrays$ArrayItr")] 52

def k6m0 : Method := { name := "<init>", desc := "()V", sig := { parameters := [], returnType := none }, accessFlags := 2, code := none }
def k6c1 : Code := { maxStack := 6, maxLocals := 3, code := jdk_65_method_124_code, exceptionTable := #[], attributes := #[] }
def k6m1 : Method := { name := "copyOf", desc := "([JI)[J", sig := { parameters := [(.array .long), .int], returnType := some (.array .long) }, accessFlags := 9, code := some k6c1 }
/-- java/util/Arrays -/
def k6 : Class := { plain "java/util/Arrays" (some 0) with
  accessFlags := 49
  interfaces := #[]
  cf := some (fileOf pool6 14 #[.nestMembers #[975, 375, 113, 74]] #[{ accessFlags := 2, nameIndex := 5, descriptorIndex := 6, attributes := #[] }, { accessFlags := 9, nameIndex := 302, descriptorIndex := 872, attributes := #[] }] 49 2 #[] #[{ accessFlags := 26, nameIndex := 715, descriptorIndex := 716, attributes := #[] }, { accessFlags := 26, nameIndex := 719, descriptorIndex := 716, attributes := #[] }, { accessFlags := 4120, nameIndex := 445, descriptorIndex := 117, attributes := #[] }])
  fields := #[{ name := "MIN_ARRAY_SORT_GRAN", type := .int, accessFlags := 26, slot := 0, constantValue := 0 }, { name := "INSERTIONSORT_THRESHOLD", type := .int, accessFlags := 26, slot := 1, constantValue := 0 }, { name := "$assertionsDisabled", type := .boolean, accessFlags := 4120, slot := 2, constantValue := 0 }]
  methods := #[k6m0, k6m1]
  instanceTypes := #[]
  staticTypes := #[.int, .int, .boolean]
  resolved := Array.replicate 1029 none
  statics := none }

def pool7 : Array CpInfo := pool [(2, .class_ 4), (1, u "java/lang/Object"), (0, u "<init>"), (0, u "()V"), (1, .class_ 10), (1, u "java/lang/System"), (0, u "allowSecurityManager"), (0, u "I"), (16, u "cons"), (0, u "Ljava/io/Console;"), (77, .class_ 110), (1, u "java/lang/System$CallersHolder"), (43, u "initialErrStream"), (0, u "Ljava/io/PrintStream;"), (19, u "security"), (0, u "Ljava/lang/SecurityManager;"), (31, .class_ 209), (0, u "java/lang/System$1"), (7, u "props"), (0, u "Ljava/util/Properties;"), (2, u "lineSeparator"), (0, u "Ljava/lang/String;"), (96, .class_ 321), (1, u "java/lang/System$LoggerFinder"), (5, .class_ 328), (0, u "java/lang/System$Logger"), (67, u "err"), (2, u "out"), (91, u "notSupportedJnuEncoding"), (15, u "in"), (17, u "initialIn"), (0, u "Ljava/io/InputStream;"), (35, u "bootLayer"), (0, u "Ljava/lang/ModuleLayer;"), (99, .class_ 664), (0, u "java/lang/System$2"), (9, u "NEVER"), (2, u "MAYBE"), (49, u "arraycopy"), (0, u "(Ljava/lang/Object;ILjava/lang/Object;II)V"), (72, .class_ 802), (0, u "java/lang/System$Logger$Level")] 31

def k7m0 : Method := { name := "<init>", desc := "()V", sig := { parameters := [], returnType := none }, accessFlags := 2, code := none }
def k7m1 : Method := { name := "arraycopy", desc := "(Ljava/lang/Object;ILjava/lang/Object;II)V", sig := { parameters := [(.object "java/lang/Object"), .int, (.object "java/lang/Object"), .int, .int], returnType := none }, accessFlags := 265, code := none }
/-- java/lang/System -/
def k7 : Class := { plain "java/lang/System" (some 0) with
  accessFlags := 49
  interfaces := #[]
  cf := some (fileOf pool7 8 #[.nestMembers #[319, 327, 801, 108, 663, 208]] #[{ accessFlags := 2, nameIndex := 5, descriptorIndex := 6, attributes := #[] }, { accessFlags := 265, nameIndex := 727, descriptorIndex := 728, attributes := #[] }] 49 2 #[] #[{ accessFlags := 25, nameIndex := 507, descriptorIndex := 526, attributes := #[] }, { accessFlags := 25, nameIndex := 399, descriptorIndex := 155, attributes := #[] }, { accessFlags := 25, nameIndex := 396, descriptorIndex := 155, attributes := #[] }, { accessFlags := 10, nameIndex := 525, descriptorIndex := 526, attributes := #[] }, { accessFlags := 26, nameIndex := 674, descriptorIndex := 12, attributes := #[] }, { accessFlags := 26, nameIndex := 677, descriptorIndex := 12, attributes := #[] }, { accessFlags := 10, nameIndex := 11, descriptorIndex := 12, attributes := #[] }, { accessFlags := 74, nameIndex := 175, descriptorIndex := 176, attributes := #[] }, { accessFlags := 10, nameIndex := 491, descriptorIndex := 222, attributes := #[] }, { accessFlags := 74, nameIndex := 29, descriptorIndex := 30, attributes := #[] }, { accessFlags := 74, nameIndex := 154, descriptorIndex := 155, attributes := #[] }, { accessFlags := 10, nameIndex := 217, descriptorIndex := 218, attributes := #[] }, { accessFlags := 10, nameIndex := 221, descriptorIndex := 222, attributes := #[] }, { accessFlags := 8, nameIndex := 562, descriptorIndex := 563, attributes := #[] }])
  fields := #[{ name := "in", type := (.object "java/io/InputStream"), accessFlags := 25, slot := 0, constantValue := 0 }, { name := "out", type := (.object "java/io/PrintStream"), accessFlags := 25, slot := 1, constantValue := 0 }, { name := "err", type := (.object "java/io/PrintStream"), accessFlags := 25, slot := 2, constantValue := 0 }, { name := "initialIn", type := (.object "java/io/InputStream"), accessFlags := 10, slot := 3, constantValue := 0 }, { name := "NEVER", type := .int, accessFlags := 26, slot := 4, constantValue := 0 }, { name := "MAYBE", type := .int, accessFlags := 26, slot := 5, constantValue := 0 }, { name := "allowSecurityManager", type := .int, accessFlags := 10, slot := 6, constantValue := 0 }, { name := "security", type := (.object "java/lang/SecurityManager"), accessFlags := 74, slot := 7, constantValue := 0 }, { name := "notSupportedJnuEncoding", type := (.object "java/lang/String"), accessFlags := 10, slot := 8, constantValue := 0 }, { name := "cons", type := (.object "java/io/Console"), accessFlags := 74, slot := 9, constantValue := 0 }, { name := "initialErrStream", type := (.object "java/io/PrintStream"), accessFlags := 74, slot := 10, constantValue := 0 }, { name := "props", type := (.object "java/util/Properties"), accessFlags := 10, slot := 11, constantValue := 0 }, { name := "lineSeparator", type := (.object "java/lang/String"), accessFlags := 10, slot := 12, constantValue := 0 }, { name := "bootLayer", type := (.object "java/lang/ModuleLayer"), accessFlags := 8, slot := 13, constantValue := 0 }]
  methods := #[k7m0, k7m1]
  instanceTypes := #[]
  staticTypes := #[(.object "java/io/InputStream"), (.object "java/io/PrintStream"), (.object "java/io/PrintStream"), (.object "java/io/InputStream"), .int, .int, .int, (.object "java/lang/SecurityManager"), (.object "java/lang/String"), (.object "java/io/Console"), (.object "java/io/PrintStream"), (.object "java/util/Properties"), (.object "java/lang/String"), (.object "java/lang/ModuleLayer")]
  resolved := Array.replicate 834 none
  statics := none }

def pool8 : Array CpInfo := pool [(1, u "java/lang/Cloneable"), (0, .class_ 1), (0, u "java/lang/Object"), (0, .class_ 3)] 3

/-- java/lang/Cloneable -/
def k8 : Class := { plain "java/lang/Cloneable" (some 0) with
  accessFlags := 1537
  interfaces := #[]
  cf := some (fileOf pool8 2 #[] #[] 1537 4 #[] #[])
  fields := #[]
  methods := #[]
  instanceTypes := #[]
  staticTypes := #[]
  resolved := Array.replicate 8 none
  statics := none }

def pool9 : Array CpInfo := pool [(1, u "java/io/Serializable"), (0, .class_ 1), (0, u "java/lang/Object"), (0, .class_ 3)] 3

/-- java/io/Serializable -/
def k9 : Class := { plain "java/io/Serializable" (some 0) with
  accessFlags := 1537
  interfaces := #[]
  cf := some (fileOf pool9 2 #[] #[] 1537 4 #[] #[])
  fields := #[]
  methods := #[]
  instanceTypes := #[]
  staticTypes := #[]
  resolved := Array.replicate 8 none
  statics := none }

/-- the primitive byte -/
def k10 : Class := { plain "byte" none with kind := .primitive 'B', accessFlags := 0x411 }
/-- [B -/
def k11 : Class := { plain "[B" (some 0) with kind := .array 10 .byte, interfaces := #[8, 9], accessFlags := 1041 }

/-- the primitive int -/
def k12 : Class := { plain "int" none with kind := .primitive 'I', accessFlags := 0x411 }
/-- [I -/
def k13 : Class := { plain "[I" (some 0) with kind := .array 12 .int, interfaces := #[8, 9], accessFlags := 1041 }

/-- the primitive long -/
def k14 : Class := { plain "long" none with kind := .primitive 'J', accessFlags := 0x411 }
/-- [J -/
def k15 : Class := { plain "[J" (some 0) with kind := .array 14 .long, interfaces := #[8, 9], accessFlags := 1041 }
/-- [[J -/
def k16 : Class := { plain "[[J" (some 0) with kind := .array 15 (.array .long), interfaces := #[8, 9], accessFlags := 1041 }

def heap : Heap := #[{ cls := 4, slots := #[.int 0, .int 13], vm := .statics 4 }]
def classes : Array Class := #[k0, k1, k2, k3, k4, k5, k6, k7, k8, k9, k10, k11, k12, k13, k14, k15, k16]
def interned : List (Array UInt16 × Addr) := []
def slotsUsed : Nat := 2
def theMethod : MethodId := ⟨1, 1⟩
def args0 : Array Value := #[.int 5, .long 7, .long 3, .long 9, .long 3]
def aboutOver (below : List Frame) : State where
  vm := { classes := classes, interned := interned.toArray }
  heap := heap
  slotsUsed := slotsUsed
  threads := #[{ frames := .invoking theMethod args0 :: below }]
def below0 : List Frame := [.native { method := ⟨0, 0⟩, args := #[] }]
def about1 : State := aboutOver below0
def p0 : Program := .bare "" "" ""
def e0 : Env := launch0.env 0 0 0
theorem w_frames : about1.frames = Frame.invoking theMethod args0 :: below0 := rfl
set_option maxRecDepth 65536 in
theorem w_args : argsFit about1.vm theMethod args0 = true := by decide +kernel
set_option maxRecDepth 65536 in
theorem w_heap : heapFits about1 = true := by decide +kernel
set_option maxRecDepth 65536 in
theorem w_runnable : about1.curStatus? = some .runnable := by decide +kernel
set_option maxRecDepth 65536 in
theorem w_alone : about1.alone = true := by decide +kernel
set_option maxRecDepth 65536 in
theorem w_named : about1.methodNamed? x = some theMethod := by decide +kernel
set_option maxRecDepth 65536 in
theorem w_hears : about1.hears theMethod below0 = true := by decide +kernel
set_option maxRecDepth 65536 in
theorem w_ripe : about1.ripe theMethod args0 below0 = true := by decide +kernel
theorem w_running : about1.status = .running := rfl
set_option maxRecDepth 65536 in
theorem w_room : about1.hasRoom e0.platform room_1 = true :=
  launch0.hasRoom_least _ room_1 (by decide +kernel) (by decide +kernel) (by decide +kernel) (by decide +kernel) (by decide +kernel) (by decide +kernel)
theorem allAtoms_all (ts : List Jvm.Cond) (a : Array Jvm.Value) (st : Jvm.State) : (allAtoms ts).before a st = ts.all (fun c => c.before a st) := by
  induction ts with
  | nil => rfl
  | cons c t ih =>
    show (Jvm.Cond.and c (allAtoms t)).before a st = _
    rw [Jvm.Cond.before_and, ih, List.all_cons]
def words1 : List Jvm.Cond := Jvm.Cond.code x code maxLocals ret :: tables_1
/-- a 'code' word, met by the world's own term for the bytes: nothing is compared byte by byte -/
theorem code_word {y : MethodName} {bytes : ByteArray} {mx : Nat} {rt : Option FieldType} {a : Array Value} {s : State} {m : MethodId} {meth : Method} {c : Code} (h1 : s.methodNamed? y = some m) (h2 : s.vm.method? m = some meth) (h3 : meth.code = some c) (h4 : c.code = bytes)
    (h5 : (c.maxLocals == mx && c.exceptionTable.isEmpty && decide (c.maxStack ≤ mostOperands) && decide (meth.sig.returnType = rt) && !meth.locks && decide (parseMethodDescriptor y.desc = some meth.sig)) = true) : (Jvm.Cond.code y bytes mx rt).before a s = true := by
  simp only [Bool.and_eq_true, beq_iff_eq, Bool.not_eq_true', decide_eq_true_eq] at h5
  obtain ⟨⟨⟨⟨⟨g1, g2⟩, g3⟩, g4⟩, g5⟩, g6⟩ := h5
  simp [Cond.before, Cond.holds, Cond.value, h1, h2, h3, h4, g1, g2, g3, g4, g5, g6]
def isCode : Jvm.Cond → Bool
  | .code _ _ _ _ => true
  | _ => false
theorem all_split {L : List Jvm.Cond} {P : Jvm.Cond → Bool} (h1 : L.all (fun c => isCode c || P c) = true) (h2 : ∀ c ∈ L.filter isCode, P c = true) : L.all P = true := by
  refine List.all_eq_true.mpr fun c hc => ?_
  have h := List.all_eq_true.mp h1 c hc
  rcases Bool.eq_false_or_eq_true (isCode c) with hi | hi
  · exact h2 c (List.mem_filter.mpr ⟨hc, hi⟩)
  · simpa [hi] using h
set_option maxRecDepth 65536 in
theorem w_c0 : (Jvm.Cond.code x code maxLocals ret).before args0 about1 = true := code_word (m := ⟨1, 1⟩) (meth := k1m1) (c := k1c1) (by decide +kernel) rfl rfl rfl (by decide +kernel)
set_option maxRecDepth 65536 in
theorem w_c1 : (Jvm.Cond.code ({ cls := "com/example/inchworm/inchworm/KeyBlocks", name := "<init>", desc := "(I)V" } : Jvm.MethodName) prog_38_method_1_code (2 : Nat) (Option.none : Option Jvm.ClassFile.FieldType)).before args0 about1 = true := code_word (m := ⟨4, 0⟩) (meth := k4m0) (c := k4c0) (by decide +kernel) rfl rfl rfl (by decide +kernel)
set_option maxRecDepth 65536 in
theorem w_c2 : (Jvm.Cond.code ({ cls := "java/lang/Object", name := "<init>", desc := "()V" } : Jvm.MethodName) object_method_1_code (1 : Nat) (Option.none : Option Jvm.ClassFile.FieldType)).before args0 about1 = true := code_word (m := ⟨0, 0⟩) (meth := k0m0) (c := k0c0) (by decide +kernel) rfl rfl rfl (by decide +kernel)
set_option maxRecDepth 65536 in
theorem w_c3 : (Jvm.Cond.code ({ cls := "java/lang/Math", name := "min", desc := "(II)I" } : Jvm.MethodName) jdk_29_method_69_code (2 : Nat) (Option.some Jvm.ClassFile.FieldType.int)).before args0 about1 = true := code_word (m := ⟨5, 2⟩) (meth := k5m2) (c := k5c2) (by decide +kernel) rfl rfl rfl (by decide +kernel)
set_option maxRecDepth 65536 in
theorem w_c4 : (Jvm.Cond.code ({ cls := "java/lang/Math", name := "max", desc := "(II)I" } : Jvm.MethodName) jdk_29_method_65_code (2 : Nat) (Option.some Jvm.ClassFile.FieldType.int)).before args0 about1 = true := code_word (m := ⟨5, 1⟩) (meth := k5m1) (c := k5c1) (by decide +kernel) rfl rfl rfl (by decide +kernel)
set_option maxRecDepth 65536 in
theorem w_c5 : (Jvm.Cond.code ({ cls := "com/example/inchworm/inchworm/KeyBlocks", name := "add", desc := "(J)V" } : Jvm.MethodName) prog_38_method_3_code (5 : Nat) (Option.none : Option Jvm.ClassFile.FieldType)).before args0 about1 = true := code_word (m := ⟨4, 1⟩) (meth := k4m1) (c := k4c1) (by decide +kernel) rfl rfl rfl (by decide +kernel)
set_option maxRecDepth 65536 in
theorem w_c6 : (Jvm.Cond.code ({ cls := "java/util/Arrays", name := "copyOf", desc := "([JI)[J" } : Jvm.MethodName) jdk_65_method_124_code (3 : Nat) (Option.some (Jvm.ClassFile.FieldType.array Jvm.ClassFile.FieldType.long))).before args0 about1 = true := code_word (m := ⟨6, 1⟩) (meth := k6m1) (c := k6c1) (by decide +kernel) rfl rfl rfl (by decide +kernel)
set_option maxRecDepth 65536 in
theorem w_c7 : (Jvm.Cond.code ({ cls := "com/example/inchworm/inchworm/KeyBlocks", name := "get", desc := "(I)J" } : Jvm.MethodName) prog_38_method_4_code (2 : Nat) (Option.some Jvm.ClassFile.FieldType.long)).before args0 about1 = true := code_word (m := ⟨4, 2⟩) (meth := k4m2) (c := k4c2) (by decide +kernel) rfl rfl rfl (by decide +kernel)
def codes1 : List Jvm.Cond := [Jvm.Cond.code x code maxLocals ret, Jvm.Cond.code ({ cls := "com/example/inchworm/inchworm/KeyBlocks", name := "<init>", desc := "(I)V" } : Jvm.MethodName) prog_38_method_1_code (2 : Nat) (Option.none : Option Jvm.ClassFile.FieldType), Jvm.Cond.code ({ cls := "java/lang/Object", name := "<init>", desc := "()V" } : Jvm.MethodName) object_method_1_code (1 : Nat) (Option.none : Option Jvm.ClassFile.FieldType), Jvm.Cond.code ({ cls := "java/lang/Math", name := "min", desc := "(II)I" } : Jvm.MethodName) jdk_29_method_69_code (2 : Nat) (Option.some Jvm.ClassFile.FieldType.int), Jvm.Cond.code ({ cls := "java/lang/Math", name := "max", desc := "(II)I" } : Jvm.MethodName) jdk_29_method_65_code (2 : Nat) (Option.some Jvm.ClassFile.FieldType.int), Jvm.Cond.code ({ cls := "com/example/inchworm/inchworm/KeyBlocks", name := "add", desc := "(J)V" } : Jvm.MethodName) prog_38_method_3_code (5 : Nat) (Option.none : Option Jvm.ClassFile.FieldType), Jvm.Cond.code ({ cls := "java/util/Arrays", name := "copyOf", desc := "([JI)[J" } : Jvm.MethodName) jdk_65_method_124_code (3 : Nat) (Option.some (Jvm.ClassFile.FieldType.array Jvm.ClassFile.FieldType.long)), Jvm.Cond.code ({ cls := "com/example/inchworm/inchworm/KeyBlocks", name := "get", desc := "(I)J" } : Jvm.MethodName) prog_38_method_4_code (2 : Nat) (Option.some Jvm.ClassFile.FieldType.long)]
set_option maxRecDepth 65536 in
theorem codes_eq : words1.filter isCode = codes1 := rfl
theorem w_codes : ∀ c ∈ words1.filter isCode, c.before args0 about1 = true := by
  rw [codes_eq]
  intro c hc
  simp only [codes1, List.mem_cons, List.not_mem_nil, or_false] at hc
  rcases hc with rfl | rfl | rfl | rfl | rfl | rfl | rfl | rfl
  · exact w_c0
  · exact w_c1
  · exact w_c2
  · exact w_c3
  · exact w_c4
  · exact w_c5
  · exact w_c6
  · exact w_c7
set_option maxRecDepth 65536 in
theorem w_t1 : (words1.take 24).all (fun c => isCode c || c.before args0 about1) = true := by decide +kernel
set_option maxRecDepth 65536 in
theorem w_t2 : (words1.drop 24).all (fun c => isCode c || c.before args0 about1) = true := by decide +kernel
theorem w_tables : (allAtoms (Jvm.Cond.code x code maxLocals ret :: tables_1)).before args0 about1 = true := by
  rw [allAtoms_all]
  show words1.all (fun c => c.before args0 about1) = true
  refine all_split ?_ w_codes
  rw [← List.take_append_drop 24 words1, List.all_append, w_t1, w_t2]
  rfl
set_option maxRecDepth 65536 in
theorem w_case : (Jvm.Cond.and given_1 narrow_1).before args0 about1 = true := by decide +kernel
theorem w_applies : (headSpec (Jvm.Cond.code x code maxLocals ret :: tables_1) room_1).applies x e0.platform about1 = true :=
  (Spec.applies_iff w_frames).mpr ⟨w_running, w_runnable, w_alone, w_named, w_hears, w_ripe, w_room, w_tables⟩
theorem atStart : AtStart classFile x code maxLocals ret World_1 tables_1 room_1 Calls_1 rest_1 Pre_1 launch0 p0 e0 about1 theMethod args0 below0 :=
  ⟨lists_1, trivial, launch0.admits_env _ _ _, launch0.least_env, fairChoices_fair.cas, fairChoices_fair.clock, w_frames, w_args, w_heap, w_applies, trivial, trivial, w_case⟩
end start1
theorem witness_1 : WitnessClaimed_1 := ⟨start1.p0, start1.e0, start1.about1, start1.theMethod, start1.args0, start1.below0, start1.atStart⟩
end Jvm.Pilot.@@N@@
