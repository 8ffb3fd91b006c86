import JvmDerived
import JvmDerived.Pilot.@@N@@Statement
import JvmDerived.Pilot.@@N@@Code
set_option linter.unusedVariables false
set_option linter.unusedSimpArgs false
namespace Jvm.RoadKit
open Sem ClassFile Op Lib Jvm.Stand Jvm.Free Jvm.LawKit
section New
variable {p : Program} {l : Launch} {e : Env} {R : Room} {s : State} {m : MethodId} {args : Array Value} {below : List Frame} {meth : Method} {c : Code} {T : State} {locs : List Loc} {cells slots : Nat}
theorem retI (X : Stand p l e R s m args below meth c T locs cells slots) (hx : p.tables.exec = Jvm.exec) {pc : Nat} {Ls : Array Slot} {z : Int32} {rest : List Value} (hret : meth.sig.returnType = some .int) (hd : decode c.code pc = .ok (.ireturn, 1)) {fs : List Frame}
    (hl : ∀ (f : JFrame) (acts : List Action), f.method = m → f.locked = none → f.entered = [] → (doReturn e (T.setTop f) acts (some (.int z))).1 = T.setFrames fs) : Steps p.tables e below (T.setTop (mkF m pc Ls (.int z :: rest))) (T.setFrames fs) := by
  have hm' : T.vm.method? m = some meth := X.method'
  have hn : narrow .int (.int z) = .int z := rfl
  show Steps p.tables e below (T.setTop { method := m, pc := pc, locals := Ls, stack := _ :: rest, locked := none }) _
  jvm_step X.here [X.here.top, hx, hd, hm', hret, hn]
  first | (intro acts; rw [hl _ acts rfl rfl rfl]) | rw [hl _ _ rfl rfl rfl]
  exact Steps.refl _
end New
end Jvm.RoadKit
namespace Jvm.Pilot.@@N@@
open Jvm Jvm.ClassFile Sem Op Lib Jvm.Free Jvm.Stand Jvm.LawKit Jvm.RoadKit Bundle Jvm.Pilot.@@N@@.Jvm.D

theorem own_fld {s : State} {args : Array Value} {t : Term} {a : Addr} {C n d : String} {k : Int32} (ht : t.eval args s none [] s = some (.ref a)) (h : (Jvm.Cond.eq (.field t C n d) (.int k)).value args s none s [] = some true) : Fld s s.heap a C n d (.int k) := by
  refine Fld.start ?_
  have e := fld_at (C := C) (n := n) (dd := d) ht
  obtain ⟨x, y, h1, h2, h3, h4⟩ := cmp_v (Or.inl h)
  obtain rfl : y = .int k := (Option.some.inj (h2.symm.trans (Term.int_eval k)))
  obtain ⟨z, rfl⟩ := h4
  rw [← e, h1]
  simp only [Cond.value, h1, h2] at h
  simpa using h
theorem own_st {s : State} {args : Array Value} {C n d K : String} (h : (Jvm.Cond.exactly (.static C n d) K).value args s none s [] = some true) (hi : (Jvm.Cond.initialized C).before args s = true) (hl : (Jvm.Cond.laysStatic C n d).before args s = true) :
    ∃ a, (Term.static C n d).eval args s none [] s = some (.ref a) ∧ Sta s s.heap C n d (.ref a) ∧ Exa s s.heap a K := by
  obtain ⟨a, ev⟩ := exa_v h
  exact ⟨a, ev, Sta.start ev (Or.inr ⟨hi, hl⟩), Exa.start ev h⟩

theorem own_stk {Z : State} {h h' : Heap} {C n d : String} {v : Value} (F : Sta Z h C n d v) (K : Keep h h' []) : Sta Z h' C n d v := by
  obtain ⟨cf, i, k, f, st, cell, h1, h2, h3, h4, h5, r⟩ := F
  exact ⟨cf, i, k, f, st, cell, h1, h2, h3, h4, K.2.1 _ _ h5 List.not_mem_nil, r⟩

theorem own_and3 (x : Int32) : x &&& 3 = 0 ∨ x &&& 3 = 1 ∨ x &&& 3 = 2 ∨ x &&& 3 = 3 := by
  have h := c_mask x 3 2 (by decide) (by decide)
  have e : ∀ k : Int32, (x &&& 3).toInt = k.toInt → x &&& 3 = k := fun k q => Int32.toInt_inj.mp q
  have e0 := e 0
  have e1 := e 1
  have e2 := e 2
  have e3 := e 3
  rw [show (0 : Int32).toInt = 0 from rfl] at e0
  rw [show (1 : Int32).toInt = 1 from rfl] at e1
  rw [show (2 : Int32).toInt = 2 from rfl] at e2
  rw [show (3 : Int32).toInt = 3 from rfl] at e3
  have h' : (x &&& 3).toInt = x.toInt % 4 := h
  have : (x &&& 3).toInt = 0 ∨ (x &&& 3).toInt = 1 ∨ (x &&& 3).toInt = 2 ∨ (x &&& 3).toInt = 3 := by omega
  rcases this with q | q | q | q
  · exact Or.inl (e0 q)
  · exact Or.inr (Or.inl (e1 q))
  · exact Or.inr (Or.inr (Or.inl (e2 q)))
  · exact Or.inr (Or.inr (Or.inr (e3 q)))

theorem own_rem (x n : Int32) (d : Int) (hn : n.toInt = d) : ((x &&& (2147483647 : Int32)) % n).toInt = (x.toInt % 2147483648) % d := by
  have h1 := c_mask x 2147483647 31 (by decide) (by decide)
  have h2 : (x &&& (2147483647 : Int32)).toInt = x.toInt % 2147483648 := h1
  rw [(c_irem (x &&& (2147483647 : Int32)) n d hn).1 (by omega), h2]
theorem own_i32 {x y : Int32} (h : x.toInt = y.toInt) : x = y := Int32.toInt_inj.mp h

theorem own_wS {a0 : Array Value} {Z : State} (hw : ∀ d ∈ tables_1, d.before a0 Z = true) : ∀ a ∈ Bundle.stringAtoms, a.before a0 Z = true := by
  intro d hd
  simp only [Bundle.stringAtoms, List.mem_cons, List.not_mem_nil, or_false] at hd
  rcases hd with rfl | rfl | rfl | rfl | rfl | rfl | rfl
  · exact (hw _ (List.mem_of_getElem? (i := 19) rfl))
  · exact (hw _ (List.mem_of_getElem? (i := 20) rfl))
  · exact (hw _ (List.mem_of_getElem? (i := 21) rfl))
  · exact (hw _ (List.mem_of_getElem? (i := 22) rfl))
  · exact (hw _ (List.mem_of_getElem? (i := 23) rfl))
  · exact (hw _ (List.mem_of_getElem? (i := 24) rfl))
  · exact (hw _ (List.mem_of_getElem? (i := 25) rfl))
theorem own_noInst {a0 : Array Value} {Z : State} (hw : ∀ d ∈ tables_1, d.before a0 Z = true) : ∃ c t, Z.vm.findClass "java/lang/String" = some c ∧ Z.vm.findClass "com/example/fieldwright/fieldwright/mater/RecordLabel" = some t ∧ Z.vm.assignable c t = false := by
  have w1 : (Jvm.Cond.noSuperclass "java/lang/Object").before a0 Z = true := (hw _ (List.mem_of_getElem? (i := 77) rfl))
  have w2 : (Jvm.Cond.superclass "java/lang/String" "java/lang/Object").before a0 Z = true := (hw _ (List.mem_of_getElem? (i := 76) rfl))
  have w3 : (Jvm.Cond.instantiable "com/example/fieldwright/fieldwright/mater/RecordLabel" 3).before a0 Z = true := (hw _ (List.mem_of_getElem? (i := 10) rfl))
  obtain ⟨t, kt, t1, t2, t3, t4, -, -⟩ := Cond.instantiable_spec w3
  obtain ⟨o, ko, o1, o2, o3, -, -⟩ := Cond.noSuperclass_spec w1
  obtain ⟨c, c0⟩ := found_sup w2
  obtain ⟨q, k, kp, h1, h2, h3, h4, h5, h6, h7⟩ := Cond.superclass_spec c0 w2
  cases o1.symm.trans h1
  have ne1 := ids_ne o1 t1 (by decide)
  have ne2 := ids_ne c0 t1 (by decide)
  have ti : kt.isInterface = false := by
    cases hi : kt.isInterface with
    | false => rfl
    | true => rw [hi] at t4; simp at t4
  refine ⟨c, t, c0, t1, ?_⟩
  have s1 : ∀ fuel, Z.vm.isSubclassAux fuel o t = false := fun fuel => by
    cases fuel with
    | zero => rfl
    | succ f => simp [Vm.isSubclassAux, ne1, o2, o3]
  have s2 : ∀ fuel, Z.vm.isSubclassAux fuel c t = false := fun fuel => by
    cases fuel with
    | zero => rfl
    | succ f => simp [Vm.isSubclassAux, ne2, h2, h4, s1]
  show Z.vm.assignableAux (255 + 1) c t = false
  simp [Vm.assignableAux, ne2, h2, t2, h5, t3, ti, Vm.isSubclass, s2]
theorem d1_0 : decode method_2_code 0 = .ok (.iload_n 0, 1) := by decide +kernel
theorem d1_1 : decode method_2_code 1 = .ok (.ifCond .ne 7, 3) := by decide +kernel
theorem d1_4 : decode method_2_code 4 = .ok (.getstatic 7, 3) := by decide +kernel
theorem d1_7 : decode method_2_code 7 = .ok (.areturn, 1) := by decide +kernel
theorem pn_1 : plainName "com/example/fieldwright/fieldwright/mater/RecordLabelEqualsPinLaw" = true := by first | (simp [plainName, overriddenIn]; done) | decide +kernel
theorem ef_1 (m : MethodId) (x0 : Int32) : entryFrame m #[(.int x0)] 1 = mkF m 0 #[.val (.int x0)] [] := by first | (simp [entryFrame, mkF, argsToLocals, Value.category]; done) | rfl
def Q1 (Z : State) (p1 : Int32) (w2 : Addr) (h0 : Heap) (n0 : Nat) (v : Option Value) (h : Heap) (L : List Loc) : Prop := v = some (.ref w2) ∧ Fr n0 L ∧ h = h0
set_option maxRecDepth 65536 in
set_option maxHeartbeats 40000000 in
theorem rm1_f (l : Launch) (Z : State) (a0 : Array Value) (hw : ∀ d ∈ tables_1, d.before a0 Z = true) (ws : List Jvm.Cond) (p1 : Int32) (w2 : Addr) (h0 : Heap) (n0 : Nat) (Z0 : n0 ≤ h0.size) (S_NEW : Sta Z h0 "com/example/fieldwright/fieldwright/mater/RecordLabel$Status" "NEW" "Lcom/example/fieldwright/fieldwright/mater/RecordLabel$Status;" (.ref w2)) (hc1 : p1 = (0 : Int32)) :
    MetFree l (⟨"com/example/fieldwright/fieldwright/mater/RecordLabelEqualsPinLaw", "status", "(I)Lcom/example/fieldwright/fieldwright/mater/RecordLabel$Status;"⟩ : MethodName) (head1 (Jvm.Cond.code (⟨"com/example/fieldwright/fieldwright/mater/RecordLabelEqualsPinLaw", "status", "(I)Lcom/example/fieldwright/fieldwright/mater/RecordLabel$Status;"⟩ : MethodName) method_2_code 1 (some (.object "com/example/fieldwright/fieldwright/mater/RecordLabel$Status")) :: ws) ({ frames := 0, cells := 0, slots := 0, locals := 0 } : Room)) (fun a U => a = #[(.int p1)] ∧ Z.Warmed39 U.vm ∧ U.heap = h0) (fun _ _ _ _ _ => True) (fun _ U o U' => ∃ v L, o = .returned v ∧ Q1 Z p1 w2 h0 n0 v U'.heap L ∧ FrameEnd U o U' L ({ frames := 0, cells := 0, slots := 0, locals := 0 } : Room).cells ({ frames := 0, cells := 0, slots := 0, locals := 0 } : Room).slots) := by
  refine MetFree.of_bodySF (plainFor_of_name pn_1) hisR ?_
  intro p e s m args below meth c s₁ Bd hml0 hP hK
  obtain ⟨rfl, hZ, hh⟩ := hP
  have hx := Bd.exec
  have hby := Bd.bytes
  have hml : c.maxLocals = 1 := hml0
  have hown : s.vm.findClass "com/example/fieldwright/fieldwright/mater/RecordLabelEqualsPinLaw" = some m.cls := findClass_of_methodNamed Bd.named
  have hnm := (name_of_methodNamed Bd.named Bd.method).1
  have X0 : Stand p l e ({ frames := 0, cells := 0, slots := 0, locals := 0 } : Room) s m #[(.int p1)] below meth c s₁ [] 0 0 := Stand.of_body Bd
  have e0 : s₁.heap = h0 := by rw [← hh, Bd.state]; rfl
  have N0 := Fr.nil n0
  have pre0 : ∀ t, Steps p.tables e below (s₁.setTop (mkF m 0 #[.val (.int p1)] [])) t → Steps p.tables e below (s₁.setTop (entryFrame m #[(.int p1)] 1)) t := fun t k => castTop (ef_1 m p1) k
  obtain ⟨T3, X3, e3, st3⟩ := getS2 X0 hx hZ hown (host := "") (Or.inl (hw _ (List.mem_of_getElem? (i := 6) rfl))) Via.refl e0 S_NEW (g := (mkF m 4 #[.val (.int p1)] [])) rfl (hb hby d1_4)
  obtain ⟨fs, hr, hrun, hended, hW, hsame⟩ := X3.leave (v := some (.ref w2)) (fun h => by rw [Bd.returns] at h; cases h)
  refine ⟨_, _, pre0 _ ?_, hrun, hended, _, _, rfl, ?_, ⟨_, rfl⟩, hW, hsame.mono (by decide) (by decide)⟩
  · show Steps p.tables e below (s₁.setTop (mkF m 0 #[.val (.int p1)] [])) _
    refine XS.iloadN X0.here hx rfl (hb hby d1_0) rfl ?_
    show Steps p.tables e below (s₁.setTop (mkF m 1 #[.val (.int p1)] [(.int p1)])) _
    refine XS.ifNo X0.here hx rfl (hb hby d1_1) rfl ((if0 _ _).trans (teq hc1).2) ?_
    show Steps p.tables e below (s₁.setTop (mkF m 4 #[.val (.int p1)] [])) _
    refine st3 _ ?_
    show Steps p.tables e below (T3.setTop (mkF m 7 #[.val (.int p1)] [(.ref w2)])) _
    jvm_step X3.here [X3.here.top, hx, (hb hby d1_7), X3.method', Bd.returns, Value.isRef, FieldType.isReference]
    first | (intro acts; rw [hr _ acts rfl rfl rfl]) | rw [hr _ _ rfl rfl rfl]
    exact Steps.refl _
  · show Q1 Z p1 w2 h0 n0 _ T3.heap _
    rw [e3]
    exact ⟨rfl, N0, rfl⟩
theorem d1_8 : decode method_2_code 8 = .ok (.iload_n 0, 1) := by decide +kernel
theorem d1_9 : decode method_2_code 9 = .ok (.iconst 1, 1) := by decide +kernel
theorem d1_10 : decode method_2_code 10 = .ok (.if_icmp .ne 7, 3) := by decide +kernel
theorem d1_13 : decode method_2_code 13 = .ok (.getstatic 13, 3) := by decide +kernel
theorem d1_16 : decode method_2_code 16 = .ok (.areturn, 1) := by decide +kernel
set_option maxRecDepth 65536 in
set_option maxHeartbeats 40000000 in
theorem rm1_tf (l : Launch) (Z : State) (a0 : Array Value) (hw : ∀ d ∈ tables_1, d.before a0 Z = true) (ws : List Jvm.Cond) (p1 : Int32) (w2 : Addr) (h0 : Heap) (n0 : Nat) (Z0 : n0 ≤ h0.size) (S_AMENDED : Sta Z h0 "com/example/fieldwright/fieldwright/mater/RecordLabel$Status" "AMENDED" "Lcom/example/fieldwright/fieldwright/mater/RecordLabel$Status;" (.ref w2)) (hc1 : ¬ (p1 = (0 : Int32))) (hc10 : p1 = (1 : Int32)) :
    MetFree l (⟨"com/example/fieldwright/fieldwright/mater/RecordLabelEqualsPinLaw", "status", "(I)Lcom/example/fieldwright/fieldwright/mater/RecordLabel$Status;"⟩ : MethodName) (head1 (Jvm.Cond.code (⟨"com/example/fieldwright/fieldwright/mater/RecordLabelEqualsPinLaw", "status", "(I)Lcom/example/fieldwright/fieldwright/mater/RecordLabel$Status;"⟩ : MethodName) method_2_code 1 (some (.object "com/example/fieldwright/fieldwright/mater/RecordLabel$Status")) :: ws) ({ frames := 0, cells := 0, slots := 0, locals := 0 } : Room)) (fun a U => a = #[(.int p1)] ∧ Z.Warmed39 U.vm ∧ U.heap = h0) (fun _ _ _ _ _ => True) (fun _ U o U' => ∃ v L, o = .returned v ∧ Q1 Z p1 w2 h0 n0 v U'.heap L ∧ FrameEnd U o U' L ({ frames := 0, cells := 0, slots := 0, locals := 0 } : Room).cells ({ frames := 0, cells := 0, slots := 0, locals := 0 } : Room).slots) := by
  refine MetFree.of_bodySF (plainFor_of_name pn_1) hisR ?_
  intro p e s m args below meth c s₁ Bd hml0 hP hK
  obtain ⟨rfl, hZ, hh⟩ := hP
  have hx := Bd.exec
  have hby := Bd.bytes
  have hml : c.maxLocals = 1 := hml0
  have hown : s.vm.findClass "com/example/fieldwright/fieldwright/mater/RecordLabelEqualsPinLaw" = some m.cls := findClass_of_methodNamed Bd.named
  have hnm := (name_of_methodNamed Bd.named Bd.method).1
  have X0 : Stand p l e ({ frames := 0, cells := 0, slots := 0, locals := 0 } : Room) s m #[(.int p1)] below meth c s₁ [] 0 0 := Stand.of_body Bd
  have e0 : s₁.heap = h0 := by rw [← hh, Bd.state]; rfl
  have N0 := Fr.nil n0
  have pre0 : ∀ t, Steps p.tables e below (s₁.setTop (mkF m 0 #[.val (.int p1)] [])) t → Steps p.tables e below (s₁.setTop (entryFrame m #[(.int p1)] 1)) t := fun t k => castTop (ef_1 m p1) k
  obtain ⟨T3, X3, e3, st3⟩ := getS2 X0 hx hZ hown (host := "") (Or.inl (hw _ (List.mem_of_getElem? (i := 53) rfl))) Via.refl e0 S_AMENDED (g := (mkF m 13 #[.val (.int p1)] [])) rfl (hb hby d1_13)
  obtain ⟨fs, hr, hrun, hended, hW, hsame⟩ := X3.leave (v := some (.ref w2)) (fun h => by rw [Bd.returns] at h; cases h)
  refine ⟨_, _, pre0 _ ?_, hrun, hended, _, _, rfl, ?_, ⟨_, rfl⟩, hW, hsame.mono (by decide) (by decide)⟩
  · show Steps p.tables e below (s₁.setTop (mkF m 0 #[.val (.int p1)] [])) _
    refine XS.iloadN X0.here hx rfl (hb hby d1_0) rfl ?_
    show Steps p.tables e below (s₁.setTop (mkF m 1 #[.val (.int p1)] [(.int p1)])) _
    refine XS.ifYes X0.here hx rfl (pc0 := 1) (pc' := 8) rfl (hb hby d1_1) rfl ((if0 _ _).trans (feq hc1).2) (by decide) (by decide) ?_
    show Steps p.tables e below (s₁.setTop (mkF m 8 #[.val (.int p1)] [])) _
    refine XS.iloadN X0.here hx rfl (hb hby d1_8) rfl ?_
    show Steps p.tables e below (s₁.setTop (mkF m 9 #[.val (.int p1)] [(.int p1)])) _
    refine XS.iconst X0.here hx rfl (hb hby d1_9) ?_
    show Steps p.tables e below (s₁.setTop (mkF m 10 #[.val (.int p1)] [(.int (1 : Int32)), (.int p1)])) _
    refine XS.icmpNo X0.here hx rfl (hb hby d1_10) rfl (teq hc10).2 ?_
    show Steps p.tables e below (s₁.setTop (mkF m 13 #[.val (.int p1)] [])) _
    refine st3 _ ?_
    show Steps p.tables e below (T3.setTop (mkF m 16 #[.val (.int p1)] [(.ref w2)])) _
    jvm_step X3.here [X3.here.top, hx, (hb hby d1_16), X3.method', Bd.returns, Value.isRef, FieldType.isReference]
    first | (intro acts; rw [hr _ acts rfl rfl rfl]) | rw [hr _ _ rfl rfl rfl]
    exact Steps.refl _
  · show Q1 Z p1 w2 h0 n0 _ T3.heap _
    rw [e3]
    exact ⟨rfl, N0, rfl⟩
theorem d1_17 : decode method_2_code 17 = .ok (.iload_n 0, 1) := by decide +kernel
theorem d1_18 : decode method_2_code 18 = .ok (.iconst 2, 1) := by decide +kernel
theorem d1_19 : decode method_2_code 19 = .ok (.if_icmp .ne 7, 3) := by decide +kernel
theorem d1_22 : decode method_2_code 22 = .ok (.getstatic 16, 3) := by decide +kernel
theorem d1_25 : decode method_2_code 25 = .ok (.areturn, 1) := by decide +kernel
set_option maxRecDepth 65536 in
set_option maxHeartbeats 40000000 in
theorem rm1_ttf (l : Launch) (Z : State) (a0 : Array Value) (hw : ∀ d ∈ tables_1, d.before a0 Z = true) (ws : List Jvm.Cond) (p1 : Int32) (w2 : Addr) (h0 : Heap) (n0 : Nat) (Z0 : n0 ≤ h0.size) (S_DELETED : Sta Z h0 "com/example/fieldwright/fieldwright/mater/RecordLabel$Status" "DELETED" "Lcom/example/fieldwright/fieldwright/mater/RecordLabel$Status;" (.ref w2)) (hc1 : ¬ (p1 = (0 : Int32))) (hc10 : ¬ (p1 = (1 : Int32))) (hc19 : p1 = (2 : Int32)) :
    MetFree l (⟨"com/example/fieldwright/fieldwright/mater/RecordLabelEqualsPinLaw", "status", "(I)Lcom/example/fieldwright/fieldwright/mater/RecordLabel$Status;"⟩ : MethodName) (head1 (Jvm.Cond.code (⟨"com/example/fieldwright/fieldwright/mater/RecordLabelEqualsPinLaw", "status", "(I)Lcom/example/fieldwright/fieldwright/mater/RecordLabel$Status;"⟩ : MethodName) method_2_code 1 (some (.object "com/example/fieldwright/fieldwright/mater/RecordLabel$Status")) :: ws) ({ frames := 0, cells := 0, slots := 0, locals := 0 } : Room)) (fun a U => a = #[(.int p1)] ∧ Z.Warmed39 U.vm ∧ U.heap = h0) (fun _ _ _ _ _ => True) (fun _ U o U' => ∃ v L, o = .returned v ∧ Q1 Z p1 w2 h0 n0 v U'.heap L ∧ FrameEnd U o U' L ({ frames := 0, cells := 0, slots := 0, locals := 0 } : Room).cells ({ frames := 0, cells := 0, slots := 0, locals := 0 } : Room).slots) := by
  refine MetFree.of_bodySF (plainFor_of_name pn_1) hisR ?_
  intro p e s m args below meth c s₁ Bd hml0 hP hK
  obtain ⟨rfl, hZ, hh⟩ := hP
  have hx := Bd.exec
  have hby := Bd.bytes
  have hml : c.maxLocals = 1 := hml0
  have hown : s.vm.findClass "com/example/fieldwright/fieldwright/mater/RecordLabelEqualsPinLaw" = some m.cls := findClass_of_methodNamed Bd.named
  have hnm := (name_of_methodNamed Bd.named Bd.method).1
  have X0 : Stand p l e ({ frames := 0, cells := 0, slots := 0, locals := 0 } : Room) s m #[(.int p1)] below meth c s₁ [] 0 0 := Stand.of_body Bd
  have e0 : s₁.heap = h0 := by rw [← hh, Bd.state]; rfl
  have N0 := Fr.nil n0
  have pre0 : ∀ t, Steps p.tables e below (s₁.setTop (mkF m 0 #[.val (.int p1)] [])) t → Steps p.tables e below (s₁.setTop (entryFrame m #[(.int p1)] 1)) t := fun t k => castTop (ef_1 m p1) k
  obtain ⟨T3, X3, e3, st3⟩ := getS2 X0 hx hZ hown (host := "") (Or.inl (hw _ (List.mem_of_getElem? (i := 51) rfl))) Via.refl e0 S_DELETED (g := (mkF m 22 #[.val (.int p1)] [])) rfl (hb hby d1_22)
  obtain ⟨fs, hr, hrun, hended, hW, hsame⟩ := X3.leave (v := some (.ref w2)) (fun h => by rw [Bd.returns] at h; cases h)
  refine ⟨_, _, pre0 _ ?_, hrun, hended, _, _, rfl, ?_, ⟨_, rfl⟩, hW, hsame.mono (by decide) (by decide)⟩
  · show Steps p.tables e below (s₁.setTop (mkF m 0 #[.val (.int p1)] [])) _
    refine XS.iloadN X0.here hx rfl (hb hby d1_0) rfl ?_
    show Steps p.tables e below (s₁.setTop (mkF m 1 #[.val (.int p1)] [(.int p1)])) _
    refine XS.ifYes X0.here hx rfl (pc0 := 1) (pc' := 8) rfl (hb hby d1_1) rfl ((if0 _ _).trans (feq hc1).2) (by decide) (by decide) ?_
    show Steps p.tables e below (s₁.setTop (mkF m 8 #[.val (.int p1)] [])) _
    refine XS.iloadN X0.here hx rfl (hb hby d1_8) rfl ?_
    show Steps p.tables e below (s₁.setTop (mkF m 9 #[.val (.int p1)] [(.int p1)])) _
    refine XS.iconst X0.here hx rfl (hb hby d1_9) ?_
    show Steps p.tables e below (s₁.setTop (mkF m 10 #[.val (.int p1)] [(.int (1 : Int32)), (.int p1)])) _
    refine XS.icmpYes X0.here hx rfl (pc0 := 10) (pc' := 17) rfl (hb hby d1_10) rfl (feq hc10).2 (by decide) (by decide) ?_
    show Steps p.tables e below (s₁.setTop (mkF m 17 #[.val (.int p1)] [])) _
    refine XS.iloadN X0.here hx rfl (hb hby d1_17) rfl ?_
    show Steps p.tables e below (s₁.setTop (mkF m 18 #[.val (.int p1)] [(.int p1)])) _
    refine XS.iconst X0.here hx rfl (hb hby d1_18) ?_
    show Steps p.tables e below (s₁.setTop (mkF m 19 #[.val (.int p1)] [(.int (2 : Int32)), (.int p1)])) _
    refine XS.icmpNo X0.here hx rfl (hb hby d1_19) rfl (teq hc19).2 ?_
    show Steps p.tables e below (s₁.setTop (mkF m 22 #[.val (.int p1)] [])) _
    refine st3 _ ?_
    show Steps p.tables e below (T3.setTop (mkF m 25 #[.val (.int p1)] [(.ref w2)])) _
    jvm_step X3.here [X3.here.top, hx, (hb hby d1_25), X3.method', Bd.returns, Value.isRef, FieldType.isReference]
    first | (intro acts; rw [hr _ acts rfl rfl rfl]) | rw [hr _ _ rfl rfl rfl]
    exact Steps.refl _
  · show Q1 Z p1 w2 h0 n0 _ T3.heap _
    rw [e3]
    exact ⟨rfl, N0, rfl⟩
theorem d1_26 : decode method_2_code 26 = .ok (.getstatic 19, 3) := by decide +kernel
theorem d1_29 : decode method_2_code 29 = .ok (.areturn, 1) := by decide +kernel
set_option maxRecDepth 65536 in
set_option maxHeartbeats 40000000 in
theorem rm1_ttt (l : Launch) (Z : State) (a0 : Array Value) (hw : ∀ d ∈ tables_1, d.before a0 Z = true) (ws : List Jvm.Cond) (p1 : Int32) (w2 : Addr) (h0 : Heap) (n0 : Nat) (Z0 : n0 ≤ h0.size) (S_INFORMATION : Sta Z h0 "com/example/fieldwright/fieldwright/mater/RecordLabel$Status" "INFORMATION" "Lcom/example/fieldwright/fieldwright/mater/RecordLabel$Status;" (.ref w2)) (hc1 : ¬ (p1 = (0 : Int32))) (hc10 : ¬ (p1 = (1 : Int32))) (hc19 : ¬ (p1 = (2 : Int32))) :
    MetFree l (⟨"com/example/fieldwright/fieldwright/mater/RecordLabelEqualsPinLaw", "status", "(I)Lcom/example/fieldwright/fieldwright/mater/RecordLabel$Status;"⟩ : MethodName) (head1 (Jvm.Cond.code (⟨"com/example/fieldwright/fieldwright/mater/RecordLabelEqualsPinLaw", "status", "(I)Lcom/example/fieldwright/fieldwright/mater/RecordLabel$Status;"⟩ : MethodName) method_2_code 1 (some (.object "com/example/fieldwright/fieldwright/mater/RecordLabel$Status")) :: ws) ({ frames := 0, cells := 0, slots := 0, locals := 0 } : Room)) (fun a U => a = #[(.int p1)] ∧ Z.Warmed39 U.vm ∧ U.heap = h0) (fun _ _ _ _ _ => True) (fun _ U o U' => ∃ v L, o = .returned v ∧ Q1 Z p1 w2 h0 n0 v U'.heap L ∧ FrameEnd U o U' L ({ frames := 0, cells := 0, slots := 0, locals := 0 } : Room).cells ({ frames := 0, cells := 0, slots := 0, locals := 0 } : Room).slots) := by
  refine MetFree.of_bodySF (plainFor_of_name pn_1) hisR ?_
  intro p e s m args below meth c s₁ Bd hml0 hP hK
  obtain ⟨rfl, hZ, hh⟩ := hP
  have hx := Bd.exec
  have hby := Bd.bytes
  have hml : c.maxLocals = 1 := hml0
  have hown : s.vm.findClass "com/example/fieldwright/fieldwright/mater/RecordLabelEqualsPinLaw" = some m.cls := findClass_of_methodNamed Bd.named
  have hnm := (name_of_methodNamed Bd.named Bd.method).1
  have X0 : Stand p l e ({ frames := 0, cells := 0, slots := 0, locals := 0 } : Room) s m #[(.int p1)] below meth c s₁ [] 0 0 := Stand.of_body Bd
  have e0 : s₁.heap = h0 := by rw [← hh, Bd.state]; rfl
  have N0 := Fr.nil n0
  have pre0 : ∀ t, Steps p.tables e below (s₁.setTop (mkF m 0 #[.val (.int p1)] [])) t → Steps p.tables e below (s₁.setTop (entryFrame m #[(.int p1)] 1)) t := fun t k => castTop (ef_1 m p1) k
  obtain ⟨T3, X3, e3, st3⟩ := getS2 X0 hx hZ hown (host := "") (Or.inl (hw _ (List.mem_of_getElem? (i := 55) rfl))) Via.refl e0 S_INFORMATION (g := (mkF m 26 #[.val (.int p1)] [])) rfl (hb hby d1_26)
  obtain ⟨fs, hr, hrun, hended, hW, hsame⟩ := X3.leave (v := some (.ref w2)) (fun h => by rw [Bd.returns] at h; cases h)
  refine ⟨_, _, pre0 _ ?_, hrun, hended, _, _, rfl, ?_, ⟨_, rfl⟩, hW, hsame.mono (by decide) (by decide)⟩
  · show Steps p.tables e below (s₁.setTop (mkF m 0 #[.val (.int p1)] [])) _
    refine XS.iloadN X0.here hx rfl (hb hby d1_0) rfl ?_
    show Steps p.tables e below (s₁.setTop (mkF m 1 #[.val (.int p1)] [(.int p1)])) _
    refine XS.ifYes X0.here hx rfl (pc0 := 1) (pc' := 8) rfl (hb hby d1_1) rfl ((if0 _ _).trans (feq hc1).2) (by decide) (by decide) ?_
    show Steps p.tables e below (s₁.setTop (mkF m 8 #[.val (.int p1)] [])) _
    refine XS.iloadN X0.here hx rfl (hb hby d1_8) rfl ?_
    show Steps p.tables e below (s₁.setTop (mkF m 9 #[.val (.int p1)] [(.int p1)])) _
    refine XS.iconst X0.here hx rfl (hb hby d1_9) ?_
    show Steps p.tables e below (s₁.setTop (mkF m 10 #[.val (.int p1)] [(.int (1 : Int32)), (.int p1)])) _
    refine XS.icmpYes X0.here hx rfl (pc0 := 10) (pc' := 17) rfl (hb hby d1_10) rfl (feq hc10).2 (by decide) (by decide) ?_
    show Steps p.tables e below (s₁.setTop (mkF m 17 #[.val (.int p1)] [])) _
    refine XS.iloadN X0.here hx rfl (hb hby d1_17) rfl ?_
    show Steps p.tables e below (s₁.setTop (mkF m 18 #[.val (.int p1)] [(.int p1)])) _
    refine XS.iconst X0.here hx rfl (hb hby d1_18) ?_
    show Steps p.tables e below (s₁.setTop (mkF m 19 #[.val (.int p1)] [(.int (2 : Int32)), (.int p1)])) _
    refine XS.icmpYes X0.here hx rfl (pc0 := 19) (pc' := 26) rfl (hb hby d1_19) rfl (feq hc19).2 (by decide) (by decide) ?_
    show Steps p.tables e below (s₁.setTop (mkF m 26 #[.val (.int p1)] [])) _
    refine st3 _ ?_
    show Steps p.tables e below (T3.setTop (mkF m 29 #[.val (.int p1)] [(.ref w2)])) _
    jvm_step X3.here [X3.here.top, hx, (hb hby d1_29), X3.method', Bd.returns, Value.isRef, FieldType.isReference]
    first | (intro acts; rw [hr _ acts rfl rfl rfl]) | rw [hr _ _ rfl rfl rfl]
    exact Steps.refl _
  · show Q1 Z p1 w2 h0 n0 _ T3.heap _
    rw [e3]
    exact ⟨rfl, N0, rfl⟩
theorem rm1 (l : Launch) (Z : State) (a0 : Array Value) (hw : ∀ d ∈ tables_1, d.before a0 Z = true) (ws : List Jvm.Cond) (p1 : Int32) (w2 : Addr) (h0 : Heap) (n0 : Nat) (Z0 : n0 ≤ h0.size) (H : (p1 = 0 ∧ Sta Z h0 "com/example/fieldwright/fieldwright/mater/RecordLabel$Status" "NEW" "Lcom/example/fieldwright/fieldwright/mater/RecordLabel$Status;" (.ref w2)) ∨ (p1 = 1 ∧ Sta Z h0 "com/example/fieldwright/fieldwright/mater/RecordLabel$Status" "AMENDED" "Lcom/example/fieldwright/fieldwright/mater/RecordLabel$Status;" (.ref w2)) ∨ (p1 = 2 ∧ Sta Z h0 "com/example/fieldwright/fieldwright/mater/RecordLabel$Status" "DELETED" "Lcom/example/fieldwright/fieldwright/mater/RecordLabel$Status;" (.ref w2)) ∨ (p1 = 3 ∧ Sta Z h0 "com/example/fieldwright/fieldwright/mater/RecordLabel$Status" "INFORMATION" "Lcom/example/fieldwright/fieldwright/mater/RecordLabel$Status;" (.ref w2))) :
    MetFree l (⟨"com/example/fieldwright/fieldwright/mater/RecordLabelEqualsPinLaw", "status", "(I)Lcom/example/fieldwright/fieldwright/mater/RecordLabel$Status;"⟩ : MethodName) (head1 (Jvm.Cond.code (⟨"com/example/fieldwright/fieldwright/mater/RecordLabelEqualsPinLaw", "status", "(I)Lcom/example/fieldwright/fieldwright/mater/RecordLabel$Status;"⟩ : MethodName) method_2_code 1 (some (.object "com/example/fieldwright/fieldwright/mater/RecordLabel$Status")) :: ws) ({ frames := 0, cells := 0, slots := 0, locals := 0 } : Room)) (fun a U => a = #[(.int p1)] ∧ Z.Warmed39 U.vm ∧ U.heap = h0) (fun _ _ _ _ _ => True) (fun _ U o U' => ∃ v L, o = .returned v ∧ Q1 Z p1 w2 h0 n0 v U'.heap L ∧ FrameEnd U o U' L ({ frames := 0, cells := 0, slots := 0, locals := 0 } : Room).cells ({ frames := 0, cells := 0, slots := 0, locals := 0 } : Room).slots) := by
  rcases H with ⟨rfl, S⟩ | ⟨rfl, S⟩ | ⟨rfl, S⟩ | ⟨rfl, S⟩
  · exact rm1_f l Z a0 hw ws _ w2 h0 n0 Z0 S rfl
  · exact rm1_tf l Z a0 hw ws _ w2 h0 n0 Z0 S (by decide) rfl
  · exact rm1_ttf l Z a0 hw ws _ w2 h0 n0 Z0 S (by decide) (by decide) rfl
  · exact rm1_ttt l Z a0 hw ws _ w2 h0 n0 Z0 S (by decide) (by decide) (by decide)
theorem d4_0 : decode prog_26_method_13_code 0 = .ok (.iload_n 1, 1) := by decide +kernel
theorem d4_1 : decode prog_26_method_13_code 1 = .ok (.ifCond .lt 9, 3) := by decide +kernel
theorem d4_4 : decode prog_26_method_13_code 4 = .ok (.iload_n 1, 1) := by decide +kernel
theorem d4_5 : decode prog_26_method_13_code 5 = .ok (.ldc 135, 2) := by decide +kernel
theorem d4_7 : decode prog_26_method_13_code 7 = .ok (.if_icmp .le 18, 3) := by decide +kernel
theorem d4_25 : decode prog_26_method_13_code 25 = .ok (.iload_n 1, 1) := by decide +kernel
theorem d4_26 : decode prog_26_method_13_code 26 = .ok (.ireturn, 1) := by decide +kernel
theorem pn_4 : plainName "com/example/fieldwright/fieldwright/mater/RecordLabel" = true := by first | (simp [plainName, overriddenIn]; done) | decide +kernel
theorem ef_4 (m : MethodId) (x0 : Addr) (x1 : Int32) : entryFrame m #[(.ref x0), (.int x1)] 2 = mkF m 0 #[.val (.ref x0), .val (.int x1)] [] := by first | (simp [entryFrame, mkF, argsToLocals, Value.category]; done) | rfl
def Q4 (Z : State) (a1 : Addr) (p2 : Int32) (h0 : Heap) (n0 : Nat) (v : Option Value) (h : Heap) (L : List Loc) : Prop := v = some (.int p2) ∧ Fr n0 L ∧ h = h0
set_option maxRecDepth 65536 in
set_option maxHeartbeats 40000000 in
theorem rm4 (l : Launch) (Z : State) (a0 : Array Value) (hw : ∀ d ∈ tables_1, d.before a0 Z = true) (ws : List Jvm.Cond) (a1 : Addr) (p2 : Int32) (h0 : Heap) (n0 : Nat) (Z0 : n0 ≤ h0.size) (hc1 : ¬ (p2 < (0 : Int32))) (hc7 : ¬ ((99999 : Int32) < p2)) :
    MetFree l (⟨"com/example/fieldwright/fieldwright/mater/RecordLabel", "checkNumber", "(Ljava/lang/String;I)I"⟩ : MethodName) (head1 (Jvm.Cond.code (⟨"com/example/fieldwright/fieldwright/mater/RecordLabel", "checkNumber", "(Ljava/lang/String;I)I"⟩ : MethodName) prog_26_method_13_code 2 (some .int) :: ws) ({ frames := 0, cells := 0, slots := 0, locals := 0 } : Room)) (fun a U => a = #[(.ref a1), (.int p2)] ∧ Z.Warmed39 U.vm ∧ U.heap = h0) (fun _ _ _ _ _ => True) (fun _ U o U' => ∃ v L, o = .returned v ∧ Q4 Z a1 p2 h0 n0 v U'.heap L ∧ FrameEnd U o U' L ({ frames := 0, cells := 0, slots := 0, locals := 0 } : Room).cells ({ frames := 0, cells := 0, slots := 0, locals := 0 } : Room).slots) := by
  refine MetFree.of_bodySF (plainFor_of_name pn_4) hisR ?_
  intro p e s m args below meth c s₁ Bd hml0 hP hK
  obtain ⟨rfl, hZ, hh⟩ := hP
  have hx := Bd.exec
  have hby := Bd.bytes
  have hml : c.maxLocals = 2 := hml0
  have hown : s.vm.findClass "com/example/fieldwright/fieldwright/mater/RecordLabel" = some m.cls := findClass_of_methodNamed Bd.named
  have hnm := (name_of_methodNamed Bd.named Bd.method).1
  have X0 : Stand p l e ({ frames := 0, cells := 0, slots := 0, locals := 0 } : Room) s m #[(.ref a1), (.int p2)] below meth c s₁ [] 0 0 := Stand.of_body Bd
  have e0 : s₁.heap = h0 := by rw [← hh, Bd.state]; rfl
  have N0 := Fr.nil n0
  have pre0 : ∀ t, Steps p.tables e below (s₁.setTop (mkF m 0 #[.val (.ref a1), .val (.int p2)] [])) t → Steps p.tables e below (s₁.setTop (entryFrame m #[(.ref a1), (.int p2)] 2)) t := fun t k => castTop (ef_4 m a1 p2) k

  obtain ⟨fs, hr, hrun, hended, hW, hsame⟩ := X0.leave (v := some (.int p2)) (fun h => by rw [Bd.returns] at h; cases h)
  refine ⟨_, _, pre0 _ ?_, hrun, hended, _, _, rfl, ?_, ⟨_, rfl⟩, hW, hsame.mono (by decide) (by decide)⟩
  · show Steps p.tables e below (s₁.setTop (mkF m 0 #[.val (.ref a1), .val (.int p2)] [])) _
    refine XS.iloadN X0.here hx rfl (hb hby d4_0) rfl ?_
    show Steps p.tables e below (s₁.setTop (mkF m 1 #[.val (.ref a1), .val (.int p2)] [(.int p2)])) _
    refine XS.ifNo X0.here hx rfl (hb hby d4_1) rfl ((if0 _ _).trans (flt hc1).1) ?_
    show Steps p.tables e below (s₁.setTop (mkF m 4 #[.val (.ref a1), .val (.int p2)] [])) _
    refine XS.iloadN X0.here hx rfl (hb hby d4_4) rfl ?_
    show Steps p.tables e below (s₁.setTop (mkF m 5 #[.val (.ref a1), .val (.int p2)] [(.int p2)])) _
    refine X0.ldcInt hx hown (mvT hZ (hw _ (List.mem_of_getElem? (i := 29) rfl))) (g := (mkF m 5 #[.val (.ref a1), .val (.int p2)] [(.int p2)])) rfl (hb hby d4_5) _ ?_
    show Steps p.tables e below (s₁.setTop (mkF m 7 #[.val (.ref a1), .val (.int p2)] [(.int (99999 : Int32)), (.int p2)])) _
    refine XS.icmpYes X0.here hx rfl (pc0 := 7) (pc' := 25) rfl (hb hby d4_7) rfl (flt hc7).2.2.2 (by decide) (by decide) ?_
    show Steps p.tables e below (s₁.setTop (mkF m 25 #[.val (.ref a1), .val (.int p2)] [])) _
    refine XS.iloadN X0.here hx rfl (hb hby d4_25) rfl ?_
    show Steps p.tables e below (s₁.setTop (mkF m 26 #[.val (.ref a1), .val (.int p2)] [(.int p2)])) _
    exact retI X0 hx Bd.returns (hb hby d4_26) hr
  · show Q4 Z a1 p2 h0 n0 _ s₁.heap _
    rw [e0]
    exact ⟨rfl, N0, rfl⟩
theorem d5_0 : decode jdk_31_method_11_code 0 = .ok (.aload_n 0, 1) := by decide +kernel
theorem d5_1 : decode jdk_31_method_11_code 1 = .ok (.ifnonnull 12, 3) := by decide +kernel
theorem d5_13 : decode jdk_31_method_11_code 13 = .ok (.aload_n 0, 1) := by decide +kernel
theorem d5_14 : decode jdk_31_method_11_code 14 = .ok (.areturn, 1) := by decide +kernel
theorem pn_5 : plainName "java/util/Objects" = true := by first | (simp [plainName, overriddenIn]; done) | decide +kernel
theorem ef_5 (m : MethodId) (x0 : Addr) (x1 : Addr) : entryFrame m #[(.ref x0), (.ref x1)] 2 = mkF m 0 #[.val (.ref x0), .val (.ref x1)] [] := by first | (simp [entryFrame, mkF, argsToLocals, Value.category]; done) | rfl
def Q5 (Z : State) (a1 : Addr) (a2 : Addr) (h0 : Heap) (n0 : Nat) (v : Option Value) (h : Heap) (L : List Loc) : Prop := v = some (.ref a1) ∧ Fr n0 L ∧ h = h0
set_option maxRecDepth 65536 in
set_option maxHeartbeats 40000000 in
theorem rm5 (l : Launch) (Z : State) (a0 : Array Value) (hw : ∀ d ∈ tables_1, d.before a0 Z = true) (ws : List Jvm.Cond) (a1 : Addr) (a2 : Addr) (h0 : Heap) (n0 : Nat) (Z0 : n0 ≤ h0.size) :
    MetFree l (⟨"java/util/Objects", "requireNonNull", "(Ljava/lang/Object;Ljava/lang/String;)Ljava/lang/Object;"⟩ : MethodName) (head1 (Jvm.Cond.code (⟨"java/util/Objects", "requireNonNull", "(Ljava/lang/Object;Ljava/lang/String;)Ljava/lang/Object;"⟩ : MethodName) jdk_31_method_11_code 2 (some (.object "java/lang/Object")) :: ws) ({ frames := 0, cells := 0, slots := 0, locals := 0 } : Room)) (fun a U => a = #[(.ref a1), (.ref a2)] ∧ Z.Warmed39 U.vm ∧ U.heap = h0) (fun _ _ _ _ _ => True) (fun _ U o U' => ∃ v L, o = .returned v ∧ Q5 Z a1 a2 h0 n0 v U'.heap L ∧ FrameEnd U o U' L ({ frames := 0, cells := 0, slots := 0, locals := 0 } : Room).cells ({ frames := 0, cells := 0, slots := 0, locals := 0 } : Room).slots) := by
  refine MetFree.of_bodySF (plainFor_of_name pn_5) hisR ?_
  intro p e s m args below meth c s₁ Bd hml0 hP hK
  obtain ⟨rfl, hZ, hh⟩ := hP
  have hx := Bd.exec
  have hby := Bd.bytes
  have hml : c.maxLocals = 2 := hml0
  have hown : s.vm.findClass "java/util/Objects" = some m.cls := findClass_of_methodNamed Bd.named
  have hnm := (name_of_methodNamed Bd.named Bd.method).1
  have X0 : Stand p l e ({ frames := 0, cells := 0, slots := 0, locals := 0 } : Room) s m #[(.ref a1), (.ref a2)] below meth c s₁ [] 0 0 := Stand.of_body Bd
  have e0 : s₁.heap = h0 := by rw [← hh, Bd.state]; rfl
  have N0 := Fr.nil n0
  have pre0 : ∀ t, Steps p.tables e below (s₁.setTop (mkF m 0 #[.val (.ref a1), .val (.ref a2)] [])) t → Steps p.tables e below (s₁.setTop (entryFrame m #[(.ref a1), (.ref a2)] 2)) t := fun t k => castTop (ef_5 m a1 a2) k

  obtain ⟨fs, hr, hrun, hended, hW, hsame⟩ := X0.leave (v := some (.ref a1)) (fun h => by rw [Bd.returns] at h; cases h)
  refine ⟨_, _, pre0 _ ?_, hrun, hended, _, _, rfl, ?_, ⟨_, rfl⟩, hW, hsame.mono (by decide) (by decide)⟩
  · show Steps p.tables e below (s₁.setTop (mkF m 0 #[.val (.ref a1), .val (.ref a2)] [])) _
    refine XS.aloadN X0.here hx rfl (hb hby d5_0) rfl rfl ?_
    show Steps p.tables e below (s₁.setTop (mkF m 1 #[.val (.ref a1), .val (.ref a2)] [(.ref a1)])) _
    refine XS.ifnonnullYes X0.here hx rfl (pc0 := 1) (pc' := 13) rfl (hb hby d5_1) rfl (by decide) (by decide) ?_
    show Steps p.tables e below (s₁.setTop (mkF m 13 #[.val (.ref a1), .val (.ref a2)] [])) _
    refine XS.aloadN X0.here hx rfl (hb hby d5_13) rfl rfl ?_
    show Steps p.tables e below (s₁.setTop (mkF m 14 #[.val (.ref a1), .val (.ref a2)] [(.ref a1)])) _
    jvm_step X0.here [X0.here.top, hx, (hb hby d5_14), X0.method', Bd.returns, Value.isRef, FieldType.isReference]
    first | (intro acts; rw [hr _ acts rfl rfl rfl]) | rw [hr _ _ rfl rfl rfl]
    exact Steps.refl _
  · show Q5 Z a1 a2 h0 n0 _ s₁.heap _
    rw [e0]
    exact ⟨rfl, N0, rfl⟩
theorem d2_0 : decode prog_26_method_1_code 0 = .ok (.aload_n 0, 1) := by decide +kernel
theorem d2_1 : decode prog_26_method_1_code 1 = .ok (.invokespecial 1, 3) := by decide +kernel
theorem d2_4 : decode prog_26_method_1_code 4 = .ok (.aload_n 0, 1) := by decide +kernel
theorem d2_5 : decode prog_26_method_1_code 5 = .ok (.ldc 9, 2) := by decide +kernel
theorem d2_7 : decode prog_26_method_1_code 7 = .ok (.iload_n 1, 1) := by decide +kernel
theorem d2_8 : decode prog_26_method_1_code 8 = .ok (.invokestatic 11, 3) := by decide +kernel
theorem d2_11 : decode prog_26_method_1_code 11 = .ok (.putfield 15, 3) := by decide +kernel
theorem d2_14 : decode prog_26_method_1_code 14 = .ok (.aload_n 0, 1) := by decide +kernel
theorem d2_15 : decode prog_26_method_1_code 15 = .ok (.aload_n 2, 1) := by decide +kernel
theorem d2_16 : decode prog_26_method_1_code 16 = .ok (.ldc 19, 2) := by decide +kernel
theorem d2_18 : decode prog_26_method_1_code 18 = .ok (.invokestatic 21, 3) := by decide +kernel
theorem d2_21 : decode prog_26_method_1_code 21 = .ok (.checkcast 27, 3) := by decide +kernel
theorem d2_24 : decode prog_26_method_1_code 24 = .ok (.putfield 29, 3) := by decide +kernel
theorem d2_27 : decode prog_26_method_1_code 27 = .ok (.aload_n 0, 1) := by decide +kernel
theorem d2_28 : decode prog_26_method_1_code 28 = .ok (.ldc 32, 2) := by decide +kernel
theorem d2_30 : decode prog_26_method_1_code 30 = .ok (.iload_n 3, 1) := by decide +kernel
theorem d2_31 : decode prog_26_method_1_code 31 = .ok (.invokestatic 11, 3) := by decide +kernel
theorem d2_34 : decode prog_26_method_1_code 34 = .ok (.putfield 34, 3) := by decide +kernel
theorem d2_37 : decode prog_26_method_1_code 37 = .ok (.return_, 1) := by decide +kernel
theorem pn_2 : plainName "com/example/fieldwright/fieldwright/mater/RecordLabel" = true := by first | (simp [plainName, overriddenIn]; done) | decide +kernel
theorem pd_2_3 : parseMethodDescriptor "(Ljava/lang/String;I)I" = some ⟨[(.object "java/lang/String"), .int], some .int⟩ := by decide +kernel
theorem pd_2_4 : parseMethodDescriptor "(Ljava/lang/Object;Ljava/lang/String;)Ljava/lang/Object;" = some ⟨[(.object "java/lang/Object"), (.object "java/lang/String")], some (.object "java/lang/Object")⟩ := by decide +kernel
theorem ef_2 (m : MethodId) (x0 : Addr) (x1 : Int32) (x2 : Addr) (x3 : Int32) : entryFrame m #[(.ref x0), (.int x1), (.ref x2), (.int x3)] 4 = mkF m 0 #[.val (.ref x0), .val (.int x1), .val (.ref x2), .val (.int x3)] [] := by first | (simp [entryFrame, mkF, argsToLocals, Value.category]; done) | rfl
def Q2 (Z : State) (a1 : Addr) (p2 : Int32) (a3 : Addr) (p4 : Int32) (h0 : Heap) (n0 : Nat) (v : Option Value) (h : Heap) (L : List Loc) : Prop := v = none ∧ Fr n0 L ∧ Keep h0 h [a1] ∧ Exa Z h a1 "com/example/fieldwright/fieldwright/mater/RecordLabel" ∧ Fld Z h a1 "com/example/fieldwright/fieldwright/mater/RecordLabel" "recordLength" "I" (.int p2) ∧ Fld Z h a1 "com/example/fieldwright/fieldwright/mater/RecordLabel" "status" "Lcom/example/fieldwright/fieldwright/mater/RecordLabel$Status;" (.ref a3) ∧ Fld Z h a1 "com/example/fieldwright/fieldwright/mater/RecordLabel" "baseAddress" "I" (.int p4)
set_option maxRecDepth 65536 in
set_option maxHeartbeats 40000000 in
theorem rm2 (l : Launch) (Z : State) (a0 : Array Value) (hw : ∀ d ∈ tables_1, d.before a0 Z = true) (ws : List Jvm.Cond) (a1 : Addr) (p2 : Int32) (a3 : Addr) (p4 : Int32) (u_recordLength_a1 : Value) (u_status_a1 : Value) (u_baseAddress_a1 : Value) (h0 : Heap) (n0 : Nat) (Z0 : n0 ≤ h0.size) (r1 : ¬ (p2 < (0 : Int32))) (r2 : ¬ ((99999 : Int32) < p2)) (r3 : ¬ (p4 < (0 : Int32))) (r4 : ¬ ((99999 : Int32) < p4)) (E_a1 : Exa Z h0 a1 "com/example/fieldwright/fieldwright/mater/RecordLabel") (F_recordLength_a1 : Fld Z h0 a1 "com/example/fieldwright/fieldwright/mater/RecordLabel" "recordLength" "I" u_recordLength_a1) (g_a1 : n0 ≤ a1) (E_a3 : Exa Z h0 a3 "com/example/fieldwright/fieldwright/mater/RecordLabel$Status") (F_status_a1 : Fld Z h0 a1 "com/example/fieldwright/fieldwright/mater/RecordLabel" "status" "Lcom/example/fieldwright/fieldwright/mater/RecordLabel$Status;" u_status_a1) (F_baseAddress_a1 : Fld Z h0 a1 "com/example/fieldwright/fieldwright/mater/RecordLabel" "baseAddress" "I" u_baseAddress_a1) :
    MetFree l (⟨"com/example/fieldwright/fieldwright/mater/RecordLabel", "<init>", "(ILcom/example/fieldwright/fieldwright/mater/RecordLabel$Status;I)V"⟩ : MethodName) (head1 (Jvm.Cond.code (⟨"com/example/fieldwright/fieldwright/mater/RecordLabel", "<init>", "(ILcom/example/fieldwright/fieldwright/mater/RecordLabel$Status;I)V"⟩ : MethodName) prog_26_method_1_code 4 none :: ws) ({ frames := 1, cells := 6, slots := 136, locals := 14 } : Room)) (fun a U => a = #[(.ref a1), (.int p2), (.ref a3), (.int p4)] ∧ Z.Warmed39 U.vm ∧ U.heap = h0) (fun _ _ _ _ _ => True) (fun _ U o U' => ∃ v L, o = .returned v ∧ Q2 Z a1 p2 a3 p4 h0 n0 v U'.heap L ∧ ReturnedEndW U o U' L ({ frames := 1, cells := 6, slots := 136, locals := 14 } : Room).cells ({ frames := 1, cells := 6, slots := 136, locals := 14 } : Room).slots) := by
  refine MetFree.of_bodySF (plainFor_of_name pn_2) hisR ?_
  intro p e s m args below meth c s₁ Bd hml0 hP hK
  obtain ⟨rfl, hZ, hh⟩ := hP
  have hx := Bd.exec
  have hby := Bd.bytes
  have hml : c.maxLocals = 4 := hml0
  have hown : s.vm.findClass "com/example/fieldwright/fieldwright/mater/RecordLabel" = some m.cls := findClass_of_methodNamed Bd.named
  have hnm := (name_of_methodNamed Bd.named Bd.method).1
  have X0 : Stand p l e ({ frames := 1, cells := 6, slots := 136, locals := 14 } : Room) s m #[(.ref a1), (.int p2), (.ref a3), (.int p4)] below meth c s₁ [] 0 0 := Stand.of_body Bd
  have e0 : s₁.heap = h0 := by rw [← hh, Bd.state]; rfl
  have N0 := Fr.nil n0
  have pre0 : ∀ t, Steps p.tables e below (s₁.setTop (mkF m 0 #[.val (.ref a1), .val (.int p2), .val (.ref a3), .val (.int p4)] [])) t → Steps p.tables e below (s₁.setTop (entryFrame m #[(.ref a1), (.int p2), (.ref a3), (.int p4)] 4)) t := fun t k => castTop (ef_2 m a1 p2 a3 p4) k
  have wS := own_wS hw
  have hS : s.Since s.vm h0.size := (State.WarmedH.refl s).since _
  have hk : h0.size ≤ h0.size := Nat.le_refl _
  obtain ⟨T5, X5, e5, st5⟩ := initO X0 hx hZ hown (hw _ (List.mem_of_getElem? (i := 15) rfl)) (hw _ (List.mem_of_getElem? (i := 16) rfl)) (hw _ (List.mem_of_getElem? (i := 17) rfl)) e0 (g := (mkF m 1 #[.val (.ref a1), .val (.int p2), .val (.ref a3), .val (.int p4)] [(.ref a1)])) rfl (by rw [hml]; rfl) rfl (hb hby d2_1) (by decide) (W := 0) (by show 2 * 0 + _ ≤ _; exact Nat.le_of_eq rfl) (by decide)
  obtain ⟨b6, T6, h6, kS6, X6, e6, E6, hS, hk, hZ, hown, st6⟩ := ldcS (s := s) (vm0 := s.vm) X5 hx hZ hown (hw _ (List.mem_of_getElem? (i := 18) rfl)) wS e5 hS hk (g := (mkF m 5 #[.val (.ref a1), .val (.int p2), .val (.ref a3), .val (.int p4)] [(.ref a1)])) rfl (hb hby d2_5) (n := 52) (by decide) (by decide) (by decide) (by decide)
  have K6 : Keep h0 h6 [a1] := (Keep.refl h0 [a1]).ext E6
  obtain ⟨_, _, ⟨T7, L7, k7, n7⟩, -, X7, ⟨Lc7, hQ7, l7, y7, z7⟩, st7⟩ := Jvm.LawKit.callS X6 hx (y := (⟨"com/example/fieldwright/fieldwright/mater/RecordLabel", "checkNumber", "(Ljava/lang/String;I)I"⟩ : MethodName)) hown (mvT hZ (hw _ (List.mem_of_getElem? (i := 26) rfl))) (mvT hZ (hw _ (List.mem_of_getElem? (i := 27) rfl))) (mvT hZ (hw _ (List.mem_of_getElem? (i := 11) rfl))) (mvT hZ (hw _ (List.mem_of_getElem? (i := 28) rfl))) (by decide) (backOf (W := 1) (rm4 l Z a0 hw [] b6 p2 h6 n0 (Nat.le_trans Z0 K6.1) r1 r2) hZ (hw _ (List.mem_of_getElem? (i := 28) rfl)) (hw _ (List.mem_of_getElem? (i := 11) rfl)) (by decide) (by decide)) (g := (mkF m 8 #[.val (.ref a1), .val (.int p2), .val (.ref a3), .val (.int p4)] [(.int p2), (.ref b6), (.ref a1)])) rfl (by rw [hml]; rfl) (argsL := [(.ref b6), (.int p2)]) (rest := [(.ref a1)]) (lenOf pd_2_3 rfl) rfl (by show 2 * 0 + _ ≤ _; exact Nat.le_of_eq rfl) (hb hby d2_8) (fun _ _ => ⟨rfl, e6, (by decide : 2 + 0 ≤ _), (by decide : 56 + 0 ≤ _)⟩)
  dsimp only [Pt.U, Pt.locs, Pt.cells, Pt.slots] at X7 l7 y7 z7 st7 hQ7
  subst l7 y7 z7
  obtain ⟨rfl, N7q, eq7⟩ := hQ7
  have N7 := Fr.app N0 N7q
  obtain ⟨T8, h8, X8, e8, W8, st8⟩ := putF X7 hx hZ hown (host := "") (Or.inl (hw _ (List.mem_of_getElem? (i := 30) rfl))) Via.refl eq7 (F_recordLength_a1.ext E6) (E_a1.ext E6) (Or.inr ⟨(hw _ (List.mem_of_getElem? (i := 31) rfl)), rfl, hnm⟩) (hw _ (List.mem_of_getElem? (i := 10) rfl)) (ty := .int) (by decide) rfl rfl (g := (mkF m 11 #[.val (.ref a1), .val (.int p2), .val (.ref a3), .val (.int p4)] [(.int p2), (.ref a1)])) rfl rfl (hb hby d2_11)
  have Fw8 := (F_recordLength_a1.ext E6).same W8
  have K8 : Keep h0 h8 [a1] := K6.wr W8 (Or.inl (List.mem_of_getElem? (i := 0) rfl))
  have hk := Nat.le_trans hk (Nat.le_of_eq W8.size.symm)
  have N8 := Fr.snoc X8 N7 g_a1
  obtain ⟨b9, T9, h9, kS9, X9, e9, E9, hS, hk, hZ, hown, st9⟩ := ldcS (s := s) (vm0 := T6.vm) X8 hx hZ hown (hw _ (List.mem_of_getElem? (i := 32) rfl)) wS e8 hS hk (g := (mkF m 16 #[.val (.ref a1), .val (.int p2), .val (.ref a3), .val (.int p4)] [(.ref a3), (.ref a1)])) rfl (hb hby d2_16) (n := 24) (by decide) (by decide) (by decide) (by decide)
  have K9 : Keep h0 h9 [a1] := K8.ext E9
  obtain ⟨_, _, ⟨T10, L10, k10, n10⟩, -, X10, ⟨Lc10, hQ10, l10, y10, z10⟩, st10⟩ := Jvm.LawKit.callS X9 hx (y := (⟨"java/util/Objects", "requireNonNull", "(Ljava/lang/Object;Ljava/lang/String;)Ljava/lang/Object;"⟩ : MethodName)) hown (mvT hZ (hw _ (List.mem_of_getElem? (i := 33) rfl))) (mvT hZ (hw _ (List.mem_of_getElem? (i := 34) rfl))) (mvT hZ (hw _ (List.mem_of_getElem? (i := 35) rfl))) (mvT hZ (hw _ (List.mem_of_getElem? (i := 36) rfl))) (by decide) (backOf (W := 1) (rm5 l Z a0 hw [] a3 b9 h9 n0 (Nat.le_trans Z0 K9.1) ) hZ (hw _ (List.mem_of_getElem? (i := 36) rfl)) (hw _ (List.mem_of_getElem? (i := 35) rfl)) (by decide) (by decide)) (g := (mkF m 18 #[.val (.ref a1), .val (.int p2), .val (.ref a3), .val (.int p4)] [(.ref b9), (.ref a3), (.ref a1)])) rfl (by rw [hml]; rfl) (argsL := [(.ref a3), (.ref b9)]) (rest := [(.ref a1)]) (lenOf pd_2_4 rfl) rfl (by show 2 * 0 + _ ≤ _; exact Nat.le_of_eq rfl) (hb hby d2_18) (fun _ _ => ⟨rfl, e9, (by decide : 4 + 0 ≤ _), (by decide : 84 + 0 ≤ _)⟩)
  dsimp only [Pt.U, Pt.locs, Pt.cells, Pt.slots] at X10 l10 y10 z10 st10 hQ10
  subst l10 y10 z10
  obtain ⟨rfl, N10q, eq10⟩ := hQ10
  have N10 := Fr.app N8 N10q
  obtain ⟨T11, X11, e11, st11⟩ := castY X10 hx hZ hown (hw _ (List.mem_of_getElem? (i := 37) rfl)) eq10 (Ins.self (E_a3.keep K9)) (g := (mkF m 21 #[.val (.ref a1), .val (.int p2), .val (.ref a3), .val (.int p4)] [(.ref a3), (.ref a1)])) rfl rfl (hb hby d2_21)
  obtain ⟨T12, h12, X12, e12, W12, st12⟩ := putF X11 hx hZ hown (host := "") (Or.inl (hw _ (List.mem_of_getElem? (i := 39) rfl))) Via.refl e11 (((F_status_a1.ext E6).other W8 (Or.inr (slot_ne (Or.inr (hw _ (List.mem_of_getElem? (i := 40) rfl))) (Or.inr (hw _ (List.mem_of_getElem? (i := 31) rfl))) (by decide) (t := (.object "com/example/fieldwright/fieldwright/mater/RecordLabel$Status")) (t' := .int) (by decide) (by decide)))).ext E9) (((E_a1.ext E6).wr W8).ext E9) (Or.inr ⟨(hw _ (List.mem_of_getElem? (i := 40) rfl)), rfl, hnm⟩) (hw _ (List.mem_of_getElem? (i := 10) rfl)) (ty := (.object "com/example/fieldwright/fieldwright/mater/RecordLabel$Status")) (by decide) rfl rfl (g := (mkF m 24 #[.val (.ref a1), .val (.int p2), .val (.ref a3), .val (.int p4)] [(.ref a3), (.ref a1)])) rfl rfl (hb hby d2_24)
  have Fw12 := (((F_status_a1.ext E6).other W8 (Or.inr (slot_ne (Or.inr (hw _ (List.mem_of_getElem? (i := 40) rfl))) (Or.inr (hw _ (List.mem_of_getElem? (i := 31) rfl))) (by decide) (t := (.object "com/example/fieldwright/fieldwright/mater/RecordLabel$Status")) (t' := .int) (by decide) (by decide)))).ext E9).same W12
  have K12 : Keep h0 h12 [a1] := K9.wr W12 (Or.inl (List.mem_of_getElem? (i := 0) rfl))
  have hk := Nat.le_trans hk (Nat.le_of_eq W12.size.symm)
  have N12 := Fr.snoc X12 N10 g_a1
  obtain ⟨b13, T13, h13, kS13, X13, e13, E13, hS, hk, hZ, hown, st13⟩ := ldcS (s := s) (vm0 := T9.vm) X12 hx hZ hown (hw _ (List.mem_of_getElem? (i := 41) rfl)) wS e12 hS hk (g := (mkF m 28 #[.val (.ref a1), .val (.int p2), .val (.ref a3), .val (.int p4)] [(.ref a1)])) rfl (hb hby d2_28) (n := 48) (by decide) (by decide) (by decide) (by decide)
  have K13 : Keep h0 h13 [a1] := K12.ext E13
  obtain ⟨_, _, ⟨T14, L14, k14, n14⟩, -, X14, ⟨Lc14, hQ14, l14, y14, z14⟩, st14⟩ := Jvm.LawKit.callS X13 hx (y := (⟨"com/example/fieldwright/fieldwright/mater/RecordLabel", "checkNumber", "(Ljava/lang/String;I)I"⟩ : MethodName)) hown (mvT hZ (hw _ (List.mem_of_getElem? (i := 26) rfl))) (mvT hZ (hw _ (List.mem_of_getElem? (i := 27) rfl))) (mvT hZ (hw _ (List.mem_of_getElem? (i := 11) rfl))) (mvT hZ (hw _ (List.mem_of_getElem? (i := 28) rfl))) (by decide) (backOf (W := 1) (rm4 l Z a0 hw [] b13 p4 h13 n0 (Nat.le_trans Z0 K13.1) r3 r4) hZ (hw _ (List.mem_of_getElem? (i := 28) rfl)) (hw _ (List.mem_of_getElem? (i := 11) rfl)) (by decide) (by decide)) (g := (mkF m 31 #[.val (.ref a1), .val (.int p2), .val (.ref a3), .val (.int p4)] [(.int p4), (.ref b13), (.ref a1)])) rfl (by rw [hml]; rfl) (argsL := [(.ref b13), (.int p4)]) (rest := [(.ref a1)]) (lenOf pd_2_3 rfl) rfl (by show 2 * 0 + _ ≤ _; exact Nat.le_of_eq rfl) (hb hby d2_31) (fun _ _ => ⟨rfl, e13, (by decide : 6 + 0 ≤ _), (by decide : 136 + 0 ≤ _)⟩)
  dsimp only [Pt.U, Pt.locs, Pt.cells, Pt.slots] at X14 l14 y14 z14 st14 hQ14
  subst l14 y14 z14
  obtain ⟨rfl, N14q, eq14⟩ := hQ14
  have N14 := Fr.app N12 N14q
  obtain ⟨T15, h15, X15, e15, W15, st15⟩ := putF X14 hx hZ hown (host := "") (Or.inl (hw _ (List.mem_of_getElem? (i := 42) rfl))) Via.refl eq14 (((((F_baseAddress_a1.ext E6).other W8 (Or.inr (slot_ne (Or.inr (hw _ (List.mem_of_getElem? (i := 43) rfl))) (Or.inr (hw _ (List.mem_of_getElem? (i := 31) rfl))) (by decide) (t := .int) (t' := .int) (by decide) (by decide)))).ext E9).other W12 (Or.inr (slot_ne (Or.inr (hw _ (List.mem_of_getElem? (i := 43) rfl))) (Or.inr (hw _ (List.mem_of_getElem? (i := 40) rfl))) (by decide) (t := .int) (t' := (.object "com/example/fieldwright/fieldwright/mater/RecordLabel$Status")) (by decide) (by decide)))).ext E13) (((((E_a1.ext E6).wr W8).ext E9).wr W12).ext E13) (Or.inr ⟨(hw _ (List.mem_of_getElem? (i := 43) rfl)), rfl, hnm⟩) (hw _ (List.mem_of_getElem? (i := 10) rfl)) (ty := .int) (by decide) rfl rfl (g := (mkF m 34 #[.val (.ref a1), .val (.int p2), .val (.ref a3), .val (.int p4)] [(.int p4), (.ref a1)])) rfl rfl (hb hby d2_34)
  have Fw15 := (((((F_baseAddress_a1.ext E6).other W8 (Or.inr (slot_ne (Or.inr (hw _ (List.mem_of_getElem? (i := 43) rfl))) (Or.inr (hw _ (List.mem_of_getElem? (i := 31) rfl))) (by decide) (t := .int) (t' := .int) (by decide) (by decide)))).ext E9).other W12 (Or.inr (slot_ne (Or.inr (hw _ (List.mem_of_getElem? (i := 43) rfl))) (Or.inr (hw _ (List.mem_of_getElem? (i := 40) rfl))) (by decide) (t := .int) (t' := (.object "com/example/fieldwright/fieldwright/mater/RecordLabel$Status")) (by decide) (by decide)))).ext E13).same W15
  have K15 : Keep h0 h15 [a1] := K13.wr W15 (Or.inl (List.mem_of_getElem? (i := 0) rfl))
  have hk := Nat.le_trans hk (Nat.le_of_eq W15.size.symm)
  have N15 := Fr.snoc X15 N14 g_a1
  obtain ⟨fs, hr, hrun, hended, hW1, hW2, hW3, hsame⟩ := X15.leaveW hS (show _ ≤ T15.heap.size by rw [e15]; exact hk) (v := none) (fun _ => rfl)
  refine ⟨_, _, pre0 _ ?_, hrun, hended, _, _, rfl, ?_, hW1, hW2, hW3, hsame.mono (by decide) (by decide)⟩
  · show Steps p.tables e below (s₁.setTop (mkF m 0 #[.val (.ref a1), .val (.int p2), .val (.ref a3), .val (.int p4)] [])) _
    refine XS.aloadN X0.here hx rfl (hb hby d2_0) rfl rfl ?_
    show Steps p.tables e below (s₁.setTop (mkF m 1 #[.val (.ref a1), .val (.int p2), .val (.ref a3), .val (.int p4)] [(.ref a1)])) _
    refine st5 _ ?_
    show Steps p.tables e below (T5.setTop (mkF m 4 #[.val (.ref a1), .val (.int p2), .val (.ref a3), .val (.int p4)] [])) _
    refine XS.aloadN X5.here hx rfl (hb hby d2_4) rfl rfl ?_
    show Steps p.tables e below (T5.setTop (mkF m 5 #[.val (.ref a1), .val (.int p2), .val (.ref a3), .val (.int p4)] [(.ref a1)])) _
    refine st6 _ ?_
    show Steps p.tables e below (T6.setTop (mkF m 7 #[.val (.ref a1), .val (.int p2), .val (.ref a3), .val (.int p4)] [(.ref b6), (.ref a1)])) _
    refine XS.iloadN X6.here hx rfl (hb hby d2_7) rfl ?_
    show Steps p.tables e below (T6.setTop (mkF m 8 #[.val (.ref a1), .val (.int p2), .val (.ref a3), .val (.int p4)] [(.int p2), (.ref b6), (.ref a1)])) _
    refine st7 _ ?_
    show Steps p.tables e below (T7.setTop (mkF m 11 #[.val (.ref a1), .val (.int p2), .val (.ref a3), .val (.int p4)] [(.int p2), (.ref a1)])) _
    refine st8 _ ?_
    show Steps p.tables e below (T8.setTop (mkF m 14 #[.val (.ref a1), .val (.int p2), .val (.ref a3), .val (.int p4)] [])) _
    refine XS.aloadN X8.here hx rfl (hb hby d2_14) rfl rfl ?_
    show Steps p.tables e below (T8.setTop (mkF m 15 #[.val (.ref a1), .val (.int p2), .val (.ref a3), .val (.int p4)] [(.ref a1)])) _
    refine XS.aloadN X8.here hx rfl (hb hby d2_15) rfl rfl ?_
    show Steps p.tables e below (T8.setTop (mkF m 16 #[.val (.ref a1), .val (.int p2), .val (.ref a3), .val (.int p4)] [(.ref a3), (.ref a1)])) _
    refine st9 _ ?_
    show Steps p.tables e below (T9.setTop (mkF m 18 #[.val (.ref a1), .val (.int p2), .val (.ref a3), .val (.int p4)] [(.ref b9), (.ref a3), (.ref a1)])) _
    refine st10 _ ?_
    show Steps p.tables e below (T10.setTop (mkF m 21 #[.val (.ref a1), .val (.int p2), .val (.ref a3), .val (.int p4)] [(.ref a3), (.ref a1)])) _
    refine st11 _ ?_
    show Steps p.tables e below (T11.setTop (mkF m 24 #[.val (.ref a1), .val (.int p2), .val (.ref a3), .val (.int p4)] [(.ref a3), (.ref a1)])) _
    refine st12 _ ?_
    show Steps p.tables e below (T12.setTop (mkF m 27 #[.val (.ref a1), .val (.int p2), .val (.ref a3), .val (.int p4)] [])) _
    refine XS.aloadN X12.here hx rfl (hb hby d2_27) rfl rfl ?_
    show Steps p.tables e below (T12.setTop (mkF m 28 #[.val (.ref a1), .val (.int p2), .val (.ref a3), .val (.int p4)] [(.ref a1)])) _
    refine st13 _ ?_
    show Steps p.tables e below (T13.setTop (mkF m 30 #[.val (.ref a1), .val (.int p2), .val (.ref a3), .val (.int p4)] [(.ref b13), (.ref a1)])) _
    refine XS.iloadN X13.here hx rfl (hb hby d2_30) rfl ?_
    show Steps p.tables e below (T13.setTop (mkF m 31 #[.val (.ref a1), .val (.int p2), .val (.ref a3), .val (.int p4)] [(.int p4), (.ref b13), (.ref a1)])) _
    refine st14 _ ?_
    show Steps p.tables e below (T14.setTop (mkF m 34 #[.val (.ref a1), .val (.int p2), .val (.ref a3), .val (.int p4)] [(.int p4), (.ref a1)])) _
    refine st15 _ ?_
    show Steps p.tables e below (T15.setTop (mkF m 37 #[.val (.ref a1), .val (.int p2), .val (.ref a3), .val (.int p4)] [])) _
    exact X15.returnOut hx Bd.returns (hb hby d2_37) hr
  · show Q2 Z a1 p2 a3 p4 h0 n0 _ T15.heap _
    rw [e15]
    exact ⟨rfl, N15, K15, E_a1.keep K15, ((((Fw8.ext E9).other W12 (Or.inr (slot_ne (Or.inr (hw _ (List.mem_of_getElem? (i := 31) rfl))) (Or.inr (hw _ (List.mem_of_getElem? (i := 40) rfl))) (by decide) (t := .int) (t' := (.object "com/example/fieldwright/fieldwright/mater/RecordLabel$Status")) (by decide) (by decide)))).ext E13).other W15 (Or.inr (slot_ne (Or.inr (hw _ (List.mem_of_getElem? (i := 31) rfl))) (Or.inr (hw _ (List.mem_of_getElem? (i := 43) rfl))) (by decide) (t := .int) (t' := .int) (by decide) (by decide)))), ((Fw12.ext E13).other W15 (Or.inr (slot_ne (Or.inr (hw _ (List.mem_of_getElem? (i := 40) rfl))) (Or.inr (hw _ (List.mem_of_getElem? (i := 43) rfl))) (by decide) (t := (.object "com/example/fieldwright/fieldwright/mater/RecordLabel$Status")) (t' := .int) (by decide) (by decide)))), Fw15⟩
theorem d6_0 : decode prog_26_method_10_code 0 = .ok (.aload_n 1, 1) := by decide +kernel
theorem d6_1 : decode prog_26_method_10_code 1 = .ok (.instanceof 7, 3) := by decide +kernel
theorem d6_4 : decode prog_26_method_10_code 4 = .ok (.ifCond .ne 5, 3) := by decide +kernel
theorem d6_7 : decode prog_26_method_10_code 7 = .ok (.iconst 0, 1) := by decide +kernel
theorem d6_8 : decode prog_26_method_10_code 8 = .ok (.ireturn, 1) := by decide +kernel
theorem pn_6 : plainName "com/example/fieldwright/fieldwright/mater/RecordLabel" = true := by first | (simp [plainName, overriddenIn]; done) | decide +kernel
theorem ef_6n (m : MethodId) (x0 : Addr) : entryFrame m #[(.ref x0), .null] 3 = mkF m 0 #[.val (.ref x0), .val .null, .unset] [] := by first | (simp [entryFrame, mkF, argsToLocals, Value.category]; done) | rfl
def Q6_null (Z : State) (a1 : Addr) (h0 : Heap) (n0 : Nat) (v : Option Value) (h : Heap) (L : List Loc) : Prop := v = some (.int (0 : Int32)) ∧ Fr n0 L ∧ h = h0
set_option maxRecDepth 65536 in
set_option maxHeartbeats 40000000 in
theorem rm6_null (l : Launch) (Z : State) (a0 : Array Value) (hw : ∀ d ∈ tables_1, d.before a0 Z = true) (ws : List Jvm.Cond) (a1 : Addr) (h0 : Heap) (n0 : Nat) (Z0 : n0 ≤ h0.size) :
    MetFree l (⟨"com/example/fieldwright/fieldwright/mater/RecordLabel", "equals", "(Ljava/lang/Object;)Z"⟩ : MethodName) (head1 (Jvm.Cond.code (⟨"com/example/fieldwright/fieldwright/mater/RecordLabel", "equals", "(Ljava/lang/Object;)Z"⟩ : MethodName) prog_26_method_10_code 3 (some .boolean) :: ws) ({ frames := 0, cells := 0, slots := 0, locals := 0 } : Room)) (fun a U => a = #[(.ref a1), .null] ∧ Z.Warmed39 U.vm ∧ U.heap = h0) (fun _ _ _ _ _ => True) (fun _ U o U' => ∃ v L, o = .returned v ∧ Q6_null Z a1 h0 n0 v U'.heap L ∧ FrameEnd U o U' L ({ frames := 0, cells := 0, slots := 0, locals := 0 } : Room).cells ({ frames := 0, cells := 0, slots := 0, locals := 0 } : Room).slots) := by
  refine MetFree.of_bodySF (plainFor_of_name pn_6) hisR ?_
  intro p e s m args below meth c s₁ Bd hml0 hP hK
  obtain ⟨rfl, hZ, hh⟩ := hP
  have hx := Bd.exec
  have hby := Bd.bytes
  have hml : c.maxLocals = 3 := hml0
  have hown : s.vm.findClass "com/example/fieldwright/fieldwright/mater/RecordLabel" = some m.cls := findClass_of_methodNamed Bd.named
  have hnm := (name_of_methodNamed Bd.named Bd.method).1
  have X0 : Stand p l e ({ frames := 0, cells := 0, slots := 0, locals := 0 } : Room) s m #[(.ref a1), .null] below meth c s₁ [] 0 0 := Stand.of_body Bd
  have e0 : s₁.heap = h0 := by rw [← hh, Bd.state]; rfl
  have N0 := Fr.nil n0
  have pre0 : ∀ t, Steps p.tables e below (s₁.setTop (mkF m 0 #[.val (.ref a1), .val .null, .unset] [])) t → Steps p.tables e below (s₁.setTop (entryFrame m #[(.ref a1), .null] 3)) t := fun t k => castTop (ef_6n m a1) k

  obtain ⟨fs, hr, hrun, hended, hW, hsame⟩ := X0.leave (v := some (.int (0 : Int32))) (fun h => by rw [Bd.returns] at h; cases h)
  refine ⟨_, _, pre0 _ ?_, hrun, hended, _, _, rfl, ?_, ⟨_, rfl⟩, hW, hsame.mono (by decide) (by decide)⟩
  · show Steps p.tables e below (s₁.setTop (mkF m 0 #[.val (.ref a1), .val .null, .unset] [])) _
    refine XS.aloadN X0.here hx rfl (hb hby d6_0) rfl rfl ?_
    show Steps p.tables e below (s₁.setTop (mkF m 1 #[.val (.ref a1), .val .null, .unset] [.null])) _
    refine X0.instanceofNull hx (g := (mkF m 1 #[.val (.ref a1), .val .null, .unset] [.null])) rfl rfl (hb hby d6_1) _ ?_
    show Steps p.tables e below (s₁.setTop (mkF m 4 #[.val (.ref a1), .val .null, .unset] [(.int (0 : Int32))])) _
    refine XS.ifNo X0.here hx rfl (hb hby d6_4) rfl ((if0 _ _).trans (teq (rfl : (0 : Int32) = (0 : Int32))).2) ?_
    show Steps p.tables e below (s₁.setTop (mkF m 7 #[.val (.ref a1), .val .null, .unset] [])) _
    refine XS.iconst X0.here hx rfl (hb hby d6_7) ?_
    show Steps p.tables e below (s₁.setTop (mkF m 8 #[.val (.ref a1), .val .null, .unset] [(.int (0 : Int32))])) _
    exact retN X0 hx (t := .boolean) Bd.returns (by simp) (hb hby d6_8) hr
  · show Q6_null Z a1 h0 n0 _ s₁.heap _
    rw [e0]
    exact ⟨rfl, N0, rfl⟩
theorem ef_6 (m : MethodId) (x0 : Addr) (x1 : Addr) : entryFrame m #[(.ref x0), (.ref x1)] 3 = mkF m 0 #[.val (.ref x0), .val (.ref x1), .unset] [] := by first | (simp [entryFrame, mkF, argsToLocals, Value.category]; done) | rfl
def Q6_str (Z : State) (a1 : Addr) (a2 : Addr) (h0 : Heap) (n0 : Nat) (v : Option Value) (h : Heap) (L : List Loc) : Prop := v = some (.int (0 : Int32)) ∧ Fr n0 L ∧ h = h0
set_option maxRecDepth 65536 in
set_option maxHeartbeats 40000000 in
theorem rm6_str (l : Launch) (Z : State) (a0 : Array Value) (hw : ∀ d ∈ tables_1, d.before a0 Z = true) (ws : List Jvm.Cond) (a1 : Addr) (a2 : Addr) (h0 : Heap) (n0 : Nat) (Z0 : n0 ≤ h0.size) (E_a2 : Exa Z h0 a2 "java/lang/String") (NI1 : ∃ c t, Z.vm.findClass "java/lang/String" = some c ∧ Z.vm.findClass "com/example/fieldwright/fieldwright/mater/RecordLabel" = some t ∧ Z.vm.assignable c t = false) :
    MetFree l (⟨"com/example/fieldwright/fieldwright/mater/RecordLabel", "equals", "(Ljava/lang/Object;)Z"⟩ : MethodName) (head1 (Jvm.Cond.code (⟨"com/example/fieldwright/fieldwright/mater/RecordLabel", "equals", "(Ljava/lang/Object;)Z"⟩ : MethodName) prog_26_method_10_code 3 (some .boolean) :: ws) ({ frames := 0, cells := 0, slots := 0, locals := 0 } : Room)) (fun a U => a = #[(.ref a1), (.ref a2)] ∧ Z.Warmed39 U.vm ∧ U.heap = h0) (fun _ _ _ _ _ => True) (fun _ U o U' => ∃ v L, o = .returned v ∧ Q6_str Z a1 a2 h0 n0 v U'.heap L ∧ FrameEnd U o U' L ({ frames := 0, cells := 0, slots := 0, locals := 0 } : Room).cells ({ frames := 0, cells := 0, slots := 0, locals := 0 } : Room).slots) := by
  refine MetFree.of_bodySF (plainFor_of_name pn_6) hisR ?_
  intro p e s m args below meth c s₁ Bd hml0 hP hK
  obtain ⟨rfl, hZ, hh⟩ := hP
  have hx := Bd.exec
  have hby := Bd.bytes
  have hml : c.maxLocals = 3 := hml0
  have hown : s.vm.findClass "com/example/fieldwright/fieldwright/mater/RecordLabel" = some m.cls := findClass_of_methodNamed Bd.named
  have hnm := (name_of_methodNamed Bd.named Bd.method).1
  have X0 : Stand p l e ({ frames := 0, cells := 0, slots := 0, locals := 0 } : Room) s m #[(.ref a1), (.ref a2)] below meth c s₁ [] 0 0 := Stand.of_body Bd
  have e0 : s₁.heap = h0 := by rw [← hh, Bd.state]; rfl
  have N0 := Fr.nil n0
  have pre0 : ∀ t, Steps p.tables e below (s₁.setTop (mkF m 0 #[.val (.ref a1), .val (.ref a2), .unset] [])) t → Steps p.tables e below (s₁.setTop (entryFrame m #[(.ref a1), (.ref a2)] 3)) t := fun t k => castTop (ef_6 m a1 a2) k
  obtain ⟨T3, X3, e3, st3⟩ := instNo X0 hx hZ hown (hw _ (List.mem_of_getElem? (i := 49) rfl)) e0 E_a2 NI1 (g := (mkF m 1 #[.val (.ref a1), .val (.ref a2), .unset] [(.ref a2)])) rfl rfl (hb hby d6_1)
  obtain ⟨fs, hr, hrun, hended, hW, hsame⟩ := X3.leave (v := some (.int (0 : Int32))) (fun h => by rw [Bd.returns] at h; cases h)
  refine ⟨_, _, pre0 _ ?_, hrun, hended, _, _, rfl, ?_, ⟨_, rfl⟩, hW, hsame.mono (by decide) (by decide)⟩
  · show Steps p.tables e below (s₁.setTop (mkF m 0 #[.val (.ref a1), .val (.ref a2), .unset] [])) _
    refine XS.aloadN X0.here hx rfl (hb hby d6_0) rfl rfl ?_
    show Steps p.tables e below (s₁.setTop (mkF m 1 #[.val (.ref a1), .val (.ref a2), .unset] [(.ref a2)])) _
    refine st3 _ ?_
    show Steps p.tables e below (T3.setTop (mkF m 4 #[.val (.ref a1), .val (.ref a2), .unset] [(.int (0 : Int32))])) _
    refine XS.ifNo X3.here hx rfl (hb hby d6_4) rfl ((if0 _ _).trans (teq (rfl : (0 : Int32) = (0 : Int32))).2) ?_
    show Steps p.tables e below (T3.setTop (mkF m 7 #[.val (.ref a1), .val (.ref a2), .unset] [])) _
    refine XS.iconst X3.here hx rfl (hb hby d6_7) ?_
    show Steps p.tables e below (T3.setTop (mkF m 8 #[.val (.ref a1), .val (.ref a2), .unset] [(.int (0 : Int32))])) _
    exact retN X3 hx (t := .boolean) Bd.returns (by simp) (hb hby d6_8) hr
  · show Q6_str Z a1 a2 h0 n0 _ T3.heap _
    rw [e3]
    exact ⟨rfl, N0, rfl⟩
theorem d6_9 : decode prog_26_method_10_code 9 = .ok (.aload_n 1, 1) := by decide +kernel
theorem d6_10 : decode prog_26_method_10_code 10 = .ok (.checkcast 7, 3) := by decide +kernel
theorem d6_13 : decode prog_26_method_10_code 13 = .ok (.astore_n 2, 1) := by decide +kernel
theorem d6_14 : decode prog_26_method_10_code 14 = .ok (.aload_n 0, 1) := by decide +kernel
theorem d6_15 : decode prog_26_method_10_code 15 = .ok (.getfield 15, 3) := by decide +kernel
theorem d6_18 : decode prog_26_method_10_code 18 = .ok (.aload_n 2, 1) := by decide +kernel
theorem d6_19 : decode prog_26_method_10_code 19 = .ok (.getfield 15, 3) := by decide +kernel
theorem d6_22 : decode prog_26_method_10_code 22 = .ok (.if_icmp .ne 29, 3) := by decide +kernel
theorem d6_51 : decode prog_26_method_10_code 51 = .ok (.iconst 0, 1) := by decide +kernel
theorem d6_52 : decode prog_26_method_10_code 52 = .ok (.ireturn, 1) := by decide +kernel
def Q6_tt (Z : State) (a1 : Addr) (a2 : Addr) (w5 : Int32) (w7 : Int32) (h0 : Heap) (n0 : Nat) (v : Option Value) (h : Heap) (L : List Loc) : Prop := v = some (.int (0 : Int32)) ∧ Fr n0 L ∧ h = h0
set_option maxRecDepth 65536 in
set_option maxHeartbeats 40000000 in
theorem rm6_tt (l : Launch) (Z : State) (a0 : Array Value) (hw : ∀ d ∈ tables_1, d.before a0 Z = true) (ws : List Jvm.Cond) (a1 : Addr) (a2 : Addr) (w5 : Int32) (w7 : Int32) (h0 : Heap) (n0 : Nat) (Z0 : n0 ≤ h0.size) (E_a2 : Exa Z h0 a2 "com/example/fieldwright/fieldwright/mater/RecordLabel") (F_recordLength_a1 : Fld Z h0 a1 "com/example/fieldwright/fieldwright/mater/RecordLabel" "recordLength" "I" (.int w5)) (F_recordLength_a2 : Fld Z h0 a2 "com/example/fieldwright/fieldwright/mater/RecordLabel" "recordLength" "I" (.int w7)) (hc22 : ¬ (w5 = w7)) :
    MetFree l (⟨"com/example/fieldwright/fieldwright/mater/RecordLabel", "equals", "(Ljava/lang/Object;)Z"⟩ : MethodName) (head1 (Jvm.Cond.code (⟨"com/example/fieldwright/fieldwright/mater/RecordLabel", "equals", "(Ljava/lang/Object;)Z"⟩ : MethodName) prog_26_method_10_code 3 (some .boolean) :: ws) ({ frames := 0, cells := 0, slots := 0, locals := 0 } : Room)) (fun a U => a = #[(.ref a1), (.ref a2)] ∧ Z.Warmed39 U.vm ∧ U.heap = h0) (fun _ _ _ _ _ => True) (fun _ U o U' => ∃ v L, o = .returned v ∧ Q6_tt Z a1 a2 w5 w7 h0 n0 v U'.heap L ∧ FrameEnd U o U' L ({ frames := 0, cells := 0, slots := 0, locals := 0 } : Room).cells ({ frames := 0, cells := 0, slots := 0, locals := 0 } : Room).slots) := by
  refine MetFree.of_bodySF (plainFor_of_name pn_6) hisR ?_
  intro p e s m args below meth c s₁ Bd hml0 hP hK
  obtain ⟨rfl, hZ, hh⟩ := hP
  have hx := Bd.exec
  have hby := Bd.bytes
  have hml : c.maxLocals = 3 := hml0
  have hown : s.vm.findClass "com/example/fieldwright/fieldwright/mater/RecordLabel" = some m.cls := findClass_of_methodNamed Bd.named
  have hnm := (name_of_methodNamed Bd.named Bd.method).1
  have X0 : Stand p l e ({ frames := 0, cells := 0, slots := 0, locals := 0 } : Room) s m #[(.ref a1), (.ref a2)] below meth c s₁ [] 0 0 := Stand.of_body Bd
  have e0 : s₁.heap = h0 := by rw [← hh, Bd.state]; rfl
  have N0 := Fr.nil n0
  have pre0 : ∀ t, Steps p.tables e below (s₁.setTop (mkF m 0 #[.val (.ref a1), .val (.ref a2), .unset] [])) t → Steps p.tables e below (s₁.setTop (entryFrame m #[(.ref a1), (.ref a2)] 3)) t := fun t k => castTop (ef_6 m a1 a2) k
  obtain ⟨T3, X3, e3, st3⟩ := instY X0 hx hZ hown (hw _ (List.mem_of_getElem? (i := 49) rfl)) e0 (Ins.self E_a2) (g := (mkF m 1 #[.val (.ref a1), .val (.ref a2), .unset] [(.ref a2)])) rfl rfl (hb hby d6_1)
  obtain ⟨T4, X4, e4, st4⟩ := castY X3 hx hZ hown (hw _ (List.mem_of_getElem? (i := 49) rfl)) e3 (Ins.self E_a2) (g := (mkF m 10 #[.val (.ref a1), .val (.ref a2), .unset] [(.ref a2)])) rfl rfl (hb hby d6_10)
  obtain ⟨T6, X6, e6, st6⟩ := getF X4 hx hZ hown (host := "") (Or.inl (hw _ (List.mem_of_getElem? (i := 30) rfl))) Via.refl e4 F_recordLength_a1 (g := (mkF m 15 #[.val (.ref a1), .val (.ref a2), .val (.ref a2)] [(.ref a1)])) rfl rfl (hb hby d6_15)
  obtain ⟨T8, X8, e8, st8⟩ := getF X6 hx hZ hown (host := "") (Or.inl (hw _ (List.mem_of_getElem? (i := 30) rfl))) Via.refl e6 F_recordLength_a2 (g := (mkF m 19 #[.val (.ref a1), .val (.ref a2), .val (.ref a2)] [(.ref a2), (.int w5)])) rfl rfl (hb hby d6_19)
  obtain ⟨fs, hr, hrun, hended, hW, hsame⟩ := X8.leave (v := some (.int (0 : Int32))) (fun h => by rw [Bd.returns] at h; cases h)
  refine ⟨_, _, pre0 _ ?_, hrun, hended, _, _, rfl, ?_, ⟨_, rfl⟩, hW, hsame.mono (by decide) (by decide)⟩
  · show Steps p.tables e below (s₁.setTop (mkF m 0 #[.val (.ref a1), .val (.ref a2), .unset] [])) _
    refine XS.aloadN X0.here hx rfl (hb hby d6_0) rfl rfl ?_
    show Steps p.tables e below (s₁.setTop (mkF m 1 #[.val (.ref a1), .val (.ref a2), .unset] [(.ref a2)])) _
    refine st3 _ ?_
    show Steps p.tables e below (T3.setTop (mkF m 4 #[.val (.ref a1), .val (.ref a2), .unset] [(.int (1 : Int32))])) _
    refine XS.ifYes X3.here hx rfl (pc0 := 4) (pc' := 9) rfl (hb hby d6_4) rfl ((if0 _ _).trans (feq (by decide : ¬ ((1 : Int32) = (0 : Int32)))).2) (by decide) (by decide) ?_
    show Steps p.tables e below (T3.setTop (mkF m 9 #[.val (.ref a1), .val (.ref a2), .unset] [])) _
    refine XS.aloadN X3.here hx rfl (hb hby d6_9) rfl rfl ?_
    show Steps p.tables e below (T3.setTop (mkF m 10 #[.val (.ref a1), .val (.ref a2), .unset] [(.ref a2)])) _
    refine st4 _ ?_
    show Steps p.tables e below (T4.setTop (mkF m 13 #[.val (.ref a1), .val (.ref a2), .unset] [(.ref a2)])) _
    refine XS.astoreN X4.here hx rfl (hb hby d6_13) rfl rfl (l' := #[.val (.ref a1), .val (.ref a2), .val (.ref a2)]) rfl ?_
    show Steps p.tables e below (T4.setTop (mkF m 14 #[.val (.ref a1), .val (.ref a2), .val (.ref a2)] [])) _
    refine XS.aloadN X4.here hx rfl (hb hby d6_14) rfl rfl ?_
    show Steps p.tables e below (T4.setTop (mkF m 15 #[.val (.ref a1), .val (.ref a2), .val (.ref a2)] [(.ref a1)])) _
    refine st6 _ ?_
    show Steps p.tables e below (T6.setTop (mkF m 18 #[.val (.ref a1), .val (.ref a2), .val (.ref a2)] [(.int w5)])) _
    refine XS.aloadN X6.here hx rfl (hb hby d6_18) rfl rfl ?_
    show Steps p.tables e below (T6.setTop (mkF m 19 #[.val (.ref a1), .val (.ref a2), .val (.ref a2)] [(.ref a2), (.int w5)])) _
    refine st8 _ ?_
    show Steps p.tables e below (T8.setTop (mkF m 22 #[.val (.ref a1), .val (.ref a2), .val (.ref a2)] [(.int w7), (.int w5)])) _
    refine XS.icmpYes X8.here hx rfl (pc0 := 22) (pc' := 51) rfl (hb hby d6_22) rfl (feq hc22).2 (by decide) (by decide) ?_
    show Steps p.tables e below (T8.setTop (mkF m 51 #[.val (.ref a1), .val (.ref a2), .val (.ref a2)] [])) _
    refine XS.iconst X8.here hx rfl (hb hby d6_51) ?_
    show Steps p.tables e below (T8.setTop (mkF m 52 #[.val (.ref a1), .val (.ref a2), .val (.ref a2)] [(.int (0 : Int32))])) _
    exact retN X8 hx (t := .boolean) Bd.returns (by simp) (hb hby d6_52) hr
  · show Q6_tt Z a1 a2 w5 w7 h0 n0 _ T8.heap _
    rw [e8]
    exact ⟨rfl, N0, rfl⟩
theorem d6_25 : decode prog_26_method_10_code 25 = .ok (.aload_n 0, 1) := by decide +kernel
theorem d6_26 : decode prog_26_method_10_code 26 = .ok (.getfield 29, 3) := by decide +kernel
theorem d6_29 : decode prog_26_method_10_code 29 = .ok (.aload_n 2, 1) := by decide +kernel
theorem d6_30 : decode prog_26_method_10_code 30 = .ok (.getfield 29, 3) := by decide +kernel
theorem d6_33 : decode prog_26_method_10_code 33 = .ok (.if_acmp .ne 18, 3) := by decide +kernel
def Q6_tft (Z : State) (a1 : Addr) (a2 : Addr) (w5 : Int32) (w7 : Int32) (w9 : Addr) (w11 : Addr) (h0 : Heap) (n0 : Nat) (v : Option Value) (h : Heap) (L : List Loc) : Prop := v = some (.int (0 : Int32)) ∧ Fr n0 L ∧ h = h0
set_option maxRecDepth 65536 in
set_option maxHeartbeats 40000000 in
theorem rm6_tft (l : Launch) (Z : State) (a0 : Array Value) (hw : ∀ d ∈ tables_1, d.before a0 Z = true) (ws : List Jvm.Cond) (a1 : Addr) (a2 : Addr) (w5 : Int32) (w7 : Int32) (w9 : Addr) (w11 : Addr) (h0 : Heap) (n0 : Nat) (Z0 : n0 ≤ h0.size) (E_a2 : Exa Z h0 a2 "com/example/fieldwright/fieldwright/mater/RecordLabel") (F_recordLength_a1 : Fld Z h0 a1 "com/example/fieldwright/fieldwright/mater/RecordLabel" "recordLength" "I" (.int w5)) (F_recordLength_a2 : Fld Z h0 a2 "com/example/fieldwright/fieldwright/mater/RecordLabel" "recordLength" "I" (.int w7)) (F_status_a1 : Fld Z h0 a1 "com/example/fieldwright/fieldwright/mater/RecordLabel" "status" "Lcom/example/fieldwright/fieldwright/mater/RecordLabel$Status;" (.ref w9)) (F_status_a2 : Fld Z h0 a2 "com/example/fieldwright/fieldwright/mater/RecordLabel" "status" "Lcom/example/fieldwright/fieldwright/mater/RecordLabel$Status;" (.ref w11)) (hc22 : w5 = w7) (ha33 : ¬ (w9 = w11)) :
    MetFree l (⟨"com/example/fieldwright/fieldwright/mater/RecordLabel", "equals", "(Ljava/lang/Object;)Z"⟩ : MethodName) (head1 (Jvm.Cond.code (⟨"com/example/fieldwright/fieldwright/mater/RecordLabel", "equals", "(Ljava/lang/Object;)Z"⟩ : MethodName) prog_26_method_10_code 3 (some .boolean) :: ws) ({ frames := 0, cells := 0, slots := 0, locals := 0 } : Room)) (fun a U => a = #[(.ref a1), (.ref a2)] ∧ Z.Warmed39 U.vm ∧ U.heap = h0) (fun _ _ _ _ _ => True) (fun _ U o U' => ∃ v L, o = .returned v ∧ Q6_tft Z a1 a2 w5 w7 w9 w11 h0 n0 v U'.heap L ∧ FrameEnd U o U' L ({ frames := 0, cells := 0, slots := 0, locals := 0 } : Room).cells ({ frames := 0, cells := 0, slots := 0, locals := 0 } : Room).slots) := by
  refine MetFree.of_bodySF (plainFor_of_name pn_6) hisR ?_
  intro p e s m args below meth c s₁ Bd hml0 hP hK
  obtain ⟨rfl, hZ, hh⟩ := hP
  have hx := Bd.exec
  have hby := Bd.bytes
  have hml : c.maxLocals = 3 := hml0
  have hown : s.vm.findClass "com/example/fieldwright/fieldwright/mater/RecordLabel" = some m.cls := findClass_of_methodNamed Bd.named
  have hnm := (name_of_methodNamed Bd.named Bd.method).1
  have X0 : Stand p l e ({ frames := 0, cells := 0, slots := 0, locals := 0 } : Room) s m #[(.ref a1), (.ref a2)] below meth c s₁ [] 0 0 := Stand.of_body Bd
  have e0 : s₁.heap = h0 := by rw [← hh, Bd.state]; rfl
  have N0 := Fr.nil n0
  have pre0 : ∀ t, Steps p.tables e below (s₁.setTop (mkF m 0 #[.val (.ref a1), .val (.ref a2), .unset] [])) t → Steps p.tables e below (s₁.setTop (entryFrame m #[(.ref a1), (.ref a2)] 3)) t := fun t k => castTop (ef_6 m a1 a2) k
  obtain ⟨T3, X3, e3, st3⟩ := instY X0 hx hZ hown (hw _ (List.mem_of_getElem? (i := 49) rfl)) e0 (Ins.self E_a2) (g := (mkF m 1 #[.val (.ref a1), .val (.ref a2), .unset] [(.ref a2)])) rfl rfl (hb hby d6_1)
  obtain ⟨T4, X4, e4, st4⟩ := castY X3 hx hZ hown (hw _ (List.mem_of_getElem? (i := 49) rfl)) e3 (Ins.self E_a2) (g := (mkF m 10 #[.val (.ref a1), .val (.ref a2), .unset] [(.ref a2)])) rfl rfl (hb hby d6_10)
  obtain ⟨T6, X6, e6, st6⟩ := getF X4 hx hZ hown (host := "") (Or.inl (hw _ (List.mem_of_getElem? (i := 30) rfl))) Via.refl e4 F_recordLength_a1 (g := (mkF m 15 #[.val (.ref a1), .val (.ref a2), .val (.ref a2)] [(.ref a1)])) rfl rfl (hb hby d6_15)
  obtain ⟨T8, X8, e8, st8⟩ := getF X6 hx hZ hown (host := "") (Or.inl (hw _ (List.mem_of_getElem? (i := 30) rfl))) Via.refl e6 F_recordLength_a2 (g := (mkF m 19 #[.val (.ref a1), .val (.ref a2), .val (.ref a2)] [(.ref a2), (.int w5)])) rfl rfl (hb hby d6_19)
  obtain ⟨T10, X10, e10, st10⟩ := getF X8 hx hZ hown (host := "") (Or.inl (hw _ (List.mem_of_getElem? (i := 39) rfl))) Via.refl e8 F_status_a1 (g := (mkF m 26 #[.val (.ref a1), .val (.ref a2), .val (.ref a2)] [(.ref a1)])) rfl rfl (hb hby d6_26)
  obtain ⟨T12, X12, e12, st12⟩ := getF X10 hx hZ hown (host := "") (Or.inl (hw _ (List.mem_of_getElem? (i := 39) rfl))) Via.refl e10 F_status_a2 (g := (mkF m 30 #[.val (.ref a1), .val (.ref a2), .val (.ref a2)] [(.ref a2), (.ref w9)])) rfl rfl (hb hby d6_30)
  obtain ⟨fs, hr, hrun, hended, hW, hsame⟩ := X12.leave (v := some (.int (0 : Int32))) (fun h => by rw [Bd.returns] at h; cases h)
  refine ⟨_, _, pre0 _ ?_, hrun, hended, _, _, rfl, ?_, ⟨_, rfl⟩, hW, hsame.mono (by decide) (by decide)⟩
  · show Steps p.tables e below (s₁.setTop (mkF m 0 #[.val (.ref a1), .val (.ref a2), .unset] [])) _
    refine XS.aloadN X0.here hx rfl (hb hby d6_0) rfl rfl ?_
    show Steps p.tables e below (s₁.setTop (mkF m 1 #[.val (.ref a1), .val (.ref a2), .unset] [(.ref a2)])) _
    refine st3 _ ?_
    show Steps p.tables e below (T3.setTop (mkF m 4 #[.val (.ref a1), .val (.ref a2), .unset] [(.int (1 : Int32))])) _
    refine XS.ifYes X3.here hx rfl (pc0 := 4) (pc' := 9) rfl (hb hby d6_4) rfl ((if0 _ _).trans (feq (by decide : ¬ ((1 : Int32) = (0 : Int32)))).2) (by decide) (by decide) ?_
    show Steps p.tables e below (T3.setTop (mkF m 9 #[.val (.ref a1), .val (.ref a2), .unset] [])) _
    refine XS.aloadN X3.here hx rfl (hb hby d6_9) rfl rfl ?_
    show Steps p.tables e below (T3.setTop (mkF m 10 #[.val (.ref a1), .val (.ref a2), .unset] [(.ref a2)])) _
    refine st4 _ ?_
    show Steps p.tables e below (T4.setTop (mkF m 13 #[.val (.ref a1), .val (.ref a2), .unset] [(.ref a2)])) _
    refine XS.astoreN X4.here hx rfl (hb hby d6_13) rfl rfl (l' := #[.val (.ref a1), .val (.ref a2), .val (.ref a2)]) rfl ?_
    show Steps p.tables e below (T4.setTop (mkF m 14 #[.val (.ref a1), .val (.ref a2), .val (.ref a2)] [])) _
    refine XS.aloadN X4.here hx rfl (hb hby d6_14) rfl rfl ?_
    show Steps p.tables e below (T4.setTop (mkF m 15 #[.val (.ref a1), .val (.ref a2), .val (.ref a2)] [(.ref a1)])) _
    refine st6 _ ?_
    show Steps p.tables e below (T6.setTop (mkF m 18 #[.val (.ref a1), .val (.ref a2), .val (.ref a2)] [(.int w5)])) _
    refine XS.aloadN X6.here hx rfl (hb hby d6_18) rfl rfl ?_
    show Steps p.tables e below (T6.setTop (mkF m 19 #[.val (.ref a1), .val (.ref a2), .val (.ref a2)] [(.ref a2), (.int w5)])) _
    refine st8 _ ?_
    show Steps p.tables e below (T8.setTop (mkF m 22 #[.val (.ref a1), .val (.ref a2), .val (.ref a2)] [(.int w7), (.int w5)])) _
    refine XS.icmpNo X8.here hx rfl (hb hby d6_22) rfl (teq hc22).2 ?_
    show Steps p.tables e below (T8.setTop (mkF m 25 #[.val (.ref a1), .val (.ref a2), .val (.ref a2)] [])) _
    refine XS.aloadN X8.here hx rfl (hb hby d6_25) rfl rfl ?_
    show Steps p.tables e below (T8.setTop (mkF m 26 #[.val (.ref a1), .val (.ref a2), .val (.ref a2)] [(.ref a1)])) _
    refine st10 _ ?_
    show Steps p.tables e below (T10.setTop (mkF m 29 #[.val (.ref a1), .val (.ref a2), .val (.ref a2)] [(.ref w9)])) _
    refine XS.aloadN X10.here hx rfl (hb hby d6_29) rfl rfl ?_
    show Steps p.tables e below (T10.setTop (mkF m 30 #[.val (.ref a1), .val (.ref a2), .val (.ref a2)] [(.ref a2), (.ref w9)])) _
    refine st12 _ ?_
    show Steps p.tables e below (T12.setTop (mkF m 33 #[.val (.ref a1), .val (.ref a2), .val (.ref a2)] [(.ref w11), (.ref w9)])) _
    refine Jvm.RoadKit.acmp (g := (mkF m 33 #[.val (.ref a1), .val (.ref a2), .val (.ref a2)] [(.ref w11), (.ref w9)])) X12 hx rfl rfl rfl (pc0 := 33) (pc' := 51) (same := false) rfl (hb hby d6_33) rfl (decide_eq_false fun q => ha33 (Value.ref.inj q)) (by decide) (by decide) ?_
    show Steps p.tables e below (T12.setTop (mkF m 51 #[.val (.ref a1), .val (.ref a2), .val (.ref a2)] [])) _
    refine XS.iconst X12.here hx rfl (hb hby d6_51) ?_
    show Steps p.tables e below (T12.setTop (mkF m 52 #[.val (.ref a1), .val (.ref a2), .val (.ref a2)] [(.int (0 : Int32))])) _
    exact retN X12 hx (t := .boolean) Bd.returns (by simp) (hb hby d6_52) hr
  · show Q6_tft Z a1 a2 w5 w7 w9 w11 h0 n0 _ T12.heap _
    rw [e12]
    exact ⟨rfl, N0, rfl⟩
theorem d6_36 : decode prog_26_method_10_code 36 = .ok (.aload_n 0, 1) := by decide +kernel
theorem d6_37 : decode prog_26_method_10_code 37 = .ok (.getfield 34, 3) := by decide +kernel
theorem d6_40 : decode prog_26_method_10_code 40 = .ok (.aload_n 2, 1) := by decide +kernel
theorem d6_41 : decode prog_26_method_10_code 41 = .ok (.getfield 34, 3) := by decide +kernel
theorem d6_44 : decode prog_26_method_10_code 44 = .ok (.if_icmp .ne 7, 3) := by decide +kernel
def Q6_tfft (Z : State) (a1 : Addr) (a2 : Addr) (w5 : Int32) (w7 : Int32) (w9 : Addr) (w11 : Addr) (w13 : Int32) (w15 : Int32) (h0 : Heap) (n0 : Nat) (v : Option Value) (h : Heap) (L : List Loc) : Prop := v = some (.int (0 : Int32)) ∧ Fr n0 L ∧ h = h0
set_option maxRecDepth 65536 in
set_option maxHeartbeats 40000000 in
theorem rm6_tfft (l : Launch) (Z : State) (a0 : Array Value) (hw : ∀ d ∈ tables_1, d.before a0 Z = true) (ws : List Jvm.Cond) (a1 : Addr) (a2 : Addr) (w5 : Int32) (w7 : Int32) (w9 : Addr) (w11 : Addr) (w13 : Int32) (w15 : Int32) (h0 : Heap) (n0 : Nat) (Z0 : n0 ≤ h0.size) (E_a2 : Exa Z h0 a2 "com/example/fieldwright/fieldwright/mater/RecordLabel") (F_recordLength_a1 : Fld Z h0 a1 "com/example/fieldwright/fieldwright/mater/RecordLabel" "recordLength" "I" (.int w5)) (F_recordLength_a2 : Fld Z h0 a2 "com/example/fieldwright/fieldwright/mater/RecordLabel" "recordLength" "I" (.int w7)) (F_status_a1 : Fld Z h0 a1 "com/example/fieldwright/fieldwright/mater/RecordLabel" "status" "Lcom/example/fieldwright/fieldwright/mater/RecordLabel$Status;" (.ref w9)) (F_status_a2 : Fld Z h0 a2 "com/example/fieldwright/fieldwright/mater/RecordLabel" "status" "Lcom/example/fieldwright/fieldwright/mater/RecordLabel$Status;" (.ref w11)) (F_baseAddress_a1 : Fld Z h0 a1 "com/example/fieldwright/fieldwright/mater/RecordLabel" "baseAddress" "I" (.int w13)) (F_baseAddress_a2 : Fld Z h0 a2 "com/example/fieldwright/fieldwright/mater/RecordLabel" "baseAddress" "I" (.int w15)) (hc22 : w5 = w7) (ha33 : w9 = w11) (hc44 : ¬ (w13 = w15)) :
    MetFree l (⟨"com/example/fieldwright/fieldwright/mater/RecordLabel", "equals", "(Ljava/lang/Object;)Z"⟩ : MethodName) (head1 (Jvm.Cond.code (⟨"com/example/fieldwright/fieldwright/mater/RecordLabel", "equals", "(Ljava/lang/Object;)Z"⟩ : MethodName) prog_26_method_10_code 3 (some .boolean) :: ws) ({ frames := 0, cells := 0, slots := 0, locals := 0 } : Room)) (fun a U => a = #[(.ref a1), (.ref a2)] ∧ Z.Warmed39 U.vm ∧ U.heap = h0) (fun _ _ _ _ _ => True) (fun _ U o U' => ∃ v L, o = .returned v ∧ Q6_tfft Z a1 a2 w5 w7 w9 w11 w13 w15 h0 n0 v U'.heap L ∧ FrameEnd U o U' L ({ frames := 0, cells := 0, slots := 0, locals := 0 } : Room).cells ({ frames := 0, cells := 0, slots := 0, locals := 0 } : Room).slots) := by
  refine MetFree.of_bodySF (plainFor_of_name pn_6) hisR ?_
  intro p e s m args below meth c s₁ Bd hml0 hP hK
  obtain ⟨rfl, hZ, hh⟩ := hP
  have hx := Bd.exec
  have hby := Bd.bytes
  have hml : c.maxLocals = 3 := hml0
  have hown : s.vm.findClass "com/example/fieldwright/fieldwright/mater/RecordLabel" = some m.cls := findClass_of_methodNamed Bd.named
  have hnm := (name_of_methodNamed Bd.named Bd.method).1
  have X0 : Stand p l e ({ frames := 0, cells := 0, slots := 0, locals := 0 } : Room) s m #[(.ref a1), (.ref a2)] below meth c s₁ [] 0 0 := Stand.of_body Bd
  have e0 : s₁.heap = h0 := by rw [← hh, Bd.state]; rfl
  have N0 := Fr.nil n0
  have pre0 : ∀ t, Steps p.tables e below (s₁.setTop (mkF m 0 #[.val (.ref a1), .val (.ref a2), .unset] [])) t → Steps p.tables e below (s₁.setTop (entryFrame m #[(.ref a1), (.ref a2)] 3)) t := fun t k => castTop (ef_6 m a1 a2) k
  obtain ⟨T3, X3, e3, st3⟩ := instY X0 hx hZ hown (hw _ (List.mem_of_getElem? (i := 49) rfl)) e0 (Ins.self E_a2) (g := (mkF m 1 #[.val (.ref a1), .val (.ref a2), .unset] [(.ref a2)])) rfl rfl (hb hby d6_1)
  obtain ⟨T4, X4, e4, st4⟩ := castY X3 hx hZ hown (hw _ (List.mem_of_getElem? (i := 49) rfl)) e3 (Ins.self E_a2) (g := (mkF m 10 #[.val (.ref a1), .val (.ref a2), .unset] [(.ref a2)])) rfl rfl (hb hby d6_10)
  obtain ⟨T6, X6, e6, st6⟩ := getF X4 hx hZ hown (host := "") (Or.inl (hw _ (List.mem_of_getElem? (i := 30) rfl))) Via.refl e4 F_recordLength_a1 (g := (mkF m 15 #[.val (.ref a1), .val (.ref a2), .val (.ref a2)] [(.ref a1)])) rfl rfl (hb hby d6_15)
  obtain ⟨T8, X8, e8, st8⟩ := getF X6 hx hZ hown (host := "") (Or.inl (hw _ (List.mem_of_getElem? (i := 30) rfl))) Via.refl e6 F_recordLength_a2 (g := (mkF m 19 #[.val (.ref a1), .val (.ref a2), .val (.ref a2)] [(.ref a2), (.int w5)])) rfl rfl (hb hby d6_19)
  obtain ⟨T10, X10, e10, st10⟩ := getF X8 hx hZ hown (host := "") (Or.inl (hw _ (List.mem_of_getElem? (i := 39) rfl))) Via.refl e8 F_status_a1 (g := (mkF m 26 #[.val (.ref a1), .val (.ref a2), .val (.ref a2)] [(.ref a1)])) rfl rfl (hb hby d6_26)
  obtain ⟨T12, X12, e12, st12⟩ := getF X10 hx hZ hown (host := "") (Or.inl (hw _ (List.mem_of_getElem? (i := 39) rfl))) Via.refl e10 F_status_a2 (g := (mkF m 30 #[.val (.ref a1), .val (.ref a2), .val (.ref a2)] [(.ref a2), (.ref w9)])) rfl rfl (hb hby d6_30)
  obtain ⟨T14, X14, e14, st14⟩ := getF X12 hx hZ hown (host := "") (Or.inl (hw _ (List.mem_of_getElem? (i := 42) rfl))) Via.refl e12 F_baseAddress_a1 (g := (mkF m 37 #[.val (.ref a1), .val (.ref a2), .val (.ref a2)] [(.ref a1)])) rfl rfl (hb hby d6_37)
  obtain ⟨T16, X16, e16, st16⟩ := getF X14 hx hZ hown (host := "") (Or.inl (hw _ (List.mem_of_getElem? (i := 42) rfl))) Via.refl e14 F_baseAddress_a2 (g := (mkF m 41 #[.val (.ref a1), .val (.ref a2), .val (.ref a2)] [(.ref a2), (.int w13)])) rfl rfl (hb hby d6_41)
  obtain ⟨fs, hr, hrun, hended, hW, hsame⟩ := X16.leave (v := some (.int (0 : Int32))) (fun h => by rw [Bd.returns] at h; cases h)
  refine ⟨_, _, pre0 _ ?_, hrun, hended, _, _, rfl, ?_, ⟨_, rfl⟩, hW, hsame.mono (by decide) (by decide)⟩
  · show Steps p.tables e below (s₁.setTop (mkF m 0 #[.val (.ref a1), .val (.ref a2), .unset] [])) _
    refine XS.aloadN X0.here hx rfl (hb hby d6_0) rfl rfl ?_
    show Steps p.tables e below (s₁.setTop (mkF m 1 #[.val (.ref a1), .val (.ref a2), .unset] [(.ref a2)])) _
    refine st3 _ ?_
    show Steps p.tables e below (T3.setTop (mkF m 4 #[.val (.ref a1), .val (.ref a2), .unset] [(.int (1 : Int32))])) _
    refine XS.ifYes X3.here hx rfl (pc0 := 4) (pc' := 9) rfl (hb hby d6_4) rfl ((if0 _ _).trans (feq (by decide : ¬ ((1 : Int32) = (0 : Int32)))).2) (by decide) (by decide) ?_
    show Steps p.tables e below (T3.setTop (mkF m 9 #[.val (.ref a1), .val (.ref a2), .unset] [])) _
    refine XS.aloadN X3.here hx rfl (hb hby d6_9) rfl rfl ?_
    show Steps p.tables e below (T3.setTop (mkF m 10 #[.val (.ref a1), .val (.ref a2), .unset] [(.ref a2)])) _
    refine st4 _ ?_
    show Steps p.tables e below (T4.setTop (mkF m 13 #[.val (.ref a1), .val (.ref a2), .unset] [(.ref a2)])) _
    refine XS.astoreN X4.here hx rfl (hb hby d6_13) rfl rfl (l' := #[.val (.ref a1), .val (.ref a2), .val (.ref a2)]) rfl ?_
    show Steps p.tables e below (T4.setTop (mkF m 14 #[.val (.ref a1), .val (.ref a2), .val (.ref a2)] [])) _
    refine XS.aloadN X4.here hx rfl (hb hby d6_14) rfl rfl ?_
    show Steps p.tables e below (T4.setTop (mkF m 15 #[.val (.ref a1), .val (.ref a2), .val (.ref a2)] [(.ref a1)])) _
    refine st6 _ ?_
    show Steps p.tables e below (T6.setTop (mkF m 18 #[.val (.ref a1), .val (.ref a2), .val (.ref a2)] [(.int w5)])) _
    refine XS.aloadN X6.here hx rfl (hb hby d6_18) rfl rfl ?_
    show Steps p.tables e below (T6.setTop (mkF m 19 #[.val (.ref a1), .val (.ref a2), .val (.ref a2)] [(.ref a2), (.int w5)])) _
    refine st8 _ ?_
    show Steps p.tables e below (T8.setTop (mkF m 22 #[.val (.ref a1), .val (.ref a2), .val (.ref a2)] [(.int w7), (.int w5)])) _
    refine XS.icmpNo X8.here hx rfl (hb hby d6_22) rfl (teq hc22).2 ?_
    show Steps p.tables e below (T8.setTop (mkF m 25 #[.val (.ref a1), .val (.ref a2), .val (.ref a2)] [])) _
    refine XS.aloadN X8.here hx rfl (hb hby d6_25) rfl rfl ?_
    show Steps p.tables e below (T8.setTop (mkF m 26 #[.val (.ref a1), .val (.ref a2), .val (.ref a2)] [(.ref a1)])) _
    refine st10 _ ?_
    show Steps p.tables e below (T10.setTop (mkF m 29 #[.val (.ref a1), .val (.ref a2), .val (.ref a2)] [(.ref w9)])) _
    refine XS.aloadN X10.here hx rfl (hb hby d6_29) rfl rfl ?_
    show Steps p.tables e below (T10.setTop (mkF m 30 #[.val (.ref a1), .val (.ref a2), .val (.ref a2)] [(.ref a2), (.ref w9)])) _
    refine st12 _ ?_
    show Steps p.tables e below (T12.setTop (mkF m 33 #[.val (.ref a1), .val (.ref a2), .val (.ref a2)] [(.ref w11), (.ref w9)])) _
    refine Jvm.RoadKit.acmp (g := (mkF m 33 #[.val (.ref a1), .val (.ref a2), .val (.ref a2)] [(.ref w11), (.ref w9)])) X12 hx rfl rfl rfl (pc0 := 33) (pc' := 36) (same := true) rfl (hb hby d6_33) rfl (decide_eq_true (congrArg Value.ref ha33)) (by decide) (by decide) ?_
    show Steps p.tables e below (T12.setTop (mkF m 36 #[.val (.ref a1), .val (.ref a2), .val (.ref a2)] [])) _
    refine XS.aloadN X12.here hx rfl (hb hby d6_36) rfl rfl ?_
    show Steps p.tables e below (T12.setTop (mkF m 37 #[.val (.ref a1), .val (.ref a2), .val (.ref a2)] [(.ref a1)])) _
    refine st14 _ ?_
    show Steps p.tables e below (T14.setTop (mkF m 40 #[.val (.ref a1), .val (.ref a2), .val (.ref a2)] [(.int w13)])) _
    refine XS.aloadN X14.here hx rfl (hb hby d6_40) rfl rfl ?_
    show Steps p.tables e below (T14.setTop (mkF m 41 #[.val (.ref a1), .val (.ref a2), .val (.ref a2)] [(.ref a2), (.int w13)])) _
    refine st16 _ ?_
    show Steps p.tables e below (T16.setTop (mkF m 44 #[.val (.ref a1), .val (.ref a2), .val (.ref a2)] [(.int w15), (.int w13)])) _
    refine XS.icmpYes X16.here hx rfl (pc0 := 44) (pc' := 51) rfl (hb hby d6_44) rfl (feq hc44).2 (by decide) (by decide) ?_
    show Steps p.tables e below (T16.setTop (mkF m 51 #[.val (.ref a1), .val (.ref a2), .val (.ref a2)] [])) _
    refine XS.iconst X16.here hx rfl (hb hby d6_51) ?_
    show Steps p.tables e below (T16.setTop (mkF m 52 #[.val (.ref a1), .val (.ref a2), .val (.ref a2)] [(.int (0 : Int32))])) _
    exact retN X16 hx (t := .boolean) Bd.returns (by simp) (hb hby d6_52) hr
  · show Q6_tfft Z a1 a2 w5 w7 w9 w11 w13 w15 h0 n0 _ T16.heap _
    rw [e16]
    exact ⟨rfl, N0, rfl⟩
theorem d6_47 : decode prog_26_method_10_code 47 = .ok (.iconst 1, 1) := by decide +kernel
theorem d6_48 : decode prog_26_method_10_code 48 = .ok (.goto 4, 3) := by decide +kernel
def Q6_tfff (Z : State) (a1 : Addr) (a2 : Addr) (w5 : Int32) (w7 : Int32) (w9 : Addr) (w11 : Addr) (w13 : Int32) (w15 : Int32) (h0 : Heap) (n0 : Nat) (v : Option Value) (h : Heap) (L : List Loc) : Prop := v = some (.int (1 : Int32)) ∧ Fr n0 L ∧ h = h0
set_option maxRecDepth 65536 in
set_option maxHeartbeats 40000000 in
theorem rm6_tfff (l : Launch) (Z : State) (a0 : Array Value) (hw : ∀ d ∈ tables_1, d.before a0 Z = true) (ws : List Jvm.Cond) (a1 : Addr) (a2 : Addr) (w5 : Int32) (w7 : Int32) (w9 : Addr) (w11 : Addr) (w13 : Int32) (w15 : Int32) (h0 : Heap) (n0 : Nat) (Z0 : n0 ≤ h0.size) (E_a2 : Exa Z h0 a2 "com/example/fieldwright/fieldwright/mater/RecordLabel") (F_recordLength_a1 : Fld Z h0 a1 "com/example/fieldwright/fieldwright/mater/RecordLabel" "recordLength" "I" (.int w5)) (F_recordLength_a2 : Fld Z h0 a2 "com/example/fieldwright/fieldwright/mater/RecordLabel" "recordLength" "I" (.int w7)) (F_status_a1 : Fld Z h0 a1 "com/example/fieldwright/fieldwright/mater/RecordLabel" "status" "Lcom/example/fieldwright/fieldwright/mater/RecordLabel$Status;" (.ref w9)) (F_status_a2 : Fld Z h0 a2 "com/example/fieldwright/fieldwright/mater/RecordLabel" "status" "Lcom/example/fieldwright/fieldwright/mater/RecordLabel$Status;" (.ref w11)) (F_baseAddress_a1 : Fld Z h0 a1 "com/example/fieldwright/fieldwright/mater/RecordLabel" "baseAddress" "I" (.int w13)) (F_baseAddress_a2 : Fld Z h0 a2 "com/example/fieldwright/fieldwright/mater/RecordLabel" "baseAddress" "I" (.int w15)) (hc22 : w5 = w7) (ha33 : w9 = w11) (hc44 : w13 = w15) :
    MetFree l (⟨"com/example/fieldwright/fieldwright/mater/RecordLabel", "equals", "(Ljava/lang/Object;)Z"⟩ : MethodName) (head1 (Jvm.Cond.code (⟨"com/example/fieldwright/fieldwright/mater/RecordLabel", "equals", "(Ljava/lang/Object;)Z"⟩ : MethodName) prog_26_method_10_code 3 (some .boolean) :: ws) ({ frames := 0, cells := 0, slots := 0, locals := 0 } : Room)) (fun a U => a = #[(.ref a1), (.ref a2)] ∧ Z.Warmed39 U.vm ∧ U.heap = h0) (fun _ _ _ _ _ => True) (fun _ U o U' => ∃ v L, o = .returned v ∧ Q6_tfff Z a1 a2 w5 w7 w9 w11 w13 w15 h0 n0 v U'.heap L ∧ FrameEnd U o U' L ({ frames := 0, cells := 0, slots := 0, locals := 0 } : Room).cells ({ frames := 0, cells := 0, slots := 0, locals := 0 } : Room).slots) := by
  refine MetFree.of_bodySF (plainFor_of_name pn_6) hisR ?_
  intro p e s m args below meth c s₁ Bd hml0 hP hK
  obtain ⟨rfl, hZ, hh⟩ := hP
  have hx := Bd.exec
  have hby := Bd.bytes
  have hml : c.maxLocals = 3 := hml0
  have hown : s.vm.findClass "com/example/fieldwright/fieldwright/mater/RecordLabel" = some m.cls := findClass_of_methodNamed Bd.named
  have hnm := (name_of_methodNamed Bd.named Bd.method).1
  have X0 : Stand p l e ({ frames := 0, cells := 0, slots := 0, locals := 0 } : Room) s m #[(.ref a1), (.ref a2)] below meth c s₁ [] 0 0 := Stand.of_body Bd
  have e0 : s₁.heap = h0 := by rw [← hh, Bd.state]; rfl
  have N0 := Fr.nil n0
  have pre0 : ∀ t, Steps p.tables e below (s₁.setTop (mkF m 0 #[.val (.ref a1), .val (.ref a2), .unset] [])) t → Steps p.tables e below (s₁.setTop (entryFrame m #[(.ref a1), (.ref a2)] 3)) t := fun t k => castTop (ef_6 m a1 a2) k
  obtain ⟨T3, X3, e3, st3⟩ := instY X0 hx hZ hown (hw _ (List.mem_of_getElem? (i := 49) rfl)) e0 (Ins.self E_a2) (g := (mkF m 1 #[.val (.ref a1), .val (.ref a2), .unset] [(.ref a2)])) rfl rfl (hb hby d6_1)
  obtain ⟨T4, X4, e4, st4⟩ := castY X3 hx hZ hown (hw _ (List.mem_of_getElem? (i := 49) rfl)) e3 (Ins.self E_a2) (g := (mkF m 10 #[.val (.ref a1), .val (.ref a2), .unset] [(.ref a2)])) rfl rfl (hb hby d6_10)
  obtain ⟨T6, X6, e6, st6⟩ := getF X4 hx hZ hown (host := "") (Or.inl (hw _ (List.mem_of_getElem? (i := 30) rfl))) Via.refl e4 F_recordLength_a1 (g := (mkF m 15 #[.val (.ref a1), .val (.ref a2), .val (.ref a2)] [(.ref a1)])) rfl rfl (hb hby d6_15)
  obtain ⟨T8, X8, e8, st8⟩ := getF X6 hx hZ hown (host := "") (Or.inl (hw _ (List.mem_of_getElem? (i := 30) rfl))) Via.refl e6 F_recordLength_a2 (g := (mkF m 19 #[.val (.ref a1), .val (.ref a2), .val (.ref a2)] [(.ref a2), (.int w5)])) rfl rfl (hb hby d6_19)
  obtain ⟨T10, X10, e10, st10⟩ := getF X8 hx hZ hown (host := "") (Or.inl (hw _ (List.mem_of_getElem? (i := 39) rfl))) Via.refl e8 F_status_a1 (g := (mkF m 26 #[.val (.ref a1), .val (.ref a2), .val (.ref a2)] [(.ref a1)])) rfl rfl (hb hby d6_26)
  obtain ⟨T12, X12, e12, st12⟩ := getF X10 hx hZ hown (host := "") (Or.inl (hw _ (List.mem_of_getElem? (i := 39) rfl))) Via.refl e10 F_status_a2 (g := (mkF m 30 #[.val (.ref a1), .val (.ref a2), .val (.ref a2)] [(.ref a2), (.ref w9)])) rfl rfl (hb hby d6_30)
  obtain ⟨T14, X14, e14, st14⟩ := getF X12 hx hZ hown (host := "") (Or.inl (hw _ (List.mem_of_getElem? (i := 42) rfl))) Via.refl e12 F_baseAddress_a1 (g := (mkF m 37 #[.val (.ref a1), .val (.ref a2), .val (.ref a2)] [(.ref a1)])) rfl rfl (hb hby d6_37)
  obtain ⟨T16, X16, e16, st16⟩ := getF X14 hx hZ hown (host := "") (Or.inl (hw _ (List.mem_of_getElem? (i := 42) rfl))) Via.refl e14 F_baseAddress_a2 (g := (mkF m 41 #[.val (.ref a1), .val (.ref a2), .val (.ref a2)] [(.ref a2), (.int w13)])) rfl rfl (hb hby d6_41)
  obtain ⟨fs, hr, hrun, hended, hW, hsame⟩ := X16.leave (v := some (.int (1 : Int32))) (fun h => by rw [Bd.returns] at h; cases h)
  refine ⟨_, _, pre0 _ ?_, hrun, hended, _, _, rfl, ?_, ⟨_, rfl⟩, hW, hsame.mono (by decide) (by decide)⟩
  · show Steps p.tables e below (s₁.setTop (mkF m 0 #[.val (.ref a1), .val (.ref a2), .unset] [])) _
    refine XS.aloadN X0.here hx rfl (hb hby d6_0) rfl rfl ?_
    show Steps p.tables e below (s₁.setTop (mkF m 1 #[.val (.ref a1), .val (.ref a2), .unset] [(.ref a2)])) _
    refine st3 _ ?_
    show Steps p.tables e below (T3.setTop (mkF m 4 #[.val (.ref a1), .val (.ref a2), .unset] [(.int (1 : Int32))])) _
    refine XS.ifYes X3.here hx rfl (pc0 := 4) (pc' := 9) rfl (hb hby d6_4) rfl ((if0 _ _).trans (feq (by decide : ¬ ((1 : Int32) = (0 : Int32)))).2) (by decide) (by decide) ?_
    show Steps p.tables e below (T3.setTop (mkF m 9 #[.val (.ref a1), .val (.ref a2), .unset] [])) _
    refine XS.aloadN X3.here hx rfl (hb hby d6_9) rfl rfl ?_
    show Steps p.tables e below (T3.setTop (mkF m 10 #[.val (.ref a1), .val (.ref a2), .unset] [(.ref a2)])) _
    refine st4 _ ?_
    show Steps p.tables e below (T4.setTop (mkF m 13 #[.val (.ref a1), .val (.ref a2), .unset] [(.ref a2)])) _
    refine XS.astoreN X4.here hx rfl (hb hby d6_13) rfl rfl (l' := #[.val (.ref a1), .val (.ref a2), .val (.ref a2)]) rfl ?_
    show Steps p.tables e below (T4.setTop (mkF m 14 #[.val (.ref a1), .val (.ref a2), .val (.ref a2)] [])) _
    refine XS.aloadN X4.here hx rfl (hb hby d6_14) rfl rfl ?_
    show Steps p.tables e below (T4.setTop (mkF m 15 #[.val (.ref a1), .val (.ref a2), .val (.ref a2)] [(.ref a1)])) _
    refine st6 _ ?_
    show Steps p.tables e below (T6.setTop (mkF m 18 #[.val (.ref a1), .val (.ref a2), .val (.ref a2)] [(.int w5)])) _
    refine XS.aloadN X6.here hx rfl (hb hby d6_18) rfl rfl ?_
    show Steps p.tables e below (T6.setTop (mkF m 19 #[.val (.ref a1), .val (.ref a2), .val (.ref a2)] [(.ref a2), (.int w5)])) _
    refine st8 _ ?_
    show Steps p.tables e below (T8.setTop (mkF m 22 #[.val (.ref a1), .val (.ref a2), .val (.ref a2)] [(.int w7), (.int w5)])) _
    refine XS.icmpNo X8.here hx rfl (hb hby d6_22) rfl (teq hc22).2 ?_
    show Steps p.tables e below (T8.setTop (mkF m 25 #[.val (.ref a1), .val (.ref a2), .val (.ref a2)] [])) _
    refine XS.aloadN X8.here hx rfl (hb hby d6_25) rfl rfl ?_
    show Steps p.tables e below (T8.setTop (mkF m 26 #[.val (.ref a1), .val (.ref a2), .val (.ref a2)] [(.ref a1)])) _
    refine st10 _ ?_
    show Steps p.tables e below (T10.setTop (mkF m 29 #[.val (.ref a1), .val (.ref a2), .val (.ref a2)] [(.ref w9)])) _
    refine XS.aloadN X10.here hx rfl (hb hby d6_29) rfl rfl ?_
    show Steps p.tables e below (T10.setTop (mkF m 30 #[.val (.ref a1), .val (.ref a2), .val (.ref a2)] [(.ref a2), (.ref w9)])) _
    refine st12 _ ?_
    show Steps p.tables e below (T12.setTop (mkF m 33 #[.val (.ref a1), .val (.ref a2), .val (.ref a2)] [(.ref w11), (.ref w9)])) _
    refine Jvm.RoadKit.acmp (g := (mkF m 33 #[.val (.ref a1), .val (.ref a2), .val (.ref a2)] [(.ref w11), (.ref w9)])) X12 hx rfl rfl rfl (pc0 := 33) (pc' := 36) (same := true) rfl (hb hby d6_33) rfl (decide_eq_true (congrArg Value.ref ha33)) (by decide) (by decide) ?_
    show Steps p.tables e below (T12.setTop (mkF m 36 #[.val (.ref a1), .val (.ref a2), .val (.ref a2)] [])) _
    refine XS.aloadN X12.here hx rfl (hb hby d6_36) rfl rfl ?_
    show Steps p.tables e below (T12.setTop (mkF m 37 #[.val (.ref a1), .val (.ref a2), .val (.ref a2)] [(.ref a1)])) _
    refine st14 _ ?_
    show Steps p.tables e below (T14.setTop (mkF m 40 #[.val (.ref a1), .val (.ref a2), .val (.ref a2)] [(.int w13)])) _
    refine XS.aloadN X14.here hx rfl (hb hby d6_40) rfl rfl ?_
    show Steps p.tables e below (T14.setTop (mkF m 41 #[.val (.ref a1), .val (.ref a2), .val (.ref a2)] [(.ref a2), (.int w13)])) _
    refine st16 _ ?_
    show Steps p.tables e below (T16.setTop (mkF m 44 #[.val (.ref a1), .val (.ref a2), .val (.ref a2)] [(.int w15), (.int w13)])) _
    refine XS.icmpNo X16.here hx rfl (hb hby d6_44) rfl (teq hc44).2 ?_
    show Steps p.tables e below (T16.setTop (mkF m 47 #[.val (.ref a1), .val (.ref a2), .val (.ref a2)] [])) _
    refine XS.iconst X16.here hx rfl (hb hby d6_47) ?_
    show Steps p.tables e below (T16.setTop (mkF m 48 #[.val (.ref a1), .val (.ref a2), .val (.ref a2)] [(.int (1 : Int32))])) _
    refine XS.goto X16.here hx rfl (pc0 := 48) (pc' := 52) rfl (hb hby d6_48) (by decide) (by decide) ?_
    show Steps p.tables e below (T16.setTop (mkF m 52 #[.val (.ref a1), .val (.ref a2), .val (.ref a2)] [(.int (1 : Int32))])) _
    exact retN X16 hx (t := .boolean) Bd.returns (by simp) (hb hby d6_52) hr
  · show Q6_tfff Z a1 a2 w5 w7 w9 w11 w13 w15 h0 n0 _ T16.heap _
    rw [e16]
    exact ⟨rfl, N0, rfl⟩
def Q6 (r : Int32) (h0 : Heap) (n0 : Nat) (v : Option Value) (h : Heap) (L : List Loc) : Prop := v = some (.int r) ∧ Fr n0 L ∧ h = h0
theorem rm6_yes (l : Launch) (Z : State) (a0 : Array Value) (hw : ∀ d ∈ tables_1, d.before a0 Z = true) (ws : List Jvm.Cond) (a1 a2 : Addr) (l1 l2 : Int32) (s1 s2 : Addr) (b1 b2 : Int32) (h0 : Heap) (n0 : Nat) (Z0 : n0 ≤ h0.size) (E_a2 : Exa Z h0 a2 "com/example/fieldwright/fieldwright/mater/RecordLabel") (F1a1 : Fld Z h0 a1 "com/example/fieldwright/fieldwright/mater/RecordLabel" "recordLength" "I" (.int l1)) (F2a1 : Fld Z h0 a1 "com/example/fieldwright/fieldwright/mater/RecordLabel" "status" "Lcom/example/fieldwright/fieldwright/mater/RecordLabel$Status;" (.ref s1)) (F3a1 : Fld Z h0 a1 "com/example/fieldwright/fieldwright/mater/RecordLabel" "baseAddress" "I" (.int b1)) (F1a2 : Fld Z h0 a2 "com/example/fieldwright/fieldwright/mater/RecordLabel" "recordLength" "I" (.int l2)) (F2a2 : Fld Z h0 a2 "com/example/fieldwright/fieldwright/mater/RecordLabel" "status" "Lcom/example/fieldwright/fieldwright/mater/RecordLabel$Status;" (.ref s2)) (F3a2 : Fld Z h0 a2 "com/example/fieldwright/fieldwright/mater/RecordLabel" "baseAddress" "I" (.int b2)) (h1 : l1 = l2) (h2 : s1 = s2) (h3 : b1 = b2) :
    MetFree l (⟨"com/example/fieldwright/fieldwright/mater/RecordLabel", "equals", "(Ljava/lang/Object;)Z"⟩ : MethodName) (head1 (Jvm.Cond.code (⟨"com/example/fieldwright/fieldwright/mater/RecordLabel", "equals", "(Ljava/lang/Object;)Z"⟩ : MethodName) prog_26_method_10_code 3 (some .boolean) :: ws) ({ frames := 0, cells := 0, slots := 0, locals := 0 } : Room)) (fun a U => a = #[(.ref a1), (.ref a2)] ∧ Z.Warmed39 U.vm ∧ U.heap = h0) (fun _ _ _ _ _ => True) (fun _ U o U' => ∃ v L, o = .returned v ∧ Q6 1 h0 n0 v U'.heap L ∧ FrameEnd U o U' L ({ frames := 0, cells := 0, slots := 0, locals := 0 } : Room).cells ({ frames := 0, cells := 0, slots := 0, locals := 0 } : Room).slots) := by
  exact rm6_tfff l Z a0 hw ws a1 a2 l1 l2 s1 s2 b1 b2 h0 n0 Z0 E_a2 F1a1 F1a2 F2a1 F2a2 F3a1 F3a2 h1 h2 h3
theorem rm6_no (l : Launch) (Z : State) (a0 : Array Value) (hw : ∀ d ∈ tables_1, d.before a0 Z = true) (ws : List Jvm.Cond) (a1 a2 : Addr) (l1 l2 : Int32) (s1 s2 : Addr) (b1 b2 : Int32) (h0 : Heap) (n0 : Nat) (Z0 : n0 ≤ h0.size) (E_a2 : Exa Z h0 a2 "com/example/fieldwright/fieldwright/mater/RecordLabel") (F1a1 : Fld Z h0 a1 "com/example/fieldwright/fieldwright/mater/RecordLabel" "recordLength" "I" (.int l1)) (F2a1 : Fld Z h0 a1 "com/example/fieldwright/fieldwright/mater/RecordLabel" "status" "Lcom/example/fieldwright/fieldwright/mater/RecordLabel$Status;" (.ref s1)) (F3a1 : Fld Z h0 a1 "com/example/fieldwright/fieldwright/mater/RecordLabel" "baseAddress" "I" (.int b1)) (F1a2 : Fld Z h0 a2 "com/example/fieldwright/fieldwright/mater/RecordLabel" "recordLength" "I" (.int l2)) (F2a2 : Fld Z h0 a2 "com/example/fieldwright/fieldwright/mater/RecordLabel" "status" "Lcom/example/fieldwright/fieldwright/mater/RecordLabel$Status;" (.ref s2)) (F3a2 : Fld Z h0 a2 "com/example/fieldwright/fieldwright/mater/RecordLabel" "baseAddress" "I" (.int b2)) (hne : ¬ (l1 = l2 ∧ s1 = s2 ∧ b1 = b2)) :
    MetFree l (⟨"com/example/fieldwright/fieldwright/mater/RecordLabel", "equals", "(Ljava/lang/Object;)Z"⟩ : MethodName) (head1 (Jvm.Cond.code (⟨"com/example/fieldwright/fieldwright/mater/RecordLabel", "equals", "(Ljava/lang/Object;)Z"⟩ : MethodName) prog_26_method_10_code 3 (some .boolean) :: ws) ({ frames := 0, cells := 0, slots := 0, locals := 0 } : Room)) (fun a U => a = #[(.ref a1), (.ref a2)] ∧ Z.Warmed39 U.vm ∧ U.heap = h0) (fun _ _ _ _ _ => True) (fun _ U o U' => ∃ v L, o = .returned v ∧ Q6 0 h0 n0 v U'.heap L ∧ FrameEnd U o U' L ({ frames := 0, cells := 0, slots := 0, locals := 0 } : Room).cells ({ frames := 0, cells := 0, slots := 0, locals := 0 } : Room).slots) := by
  by_cases h1 : l1 = l2
  · by_cases h2 : s1 = s2
    · exact rm6_tfft l Z a0 hw ws a1 a2 l1 l2 s1 s2 b1 b2 h0 n0 Z0 E_a2 F1a1 F1a2 F2a1 F2a2 F3a1 F3a2 h1 h2 (fun h3 => hne ⟨h1, h2, h3⟩)
    · exact rm6_tft l Z a0 hw ws a1 a2 l1 l2 s1 s2 h0 n0 Z0 E_a2 F1a1 F1a2 F2a1 F2a2 h1 h2
  · exact rm6_tt l Z a0 hw ws a1 a2 l1 l2 h0 n0 Z0 E_a2 F1a1 F1a2 h1
theorem d8_0 : decode jdk_43_method_3_code 0 = .ok (.iload_n 0, 1) := by decide +kernel
theorem d8_1 : decode jdk_43_method_3_code 1 = .ok (.sipush 255, 3) := by decide +kernel
theorem d8_4 : decode jdk_43_method_3_code 4 = .ok (.if_icmp .gt 7, 3) := by decide +kernel
theorem d8_7 : decode jdk_43_method_3_code 7 = .ok (.iconst 1, 1) := by decide +kernel
theorem d8_8 : decode jdk_43_method_3_code 8 = .ok (.goto 4, 3) := by decide +kernel
theorem d8_12 : decode jdk_43_method_3_code 12 = .ok (.ireturn, 1) := by decide +kernel
theorem pn_8 : plainName "java/lang/StringLatin1" = true := by first | (simp [plainName, overriddenIn]; done) | decide +kernel
theorem ef_8 (m : MethodId) (x0 : Int32) : entryFrame m #[(.int x0)] 1 = mkF m 0 #[.val (.int x0)] [] := by first | (simp [entryFrame, mkF, argsToLocals, Value.category]; done) | rfl
def Q8 (Z : State) (p1 : Int32) (h0 : Heap) (n0 : Nat) (v : Option Value) (h : Heap) (L : List Loc) : Prop := v = some (.int (1 : Int32)) ∧ Fr n0 L ∧ h = h0
set_option maxRecDepth 65536 in
set_option maxHeartbeats 40000000 in
theorem rm8 (l : Launch) (Z : State) (a0 : Array Value) (hw : ∀ d ∈ tables_1, d.before a0 Z = true) (ws : List Jvm.Cond) (p1 : Int32) (h0 : Heap) (n0 : Nat) (Z0 : n0 ≤ h0.size) (hc4 : ¬ ((255 : Int32) < p1)) :
    MetFree l (⟨"java/lang/StringLatin1", "canEncode", "(C)Z"⟩ : MethodName) (head1 (Jvm.Cond.code (⟨"java/lang/StringLatin1", "canEncode", "(C)Z"⟩ : MethodName) jdk_43_method_3_code 1 (some .boolean) :: ws) ({ frames := 0, cells := 0, slots := 0, locals := 0 } : Room)) (fun a U => a = #[(.int p1)] ∧ Z.Warmed39 U.vm ∧ U.heap = h0) (fun _ _ _ _ _ => True) (fun _ U o U' => ∃ v L, o = .returned v ∧ Q8 Z p1 h0 n0 v U'.heap L ∧ FrameEnd U o U' L ({ frames := 0, cells := 0, slots := 0, locals := 0 } : Room).cells ({ frames := 0, cells := 0, slots := 0, locals := 0 } : Room).slots) := by
  refine MetFree.of_bodySF (plainFor_of_name pn_8) hisR ?_
  intro p e s m args below meth c s₁ Bd hml0 hP hK
  obtain ⟨rfl, hZ, hh⟩ := hP
  have hx := Bd.exec
  have hby := Bd.bytes
  have hml : c.maxLocals = 1 := hml0
  have hown : s.vm.findClass "java/lang/StringLatin1" = some m.cls := findClass_of_methodNamed Bd.named
  have hnm := (name_of_methodNamed Bd.named Bd.method).1
  have X0 : Stand p l e ({ frames := 0, cells := 0, slots := 0, locals := 0 } : Room) s m #[(.int p1)] below meth c s₁ [] 0 0 := Stand.of_body Bd
  have e0 : s₁.heap = h0 := by rw [← hh, Bd.state]; rfl
  have N0 := Fr.nil n0
  have pre0 : ∀ t, Steps p.tables e below (s₁.setTop (mkF m 0 #[.val (.int p1)] [])) t → Steps p.tables e below (s₁.setTop (entryFrame m #[(.int p1)] 1)) t := fun t k => castTop (ef_8 m p1) k

  obtain ⟨fs, hr, hrun, hended, hW, hsame⟩ := X0.leave (v := some (.int (1 : Int32))) (fun h => by rw [Bd.returns] at h; cases h)
  refine ⟨_, _, pre0 _ ?_, hrun, hended, _, _, rfl, ?_, ⟨_, rfl⟩, hW, hsame.mono (by decide) (by decide)⟩
  · show Steps p.tables e below (s₁.setTop (mkF m 0 #[.val (.int p1)] [])) _
    refine XS.iloadN X0.here hx rfl (hb hby d8_0) rfl ?_
    show Steps p.tables e below (s₁.setTop (mkF m 1 #[.val (.int p1)] [(.int p1)])) _
    refine XS.sipush X0.here hx rfl (hb hby d8_1) ?_
    show Steps p.tables e below (s₁.setTop (mkF m 4 #[.val (.int p1)] [(.int (255 : Int32)), (.int p1)])) _
    refine XS.icmpNo X0.here hx rfl (hb hby d8_4) rfl (flt hc4).2.2.1 ?_
    show Steps p.tables e below (s₁.setTop (mkF m 7 #[.val (.int p1)] [])) _
    refine XS.iconst X0.here hx rfl (hb hby d8_7) ?_
    show Steps p.tables e below (s₁.setTop (mkF m 8 #[.val (.int p1)] [(.int (1 : Int32))])) _
    refine XS.goto X0.here hx rfl (pc0 := 8) (pc' := 12) rfl (hb hby d8_8) (by decide) (by decide) ?_
    show Steps p.tables e below (s₁.setTop (mkF m 12 #[.val (.int p1)] [(.int (1 : Int32))])) _
    exact retN X0 hx (t := .boolean) Bd.returns (by simp) (hb hby d8_12) hr
  · show Q8 Z p1 h0 n0 _ s₁.heap _
    rw [e0]
    exact ⟨rfl, N0, rfl⟩
theorem d9_0 : decode jdk_43_method_46_code 0 = .ok (.iconst 1, 1) := by decide +kernel
theorem d9_1 : decode jdk_43_method_46_code 1 = .ok (.newarray .byte, 2) := by decide +kernel
theorem d9_3 : decode jdk_43_method_46_code 3 = .ok (.dup, 1) := by decide +kernel
theorem d9_4 : decode jdk_43_method_46_code 4 = .ok (.iconst 0, 1) := by decide +kernel
theorem d9_5 : decode jdk_43_method_46_code 5 = .ok (.iload_n 0, 1) := by decide +kernel
theorem d9_6 : decode jdk_43_method_46_code 6 = .ok (.i2b, 1) := by decide +kernel
theorem d9_7 : decode jdk_43_method_46_code 7 = .ok (.bastore, 1) := by decide +kernel
theorem d9_8 : decode jdk_43_method_46_code 8 = .ok (.areturn, 1) := by decide +kernel
theorem pn_9 : plainName "java/lang/StringLatin1" = true := by first | (simp [plainName, overriddenIn]; done) | decide +kernel
theorem ef_9 (m : MethodId) (x0 : Int32) : entryFrame m #[(.int x0)] 1 = mkF m 0 #[.val (.int x0)] [] := by first | (simp [entryFrame, mkF, argsToLocals, Value.category]; done) | rfl
def Q9 (Z : State) (h0 : Heap) (n0 : Nat) (v : Option Value) (h : Heap) (L : List Loc) : Prop := ∃ b : Addr, v = some (.ref b) ∧ Fr n0 L ∧ Keep h0 h []
set_option maxRecDepth 65536 in
set_option maxHeartbeats 40000000 in
theorem rm9 (l : Launch) (Z : State) (a0 : Array Value) (hw : ∀ d ∈ tables_1, d.before a0 Z = true) (ws : List Jvm.Cond) (p1 : Int32) (h0 : Heap) (n0 : Nat) (Z0 : n0 ≤ h0.size) :
    MetFree l (⟨"java/lang/StringLatin1", "toBytes", "(C)[B"⟩ : MethodName) (head1 (Jvm.Cond.code (⟨"java/lang/StringLatin1", "toBytes", "(C)[B"⟩ : MethodName) jdk_43_method_46_code 1 (some (.array .byte)) :: ws) ({ frames := 0, cells := 1, slots := 1, locals := 0 } : Room)) (fun a U => a = #[(.int p1)] ∧ Z.Warmed39 U.vm ∧ U.heap = h0) (fun _ _ _ _ _ => True) (fun _ U o U' => ∃ v L, o = .returned v ∧ Q9 Z h0 n0 v U'.heap L ∧ FrameEnd U o U' L ({ frames := 0, cells := 1, slots := 1, locals := 0 } : Room).cells ({ frames := 0, cells := 1, slots := 1, locals := 0 } : Room).slots) := by
  refine MetFree.of_bodySF (plainFor_of_name pn_9) hisR ?_
  intro p e s m args below meth c s₁ Bd hml0 hP hK
  obtain ⟨rfl, hZ, hh⟩ := hP
  have hx := Bd.exec
  have hby := Bd.bytes
  have hml : c.maxLocals = 1 := hml0
  have hown : s.vm.findClass "java/lang/StringLatin1" = some m.cls := findClass_of_methodNamed Bd.named
  have hnm := (name_of_methodNamed Bd.named Bd.method).1
  have X0 : Stand p l e ({ frames := 0, cells := 1, slots := 1, locals := 0 } : Room) s m #[(.int p1)] below meth c s₁ [] 0 0 := Stand.of_body Bd
  have e0 : s₁.heap = h0 := by rw [← hh, Bd.state]; rfl
  have N0 := Fr.nil n0
  have pre0 : ∀ t, Steps p.tables e below (s₁.setTop (mkF m 0 #[.val (.int p1)] [])) t → Steps p.tables e below (s₁.setTop (entryFrame m #[(.int p1)] 1)) t := fun t k => castTop (ef_9 m p1) k
  obtain ⟨T2, h2, k2, X2, e2, E2, A2, st2⟩ := newP X0 hx hZ (hw _ (List.mem_of_getElem? (i := 21) rfl)) e0 (g := (mkF m 1 #[.val (.int p1)] [(.int (1 : Int32))])) rfl (hb hby d9_1) rfl (by decide) (cap := 1) (by decide) (by decide) (by decide) (by decide)
  obtain ⟨b2, g2⟩ : ∃ z, z = h0.size := ⟨_, rfl⟩
  rw [← g2] at A2 st2
  have V_b2 : Arv Z h2 b2 k2 .byte (1 : Int32) [(.int (0 : Int32))] (.int (0 : Int32)) := (Arv.new A2 (by decide)).pad (pad_rep [] (.int (0 : Int32)) 1)
  have g_b2 : n0 ≤ b2 := Nat.le_trans Z0 (Nat.le_of_eq g2.symm)
  have sz_b2 : h0.size ≤ b2 := (Nat.le_trans (Keep.refl h0 []).1 (Nat.le_of_eq g2.symm))
  have K2 : Keep h0 h2 [] := (Keep.refl h0 []).ext E2
  obtain ⟨cl_b2_7, Ar_b2, q_b2, S_b2, N_b2, H_b2, G_b2⟩ := V_b2
  have hin7 : ¬ ((0 : Int32) < 0 ∨ cl_b2_7.slots.size ≤ ((0 : Int32)).toNatClampNeg) := inb_of S_b2 ⟨by decide, by decide⟩
  obtain ⟨T3, h3, X3, e3, W3, st3⟩ := stB X2 hx hZ e2 Ar_b2 (j := (0 : Int32)) hin7 (g := (mkF m 7 #[.val (.int p1)] [(.int (p1.toInt8.toInt32)), (.int (0 : Int32)), (.ref b2), (.ref b2)])) rfl rfl (hb hby d9_7)
  have V_b2_3 : Arv Z h3 b2 k2 .byte (1 : Int32) [(.int ((p1.toInt8.toInt32).toInt8.toInt32))] (.int (0 : Int32)) := Arv.set Ar_b2 q_b2 S_b2 N_b2 H_b2 G_b2 (fits_nar_byte _) W3 0 rfl (Nat.le_of_ble_eq_true rfl)
  have K3 : Keep h0 h3 [] := K2.wr W3 (Or.inr sz_b2)
  have N3 := Fr.snoc X3 N0 g_b2
  obtain ⟨fs, hr, hrun, hended, hW, hsame⟩ := X3.leave (v := some (.ref b2)) (fun h => by rw [Bd.returns] at h; cases h)
  refine ⟨_, _, pre0 _ ?_, hrun, hended, _, _, rfl, ?_, ⟨_, rfl⟩, hW, hsame.mono (by decide) (by decide)⟩
  · show Steps p.tables e below (s₁.setTop (mkF m 0 #[.val (.int p1)] [])) _
    refine XS.iconst X0.here hx rfl (hb hby d9_0) ?_
    show Steps p.tables e below (s₁.setTop (mkF m 1 #[.val (.int p1)] [(.int (1 : Int32))])) _
    refine st2 _ ?_
    show Steps p.tables e below (T2.setTop (mkF m 3 #[.val (.int p1)] [(.ref b2)])) _
    refine XS.dup X2.here hx rfl (hb hby d9_3) rfl rfl ?_
    show Steps p.tables e below (T2.setTop (mkF m 4 #[.val (.int p1)] [(.ref b2), (.ref b2)])) _
    refine XS.iconst X2.here hx rfl (hb hby d9_4) ?_
    show Steps p.tables e below (T2.setTop (mkF m 5 #[.val (.int p1)] [(.int (0 : Int32)), (.ref b2), (.ref b2)])) _
    refine XS.iloadN X2.here hx rfl (hb hby d9_5) rfl ?_
    show Steps p.tables e below (T2.setTop (mkF m 6 #[.val (.int p1)] [(.int p1), (.int (0 : Int32)), (.ref b2), (.ref b2)])) _
    refine XS.i2b X2.here hx rfl (hb hby d9_6) rfl ?_
    show Steps p.tables e below (T2.setTop (mkF m 7 #[.val (.int p1)] [(.int (p1.toInt8.toInt32)), (.int (0 : Int32)), (.ref b2), (.ref b2)])) _
    refine st3 _ ?_
    show Steps p.tables e below (T3.setTop (mkF m 8 #[.val (.int p1)] [(.ref b2)])) _
    jvm_step X3.here [X3.here.top, hx, (hb hby d9_8), X3.method', Bd.returns, Value.isRef, FieldType.isReference]
    first | (intro acts; rw [hr _ acts rfl rfl rfl]) | rw [hr _ _ rfl rfl rfl]
    exact Steps.refl _
  · show Q9 Z h0 n0 _ T3.heap _
    rw [e3]
    exact ⟨_, rfl, N3, K3⟩
theorem d10_0 : decode jdk_42_method_151_code 0 = .ok (.aload_n 0, 1) := by decide +kernel
theorem d10_1 : decode jdk_42_method_151_code 1 = .ok (.invokespecial 1, 3) := by decide +kernel
theorem d10_4 : decode jdk_42_method_151_code 4 = .ok (.aload_n 0, 1) := by decide +kernel
theorem d10_5 : decode jdk_42_method_151_code 5 = .ok (.aload_n 1, 1) := by decide +kernel
theorem d10_6 : decode jdk_42_method_151_code 6 = .ok (.putfield 9, 3) := by decide +kernel
theorem d10_9 : decode jdk_42_method_151_code 9 = .ok (.aload_n 0, 1) := by decide +kernel
theorem d10_10 : decode jdk_42_method_151_code 10 = .ok (.iload_n 2, 1) := by decide +kernel
theorem d10_11 : decode jdk_42_method_151_code 11 = .ok (.putfield 15, 3) := by decide +kernel
theorem d10_14 : decode jdk_42_method_151_code 14 = .ok (.return_, 1) := by decide +kernel
theorem pn_10 : plainName "java/lang/String" = true := by first | (simp [plainName, overriddenIn]; done) | decide +kernel
theorem ef_10 (m : MethodId) (x0 : Addr) (x1 : Addr) (x2 : Int32) : entryFrame m #[(.ref x0), (.ref x1), (.int x2)] 3 = mkF m 0 #[.val (.ref x0), .val (.ref x1), .val (.int x2)] [] := by first | (simp [entryFrame, mkF, argsToLocals, Value.category]; done) | rfl
def Q10 (Z : State) (a1 : Addr) (h0 : Heap) (n0 : Nat) (v : Option Value) (h : Heap) (L : List Loc) : Prop := v = none ∧ Fr n0 L ∧ Keep h0 h [a1]
set_option maxRecDepth 65536 in
set_option maxHeartbeats 40000000 in
theorem rm10 (l : Launch) (Z : State) (a0 : Array Value) (hw : ∀ d ∈ tables_1, d.before a0 Z = true) (ws : List Jvm.Cond) (a1 : Addr) (a2 : Addr) (p3 : Int32) (u_value_a1 : Value) (u_coder_a1 : Value) (h0 : Heap) (n0 : Nat) (Z0 : n0 ≤ h0.size) (E_a1 : Exa Z h0 a1 "java/lang/String") (F_value_a1 : Fld Z h0 a1 "java/lang/String" "value" "[B" u_value_a1) (g_a1 : n0 ≤ a1) (F_coder_a1 : Fld Z h0 a1 "java/lang/String" "coder" "B" u_coder_a1) :
    MetFree l (⟨"java/lang/String", "<init>", "([BB)V"⟩ : MethodName) (head1 (Jvm.Cond.code (⟨"java/lang/String", "<init>", "([BB)V"⟩ : MethodName) jdk_42_method_151_code 3 none :: ws) ({ frames := 1, cells := 0, slots := 0, locals := 12 } : Room)) (fun a U => a = #[(.ref a1), (.ref a2), (.int p3)] ∧ Z.Warmed39 U.vm ∧ U.heap = h0) (fun _ _ _ _ _ => True) (fun _ U o U' => ∃ v L, o = .returned v ∧ Q10 Z a1 h0 n0 v U'.heap L ∧ FrameEnd U o U' L ({ frames := 1, cells := 0, slots := 0, locals := 12 } : Room).cells ({ frames := 1, cells := 0, slots := 0, locals := 12 } : Room).slots) := by
  refine MetFree.of_bodySF (plainFor_of_name pn_10) hisR ?_
  intro p e s m args below meth c s₁ Bd hml0 hP hK
  obtain ⟨rfl, hZ, hh⟩ := hP
  have hx := Bd.exec
  have hby := Bd.bytes
  have hml : c.maxLocals = 3 := hml0
  have hown : s.vm.findClass "java/lang/String" = some m.cls := findClass_of_methodNamed Bd.named
  have hnm := (name_of_methodNamed Bd.named Bd.method).1
  have X0 : Stand p l e ({ frames := 1, cells := 0, slots := 0, locals := 12 } : Room) s m #[(.ref a1), (.ref a2), (.int p3)] below meth c s₁ [] 0 0 := Stand.of_body Bd
  have e0 : s₁.heap = h0 := by rw [← hh, Bd.state]; rfl
  have N0 := Fr.nil n0
  have pre0 : ∀ t, Steps p.tables e below (s₁.setTop (mkF m 0 #[.val (.ref a1), .val (.ref a2), .val (.int p3)] [])) t → Steps p.tables e below (s₁.setTop (entryFrame m #[(.ref a1), (.ref a2), (.int p3)] 3)) t := fun t k => castTop (ef_10 m a1 a2 p3) k
  obtain ⟨T4, X4, e4, st4⟩ := initO X0 hx hZ hown (hw _ (List.mem_of_getElem? (i := 73) rfl)) (hw _ (List.mem_of_getElem? (i := 16) rfl)) (hw _ (List.mem_of_getElem? (i := 17) rfl)) e0 (g := (mkF m 1 #[.val (.ref a1), .val (.ref a2), .val (.int p3)] [(.ref a1)])) rfl (by rw [hml]; rfl) rfl (hb hby d10_1) (by decide) (W := 0) (by show 2 * 0 + _ ≤ _; exact Nat.le_of_eq rfl) (by decide)
  obtain ⟨T5, h5, X5, e5, W5, st5⟩ := putF X4 hx hZ hown (host := "") (Or.inl (hw _ (List.mem_of_getElem? (i := 74) rfl))) Via.refl e4 F_value_a1 E_a1 (Or.inr ⟨(hw _ (List.mem_of_getElem? (i := 22) rfl)), rfl, hnm⟩) (hw _ (List.mem_of_getElem? (i := 20) rfl)) (ty := (.array .byte)) (by decide) rfl rfl (g := (mkF m 6 #[.val (.ref a1), .val (.ref a2), .val (.int p3)] [(.ref a2), (.ref a1)])) rfl rfl (hb hby d10_6)
  have Fw5 := F_value_a1.same W5
  have K5 : Keep h0 h5 [a1] := (Keep.refl h0 [a1]).wr W5 (Or.inl (List.mem_of_getElem? (i := 0) rfl))
  have N5 := Fr.snoc X5 N0 g_a1
  obtain ⟨T6, h6, X6, e6, W6, st6⟩ := putFN X5 hx hZ hown (hw _ (List.mem_of_getElem? (i := 75) rfl)) Via.refl e5 (F_coder_a1.other W5 (Or.inr (slot_ne (Or.inr (hw _ (List.mem_of_getElem? (i := 23) rfl))) (Or.inr (hw _ (List.mem_of_getElem? (i := 22) rfl))) (by decide) (t := .byte) (t' := (.array .byte)) (by decide) (by decide)))) (E_a1.wr W5) (Or.inr ⟨(hw _ (List.mem_of_getElem? (i := 23) rfl)), rfl, hnm⟩) (hw _ (List.mem_of_getElem? (i := 20) rfl)) (ty := .byte) (v' := .int p3.toInt8.toInt32) (by decide) rfl (fits_nar_byte _) (g := (mkF m 11 #[.val (.ref a1), .val (.ref a2), .val (.int p3)] [(.int p3), (.ref a1)])) rfl rfl (hb hby d10_11)
  have Fw6 := (F_coder_a1.other W5 (Or.inr (slot_ne (Or.inr (hw _ (List.mem_of_getElem? (i := 23) rfl))) (Or.inr (hw _ (List.mem_of_getElem? (i := 22) rfl))) (by decide) (t := .byte) (t' := (.array .byte)) (by decide) (by decide)))).same W6
  have K6 : Keep h0 h6 [a1] := K5.wr W6 (Or.inl (List.mem_of_getElem? (i := 0) rfl))
  have N6 := Fr.snoc X6 N5 g_a1
  obtain ⟨fs, hr, hrun, hended, hW, hsame⟩ := X6.leave (v := none) (fun _ => rfl)
  refine ⟨_, _, pre0 _ ?_, hrun, hended, _, _, rfl, ?_, ⟨_, rfl⟩, hW, hsame.mono (by decide) (by decide)⟩
  · show Steps p.tables e below (s₁.setTop (mkF m 0 #[.val (.ref a1), .val (.ref a2), .val (.int p3)] [])) _
    refine XS.aloadN X0.here hx rfl (hb hby d10_0) rfl rfl ?_
    show Steps p.tables e below (s₁.setTop (mkF m 1 #[.val (.ref a1), .val (.ref a2), .val (.int p3)] [(.ref a1)])) _
    refine st4 _ ?_
    show Steps p.tables e below (T4.setTop (mkF m 4 #[.val (.ref a1), .val (.ref a2), .val (.int p3)] [])) _
    refine XS.aloadN X4.here hx rfl (hb hby d10_4) rfl rfl ?_
    show Steps p.tables e below (T4.setTop (mkF m 5 #[.val (.ref a1), .val (.ref a2), .val (.int p3)] [(.ref a1)])) _
    refine XS.aloadN X4.here hx rfl (hb hby d10_5) rfl rfl ?_
    show Steps p.tables e below (T4.setTop (mkF m 6 #[.val (.ref a1), .val (.ref a2), .val (.int p3)] [(.ref a2), (.ref a1)])) _
    refine st5 _ ?_
    show Steps p.tables e below (T5.setTop (mkF m 9 #[.val (.ref a1), .val (.ref a2), .val (.int p3)] [])) _
    refine XS.aloadN X5.here hx rfl (hb hby d10_9) rfl rfl ?_
    show Steps p.tables e below (T5.setTop (mkF m 10 #[.val (.ref a1), .val (.ref a2), .val (.int p3)] [(.ref a1)])) _
    refine XS.iloadN X5.here hx rfl (hb hby d10_10) rfl ?_
    show Steps p.tables e below (T5.setTop (mkF m 11 #[.val (.ref a1), .val (.ref a2), .val (.int p3)] [(.int p3), (.ref a1)])) _
    refine st6 _ ?_
    show Steps p.tables e below (T6.setTop (mkF m 14 #[.val (.ref a1), .val (.ref a2), .val (.int p3)] [])) _
    exact X6.returnOut hx Bd.returns (hb hby d10_14) hr
  · show Q10 Z a1 h0 n0 _ T6.heap _
    rw [e6]
    exact ⟨rfl, N6, K6⟩
theorem d7_0 : decode jdk_42_method_139_code 0 = .ok (.getstatic 38, 3) := by decide +kernel
theorem d7_3 : decode jdk_42_method_139_code 3 = .ok (.ifCond .eq 23, 3) := by decide +kernel
theorem d7_6 : decode jdk_42_method_139_code 6 = .ok (.iload_n 0, 1) := by decide +kernel
theorem d7_7 : decode jdk_42_method_139_code 7 = .ok (.invokestatic 1015, 3) := by decide +kernel
theorem d7_10 : decode jdk_42_method_139_code 10 = .ok (.ifCond .eq 16, 3) := by decide +kernel
theorem d7_13 : decode jdk_42_method_139_code 13 = .ok (.new 10, 3) := by decide +kernel
theorem d7_16 : decode jdk_42_method_139_code 16 = .ok (.dup, 1) := by decide +kernel
theorem d7_17 : decode jdk_42_method_139_code 17 = .ok (.iload_n 0, 1) := by decide +kernel
theorem d7_18 : decode jdk_42_method_139_code 18 = .ok (.invokestatic 1018, 3) := by decide +kernel
theorem d7_21 : decode jdk_42_method_139_code 21 = .ok (.iconst 0, 1) := by decide +kernel
theorem d7_22 : decode jdk_42_method_139_code 22 = .ok (.invokespecial 209, 3) := by decide +kernel
theorem d7_25 : decode jdk_42_method_139_code 25 = .ok (.areturn, 1) := by decide +kernel
theorem pn_7 : plainName "java/lang/String" = true := by first | (simp [plainName, overriddenIn]; done) | decide +kernel
theorem pd_7_7 : parseMethodDescriptor "(C)Z" = some ⟨[.char], some .boolean⟩ := by decide +kernel
theorem pd_7_8 : parseMethodDescriptor "(C)[B" = some ⟨[.char], some (.array .byte)⟩ := by decide +kernel
theorem pd_7_9 : parseMethodDescriptor "([BB)V" = some ⟨[(.array .byte), .byte], none⟩ := by decide +kernel
theorem ef_7 (m : MethodId) (x0 : Int32) : entryFrame m #[(.int x0)] 1 = mkF m 0 #[.val (.int x0)] [] := by first | (simp [entryFrame, mkF, argsToLocals, Value.category]; done) | rfl
def Q7 (Z : State) (h0 : Heap) (n0 : Nat) (v : Option Value) (h : Heap) (L : List Loc) : Prop := ∃ b : Addr, v = some (.ref b) ∧ Fr n0 L ∧ Keep h0 h [] ∧ Exa Z h b "java/lang/String"
set_option maxRecDepth 65536 in
set_option maxHeartbeats 40000000 in
theorem rm7 (l : Launch) (Z : State) (a0 : Array Value) (hw : ∀ d ∈ tables_1, d.before a0 Z = true) (ws : List Jvm.Cond) (p1 : Int32) (w2 : Int32) (h0 : Heap) (n0 : Nat) (Z0 : n0 ≤ h0.size) (hp : ¬ ((255 : Int32) < p1)) (S_COMPACT_STRINGS : Sta Z h0 "java/lang/String" "COMPACT_STRINGS" "Z" (.int w2)) (hc3 : ¬ (w2 = (0 : Int32))) :
    MetFree l (⟨"java/lang/String", "valueOf", "(C)Ljava/lang/String;"⟩ : MethodName) (head1 (Jvm.Cond.code (⟨"java/lang/String", "valueOf", "(C)Ljava/lang/String;"⟩ : MethodName) jdk_42_method_139_code 1 (some (.object "java/lang/String")) :: ws) ({ frames := 2, cells := 2, slots := 5, locals := 27 } : Room)) (fun a U => a = #[(.int p1)] ∧ Z.Warmed39 U.vm ∧ U.heap = h0) (fun _ _ _ _ _ => True) (fun _ U o U' => ∃ v L, o = .returned v ∧ Q7 Z h0 n0 v U'.heap L ∧ FrameEnd U o U' L ({ frames := 2, cells := 2, slots := 5, locals := 27 } : Room).cells ({ frames := 2, cells := 2, slots := 5, locals := 27 } : Room).slots) := by
  refine MetFree.of_bodySF (plainFor_of_name pn_7) hisR ?_
  intro p e s m args below meth c s₁ Bd hml0 hP hK
  obtain ⟨rfl, hZ, hh⟩ := hP
  have hx := Bd.exec
  have hby := Bd.bytes
  have hml : c.maxLocals = 1 := hml0
  have hown : s.vm.findClass "java/lang/String" = some m.cls := findClass_of_methodNamed Bd.named
  have hnm := (name_of_methodNamed Bd.named Bd.method).1
  have X0 : Stand p l e ({ frames := 2, cells := 2, slots := 5, locals := 27 } : Room) s m #[(.int p1)] below meth c s₁ [] 0 0 := Stand.of_body Bd
  have e0 : s₁.heap = h0 := by rw [← hh, Bd.state]; rfl
  have N0 := Fr.nil n0
  have pre0 : ∀ t, Steps p.tables e below (s₁.setTop (mkF m 0 #[.val (.int p1)] [])) t → Steps p.tables e below (s₁.setTop (entryFrame m #[(.int p1)] 1)) t := fun t k => castTop (ef_7 m p1) k
  obtain ⟨T3, X3, e3, st3⟩ := getS2 X0 hx hZ hown (host := "") (Or.inl (hw _ (List.mem_of_getElem? (i := 60) rfl))) Via.refl e0 S_COMPACT_STRINGS (g := (mkF m 0 #[.val (.int p1)] [])) rfl (hb hby d7_0)
  obtain ⟨_, _, ⟨T4, L4, k4, n4⟩, -, X4, ⟨Lc4, hQ4, l4, y4, z4⟩, st4⟩ := Jvm.LawKit.callS X3 hx (y := (⟨"java/lang/StringLatin1", "canEncode", "(C)Z"⟩ : MethodName)) hown (mvT hZ (hw _ (List.mem_of_getElem? (i := 61) rfl))) (mvT hZ (hw _ (List.mem_of_getElem? (i := 62) rfl))) (mvT hZ (hw _ (List.mem_of_getElem? (i := 63) rfl))) (mvT hZ (hw _ (List.mem_of_getElem? (i := 64) rfl))) (by decide) (backOf (W := 0) (rm8 l Z a0 hw [] p1 h0 n0 Z0 hp) hZ (hw _ (List.mem_of_getElem? (i := 64) rfl)) (hw _ (List.mem_of_getElem? (i := 63) rfl)) (by decide) (by decide)) (g := (mkF m 7 #[.val (.int p1)] [(.int p1)])) rfl (by rw [hml]; rfl) (argsL := [(.int p1)]) (rest := []) (lenOf pd_7_7 rfl) rfl (by show 2 * 0 + _ ≤ _; exact Nat.le_of_eq rfl) (hb hby d7_7) (fun _ _ => ⟨rfl, e3, (by decide : 0 + 0 ≤ _), (by decide : 0 + 0 ≤ _)⟩)
  dsimp only [Pt.U, Pt.locs, Pt.cells, Pt.slots] at X4 l4 y4 z4 st4 hQ4
  subst l4 y4 z4
  obtain ⟨rfl, N4q, eq4⟩ := hQ4
  have N4 := Fr.app N0 N4q
  obtain ⟨T5, h5, X5, e5, E5, A5, D5, -, st5⟩ := newO X4 hx hZ hown (hw _ (List.mem_of_getElem? (i := 65) rfl)) (hw _ (List.mem_of_getElem? (i := 20) rfl)) (hw _ (List.mem_of_getElem? (i := 19) rfl)) eq4 (g := (mkF m 13 #[.val (.int p1)] [])) rfl (hb hby d7_13) (by decide) (by decide)
  obtain ⟨b5, g5⟩ : ∃ z, z = h0.size := ⟨_, rfl⟩
  rw [← g5] at A5 D5 st5
  have F_value_b5 : Fld Z h5 b5 "java/lang/String" "value" "[B" .null := D5 (Or.inr (hw _ (List.mem_of_getElem? (i := 22) rfl))) (ty := (.array .byte)) (by decide)
  have F_coder_b5 : Fld Z h5 b5 "java/lang/String" "coder" "B" (.int (0 : Int32)) := D5 (Or.inr (hw _ (List.mem_of_getElem? (i := 23) rfl))) (ty := .byte) (by decide)
  have E_b5 := A5
  have g_b5 : n0 ≤ b5 := Nat.le_trans Z0 (Nat.le_of_eq g5.symm)
  have sz_b5 : h0.size ≤ b5 := (Nat.le_trans (Keep.refl h0 []).1 (Nat.le_of_eq g5.symm))
  have K5 : Keep h0 h5 [] := (Keep.refl h0 []).ext E5
  obtain ⟨_, _, ⟨T6, L6, k6, n6⟩, -, X6, ⟨Lc6, hQ6, l6, y6, z6⟩, st6⟩ := Jvm.LawKit.callS X5 hx (y := (⟨"java/lang/StringLatin1", "toBytes", "(C)[B"⟩ : MethodName)) hown (mvT hZ (hw _ (List.mem_of_getElem? (i := 66) rfl))) (mvT hZ (hw _ (List.mem_of_getElem? (i := 67) rfl))) (mvT hZ (hw _ (List.mem_of_getElem? (i := 63) rfl))) (mvT hZ (hw _ (List.mem_of_getElem? (i := 68) rfl))) (by decide) (backOf (W := 2) (rm9 l Z a0 hw [] p1 h5 n0 (Nat.le_trans Z0 K5.1)) hZ (hw _ (List.mem_of_getElem? (i := 68) rfl)) (hw _ (List.mem_of_getElem? (i := 63) rfl)) (by decide) (by decide)) (g := (mkF m 18 #[.val (.int p1)] [(.int p1), (.ref b5), (.ref b5)])) rfl (by rw [hml]; rfl) (argsL := [(.int p1)]) (rest := [(.ref b5), (.ref b5)]) (lenOf pd_7_8 rfl) rfl (by show 2 * 0 + _ ≤ _; exact Nat.le_of_eq rfl) (hb hby d7_18) (fun _ _ => ⟨rfl, e5, (by decide : 1 + 1 ≤ _), (by decide : 4 + 1 ≤ _)⟩)
  dsimp only [Pt.U, Pt.locs, Pt.cells, Pt.slots] at X6 l6 y6 z6 st6 hQ6
  subst l6 y6 z6
  obtain ⟨bB, rfl, N6q, Kq6⟩ := hQ6
  have K6 : Keep h0 T6.heap [] := K5.trans Kq6 (fun x hx => nomatch hx)
  have N6 := Fr.app N4 N6q
  obtain ⟨_, _, ⟨T7, L7, k7, n7⟩, -, X7, ⟨Lc7, hQ7, l7, y7, z7⟩, st7⟩ := X6.specialBack hx (y := (⟨"java/lang/String", "<init>", "([BB)V"⟩ : MethodName)) rfl hown (mvT hZ (hw _ (List.mem_of_getElem? (i := 69) rfl))) (mvT hZ (hw _ (List.mem_of_getElem? (i := 70) rfl))) (mvT hZ (hw _ (List.mem_of_getElem? (i := 72) rfl))) (by decide) (backOf (W := 1) (rm10 l Z a0 hw [] b5 bB (0 : Int32) .null (.int (0 : Int32)) T6.heap n0 (Nat.le_trans Z0 K6.1) (E_b5.keep Kq6) (F_value_b5.keep Kq6 List.not_mem_nil) g_b5 (F_coder_b5.keep Kq6 List.not_mem_nil)) hZ (hw _ (List.mem_of_getElem? (i := 72) rfl)) (hw _ (List.mem_of_getElem? (i := 19) rfl)) (by decide) (by decide)) (g := (mkF m 22 #[.val (.int p1)] [(.int (0 : Int32)), (.ref bB), (.ref b5), (.ref b5)])) rfl (by rw [hml]; rfl) (Steps.refl _) (a := b5) (argsL := [(.ref bB), (.int (0 : Int32))]) (rest := [(.ref b5)]) (lenOf pd_7_9 rfl) rfl (by show 2 * 0 + _ ≤ _; exact Nat.le_of_eq rfl) (hb hby d7_22) (fun _ _ => ⟨rfl, rfl, (by decide : 2 + 0 ≤ _), (by decide : 5 + 0 ≤ _)⟩)
  dsimp only [Pt.U, Pt.locs, Pt.cells, Pt.slots] at X7 l7 y7 z7 st7 hQ7
  subst l7 y7 z7
  obtain ⟨rfl, N7q, Kq7⟩ := hQ7
  have K7 : Keep h0 T7.heap [] := K6.trans Kq7 (fun x hx => by cases List.mem_singleton.mp hx; exact Or.inr sz_b5)
  have N7 := Fr.app N6 N7q
  obtain ⟨fs, hr, hrun, hended, hW, hsame⟩ := X7.leave (v := some (.ref b5)) (fun h => by rw [Bd.returns] at h; cases h)
  refine ⟨_, _, pre0 _ ?_, hrun, hended, _, _, rfl, ?_, ⟨_, rfl⟩, hW, hsame.mono (by decide) (by decide)⟩
  · show Steps p.tables e below (s₁.setTop (mkF m 0 #[.val (.int p1)] [])) _
    refine st3 _ ?_
    show Steps p.tables e below (T3.setTop (mkF m 3 #[.val (.int p1)] [(.int w2)])) _
    refine XS.ifNo X3.here hx rfl (hb hby d7_3) rfl ((if0 _ _).trans (feq hc3).1) ?_
    show Steps p.tables e below (T3.setTop (mkF m 6 #[.val (.int p1)] [])) _
    refine XS.iloadN X3.here hx rfl (hb hby d7_6) rfl ?_
    show Steps p.tables e below (T3.setTop (mkF m 7 #[.val (.int p1)] [(.int p1)])) _
    refine st4 _ ?_
    show Steps p.tables e below (T4.setTop (mkF m 10 #[.val (.int p1)] [(.int (1 : Int32))])) _
    refine XS.ifNo X4.here hx rfl (hb hby d7_10) rfl ((if0 _ _).trans (feq (by decide : ¬ ((1 : Int32) = (0 : Int32)))).1) ?_
    show Steps p.tables e below (T4.setTop (mkF m 13 #[.val (.int p1)] [])) _
    refine st5 _ ?_
    show Steps p.tables e below (T5.setTop (mkF m 16 #[.val (.int p1)] [(.ref b5)])) _
    refine XS.dup X5.here hx rfl (hb hby d7_16) rfl rfl ?_
    show Steps p.tables e below (T5.setTop (mkF m 17 #[.val (.int p1)] [(.ref b5), (.ref b5)])) _
    refine XS.iloadN X5.here hx rfl (hb hby d7_17) rfl ?_
    show Steps p.tables e below (T5.setTop (mkF m 18 #[.val (.int p1)] [(.int p1), (.ref b5), (.ref b5)])) _
    refine st6 _ ?_
    show Steps p.tables e below (T6.setTop (mkF m 21 #[.val (.int p1)] [(.ref bB), (.ref b5), (.ref b5)])) _
    refine XS.iconst X6.here hx rfl (hb hby d7_21) ?_
    show Steps p.tables e below (T6.setTop (mkF m 22 #[.val (.int p1)] [(.int (0 : Int32)), (.ref bB), (.ref b5), (.ref b5)])) _
    refine st7.trans ?_
    show Steps p.tables e below (T7.setTop (mkF m 25 #[.val (.int p1)] [(.ref b5)])) _
    jvm_step X7.here [X7.here.top, hx, (hb hby d7_25), X7.method', Bd.returns, Value.isRef, FieldType.isReference]
    first | (intro acts; rw [hr _ acts rfl rfl rfl]) | rw [hr _ _ rfl rfl rfl]
    exact Steps.refl _
  · show Q7 Z h0 n0 _ T7.heap _
    exact ⟨b5, rfl, N7, K7, (E_b5.keep Kq6).keep Kq7⟩
theorem os0_37_seg18_t {z0 : Value} {z1 : Value} {z2 : Value} {z3 : Value} {z4 : Value} {z5 : Value} {z6 : Value} {z7 : Value} {s8 : Slot} {s9 : Slot} {s10 : Slot} {s11 : Slot} {s12 : Slot} {s13 : Slot} {s14 : Slot} {s15 : Slot} {v : Int32} (h : One s8) : storeLocals #[.val z0, .val z1, .val z2, .val z3, .val z4, .val z5, .val z6, .val z7, s8, s9, s10, s11, s12, s13, s14, s15] 8 (.int v) = some #[.val z0, .val z1, .val z2, .val z3, .val z4, .val z5, .val z6, .val z7, .val (.int v), s9, s10, s11, s12, s13, s14, s15] := by
  rcases h with rfl | ⟨w, rfl, hw⟩
  · rfl
  · cases w <;> first | rfl | (simp [Value.category] at hw)
set_option maxRecDepth 65536 in
set_option maxHeartbeats 40000000 in
theorem seg18_t {p : Program} {l : Launch} {e : Env} {R : Room} {s : State} {m : MethodId} {args : Array Value} {below : List Frame} {meth : Method} {c : Code} {T0 : State} {locs : List Loc} {cells slots : Nat} {Z : State} {a0 : Array Value} {h0 : Heap} (i0 : Int32) (i1 : Int32) (i2 : Int32) (i3 : Int32) (i4 : Int32) (i5 : Int32) (i6 : Int32) (i7 : Int32) (s8 : Slot) (s9 : Slot) (s10 : Slot) (s11 : Slot) (s12 : Slot) (s13 : Slot) (s14 : Slot) (s15 : Slot)
    (X0 : Stand p l e R s m args below meth c T0 locs cells slots) (hx : p.tables.exec = Jvm.exec) (hZ : Z.Warmed39 s.vm) (hw : ∀ d ∈ tables_1, d.before a0 Z = true) (hby : c.code = code) (hml : c.maxLocals = 16) (hown : s.vm.findClass "com/example/fieldwright/fieldwright/mater/RecordLabelEqualsPinLaw" = some m.cls) (e0 : T0.heap = h0) (hs8 : One s8) (hc22 : (i5 &&& (1 : Int32)) = (0 : Int32)) :
    ∀ target, Steps p.tables e below (T0.setTop (mkF m 39 #[.val (.int i0), .val (.int i1), .val (.int i2), .val (.int i3), .val (.int i4), .val (.int i5), .val (.int i6), .val (.int i7), .val (.int ((i2 &&& (2147483647 : Int32)) % (100000 : Int32))), s9, s10, s11, s12, s13, s14, s15] [])) target → Steps p.tables e below (T0.setTop (mkF m 18 #[.val (.int i0), .val (.int i1), .val (.int i2), .val (.int i3), .val (.int i4), .val (.int i5), .val (.int i6), .val (.int i7), s8, s9, s10, s11, s12, s13, s14, s15] [])) target := by

  intro target kt
  show Steps p.tables e below (T0.setTop (mkF m 18 #[.val (.int i0), .val (.int i1), .val (.int i2), .val (.int i3), .val (.int i4), .val (.int i5), .val (.int i6), .val (.int i7), s8, s9, s10, s11, s12, s13, s14, s15] [])) _
  refine XS.iload X0.here hx rfl (hb hby at_18) rfl ?_
  show Steps p.tables e below (T0.setTop (mkF m 20 #[.val (.int i0), .val (.int i1), .val (.int i2), .val (.int i3), .val (.int i4), .val (.int i5), .val (.int i6), .val (.int i7), s8, s9, s10, s11, s12, s13, s14, s15] [(.int i5)])) _
  refine XS.iconst X0.here hx rfl (hb hby at_20) ?_
  show Steps p.tables e below (T0.setTop (mkF m 21 #[.val (.int i0), .val (.int i1), .val (.int i2), .val (.int i3), .val (.int i4), .val (.int i5), .val (.int i6), .val (.int i7), s8, s9, s10, s11, s12, s13, s14, s15] [(.int (1 : Int32)), (.int i5)])) _
  refine XS.iand X0.here hx rfl (hb hby at_21) rfl ?_
  show Steps p.tables e below (T0.setTop (mkF m 22 #[.val (.int i0), .val (.int i1), .val (.int i2), .val (.int i3), .val (.int i4), .val (.int i5), .val (.int i6), .val (.int i7), s8, s9, s10, s11, s12, s13, s14, s15] [(.int (i5 &&& (1 : Int32)))])) _
  refine XS.ifYes X0.here hx rfl (pc0 := 22) (pc' := 30) rfl (hb hby at_22) rfl ((if0 _ _).trans (teq hc22).1) (by decide) (by decide) ?_
  show Steps p.tables e below (T0.setTop (mkF m 30 #[.val (.int i0), .val (.int i1), .val (.int i2), .val (.int i3), .val (.int i4), .val (.int i5), .val (.int i6), .val (.int i7), s8, s9, s10, s11, s12, s13, s14, s15] [])) _
  refine XS.iloadN X0.here hx rfl (hb hby at_30) rfl ?_
  show Steps p.tables e below (T0.setTop (mkF m 31 #[.val (.int i0), .val (.int i1), .val (.int i2), .val (.int i3), .val (.int i4), .val (.int i5), .val (.int i6), .val (.int i7), s8, s9, s10, s11, s12, s13, s14, s15] [(.int i2)])) _
  refine X0.ldcInt hx hown (mvT hZ (hw _ (List.mem_of_getElem? (i := 0) rfl))) (g := (mkF m 31 #[.val (.int i0), .val (.int i1), .val (.int i2), .val (.int i3), .val (.int i4), .val (.int i5), .val (.int i6), .val (.int i7), s8, s9, s10, s11, s12, s13, s14, s15] [(.int i2)])) rfl (hb hby at_31) _ ?_
  show Steps p.tables e below (T0.setTop (mkF m 33 #[.val (.int i0), .val (.int i1), .val (.int i2), .val (.int i3), .val (.int i4), .val (.int i5), .val (.int i6), .val (.int i7), s8, s9, s10, s11, s12, s13, s14, s15] [(.int (2147483647 : Int32)), (.int i2)])) _
  refine XS.iand X0.here hx rfl (hb hby at_33) rfl ?_
  show Steps p.tables e below (T0.setTop (mkF m 34 #[.val (.int i0), .val (.int i1), .val (.int i2), .val (.int i3), .val (.int i4), .val (.int i5), .val (.int i6), .val (.int i7), s8, s9, s10, s11, s12, s13, s14, s15] [(.int (i2 &&& (2147483647 : Int32)))])) _
  refine X0.ldcInt hx hown (mvT hZ (hw _ (List.mem_of_getElem? (i := 1) rfl))) (g := (mkF m 34 #[.val (.int i0), .val (.int i1), .val (.int i2), .val (.int i3), .val (.int i4), .val (.int i5), .val (.int i6), .val (.int i7), s8, s9, s10, s11, s12, s13, s14, s15] [(.int (i2 &&& (2147483647 : Int32)))])) rfl (hb hby at_34) _ ?_
  show Steps p.tables e below (T0.setTop (mkF m 36 #[.val (.int i0), .val (.int i1), .val (.int i2), .val (.int i3), .val (.int i4), .val (.int i5), .val (.int i6), .val (.int i7), s8, s9, s10, s11, s12, s13, s14, s15] [(.int (100000 : Int32)), (.int (i2 &&& (2147483647 : Int32)))])) _
  refine iremM X0 hx rfl (hb hby at_36) rfl (by decide) ?_
  show Steps p.tables e below (T0.setTop (mkF m 37 #[.val (.int i0), .val (.int i1), .val (.int i2), .val (.int i3), .val (.int i4), .val (.int i5), .val (.int i6), .val (.int i7), s8, s9, s10, s11, s12, s13, s14, s15] [(.int ((i2 &&& (2147483647 : Int32)) % (100000 : Int32)))])) _
  refine XS.istore X0.here hx rfl (hb hby at_37) rfl (l' := #[.val (.int i0), .val (.int i1), .val (.int i2), .val (.int i3), .val (.int i4), .val (.int i5), .val (.int i6), .val (.int i7), .val (.int ((i2 &&& (2147483647 : Int32)) % (100000 : Int32))), s9, s10, s11, s12, s13, s14, s15]) (os0_37_seg18_t hs8) ?_
  exact kt
theorem os0_37_seg18_f {z0 : Value} {z1 : Value} {z2 : Value} {z3 : Value} {z4 : Value} {z5 : Value} {z6 : Value} {z7 : Value} {s8 : Slot} {s9 : Slot} {s10 : Slot} {s11 : Slot} {s12 : Slot} {s13 : Slot} {s14 : Slot} {s15 : Slot} {v : Int32} (h : One s8) : storeLocals #[.val z0, .val z1, .val z2, .val z3, .val z4, .val z5, .val z6, .val z7, s8, s9, s10, s11, s12, s13, s14, s15] 8 (.int v) = some #[.val z0, .val z1, .val z2, .val z3, .val z4, .val z5, .val z6, .val z7, .val (.int v), s9, s10, s11, s12, s13, s14, s15] := by
  rcases h with rfl | ⟨w, rfl, hw⟩
  · rfl
  · cases w <;> first | rfl | (simp [Value.category] at hw)
set_option maxRecDepth 65536 in
set_option maxHeartbeats 40000000 in
theorem seg18_f {p : Program} {l : Launch} {e : Env} {R : Room} {s : State} {m : MethodId} {args : Array Value} {below : List Frame} {meth : Method} {c : Code} {T0 : State} {locs : List Loc} {cells slots : Nat} {Z : State} {a0 : Array Value} {h0 : Heap} (i0 : Int32) (i1 : Int32) (i2 : Int32) (i3 : Int32) (i4 : Int32) (i5 : Int32) (i6 : Int32) (i7 : Int32) (s8 : Slot) (s9 : Slot) (s10 : Slot) (s11 : Slot) (s12 : Slot) (s13 : Slot) (s14 : Slot) (s15 : Slot)
    (X0 : Stand p l e R s m args below meth c T0 locs cells slots) (hx : p.tables.exec = Jvm.exec) (hZ : Z.Warmed39 s.vm) (hw : ∀ d ∈ tables_1, d.before a0 Z = true) (hby : c.code = code) (hml : c.maxLocals = 16) (hown : s.vm.findClass "com/example/fieldwright/fieldwright/mater/RecordLabelEqualsPinLaw" = some m.cls) (e0 : T0.heap = h0) (hs8 : One s8) (hc22 : ¬ ((i5 &&& (1 : Int32)) = (0 : Int32))) :
    ∀ target, Steps p.tables e below (T0.setTop (mkF m 39 #[.val (.int i0), .val (.int i1), .val (.int i2), .val (.int i3), .val (.int i4), .val (.int i5), .val (.int i6), .val (.int i7), .val (.int i6), s9, s10, s11, s12, s13, s14, s15] [])) target → Steps p.tables e below (T0.setTop (mkF m 18 #[.val (.int i0), .val (.int i1), .val (.int i2), .val (.int i3), .val (.int i4), .val (.int i5), .val (.int i6), .val (.int i7), s8, s9, s10, s11, s12, s13, s14, s15] [])) target := by

  intro target kt
  show Steps p.tables e below (T0.setTop (mkF m 18 #[.val (.int i0), .val (.int i1), .val (.int i2), .val (.int i3), .val (.int i4), .val (.int i5), .val (.int i6), .val (.int i7), s8, s9, s10, s11, s12, s13, s14, s15] [])) _
  refine XS.iload X0.here hx rfl (hb hby at_18) rfl ?_
  show Steps p.tables e below (T0.setTop (mkF m 20 #[.val (.int i0), .val (.int i1), .val (.int i2), .val (.int i3), .val (.int i4), .val (.int i5), .val (.int i6), .val (.int i7), s8, s9, s10, s11, s12, s13, s14, s15] [(.int i5)])) _
  refine XS.iconst X0.here hx rfl (hb hby at_20) ?_
  show Steps p.tables e below (T0.setTop (mkF m 21 #[.val (.int i0), .val (.int i1), .val (.int i2), .val (.int i3), .val (.int i4), .val (.int i5), .val (.int i6), .val (.int i7), s8, s9, s10, s11, s12, s13, s14, s15] [(.int (1 : Int32)), (.int i5)])) _
  refine XS.iand X0.here hx rfl (hb hby at_21) rfl ?_
  show Steps p.tables e below (T0.setTop (mkF m 22 #[.val (.int i0), .val (.int i1), .val (.int i2), .val (.int i3), .val (.int i4), .val (.int i5), .val (.int i6), .val (.int i7), s8, s9, s10, s11, s12, s13, s14, s15] [(.int (i5 &&& (1 : Int32)))])) _
  refine XS.ifNo X0.here hx rfl (hb hby at_22) rfl ((if0 _ _).trans (feq hc22).1) ?_
  show Steps p.tables e below (T0.setTop (mkF m 25 #[.val (.int i0), .val (.int i1), .val (.int i2), .val (.int i3), .val (.int i4), .val (.int i5), .val (.int i6), .val (.int i7), s8, s9, s10, s11, s12, s13, s14, s15] [])) _
  refine XS.iload X0.here hx rfl (hb hby at_25) rfl ?_
  show Steps p.tables e below (T0.setTop (mkF m 27 #[.val (.int i0), .val (.int i1), .val (.int i2), .val (.int i3), .val (.int i4), .val (.int i5), .val (.int i6), .val (.int i7), s8, s9, s10, s11, s12, s13, s14, s15] [(.int i6)])) _
  refine XS.goto X0.here hx rfl (pc0 := 27) (pc' := 37) rfl (hb hby at_27) (by decide) (by decide) ?_
  show Steps p.tables e below (T0.setTop (mkF m 37 #[.val (.int i0), .val (.int i1), .val (.int i2), .val (.int i3), .val (.int i4), .val (.int i5), .val (.int i6), .val (.int i7), s8, s9, s10, s11, s12, s13, s14, s15] [(.int i6)])) _
  refine XS.istore X0.here hx rfl (hb hby at_37) rfl (l' := #[.val (.int i0), .val (.int i1), .val (.int i2), .val (.int i3), .val (.int i4), .val (.int i5), .val (.int i6), .val (.int i7), .val (.int i6), s9, s10, s11, s12, s13, s14, s15]) (os0_37_seg18_f hs8) ?_
  exact kt
theorem os0_58_seg39_t {z0 : Value} {z1 : Value} {z2 : Value} {z3 : Value} {z4 : Value} {z5 : Value} {z6 : Value} {z7 : Value} {z8 : Value} {s9 : Slot} {s10 : Slot} {s11 : Slot} {s12 : Slot} {s13 : Slot} {s14 : Slot} {s15 : Slot} {v : Int32} (h : One s9) : storeLocals #[.val z0, .val z1, .val z2, .val z3, .val z4, .val z5, .val z6, .val z7, .val z8, s9, s10, s11, s12, s13, s14, s15] 9 (.int v) = some #[.val z0, .val z1, .val z2, .val z3, .val z4, .val z5, .val z6, .val z7, .val z8, .val (.int v), s10, s11, s12, s13, s14, s15] := by
  rcases h with rfl | ⟨w, rfl, hw⟩
  · rfl
  · cases w <;> first | rfl | (simp [Value.category] at hw)
set_option maxRecDepth 65536 in
set_option maxHeartbeats 40000000 in
theorem seg39_t {p : Program} {l : Launch} {e : Env} {R : Room} {s : State} {m : MethodId} {args : Array Value} {below : List Frame} {meth : Method} {c : Code} {T0 : State} {locs : List Loc} {cells slots : Nat} {Z : State} {a0 : Array Value} {h0 : Heap} (i0 : Int32) (i1 : Int32) (i2 : Int32) (i3 : Int32) (i4 : Int32) (i5 : Int32) (i6 : Int32) (i7 : Int32) (i8 : Int32) (s9 : Slot) (s10 : Slot) (s11 : Slot) (s12 : Slot) (s13 : Slot) (s14 : Slot) (s15 : Slot)
    (X0 : Stand p l e R s m args below meth c T0 locs cells slots) (hx : p.tables.exec = Jvm.exec) (hZ : Z.Warmed39 s.vm) (hw : ∀ d ∈ tables_1, d.before a0 Z = true) (hby : c.code = code) (hml : c.maxLocals = 16) (hown : s.vm.findClass "com/example/fieldwright/fieldwright/mater/RecordLabelEqualsPinLaw" = some m.cls) (e0 : T0.heap = h0) (hs9 : One s9) (hc43 : (i5 &&& (2 : Int32)) = (0 : Int32)) :
    ∀ target, Steps p.tables e below (T0.setTop (mkF m 60 #[.val (.int i0), .val (.int i1), .val (.int i2), .val (.int i3), .val (.int i4), .val (.int i5), .val (.int i6), .val (.int i7), .val (.int i8), .val (.int ((i3 &&& (2147483647 : Int32)) % (100000 : Int32))), s10, s11, s12, s13, s14, s15] [])) target → Steps p.tables e below (T0.setTop (mkF m 39 #[.val (.int i0), .val (.int i1), .val (.int i2), .val (.int i3), .val (.int i4), .val (.int i5), .val (.int i6), .val (.int i7), .val (.int i8), s9, s10, s11, s12, s13, s14, s15] [])) target := by

  intro target kt
  show Steps p.tables e below (T0.setTop (mkF m 39 #[.val (.int i0), .val (.int i1), .val (.int i2), .val (.int i3), .val (.int i4), .val (.int i5), .val (.int i6), .val (.int i7), .val (.int i8), s9, s10, s11, s12, s13, s14, s15] [])) _
  refine XS.iload X0.here hx rfl (hb hby at_39) rfl ?_
  show Steps p.tables e below (T0.setTop (mkF m 41 #[.val (.int i0), .val (.int i1), .val (.int i2), .val (.int i3), .val (.int i4), .val (.int i5), .val (.int i6), .val (.int i7), .val (.int i8), s9, s10, s11, s12, s13, s14, s15] [(.int i5)])) _
  refine XS.iconst X0.here hx rfl (hb hby at_41) ?_
  show Steps p.tables e below (T0.setTop (mkF m 42 #[.val (.int i0), .val (.int i1), .val (.int i2), .val (.int i3), .val (.int i4), .val (.int i5), .val (.int i6), .val (.int i7), .val (.int i8), s9, s10, s11, s12, s13, s14, s15] [(.int (2 : Int32)), (.int i5)])) _
  refine XS.iand X0.here hx rfl (hb hby at_42) rfl ?_
  show Steps p.tables e below (T0.setTop (mkF m 43 #[.val (.int i0), .val (.int i1), .val (.int i2), .val (.int i3), .val (.int i4), .val (.int i5), .val (.int i6), .val (.int i7), .val (.int i8), s9, s10, s11, s12, s13, s14, s15] [(.int (i5 &&& (2 : Int32)))])) _
  refine XS.ifYes X0.here hx rfl (pc0 := 43) (pc' := 51) rfl (hb hby at_43) rfl ((if0 _ _).trans (teq hc43).1) (by decide) (by decide) ?_
  show Steps p.tables e below (T0.setTop (mkF m 51 #[.val (.int i0), .val (.int i1), .val (.int i2), .val (.int i3), .val (.int i4), .val (.int i5), .val (.int i6), .val (.int i7), .val (.int i8), s9, s10, s11, s12, s13, s14, s15] [])) _
  refine XS.iloadN X0.here hx rfl (hb hby at_51) rfl ?_
  show Steps p.tables e below (T0.setTop (mkF m 52 #[.val (.int i0), .val (.int i1), .val (.int i2), .val (.int i3), .val (.int i4), .val (.int i5), .val (.int i6), .val (.int i7), .val (.int i8), s9, s10, s11, s12, s13, s14, s15] [(.int i3)])) _
  refine X0.ldcInt hx hown (mvT hZ (hw _ (List.mem_of_getElem? (i := 0) rfl))) (g := (mkF m 52 #[.val (.int i0), .val (.int i1), .val (.int i2), .val (.int i3), .val (.int i4), .val (.int i5), .val (.int i6), .val (.int i7), .val (.int i8), s9, s10, s11, s12, s13, s14, s15] [(.int i3)])) rfl (hb hby at_52) _ ?_
  show Steps p.tables e below (T0.setTop (mkF m 54 #[.val (.int i0), .val (.int i1), .val (.int i2), .val (.int i3), .val (.int i4), .val (.int i5), .val (.int i6), .val (.int i7), .val (.int i8), s9, s10, s11, s12, s13, s14, s15] [(.int (2147483647 : Int32)), (.int i3)])) _
  refine XS.iand X0.here hx rfl (hb hby at_54) rfl ?_
  show Steps p.tables e below (T0.setTop (mkF m 55 #[.val (.int i0), .val (.int i1), .val (.int i2), .val (.int i3), .val (.int i4), .val (.int i5), .val (.int i6), .val (.int i7), .val (.int i8), s9, s10, s11, s12, s13, s14, s15] [(.int (i3 &&& (2147483647 : Int32)))])) _
  refine X0.ldcInt hx hown (mvT hZ (hw _ (List.mem_of_getElem? (i := 1) rfl))) (g := (mkF m 55 #[.val (.int i0), .val (.int i1), .val (.int i2), .val (.int i3), .val (.int i4), .val (.int i5), .val (.int i6), .val (.int i7), .val (.int i8), s9, s10, s11, s12, s13, s14, s15] [(.int (i3 &&& (2147483647 : Int32)))])) rfl (hb hby at_55) _ ?_
  show Steps p.tables e below (T0.setTop (mkF m 57 #[.val (.int i0), .val (.int i1), .val (.int i2), .val (.int i3), .val (.int i4), .val (.int i5), .val (.int i6), .val (.int i7), .val (.int i8), s9, s10, s11, s12, s13, s14, s15] [(.int (100000 : Int32)), (.int (i3 &&& (2147483647 : Int32)))])) _
  refine iremM X0 hx rfl (hb hby at_57) rfl (by decide) ?_
  show Steps p.tables e below (T0.setTop (mkF m 58 #[.val (.int i0), .val (.int i1), .val (.int i2), .val (.int i3), .val (.int i4), .val (.int i5), .val (.int i6), .val (.int i7), .val (.int i8), s9, s10, s11, s12, s13, s14, s15] [(.int ((i3 &&& (2147483647 : Int32)) % (100000 : Int32)))])) _
  refine XS.istore X0.here hx rfl (hb hby at_58) rfl (l' := #[.val (.int i0), .val (.int i1), .val (.int i2), .val (.int i3), .val (.int i4), .val (.int i5), .val (.int i6), .val (.int i7), .val (.int i8), .val (.int ((i3 &&& (2147483647 : Int32)) % (100000 : Int32))), s10, s11, s12, s13, s14, s15]) (os0_58_seg39_t hs9) ?_
  exact kt
theorem os0_58_seg39_f {z0 : Value} {z1 : Value} {z2 : Value} {z3 : Value} {z4 : Value} {z5 : Value} {z6 : Value} {z7 : Value} {z8 : Value} {s9 : Slot} {s10 : Slot} {s11 : Slot} {s12 : Slot} {s13 : Slot} {s14 : Slot} {s15 : Slot} {v : Int32} (h : One s9) : storeLocals #[.val z0, .val z1, .val z2, .val z3, .val z4, .val z5, .val z6, .val z7, .val z8, s9, s10, s11, s12, s13, s14, s15] 9 (.int v) = some #[.val z0, .val z1, .val z2, .val z3, .val z4, .val z5, .val z6, .val z7, .val z8, .val (.int v), s10, s11, s12, s13, s14, s15] := by
  rcases h with rfl | ⟨w, rfl, hw⟩
  · rfl
  · cases w <;> first | rfl | (simp [Value.category] at hw)
set_option maxRecDepth 65536 in
set_option maxHeartbeats 40000000 in
theorem seg39_f {p : Program} {l : Launch} {e : Env} {R : Room} {s : State} {m : MethodId} {args : Array Value} {below : List Frame} {meth : Method} {c : Code} {T0 : State} {locs : List Loc} {cells slots : Nat} {Z : State} {a0 : Array Value} {h0 : Heap} (i0 : Int32) (i1 : Int32) (i2 : Int32) (i3 : Int32) (i4 : Int32) (i5 : Int32) (i6 : Int32) (i7 : Int32) (i8 : Int32) (s9 : Slot) (s10 : Slot) (s11 : Slot) (s12 : Slot) (s13 : Slot) (s14 : Slot) (s15 : Slot)
    (X0 : Stand p l e R s m args below meth c T0 locs cells slots) (hx : p.tables.exec = Jvm.exec) (hZ : Z.Warmed39 s.vm) (hw : ∀ d ∈ tables_1, d.before a0 Z = true) (hby : c.code = code) (hml : c.maxLocals = 16) (hown : s.vm.findClass "com/example/fieldwright/fieldwright/mater/RecordLabelEqualsPinLaw" = some m.cls) (e0 : T0.heap = h0) (hs9 : One s9) (hc43 : ¬ ((i5 &&& (2 : Int32)) = (0 : Int32))) :
    ∀ target, Steps p.tables e below (T0.setTop (mkF m 60 #[.val (.int i0), .val (.int i1), .val (.int i2), .val (.int i3), .val (.int i4), .val (.int i5), .val (.int i6), .val (.int i7), .val (.int i8), .val (.int i7), s10, s11, s12, s13, s14, s15] [])) target → Steps p.tables e below (T0.setTop (mkF m 39 #[.val (.int i0), .val (.int i1), .val (.int i2), .val (.int i3), .val (.int i4), .val (.int i5), .val (.int i6), .val (.int i7), .val (.int i8), s9, s10, s11, s12, s13, s14, s15] [])) target := by

  intro target kt
  show Steps p.tables e below (T0.setTop (mkF m 39 #[.val (.int i0), .val (.int i1), .val (.int i2), .val (.int i3), .val (.int i4), .val (.int i5), .val (.int i6), .val (.int i7), .val (.int i8), s9, s10, s11, s12, s13, s14, s15] [])) _
  refine XS.iload X0.here hx rfl (hb hby at_39) rfl ?_
  show Steps p.tables e below (T0.setTop (mkF m 41 #[.val (.int i0), .val (.int i1), .val (.int i2), .val (.int i3), .val (.int i4), .val (.int i5), .val (.int i6), .val (.int i7), .val (.int i8), s9, s10, s11, s12, s13, s14, s15] [(.int i5)])) _
  refine XS.iconst X0.here hx rfl (hb hby at_41) ?_
  show Steps p.tables e below (T0.setTop (mkF m 42 #[.val (.int i0), .val (.int i1), .val (.int i2), .val (.int i3), .val (.int i4), .val (.int i5), .val (.int i6), .val (.int i7), .val (.int i8), s9, s10, s11, s12, s13, s14, s15] [(.int (2 : Int32)), (.int i5)])) _
  refine XS.iand X0.here hx rfl (hb hby at_42) rfl ?_
  show Steps p.tables e below (T0.setTop (mkF m 43 #[.val (.int i0), .val (.int i1), .val (.int i2), .val (.int i3), .val (.int i4), .val (.int i5), .val (.int i6), .val (.int i7), .val (.int i8), s9, s10, s11, s12, s13, s14, s15] [(.int (i5 &&& (2 : Int32)))])) _
  refine XS.ifNo X0.here hx rfl (hb hby at_43) rfl ((if0 _ _).trans (feq hc43).1) ?_
  show Steps p.tables e below (T0.setTop (mkF m 46 #[.val (.int i0), .val (.int i1), .val (.int i2), .val (.int i3), .val (.int i4), .val (.int i5), .val (.int i6), .val (.int i7), .val (.int i8), s9, s10, s11, s12, s13, s14, s15] [])) _
  refine XS.iload X0.here hx rfl (hb hby at_46) rfl ?_
  show Steps p.tables e below (T0.setTop (mkF m 48 #[.val (.int i0), .val (.int i1), .val (.int i2), .val (.int i3), .val (.int i4), .val (.int i5), .val (.int i6), .val (.int i7), .val (.int i8), s9, s10, s11, s12, s13, s14, s15] [(.int i7)])) _
  refine XS.goto X0.here hx rfl (pc0 := 48) (pc' := 58) rfl (hb hby at_48) (by decide) (by decide) ?_
  show Steps p.tables e below (T0.setTop (mkF m 58 #[.val (.int i0), .val (.int i1), .val (.int i2), .val (.int i3), .val (.int i4), .val (.int i5), .val (.int i6), .val (.int i7), .val (.int i8), s9, s10, s11, s12, s13, s14, s15] [(.int i7)])) _
  refine XS.istore X0.here hx rfl (hb hby at_58) rfl (l' := #[.val (.int i0), .val (.int i1), .val (.int i2), .val (.int i3), .val (.int i4), .val (.int i5), .val (.int i6), .val (.int i7), .val (.int i8), .val (.int i7), s10, s11, s12, s13, s14, s15]) (os0_58_seg39_f hs9) ?_
  exact kt
theorem seg18 {p : Program} {l : Launch} {e : Env} {R : Room} {s : State} {m : MethodId} {args : Array Value} {below : List Frame} {meth : Method} {c : Code} {T0 : State} {locs : List Loc} {cells slots : Nat} {Z : State} {a0 : Array Value} (X0 : Stand p l e R s m args below meth c T0 locs cells slots) (hx : p.tables.exec = Jvm.exec) (hZ : Z.Warmed39 s.vm) (hw : ∀ d ∈ tables_1, d.before a0 Z = true) (hby : c.code = code) (hml : c.maxLocals = 16) (hown : s.vm.findClass "com/example/fieldwright/fieldwright/mater/RecordLabelEqualsPinLaw" = some m.cls) (p1 p2 p3 p4 p5 p6 l1 b1 L2 : Int32) (H : ((p6 &&& (1 : Int32)) = (0 : Int32) ∧ L2 = (p3 &&& (2147483647 : Int32)) % (100000 : Int32)) ∨ (¬ (p6 &&& (1 : Int32)) = (0 : Int32) ∧ L2 = l1)) {target : State} (kt : Steps p.tables e below (T0.setTop (mkF m 39 #[.val (.int p1), .val (.int p2), .val (.int p3), .val (.int p4), .val (.int p5), .val (.int p6), .val (.int l1), .val (.int b1), .val (.int L2), .unset, .unset, .unset, .unset, .unset, .unset, .unset] [])) target) : Steps p.tables e below (T0.setTop (mkF m 18 #[.val (.int p1), .val (.int p2), .val (.int p3), .val (.int p4), .val (.int p5), .val (.int p6), .val (.int l1), .val (.int b1), .unset, .unset, .unset, .unset, .unset, .unset, .unset, .unset] [])) target := by
  rcases H with ⟨h, rfl⟩ | ⟨h, rfl⟩
  · exact seg18_t p1 p2 p3 p4 p5 p6 l1 b1 .unset .unset .unset .unset .unset .unset .unset .unset X0 hx hZ hw hby hml hown rfl One.u h target kt
  · exact seg18_f p1 p2 p3 p4 p5 p6 L2 b1 .unset .unset .unset .unset .unset .unset .unset .unset X0 hx hZ hw hby hml hown rfl One.u h target kt
theorem seg39 {p : Program} {l : Launch} {e : Env} {R : Room} {s : State} {m : MethodId} {args : Array Value} {below : List Frame} {meth : Method} {c : Code} {T0 : State} {locs : List Loc} {cells slots : Nat} {Z : State} {a0 : Array Value} (X0 : Stand p l e R s m args below meth c T0 locs cells slots) (hx : p.tables.exec = Jvm.exec) (hZ : Z.Warmed39 s.vm) (hw : ∀ d ∈ tables_1, d.before a0 Z = true) (hby : c.code = code) (hml : c.maxLocals = 16) (hown : s.vm.findClass "com/example/fieldwright/fieldwright/mater/RecordLabelEqualsPinLaw" = some m.cls) (p1 p2 p3 p4 p5 p6 l1 b1 L2 B2 : Int32) (H : ((p6 &&& (2 : Int32)) = (0 : Int32) ∧ B2 = (p4 &&& (2147483647 : Int32)) % (100000 : Int32)) ∨ (¬ (p6 &&& (2 : Int32)) = (0 : Int32) ∧ B2 = b1)) {target : State} (kt : Steps p.tables e below (T0.setTop (mkF m 60 #[.val (.int p1), .val (.int p2), .val (.int p3), .val (.int p4), .val (.int p5), .val (.int p6), .val (.int l1), .val (.int b1), .val (.int L2), .val (.int B2), .unset, .unset, .unset, .unset, .unset, .unset] [])) target) : Steps p.tables e below (T0.setTop (mkF m 39 #[.val (.int p1), .val (.int p2), .val (.int p3), .val (.int p4), .val (.int p5), .val (.int p6), .val (.int l1), .val (.int b1), .val (.int L2), .unset, .unset, .unset, .unset, .unset, .unset, .unset] [])) target := by
  rcases H with ⟨h, rfl⟩ | ⟨h, rfl⟩
  · exact seg39_t p1 p2 p3 p4 p5 p6 l1 b1 L2 .unset .unset .unset .unset .unset .unset .unset X0 hx hZ hw hby hml hown rfl One.u h target kt
  · exact seg39_f p1 p2 p3 p4 p5 p6 l1 B2 L2 .unset .unset .unset .unset .unset .unset .unset X0 hx hZ hw hby hml hown rfl One.u h target kt
theorem own_rng (x : Int32) : ¬ ((x &&& (2147483647 : Int32)) % (100000 : Int32) < (0 : Int32)) ∧ ¬ ((99999 : Int32) < (x &&& (2147483647 : Int32)) % (100000 : Int32)) := by
  have h := own_rem x 100000 100000 rfl
  generalize (x &&& (2147483647 : Int32)) % (100000 : Int32) = y at h
  rw [Int32.lt_iff_toInt_lt, Int32.lt_iff_toInt_lt]
  have e0 : (0 : Int32).toInt = 0 := rfl
  have e1 : (99999 : Int32).toInt = 99999 := rfl
  omega
theorem own_c255 (x : Int32) : ¬ ((255 : Int32) < ((x &&& (255 : Int32)).toUInt32.toUInt16.toUInt32.toInt32)) := by
  rw [i2c_mask]
  have h := c_mask x 255 8 (by decide) (by decide)
  have h' : (x &&& (255 : Int32)).toInt = x.toInt % 256 := h
  rw [Int32.lt_iff_toInt_lt]
  have e1 : (255 : Int32).toInt = 255 := rfl
  omega
theorem pn_0 : plainName "com/example/fieldwright/fieldwright/mater/RecordLabelEqualsPinLaw" = true := by first | (simp [plainName, overriddenIn]; done) | decide +kernel
theorem pd_0_0 : parseMethodDescriptor "(I)Lcom/example/fieldwright/fieldwright/mater/RecordLabel$Status;" = some ⟨[.int], some (.object "com/example/fieldwright/fieldwright/mater/RecordLabel$Status")⟩ := by decide +kernel
theorem pd_0_1 : parseMethodDescriptor "(ILcom/example/fieldwright/fieldwright/mater/RecordLabel$Status;I)V" = some ⟨[.int, (.object "com/example/fieldwright/fieldwright/mater/RecordLabel$Status"), .int], none⟩ := by decide +kernel
theorem pd_0_5 : parseMethodDescriptor "(Ljava/lang/Object;)Z" = some ⟨[(.object "java/lang/Object")], some .boolean⟩ := by decide +kernel
theorem ef_0 (m : MethodId) (x0 : Int32) (x1 : Int32) (x2 : Int32) (x3 : Int32) (x4 : Int32) (x5 : Int32) : entryFrame m #[(.int x0), (.int x1), (.int x2), (.int x3), (.int x4), (.int x5)] maxLocals = mkF m 0 #[.val (.int x0), .val (.int x1), .val (.int x2), .val (.int x3), .val (.int x4), .val (.int x5), .unset, .unset, .unset, .unset, .unset, .unset, .unset, .unset, .unset, .unset] [] := by first | (simp [entryFrame, mkF, argsToLocals, Value.category, maxLocals]; done) | rfl
def Q0 (h0 : Heap) (n0 : Nat) (v : Option Value) (h : Heap) (L : List Loc) : Prop := v = some (.int (1 : Int32)) ∧ Fr n0 L
set_option maxRecDepth 65536 in
set_option maxHeartbeats 40000000 in
theorem rm0_ff (l : Launch) (Z : State) (a0 : Array Value) (hw : ∀ d ∈ tables_1, d.before a0 Z = true) (ws : List Jvm.Cond) (p1 : Int32) (p2 : Int32) (p3 : Int32) (p4 : Int32) (p5 : Int32) (p6 : Int32) (L2 : Int32) (B2 : Int32) (w1 w2 : Addr) (wC : Int32) (h0 : Heap) (n0 : Nat) (Z0 : n0 ≤ h0.size) (HL : (((p6 &&& (1 : Int32)) = (0 : Int32) ∧ L2 = (p3 &&& (2147483647 : Int32)) % (100000 : Int32)) ∨ (¬ (p6 &&& (1 : Int32)) = (0 : Int32) ∧ L2 = ((p1 &&& (2147483647 : Int32)) % (100000 : Int32))))) (HB : (((p6 &&& (2 : Int32)) = (0 : Int32) ∧ B2 = (p4 &&& (2147483647 : Int32)) % (100000 : Int32)) ∨ (¬ (p6 &&& (2 : Int32)) = (0 : Int32) ∧ B2 = ((p2 &&& (2147483647 : Int32)) % (100000 : Int32))))) (H1 : ((p5 &&& (3 : Int32)) = 0 ∧ Sta Z h0 "com/example/fieldwright/fieldwright/mater/RecordLabel$Status" "NEW" "Lcom/example/fieldwright/fieldwright/mater/RecordLabel$Status;" (.ref w1)) ∨ ((p5 &&& (3 : Int32)) = 1 ∧ Sta Z h0 "com/example/fieldwright/fieldwright/mater/RecordLabel$Status" "AMENDED" "Lcom/example/fieldwright/fieldwright/mater/RecordLabel$Status;" (.ref w1)) ∨ ((p5 &&& (3 : Int32)) = 2 ∧ Sta Z h0 "com/example/fieldwright/fieldwright/mater/RecordLabel$Status" "DELETED" "Lcom/example/fieldwright/fieldwright/mater/RecordLabel$Status;" (.ref w1)) ∨ ((p5 &&& (3 : Int32)) = 3 ∧ Sta Z h0 "com/example/fieldwright/fieldwright/mater/RecordLabel$Status" "INFORMATION" "Lcom/example/fieldwright/fieldwright/mater/RecordLabel$Status;" (.ref w1))) (H2 : ((((p5.toUInt32 >>> ((2 : Int32) &&& 31).toUInt32).toInt32) &&& (3 : Int32)) = 0 ∧ Sta Z h0 "com/example/fieldwright/fieldwright/mater/RecordLabel$Status" "NEW" "Lcom/example/fieldwright/fieldwright/mater/RecordLabel$Status;" (.ref w2)) ∨ ((((p5.toUInt32 >>> ((2 : Int32) &&& 31).toUInt32).toInt32) &&& (3 : Int32)) = 1 ∧ Sta Z h0 "com/example/fieldwright/fieldwright/mater/RecordLabel$Status" "AMENDED" "Lcom/example/fieldwright/fieldwright/mater/RecordLabel$Status;" (.ref w2)) ∨ ((((p5.toUInt32 >>> ((2 : Int32) &&& 31).toUInt32).toInt32) &&& (3 : Int32)) = 2 ∧ Sta Z h0 "com/example/fieldwright/fieldwright/mater/RecordLabel$Status" "DELETED" "Lcom/example/fieldwright/fieldwright/mater/RecordLabel$Status;" (.ref w2)) ∨ ((((p5.toUInt32 >>> ((2 : Int32) &&& 31).toUInt32).toInt32) &&& (3 : Int32)) = 3 ∧ Sta Z h0 "com/example/fieldwright/fieldwright/mater/RecordLabel$Status" "INFORMATION" "Lcom/example/fieldwright/fieldwright/mater/RecordLabel$Status;" (.ref w2))) (E1 : Exa Z h0 w1 "com/example/fieldwright/fieldwright/mater/RecordLabel$Status") (E2 : Exa Z h0 w2 "com/example/fieldwright/fieldwright/mater/RecordLabel$Status") (SC : Sta Z h0 "java/lang/String" "COMPACT_STRINGS" "Z" (.int wC)) (hC : ¬ (wC = (0 : Int32))) (RL : ¬ (L2 < (0 : Int32)) ∧ ¬ ((99999 : Int32) < L2)) (RB : ¬ (B2 < (0 : Int32)) ∧ ¬ ((99999 : Int32) < B2)) (hc106 : (((p6.toUInt32 >>> ((2 : Int32) &&& 31).toUInt32).toInt32) &&& (3 : Int32)) = (1 : Int32)) :
    MetFree l x (head1 (Jvm.Cond.code x code maxLocals ret :: ws) room_1) (fun a U => a = #[(.int p1), (.int p2), (.int p3), (.int p4), (.int p5), (.int p6)] ∧ Z.Warmed39 U.vm ∧ U.heap = h0) (fun _ _ _ _ _ => True) (fun _ U o U' => ∃ v L, o = .returned v ∧ Q0 h0 n0 v U'.heap L ∧ ReturnedEndW U o U' L room_1.cells room_1.slots) := by
  refine MetFree.of_bodySF (plainFor_of_name pn_0) hisR ?_
  intro p e s m args below meth c s₁ Bd hml0 hP hK
  obtain ⟨rfl, hZ, hh⟩ := hP
  have hx := Bd.exec
  have hby := Bd.bytes
  have hml : c.maxLocals = 16 := hml0
  have hown : s.vm.findClass "com/example/fieldwright/fieldwright/mater/RecordLabelEqualsPinLaw" = some m.cls := findClass_of_methodNamed Bd.named
  have hnm := (name_of_methodNamed Bd.named Bd.method).1
  have X0 : Stand p l e room_1 s m #[(.int p1), (.int p2), (.int p3), (.int p4), (.int p5), (.int p6)] below meth c s₁ [] 0 0 := Stand.of_body Bd
  have e0 : s₁.heap = h0 := by rw [← hh, Bd.state]; rfl
  have N0 := Fr.nil n0
  have pre0 : ∀ t, Steps p.tables e below (s₁.setTop (mkF m 0 #[.val (.int p1), .val (.int p2), .val (.int p3), .val (.int p4), .val (.int p5), .val (.int p6), .unset, .unset, .unset, .unset, .unset, .unset, .unset, .unset, .unset, .unset] [])) t → Steps p.tables e below (s₁.setTop (entryFrame m #[(.int p1), (.int p2), (.int p3), (.int p4), (.int p5), (.int p6)] maxLocals)) t := fun t k => castTop (ef_0 m p1 p2 p3 p4 p5 p6) k
  have hZ00 := hZ
  have hown00 := hown
  have hS : s.Since s.vm h0.size := (State.WarmedH.refl s).since _
  have hk : h0.size ≤ h0.size := Nat.le_refl _
  obtain ⟨_, _, ⟨T7, L7, k7, n7⟩, -, X7, ⟨Lc7, hQ7, l7, y7, z7⟩, st7⟩ := Jvm.LawKit.callS X0 hx (y := (⟨"com/example/fieldwright/fieldwright/mater/RecordLabelEqualsPinLaw", "status", "(I)Lcom/example/fieldwright/fieldwright/mater/RecordLabel$Status;"⟩ : MethodName)) hown (mvT hZ (hw _ (List.mem_of_getElem? (i := 2) rfl))) (mvT hZ (hw _ (List.mem_of_getElem? (i := 3) rfl))) (mvT hZ (hw _ (List.mem_of_getElem? (i := 4) rfl))) (mvT hZ (hw _ (List.mem_of_getElem? (i := 5) rfl))) (by decide) (backOf (W := 0) (rm1 l Z a0 hw [] (p5 &&& (3 : Int32)) w1 h0 n0 Z0 H1) hZ (hw _ (List.mem_of_getElem? (i := 5) rfl)) (hw _ (List.mem_of_getElem? (i := 4) rfl)) (by decide) (by decide)) (g := (mkF m 64 #[.val (.int p1), .val (.int p2), .val (.int p3), .val (.int p4), .val (.int p5), .val (.int p6), .val (.int ((p1 &&& (2147483647 : Int32)) % (100000 : Int32))), .val (.int ((p2 &&& (2147483647 : Int32)) % (100000 : Int32))), .val (.int L2), .val (.int B2), .unset, .unset, .unset, .unset, .unset, .unset] [(.int (p5 &&& (3 : Int32)))])) rfl (by rw [hml]; rfl) (argsL := [(.int (p5 &&& (3 : Int32)))]) (rest := []) (lenOf pd_0_0 rfl) rfl (by show 2 * 0 + _ ≤ _; exact Nat.le_of_eq rfl) (hb hby at_64) (fun _ _ => ⟨rfl, e0, (by decide : 0 + 0 ≤ _), (by decide : 0 + 0 ≤ _)⟩)
  dsimp only [Pt.U, Pt.locs, Pt.cells, Pt.slots] at X7 l7 y7 z7 st7 hQ7
  subst l7 y7 z7
  obtain ⟨rfl, N7q, eq7⟩ := hQ7
  have N7 := Fr.app N0 N7q
  obtain ⟨_, _, ⟨T8, L8, k8, n8⟩, -, X8, ⟨Lc8, hQ8, l8, y8, z8⟩, st8⟩ := Jvm.LawKit.callS X7 hx (y := (⟨"com/example/fieldwright/fieldwright/mater/RecordLabelEqualsPinLaw", "status", "(I)Lcom/example/fieldwright/fieldwright/mater/RecordLabel$Status;"⟩ : MethodName)) hown (mvT hZ (hw _ (List.mem_of_getElem? (i := 2) rfl))) (mvT hZ (hw _ (List.mem_of_getElem? (i := 3) rfl))) (mvT hZ (hw _ (List.mem_of_getElem? (i := 4) rfl))) (mvT hZ (hw _ (List.mem_of_getElem? (i := 5) rfl))) (by decide) (backOf (W := 0) (rm1 l Z a0 hw [] (((p5.toUInt32 >>> ((2 : Int32) &&& 31).toUInt32).toInt32) &&& (3 : Int32)) w2 h0 n0 Z0 H2) hZ (hw _ (List.mem_of_getElem? (i := 5) rfl)) (hw _ (List.mem_of_getElem? (i := 4) rfl)) (by decide) (by decide)) (g := (mkF m 75 #[.val (.int p1), .val (.int p2), .val (.int p3), .val (.int p4), .val (.int p5), .val (.int p6), .val (.int ((p1 &&& (2147483647 : Int32)) % (100000 : Int32))), .val (.int ((p2 &&& (2147483647 : Int32)) % (100000 : Int32))), .val (.int L2), .val (.int B2), .val (.ref w1), .unset, .unset, .unset, .unset, .unset] [(.int (((p5.toUInt32 >>> ((2 : Int32) &&& 31).toUInt32).toInt32) &&& (3 : Int32)))])) rfl (by rw [hml]; rfl) (argsL := [(.int (((p5.toUInt32 >>> ((2 : Int32) &&& 31).toUInt32).toInt32) &&& (3 : Int32)))]) (rest := []) (lenOf pd_0_0 rfl) rfl (by show 2 * 0 + _ ≤ _; exact Nat.le_of_eq rfl) (hb hby at_75) (fun _ _ => ⟨rfl, eq7, (by decide : 0 + 0 ≤ _), (by decide : 0 + 0 ≤ _)⟩)
  dsimp only [Pt.U, Pt.locs, Pt.cells, Pt.slots] at X8 l8 y8 z8 st8 hQ8
  subst l8 y8 z8
  obtain ⟨rfl, N8q, eq8⟩ := hQ8
  have N8 := Fr.app N7 N8q
  obtain ⟨T9, h9, X9, e9, E9, A9, D9, -, st9⟩ := newO X8 hx hZ hown (hw _ (List.mem_of_getElem? (i := 9) rfl)) (hw _ (List.mem_of_getElem? (i := 10) rfl)) (hw _ (List.mem_of_getElem? (i := 11) rfl)) eq8 (g := (mkF m 80 #[.val (.int p1), .val (.int p2), .val (.int p3), .val (.int p4), .val (.int p5), .val (.int p6), .val (.int ((p1 &&& (2147483647 : Int32)) % (100000 : Int32))), .val (.int ((p2 &&& (2147483647 : Int32)) % (100000 : Int32))), .val (.int L2), .val (.int B2), .val (.ref w1), .val (.ref w2), .unset, .unset, .unset, .unset] [])) rfl (hb hby at_80) (by decide) (by decide)
  obtain ⟨b9, g9⟩ : ∃ z, z = h0.size := ⟨_, rfl⟩
  rw [← g9] at A9 D9 st9
  have F_recordLength_b9 : Fld Z h9 b9 "com/example/fieldwright/fieldwright/mater/RecordLabel" "recordLength" "I" (.int (0 : Int32)) := D9 (Or.inr (hw _ (List.mem_of_getElem? (i := 31) rfl))) (ty := .int) (by decide)
  have F_status_b9 : Fld Z h9 b9 "com/example/fieldwright/fieldwright/mater/RecordLabel" "status" "Lcom/example/fieldwright/fieldwright/mater/RecordLabel$Status;" .null := D9 (Or.inr (hw _ (List.mem_of_getElem? (i := 40) rfl))) (ty := (.object "com/example/fieldwright/fieldwright/mater/RecordLabel$Status")) (by decide)
  have F_baseAddress_b9 : Fld Z h9 b9 "com/example/fieldwright/fieldwright/mater/RecordLabel" "baseAddress" "I" (.int (0 : Int32)) := D9 (Or.inr (hw _ (List.mem_of_getElem? (i := 43) rfl))) (ty := .int) (by decide)
  have E_b9 := A9
  have g_b9 : n0 ≤ b9 := Nat.le_trans Z0 (Nat.le_of_eq g9.symm)
  have sz_b9 : h0.size ≤ b9 := (Nat.le_trans (Keep.refl h0 []).1 (Nat.le_of_eq g9.symm))
  have K9 : Keep h0 h9 [] := (Keep.refl h0 []).ext E9
  have hk := Nat.le_trans hk E9.1
  obtain ⟨_, _, ⟨T10, L10, k10, n10⟩, -, X10, hS10, hg10, ⟨Lc10, hQ10, l10, y10, z10⟩, st10⟩ := X9.specialBackS hx (y := (⟨"com/example/fieldwright/fieldwright/mater/RecordLabel", "<init>", "(ILcom/example/fieldwright/fieldwright/mater/RecordLabel$Status;I)V"⟩ : MethodName)) rfl hown (mvT hZ (hw _ (List.mem_of_getElem? (i := 12) rfl))) (mvT hZ (hw _ (List.mem_of_getElem? (i := 13) rfl))) (mvT hZ (hw _ (List.mem_of_getElem? (i := 14) rfl))) (by decide) (backOfS (W := 1) (rm2 l Z a0 hw [] b9 ((p1 &&& (2147483647 : Int32)) % (100000 : Int32)) w1 ((p2 &&& (2147483647 : Int32)) % (100000 : Int32)) (.int (0 : Int32)) .null (.int (0 : Int32)) h9 n0 (Nat.le_trans Z0 K9.1) (own_rng p1).1 (own_rng p1).2 (own_rng p2).1 (own_rng p2).2 E_b9 F_recordLength_b9 g_b9 (E1.keep K9) F_status_b9 F_baseAddress_b9) hZ (hw _ (List.mem_of_getElem? (i := 14) rfl)) (hw _ (List.mem_of_getElem? (i := 11) rfl)) (by decide) (by decide)) (g := (mkF m 90 #[.val (.int p1), .val (.int p2), .val (.int p3), .val (.int p4), .val (.int p5), .val (.int p6), .val (.int ((p1 &&& (2147483647 : Int32)) % (100000 : Int32))), .val (.int ((p2 &&& (2147483647 : Int32)) % (100000 : Int32))), .val (.int L2), .val (.int B2), .val (.ref w1), .val (.ref w2), .unset, .unset, .unset, .unset] [(.int ((p2 &&& (2147483647 : Int32)) % (100000 : Int32))), (.ref w1), (.int ((p1 &&& (2147483647 : Int32)) % (100000 : Int32))), (.ref b9), (.ref b9)])) rfl (by rw [hml]; rfl) (Steps.refl _) (a := b9) (argsL := [(.int ((p1 &&& (2147483647 : Int32)) % (100000 : Int32))), (.ref w1), (.int ((p2 &&& (2147483647 : Int32)) % (100000 : Int32)))]) (rest := [(.ref b9)]) (lenOf pd_0_1 rfl) rfl (by show 2 * 0 + _ ≤ _; exact Nat.le_of_eq rfl) (hb hby at_90) (fun _ _ => ⟨rfl, e9, (by decide : 1 + 6 ≤ _), (by decide : 3 + 136 ≤ _)⟩)
  dsimp only [Pt.U, Pt.locs, Pt.cells, Pt.slots] at X10 l10 y10 z10 st10 hQ10 hS10 hg10
  subst l10 y10 z10
  obtain ⟨rfl, N10q, Kq10, Eq10, F1_b9, F2_b9, F3_b9⟩ := hQ10
  have K10 : Keep h0 T10.heap [] := K9.trans Kq10 (fun x hx => by cases List.mem_singleton.mp hx; exact Or.inr sz_b9)
  have N10 := Fr.app N8 N10q
  obtain ⟨X10, hS, hZ, hown⟩ := rebS hS (show _ ≤ T9.heap.size by rw [e9]; exact hk) X10 hS10 hg10 hZ hown
  have hk := Nat.le_refl T10.heap.size
  obtain ⟨cq11, kq11, q11a, q11b, q11c⟩ := isOf hZ rfl (E_b9.keep Kq10)
  obtain ⟨_, _, ⟨T11, L11, k11, n11⟩, -, X11, ⟨Lc11, hQ11, l11, y11, z11⟩, st11⟩ := X10.virtualBack hx (y := (⟨"com/example/fieldwright/fieldwright/mater/RecordLabel", "equals", "(Ljava/lang/Object;)Z"⟩ : MethodName)) (z := (⟨"com/example/fieldwright/fieldwright/mater/RecordLabel", "equals", "(Ljava/lang/Object;)Z"⟩ : MethodName)) hown (mvT hZ (hw _ (List.mem_of_getElem? (i := 44) rfl))) (mvT hZ (hw _ (List.mem_of_getElem? (i := 45) rfl))) (notFace_of_selects (args := #[]) (mvT hZ (hw _ (List.mem_of_getElem? (i := 47) rfl)))) (mvT hZ (hw _ (List.mem_of_getElem? (i := 47) rfl))) (mvT hZ (hw _ (List.mem_of_getElem? (i := 46) rfl))) (by decide) (backOf (W := 0) (rm6_null l Z a0 hw [] b9 T10.heap n0 (Nat.le_trans Z0 K10.1)) hZ (hw _ (List.mem_of_getElem? (i := 48) rfl)) (hw _ (List.mem_of_getElem? (i := 11) rfl)) (by decide) (by decide)) q11a q11c (g := (mkF m 112 #[.val (.int p1), .val (.int p2), .val (.int p3), .val (.int p4), .val (.int p5), .val (.int p6), .val (.int ((p1 &&& (2147483647 : Int32)) % (100000 : Int32))), .val (.int ((p2 &&& (2147483647 : Int32)) % (100000 : Int32))), .val (.int L2), .val (.int B2), .val (.ref w1), .val (.ref w2), .val (.ref b9), .val (.int (((p6.toUInt32 >>> ((2 : Int32) &&& 31).toUInt32).toInt32) &&& (3 : Int32))), .unset, .unset] [.null, (.ref b9)])) rfl (by rw [hml]; rfl) (Steps.refl _) (argsL := [.null]) (rest := []) (lenOf pd_0_5 rfl) rfl (by show 2 * 0 + _ ≤ _; exact Nat.le_of_eq rfl) (hb hby at_112) (fun _ _ => ⟨rfl, rfl, (by decide : 7 + 0 ≤ _), (by decide : 139 + 0 ≤ _)⟩)
  dsimp only [Pt.U, Pt.locs, Pt.cells, Pt.slots] at X11 l11 y11 z11 st11 hQ11
  subst l11 y11 z11
  obtain ⟨rfl, N11q, eq11⟩ := hQ11
  have N11 := Fr.app N10 N11q
  obtain ⟨fs, hr, hrun, hended, hW1, hW2, hW3, hsame⟩ := X11.leaveW hS (show _ ≤ T11.heap.size by rw [eq11]; exact hk) (v := some (.int (1 : Int32))) (fun h => by rw [Bd.returns] at h; cases h)
  refine ⟨_, _, pre0 _ ?_, hrun, hended, _, _, rfl, ?_, hW1, hW2, hW3, hsame.mono (by decide) (by decide)⟩
  · show Steps p.tables e below (s₁.setTop (mkF m 0 #[.val (.int p1), .val (.int p2), .val (.int p3), .val (.int p4), .val (.int p5), .val (.int p6), .unset, .unset, .unset, .unset, .unset, .unset, .unset, .unset, .unset, .unset] [])) _
    refine XS.iloadN X0.here hx rfl (hb hby at_0) rfl ?_
    show Steps p.tables e below (s₁.setTop (mkF m 1 #[.val (.int p1), .val (.int p2), .val (.int p3), .val (.int p4), .val (.int p5), .val (.int p6), .unset, .unset, .unset, .unset, .unset, .unset, .unset, .unset, .unset, .unset] [(.int p1)])) _
    refine X0.ldcInt hx hown00 (mvT hZ00 (hw _ (List.mem_of_getElem? (i := 0) rfl))) (g := (mkF m 1 #[.val (.int p1), .val (.int p2), .val (.int p3), .val (.int p4), .val (.int p5), .val (.int p6), .unset, .unset, .unset, .unset, .unset, .unset, .unset, .unset, .unset, .unset] [(.int p1)])) rfl (hb hby at_1) _ ?_
    show Steps p.tables e below (s₁.setTop (mkF m 3 #[.val (.int p1), .val (.int p2), .val (.int p3), .val (.int p4), .val (.int p5), .val (.int p6), .unset, .unset, .unset, .unset, .unset, .unset, .unset, .unset, .unset, .unset] [(.int (2147483647 : Int32)), (.int p1)])) _
    refine XS.iand X0.here hx rfl (hb hby at_3) rfl ?_
    show Steps p.tables e below (s₁.setTop (mkF m 4 #[.val (.int p1), .val (.int p2), .val (.int p3), .val (.int p4), .val (.int p5), .val (.int p6), .unset, .unset, .unset, .unset, .unset, .unset, .unset, .unset, .unset, .unset] [(.int (p1 &&& (2147483647 : Int32)))])) _
    refine X0.ldcInt hx hown00 (mvT hZ00 (hw _ (List.mem_of_getElem? (i := 1) rfl))) (g := (mkF m 4 #[.val (.int p1), .val (.int p2), .val (.int p3), .val (.int p4), .val (.int p5), .val (.int p6), .unset, .unset, .unset, .unset, .unset, .unset, .unset, .unset, .unset, .unset] [(.int (p1 &&& (2147483647 : Int32)))])) rfl (hb hby at_4) _ ?_
    show Steps p.tables e below (s₁.setTop (mkF m 6 #[.val (.int p1), .val (.int p2), .val (.int p3), .val (.int p4), .val (.int p5), .val (.int p6), .unset, .unset, .unset, .unset, .unset, .unset, .unset, .unset, .unset, .unset] [(.int (100000 : Int32)), (.int (p1 &&& (2147483647 : Int32)))])) _
    refine iremM X0 hx rfl (hb hby at_6) rfl (by decide) ?_
    show Steps p.tables e below (s₁.setTop (mkF m 7 #[.val (.int p1), .val (.int p2), .val (.int p3), .val (.int p4), .val (.int p5), .val (.int p6), .unset, .unset, .unset, .unset, .unset, .unset, .unset, .unset, .unset, .unset] [(.int ((p1 &&& (2147483647 : Int32)) % (100000 : Int32)))])) _
    refine XS.istore X0.here hx rfl (hb hby at_7) rfl (l' := #[.val (.int p1), .val (.int p2), .val (.int p3), .val (.int p4), .val (.int p5), .val (.int p6), .val (.int ((p1 &&& (2147483647 : Int32)) % (100000 : Int32))), .unset, .unset, .unset, .unset, .unset, .unset, .unset, .unset, .unset]) rfl ?_
    show Steps p.tables e below (s₁.setTop (mkF m 9 #[.val (.int p1), .val (.int p2), .val (.int p3), .val (.int p4), .val (.int p5), .val (.int p6), .val (.int ((p1 &&& (2147483647 : Int32)) % (100000 : Int32))), .unset, .unset, .unset, .unset, .unset, .unset, .unset, .unset, .unset] [])) _
    refine XS.iloadN X0.here hx rfl (hb hby at_9) rfl ?_
    show Steps p.tables e below (s₁.setTop (mkF m 10 #[.val (.int p1), .val (.int p2), .val (.int p3), .val (.int p4), .val (.int p5), .val (.int p6), .val (.int ((p1 &&& (2147483647 : Int32)) % (100000 : Int32))), .unset, .unset, .unset, .unset, .unset, .unset, .unset, .unset, .unset] [(.int p2)])) _
    refine X0.ldcInt hx hown00 (mvT hZ00 (hw _ (List.mem_of_getElem? (i := 0) rfl))) (g := (mkF m 10 #[.val (.int p1), .val (.int p2), .val (.int p3), .val (.int p4), .val (.int p5), .val (.int p6), .val (.int ((p1 &&& (2147483647 : Int32)) % (100000 : Int32))), .unset, .unset, .unset, .unset, .unset, .unset, .unset, .unset, .unset] [(.int p2)])) rfl (hb hby at_10) _ ?_
    show Steps p.tables e below (s₁.setTop (mkF m 12 #[.val (.int p1), .val (.int p2), .val (.int p3), .val (.int p4), .val (.int p5), .val (.int p6), .val (.int ((p1 &&& (2147483647 : Int32)) % (100000 : Int32))), .unset, .unset, .unset, .unset, .unset, .unset, .unset, .unset, .unset] [(.int (2147483647 : Int32)), (.int p2)])) _
    refine XS.iand X0.here hx rfl (hb hby at_12) rfl ?_
    show Steps p.tables e below (s₁.setTop (mkF m 13 #[.val (.int p1), .val (.int p2), .val (.int p3), .val (.int p4), .val (.int p5), .val (.int p6), .val (.int ((p1 &&& (2147483647 : Int32)) % (100000 : Int32))), .unset, .unset, .unset, .unset, .unset, .unset, .unset, .unset, .unset] [(.int (p2 &&& (2147483647 : Int32)))])) _
    refine X0.ldcInt hx hown00 (mvT hZ00 (hw _ (List.mem_of_getElem? (i := 1) rfl))) (g := (mkF m 13 #[.val (.int p1), .val (.int p2), .val (.int p3), .val (.int p4), .val (.int p5), .val (.int p6), .val (.int ((p1 &&& (2147483647 : Int32)) % (100000 : Int32))), .unset, .unset, .unset, .unset, .unset, .unset, .unset, .unset, .unset] [(.int (p2 &&& (2147483647 : Int32)))])) rfl (hb hby at_13) _ ?_
    show Steps p.tables e below (s₁.setTop (mkF m 15 #[.val (.int p1), .val (.int p2), .val (.int p3), .val (.int p4), .val (.int p5), .val (.int p6), .val (.int ((p1 &&& (2147483647 : Int32)) % (100000 : Int32))), .unset, .unset, .unset, .unset, .unset, .unset, .unset, .unset, .unset] [(.int (100000 : Int32)), (.int (p2 &&& (2147483647 : Int32)))])) _
    refine iremM X0 hx rfl (hb hby at_15) rfl (by decide) ?_
    show Steps p.tables e below (s₁.setTop (mkF m 16 #[.val (.int p1), .val (.int p2), .val (.int p3), .val (.int p4), .val (.int p5), .val (.int p6), .val (.int ((p1 &&& (2147483647 : Int32)) % (100000 : Int32))), .unset, .unset, .unset, .unset, .unset, .unset, .unset, .unset, .unset] [(.int ((p2 &&& (2147483647 : Int32)) % (100000 : Int32)))])) _
    refine XS.istore X0.here hx rfl (hb hby at_16) rfl (l' := #[.val (.int p1), .val (.int p2), .val (.int p3), .val (.int p4), .val (.int p5), .val (.int p6), .val (.int ((p1 &&& (2147483647 : Int32)) % (100000 : Int32))), .val (.int ((p2 &&& (2147483647 : Int32)) % (100000 : Int32))), .unset, .unset, .unset, .unset, .unset, .unset, .unset, .unset]) rfl ?_
    show Steps p.tables e below (s₁.setTop (mkF m 18 #[.val (.int p1), .val (.int p2), .val (.int p3), .val (.int p4), .val (.int p5), .val (.int p6), .val (.int ((p1 &&& (2147483647 : Int32)) % (100000 : Int32))), .val (.int ((p2 &&& (2147483647 : Int32)) % (100000 : Int32))), .unset, .unset, .unset, .unset, .unset, .unset, .unset, .unset] [])) _
    refine seg18 X0 hx hZ00 hw hby hml hown00 p1 p2 p3 p4 p5 p6 ((p1 &&& (2147483647 : Int32)) % (100000 : Int32)) ((p2 &&& (2147483647 : Int32)) % (100000 : Int32)) L2 HL ?_
    show Steps p.tables e below (s₁.setTop (mkF m 39 #[.val (.int p1), .val (.int p2), .val (.int p3), .val (.int p4), .val (.int p5), .val (.int p6), .val (.int ((p1 &&& (2147483647 : Int32)) % (100000 : Int32))), .val (.int ((p2 &&& (2147483647 : Int32)) % (100000 : Int32))), .val (.int L2), .unset, .unset, .unset, .unset, .unset, .unset, .unset] [])) _
    refine seg39 X0 hx hZ00 hw hby hml hown00 p1 p2 p3 p4 p5 p6 ((p1 &&& (2147483647 : Int32)) % (100000 : Int32)) ((p2 &&& (2147483647 : Int32)) % (100000 : Int32)) L2 B2 HB ?_
    show Steps p.tables e below (s₁.setTop (mkF m 60 #[.val (.int p1), .val (.int p2), .val (.int p3), .val (.int p4), .val (.int p5), .val (.int p6), .val (.int ((p1 &&& (2147483647 : Int32)) % (100000 : Int32))), .val (.int ((p2 &&& (2147483647 : Int32)) % (100000 : Int32))), .val (.int L2), .val (.int B2), .unset, .unset, .unset, .unset, .unset, .unset] [])) _
    refine XS.iload X0.here hx rfl (hb hby at_60) rfl ?_
    show Steps p.tables e below (s₁.setTop (mkF m 62 #[.val (.int p1), .val (.int p2), .val (.int p3), .val (.int p4), .val (.int p5), .val (.int p6), .val (.int ((p1 &&& (2147483647 : Int32)) % (100000 : Int32))), .val (.int ((p2 &&& (2147483647 : Int32)) % (100000 : Int32))), .val (.int L2), .val (.int B2), .unset, .unset, .unset, .unset, .unset, .unset] [(.int p5)])) _
    refine XS.iconst X0.here hx rfl (hb hby at_62) ?_
    show Steps p.tables e below (s₁.setTop (mkF m 63 #[.val (.int p1), .val (.int p2), .val (.int p3), .val (.int p4), .val (.int p5), .val (.int p6), .val (.int ((p1 &&& (2147483647 : Int32)) % (100000 : Int32))), .val (.int ((p2 &&& (2147483647 : Int32)) % (100000 : Int32))), .val (.int L2), .val (.int B2), .unset, .unset, .unset, .unset, .unset, .unset] [(.int (3 : Int32)), (.int p5)])) _
    refine XS.iand X0.here hx rfl (hb hby at_63) rfl ?_
    show Steps p.tables e below (s₁.setTop (mkF m 64 #[.val (.int p1), .val (.int p2), .val (.int p3), .val (.int p4), .val (.int p5), .val (.int p6), .val (.int ((p1 &&& (2147483647 : Int32)) % (100000 : Int32))), .val (.int ((p2 &&& (2147483647 : Int32)) % (100000 : Int32))), .val (.int L2), .val (.int B2), .unset, .unset, .unset, .unset, .unset, .unset] [(.int (p5 &&& (3 : Int32)))])) _
    refine st7 _ ?_
    show Steps p.tables e below (T7.setTop (mkF m 67 #[.val (.int p1), .val (.int p2), .val (.int p3), .val (.int p4), .val (.int p5), .val (.int p6), .val (.int ((p1 &&& (2147483647 : Int32)) % (100000 : Int32))), .val (.int ((p2 &&& (2147483647 : Int32)) % (100000 : Int32))), .val (.int L2), .val (.int B2), .unset, .unset, .unset, .unset, .unset, .unset] [(.ref w1)])) _
    refine XS.astore X7.here hx rfl (hb hby at_67) rfl rfl (l' := #[.val (.int p1), .val (.int p2), .val (.int p3), .val (.int p4), .val (.int p5), .val (.int p6), .val (.int ((p1 &&& (2147483647 : Int32)) % (100000 : Int32))), .val (.int ((p2 &&& (2147483647 : Int32)) % (100000 : Int32))), .val (.int L2), .val (.int B2), .val (.ref w1), .unset, .unset, .unset, .unset, .unset]) rfl ?_
    show Steps p.tables e below (T7.setTop (mkF m 69 #[.val (.int p1), .val (.int p2), .val (.int p3), .val (.int p4), .val (.int p5), .val (.int p6), .val (.int ((p1 &&& (2147483647 : Int32)) % (100000 : Int32))), .val (.int ((p2 &&& (2147483647 : Int32)) % (100000 : Int32))), .val (.int L2), .val (.int B2), .val (.ref w1), .unset, .unset, .unset, .unset, .unset] [])) _
    refine XS.iload X7.here hx rfl (hb hby at_69) rfl ?_
    show Steps p.tables e below (T7.setTop (mkF m 71 #[.val (.int p1), .val (.int p2), .val (.int p3), .val (.int p4), .val (.int p5), .val (.int p6), .val (.int ((p1 &&& (2147483647 : Int32)) % (100000 : Int32))), .val (.int ((p2 &&& (2147483647 : Int32)) % (100000 : Int32))), .val (.int L2), .val (.int B2), .val (.ref w1), .unset, .unset, .unset, .unset, .unset] [(.int p5)])) _
    refine XS.iconst X7.here hx rfl (hb hby at_71) ?_
    show Steps p.tables e below (T7.setTop (mkF m 72 #[.val (.int p1), .val (.int p2), .val (.int p3), .val (.int p4), .val (.int p5), .val (.int p6), .val (.int ((p1 &&& (2147483647 : Int32)) % (100000 : Int32))), .val (.int ((p2 &&& (2147483647 : Int32)) % (100000 : Int32))), .val (.int L2), .val (.int B2), .val (.ref w1), .unset, .unset, .unset, .unset, .unset] [(.int (2 : Int32)), (.int p5)])) _
    refine XS.iushr X7.here hx rfl (hb hby at_72) rfl ?_
    show Steps p.tables e below (T7.setTop (mkF m 73 #[.val (.int p1), .val (.int p2), .val (.int p3), .val (.int p4), .val (.int p5), .val (.int p6), .val (.int ((p1 &&& (2147483647 : Int32)) % (100000 : Int32))), .val (.int ((p2 &&& (2147483647 : Int32)) % (100000 : Int32))), .val (.int L2), .val (.int B2), .val (.ref w1), .unset, .unset, .unset, .unset, .unset] [(.int ((p5.toUInt32 >>> ((2 : Int32) &&& 31).toUInt32).toInt32))])) _
    refine XS.iconst X7.here hx rfl (hb hby at_73) ?_
    show Steps p.tables e below (T7.setTop (mkF m 74 #[.val (.int p1), .val (.int p2), .val (.int p3), .val (.int p4), .val (.int p5), .val (.int p6), .val (.int ((p1 &&& (2147483647 : Int32)) % (100000 : Int32))), .val (.int ((p2 &&& (2147483647 : Int32)) % (100000 : Int32))), .val (.int L2), .val (.int B2), .val (.ref w1), .unset, .unset, .unset, .unset, .unset] [(.int (3 : Int32)), (.int ((p5.toUInt32 >>> ((2 : Int32) &&& 31).toUInt32).toInt32))])) _
    refine XS.iand X7.here hx rfl (hb hby at_74) rfl ?_
    show Steps p.tables e below (T7.setTop (mkF m 75 #[.val (.int p1), .val (.int p2), .val (.int p3), .val (.int p4), .val (.int p5), .val (.int p6), .val (.int ((p1 &&& (2147483647 : Int32)) % (100000 : Int32))), .val (.int ((p2 &&& (2147483647 : Int32)) % (100000 : Int32))), .val (.int L2), .val (.int B2), .val (.ref w1), .unset, .unset, .unset, .unset, .unset] [(.int (((p5.toUInt32 >>> ((2 : Int32) &&& 31).toUInt32).toInt32) &&& (3 : Int32)))])) _
    refine st8 _ ?_
    show Steps p.tables e below (T8.setTop (mkF m 78 #[.val (.int p1), .val (.int p2), .val (.int p3), .val (.int p4), .val (.int p5), .val (.int p6), .val (.int ((p1 &&& (2147483647 : Int32)) % (100000 : Int32))), .val (.int ((p2 &&& (2147483647 : Int32)) % (100000 : Int32))), .val (.int L2), .val (.int B2), .val (.ref w1), .unset, .unset, .unset, .unset, .unset] [(.ref w2)])) _
    refine XS.astore X8.here hx rfl (hb hby at_78) rfl rfl (l' := #[.val (.int p1), .val (.int p2), .val (.int p3), .val (.int p4), .val (.int p5), .val (.int p6), .val (.int ((p1 &&& (2147483647 : Int32)) % (100000 : Int32))), .val (.int ((p2 &&& (2147483647 : Int32)) % (100000 : Int32))), .val (.int L2), .val (.int B2), .val (.ref w1), .val (.ref w2), .unset, .unset, .unset, .unset]) rfl ?_
    show Steps p.tables e below (T8.setTop (mkF m 80 #[.val (.int p1), .val (.int p2), .val (.int p3), .val (.int p4), .val (.int p5), .val (.int p6), .val (.int ((p1 &&& (2147483647 : Int32)) % (100000 : Int32))), .val (.int ((p2 &&& (2147483647 : Int32)) % (100000 : Int32))), .val (.int L2), .val (.int B2), .val (.ref w1), .val (.ref w2), .unset, .unset, .unset, .unset] [])) _
    refine st9 _ ?_
    show Steps p.tables e below (T9.setTop (mkF m 83 #[.val (.int p1), .val (.int p2), .val (.int p3), .val (.int p4), .val (.int p5), .val (.int p6), .val (.int ((p1 &&& (2147483647 : Int32)) % (100000 : Int32))), .val (.int ((p2 &&& (2147483647 : Int32)) % (100000 : Int32))), .val (.int L2), .val (.int B2), .val (.ref w1), .val (.ref w2), .unset, .unset, .unset, .unset] [(.ref b9)])) _
    refine XS.dup X9.here hx rfl (hb hby at_83) rfl rfl ?_
    show Steps p.tables e below (T9.setTop (mkF m 84 #[.val (.int p1), .val (.int p2), .val (.int p3), .val (.int p4), .val (.int p5), .val (.int p6), .val (.int ((p1 &&& (2147483647 : Int32)) % (100000 : Int32))), .val (.int ((p2 &&& (2147483647 : Int32)) % (100000 : Int32))), .val (.int L2), .val (.int B2), .val (.ref w1), .val (.ref w2), .unset, .unset, .unset, .unset] [(.ref b9), (.ref b9)])) _
    refine XS.iload X9.here hx rfl (hb hby at_84) rfl ?_
    show Steps p.tables e below (T9.setTop (mkF m 86 #[.val (.int p1), .val (.int p2), .val (.int p3), .val (.int p4), .val (.int p5), .val (.int p6), .val (.int ((p1 &&& (2147483647 : Int32)) % (100000 : Int32))), .val (.int ((p2 &&& (2147483647 : Int32)) % (100000 : Int32))), .val (.int L2), .val (.int B2), .val (.ref w1), .val (.ref w2), .unset, .unset, .unset, .unset] [(.int ((p1 &&& (2147483647 : Int32)) % (100000 : Int32))), (.ref b9), (.ref b9)])) _
    refine XS.aload X9.here hx rfl (hb hby at_86) rfl rfl ?_
    show Steps p.tables e below (T9.setTop (mkF m 88 #[.val (.int p1), .val (.int p2), .val (.int p3), .val (.int p4), .val (.int p5), .val (.int p6), .val (.int ((p1 &&& (2147483647 : Int32)) % (100000 : Int32))), .val (.int ((p2 &&& (2147483647 : Int32)) % (100000 : Int32))), .val (.int L2), .val (.int B2), .val (.ref w1), .val (.ref w2), .unset, .unset, .unset, .unset] [(.ref w1), (.int ((p1 &&& (2147483647 : Int32)) % (100000 : Int32))), (.ref b9), (.ref b9)])) _
    refine XS.iload X9.here hx rfl (hb hby at_88) rfl ?_
    show Steps p.tables e below (T9.setTop (mkF m 90 #[.val (.int p1), .val (.int p2), .val (.int p3), .val (.int p4), .val (.int p5), .val (.int p6), .val (.int ((p1 &&& (2147483647 : Int32)) % (100000 : Int32))), .val (.int ((p2 &&& (2147483647 : Int32)) % (100000 : Int32))), .val (.int L2), .val (.int B2), .val (.ref w1), .val (.ref w2), .unset, .unset, .unset, .unset] [(.int ((p2 &&& (2147483647 : Int32)) % (100000 : Int32))), (.ref w1), (.int ((p1 &&& (2147483647 : Int32)) % (100000 : Int32))), (.ref b9), (.ref b9)])) _
    refine st10.trans ?_
    show Steps p.tables e below (T10.setTop (mkF m 93 #[.val (.int p1), .val (.int p2), .val (.int p3), .val (.int p4), .val (.int p5), .val (.int p6), .val (.int ((p1 &&& (2147483647 : Int32)) % (100000 : Int32))), .val (.int ((p2 &&& (2147483647 : Int32)) % (100000 : Int32))), .val (.int L2), .val (.int B2), .val (.ref w1), .val (.ref w2), .unset, .unset, .unset, .unset] [(.ref b9)])) _
    refine XS.astore X10.here hx rfl (hb hby at_93) rfl rfl (l' := #[.val (.int p1), .val (.int p2), .val (.int p3), .val (.int p4), .val (.int p5), .val (.int p6), .val (.int ((p1 &&& (2147483647 : Int32)) % (100000 : Int32))), .val (.int ((p2 &&& (2147483647 : Int32)) % (100000 : Int32))), .val (.int L2), .val (.int B2), .val (.ref w1), .val (.ref w2), .val (.ref b9), .unset, .unset, .unset]) rfl ?_
    show Steps p.tables e below (T10.setTop (mkF m 95 #[.val (.int p1), .val (.int p2), .val (.int p3), .val (.int p4), .val (.int p5), .val (.int p6), .val (.int ((p1 &&& (2147483647 : Int32)) % (100000 : Int32))), .val (.int ((p2 &&& (2147483647 : Int32)) % (100000 : Int32))), .val (.int L2), .val (.int B2), .val (.ref w1), .val (.ref w2), .val (.ref b9), .unset, .unset, .unset] [])) _
    refine XS.iload X10.here hx rfl (hb hby at_95) rfl ?_
    show Steps p.tables e below (T10.setTop (mkF m 97 #[.val (.int p1), .val (.int p2), .val (.int p3), .val (.int p4), .val (.int p5), .val (.int p6), .val (.int ((p1 &&& (2147483647 : Int32)) % (100000 : Int32))), .val (.int ((p2 &&& (2147483647 : Int32)) % (100000 : Int32))), .val (.int L2), .val (.int B2), .val (.ref w1), .val (.ref w2), .val (.ref b9), .unset, .unset, .unset] [(.int p6)])) _
    refine XS.iconst X10.here hx rfl (hb hby at_97) ?_
    show Steps p.tables e below (T10.setTop (mkF m 98 #[.val (.int p1), .val (.int p2), .val (.int p3), .val (.int p4), .val (.int p5), .val (.int p6), .val (.int ((p1 &&& (2147483647 : Int32)) % (100000 : Int32))), .val (.int ((p2 &&& (2147483647 : Int32)) % (100000 : Int32))), .val (.int L2), .val (.int B2), .val (.ref w1), .val (.ref w2), .val (.ref b9), .unset, .unset, .unset] [(.int (2 : Int32)), (.int p6)])) _
    refine XS.iushr X10.here hx rfl (hb hby at_98) rfl ?_
    show Steps p.tables e below (T10.setTop (mkF m 99 #[.val (.int p1), .val (.int p2), .val (.int p3), .val (.int p4), .val (.int p5), .val (.int p6), .val (.int ((p1 &&& (2147483647 : Int32)) % (100000 : Int32))), .val (.int ((p2 &&& (2147483647 : Int32)) % (100000 : Int32))), .val (.int L2), .val (.int B2), .val (.ref w1), .val (.ref w2), .val (.ref b9), .unset, .unset, .unset] [(.int ((p6.toUInt32 >>> ((2 : Int32) &&& 31).toUInt32).toInt32))])) _
    refine XS.iconst X10.here hx rfl (hb hby at_99) ?_
    show Steps p.tables e below (T10.setTop (mkF m 100 #[.val (.int p1), .val (.int p2), .val (.int p3), .val (.int p4), .val (.int p5), .val (.int p6), .val (.int ((p1 &&& (2147483647 : Int32)) % (100000 : Int32))), .val (.int ((p2 &&& (2147483647 : Int32)) % (100000 : Int32))), .val (.int L2), .val (.int B2), .val (.ref w1), .val (.ref w2), .val (.ref b9), .unset, .unset, .unset] [(.int (3 : Int32)), (.int ((p6.toUInt32 >>> ((2 : Int32) &&& 31).toUInt32).toInt32))])) _
    refine XS.iand X10.here hx rfl (hb hby at_100) rfl ?_
    show Steps p.tables e below (T10.setTop (mkF m 101 #[.val (.int p1), .val (.int p2), .val (.int p3), .val (.int p4), .val (.int p5), .val (.int p6), .val (.int ((p1 &&& (2147483647 : Int32)) % (100000 : Int32))), .val (.int ((p2 &&& (2147483647 : Int32)) % (100000 : Int32))), .val (.int L2), .val (.int B2), .val (.ref w1), .val (.ref w2), .val (.ref b9), .unset, .unset, .unset] [(.int (((p6.toUInt32 >>> ((2 : Int32) &&& 31).toUInt32).toInt32) &&& (3 : Int32)))])) _
    refine XS.istore X10.here hx rfl (hb hby at_101) rfl (l' := #[.val (.int p1), .val (.int p2), .val (.int p3), .val (.int p4), .val (.int p5), .val (.int p6), .val (.int ((p1 &&& (2147483647 : Int32)) % (100000 : Int32))), .val (.int ((p2 &&& (2147483647 : Int32)) % (100000 : Int32))), .val (.int L2), .val (.int B2), .val (.ref w1), .val (.ref w2), .val (.ref b9), .val (.int (((p6.toUInt32 >>> ((2 : Int32) &&& 31).toUInt32).toInt32) &&& (3 : Int32))), .unset, .unset]) rfl ?_
    show Steps p.tables e below (T10.setTop (mkF m 103 #[.val (.int p1), .val (.int p2), .val (.int p3), .val (.int p4), .val (.int p5), .val (.int p6), .val (.int ((p1 &&& (2147483647 : Int32)) % (100000 : Int32))), .val (.int ((p2 &&& (2147483647 : Int32)) % (100000 : Int32))), .val (.int L2), .val (.int B2), .val (.ref w1), .val (.ref w2), .val (.ref b9), .val (.int (((p6.toUInt32 >>> ((2 : Int32) &&& 31).toUInt32).toInt32) &&& (3 : Int32))), .unset, .unset] [])) _
    refine XS.iload X10.here hx rfl (hb hby at_103) rfl ?_
    show Steps p.tables e below (T10.setTop (mkF m 105 #[.val (.int p1), .val (.int p2), .val (.int p3), .val (.int p4), .val (.int p5), .val (.int p6), .val (.int ((p1 &&& (2147483647 : Int32)) % (100000 : Int32))), .val (.int ((p2 &&& (2147483647 : Int32)) % (100000 : Int32))), .val (.int L2), .val (.int B2), .val (.ref w1), .val (.ref w2), .val (.ref b9), .val (.int (((p6.toUInt32 >>> ((2 : Int32) &&& 31).toUInt32).toInt32) &&& (3 : Int32))), .unset, .unset] [(.int (((p6.toUInt32 >>> ((2 : Int32) &&& 31).toUInt32).toInt32) &&& (3 : Int32)))])) _
    refine XS.iconst X10.here hx rfl (hb hby at_105) ?_
    show Steps p.tables e below (T10.setTop (mkF m 106 #[.val (.int p1), .val (.int p2), .val (.int p3), .val (.int p4), .val (.int p5), .val (.int p6), .val (.int ((p1 &&& (2147483647 : Int32)) % (100000 : Int32))), .val (.int ((p2 &&& (2147483647 : Int32)) % (100000 : Int32))), .val (.int L2), .val (.int B2), .val (.ref w1), .val (.ref w2), .val (.ref b9), .val (.int (((p6.toUInt32 >>> ((2 : Int32) &&& 31).toUInt32).toInt32) &&& (3 : Int32))), .unset, .unset] [(.int (1 : Int32)), (.int (((p6.toUInt32 >>> ((2 : Int32) &&& 31).toUInt32).toInt32) &&& (3 : Int32)))])) _
    refine XS.icmpNo X10.here hx rfl (hb hby at_106) rfl (teq hc106).2 ?_
    show Steps p.tables e below (T10.setTop (mkF m 109 #[.val (.int p1), .val (.int p2), .val (.int p3), .val (.int p4), .val (.int p5), .val (.int p6), .val (.int ((p1 &&& (2147483647 : Int32)) % (100000 : Int32))), .val (.int ((p2 &&& (2147483647 : Int32)) % (100000 : Int32))), .val (.int L2), .val (.int B2), .val (.ref w1), .val (.ref w2), .val (.ref b9), .val (.int (((p6.toUInt32 >>> ((2 : Int32) &&& 31).toUInt32).toInt32) &&& (3 : Int32))), .unset, .unset] [])) _
    refine XS.aload X10.here hx rfl (hb hby at_109) rfl rfl ?_
    show Steps p.tables e below (T10.setTop (mkF m 111 #[.val (.int p1), .val (.int p2), .val (.int p3), .val (.int p4), .val (.int p5), .val (.int p6), .val (.int ((p1 &&& (2147483647 : Int32)) % (100000 : Int32))), .val (.int ((p2 &&& (2147483647 : Int32)) % (100000 : Int32))), .val (.int L2), .val (.int B2), .val (.ref w1), .val (.ref w2), .val (.ref b9), .val (.int (((p6.toUInt32 >>> ((2 : Int32) &&& 31).toUInt32).toInt32) &&& (3 : Int32))), .unset, .unset] [(.ref b9)])) _
    refine XS.aconstNull X10.here hx rfl (hb hby at_111) ?_
    show Steps p.tables e below (T10.setTop (mkF m 112 #[.val (.int p1), .val (.int p2), .val (.int p3), .val (.int p4), .val (.int p5), .val (.int p6), .val (.int ((p1 &&& (2147483647 : Int32)) % (100000 : Int32))), .val (.int ((p2 &&& (2147483647 : Int32)) % (100000 : Int32))), .val (.int L2), .val (.int B2), .val (.ref w1), .val (.ref w2), .val (.ref b9), .val (.int (((p6.toUInt32 >>> ((2 : Int32) &&& 31).toUInt32).toInt32) &&& (3 : Int32))), .unset, .unset] [.null, (.ref b9)])) _
    refine st11.trans ?_
    show Steps p.tables e below (T11.setTop (mkF m 115 #[.val (.int p1), .val (.int p2), .val (.int p3), .val (.int p4), .val (.int p5), .val (.int p6), .val (.int ((p1 &&& (2147483647 : Int32)) % (100000 : Int32))), .val (.int ((p2 &&& (2147483647 : Int32)) % (100000 : Int32))), .val (.int L2), .val (.int B2), .val (.ref w1), .val (.ref w2), .val (.ref b9), .val (.int (((p6.toUInt32 >>> ((2 : Int32) &&& 31).toUInt32).toInt32) &&& (3 : Int32))), .unset, .unset] [(.int (0 : Int32))])) _
    refine XS.ifNo X11.here hx rfl (hb hby at_115) rfl ((if0 _ _).trans (teq (rfl : (0 : Int32) = (0 : Int32))).2) ?_
    show Steps p.tables e below (T11.setTop (mkF m 118 #[.val (.int p1), .val (.int p2), .val (.int p3), .val (.int p4), .val (.int p5), .val (.int p6), .val (.int ((p1 &&& (2147483647 : Int32)) % (100000 : Int32))), .val (.int ((p2 &&& (2147483647 : Int32)) % (100000 : Int32))), .val (.int L2), .val (.int B2), .val (.ref w1), .val (.ref w2), .val (.ref b9), .val (.int (((p6.toUInt32 >>> ((2 : Int32) &&& 31).toUInt32).toInt32) &&& (3 : Int32))), .unset, .unset] [])) _
    refine XS.iconst X11.here hx rfl (hb hby at_118) ?_
    show Steps p.tables e below (T11.setTop (mkF m 119 #[.val (.int p1), .val (.int p2), .val (.int p3), .val (.int p4), .val (.int p5), .val (.int p6), .val (.int ((p1 &&& (2147483647 : Int32)) % (100000 : Int32))), .val (.int ((p2 &&& (2147483647 : Int32)) % (100000 : Int32))), .val (.int L2), .val (.int B2), .val (.ref w1), .val (.ref w2), .val (.ref b9), .val (.int (((p6.toUInt32 >>> ((2 : Int32) &&& 31).toUInt32).toInt32) &&& (3 : Int32))), .unset, .unset] [(.int (1 : Int32))])) _
    refine XS.goto X11.here hx rfl (pc0 := 119) (pc' := 123) rfl (hb hby at_119) (by decide) (by decide) ?_
    show Steps p.tables e below (T11.setTop (mkF m 123 #[.val (.int p1), .val (.int p2), .val (.int p3), .val (.int p4), .val (.int p5), .val (.int p6), .val (.int ((p1 &&& (2147483647 : Int32)) % (100000 : Int32))), .val (.int ((p2 &&& (2147483647 : Int32)) % (100000 : Int32))), .val (.int L2), .val (.int B2), .val (.ref w1), .val (.ref w2), .val (.ref b9), .val (.int (((p6.toUInt32 >>> ((2 : Int32) &&& 31).toUInt32).toInt32) &&& (3 : Int32))), .unset, .unset] [(.int (1 : Int32))])) _
    exact retN X11 hx (t := .boolean) Bd.returns (by simp) (hb hby at_123) hr
  · show Q0 h0 n0 _ T11.heap _
    rw [eq11]
    exact ⟨rfl, N11⟩
theorem pd_0_6 : parseMethodDescriptor "(C)Ljava/lang/String;" = some ⟨[.char], some (.object "java/lang/String")⟩ := by decide +kernel
set_option maxRecDepth 65536 in
set_option maxHeartbeats 40000000 in
theorem rm0_tff (l : Launch) (Z : State) (a0 : Array Value) (hw : ∀ d ∈ tables_1, d.before a0 Z = true) (ws : List Jvm.Cond) (p1 : Int32) (p2 : Int32) (p3 : Int32) (p4 : Int32) (p5 : Int32) (p6 : Int32) (L2 : Int32) (B2 : Int32) (w1 w2 : Addr) (wC : Int32) (h0 : Heap) (n0 : Nat) (Z0 : n0 ≤ h0.size) (HL : (((p6 &&& (1 : Int32)) = (0 : Int32) ∧ L2 = (p3 &&& (2147483647 : Int32)) % (100000 : Int32)) ∨ (¬ (p6 &&& (1 : Int32)) = (0 : Int32) ∧ L2 = ((p1 &&& (2147483647 : Int32)) % (100000 : Int32))))) (HB : (((p6 &&& (2 : Int32)) = (0 : Int32) ∧ B2 = (p4 &&& (2147483647 : Int32)) % (100000 : Int32)) ∨ (¬ (p6 &&& (2 : Int32)) = (0 : Int32) ∧ B2 = ((p2 &&& (2147483647 : Int32)) % (100000 : Int32))))) (H1 : ((p5 &&& (3 : Int32)) = 0 ∧ Sta Z h0 "com/example/fieldwright/fieldwright/mater/RecordLabel$Status" "NEW" "Lcom/example/fieldwright/fieldwright/mater/RecordLabel$Status;" (.ref w1)) ∨ ((p5 &&& (3 : Int32)) = 1 ∧ Sta Z h0 "com/example/fieldwright/fieldwright/mater/RecordLabel$Status" "AMENDED" "Lcom/example/fieldwright/fieldwright/mater/RecordLabel$Status;" (.ref w1)) ∨ ((p5 &&& (3 : Int32)) = 2 ∧ Sta Z h0 "com/example/fieldwright/fieldwright/mater/RecordLabel$Status" "DELETED" "Lcom/example/fieldwright/fieldwright/mater/RecordLabel$Status;" (.ref w1)) ∨ ((p5 &&& (3 : Int32)) = 3 ∧ Sta Z h0 "com/example/fieldwright/fieldwright/mater/RecordLabel$Status" "INFORMATION" "Lcom/example/fieldwright/fieldwright/mater/RecordLabel$Status;" (.ref w1))) (H2 : ((((p5.toUInt32 >>> ((2 : Int32) &&& 31).toUInt32).toInt32) &&& (3 : Int32)) = 0 ∧ Sta Z h0 "com/example/fieldwright/fieldwright/mater/RecordLabel$Status" "NEW" "Lcom/example/fieldwright/fieldwright/mater/RecordLabel$Status;" (.ref w2)) ∨ ((((p5.toUInt32 >>> ((2 : Int32) &&& 31).toUInt32).toInt32) &&& (3 : Int32)) = 1 ∧ Sta Z h0 "com/example/fieldwright/fieldwright/mater/RecordLabel$Status" "AMENDED" "Lcom/example/fieldwright/fieldwright/mater/RecordLabel$Status;" (.ref w2)) ∨ ((((p5.toUInt32 >>> ((2 : Int32) &&& 31).toUInt32).toInt32) &&& (3 : Int32)) = 2 ∧ Sta Z h0 "com/example/fieldwright/fieldwright/mater/RecordLabel$Status" "DELETED" "Lcom/example/fieldwright/fieldwright/mater/RecordLabel$Status;" (.ref w2)) ∨ ((((p5.toUInt32 >>> ((2 : Int32) &&& 31).toUInt32).toInt32) &&& (3 : Int32)) = 3 ∧ Sta Z h0 "com/example/fieldwright/fieldwright/mater/RecordLabel$Status" "INFORMATION" "Lcom/example/fieldwright/fieldwright/mater/RecordLabel$Status;" (.ref w2))) (E1 : Exa Z h0 w1 "com/example/fieldwright/fieldwright/mater/RecordLabel$Status") (E2 : Exa Z h0 w2 "com/example/fieldwright/fieldwright/mater/RecordLabel$Status") (SC : Sta Z h0 "java/lang/String" "COMPACT_STRINGS" "Z" (.int wC)) (hC : ¬ (wC = (0 : Int32))) (RL : ¬ (L2 < (0 : Int32)) ∧ ¬ ((99999 : Int32) < L2)) (RB : ¬ (B2 < (0 : Int32)) ∧ ¬ ((99999 : Int32) < B2)) (hc106 : ¬ ((((p6.toUInt32 >>> ((2 : Int32) &&& 31).toUInt32).toInt32) &&& (3 : Int32)) = (1 : Int32))) (hc127 : (((p6.toUInt32 >>> ((2 : Int32) &&& 31).toUInt32).toInt32) &&& (3 : Int32)) = (2 : Int32)) :
    MetFree l x (head1 (Jvm.Cond.code x code maxLocals ret :: ws) room_1) (fun a U => a = #[(.int p1), (.int p2), (.int p3), (.int p4), (.int p5), (.int p6)] ∧ Z.Warmed39 U.vm ∧ U.heap = h0) (fun _ _ _ _ _ => True) (fun _ U o U' => ∃ v L, o = .returned v ∧ Q0 h0 n0 v U'.heap L ∧ ReturnedEndW U o U' L room_1.cells room_1.slots) := by
  refine MetFree.of_bodySF (plainFor_of_name pn_0) hisR ?_
  intro p e s m args below meth c s₁ Bd hml0 hP hK
  obtain ⟨rfl, hZ, hh⟩ := hP
  have hx := Bd.exec
  have hby := Bd.bytes
  have hml : c.maxLocals = 16 := hml0
  have hown : s.vm.findClass "com/example/fieldwright/fieldwright/mater/RecordLabelEqualsPinLaw" = some m.cls := findClass_of_methodNamed Bd.named
  have hnm := (name_of_methodNamed Bd.named Bd.method).1
  have X0 : Stand p l e room_1 s m #[(.int p1), (.int p2), (.int p3), (.int p4), (.int p5), (.int p6)] below meth c s₁ [] 0 0 := Stand.of_body Bd
  have e0 : s₁.heap = h0 := by rw [← hh, Bd.state]; rfl
  have N0 := Fr.nil n0
  have pre0 : ∀ t, Steps p.tables e below (s₁.setTop (mkF m 0 #[.val (.int p1), .val (.int p2), .val (.int p3), .val (.int p4), .val (.int p5), .val (.int p6), .unset, .unset, .unset, .unset, .unset, .unset, .unset, .unset, .unset, .unset] [])) t → Steps p.tables e below (s₁.setTop (entryFrame m #[(.int p1), (.int p2), (.int p3), (.int p4), (.int p5), (.int p6)] maxLocals)) t := fun t k => castTop (ef_0 m p1 p2 p3 p4 p5 p6) k
  have hZ00 := hZ
  have hown00 := hown
  have hS : s.Since s.vm h0.size := (State.WarmedH.refl s).since _
  have hk : h0.size ≤ h0.size := Nat.le_refl _
  obtain ⟨_, _, ⟨T7, L7, k7, n7⟩, -, X7, ⟨Lc7, hQ7, l7, y7, z7⟩, st7⟩ := Jvm.LawKit.callS X0 hx (y := (⟨"com/example/fieldwright/fieldwright/mater/RecordLabelEqualsPinLaw", "status", "(I)Lcom/example/fieldwright/fieldwright/mater/RecordLabel$Status;"⟩ : MethodName)) hown (mvT hZ (hw _ (List.mem_of_getElem? (i := 2) rfl))) (mvT hZ (hw _ (List.mem_of_getElem? (i := 3) rfl))) (mvT hZ (hw _ (List.mem_of_getElem? (i := 4) rfl))) (mvT hZ (hw _ (List.mem_of_getElem? (i := 5) rfl))) (by decide) (backOf (W := 0) (rm1 l Z a0 hw [] (p5 &&& (3 : Int32)) w1 h0 n0 Z0 H1) hZ (hw _ (List.mem_of_getElem? (i := 5) rfl)) (hw _ (List.mem_of_getElem? (i := 4) rfl)) (by decide) (by decide)) (g := (mkF m 64 #[.val (.int p1), .val (.int p2), .val (.int p3), .val (.int p4), .val (.int p5), .val (.int p6), .val (.int ((p1 &&& (2147483647 : Int32)) % (100000 : Int32))), .val (.int ((p2 &&& (2147483647 : Int32)) % (100000 : Int32))), .val (.int L2), .val (.int B2), .unset, .unset, .unset, .unset, .unset, .unset] [(.int (p5 &&& (3 : Int32)))])) rfl (by rw [hml]; rfl) (argsL := [(.int (p5 &&& (3 : Int32)))]) (rest := []) (lenOf pd_0_0 rfl) rfl (by show 2 * 0 + _ ≤ _; exact Nat.le_of_eq rfl) (hb hby at_64) (fun _ _ => ⟨rfl, e0, (by decide : 0 + 0 ≤ _), (by decide : 0 + 0 ≤ _)⟩)
  dsimp only [Pt.U, Pt.locs, Pt.cells, Pt.slots] at X7 l7 y7 z7 st7 hQ7
  subst l7 y7 z7
  obtain ⟨rfl, N7q, eq7⟩ := hQ7
  have N7 := Fr.app N0 N7q
  obtain ⟨_, _, ⟨T8, L8, k8, n8⟩, -, X8, ⟨Lc8, hQ8, l8, y8, z8⟩, st8⟩ := Jvm.LawKit.callS X7 hx (y := (⟨"com/example/fieldwright/fieldwright/mater/RecordLabelEqualsPinLaw", "status", "(I)Lcom/example/fieldwright/fieldwright/mater/RecordLabel$Status;"⟩ : MethodName)) hown (mvT hZ (hw _ (List.mem_of_getElem? (i := 2) rfl))) (mvT hZ (hw _ (List.mem_of_getElem? (i := 3) rfl))) (mvT hZ (hw _ (List.mem_of_getElem? (i := 4) rfl))) (mvT hZ (hw _ (List.mem_of_getElem? (i := 5) rfl))) (by decide) (backOf (W := 0) (rm1 l Z a0 hw [] (((p5.toUInt32 >>> ((2 : Int32) &&& 31).toUInt32).toInt32) &&& (3 : Int32)) w2 h0 n0 Z0 H2) hZ (hw _ (List.mem_of_getElem? (i := 5) rfl)) (hw _ (List.mem_of_getElem? (i := 4) rfl)) (by decide) (by decide)) (g := (mkF m 75 #[.val (.int p1), .val (.int p2), .val (.int p3), .val (.int p4), .val (.int p5), .val (.int p6), .val (.int ((p1 &&& (2147483647 : Int32)) % (100000 : Int32))), .val (.int ((p2 &&& (2147483647 : Int32)) % (100000 : Int32))), .val (.int L2), .val (.int B2), .val (.ref w1), .unset, .unset, .unset, .unset, .unset] [(.int (((p5.toUInt32 >>> ((2 : Int32) &&& 31).toUInt32).toInt32) &&& (3 : Int32)))])) rfl (by rw [hml]; rfl) (argsL := [(.int (((p5.toUInt32 >>> ((2 : Int32) &&& 31).toUInt32).toInt32) &&& (3 : Int32)))]) (rest := []) (lenOf pd_0_0 rfl) rfl (by show 2 * 0 + _ ≤ _; exact Nat.le_of_eq rfl) (hb hby at_75) (fun _ _ => ⟨rfl, eq7, (by decide : 0 + 0 ≤ _), (by decide : 0 + 0 ≤ _)⟩)
  dsimp only [Pt.U, Pt.locs, Pt.cells, Pt.slots] at X8 l8 y8 z8 st8 hQ8
  subst l8 y8 z8
  obtain ⟨rfl, N8q, eq8⟩ := hQ8
  have N8 := Fr.app N7 N8q
  obtain ⟨T9, h9, X9, e9, E9, A9, D9, -, st9⟩ := newO X8 hx hZ hown (hw _ (List.mem_of_getElem? (i := 9) rfl)) (hw _ (List.mem_of_getElem? (i := 10) rfl)) (hw _ (List.mem_of_getElem? (i := 11) rfl)) eq8 (g := (mkF m 80 #[.val (.int p1), .val (.int p2), .val (.int p3), .val (.int p4), .val (.int p5), .val (.int p6), .val (.int ((p1 &&& (2147483647 : Int32)) % (100000 : Int32))), .val (.int ((p2 &&& (2147483647 : Int32)) % (100000 : Int32))), .val (.int L2), .val (.int B2), .val (.ref w1), .val (.ref w2), .unset, .unset, .unset, .unset] [])) rfl (hb hby at_80) (by decide) (by decide)
  obtain ⟨b9, g9⟩ : ∃ z, z = h0.size := ⟨_, rfl⟩
  rw [← g9] at A9 D9 st9
  have F_recordLength_b9 : Fld Z h9 b9 "com/example/fieldwright/fieldwright/mater/RecordLabel" "recordLength" "I" (.int (0 : Int32)) := D9 (Or.inr (hw _ (List.mem_of_getElem? (i := 31) rfl))) (ty := .int) (by decide)
  have F_status_b9 : Fld Z h9 b9 "com/example/fieldwright/fieldwright/mater/RecordLabel" "status" "Lcom/example/fieldwright/fieldwright/mater/RecordLabel$Status;" .null := D9 (Or.inr (hw _ (List.mem_of_getElem? (i := 40) rfl))) (ty := (.object "com/example/fieldwright/fieldwright/mater/RecordLabel$Status")) (by decide)
  have F_baseAddress_b9 : Fld Z h9 b9 "com/example/fieldwright/fieldwright/mater/RecordLabel" "baseAddress" "I" (.int (0 : Int32)) := D9 (Or.inr (hw _ (List.mem_of_getElem? (i := 43) rfl))) (ty := .int) (by decide)
  have E_b9 := A9
  have g_b9 : n0 ≤ b9 := Nat.le_trans Z0 (Nat.le_of_eq g9.symm)
  have sz_b9 : h0.size ≤ b9 := (Nat.le_trans (Keep.refl h0 []).1 (Nat.le_of_eq g9.symm))
  have K9 : Keep h0 h9 [] := (Keep.refl h0 []).ext E9
  have hk := Nat.le_trans hk E9.1
  obtain ⟨_, _, ⟨T10, L10, k10, n10⟩, -, X10, hS10, hg10, ⟨Lc10, hQ10, l10, y10, z10⟩, st10⟩ := X9.specialBackS hx (y := (⟨"com/example/fieldwright/fieldwright/mater/RecordLabel", "<init>", "(ILcom/example/fieldwright/fieldwright/mater/RecordLabel$Status;I)V"⟩ : MethodName)) rfl hown (mvT hZ (hw _ (List.mem_of_getElem? (i := 12) rfl))) (mvT hZ (hw _ (List.mem_of_getElem? (i := 13) rfl))) (mvT hZ (hw _ (List.mem_of_getElem? (i := 14) rfl))) (by decide) (backOfS (W := 1) (rm2 l Z a0 hw [] b9 ((p1 &&& (2147483647 : Int32)) % (100000 : Int32)) w1 ((p2 &&& (2147483647 : Int32)) % (100000 : Int32)) (.int (0 : Int32)) .null (.int (0 : Int32)) h9 n0 (Nat.le_trans Z0 K9.1) (own_rng p1).1 (own_rng p1).2 (own_rng p2).1 (own_rng p2).2 E_b9 F_recordLength_b9 g_b9 (E1.keep K9) F_status_b9 F_baseAddress_b9) hZ (hw _ (List.mem_of_getElem? (i := 14) rfl)) (hw _ (List.mem_of_getElem? (i := 11) rfl)) (by decide) (by decide)) (g := (mkF m 90 #[.val (.int p1), .val (.int p2), .val (.int p3), .val (.int p4), .val (.int p5), .val (.int p6), .val (.int ((p1 &&& (2147483647 : Int32)) % (100000 : Int32))), .val (.int ((p2 &&& (2147483647 : Int32)) % (100000 : Int32))), .val (.int L2), .val (.int B2), .val (.ref w1), .val (.ref w2), .unset, .unset, .unset, .unset] [(.int ((p2 &&& (2147483647 : Int32)) % (100000 : Int32))), (.ref w1), (.int ((p1 &&& (2147483647 : Int32)) % (100000 : Int32))), (.ref b9), (.ref b9)])) rfl (by rw [hml]; rfl) (Steps.refl _) (a := b9) (argsL := [(.int ((p1 &&& (2147483647 : Int32)) % (100000 : Int32))), (.ref w1), (.int ((p2 &&& (2147483647 : Int32)) % (100000 : Int32)))]) (rest := [(.ref b9)]) (lenOf pd_0_1 rfl) rfl (by show 2 * 0 + _ ≤ _; exact Nat.le_of_eq rfl) (hb hby at_90) (fun _ _ => ⟨rfl, e9, (by decide : 1 + 6 ≤ _), (by decide : 3 + 136 ≤ _)⟩)
  dsimp only [Pt.U, Pt.locs, Pt.cells, Pt.slots] at X10 l10 y10 z10 st10 hQ10 hS10 hg10
  subst l10 y10 z10
  obtain ⟨rfl, N10q, Kq10, Eq10, F1_b9, F2_b9, F3_b9⟩ := hQ10
  have K10 : Keep h0 T10.heap [] := K9.trans Kq10 (fun x hx => by cases List.mem_singleton.mp hx; exact Or.inr sz_b9)
  have N10 := Fr.app N8 N10q
  obtain ⟨X10, hS, hZ, hown⟩ := rebS hS (show _ ≤ T9.heap.size by rw [e9]; exact hk) X10 hS10 hg10 hZ hown
  have hk := Nat.le_refl T10.heap.size
  obtain ⟨_, _, ⟨T11, L11, k11, n11⟩, -, X11, ⟨Lc11, hQ11, l11, y11, z11⟩, st11⟩ := Jvm.LawKit.callS X10 hx (y := (⟨"java/lang/String", "valueOf", "(C)Ljava/lang/String;"⟩ : MethodName)) hown (mvT hZ (hw _ (List.mem_of_getElem? (i := 57) rfl))) (mvT hZ (hw _ (List.mem_of_getElem? (i := 58) rfl))) (mvT hZ (hw _ (List.mem_of_getElem? (i := 19) rfl))) (mvT hZ (hw _ (List.mem_of_getElem? (i := 59) rfl))) (by decide) (backOf (W := 1) (rm7 l Z a0 hw [] ((p3 &&& (255 : Int32)).toUInt32.toUInt16.toUInt32.toInt32) wC T10.heap n0 (Nat.le_trans Z0 K10.1) (own_c255 p3) (own_stk SC K10) hC) hZ (hw _ (List.mem_of_getElem? (i := 59) rfl)) (hw _ (List.mem_of_getElem? (i := 19) rfl)) (by decide) (by decide)) (g := (mkF m 138 #[.val (.int p1), .val (.int p2), .val (.int p3), .val (.int p4), .val (.int p5), .val (.int p6), .val (.int ((p1 &&& (2147483647 : Int32)) % (100000 : Int32))), .val (.int ((p2 &&& (2147483647 : Int32)) % (100000 : Int32))), .val (.int L2), .val (.int B2), .val (.ref w1), .val (.ref w2), .val (.ref b9), .val (.int (((p6.toUInt32 >>> ((2 : Int32) &&& 31).toUInt32).toInt32) &&& (3 : Int32))), .unset, .unset] [(.int ((p3 &&& (255 : Int32)).toUInt32.toUInt16.toUInt32.toInt32)), (.ref b9)])) rfl (by rw [hml]; rfl) (argsL := [(.int ((p3 &&& (255 : Int32)).toUInt32.toUInt16.toUInt32.toInt32))]) (rest := [(.ref b9)]) (lenOf pd_0_6 rfl) rfl (by show 2 * 0 + _ ≤ _; exact Nat.le_of_eq rfl) (hb hby at_138) (fun _ _ => ⟨rfl, rfl, (by decide : 7 + 2 ≤ _), (by decide : 139 + 5 ≤ _)⟩)
  dsimp only [Pt.U, Pt.locs, Pt.cells, Pt.slots] at X11 l11 y11 z11 st11 hQ11
  subst l11 y11 z11
  obtain ⟨bS, rfl, N11q, Kq11, E_bS⟩ := hQ11
  have K11 : Keep h0 T11.heap [] := K10.trans Kq11 (fun x hx => nomatch hx)
  have hk := Nat.le_trans hk Kq11.1
  have N11 := Fr.app N10 N11q
  obtain ⟨cq12, kq12, q12a, q12b, q12c⟩ := isOf hZ rfl ((E_b9.keep Kq10).keep Kq11)
  obtain ⟨_, _, ⟨T12, L12, k12, n12⟩, -, X12, ⟨Lc12, hQ12, l12, y12, z12⟩, st12⟩ := X11.virtualBack hx (y := (⟨"com/example/fieldwright/fieldwright/mater/RecordLabel", "equals", "(Ljava/lang/Object;)Z"⟩ : MethodName)) (z := (⟨"com/example/fieldwright/fieldwright/mater/RecordLabel", "equals", "(Ljava/lang/Object;)Z"⟩ : MethodName)) hown (mvT hZ (hw _ (List.mem_of_getElem? (i := 44) rfl))) (mvT hZ (hw _ (List.mem_of_getElem? (i := 45) rfl))) (notFace_of_selects (args := #[]) (mvT hZ (hw _ (List.mem_of_getElem? (i := 47) rfl)))) (mvT hZ (hw _ (List.mem_of_getElem? (i := 47) rfl))) (mvT hZ (hw _ (List.mem_of_getElem? (i := 46) rfl))) (by decide) (backOf (W := 0) (rm6_str l Z a0 hw [] b9 bS T11.heap n0 (Nat.le_trans Z0 K11.1) E_bS (own_noInst hw)) hZ (hw _ (List.mem_of_getElem? (i := 48) rfl)) (hw _ (List.mem_of_getElem? (i := 11) rfl)) (by decide) (by decide)) q12a q12c (g := (mkF m 141 #[.val (.int p1), .val (.int p2), .val (.int p3), .val (.int p4), .val (.int p5), .val (.int p6), .val (.int ((p1 &&& (2147483647 : Int32)) % (100000 : Int32))), .val (.int ((p2 &&& (2147483647 : Int32)) % (100000 : Int32))), .val (.int L2), .val (.int B2), .val (.ref w1), .val (.ref w2), .val (.ref b9), .val (.int (((p6.toUInt32 >>> ((2 : Int32) &&& 31).toUInt32).toInt32) &&& (3 : Int32))), .unset, .unset] [(.ref bS), (.ref b9)])) rfl (by rw [hml]; rfl) (Steps.refl _) (argsL := [(.ref bS)]) (rest := []) (lenOf pd_0_5 rfl) rfl (by show 2 * 0 + _ ≤ _; exact Nat.le_of_eq rfl) (hb hby at_141) (fun _ _ => ⟨rfl, rfl, (by decide : 9 + 0 ≤ _), (by decide : 144 + 0 ≤ _)⟩)
  dsimp only [Pt.U, Pt.locs, Pt.cells, Pt.slots] at X12 l12 y12 z12 st12 hQ12
  subst l12 y12 z12
  obtain ⟨rfl, N12q, eq12⟩ := hQ12
  have N12 := Fr.app N11 N12q
  obtain ⟨fs, hr, hrun, hended, hW1, hW2, hW3, hsame⟩ := X12.leaveW hS (show _ ≤ T12.heap.size by rw [eq12]; exact hk) (v := some (.int (1 : Int32))) (fun h => by rw [Bd.returns] at h; cases h)
  refine ⟨_, _, pre0 _ ?_, hrun, hended, _, _, rfl, ?_, hW1, hW2, hW3, hsame.mono (by decide) (by decide)⟩
  · show Steps p.tables e below (s₁.setTop (mkF m 0 #[.val (.int p1), .val (.int p2), .val (.int p3), .val (.int p4), .val (.int p5), .val (.int p6), .unset, .unset, .unset, .unset, .unset, .unset, .unset, .unset, .unset, .unset] [])) _
    refine XS.iloadN X0.here hx rfl (hb hby at_0) rfl ?_
    show Steps p.tables e below (s₁.setTop (mkF m 1 #[.val (.int p1), .val (.int p2), .val (.int p3), .val (.int p4), .val (.int p5), .val (.int p6), .unset, .unset, .unset, .unset, .unset, .unset, .unset, .unset, .unset, .unset] [(.int p1)])) _
    refine X0.ldcInt hx hown00 (mvT hZ00 (hw _ (List.mem_of_getElem? (i := 0) rfl))) (g := (mkF m 1 #[.val (.int p1), .val (.int p2), .val (.int p3), .val (.int p4), .val (.int p5), .val (.int p6), .unset, .unset, .unset, .unset, .unset, .unset, .unset, .unset, .unset, .unset] [(.int p1)])) rfl (hb hby at_1) _ ?_
    show Steps p.tables e below (s₁.setTop (mkF m 3 #[.val (.int p1), .val (.int p2), .val (.int p3), .val (.int p4), .val (.int p5), .val (.int p6), .unset, .unset, .unset, .unset, .unset, .unset, .unset, .unset, .unset, .unset] [(.int (2147483647 : Int32)), (.int p1)])) _
    refine XS.iand X0.here hx rfl (hb hby at_3) rfl ?_
    show Steps p.tables e below (s₁.setTop (mkF m 4 #[.val (.int p1), .val (.int p2), .val (.int p3), .val (.int p4), .val (.int p5), .val (.int p6), .unset, .unset, .unset, .unset, .unset, .unset, .unset, .unset, .unset, .unset] [(.int (p1 &&& (2147483647 : Int32)))])) _
    refine X0.ldcInt hx hown00 (mvT hZ00 (hw _ (List.mem_of_getElem? (i := 1) rfl))) (g := (mkF m 4 #[.val (.int p1), .val (.int p2), .val (.int p3), .val (.int p4), .val (.int p5), .val (.int p6), .unset, .unset, .unset, .unset, .unset, .unset, .unset, .unset, .unset, .unset] [(.int (p1 &&& (2147483647 : Int32)))])) rfl (hb hby at_4) _ ?_
    show Steps p.tables e below (s₁.setTop (mkF m 6 #[.val (.int p1), .val (.int p2), .val (.int p3), .val (.int p4), .val (.int p5), .val (.int p6), .unset, .unset, .unset, .unset, .unset, .unset, .unset, .unset, .unset, .unset] [(.int (100000 : Int32)), (.int (p1 &&& (2147483647 : Int32)))])) _
    refine iremM X0 hx rfl (hb hby at_6) rfl (by decide) ?_
    show Steps p.tables e below (s₁.setTop (mkF m 7 #[.val (.int p1), .val (.int p2), .val (.int p3), .val (.int p4), .val (.int p5), .val (.int p6), .unset, .unset, .unset, .unset, .unset, .unset, .unset, .unset, .unset, .unset] [(.int ((p1 &&& (2147483647 : Int32)) % (100000 : Int32)))])) _
    refine XS.istore X0.here hx rfl (hb hby at_7) rfl (l' := #[.val (.int p1), .val (.int p2), .val (.int p3), .val (.int p4), .val (.int p5), .val (.int p6), .val (.int ((p1 &&& (2147483647 : Int32)) % (100000 : Int32))), .unset, .unset, .unset, .unset, .unset, .unset, .unset, .unset, .unset]) rfl ?_
    show Steps p.tables e below (s₁.setTop (mkF m 9 #[.val (.int p1), .val (.int p2), .val (.int p3), .val (.int p4), .val (.int p5), .val (.int p6), .val (.int ((p1 &&& (2147483647 : Int32)) % (100000 : Int32))), .unset, .unset, .unset, .unset, .unset, .unset, .unset, .unset, .unset] [])) _
    refine XS.iloadN X0.here hx rfl (hb hby at_9) rfl ?_
    show Steps p.tables e below (s₁.setTop (mkF m 10 #[.val (.int p1), .val (.int p2), .val (.int p3), .val (.int p4), .val (.int p5), .val (.int p6), .val (.int ((p1 &&& (2147483647 : Int32)) % (100000 : Int32))), .unset, .unset, .unset, .unset, .unset, .unset, .unset, .unset, .unset] [(.int p2)])) _
    refine X0.ldcInt hx hown00 (mvT hZ00 (hw _ (List.mem_of_getElem? (i := 0) rfl))) (g := (mkF m 10 #[.val (.int p1), .val (.int p2), .val (.int p3), .val (.int p4), .val (.int p5), .val (.int p6), .val (.int ((p1 &&& (2147483647 : Int32)) % (100000 : Int32))), .unset, .unset, .unset, .unset, .unset, .unset, .unset, .unset, .unset] [(.int p2)])) rfl (hb hby at_10) _ ?_
    show Steps p.tables e below (s₁.setTop (mkF m 12 #[.val (.int p1), .val (.int p2), .val (.int p3), .val (.int p4), .val (.int p5), .val (.int p6), .val (.int ((p1 &&& (2147483647 : Int32)) % (100000 : Int32))), .unset, .unset, .unset, .unset, .unset, .unset, .unset, .unset, .unset] [(.int (2147483647 : Int32)), (.int p2)])) _
    refine XS.iand X0.here hx rfl (hb hby at_12) rfl ?_
    show Steps p.tables e below (s₁.setTop (mkF m 13 #[.val (.int p1), .val (.int p2), .val (.int p3), .val (.int p4), .val (.int p5), .val (.int p6), .val (.int ((p1 &&& (2147483647 : Int32)) % (100000 : Int32))), .unset, .unset, .unset, .unset, .unset, .unset, .unset, .unset, .unset] [(.int (p2 &&& (2147483647 : Int32)))])) _
    refine X0.ldcInt hx hown00 (mvT hZ00 (hw _ (List.mem_of_getElem? (i := 1) rfl))) (g := (mkF m 13 #[.val (.int p1), .val (.int p2), .val (.int p3), .val (.int p4), .val (.int p5), .val (.int p6), .val (.int ((p1 &&& (2147483647 : Int32)) % (100000 : Int32))), .unset, .unset, .unset, .unset, .unset, .unset, .unset, .unset, .unset] [(.int (p2 &&& (2147483647 : Int32)))])) rfl (hb hby at_13) _ ?_
    show Steps p.tables e below (s₁.setTop (mkF m 15 #[.val (.int p1), .val (.int p2), .val (.int p3), .val (.int p4), .val (.int p5), .val (.int p6), .val (.int ((p1 &&& (2147483647 : Int32)) % (100000 : Int32))), .unset, .unset, .unset, .unset, .unset, .unset, .unset, .unset, .unset] [(.int (100000 : Int32)), (.int (p2 &&& (2147483647 : Int32)))])) _
    refine iremM X0 hx rfl (hb hby at_15) rfl (by decide) ?_
    show Steps p.tables e below (s₁.setTop (mkF m 16 #[.val (.int p1), .val (.int p2), .val (.int p3), .val (.int p4), .val (.int p5), .val (.int p6), .val (.int ((p1 &&& (2147483647 : Int32)) % (100000 : Int32))), .unset, .unset, .unset, .unset, .unset, .unset, .unset, .unset, .unset] [(.int ((p2 &&& (2147483647 : Int32)) % (100000 : Int32)))])) _
    refine XS.istore X0.here hx rfl (hb hby at_16) rfl (l' := #[.val (.int p1), .val (.int p2), .val (.int p3), .val (.int p4), .val (.int p5), .val (.int p6), .val (.int ((p1 &&& (2147483647 : Int32)) % (100000 : Int32))), .val (.int ((p2 &&& (2147483647 : Int32)) % (100000 : Int32))), .unset, .unset, .unset, .unset, .unset, .unset, .unset, .unset]) rfl ?_
    show Steps p.tables e below (s₁.setTop (mkF m 18 #[.val (.int p1), .val (.int p2), .val (.int p3), .val (.int p4), .val (.int p5), .val (.int p6), .val (.int ((p1 &&& (2147483647 : Int32)) % (100000 : Int32))), .val (.int ((p2 &&& (2147483647 : Int32)) % (100000 : Int32))), .unset, .unset, .unset, .unset, .unset, .unset, .unset, .unset] [])) _
    refine seg18 X0 hx hZ00 hw hby hml hown00 p1 p2 p3 p4 p5 p6 ((p1 &&& (2147483647 : Int32)) % (100000 : Int32)) ((p2 &&& (2147483647 : Int32)) % (100000 : Int32)) L2 HL ?_
    show Steps p.tables e below (s₁.setTop (mkF m 39 #[.val (.int p1), .val (.int p2), .val (.int p3), .val (.int p4), .val (.int p5), .val (.int p6), .val (.int ((p1 &&& (2147483647 : Int32)) % (100000 : Int32))), .val (.int ((p2 &&& (2147483647 : Int32)) % (100000 : Int32))), .val (.int L2), .unset, .unset, .unset, .unset, .unset, .unset, .unset] [])) _
    refine seg39 X0 hx hZ00 hw hby hml hown00 p1 p2 p3 p4 p5 p6 ((p1 &&& (2147483647 : Int32)) % (100000 : Int32)) ((p2 &&& (2147483647 : Int32)) % (100000 : Int32)) L2 B2 HB ?_
    show Steps p.tables e below (s₁.setTop (mkF m 60 #[.val (.int p1), .val (.int p2), .val (.int p3), .val (.int p4), .val (.int p5), .val (.int p6), .val (.int ((p1 &&& (2147483647 : Int32)) % (100000 : Int32))), .val (.int ((p2 &&& (2147483647 : Int32)) % (100000 : Int32))), .val (.int L2), .val (.int B2), .unset, .unset, .unset, .unset, .unset, .unset] [])) _
    refine XS.iload X0.here hx rfl (hb hby at_60) rfl ?_
    show Steps p.tables e below (s₁.setTop (mkF m 62 #[.val (.int p1), .val (.int p2), .val (.int p3), .val (.int p4), .val (.int p5), .val (.int p6), .val (.int ((p1 &&& (2147483647 : Int32)) % (100000 : Int32))), .val (.int ((p2 &&& (2147483647 : Int32)) % (100000 : Int32))), .val (.int L2), .val (.int B2), .unset, .unset, .unset, .unset, .unset, .unset] [(.int p5)])) _
    refine XS.iconst X0.here hx rfl (hb hby at_62) ?_
    show Steps p.tables e below (s₁.setTop (mkF m 63 #[.val (.int p1), .val (.int p2), .val (.int p3), .val (.int p4), .val (.int p5), .val (.int p6), .val (.int ((p1 &&& (2147483647 : Int32)) % (100000 : Int32))), .val (.int ((p2 &&& (2147483647 : Int32)) % (100000 : Int32))), .val (.int L2), .val (.int B2), .unset, .unset, .unset, .unset, .unset, .unset] [(.int (3 : Int32)), (.int p5)])) _
    refine XS.iand X0.here hx rfl (hb hby at_63) rfl ?_
    show Steps p.tables e below (s₁.setTop (mkF m 64 #[.val (.int p1), .val (.int p2), .val (.int p3), .val (.int p4), .val (.int p5), .val (.int p6), .val (.int ((p1 &&& (2147483647 : Int32)) % (100000 : Int32))), .val (.int ((p2 &&& (2147483647 : Int32)) % (100000 : Int32))), .val (.int L2), .val (.int B2), .unset, .unset, .unset, .unset, .unset, .unset] [(.int (p5 &&& (3 : Int32)))])) _
    refine st7 _ ?_
    show Steps p.tables e below (T7.setTop (mkF m 67 #[.val (.int p1), .val (.int p2), .val (.int p3), .val (.int p4), .val (.int p5), .val (.int p6), .val (.int ((p1 &&& (2147483647 : Int32)) % (100000 : Int32))), .val (.int ((p2 &&& (2147483647 : Int32)) % (100000 : Int32))), .val (.int L2), .val (.int B2), .unset, .unset, .unset, .unset, .unset, .unset] [(.ref w1)])) _
    refine XS.astore X7.here hx rfl (hb hby at_67) rfl rfl (l' := #[.val (.int p1), .val (.int p2), .val (.int p3), .val (.int p4), .val (.int p5), .val (.int p6), .val (.int ((p1 &&& (2147483647 : Int32)) % (100000 : Int32))), .val (.int ((p2 &&& (2147483647 : Int32)) % (100000 : Int32))), .val (.int L2), .val (.int B2), .val (.ref w1), .unset, .unset, .unset, .unset, .unset]) rfl ?_
    show Steps p.tables e below (T7.setTop (mkF m 69 #[.val (.int p1), .val (.int p2), .val (.int p3), .val (.int p4), .val (.int p5), .val (.int p6), .val (.int ((p1 &&& (2147483647 : Int32)) % (100000 : Int32))), .val (.int ((p2 &&& (2147483647 : Int32)) % (100000 : Int32))), .val (.int L2), .val (.int B2), .val (.ref w1), .unset, .unset, .unset, .unset, .unset] [])) _
    refine XS.iload X7.here hx rfl (hb hby at_69) rfl ?_
    show Steps p.tables e below (T7.setTop (mkF m 71 #[.val (.int p1), .val (.int p2), .val (.int p3), .val (.int p4), .val (.int p5), .val (.int p6), .val (.int ((p1 &&& (2147483647 : Int32)) % (100000 : Int32))), .val (.int ((p2 &&& (2147483647 : Int32)) % (100000 : Int32))), .val (.int L2), .val (.int B2), .val (.ref w1), .unset, .unset, .unset, .unset, .unset] [(.int p5)])) _
    refine XS.iconst X7.here hx rfl (hb hby at_71) ?_
    show Steps p.tables e below (T7.setTop (mkF m 72 #[.val (.int p1), .val (.int p2), .val (.int p3), .val (.int p4), .val (.int p5), .val (.int p6), .val (.int ((p1 &&& (2147483647 : Int32)) % (100000 : Int32))), .val (.int ((p2 &&& (2147483647 : Int32)) % (100000 : Int32))), .val (.int L2), .val (.int B2), .val (.ref w1), .unset, .unset, .unset, .unset, .unset] [(.int (2 : Int32)), (.int p5)])) _
    refine XS.iushr X7.here hx rfl (hb hby at_72) rfl ?_
    show Steps p.tables e below (T7.setTop (mkF m 73 #[.val (.int p1), .val (.int p2), .val (.int p3), .val (.int p4), .val (.int p5), .val (.int p6), .val (.int ((p1 &&& (2147483647 : Int32)) % (100000 : Int32))), .val (.int ((p2 &&& (2147483647 : Int32)) % (100000 : Int32))), .val (.int L2), .val (.int B2), .val (.ref w1), .unset, .unset, .unset, .unset, .unset] [(.int ((p5.toUInt32 >>> ((2 : Int32) &&& 31).toUInt32).toInt32))])) _
    refine XS.iconst X7.here hx rfl (hb hby at_73) ?_
    show Steps p.tables e below (T7.setTop (mkF m 74 #[.val (.int p1), .val (.int p2), .val (.int p3), .val (.int p4), .val (.int p5), .val (.int p6), .val (.int ((p1 &&& (2147483647 : Int32)) % (100000 : Int32))), .val (.int ((p2 &&& (2147483647 : Int32)) % (100000 : Int32))), .val (.int L2), .val (.int B2), .val (.ref w1), .unset, .unset, .unset, .unset, .unset] [(.int (3 : Int32)), (.int ((p5.toUInt32 >>> ((2 : Int32) &&& 31).toUInt32).toInt32))])) _
    refine XS.iand X7.here hx rfl (hb hby at_74) rfl ?_
    show Steps p.tables e below (T7.setTop (mkF m 75 #[.val (.int p1), .val (.int p2), .val (.int p3), .val (.int p4), .val (.int p5), .val (.int p6), .val (.int ((p1 &&& (2147483647 : Int32)) % (100000 : Int32))), .val (.int ((p2 &&& (2147483647 : Int32)) % (100000 : Int32))), .val (.int L2), .val (.int B2), .val (.ref w1), .unset, .unset, .unset, .unset, .unset] [(.int (((p5.toUInt32 >>> ((2 : Int32) &&& 31).toUInt32).toInt32) &&& (3 : Int32)))])) _
    refine st8 _ ?_
    show Steps p.tables e below (T8.setTop (mkF m 78 #[.val (.int p1), .val (.int p2), .val (.int p3), .val (.int p4), .val (.int p5), .val (.int p6), .val (.int ((p1 &&& (2147483647 : Int32)) % (100000 : Int32))), .val (.int ((p2 &&& (2147483647 : Int32)) % (100000 : Int32))), .val (.int L2), .val (.int B2), .val (.ref w1), .unset, .unset, .unset, .unset, .unset] [(.ref w2)])) _
    refine XS.astore X8.here hx rfl (hb hby at_78) rfl rfl (l' := #[.val (.int p1), .val (.int p2), .val (.int p3), .val (.int p4), .val (.int p5), .val (.int p6), .val (.int ((p1 &&& (2147483647 : Int32)) % (100000 : Int32))), .val (.int ((p2 &&& (2147483647 : Int32)) % (100000 : Int32))), .val (.int L2), .val (.int B2), .val (.ref w1), .val (.ref w2), .unset, .unset, .unset, .unset]) rfl ?_
    show Steps p.tables e below (T8.setTop (mkF m 80 #[.val (.int p1), .val (.int p2), .val (.int p3), .val (.int p4), .val (.int p5), .val (.int p6), .val (.int ((p1 &&& (2147483647 : Int32)) % (100000 : Int32))), .val (.int ((p2 &&& (2147483647 : Int32)) % (100000 : Int32))), .val (.int L2), .val (.int B2), .val (.ref w1), .val (.ref w2), .unset, .unset, .unset, .unset] [])) _
    refine st9 _ ?_
    show Steps p.tables e below (T9.setTop (mkF m 83 #[.val (.int p1), .val (.int p2), .val (.int p3), .val (.int p4), .val (.int p5), .val (.int p6), .val (.int ((p1 &&& (2147483647 : Int32)) % (100000 : Int32))), .val (.int ((p2 &&& (2147483647 : Int32)) % (100000 : Int32))), .val (.int L2), .val (.int B2), .val (.ref w1), .val (.ref w2), .unset, .unset, .unset, .unset] [(.ref b9)])) _
    refine XS.dup X9.here hx rfl (hb hby at_83) rfl rfl ?_
    show Steps p.tables e below (T9.setTop (mkF m 84 #[.val (.int p1), .val (.int p2), .val (.int p3), .val (.int p4), .val (.int p5), .val (.int p6), .val (.int ((p1 &&& (2147483647 : Int32)) % (100000 : Int32))), .val (.int ((p2 &&& (2147483647 : Int32)) % (100000 : Int32))), .val (.int L2), .val (.int B2), .val (.ref w1), .val (.ref w2), .unset, .unset, .unset, .unset] [(.ref b9), (.ref b9)])) _
    refine XS.iload X9.here hx rfl (hb hby at_84) rfl ?_
    show Steps p.tables e below (T9.setTop (mkF m 86 #[.val (.int p1), .val (.int p2), .val (.int p3), .val (.int p4), .val (.int p5), .val (.int p6), .val (.int ((p1 &&& (2147483647 : Int32)) % (100000 : Int32))), .val (.int ((p2 &&& (2147483647 : Int32)) % (100000 : Int32))), .val (.int L2), .val (.int B2), .val (.ref w1), .val (.ref w2), .unset, .unset, .unset, .unset] [(.int ((p1 &&& (2147483647 : Int32)) % (100000 : Int32))), (.ref b9), (.ref b9)])) _
    refine XS.aload X9.here hx rfl (hb hby at_86) rfl rfl ?_
    show Steps p.tables e below (T9.setTop (mkF m 88 #[.val (.int p1), .val (.int p2), .val (.int p3), .val (.int p4), .val (.int p5), .val (.int p6), .val (.int ((p1 &&& (2147483647 : Int32)) % (100000 : Int32))), .val (.int ((p2 &&& (2147483647 : Int32)) % (100000 : Int32))), .val (.int L2), .val (.int B2), .val (.ref w1), .val (.ref w2), .unset, .unset, .unset, .unset] [(.ref w1), (.int ((p1 &&& (2147483647 : Int32)) % (100000 : Int32))), (.ref b9), (.ref b9)])) _
    refine XS.iload X9.here hx rfl (hb hby at_88) rfl ?_
    show Steps p.tables e below (T9.setTop (mkF m 90 #[.val (.int p1), .val (.int p2), .val (.int p3), .val (.int p4), .val (.int p5), .val (.int p6), .val (.int ((p1 &&& (2147483647 : Int32)) % (100000 : Int32))), .val (.int ((p2 &&& (2147483647 : Int32)) % (100000 : Int32))), .val (.int L2), .val (.int B2), .val (.ref w1), .val (.ref w2), .unset, .unset, .unset, .unset] [(.int ((p2 &&& (2147483647 : Int32)) % (100000 : Int32))), (.ref w1), (.int ((p1 &&& (2147483647 : Int32)) % (100000 : Int32))), (.ref b9), (.ref b9)])) _
    refine st10.trans ?_
    show Steps p.tables e below (T10.setTop (mkF m 93 #[.val (.int p1), .val (.int p2), .val (.int p3), .val (.int p4), .val (.int p5), .val (.int p6), .val (.int ((p1 &&& (2147483647 : Int32)) % (100000 : Int32))), .val (.int ((p2 &&& (2147483647 : Int32)) % (100000 : Int32))), .val (.int L2), .val (.int B2), .val (.ref w1), .val (.ref w2), .unset, .unset, .unset, .unset] [(.ref b9)])) _
    refine XS.astore X10.here hx rfl (hb hby at_93) rfl rfl (l' := #[.val (.int p1), .val (.int p2), .val (.int p3), .val (.int p4), .val (.int p5), .val (.int p6), .val (.int ((p1 &&& (2147483647 : Int32)) % (100000 : Int32))), .val (.int ((p2 &&& (2147483647 : Int32)) % (100000 : Int32))), .val (.int L2), .val (.int B2), .val (.ref w1), .val (.ref w2), .val (.ref b9), .unset, .unset, .unset]) rfl ?_
    show Steps p.tables e below (T10.setTop (mkF m 95 #[.val (.int p1), .val (.int p2), .val (.int p3), .val (.int p4), .val (.int p5), .val (.int p6), .val (.int ((p1 &&& (2147483647 : Int32)) % (100000 : Int32))), .val (.int ((p2 &&& (2147483647 : Int32)) % (100000 : Int32))), .val (.int L2), .val (.int B2), .val (.ref w1), .val (.ref w2), .val (.ref b9), .unset, .unset, .unset] [])) _
    refine XS.iload X10.here hx rfl (hb hby at_95) rfl ?_
    show Steps p.tables e below (T10.setTop (mkF m 97 #[.val (.int p1), .val (.int p2), .val (.int p3), .val (.int p4), .val (.int p5), .val (.int p6), .val (.int ((p1 &&& (2147483647 : Int32)) % (100000 : Int32))), .val (.int ((p2 &&& (2147483647 : Int32)) % (100000 : Int32))), .val (.int L2), .val (.int B2), .val (.ref w1), .val (.ref w2), .val (.ref b9), .unset, .unset, .unset] [(.int p6)])) _
    refine XS.iconst X10.here hx rfl (hb hby at_97) ?_
    show Steps p.tables e below (T10.setTop (mkF m 98 #[.val (.int p1), .val (.int p2), .val (.int p3), .val (.int p4), .val (.int p5), .val (.int p6), .val (.int ((p1 &&& (2147483647 : Int32)) % (100000 : Int32))), .val (.int ((p2 &&& (2147483647 : Int32)) % (100000 : Int32))), .val (.int L2), .val (.int B2), .val (.ref w1), .val (.ref w2), .val (.ref b9), .unset, .unset, .unset] [(.int (2 : Int32)), (.int p6)])) _
    refine XS.iushr X10.here hx rfl (hb hby at_98) rfl ?_
    show Steps p.tables e below (T10.setTop (mkF m 99 #[.val (.int p1), .val (.int p2), .val (.int p3), .val (.int p4), .val (.int p5), .val (.int p6), .val (.int ((p1 &&& (2147483647 : Int32)) % (100000 : Int32))), .val (.int ((p2 &&& (2147483647 : Int32)) % (100000 : Int32))), .val (.int L2), .val (.int B2), .val (.ref w1), .val (.ref w2), .val (.ref b9), .unset, .unset, .unset] [(.int ((p6.toUInt32 >>> ((2 : Int32) &&& 31).toUInt32).toInt32))])) _
    refine XS.iconst X10.here hx rfl (hb hby at_99) ?_
    show Steps p.tables e below (T10.setTop (mkF m 100 #[.val (.int p1), .val (.int p2), .val (.int p3), .val (.int p4), .val (.int p5), .val (.int p6), .val (.int ((p1 &&& (2147483647 : Int32)) % (100000 : Int32))), .val (.int ((p2 &&& (2147483647 : Int32)) % (100000 : Int32))), .val (.int L2), .val (.int B2), .val (.ref w1), .val (.ref w2), .val (.ref b9), .unset, .unset, .unset] [(.int (3 : Int32)), (.int ((p6.toUInt32 >>> ((2 : Int32) &&& 31).toUInt32).toInt32))])) _
    refine XS.iand X10.here hx rfl (hb hby at_100) rfl ?_
    show Steps p.tables e below (T10.setTop (mkF m 101 #[.val (.int p1), .val (.int p2), .val (.int p3), .val (.int p4), .val (.int p5), .val (.int p6), .val (.int ((p1 &&& (2147483647 : Int32)) % (100000 : Int32))), .val (.int ((p2 &&& (2147483647 : Int32)) % (100000 : Int32))), .val (.int L2), .val (.int B2), .val (.ref w1), .val (.ref w2), .val (.ref b9), .unset, .unset, .unset] [(.int (((p6.toUInt32 >>> ((2 : Int32) &&& 31).toUInt32).toInt32) &&& (3 : Int32)))])) _
    refine XS.istore X10.here hx rfl (hb hby at_101) rfl (l' := #[.val (.int p1), .val (.int p2), .val (.int p3), .val (.int p4), .val (.int p5), .val (.int p6), .val (.int ((p1 &&& (2147483647 : Int32)) % (100000 : Int32))), .val (.int ((p2 &&& (2147483647 : Int32)) % (100000 : Int32))), .val (.int L2), .val (.int B2), .val (.ref w1), .val (.ref w2), .val (.ref b9), .val (.int (((p6.toUInt32 >>> ((2 : Int32) &&& 31).toUInt32).toInt32) &&& (3 : Int32))), .unset, .unset]) rfl ?_
    show Steps p.tables e below (T10.setTop (mkF m 103 #[.val (.int p1), .val (.int p2), .val (.int p3), .val (.int p4), .val (.int p5), .val (.int p6), .val (.int ((p1 &&& (2147483647 : Int32)) % (100000 : Int32))), .val (.int ((p2 &&& (2147483647 : Int32)) % (100000 : Int32))), .val (.int L2), .val (.int B2), .val (.ref w1), .val (.ref w2), .val (.ref b9), .val (.int (((p6.toUInt32 >>> ((2 : Int32) &&& 31).toUInt32).toInt32) &&& (3 : Int32))), .unset, .unset] [])) _
    refine XS.iload X10.here hx rfl (hb hby at_103) rfl ?_
    show Steps p.tables e below (T10.setTop (mkF m 105 #[.val (.int p1), .val (.int p2), .val (.int p3), .val (.int p4), .val (.int p5), .val (.int p6), .val (.int ((p1 &&& (2147483647 : Int32)) % (100000 : Int32))), .val (.int ((p2 &&& (2147483647 : Int32)) % (100000 : Int32))), .val (.int L2), .val (.int B2), .val (.ref w1), .val (.ref w2), .val (.ref b9), .val (.int (((p6.toUInt32 >>> ((2 : Int32) &&& 31).toUInt32).toInt32) &&& (3 : Int32))), .unset, .unset] [(.int (((p6.toUInt32 >>> ((2 : Int32) &&& 31).toUInt32).toInt32) &&& (3 : Int32)))])) _
    refine XS.iconst X10.here hx rfl (hb hby at_105) ?_
    show Steps p.tables e below (T10.setTop (mkF m 106 #[.val (.int p1), .val (.int p2), .val (.int p3), .val (.int p4), .val (.int p5), .val (.int p6), .val (.int ((p1 &&& (2147483647 : Int32)) % (100000 : Int32))), .val (.int ((p2 &&& (2147483647 : Int32)) % (100000 : Int32))), .val (.int L2), .val (.int B2), .val (.ref w1), .val (.ref w2), .val (.ref b9), .val (.int (((p6.toUInt32 >>> ((2 : Int32) &&& 31).toUInt32).toInt32) &&& (3 : Int32))), .unset, .unset] [(.int (1 : Int32)), (.int (((p6.toUInt32 >>> ((2 : Int32) &&& 31).toUInt32).toInt32) &&& (3 : Int32)))])) _
    refine XS.icmpYes X10.here hx rfl (pc0 := 106) (pc' := 124) rfl (hb hby at_106) rfl (feq hc106).2 (by decide) (by decide) ?_
    show Steps p.tables e below (T10.setTop (mkF m 124 #[.val (.int p1), .val (.int p2), .val (.int p3), .val (.int p4), .val (.int p5), .val (.int p6), .val (.int ((p1 &&& (2147483647 : Int32)) % (100000 : Int32))), .val (.int ((p2 &&& (2147483647 : Int32)) % (100000 : Int32))), .val (.int L2), .val (.int B2), .val (.ref w1), .val (.ref w2), .val (.ref b9), .val (.int (((p6.toUInt32 >>> ((2 : Int32) &&& 31).toUInt32).toInt32) &&& (3 : Int32))), .unset, .unset] [])) _
    refine XS.iload X10.here hx rfl (hb hby at_124) rfl ?_
    show Steps p.tables e below (T10.setTop (mkF m 126 #[.val (.int p1), .val (.int p2), .val (.int p3), .val (.int p4), .val (.int p5), .val (.int p6), .val (.int ((p1 &&& (2147483647 : Int32)) % (100000 : Int32))), .val (.int ((p2 &&& (2147483647 : Int32)) % (100000 : Int32))), .val (.int L2), .val (.int B2), .val (.ref w1), .val (.ref w2), .val (.ref b9), .val (.int (((p6.toUInt32 >>> ((2 : Int32) &&& 31).toUInt32).toInt32) &&& (3 : Int32))), .unset, .unset] [(.int (((p6.toUInt32 >>> ((2 : Int32) &&& 31).toUInt32).toInt32) &&& (3 : Int32)))])) _
    refine XS.iconst X10.here hx rfl (hb hby at_126) ?_
    show Steps p.tables e below (T10.setTop (mkF m 127 #[.val (.int p1), .val (.int p2), .val (.int p3), .val (.int p4), .val (.int p5), .val (.int p6), .val (.int ((p1 &&& (2147483647 : Int32)) % (100000 : Int32))), .val (.int ((p2 &&& (2147483647 : Int32)) % (100000 : Int32))), .val (.int L2), .val (.int B2), .val (.ref w1), .val (.ref w2), .val (.ref b9), .val (.int (((p6.toUInt32 >>> ((2 : Int32) &&& 31).toUInt32).toInt32) &&& (3 : Int32))), .unset, .unset] [(.int (2 : Int32)), (.int (((p6.toUInt32 >>> ((2 : Int32) &&& 31).toUInt32).toInt32) &&& (3 : Int32)))])) _
    refine XS.icmpNo X10.here hx rfl (hb hby at_127) rfl (teq hc127).2 ?_
    show Steps p.tables e below (T10.setTop (mkF m 130 #[.val (.int p1), .val (.int p2), .val (.int p3), .val (.int p4), .val (.int p5), .val (.int p6), .val (.int ((p1 &&& (2147483647 : Int32)) % (100000 : Int32))), .val (.int ((p2 &&& (2147483647 : Int32)) % (100000 : Int32))), .val (.int L2), .val (.int B2), .val (.ref w1), .val (.ref w2), .val (.ref b9), .val (.int (((p6.toUInt32 >>> ((2 : Int32) &&& 31).toUInt32).toInt32) &&& (3 : Int32))), .unset, .unset] [])) _
    refine XS.aload X10.here hx rfl (hb hby at_130) rfl rfl ?_
    show Steps p.tables e below (T10.setTop (mkF m 132 #[.val (.int p1), .val (.int p2), .val (.int p3), .val (.int p4), .val (.int p5), .val (.int p6), .val (.int ((p1 &&& (2147483647 : Int32)) % (100000 : Int32))), .val (.int ((p2 &&& (2147483647 : Int32)) % (100000 : Int32))), .val (.int L2), .val (.int B2), .val (.ref w1), .val (.ref w2), .val (.ref b9), .val (.int (((p6.toUInt32 >>> ((2 : Int32) &&& 31).toUInt32).toInt32) &&& (3 : Int32))), .unset, .unset] [(.ref b9)])) _
    refine XS.iloadN X10.here hx rfl (hb hby at_132) rfl ?_
    show Steps p.tables e below (T10.setTop (mkF m 133 #[.val (.int p1), .val (.int p2), .val (.int p3), .val (.int p4), .val (.int p5), .val (.int p6), .val (.int ((p1 &&& (2147483647 : Int32)) % (100000 : Int32))), .val (.int ((p2 &&& (2147483647 : Int32)) % (100000 : Int32))), .val (.int L2), .val (.int B2), .val (.ref w1), .val (.ref w2), .val (.ref b9), .val (.int (((p6.toUInt32 >>> ((2 : Int32) &&& 31).toUInt32).toInt32) &&& (3 : Int32))), .unset, .unset] [(.int p3), (.ref b9)])) _
    refine XS.sipush X10.here hx rfl (hb hby at_133) ?_
    show Steps p.tables e below (T10.setTop (mkF m 136 #[.val (.int p1), .val (.int p2), .val (.int p3), .val (.int p4), .val (.int p5), .val (.int p6), .val (.int ((p1 &&& (2147483647 : Int32)) % (100000 : Int32))), .val (.int ((p2 &&& (2147483647 : Int32)) % (100000 : Int32))), .val (.int L2), .val (.int B2), .val (.ref w1), .val (.ref w2), .val (.ref b9), .val (.int (((p6.toUInt32 >>> ((2 : Int32) &&& 31).toUInt32).toInt32) &&& (3 : Int32))), .unset, .unset] [(.int (255 : Int32)), (.int p3), (.ref b9)])) _
    refine XS.iand X10.here hx rfl (hb hby at_136) rfl ?_
    show Steps p.tables e below (T10.setTop (mkF m 137 #[.val (.int p1), .val (.int p2), .val (.int p3), .val (.int p4), .val (.int p5), .val (.int p6), .val (.int ((p1 &&& (2147483647 : Int32)) % (100000 : Int32))), .val (.int ((p2 &&& (2147483647 : Int32)) % (100000 : Int32))), .val (.int L2), .val (.int B2), .val (.ref w1), .val (.ref w2), .val (.ref b9), .val (.int (((p6.toUInt32 >>> ((2 : Int32) &&& 31).toUInt32).toInt32) &&& (3 : Int32))), .unset, .unset] [(.int (p3 &&& (255 : Int32))), (.ref b9)])) _
    refine XS.i2c X10.here hx rfl (hb hby at_137) rfl ?_
    show Steps p.tables e below (T10.setTop (mkF m 138 #[.val (.int p1), .val (.int p2), .val (.int p3), .val (.int p4), .val (.int p5), .val (.int p6), .val (.int ((p1 &&& (2147483647 : Int32)) % (100000 : Int32))), .val (.int ((p2 &&& (2147483647 : Int32)) % (100000 : Int32))), .val (.int L2), .val (.int B2), .val (.ref w1), .val (.ref w2), .val (.ref b9), .val (.int (((p6.toUInt32 >>> ((2 : Int32) &&& 31).toUInt32).toInt32) &&& (3 : Int32))), .unset, .unset] [(.int ((p3 &&& (255 : Int32)).toUInt32.toUInt16.toUInt32.toInt32)), (.ref b9)])) _
    refine st11 _ ?_
    show Steps p.tables e below (T11.setTop (mkF m 141 #[.val (.int p1), .val (.int p2), .val (.int p3), .val (.int p4), .val (.int p5), .val (.int p6), .val (.int ((p1 &&& (2147483647 : Int32)) % (100000 : Int32))), .val (.int ((p2 &&& (2147483647 : Int32)) % (100000 : Int32))), .val (.int L2), .val (.int B2), .val (.ref w1), .val (.ref w2), .val (.ref b9), .val (.int (((p6.toUInt32 >>> ((2 : Int32) &&& 31).toUInt32).toInt32) &&& (3 : Int32))), .unset, .unset] [(.ref bS), (.ref b9)])) _
    refine st12.trans ?_
    show Steps p.tables e below (T12.setTop (mkF m 144 #[.val (.int p1), .val (.int p2), .val (.int p3), .val (.int p4), .val (.int p5), .val (.int p6), .val (.int ((p1 &&& (2147483647 : Int32)) % (100000 : Int32))), .val (.int ((p2 &&& (2147483647 : Int32)) % (100000 : Int32))), .val (.int L2), .val (.int B2), .val (.ref w1), .val (.ref w2), .val (.ref b9), .val (.int (((p6.toUInt32 >>> ((2 : Int32) &&& 31).toUInt32).toInt32) &&& (3 : Int32))), .unset, .unset] [(.int (0 : Int32))])) _
    refine XS.ifNo X12.here hx rfl (hb hby at_144) rfl ((if0 _ _).trans (teq (rfl : (0 : Int32) = (0 : Int32))).2) ?_
    show Steps p.tables e below (T12.setTop (mkF m 147 #[.val (.int p1), .val (.int p2), .val (.int p3), .val (.int p4), .val (.int p5), .val (.int p6), .val (.int ((p1 &&& (2147483647 : Int32)) % (100000 : Int32))), .val (.int ((p2 &&& (2147483647 : Int32)) % (100000 : Int32))), .val (.int L2), .val (.int B2), .val (.ref w1), .val (.ref w2), .val (.ref b9), .val (.int (((p6.toUInt32 >>> ((2 : Int32) &&& 31).toUInt32).toInt32) &&& (3 : Int32))), .unset, .unset] [])) _
    refine XS.iconst X12.here hx rfl (hb hby at_147) ?_
    show Steps p.tables e below (T12.setTop (mkF m 148 #[.val (.int p1), .val (.int p2), .val (.int p3), .val (.int p4), .val (.int p5), .val (.int p6), .val (.int ((p1 &&& (2147483647 : Int32)) % (100000 : Int32))), .val (.int ((p2 &&& (2147483647 : Int32)) % (100000 : Int32))), .val (.int L2), .val (.int B2), .val (.ref w1), .val (.ref w2), .val (.ref b9), .val (.int (((p6.toUInt32 >>> ((2 : Int32) &&& 31).toUInt32).toInt32) &&& (3 : Int32))), .unset, .unset] [(.int (1 : Int32))])) _
    refine XS.goto X12.here hx rfl (pc0 := 148) (pc' := 152) rfl (hb hby at_148) (by decide) (by decide) ?_
    show Steps p.tables e below (T12.setTop (mkF m 152 #[.val (.int p1), .val (.int p2), .val (.int p3), .val (.int p4), .val (.int p5), .val (.int p6), .val (.int ((p1 &&& (2147483647 : Int32)) % (100000 : Int32))), .val (.int ((p2 &&& (2147483647 : Int32)) % (100000 : Int32))), .val (.int L2), .val (.int B2), .val (.ref w1), .val (.ref w2), .val (.ref b9), .val (.int (((p6.toUInt32 >>> ((2 : Int32) &&& 31).toUInt32).toInt32) &&& (3 : Int32))), .unset, .unset] [(.int (1 : Int32))])) _
    exact retN X12 hx (t := .boolean) Bd.returns (by simp) (hb hby at_152) hr
  · show Q0 h0 n0 _ T12.heap _
    rw [eq12]
    exact ⟨rfl, N12⟩
set_option maxRecDepth 65536 in
set_option maxHeartbeats 40000000 in
theorem rm0_ttf (l : Launch) (Z : State) (a0 : Array Value) (hw : ∀ d ∈ tables_1, d.before a0 Z = true) (ws : List Jvm.Cond) (p1 : Int32) (p2 : Int32) (p3 : Int32) (p4 : Int32) (p5 : Int32) (p6 : Int32) (L2 : Int32) (B2 : Int32) (w1 w2 : Addr) (wC : Int32) (h0 : Heap) (n0 : Nat) (Z0 : n0 ≤ h0.size) (HL : (((p6 &&& (1 : Int32)) = (0 : Int32) ∧ L2 = (p3 &&& (2147483647 : Int32)) % (100000 : Int32)) ∨ (¬ (p6 &&& (1 : Int32)) = (0 : Int32) ∧ L2 = ((p1 &&& (2147483647 : Int32)) % (100000 : Int32))))) (HB : (((p6 &&& (2 : Int32)) = (0 : Int32) ∧ B2 = (p4 &&& (2147483647 : Int32)) % (100000 : Int32)) ∨ (¬ (p6 &&& (2 : Int32)) = (0 : Int32) ∧ B2 = ((p2 &&& (2147483647 : Int32)) % (100000 : Int32))))) (H1 : ((p5 &&& (3 : Int32)) = 0 ∧ Sta Z h0 "com/example/fieldwright/fieldwright/mater/RecordLabel$Status" "NEW" "Lcom/example/fieldwright/fieldwright/mater/RecordLabel$Status;" (.ref w1)) ∨ ((p5 &&& (3 : Int32)) = 1 ∧ Sta Z h0 "com/example/fieldwright/fieldwright/mater/RecordLabel$Status" "AMENDED" "Lcom/example/fieldwright/fieldwright/mater/RecordLabel$Status;" (.ref w1)) ∨ ((p5 &&& (3 : Int32)) = 2 ∧ Sta Z h0 "com/example/fieldwright/fieldwright/mater/RecordLabel$Status" "DELETED" "Lcom/example/fieldwright/fieldwright/mater/RecordLabel$Status;" (.ref w1)) ∨ ((p5 &&& (3 : Int32)) = 3 ∧ Sta Z h0 "com/example/fieldwright/fieldwright/mater/RecordLabel$Status" "INFORMATION" "Lcom/example/fieldwright/fieldwright/mater/RecordLabel$Status;" (.ref w1))) (H2 : ((((p5.toUInt32 >>> ((2 : Int32) &&& 31).toUInt32).toInt32) &&& (3 : Int32)) = 0 ∧ Sta Z h0 "com/example/fieldwright/fieldwright/mater/RecordLabel$Status" "NEW" "Lcom/example/fieldwright/fieldwright/mater/RecordLabel$Status;" (.ref w2)) ∨ ((((p5.toUInt32 >>> ((2 : Int32) &&& 31).toUInt32).toInt32) &&& (3 : Int32)) = 1 ∧ Sta Z h0 "com/example/fieldwright/fieldwright/mater/RecordLabel$Status" "AMENDED" "Lcom/example/fieldwright/fieldwright/mater/RecordLabel$Status;" (.ref w2)) ∨ ((((p5.toUInt32 >>> ((2 : Int32) &&& 31).toUInt32).toInt32) &&& (3 : Int32)) = 2 ∧ Sta Z h0 "com/example/fieldwright/fieldwright/mater/RecordLabel$Status" "DELETED" "Lcom/example/fieldwright/fieldwright/mater/RecordLabel$Status;" (.ref w2)) ∨ ((((p5.toUInt32 >>> ((2 : Int32) &&& 31).toUInt32).toInt32) &&& (3 : Int32)) = 3 ∧ Sta Z h0 "com/example/fieldwright/fieldwright/mater/RecordLabel$Status" "INFORMATION" "Lcom/example/fieldwright/fieldwright/mater/RecordLabel$Status;" (.ref w2))) (E1 : Exa Z h0 w1 "com/example/fieldwright/fieldwright/mater/RecordLabel$Status") (E2 : Exa Z h0 w2 "com/example/fieldwright/fieldwright/mater/RecordLabel$Status") (SC : Sta Z h0 "java/lang/String" "COMPACT_STRINGS" "Z" (.int wC)) (hC : ¬ (wC = (0 : Int32))) (RL : ¬ (L2 < (0 : Int32)) ∧ ¬ ((99999 : Int32) < L2)) (RB : ¬ (B2 < (0 : Int32)) ∧ ¬ ((99999 : Int32) < B2)) (hc106 : ¬ ((((p6.toUInt32 >>> ((2 : Int32) &&& 31).toUInt32).toInt32) &&& (3 : Int32)) = (1 : Int32))) (hc127 : ¬ ((((p6.toUInt32 >>> ((2 : Int32) &&& 31).toUInt32).toInt32) &&& (3 : Int32)) = (2 : Int32))) (hc156 : (((p6.toUInt32 >>> ((2 : Int32) &&& 31).toUInt32).toInt32) &&& (3 : Int32)) = (3 : Int32)) :
    MetFree l x (head1 (Jvm.Cond.code x code maxLocals ret :: ws) room_1) (fun a U => a = #[(.int p1), (.int p2), (.int p3), (.int p4), (.int p5), (.int p6)] ∧ Z.Warmed39 U.vm ∧ U.heap = h0) (fun _ _ _ _ _ => True) (fun _ U o U' => ∃ v L, o = .returned v ∧ Q0 h0 n0 v U'.heap L ∧ ReturnedEndW U o U' L room_1.cells room_1.slots) := by
  refine MetFree.of_bodySF (plainFor_of_name pn_0) hisR ?_
  intro p e s m args below meth c s₁ Bd hml0 hP hK
  obtain ⟨rfl, hZ, hh⟩ := hP
  have hx := Bd.exec
  have hby := Bd.bytes
  have hml : c.maxLocals = 16 := hml0
  have hown : s.vm.findClass "com/example/fieldwright/fieldwright/mater/RecordLabelEqualsPinLaw" = some m.cls := findClass_of_methodNamed Bd.named
  have hnm := (name_of_methodNamed Bd.named Bd.method).1
  have X0 : Stand p l e room_1 s m #[(.int p1), (.int p2), (.int p3), (.int p4), (.int p5), (.int p6)] below meth c s₁ [] 0 0 := Stand.of_body Bd
  have e0 : s₁.heap = h0 := by rw [← hh, Bd.state]; rfl
  have N0 := Fr.nil n0
  have pre0 : ∀ t, Steps p.tables e below (s₁.setTop (mkF m 0 #[.val (.int p1), .val (.int p2), .val (.int p3), .val (.int p4), .val (.int p5), .val (.int p6), .unset, .unset, .unset, .unset, .unset, .unset, .unset, .unset, .unset, .unset] [])) t → Steps p.tables e below (s₁.setTop (entryFrame m #[(.int p1), (.int p2), (.int p3), (.int p4), (.int p5), (.int p6)] maxLocals)) t := fun t k => castTop (ef_0 m p1 p2 p3 p4 p5 p6) k
  have hZ00 := hZ
  have hown00 := hown
  have hS : s.Since s.vm h0.size := (State.WarmedH.refl s).since _
  have hk : h0.size ≤ h0.size := Nat.le_refl _
  obtain ⟨_, _, ⟨T7, L7, k7, n7⟩, -, X7, ⟨Lc7, hQ7, l7, y7, z7⟩, st7⟩ := Jvm.LawKit.callS X0 hx (y := (⟨"com/example/fieldwright/fieldwright/mater/RecordLabelEqualsPinLaw", "status", "(I)Lcom/example/fieldwright/fieldwright/mater/RecordLabel$Status;"⟩ : MethodName)) hown (mvT hZ (hw _ (List.mem_of_getElem? (i := 2) rfl))) (mvT hZ (hw _ (List.mem_of_getElem? (i := 3) rfl))) (mvT hZ (hw _ (List.mem_of_getElem? (i := 4) rfl))) (mvT hZ (hw _ (List.mem_of_getElem? (i := 5) rfl))) (by decide) (backOf (W := 0) (rm1 l Z a0 hw [] (p5 &&& (3 : Int32)) w1 h0 n0 Z0 H1) hZ (hw _ (List.mem_of_getElem? (i := 5) rfl)) (hw _ (List.mem_of_getElem? (i := 4) rfl)) (by decide) (by decide)) (g := (mkF m 64 #[.val (.int p1), .val (.int p2), .val (.int p3), .val (.int p4), .val (.int p5), .val (.int p6), .val (.int ((p1 &&& (2147483647 : Int32)) % (100000 : Int32))), .val (.int ((p2 &&& (2147483647 : Int32)) % (100000 : Int32))), .val (.int L2), .val (.int B2), .unset, .unset, .unset, .unset, .unset, .unset] [(.int (p5 &&& (3 : Int32)))])) rfl (by rw [hml]; rfl) (argsL := [(.int (p5 &&& (3 : Int32)))]) (rest := []) (lenOf pd_0_0 rfl) rfl (by show 2 * 0 + _ ≤ _; exact Nat.le_of_eq rfl) (hb hby at_64) (fun _ _ => ⟨rfl, e0, (by decide : 0 + 0 ≤ _), (by decide : 0 + 0 ≤ _)⟩)
  dsimp only [Pt.U, Pt.locs, Pt.cells, Pt.slots] at X7 l7 y7 z7 st7 hQ7
  subst l7 y7 z7
  obtain ⟨rfl, N7q, eq7⟩ := hQ7
  have N7 := Fr.app N0 N7q
  obtain ⟨_, _, ⟨T8, L8, k8, n8⟩, -, X8, ⟨Lc8, hQ8, l8, y8, z8⟩, st8⟩ := Jvm.LawKit.callS X7 hx (y := (⟨"com/example/fieldwright/fieldwright/mater/RecordLabelEqualsPinLaw", "status", "(I)Lcom/example/fieldwright/fieldwright/mater/RecordLabel$Status;"⟩ : MethodName)) hown (mvT hZ (hw _ (List.mem_of_getElem? (i := 2) rfl))) (mvT hZ (hw _ (List.mem_of_getElem? (i := 3) rfl))) (mvT hZ (hw _ (List.mem_of_getElem? (i := 4) rfl))) (mvT hZ (hw _ (List.mem_of_getElem? (i := 5) rfl))) (by decide) (backOf (W := 0) (rm1 l Z a0 hw [] (((p5.toUInt32 >>> ((2 : Int32) &&& 31).toUInt32).toInt32) &&& (3 : Int32)) w2 h0 n0 Z0 H2) hZ (hw _ (List.mem_of_getElem? (i := 5) rfl)) (hw _ (List.mem_of_getElem? (i := 4) rfl)) (by decide) (by decide)) (g := (mkF m 75 #[.val (.int p1), .val (.int p2), .val (.int p3), .val (.int p4), .val (.int p5), .val (.int p6), .val (.int ((p1 &&& (2147483647 : Int32)) % (100000 : Int32))), .val (.int ((p2 &&& (2147483647 : Int32)) % (100000 : Int32))), .val (.int L2), .val (.int B2), .val (.ref w1), .unset, .unset, .unset, .unset, .unset] [(.int (((p5.toUInt32 >>> ((2 : Int32) &&& 31).toUInt32).toInt32) &&& (3 : Int32)))])) rfl (by rw [hml]; rfl) (argsL := [(.int (((p5.toUInt32 >>> ((2 : Int32) &&& 31).toUInt32).toInt32) &&& (3 : Int32)))]) (rest := []) (lenOf pd_0_0 rfl) rfl (by show 2 * 0 + _ ≤ _; exact Nat.le_of_eq rfl) (hb hby at_75) (fun _ _ => ⟨rfl, eq7, (by decide : 0 + 0 ≤ _), (by decide : 0 + 0 ≤ _)⟩)
  dsimp only [Pt.U, Pt.locs, Pt.cells, Pt.slots] at X8 l8 y8 z8 st8 hQ8
  subst l8 y8 z8
  obtain ⟨rfl, N8q, eq8⟩ := hQ8
  have N8 := Fr.app N7 N8q
  obtain ⟨T9, h9, X9, e9, E9, A9, D9, -, st9⟩ := newO X8 hx hZ hown (hw _ (List.mem_of_getElem? (i := 9) rfl)) (hw _ (List.mem_of_getElem? (i := 10) rfl)) (hw _ (List.mem_of_getElem? (i := 11) rfl)) eq8 (g := (mkF m 80 #[.val (.int p1), .val (.int p2), .val (.int p3), .val (.int p4), .val (.int p5), .val (.int p6), .val (.int ((p1 &&& (2147483647 : Int32)) % (100000 : Int32))), .val (.int ((p2 &&& (2147483647 : Int32)) % (100000 : Int32))), .val (.int L2), .val (.int B2), .val (.ref w1), .val (.ref w2), .unset, .unset, .unset, .unset] [])) rfl (hb hby at_80) (by decide) (by decide)
  obtain ⟨b9, g9⟩ : ∃ z, z = h0.size := ⟨_, rfl⟩
  rw [← g9] at A9 D9 st9
  have F_recordLength_b9 : Fld Z h9 b9 "com/example/fieldwright/fieldwright/mater/RecordLabel" "recordLength" "I" (.int (0 : Int32)) := D9 (Or.inr (hw _ (List.mem_of_getElem? (i := 31) rfl))) (ty := .int) (by decide)
  have F_status_b9 : Fld Z h9 b9 "com/example/fieldwright/fieldwright/mater/RecordLabel" "status" "Lcom/example/fieldwright/fieldwright/mater/RecordLabel$Status;" .null := D9 (Or.inr (hw _ (List.mem_of_getElem? (i := 40) rfl))) (ty := (.object "com/example/fieldwright/fieldwright/mater/RecordLabel$Status")) (by decide)
  have F_baseAddress_b9 : Fld Z h9 b9 "com/example/fieldwright/fieldwright/mater/RecordLabel" "baseAddress" "I" (.int (0 : Int32)) := D9 (Or.inr (hw _ (List.mem_of_getElem? (i := 43) rfl))) (ty := .int) (by decide)
  have E_b9 := A9
  have g_b9 : n0 ≤ b9 := Nat.le_trans Z0 (Nat.le_of_eq g9.symm)
  have sz_b9 : h0.size ≤ b9 := (Nat.le_trans (Keep.refl h0 []).1 (Nat.le_of_eq g9.symm))
  have K9 : Keep h0 h9 [] := (Keep.refl h0 []).ext E9
  have hk := Nat.le_trans hk E9.1
  obtain ⟨_, _, ⟨T10, L10, k10, n10⟩, -, X10, hS10, hg10, ⟨Lc10, hQ10, l10, y10, z10⟩, st10⟩ := X9.specialBackS hx (y := (⟨"com/example/fieldwright/fieldwright/mater/RecordLabel", "<init>", "(ILcom/example/fieldwright/fieldwright/mater/RecordLabel$Status;I)V"⟩ : MethodName)) rfl hown (mvT hZ (hw _ (List.mem_of_getElem? (i := 12) rfl))) (mvT hZ (hw _ (List.mem_of_getElem? (i := 13) rfl))) (mvT hZ (hw _ (List.mem_of_getElem? (i := 14) rfl))) (by decide) (backOfS (W := 1) (rm2 l Z a0 hw [] b9 ((p1 &&& (2147483647 : Int32)) % (100000 : Int32)) w1 ((p2 &&& (2147483647 : Int32)) % (100000 : Int32)) (.int (0 : Int32)) .null (.int (0 : Int32)) h9 n0 (Nat.le_trans Z0 K9.1) (own_rng p1).1 (own_rng p1).2 (own_rng p2).1 (own_rng p2).2 E_b9 F_recordLength_b9 g_b9 (E1.keep K9) F_status_b9 F_baseAddress_b9) hZ (hw _ (List.mem_of_getElem? (i := 14) rfl)) (hw _ (List.mem_of_getElem? (i := 11) rfl)) (by decide) (by decide)) (g := (mkF m 90 #[.val (.int p1), .val (.int p2), .val (.int p3), .val (.int p4), .val (.int p5), .val (.int p6), .val (.int ((p1 &&& (2147483647 : Int32)) % (100000 : Int32))), .val (.int ((p2 &&& (2147483647 : Int32)) % (100000 : Int32))), .val (.int L2), .val (.int B2), .val (.ref w1), .val (.ref w2), .unset, .unset, .unset, .unset] [(.int ((p2 &&& (2147483647 : Int32)) % (100000 : Int32))), (.ref w1), (.int ((p1 &&& (2147483647 : Int32)) % (100000 : Int32))), (.ref b9), (.ref b9)])) rfl (by rw [hml]; rfl) (Steps.refl _) (a := b9) (argsL := [(.int ((p1 &&& (2147483647 : Int32)) % (100000 : Int32))), (.ref w1), (.int ((p2 &&& (2147483647 : Int32)) % (100000 : Int32)))]) (rest := [(.ref b9)]) (lenOf pd_0_1 rfl) rfl (by show 2 * 0 + _ ≤ _; exact Nat.le_of_eq rfl) (hb hby at_90) (fun _ _ => ⟨rfl, e9, (by decide : 1 + 6 ≤ _), (by decide : 3 + 136 ≤ _)⟩)
  dsimp only [Pt.U, Pt.locs, Pt.cells, Pt.slots] at X10 l10 y10 z10 st10 hQ10 hS10 hg10
  subst l10 y10 z10
  obtain ⟨rfl, N10q, Kq10, Eq10, F1_b9, F2_b9, F3_b9⟩ := hQ10
  have K10 : Keep h0 T10.heap [] := K9.trans Kq10 (fun x hx => by cases List.mem_singleton.mp hx; exact Or.inr sz_b9)
  have N10 := Fr.app N8 N10q
  obtain ⟨X10, hS, hZ, hown⟩ := rebS hS (show _ ≤ T9.heap.size by rw [e9]; exact hk) X10 hS10 hg10 hZ hown
  have hk := Nat.le_refl T10.heap.size
  obtain ⟨cq11, kq11, q11a, q11b, q11c⟩ := isOf hZ rfl (E_b9.keep Kq10)
  obtain ⟨_, _, ⟨T11, L11, k11, n11⟩, -, X11, ⟨Lc11, hQ11, l11, y11, z11⟩, st11⟩ := X10.virtualBack hx (y := (⟨"com/example/fieldwright/fieldwright/mater/RecordLabel", "equals", "(Ljava/lang/Object;)Z"⟩ : MethodName)) (z := (⟨"com/example/fieldwright/fieldwright/mater/RecordLabel", "equals", "(Ljava/lang/Object;)Z"⟩ : MethodName)) hown (mvT hZ (hw _ (List.mem_of_getElem? (i := 44) rfl))) (mvT hZ (hw _ (List.mem_of_getElem? (i := 45) rfl))) (notFace_of_selects (args := #[]) (mvT hZ (hw _ (List.mem_of_getElem? (i := 47) rfl)))) (mvT hZ (hw _ (List.mem_of_getElem? (i := 47) rfl))) (mvT hZ (hw _ (List.mem_of_getElem? (i := 46) rfl))) (by decide) (backOf (W := 0) (rm6_yes l Z a0 hw [] b9 b9 ((p1 &&& (2147483647 : Int32)) % (100000 : Int32)) ((p1 &&& (2147483647 : Int32)) % (100000 : Int32)) w1 w1 ((p2 &&& (2147483647 : Int32)) % (100000 : Int32)) ((p2 &&& (2147483647 : Int32)) % (100000 : Int32)) T10.heap n0 (Nat.le_trans Z0 K10.1) Eq10 F1_b9 F2_b9 F3_b9 F1_b9 F2_b9 F3_b9 rfl rfl rfl) hZ (hw _ (List.mem_of_getElem? (i := 48) rfl)) (hw _ (List.mem_of_getElem? (i := 11) rfl)) (by decide) (by decide)) q11a q11c (g := (mkF m 163 #[.val (.int p1), .val (.int p2), .val (.int p3), .val (.int p4), .val (.int p5), .val (.int p6), .val (.int ((p1 &&& (2147483647 : Int32)) % (100000 : Int32))), .val (.int ((p2 &&& (2147483647 : Int32)) % (100000 : Int32))), .val (.int L2), .val (.int B2), .val (.ref w1), .val (.ref w2), .val (.ref b9), .val (.int (((p6.toUInt32 >>> ((2 : Int32) &&& 31).toUInt32).toInt32) &&& (3 : Int32))), .unset, .unset] [(.ref b9), (.ref b9)])) rfl (by rw [hml]; rfl) (Steps.refl _) (argsL := [(.ref b9)]) (rest := []) (lenOf pd_0_5 rfl) rfl (by show 2 * 0 + _ ≤ _; exact Nat.le_of_eq rfl) (hb hby at_163) (fun _ _ => ⟨rfl, rfl, (by decide : 7 + 0 ≤ _), (by decide : 139 + 0 ≤ _)⟩)
  dsimp only [Pt.U, Pt.locs, Pt.cells, Pt.slots] at X11 l11 y11 z11 st11 hQ11
  subst l11 y11 z11
  obtain ⟨rfl, N11q, eq11⟩ := hQ11
  have N11 := Fr.app N10 N11q
  obtain ⟨fs, hr, hrun, hended, hW1, hW2, hW3, hsame⟩ := X11.leaveW hS (show _ ≤ T11.heap.size by rw [eq11]; exact hk) (v := some (.int (1 : Int32))) (fun h => by rw [Bd.returns] at h; cases h)
  refine ⟨_, _, pre0 _ ?_, hrun, hended, _, _, rfl, ?_, hW1, hW2, hW3, hsame.mono (by decide) (by decide)⟩
  · show Steps p.tables e below (s₁.setTop (mkF m 0 #[.val (.int p1), .val (.int p2), .val (.int p3), .val (.int p4), .val (.int p5), .val (.int p6), .unset, .unset, .unset, .unset, .unset, .unset, .unset, .unset, .unset, .unset] [])) _
    refine XS.iloadN X0.here hx rfl (hb hby at_0) rfl ?_
    show Steps p.tables e below (s₁.setTop (mkF m 1 #[.val (.int p1), .val (.int p2), .val (.int p3), .val (.int p4), .val (.int p5), .val (.int p6), .unset, .unset, .unset, .unset, .unset, .unset, .unset, .unset, .unset, .unset] [(.int p1)])) _
    refine X0.ldcInt hx hown00 (mvT hZ00 (hw _ (List.mem_of_getElem? (i := 0) rfl))) (g := (mkF m 1 #[.val (.int p1), .val (.int p2), .val (.int p3), .val (.int p4), .val (.int p5), .val (.int p6), .unset, .unset, .unset, .unset, .unset, .unset, .unset, .unset, .unset, .unset] [(.int p1)])) rfl (hb hby at_1) _ ?_
    show Steps p.tables e below (s₁.setTop (mkF m 3 #[.val (.int p1), .val (.int p2), .val (.int p3), .val (.int p4), .val (.int p5), .val (.int p6), .unset, .unset, .unset, .unset, .unset, .unset, .unset, .unset, .unset, .unset] [(.int (2147483647 : Int32)), (.int p1)])) _
    refine XS.iand X0.here hx rfl (hb hby at_3) rfl ?_
    show Steps p.tables e below (s₁.setTop (mkF m 4 #[.val (.int p1), .val (.int p2), .val (.int p3), .val (.int p4), .val (.int p5), .val (.int p6), .unset, .unset, .unset, .unset, .unset, .unset, .unset, .unset, .unset, .unset] [(.int (p1 &&& (2147483647 : Int32)))])) _
    refine X0.ldcInt hx hown00 (mvT hZ00 (hw _ (List.mem_of_getElem? (i := 1) rfl))) (g := (mkF m 4 #[.val (.int p1), .val (.int p2), .val (.int p3), .val (.int p4), .val (.int p5), .val (.int p6), .unset, .unset, .unset, .unset, .unset, .unset, .unset, .unset, .unset, .unset] [(.int (p1 &&& (2147483647 : Int32)))])) rfl (hb hby at_4) _ ?_
    show Steps p.tables e below (s₁.setTop (mkF m 6 #[.val (.int p1), .val (.int p2), .val (.int p3), .val (.int p4), .val (.int p5), .val (.int p6), .unset, .unset, .unset, .unset, .unset, .unset, .unset, .unset, .unset, .unset] [(.int (100000 : Int32)), (.int (p1 &&& (2147483647 : Int32)))])) _
    refine iremM X0 hx rfl (hb hby at_6) rfl (by decide) ?_
    show Steps p.tables e below (s₁.setTop (mkF m 7 #[.val (.int p1), .val (.int p2), .val (.int p3), .val (.int p4), .val (.int p5), .val (.int p6), .unset, .unset, .unset, .unset, .unset, .unset, .unset, .unset, .unset, .unset] [(.int ((p1 &&& (2147483647 : Int32)) % (100000 : Int32)))])) _
    refine XS.istore X0.here hx rfl (hb hby at_7) rfl (l' := #[.val (.int p1), .val (.int p2), .val (.int p3), .val (.int p4), .val (.int p5), .val (.int p6), .val (.int ((p1 &&& (2147483647 : Int32)) % (100000 : Int32))), .unset, .unset, .unset, .unset, .unset, .unset, .unset, .unset, .unset]) rfl ?_
    show Steps p.tables e below (s₁.setTop (mkF m 9 #[.val (.int p1), .val (.int p2), .val (.int p3), .val (.int p4), .val (.int p5), .val (.int p6), .val (.int ((p1 &&& (2147483647 : Int32)) % (100000 : Int32))), .unset, .unset, .unset, .unset, .unset, .unset, .unset, .unset, .unset] [])) _
    refine XS.iloadN X0.here hx rfl (hb hby at_9) rfl ?_
    show Steps p.tables e below (s₁.setTop (mkF m 10 #[.val (.int p1), .val (.int p2), .val (.int p3), .val (.int p4), .val (.int p5), .val (.int p6), .val (.int ((p1 &&& (2147483647 : Int32)) % (100000 : Int32))), .unset, .unset, .unset, .unset, .unset, .unset, .unset, .unset, .unset] [(.int p2)])) _
    refine X0.ldcInt hx hown00 (mvT hZ00 (hw _ (List.mem_of_getElem? (i := 0) rfl))) (g := (mkF m 10 #[.val (.int p1), .val (.int p2), .val (.int p3), .val (.int p4), .val (.int p5), .val (.int p6), .val (.int ((p1 &&& (2147483647 : Int32)) % (100000 : Int32))), .unset, .unset, .unset, .unset, .unset, .unset, .unset, .unset, .unset] [(.int p2)])) rfl (hb hby at_10) _ ?_
    show Steps p.tables e below (s₁.setTop (mkF m 12 #[.val (.int p1), .val (.int p2), .val (.int p3), .val (.int p4), .val (.int p5), .val (.int p6), .val (.int ((p1 &&& (2147483647 : Int32)) % (100000 : Int32))), .unset, .unset, .unset, .unset, .unset, .unset, .unset, .unset, .unset] [(.int (2147483647 : Int32)), (.int p2)])) _
    refine XS.iand X0.here hx rfl (hb hby at_12) rfl ?_
    show Steps p.tables e below (s₁.setTop (mkF m 13 #[.val (.int p1), .val (.int p2), .val (.int p3), .val (.int p4), .val (.int p5), .val (.int p6), .val (.int ((p1 &&& (2147483647 : Int32)) % (100000 : Int32))), .unset, .unset, .unset, .unset, .unset, .unset, .unset, .unset, .unset] [(.int (p2 &&& (2147483647 : Int32)))])) _
    refine X0.ldcInt hx hown00 (mvT hZ00 (hw _ (List.mem_of_getElem? (i := 1) rfl))) (g := (mkF m 13 #[.val (.int p1), .val (.int p2), .val (.int p3), .val (.int p4), .val (.int p5), .val (.int p6), .val (.int ((p1 &&& (2147483647 : Int32)) % (100000 : Int32))), .unset, .unset, .unset, .unset, .unset, .unset, .unset, .unset, .unset] [(.int (p2 &&& (2147483647 : Int32)))])) rfl (hb hby at_13) _ ?_
    show Steps p.tables e below (s₁.setTop (mkF m 15 #[.val (.int p1), .val (.int p2), .val (.int p3), .val (.int p4), .val (.int p5), .val (.int p6), .val (.int ((p1 &&& (2147483647 : Int32)) % (100000 : Int32))), .unset, .unset, .unset, .unset, .unset, .unset, .unset, .unset, .unset] [(.int (100000 : Int32)), (.int (p2 &&& (2147483647 : Int32)))])) _
    refine iremM X0 hx rfl (hb hby at_15) rfl (by decide) ?_
    show Steps p.tables e below (s₁.setTop (mkF m 16 #[.val (.int p1), .val (.int p2), .val (.int p3), .val (.int p4), .val (.int p5), .val (.int p6), .val (.int ((p1 &&& (2147483647 : Int32)) % (100000 : Int32))), .unset, .unset, .unset, .unset, .unset, .unset, .unset, .unset, .unset] [(.int ((p2 &&& (2147483647 : Int32)) % (100000 : Int32)))])) _
    refine XS.istore X0.here hx rfl (hb hby at_16) rfl (l' := #[.val (.int p1), .val (.int p2), .val (.int p3), .val (.int p4), .val (.int p5), .val (.int p6), .val (.int ((p1 &&& (2147483647 : Int32)) % (100000 : Int32))), .val (.int ((p2 &&& (2147483647 : Int32)) % (100000 : Int32))), .unset, .unset, .unset, .unset, .unset, .unset, .unset, .unset]) rfl ?_
    show Steps p.tables e below (s₁.setTop (mkF m 18 #[.val (.int p1), .val (.int p2), .val (.int p3), .val (.int p4), .val (.int p5), .val (.int p6), .val (.int ((p1 &&& (2147483647 : Int32)) % (100000 : Int32))), .val (.int ((p2 &&& (2147483647 : Int32)) % (100000 : Int32))), .unset, .unset, .unset, .unset, .unset, .unset, .unset, .unset] [])) _
    refine seg18 X0 hx hZ00 hw hby hml hown00 p1 p2 p3 p4 p5 p6 ((p1 &&& (2147483647 : Int32)) % (100000 : Int32)) ((p2 &&& (2147483647 : Int32)) % (100000 : Int32)) L2 HL ?_
    show Steps p.tables e below (s₁.setTop (mkF m 39 #[.val (.int p1), .val (.int p2), .val (.int p3), .val (.int p4), .val (.int p5), .val (.int p6), .val (.int ((p1 &&& (2147483647 : Int32)) % (100000 : Int32))), .val (.int ((p2 &&& (2147483647 : Int32)) % (100000 : Int32))), .val (.int L2), .unset, .unset, .unset, .unset, .unset, .unset, .unset] [])) _
    refine seg39 X0 hx hZ00 hw hby hml hown00 p1 p2 p3 p4 p5 p6 ((p1 &&& (2147483647 : Int32)) % (100000 : Int32)) ((p2 &&& (2147483647 : Int32)) % (100000 : Int32)) L2 B2 HB ?_
    show Steps p.tables e below (s₁.setTop (mkF m 60 #[.val (.int p1), .val (.int p2), .val (.int p3), .val (.int p4), .val (.int p5), .val (.int p6), .val (.int ((p1 &&& (2147483647 : Int32)) % (100000 : Int32))), .val (.int ((p2 &&& (2147483647 : Int32)) % (100000 : Int32))), .val (.int L2), .val (.int B2), .unset, .unset, .unset, .unset, .unset, .unset] [])) _
    refine XS.iload X0.here hx rfl (hb hby at_60) rfl ?_
    show Steps p.tables e below (s₁.setTop (mkF m 62 #[.val (.int p1), .val (.int p2), .val (.int p3), .val (.int p4), .val (.int p5), .val (.int p6), .val (.int ((p1 &&& (2147483647 : Int32)) % (100000 : Int32))), .val (.int ((p2 &&& (2147483647 : Int32)) % (100000 : Int32))), .val (.int L2), .val (.int B2), .unset, .unset, .unset, .unset, .unset, .unset] [(.int p5)])) _
    refine XS.iconst X0.here hx rfl (hb hby at_62) ?_
    show Steps p.tables e below (s₁.setTop (mkF m 63 #[.val (.int p1), .val (.int p2), .val (.int p3), .val (.int p4), .val (.int p5), .val (.int p6), .val (.int ((p1 &&& (2147483647 : Int32)) % (100000 : Int32))), .val (.int ((p2 &&& (2147483647 : Int32)) % (100000 : Int32))), .val (.int L2), .val (.int B2), .unset, .unset, .unset, .unset, .unset, .unset] [(.int (3 : Int32)), (.int p5)])) _
    refine XS.iand X0.here hx rfl (hb hby at_63) rfl ?_
    show Steps p.tables e below (s₁.setTop (mkF m 64 #[.val (.int p1), .val (.int p2), .val (.int p3), .val (.int p4), .val (.int p5), .val (.int p6), .val (.int ((p1 &&& (2147483647 : Int32)) % (100000 : Int32))), .val (.int ((p2 &&& (2147483647 : Int32)) % (100000 : Int32))), .val (.int L2), .val (.int B2), .unset, .unset, .unset, .unset, .unset, .unset] [(.int (p5 &&& (3 : Int32)))])) _
    refine st7 _ ?_
    show Steps p.tables e below (T7.setTop (mkF m 67 #[.val (.int p1), .val (.int p2), .val (.int p3), .val (.int p4), .val (.int p5), .val (.int p6), .val (.int ((p1 &&& (2147483647 : Int32)) % (100000 : Int32))), .val (.int ((p2 &&& (2147483647 : Int32)) % (100000 : Int32))), .val (.int L2), .val (.int B2), .unset, .unset, .unset, .unset, .unset, .unset] [(.ref w1)])) _
    refine XS.astore X7.here hx rfl (hb hby at_67) rfl rfl (l' := #[.val (.int p1), .val (.int p2), .val (.int p3), .val (.int p4), .val (.int p5), .val (.int p6), .val (.int ((p1 &&& (2147483647 : Int32)) % (100000 : Int32))), .val (.int ((p2 &&& (2147483647 : Int32)) % (100000 : Int32))), .val (.int L2), .val (.int B2), .val (.ref w1), .unset, .unset, .unset, .unset, .unset]) rfl ?_
    show Steps p.tables e below (T7.setTop (mkF m 69 #[.val (.int p1), .val (.int p2), .val (.int p3), .val (.int p4), .val (.int p5), .val (.int p6), .val (.int ((p1 &&& (2147483647 : Int32)) % (100000 : Int32))), .val (.int ((p2 &&& (2147483647 : Int32)) % (100000 : Int32))), .val (.int L2), .val (.int B2), .val (.ref w1), .unset, .unset, .unset, .unset, .unset] [])) _
    refine XS.iload X7.here hx rfl (hb hby at_69) rfl ?_
    show Steps p.tables e below (T7.setTop (mkF m 71 #[.val (.int p1), .val (.int p2), .val (.int p3), .val (.int p4), .val (.int p5), .val (.int p6), .val (.int ((p1 &&& (2147483647 : Int32)) % (100000 : Int32))), .val (.int ((p2 &&& (2147483647 : Int32)) % (100000 : Int32))), .val (.int L2), .val (.int B2), .val (.ref w1), .unset, .unset, .unset, .unset, .unset] [(.int p5)])) _
    refine XS.iconst X7.here hx rfl (hb hby at_71) ?_
    show Steps p.tables e below (T7.setTop (mkF m 72 #[.val (.int p1), .val (.int p2), .val (.int p3), .val (.int p4), .val (.int p5), .val (.int p6), .val (.int ((p1 &&& (2147483647 : Int32)) % (100000 : Int32))), .val (.int ((p2 &&& (2147483647 : Int32)) % (100000 : Int32))), .val (.int L2), .val (.int B2), .val (.ref w1), .unset, .unset, .unset, .unset, .unset] [(.int (2 : Int32)), (.int p5)])) _
    refine XS.iushr X7.here hx rfl (hb hby at_72) rfl ?_
    show Steps p.tables e below (T7.setTop (mkF m 73 #[.val (.int p1), .val (.int p2), .val (.int p3), .val (.int p4), .val (.int p5), .val (.int p6), .val (.int ((p1 &&& (2147483647 : Int32)) % (100000 : Int32))), .val (.int ((p2 &&& (2147483647 : Int32)) % (100000 : Int32))), .val (.int L2), .val (.int B2), .val (.ref w1), .unset, .unset, .unset, .unset, .unset] [(.int ((p5.toUInt32 >>> ((2 : Int32) &&& 31).toUInt32).toInt32))])) _
    refine XS.iconst X7.here hx rfl (hb hby at_73) ?_
    show Steps p.tables e below (T7.setTop (mkF m 74 #[.val (.int p1), .val (.int p2), .val (.int p3), .val (.int p4), .val (.int p5), .val (.int p6), .val (.int ((p1 &&& (2147483647 : Int32)) % (100000 : Int32))), .val (.int ((p2 &&& (2147483647 : Int32)) % (100000 : Int32))), .val (.int L2), .val (.int B2), .val (.ref w1), .unset, .unset, .unset, .unset, .unset] [(.int (3 : Int32)), (.int ((p5.toUInt32 >>> ((2 : Int32) &&& 31).toUInt32).toInt32))])) _
    refine XS.iand X7.here hx rfl (hb hby at_74) rfl ?_
    show Steps p.tables e below (T7.setTop (mkF m 75 #[.val (.int p1), .val (.int p2), .val (.int p3), .val (.int p4), .val (.int p5), .val (.int p6), .val (.int ((p1 &&& (2147483647 : Int32)) % (100000 : Int32))), .val (.int ((p2 &&& (2147483647 : Int32)) % (100000 : Int32))), .val (.int L2), .val (.int B2), .val (.ref w1), .unset, .unset, .unset, .unset, .unset] [(.int (((p5.toUInt32 >>> ((2 : Int32) &&& 31).toUInt32).toInt32) &&& (3 : Int32)))])) _
    refine st8 _ ?_
    show Steps p.tables e below (T8.setTop (mkF m 78 #[.val (.int p1), .val (.int p2), .val (.int p3), .val (.int p4), .val (.int p5), .val (.int p6), .val (.int ((p1 &&& (2147483647 : Int32)) % (100000 : Int32))), .val (.int ((p2 &&& (2147483647 : Int32)) % (100000 : Int32))), .val (.int L2), .val (.int B2), .val (.ref w1), .unset, .unset, .unset, .unset, .unset] [(.ref w2)])) _
    refine XS.astore X8.here hx rfl (hb hby at_78) rfl rfl (l' := #[.val (.int p1), .val (.int p2), .val (.int p3), .val (.int p4), .val (.int p5), .val (.int p6), .val (.int ((p1 &&& (2147483647 : Int32)) % (100000 : Int32))), .val (.int ((p2 &&& (2147483647 : Int32)) % (100000 : Int32))), .val (.int L2), .val (.int B2), .val (.ref w1), .val (.ref w2), .unset, .unset, .unset, .unset]) rfl ?_
    show Steps p.tables e below (T8.setTop (mkF m 80 #[.val (.int p1), .val (.int p2), .val (.int p3), .val (.int p4), .val (.int p5), .val (.int p6), .val (.int ((p1 &&& (2147483647 : Int32)) % (100000 : Int32))), .val (.int ((p2 &&& (2147483647 : Int32)) % (100000 : Int32))), .val (.int L2), .val (.int B2), .val (.ref w1), .val (.ref w2), .unset, .unset, .unset, .unset] [])) _
    refine st9 _ ?_
    show Steps p.tables e below (T9.setTop (mkF m 83 #[.val (.int p1), .val (.int p2), .val (.int p3), .val (.int p4), .val (.int p5), .val (.int p6), .val (.int ((p1 &&& (2147483647 : Int32)) % (100000 : Int32))), .val (.int ((p2 &&& (2147483647 : Int32)) % (100000 : Int32))), .val (.int L2), .val (.int B2), .val (.ref w1), .val (.ref w2), .unset, .unset, .unset, .unset] [(.ref b9)])) _
    refine XS.dup X9.here hx rfl (hb hby at_83) rfl rfl ?_
    show Steps p.tables e below (T9.setTop (mkF m 84 #[.val (.int p1), .val (.int p2), .val (.int p3), .val (.int p4), .val (.int p5), .val (.int p6), .val (.int ((p1 &&& (2147483647 : Int32)) % (100000 : Int32))), .val (.int ((p2 &&& (2147483647 : Int32)) % (100000 : Int32))), .val (.int L2), .val (.int B2), .val (.ref w1), .val (.ref w2), .unset, .unset, .unset, .unset] [(.ref b9), (.ref b9)])) _
    refine XS.iload X9.here hx rfl (hb hby at_84) rfl ?_
    show Steps p.tables e below (T9.setTop (mkF m 86 #[.val (.int p1), .val (.int p2), .val (.int p3), .val (.int p4), .val (.int p5), .val (.int p6), .val (.int ((p1 &&& (2147483647 : Int32)) % (100000 : Int32))), .val (.int ((p2 &&& (2147483647 : Int32)) % (100000 : Int32))), .val (.int L2), .val (.int B2), .val (.ref w1), .val (.ref w2), .unset, .unset, .unset, .unset] [(.int ((p1 &&& (2147483647 : Int32)) % (100000 : Int32))), (.ref b9), (.ref b9)])) _
    refine XS.aload X9.here hx rfl (hb hby at_86) rfl rfl ?_
    show Steps p.tables e below (T9.setTop (mkF m 88 #[.val (.int p1), .val (.int p2), .val (.int p3), .val (.int p4), .val (.int p5), .val (.int p6), .val (.int ((p1 &&& (2147483647 : Int32)) % (100000 : Int32))), .val (.int ((p2 &&& (2147483647 : Int32)) % (100000 : Int32))), .val (.int L2), .val (.int B2), .val (.ref w1), .val (.ref w2), .unset, .unset, .unset, .unset] [(.ref w1), (.int ((p1 &&& (2147483647 : Int32)) % (100000 : Int32))), (.ref b9), (.ref b9)])) _
    refine XS.iload X9.here hx rfl (hb hby at_88) rfl ?_
    show Steps p.tables e below (T9.setTop (mkF m 90 #[.val (.int p1), .val (.int p2), .val (.int p3), .val (.int p4), .val (.int p5), .val (.int p6), .val (.int ((p1 &&& (2147483647 : Int32)) % (100000 : Int32))), .val (.int ((p2 &&& (2147483647 : Int32)) % (100000 : Int32))), .val (.int L2), .val (.int B2), .val (.ref w1), .val (.ref w2), .unset, .unset, .unset, .unset] [(.int ((p2 &&& (2147483647 : Int32)) % (100000 : Int32))), (.ref w1), (.int ((p1 &&& (2147483647 : Int32)) % (100000 : Int32))), (.ref b9), (.ref b9)])) _
    refine st10.trans ?_
    show Steps p.tables e below (T10.setTop (mkF m 93 #[.val (.int p1), .val (.int p2), .val (.int p3), .val (.int p4), .val (.int p5), .val (.int p6), .val (.int ((p1 &&& (2147483647 : Int32)) % (100000 : Int32))), .val (.int ((p2 &&& (2147483647 : Int32)) % (100000 : Int32))), .val (.int L2), .val (.int B2), .val (.ref w1), .val (.ref w2), .unset, .unset, .unset, .unset] [(.ref b9)])) _
    refine XS.astore X10.here hx rfl (hb hby at_93) rfl rfl (l' := #[.val (.int p1), .val (.int p2), .val (.int p3), .val (.int p4), .val (.int p5), .val (.int p6), .val (.int ((p1 &&& (2147483647 : Int32)) % (100000 : Int32))), .val (.int ((p2 &&& (2147483647 : Int32)) % (100000 : Int32))), .val (.int L2), .val (.int B2), .val (.ref w1), .val (.ref w2), .val (.ref b9), .unset, .unset, .unset]) rfl ?_
    show Steps p.tables e below (T10.setTop (mkF m 95 #[.val (.int p1), .val (.int p2), .val (.int p3), .val (.int p4), .val (.int p5), .val (.int p6), .val (.int ((p1 &&& (2147483647 : Int32)) % (100000 : Int32))), .val (.int ((p2 &&& (2147483647 : Int32)) % (100000 : Int32))), .val (.int L2), .val (.int B2), .val (.ref w1), .val (.ref w2), .val (.ref b9), .unset, .unset, .unset] [])) _
    refine XS.iload X10.here hx rfl (hb hby at_95) rfl ?_
    show Steps p.tables e below (T10.setTop (mkF m 97 #[.val (.int p1), .val (.int p2), .val (.int p3), .val (.int p4), .val (.int p5), .val (.int p6), .val (.int ((p1 &&& (2147483647 : Int32)) % (100000 : Int32))), .val (.int ((p2 &&& (2147483647 : Int32)) % (100000 : Int32))), .val (.int L2), .val (.int B2), .val (.ref w1), .val (.ref w2), .val (.ref b9), .unset, .unset, .unset] [(.int p6)])) _
    refine XS.iconst X10.here hx rfl (hb hby at_97) ?_
    show Steps p.tables e below (T10.setTop (mkF m 98 #[.val (.int p1), .val (.int p2), .val (.int p3), .val (.int p4), .val (.int p5), .val (.int p6), .val (.int ((p1 &&& (2147483647 : Int32)) % (100000 : Int32))), .val (.int ((p2 &&& (2147483647 : Int32)) % (100000 : Int32))), .val (.int L2), .val (.int B2), .val (.ref w1), .val (.ref w2), .val (.ref b9), .unset, .unset, .unset] [(.int (2 : Int32)), (.int p6)])) _
    refine XS.iushr X10.here hx rfl (hb hby at_98) rfl ?_
    show Steps p.tables e below (T10.setTop (mkF m 99 #[.val (.int p1), .val (.int p2), .val (.int p3), .val (.int p4), .val (.int p5), .val (.int p6), .val (.int ((p1 &&& (2147483647 : Int32)) % (100000 : Int32))), .val (.int ((p2 &&& (2147483647 : Int32)) % (100000 : Int32))), .val (.int L2), .val (.int B2), .val (.ref w1), .val (.ref w2), .val (.ref b9), .unset, .unset, .unset] [(.int ((p6.toUInt32 >>> ((2 : Int32) &&& 31).toUInt32).toInt32))])) _
    refine XS.iconst X10.here hx rfl (hb hby at_99) ?_
    show Steps p.tables e below (T10.setTop (mkF m 100 #[.val (.int p1), .val (.int p2), .val (.int p3), .val (.int p4), .val (.int p5), .val (.int p6), .val (.int ((p1 &&& (2147483647 : Int32)) % (100000 : Int32))), .val (.int ((p2 &&& (2147483647 : Int32)) % (100000 : Int32))), .val (.int L2), .val (.int B2), .val (.ref w1), .val (.ref w2), .val (.ref b9), .unset, .unset, .unset] [(.int (3 : Int32)), (.int ((p6.toUInt32 >>> ((2 : Int32) &&& 31).toUInt32).toInt32))])) _
    refine XS.iand X10.here hx rfl (hb hby at_100) rfl ?_
    show Steps p.tables e below (T10.setTop (mkF m 101 #[.val (.int p1), .val (.int p2), .val (.int p3), .val (.int p4), .val (.int p5), .val (.int p6), .val (.int ((p1 &&& (2147483647 : Int32)) % (100000 : Int32))), .val (.int ((p2 &&& (2147483647 : Int32)) % (100000 : Int32))), .val (.int L2), .val (.int B2), .val (.ref w1), .val (.ref w2), .val (.ref b9), .unset, .unset, .unset] [(.int (((p6.toUInt32 >>> ((2 : Int32) &&& 31).toUInt32).toInt32) &&& (3 : Int32)))])) _
    refine XS.istore X10.here hx rfl (hb hby at_101) rfl (l' := #[.val (.int p1), .val (.int p2), .val (.int p3), .val (.int p4), .val (.int p5), .val (.int p6), .val (.int ((p1 &&& (2147483647 : Int32)) % (100000 : Int32))), .val (.int ((p2 &&& (2147483647 : Int32)) % (100000 : Int32))), .val (.int L2), .val (.int B2), .val (.ref w1), .val (.ref w2), .val (.ref b9), .val (.int (((p6.toUInt32 >>> ((2 : Int32) &&& 31).toUInt32).toInt32) &&& (3 : Int32))), .unset, .unset]) rfl ?_
    show Steps p.tables e below (T10.setTop (mkF m 103 #[.val (.int p1), .val (.int p2), .val (.int p3), .val (.int p4), .val (.int p5), .val (.int p6), .val (.int ((p1 &&& (2147483647 : Int32)) % (100000 : Int32))), .val (.int ((p2 &&& (2147483647 : Int32)) % (100000 : Int32))), .val (.int L2), .val (.int B2), .val (.ref w1), .val (.ref w2), .val (.ref b9), .val (.int (((p6.toUInt32 >>> ((2 : Int32) &&& 31).toUInt32).toInt32) &&& (3 : Int32))), .unset, .unset] [])) _
    refine XS.iload X10.here hx rfl (hb hby at_103) rfl ?_
    show Steps p.tables e below (T10.setTop (mkF m 105 #[.val (.int p1), .val (.int p2), .val (.int p3), .val (.int p4), .val (.int p5), .val (.int p6), .val (.int ((p1 &&& (2147483647 : Int32)) % (100000 : Int32))), .val (.int ((p2 &&& (2147483647 : Int32)) % (100000 : Int32))), .val (.int L2), .val (.int B2), .val (.ref w1), .val (.ref w2), .val (.ref b9), .val (.int (((p6.toUInt32 >>> ((2 : Int32) &&& 31).toUInt32).toInt32) &&& (3 : Int32))), .unset, .unset] [(.int (((p6.toUInt32 >>> ((2 : Int32) &&& 31).toUInt32).toInt32) &&& (3 : Int32)))])) _
    refine XS.iconst X10.here hx rfl (hb hby at_105) ?_
    show Steps p.tables e below (T10.setTop (mkF m 106 #[.val (.int p1), .val (.int p2), .val (.int p3), .val (.int p4), .val (.int p5), .val (.int p6), .val (.int ((p1 &&& (2147483647 : Int32)) % (100000 : Int32))), .val (.int ((p2 &&& (2147483647 : Int32)) % (100000 : Int32))), .val (.int L2), .val (.int B2), .val (.ref w1), .val (.ref w2), .val (.ref b9), .val (.int (((p6.toUInt32 >>> ((2 : Int32) &&& 31).toUInt32).toInt32) &&& (3 : Int32))), .unset, .unset] [(.int (1 : Int32)), (.int (((p6.toUInt32 >>> ((2 : Int32) &&& 31).toUInt32).toInt32) &&& (3 : Int32)))])) _
    refine XS.icmpYes X10.here hx rfl (pc0 := 106) (pc' := 124) rfl (hb hby at_106) rfl (feq hc106).2 (by decide) (by decide) ?_
    show Steps p.tables e below (T10.setTop (mkF m 124 #[.val (.int p1), .val (.int p2), .val (.int p3), .val (.int p4), .val (.int p5), .val (.int p6), .val (.int ((p1 &&& (2147483647 : Int32)) % (100000 : Int32))), .val (.int ((p2 &&& (2147483647 : Int32)) % (100000 : Int32))), .val (.int L2), .val (.int B2), .val (.ref w1), .val (.ref w2), .val (.ref b9), .val (.int (((p6.toUInt32 >>> ((2 : Int32) &&& 31).toUInt32).toInt32) &&& (3 : Int32))), .unset, .unset] [])) _
    refine XS.iload X10.here hx rfl (hb hby at_124) rfl ?_
    show Steps p.tables e below (T10.setTop (mkF m 126 #[.val (.int p1), .val (.int p2), .val (.int p3), .val (.int p4), .val (.int p5), .val (.int p6), .val (.int ((p1 &&& (2147483647 : Int32)) % (100000 : Int32))), .val (.int ((p2 &&& (2147483647 : Int32)) % (100000 : Int32))), .val (.int L2), .val (.int B2), .val (.ref w1), .val (.ref w2), .val (.ref b9), .val (.int (((p6.toUInt32 >>> ((2 : Int32) &&& 31).toUInt32).toInt32) &&& (3 : Int32))), .unset, .unset] [(.int (((p6.toUInt32 >>> ((2 : Int32) &&& 31).toUInt32).toInt32) &&& (3 : Int32)))])) _
    refine XS.iconst X10.here hx rfl (hb hby at_126) ?_
    show Steps p.tables e below (T10.setTop (mkF m 127 #[.val (.int p1), .val (.int p2), .val (.int p3), .val (.int p4), .val (.int p5), .val (.int p6), .val (.int ((p1 &&& (2147483647 : Int32)) % (100000 : Int32))), .val (.int ((p2 &&& (2147483647 : Int32)) % (100000 : Int32))), .val (.int L2), .val (.int B2), .val (.ref w1), .val (.ref w2), .val (.ref b9), .val (.int (((p6.toUInt32 >>> ((2 : Int32) &&& 31).toUInt32).toInt32) &&& (3 : Int32))), .unset, .unset] [(.int (2 : Int32)), (.int (((p6.toUInt32 >>> ((2 : Int32) &&& 31).toUInt32).toInt32) &&& (3 : Int32)))])) _
    refine XS.icmpYes X10.here hx rfl (pc0 := 127) (pc' := 153) rfl (hb hby at_127) rfl (feq hc127).2 (by decide) (by decide) ?_
    show Steps p.tables e below (T10.setTop (mkF m 153 #[.val (.int p1), .val (.int p2), .val (.int p3), .val (.int p4), .val (.int p5), .val (.int p6), .val (.int ((p1 &&& (2147483647 : Int32)) % (100000 : Int32))), .val (.int ((p2 &&& (2147483647 : Int32)) % (100000 : Int32))), .val (.int L2), .val (.int B2), .val (.ref w1), .val (.ref w2), .val (.ref b9), .val (.int (((p6.toUInt32 >>> ((2 : Int32) &&& 31).toUInt32).toInt32) &&& (3 : Int32))), .unset, .unset] [])) _
    refine XS.iload X10.here hx rfl (hb hby at_153) rfl ?_
    show Steps p.tables e below (T10.setTop (mkF m 155 #[.val (.int p1), .val (.int p2), .val (.int p3), .val (.int p4), .val (.int p5), .val (.int p6), .val (.int ((p1 &&& (2147483647 : Int32)) % (100000 : Int32))), .val (.int ((p2 &&& (2147483647 : Int32)) % (100000 : Int32))), .val (.int L2), .val (.int B2), .val (.ref w1), .val (.ref w2), .val (.ref b9), .val (.int (((p6.toUInt32 >>> ((2 : Int32) &&& 31).toUInt32).toInt32) &&& (3 : Int32))), .unset, .unset] [(.int (((p6.toUInt32 >>> ((2 : Int32) &&& 31).toUInt32).toInt32) &&& (3 : Int32)))])) _
    refine XS.iconst X10.here hx rfl (hb hby at_155) ?_
    show Steps p.tables e below (T10.setTop (mkF m 156 #[.val (.int p1), .val (.int p2), .val (.int p3), .val (.int p4), .val (.int p5), .val (.int p6), .val (.int ((p1 &&& (2147483647 : Int32)) % (100000 : Int32))), .val (.int ((p2 &&& (2147483647 : Int32)) % (100000 : Int32))), .val (.int L2), .val (.int B2), .val (.ref w1), .val (.ref w2), .val (.ref b9), .val (.int (((p6.toUInt32 >>> ((2 : Int32) &&& 31).toUInt32).toInt32) &&& (3 : Int32))), .unset, .unset] [(.int (3 : Int32)), (.int (((p6.toUInt32 >>> ((2 : Int32) &&& 31).toUInt32).toInt32) &&& (3 : Int32)))])) _
    refine XS.icmpNo X10.here hx rfl (hb hby at_156) rfl (teq hc156).2 ?_
    show Steps p.tables e below (T10.setTop (mkF m 159 #[.val (.int p1), .val (.int p2), .val (.int p3), .val (.int p4), .val (.int p5), .val (.int p6), .val (.int ((p1 &&& (2147483647 : Int32)) % (100000 : Int32))), .val (.int ((p2 &&& (2147483647 : Int32)) % (100000 : Int32))), .val (.int L2), .val (.int B2), .val (.ref w1), .val (.ref w2), .val (.ref b9), .val (.int (((p6.toUInt32 >>> ((2 : Int32) &&& 31).toUInt32).toInt32) &&& (3 : Int32))), .unset, .unset] [])) _
    refine XS.aload X10.here hx rfl (hb hby at_159) rfl rfl ?_
    show Steps p.tables e below (T10.setTop (mkF m 161 #[.val (.int p1), .val (.int p2), .val (.int p3), .val (.int p4), .val (.int p5), .val (.int p6), .val (.int ((p1 &&& (2147483647 : Int32)) % (100000 : Int32))), .val (.int ((p2 &&& (2147483647 : Int32)) % (100000 : Int32))), .val (.int L2), .val (.int B2), .val (.ref w1), .val (.ref w2), .val (.ref b9), .val (.int (((p6.toUInt32 >>> ((2 : Int32) &&& 31).toUInt32).toInt32) &&& (3 : Int32))), .unset, .unset] [(.ref b9)])) _
    refine XS.aload X10.here hx rfl (hb hby at_161) rfl rfl ?_
    show Steps p.tables e below (T10.setTop (mkF m 163 #[.val (.int p1), .val (.int p2), .val (.int p3), .val (.int p4), .val (.int p5), .val (.int p6), .val (.int ((p1 &&& (2147483647 : Int32)) % (100000 : Int32))), .val (.int ((p2 &&& (2147483647 : Int32)) % (100000 : Int32))), .val (.int L2), .val (.int B2), .val (.ref w1), .val (.ref w2), .val (.ref b9), .val (.int (((p6.toUInt32 >>> ((2 : Int32) &&& 31).toUInt32).toInt32) &&& (3 : Int32))), .unset, .unset] [(.ref b9), (.ref b9)])) _
    refine st11.trans ?_
    show Steps p.tables e below (T11.setTop (mkF m 166 #[.val (.int p1), .val (.int p2), .val (.int p3), .val (.int p4), .val (.int p5), .val (.int p6), .val (.int ((p1 &&& (2147483647 : Int32)) % (100000 : Int32))), .val (.int ((p2 &&& (2147483647 : Int32)) % (100000 : Int32))), .val (.int L2), .val (.int B2), .val (.ref w1), .val (.ref w2), .val (.ref b9), .val (.int (((p6.toUInt32 >>> ((2 : Int32) &&& 31).toUInt32).toInt32) &&& (3 : Int32))), .unset, .unset] [(.int (1 : Int32))])) _
    exact retN X11 hx (t := .boolean) Bd.returns (by simp) (hb hby at_166) hr
  · show Q0 h0 n0 _ T11.heap _
    rw [eq11]
    exact ⟨rfl, N11⟩
set_option maxRecDepth 65536 in
set_option maxHeartbeats 40000000 in
theorem rm0_tttfffff (l : Launch) (Z : State) (a0 : Array Value) (hw : ∀ d ∈ tables_1, d.before a0 Z = true) (ws : List Jvm.Cond) (p1 : Int32) (p2 : Int32) (p3 : Int32) (p4 : Int32) (p5 : Int32) (p6 : Int32) (L2 : Int32) (B2 : Int32) (w1 w2 : Addr) (wC : Int32) (h0 : Heap) (n0 : Nat) (Z0 : n0 ≤ h0.size) (HL : (((p6 &&& (1 : Int32)) = (0 : Int32) ∧ L2 = (p3 &&& (2147483647 : Int32)) % (100000 : Int32)) ∨ (¬ (p6 &&& (1 : Int32)) = (0 : Int32) ∧ L2 = ((p1 &&& (2147483647 : Int32)) % (100000 : Int32))))) (HB : (((p6 &&& (2 : Int32)) = (0 : Int32) ∧ B2 = (p4 &&& (2147483647 : Int32)) % (100000 : Int32)) ∨ (¬ (p6 &&& (2 : Int32)) = (0 : Int32) ∧ B2 = ((p2 &&& (2147483647 : Int32)) % (100000 : Int32))))) (H1 : ((p5 &&& (3 : Int32)) = 0 ∧ Sta Z h0 "com/example/fieldwright/fieldwright/mater/RecordLabel$Status" "NEW" "Lcom/example/fieldwright/fieldwright/mater/RecordLabel$Status;" (.ref w1)) ∨ ((p5 &&& (3 : Int32)) = 1 ∧ Sta Z h0 "com/example/fieldwright/fieldwright/mater/RecordLabel$Status" "AMENDED" "Lcom/example/fieldwright/fieldwright/mater/RecordLabel$Status;" (.ref w1)) ∨ ((p5 &&& (3 : Int32)) = 2 ∧ Sta Z h0 "com/example/fieldwright/fieldwright/mater/RecordLabel$Status" "DELETED" "Lcom/example/fieldwright/fieldwright/mater/RecordLabel$Status;" (.ref w1)) ∨ ((p5 &&& (3 : Int32)) = 3 ∧ Sta Z h0 "com/example/fieldwright/fieldwright/mater/RecordLabel$Status" "INFORMATION" "Lcom/example/fieldwright/fieldwright/mater/RecordLabel$Status;" (.ref w1))) (H2 : ((((p5.toUInt32 >>> ((2 : Int32) &&& 31).toUInt32).toInt32) &&& (3 : Int32)) = 0 ∧ Sta Z h0 "com/example/fieldwright/fieldwright/mater/RecordLabel$Status" "NEW" "Lcom/example/fieldwright/fieldwright/mater/RecordLabel$Status;" (.ref w2)) ∨ ((((p5.toUInt32 >>> ((2 : Int32) &&& 31).toUInt32).toInt32) &&& (3 : Int32)) = 1 ∧ Sta Z h0 "com/example/fieldwright/fieldwright/mater/RecordLabel$Status" "AMENDED" "Lcom/example/fieldwright/fieldwright/mater/RecordLabel$Status;" (.ref w2)) ∨ ((((p5.toUInt32 >>> ((2 : Int32) &&& 31).toUInt32).toInt32) &&& (3 : Int32)) = 2 ∧ Sta Z h0 "com/example/fieldwright/fieldwright/mater/RecordLabel$Status" "DELETED" "Lcom/example/fieldwright/fieldwright/mater/RecordLabel$Status;" (.ref w2)) ∨ ((((p5.toUInt32 >>> ((2 : Int32) &&& 31).toUInt32).toInt32) &&& (3 : Int32)) = 3 ∧ Sta Z h0 "com/example/fieldwright/fieldwright/mater/RecordLabel$Status" "INFORMATION" "Lcom/example/fieldwright/fieldwright/mater/RecordLabel$Status;" (.ref w2))) (E1 : Exa Z h0 w1 "com/example/fieldwright/fieldwright/mater/RecordLabel$Status") (E2 : Exa Z h0 w2 "com/example/fieldwright/fieldwright/mater/RecordLabel$Status") (SC : Sta Z h0 "java/lang/String" "COMPACT_STRINGS" "Z" (.int wC)) (hC : ¬ (wC = (0 : Int32))) (RL : ¬ (L2 < (0 : Int32)) ∧ ¬ ((99999 : Int32) < L2)) (RB : ¬ (B2 < (0 : Int32)) ∧ ¬ ((99999 : Int32) < B2)) (hc106 : ¬ ((((p6.toUInt32 >>> ((2 : Int32) &&& 31).toUInt32).toInt32) &&& (3 : Int32)) = (1 : Int32))) (hc127 : ¬ ((((p6.toUInt32 >>> ((2 : Int32) &&& 31).toUInt32).toInt32) &&& (3 : Int32)) = (2 : Int32))) (hc156 : ¬ ((((p6.toUInt32 >>> ((2 : Int32) &&& 31).toUInt32).toInt32) &&& (3 : Int32)) = (3 : Int32))) (hc186 : ((p1 &&& (2147483647 : Int32)) % (100000 : Int32)) = L2) (ha193 : w1 = w2) (hc200 : ((p2 &&& (2147483647 : Int32)) % (100000 : Int32)) = B2) :
    MetFree l x (head1 (Jvm.Cond.code x code maxLocals ret :: ws) room_1) (fun a U => a = #[(.int p1), (.int p2), (.int p3), (.int p4), (.int p5), (.int p6)] ∧ Z.Warmed39 U.vm ∧ U.heap = h0) (fun _ _ _ _ _ => True) (fun _ U o U' => ∃ v L, o = .returned v ∧ Q0 h0 n0 v U'.heap L ∧ ReturnedEndW U o U' L room_1.cells room_1.slots) := by
  refine MetFree.of_bodySF (plainFor_of_name pn_0) hisR ?_
  intro p e s m args below meth c s₁ Bd hml0 hP hK
  obtain ⟨rfl, hZ, hh⟩ := hP
  have hx := Bd.exec
  have hby := Bd.bytes
  have hml : c.maxLocals = 16 := hml0
  have hown : s.vm.findClass "com/example/fieldwright/fieldwright/mater/RecordLabelEqualsPinLaw" = some m.cls := findClass_of_methodNamed Bd.named
  have hnm := (name_of_methodNamed Bd.named Bd.method).1
  have X0 : Stand p l e room_1 s m #[(.int p1), (.int p2), (.int p3), (.int p4), (.int p5), (.int p6)] below meth c s₁ [] 0 0 := Stand.of_body Bd
  have e0 : s₁.heap = h0 := by rw [← hh, Bd.state]; rfl
  have N0 := Fr.nil n0
  have pre0 : ∀ t, Steps p.tables e below (s₁.setTop (mkF m 0 #[.val (.int p1), .val (.int p2), .val (.int p3), .val (.int p4), .val (.int p5), .val (.int p6), .unset, .unset, .unset, .unset, .unset, .unset, .unset, .unset, .unset, .unset] [])) t → Steps p.tables e below (s₁.setTop (entryFrame m #[(.int p1), (.int p2), (.int p3), (.int p4), (.int p5), (.int p6)] maxLocals)) t := fun t k => castTop (ef_0 m p1 p2 p3 p4 p5 p6) k
  have h1 := hc186
  have h2 := ha193
  have h3 := hc200
  have hZ00 := hZ
  have hown00 := hown
  have hS : s.Since s.vm h0.size := (State.WarmedH.refl s).since _
  have hk : h0.size ≤ h0.size := Nat.le_refl _
  obtain ⟨_, _, ⟨T7, L7, k7, n7⟩, -, X7, ⟨Lc7, hQ7, l7, y7, z7⟩, st7⟩ := Jvm.LawKit.callS X0 hx (y := (⟨"com/example/fieldwright/fieldwright/mater/RecordLabelEqualsPinLaw", "status", "(I)Lcom/example/fieldwright/fieldwright/mater/RecordLabel$Status;"⟩ : MethodName)) hown (mvT hZ (hw _ (List.mem_of_getElem? (i := 2) rfl))) (mvT hZ (hw _ (List.mem_of_getElem? (i := 3) rfl))) (mvT hZ (hw _ (List.mem_of_getElem? (i := 4) rfl))) (mvT hZ (hw _ (List.mem_of_getElem? (i := 5) rfl))) (by decide) (backOf (W := 0) (rm1 l Z a0 hw [] (p5 &&& (3 : Int32)) w1 h0 n0 Z0 H1) hZ (hw _ (List.mem_of_getElem? (i := 5) rfl)) (hw _ (List.mem_of_getElem? (i := 4) rfl)) (by decide) (by decide)) (g := (mkF m 64 #[.val (.int p1), .val (.int p2), .val (.int p3), .val (.int p4), .val (.int p5), .val (.int p6), .val (.int ((p1 &&& (2147483647 : Int32)) % (100000 : Int32))), .val (.int ((p2 &&& (2147483647 : Int32)) % (100000 : Int32))), .val (.int L2), .val (.int B2), .unset, .unset, .unset, .unset, .unset, .unset] [(.int (p5 &&& (3 : Int32)))])) rfl (by rw [hml]; rfl) (argsL := [(.int (p5 &&& (3 : Int32)))]) (rest := []) (lenOf pd_0_0 rfl) rfl (by show 2 * 0 + _ ≤ _; exact Nat.le_of_eq rfl) (hb hby at_64) (fun _ _ => ⟨rfl, e0, (by decide : 0 + 0 ≤ _), (by decide : 0 + 0 ≤ _)⟩)
  dsimp only [Pt.U, Pt.locs, Pt.cells, Pt.slots] at X7 l7 y7 z7 st7 hQ7
  subst l7 y7 z7
  obtain ⟨rfl, N7q, eq7⟩ := hQ7
  have N7 := Fr.app N0 N7q
  obtain ⟨_, _, ⟨T8, L8, k8, n8⟩, -, X8, ⟨Lc8, hQ8, l8, y8, z8⟩, st8⟩ := Jvm.LawKit.callS X7 hx (y := (⟨"com/example/fieldwright/fieldwright/mater/RecordLabelEqualsPinLaw", "status", "(I)Lcom/example/fieldwright/fieldwright/mater/RecordLabel$Status;"⟩ : MethodName)) hown (mvT hZ (hw _ (List.mem_of_getElem? (i := 2) rfl))) (mvT hZ (hw _ (List.mem_of_getElem? (i := 3) rfl))) (mvT hZ (hw _ (List.mem_of_getElem? (i := 4) rfl))) (mvT hZ (hw _ (List.mem_of_getElem? (i := 5) rfl))) (by decide) (backOf (W := 0) (rm1 l Z a0 hw [] (((p5.toUInt32 >>> ((2 : Int32) &&& 31).toUInt32).toInt32) &&& (3 : Int32)) w2 h0 n0 Z0 H2) hZ (hw _ (List.mem_of_getElem? (i := 5) rfl)) (hw _ (List.mem_of_getElem? (i := 4) rfl)) (by decide) (by decide)) (g := (mkF m 75 #[.val (.int p1), .val (.int p2), .val (.int p3), .val (.int p4), .val (.int p5), .val (.int p6), .val (.int ((p1 &&& (2147483647 : Int32)) % (100000 : Int32))), .val (.int ((p2 &&& (2147483647 : Int32)) % (100000 : Int32))), .val (.int L2), .val (.int B2), .val (.ref w1), .unset, .unset, .unset, .unset, .unset] [(.int (((p5.toUInt32 >>> ((2 : Int32) &&& 31).toUInt32).toInt32) &&& (3 : Int32)))])) rfl (by rw [hml]; rfl) (argsL := [(.int (((p5.toUInt32 >>> ((2 : Int32) &&& 31).toUInt32).toInt32) &&& (3 : Int32)))]) (rest := []) (lenOf pd_0_0 rfl) rfl (by show 2 * 0 + _ ≤ _; exact Nat.le_of_eq rfl) (hb hby at_75) (fun _ _ => ⟨rfl, eq7, (by decide : 0 + 0 ≤ _), (by decide : 0 + 0 ≤ _)⟩)
  dsimp only [Pt.U, Pt.locs, Pt.cells, Pt.slots] at X8 l8 y8 z8 st8 hQ8
  subst l8 y8 z8
  obtain ⟨rfl, N8q, eq8⟩ := hQ8
  have N8 := Fr.app N7 N8q
  obtain ⟨T9, h9, X9, e9, E9, A9, D9, -, st9⟩ := newO X8 hx hZ hown (hw _ (List.mem_of_getElem? (i := 9) rfl)) (hw _ (List.mem_of_getElem? (i := 10) rfl)) (hw _ (List.mem_of_getElem? (i := 11) rfl)) eq8 (g := (mkF m 80 #[.val (.int p1), .val (.int p2), .val (.int p3), .val (.int p4), .val (.int p5), .val (.int p6), .val (.int ((p1 &&& (2147483647 : Int32)) % (100000 : Int32))), .val (.int ((p2 &&& (2147483647 : Int32)) % (100000 : Int32))), .val (.int L2), .val (.int B2), .val (.ref w1), .val (.ref w2), .unset, .unset, .unset, .unset] [])) rfl (hb hby at_80) (by decide) (by decide)
  obtain ⟨b9, g9⟩ : ∃ z, z = h0.size := ⟨_, rfl⟩
  rw [← g9] at A9 D9 st9
  have F_recordLength_b9 : Fld Z h9 b9 "com/example/fieldwright/fieldwright/mater/RecordLabel" "recordLength" "I" (.int (0 : Int32)) := D9 (Or.inr (hw _ (List.mem_of_getElem? (i := 31) rfl))) (ty := .int) (by decide)
  have F_status_b9 : Fld Z h9 b9 "com/example/fieldwright/fieldwright/mater/RecordLabel" "status" "Lcom/example/fieldwright/fieldwright/mater/RecordLabel$Status;" .null := D9 (Or.inr (hw _ (List.mem_of_getElem? (i := 40) rfl))) (ty := (.object "com/example/fieldwright/fieldwright/mater/RecordLabel$Status")) (by decide)
  have F_baseAddress_b9 : Fld Z h9 b9 "com/example/fieldwright/fieldwright/mater/RecordLabel" "baseAddress" "I" (.int (0 : Int32)) := D9 (Or.inr (hw _ (List.mem_of_getElem? (i := 43) rfl))) (ty := .int) (by decide)
  have E_b9 := A9
  have g_b9 : n0 ≤ b9 := Nat.le_trans Z0 (Nat.le_of_eq g9.symm)
  have sz_b9 : h0.size ≤ b9 := (Nat.le_trans (Keep.refl h0 []).1 (Nat.le_of_eq g9.symm))
  have K9 : Keep h0 h9 [] := (Keep.refl h0 []).ext E9
  have hk := Nat.le_trans hk E9.1
  obtain ⟨_, _, ⟨T10, L10, k10, n10⟩, -, X10, hS10, hg10, ⟨Lc10, hQ10, l10, y10, z10⟩, st10⟩ := X9.specialBackS hx (y := (⟨"com/example/fieldwright/fieldwright/mater/RecordLabel", "<init>", "(ILcom/example/fieldwright/fieldwright/mater/RecordLabel$Status;I)V"⟩ : MethodName)) rfl hown (mvT hZ (hw _ (List.mem_of_getElem? (i := 12) rfl))) (mvT hZ (hw _ (List.mem_of_getElem? (i := 13) rfl))) (mvT hZ (hw _ (List.mem_of_getElem? (i := 14) rfl))) (by decide) (backOfS (W := 1) (rm2 l Z a0 hw [] b9 ((p1 &&& (2147483647 : Int32)) % (100000 : Int32)) w1 ((p2 &&& (2147483647 : Int32)) % (100000 : Int32)) (.int (0 : Int32)) .null (.int (0 : Int32)) h9 n0 (Nat.le_trans Z0 K9.1) (own_rng p1).1 (own_rng p1).2 (own_rng p2).1 (own_rng p2).2 E_b9 F_recordLength_b9 g_b9 (E1.keep K9) F_status_b9 F_baseAddress_b9) hZ (hw _ (List.mem_of_getElem? (i := 14) rfl)) (hw _ (List.mem_of_getElem? (i := 11) rfl)) (by decide) (by decide)) (g := (mkF m 90 #[.val (.int p1), .val (.int p2), .val (.int p3), .val (.int p4), .val (.int p5), .val (.int p6), .val (.int ((p1 &&& (2147483647 : Int32)) % (100000 : Int32))), .val (.int ((p2 &&& (2147483647 : Int32)) % (100000 : Int32))), .val (.int L2), .val (.int B2), .val (.ref w1), .val (.ref w2), .unset, .unset, .unset, .unset] [(.int ((p2 &&& (2147483647 : Int32)) % (100000 : Int32))), (.ref w1), (.int ((p1 &&& (2147483647 : Int32)) % (100000 : Int32))), (.ref b9), (.ref b9)])) rfl (by rw [hml]; rfl) (Steps.refl _) (a := b9) (argsL := [(.int ((p1 &&& (2147483647 : Int32)) % (100000 : Int32))), (.ref w1), (.int ((p2 &&& (2147483647 : Int32)) % (100000 : Int32)))]) (rest := [(.ref b9)]) (lenOf pd_0_1 rfl) rfl (by show 2 * 0 + _ ≤ _; exact Nat.le_of_eq rfl) (hb hby at_90) (fun _ _ => ⟨rfl, e9, (by decide : 1 + 6 ≤ _), (by decide : 3 + 136 ≤ _)⟩)
  dsimp only [Pt.U, Pt.locs, Pt.cells, Pt.slots] at X10 l10 y10 z10 st10 hQ10 hS10 hg10
  subst l10 y10 z10
  obtain ⟨rfl, N10q, Kq10, Eq10, F1_b9, F2_b9, F3_b9⟩ := hQ10
  have K10 : Keep h0 T10.heap [] := K9.trans Kq10 (fun x hx => by cases List.mem_singleton.mp hx; exact Or.inr sz_b9)
  have N10 := Fr.app N8 N10q
  obtain ⟨X10, hS, hZ, hown⟩ := rebS hS (show _ ≤ T9.heap.size by rw [e9]; exact hk) X10 hS10 hg10 hZ hown
  have hk := Nat.le_refl T10.heap.size
  obtain ⟨T11, h11, X11, e11, E11, A11, D11, -, st11⟩ := newO X10 hx hZ hown (hw _ (List.mem_of_getElem? (i := 9) rfl)) (hw _ (List.mem_of_getElem? (i := 10) rfl)) (hw _ (List.mem_of_getElem? (i := 11) rfl)) rfl (g := (mkF m 167 #[.val (.int p1), .val (.int p2), .val (.int p3), .val (.int p4), .val (.int p5), .val (.int p6), .val (.int ((p1 &&& (2147483647 : Int32)) % (100000 : Int32))), .val (.int ((p2 &&& (2147483647 : Int32)) % (100000 : Int32))), .val (.int L2), .val (.int B2), .val (.ref w1), .val (.ref w2), .val (.ref b9), .val (.int (((p6.toUInt32 >>> ((2 : Int32) &&& 31).toUInt32).toInt32) &&& (3 : Int32))), .unset, .unset] [])) rfl (hb hby at_167) (by decide) (by decide)
  obtain ⟨b11, g11⟩ : ∃ z, z = T10.heap.size := ⟨_, rfl⟩
  rw [← g11] at A11 D11 st11
  have F_recordLength_b11 : Fld Z h11 b11 "com/example/fieldwright/fieldwright/mater/RecordLabel" "recordLength" "I" (.int (0 : Int32)) := D11 (Or.inr (hw _ (List.mem_of_getElem? (i := 31) rfl))) (ty := .int) (by decide)
  have F_status_b11 : Fld Z h11 b11 "com/example/fieldwright/fieldwright/mater/RecordLabel" "status" "Lcom/example/fieldwright/fieldwright/mater/RecordLabel$Status;" .null := D11 (Or.inr (hw _ (List.mem_of_getElem? (i := 40) rfl))) (ty := (.object "com/example/fieldwright/fieldwright/mater/RecordLabel$Status")) (by decide)
  have F_baseAddress_b11 : Fld Z h11 b11 "com/example/fieldwright/fieldwright/mater/RecordLabel" "baseAddress" "I" (.int (0 : Int32)) := D11 (Or.inr (hw _ (List.mem_of_getElem? (i := 43) rfl))) (ty := .int) (by decide)
  have E_b11 := A11
  have g_b11 : n0 ≤ b11 := Nat.le_trans (Nat.le_trans (Nat.le_trans Z0 E9.1) Kq10.1) (Nat.le_of_eq g11.symm)
  have sz_b11 : h0.size ≤ b11 := (Nat.le_trans K10.1 (Nat.le_of_eq g11.symm))
  have K11 : Keep h0 h11 [] := K10.ext E11
  have hk := Nat.le_trans hk E11.1
  obtain ⟨_, _, ⟨T12, L12, k12, n12⟩, -, X12, hS12, hg12, ⟨Lc12, hQ12, l12, y12, z12⟩, st12⟩ := X11.specialBackS hx (y := (⟨"com/example/fieldwright/fieldwright/mater/RecordLabel", "<init>", "(ILcom/example/fieldwright/fieldwright/mater/RecordLabel$Status;I)V"⟩ : MethodName)) rfl hown (mvT hZ (hw _ (List.mem_of_getElem? (i := 12) rfl))) (mvT hZ (hw _ (List.mem_of_getElem? (i := 13) rfl))) (mvT hZ (hw _ (List.mem_of_getElem? (i := 14) rfl))) (by decide) (backOfS (W := 1) (rm2 l Z a0 hw [] b11 L2 w2 B2 (.int (0 : Int32)) .null (.int (0 : Int32)) h11 n0 (Nat.le_trans Z0 K11.1) RL.1 RL.2 RB.1 RB.2 E_b11 F_recordLength_b11 g_b11 (E2.keep K11) F_status_b11 F_baseAddress_b11) hZ (hw _ (List.mem_of_getElem? (i := 14) rfl)) (hw _ (List.mem_of_getElem? (i := 11) rfl)) (by decide) (by decide)) (g := (mkF m 177 #[.val (.int p1), .val (.int p2), .val (.int p3), .val (.int p4), .val (.int p5), .val (.int p6), .val (.int ((p1 &&& (2147483647 : Int32)) % (100000 : Int32))), .val (.int ((p2 &&& (2147483647 : Int32)) % (100000 : Int32))), .val (.int L2), .val (.int B2), .val (.ref w1), .val (.ref w2), .val (.ref b9), .val (.int (((p6.toUInt32 >>> ((2 : Int32) &&& 31).toUInt32).toInt32) &&& (3 : Int32))), .unset, .unset] [(.int B2), (.ref w2), (.int L2), (.ref b11), (.ref b11)])) rfl (by rw [hml]; rfl) (Steps.refl _) (a := b11) (argsL := [(.int L2), (.ref w2), (.int B2)]) (rest := [(.ref b11)]) (lenOf pd_0_1 rfl) rfl (by show 2 * 0 + _ ≤ _; exact Nat.le_of_eq rfl) (hb hby at_177) (fun _ _ => ⟨rfl, e11, (by decide : 8 + 6 ≤ _), (by decide : 142 + 136 ≤ _)⟩)
  dsimp only [Pt.U, Pt.locs, Pt.cells, Pt.slots] at X12 l12 y12 z12 st12 hQ12 hS12 hg12
  subst l12 y12 z12
  obtain ⟨rfl, N12q, Kq12, Eq12, F1_b11, F2_b11, F3_b11⟩ := hQ12
  have KA : Keep T10.heap T12.heap [] := ((Keep.refl T10.heap []).ext E11).trans Kq12 (fun x hx => by cases List.mem_singleton.mp hx; exact Or.inr (Nat.le_of_eq g11.symm))
  have K12 : Keep h0 T12.heap [] := K11.trans Kq12 (fun x hx => by cases List.mem_singleton.mp hx; exact Or.inr sz_b11)
  have N12 := Fr.app N10 N12q
  obtain ⟨X12, hS, hZ, hown⟩ := rebS hS (show _ ≤ T11.heap.size by rw [e11]; exact hk) X12 hS12 hg12 hZ hown
  have hk := Nat.le_refl T12.heap.size
  obtain ⟨cq13, kq13, q13a, q13b, q13c⟩ := isOf hZ rfl (((E_b9.keep Kq10).ext E11).keep Kq12)
  obtain ⟨_, _, ⟨T13, L13, k13, n13⟩, -, X13, ⟨Lc13, hQ13, l13, y13, z13⟩, st13⟩ := X12.virtualBack hx (y := (⟨"com/example/fieldwright/fieldwright/mater/RecordLabel", "equals", "(Ljava/lang/Object;)Z"⟩ : MethodName)) (z := (⟨"com/example/fieldwright/fieldwright/mater/RecordLabel", "equals", "(Ljava/lang/Object;)Z"⟩ : MethodName)) hown (mvT hZ (hw _ (List.mem_of_getElem? (i := 44) rfl))) (mvT hZ (hw _ (List.mem_of_getElem? (i := 45) rfl))) (notFace_of_selects (args := #[]) (mvT hZ (hw _ (List.mem_of_getElem? (i := 47) rfl)))) (mvT hZ (hw _ (List.mem_of_getElem? (i := 47) rfl))) (mvT hZ (hw _ (List.mem_of_getElem? (i := 46) rfl))) (by decide) (backOf (W := 0) (rm6_yes l Z a0 hw [] b9 b11 ((p1 &&& (2147483647 : Int32)) % (100000 : Int32)) L2 w1 w2 ((p2 &&& (2147483647 : Int32)) % (100000 : Int32)) B2 T12.heap n0 (Nat.le_trans Z0 K12.1) Eq12 (F1_b9.keep KA List.not_mem_nil) (F2_b9.keep KA List.not_mem_nil) (F3_b9.keep KA List.not_mem_nil) F1_b11 F2_b11 F3_b11 h1 h2 h3) hZ (hw _ (List.mem_of_getElem? (i := 48) rfl)) (hw _ (List.mem_of_getElem? (i := 11) rfl)) (by decide) (by decide)) q13a q13c (g := (mkF m 214 #[.val (.int p1), .val (.int p2), .val (.int p3), .val (.int p4), .val (.int p5), .val (.int p6), .val (.int ((p1 &&& (2147483647 : Int32)) % (100000 : Int32))), .val (.int ((p2 &&& (2147483647 : Int32)) % (100000 : Int32))), .val (.int L2), .val (.int B2), .val (.ref w1), .val (.ref w2), .val (.ref b9), .val (.int (((p6.toUInt32 >>> ((2 : Int32) &&& 31).toUInt32).toInt32) &&& (3 : Int32))), .val (.ref b11), .val (.int (1 : Int32))] [(.ref b11), (.ref b9)])) rfl (by rw [hml]; rfl) (Steps.refl _) (argsL := [(.ref b11)]) (rest := []) (lenOf pd_0_5 rfl) rfl (by show 2 * 0 + _ ≤ _; exact Nat.le_of_eq rfl) (hb hby at_214) (fun _ _ => ⟨rfl, rfl, (by decide : 14 + 0 ≤ _), (by decide : 278 + 0 ≤ _)⟩)
  dsimp only [Pt.U, Pt.locs, Pt.cells, Pt.slots] at X13 l13 y13 z13 st13 hQ13
  subst l13 y13 z13
  obtain ⟨rfl, N13q, eq13⟩ := hQ13
  have N13 := Fr.app N12 N13q
  obtain ⟨cq14, kq14, q14a, q14b, q14c⟩ := isOf hZ eq13 (E_b11.keep Kq12)
  obtain ⟨_, _, ⟨T14, L14, k14, n14⟩, -, X14, ⟨Lc14, hQ14, l14, y14, z14⟩, st14⟩ := X13.virtualBack hx (y := (⟨"com/example/fieldwright/fieldwright/mater/RecordLabel", "equals", "(Ljava/lang/Object;)Z"⟩ : MethodName)) (z := (⟨"com/example/fieldwright/fieldwright/mater/RecordLabel", "equals", "(Ljava/lang/Object;)Z"⟩ : MethodName)) hown (mvT hZ (hw _ (List.mem_of_getElem? (i := 44) rfl))) (mvT hZ (hw _ (List.mem_of_getElem? (i := 45) rfl))) (notFace_of_selects (args := #[]) (mvT hZ (hw _ (List.mem_of_getElem? (i := 47) rfl)))) (mvT hZ (hw _ (List.mem_of_getElem? (i := 47) rfl))) (mvT hZ (hw _ (List.mem_of_getElem? (i := 46) rfl))) (by decide) (backOf (W := 0) (rm6_yes l Z a0 hw [] b11 b9 L2 ((p1 &&& (2147483647 : Int32)) % (100000 : Int32)) w2 w1 B2 ((p2 &&& (2147483647 : Int32)) % (100000 : Int32)) T12.heap n0 (Nat.le_trans Z0 K12.1) (Eq10.keep KA) F1_b11 F2_b11 F3_b11 (F1_b9.keep KA List.not_mem_nil) (F2_b9.keep KA List.not_mem_nil) (F3_b9.keep KA List.not_mem_nil) h1.symm h2.symm h3.symm) hZ (hw _ (List.mem_of_getElem? (i := 48) rfl)) (hw _ (List.mem_of_getElem? (i := 11) rfl)) (by decide) (by decide)) q14a q14c (g := (mkF m 226 #[.val (.int p1), .val (.int p2), .val (.int p3), .val (.int p4), .val (.int p5), .val (.int p6), .val (.int ((p1 &&& (2147483647 : Int32)) % (100000 : Int32))), .val (.int ((p2 &&& (2147483647 : Int32)) % (100000 : Int32))), .val (.int L2), .val (.int B2), .val (.ref w1), .val (.ref w2), .val (.ref b9), .val (.int (((p6.toUInt32 >>> ((2 : Int32) &&& 31).toUInt32).toInt32) &&& (3 : Int32))), .val (.ref b11), .val (.int (1 : Int32))] [(.ref b9), (.ref b11)])) rfl (by rw [hml]; rfl) (Steps.refl _) (argsL := [(.ref b9)]) (rest := []) (lenOf pd_0_5 rfl) rfl (by show 2 * 0 + _ ≤ _; exact Nat.le_of_eq rfl) (hb hby at_226) (fun _ _ => ⟨rfl, eq13, (by decide : 14 + 0 ≤ _), (by decide : 278 + 0 ≤ _)⟩)
  dsimp only [Pt.U, Pt.locs, Pt.cells, Pt.slots] at X14 l14 y14 z14 st14 hQ14
  subst l14 y14 z14
  obtain ⟨rfl, N14q, eq14⟩ := hQ14
  have N14 := Fr.app N13 N14q
  obtain ⟨fs, hr, hrun, hended, hW1, hW2, hW3, hsame⟩ := X14.leaveW hS (show _ ≤ T14.heap.size by rw [eq14]; exact hk) (v := some (.int (1 : Int32))) (fun h => by rw [Bd.returns] at h; cases h)
  refine ⟨_, _, pre0 _ ?_, hrun, hended, _, _, rfl, ?_, hW1, hW2, hW3, hsame.mono (by decide) (by decide)⟩
  · show Steps p.tables e below (s₁.setTop (mkF m 0 #[.val (.int p1), .val (.int p2), .val (.int p3), .val (.int p4), .val (.int p5), .val (.int p6), .unset, .unset, .unset, .unset, .unset, .unset, .unset, .unset, .unset, .unset] [])) _
    refine XS.iloadN X0.here hx rfl (hb hby at_0) rfl ?_
    show Steps p.tables e below (s₁.setTop (mkF m 1 #[.val (.int p1), .val (.int p2), .val (.int p3), .val (.int p4), .val (.int p5), .val (.int p6), .unset, .unset, .unset, .unset, .unset, .unset, .unset, .unset, .unset, .unset] [(.int p1)])) _
    refine X0.ldcInt hx hown00 (mvT hZ00 (hw _ (List.mem_of_getElem? (i := 0) rfl))) (g := (mkF m 1 #[.val (.int p1), .val (.int p2), .val (.int p3), .val (.int p4), .val (.int p5), .val (.int p6), .unset, .unset, .unset, .unset, .unset, .unset, .unset, .unset, .unset, .unset] [(.int p1)])) rfl (hb hby at_1) _ ?_
    show Steps p.tables e below (s₁.setTop (mkF m 3 #[.val (.int p1), .val (.int p2), .val (.int p3), .val (.int p4), .val (.int p5), .val (.int p6), .unset, .unset, .unset, .unset, .unset, .unset, .unset, .unset, .unset, .unset] [(.int (2147483647 : Int32)), (.int p1)])) _
    refine XS.iand X0.here hx rfl (hb hby at_3) rfl ?_
    show Steps p.tables e below (s₁.setTop (mkF m 4 #[.val (.int p1), .val (.int p2), .val (.int p3), .val (.int p4), .val (.int p5), .val (.int p6), .unset, .unset, .unset, .unset, .unset, .unset, .unset, .unset, .unset, .unset] [(.int (p1 &&& (2147483647 : Int32)))])) _
    refine X0.ldcInt hx hown00 (mvT hZ00 (hw _ (List.mem_of_getElem? (i := 1) rfl))) (g := (mkF m 4 #[.val (.int p1), .val (.int p2), .val (.int p3), .val (.int p4), .val (.int p5), .val (.int p6), .unset, .unset, .unset, .unset, .unset, .unset, .unset, .unset, .unset, .unset] [(.int (p1 &&& (2147483647 : Int32)))])) rfl (hb hby at_4) _ ?_
    show Steps p.tables e below (s₁.setTop (mkF m 6 #[.val (.int p1), .val (.int p2), .val (.int p3), .val (.int p4), .val (.int p5), .val (.int p6), .unset, .unset, .unset, .unset, .unset, .unset, .unset, .unset, .unset, .unset] [(.int (100000 : Int32)), (.int (p1 &&& (2147483647 : Int32)))])) _
    refine iremM X0 hx rfl (hb hby at_6) rfl (by decide) ?_
    show Steps p.tables e below (s₁.setTop (mkF m 7 #[.val (.int p1), .val (.int p2), .val (.int p3), .val (.int p4), .val (.int p5), .val (.int p6), .unset, .unset, .unset, .unset, .unset, .unset, .unset, .unset, .unset, .unset] [(.int ((p1 &&& (2147483647 : Int32)) % (100000 : Int32)))])) _
    refine XS.istore X0.here hx rfl (hb hby at_7) rfl (l' := #[.val (.int p1), .val (.int p2), .val (.int p3), .val (.int p4), .val (.int p5), .val (.int p6), .val (.int ((p1 &&& (2147483647 : Int32)) % (100000 : Int32))), .unset, .unset, .unset, .unset, .unset, .unset, .unset, .unset, .unset]) rfl ?_
    show Steps p.tables e below (s₁.setTop (mkF m 9 #[.val (.int p1), .val (.int p2), .val (.int p3), .val (.int p4), .val (.int p5), .val (.int p6), .val (.int ((p1 &&& (2147483647 : Int32)) % (100000 : Int32))), .unset, .unset, .unset, .unset, .unset, .unset, .unset, .unset, .unset] [])) _
    refine XS.iloadN X0.here hx rfl (hb hby at_9) rfl ?_
    show Steps p.tables e below (s₁.setTop (mkF m 10 #[.val (.int p1), .val (.int p2), .val (.int p3), .val (.int p4), .val (.int p5), .val (.int p6), .val (.int ((p1 &&& (2147483647 : Int32)) % (100000 : Int32))), .unset, .unset, .unset, .unset, .unset, .unset, .unset, .unset, .unset] [(.int p2)])) _
    refine X0.ldcInt hx hown00 (mvT hZ00 (hw _ (List.mem_of_getElem? (i := 0) rfl))) (g := (mkF m 10 #[.val (.int p1), .val (.int p2), .val (.int p3), .val (.int p4), .val (.int p5), .val (.int p6), .val (.int ((p1 &&& (2147483647 : Int32)) % (100000 : Int32))), .unset, .unset, .unset, .unset, .unset, .unset, .unset, .unset, .unset] [(.int p2)])) rfl (hb hby at_10) _ ?_
    show Steps p.tables e below (s₁.setTop (mkF m 12 #[.val (.int p1), .val (.int p2), .val (.int p3), .val (.int p4), .val (.int p5), .val (.int p6), .val (.int ((p1 &&& (2147483647 : Int32)) % (100000 : Int32))), .unset, .unset, .unset, .unset, .unset, .unset, .unset, .unset, .unset] [(.int (2147483647 : Int32)), (.int p2)])) _
    refine XS.iand X0.here hx rfl (hb hby at_12) rfl ?_
    show Steps p.tables e below (s₁.setTop (mkF m 13 #[.val (.int p1), .val (.int p2), .val (.int p3), .val (.int p4), .val (.int p5), .val (.int p6), .val (.int ((p1 &&& (2147483647 : Int32)) % (100000 : Int32))), .unset, .unset, .unset, .unset, .unset, .unset, .unset, .unset, .unset] [(.int (p2 &&& (2147483647 : Int32)))])) _
    refine X0.ldcInt hx hown00 (mvT hZ00 (hw _ (List.mem_of_getElem? (i := 1) rfl))) (g := (mkF m 13 #[.val (.int p1), .val (.int p2), .val (.int p3), .val (.int p4), .val (.int p5), .val (.int p6), .val (.int ((p1 &&& (2147483647 : Int32)) % (100000 : Int32))), .unset, .unset, .unset, .unset, .unset, .unset, .unset, .unset, .unset] [(.int (p2 &&& (2147483647 : Int32)))])) rfl (hb hby at_13) _ ?_
    show Steps p.tables e below (s₁.setTop (mkF m 15 #[.val (.int p1), .val (.int p2), .val (.int p3), .val (.int p4), .val (.int p5), .val (.int p6), .val (.int ((p1 &&& (2147483647 : Int32)) % (100000 : Int32))), .unset, .unset, .unset, .unset, .unset, .unset, .unset, .unset, .unset] [(.int (100000 : Int32)), (.int (p2 &&& (2147483647 : Int32)))])) _
    refine iremM X0 hx rfl (hb hby at_15) rfl (by decide) ?_
    show Steps p.tables e below (s₁.setTop (mkF m 16 #[.val (.int p1), .val (.int p2), .val (.int p3), .val (.int p4), .val (.int p5), .val (.int p6), .val (.int ((p1 &&& (2147483647 : Int32)) % (100000 : Int32))), .unset, .unset, .unset, .unset, .unset, .unset, .unset, .unset, .unset] [(.int ((p2 &&& (2147483647 : Int32)) % (100000 : Int32)))])) _
    refine XS.istore X0.here hx rfl (hb hby at_16) rfl (l' := #[.val (.int p1), .val (.int p2), .val (.int p3), .val (.int p4), .val (.int p5), .val (.int p6), .val (.int ((p1 &&& (2147483647 : Int32)) % (100000 : Int32))), .val (.int ((p2 &&& (2147483647 : Int32)) % (100000 : Int32))), .unset, .unset, .unset, .unset, .unset, .unset, .unset, .unset]) rfl ?_
    show Steps p.tables e below (s₁.setTop (mkF m 18 #[.val (.int p1), .val (.int p2), .val (.int p3), .val (.int p4), .val (.int p5), .val (.int p6), .val (.int ((p1 &&& (2147483647 : Int32)) % (100000 : Int32))), .val (.int ((p2 &&& (2147483647 : Int32)) % (100000 : Int32))), .unset, .unset, .unset, .unset, .unset, .unset, .unset, .unset] [])) _
    refine seg18 X0 hx hZ00 hw hby hml hown00 p1 p2 p3 p4 p5 p6 ((p1 &&& (2147483647 : Int32)) % (100000 : Int32)) ((p2 &&& (2147483647 : Int32)) % (100000 : Int32)) L2 HL ?_
    show Steps p.tables e below (s₁.setTop (mkF m 39 #[.val (.int p1), .val (.int p2), .val (.int p3), .val (.int p4), .val (.int p5), .val (.int p6), .val (.int ((p1 &&& (2147483647 : Int32)) % (100000 : Int32))), .val (.int ((p2 &&& (2147483647 : Int32)) % (100000 : Int32))), .val (.int L2), .unset, .unset, .unset, .unset, .unset, .unset, .unset] [])) _
    refine seg39 X0 hx hZ00 hw hby hml hown00 p1 p2 p3 p4 p5 p6 ((p1 &&& (2147483647 : Int32)) % (100000 : Int32)) ((p2 &&& (2147483647 : Int32)) % (100000 : Int32)) L2 B2 HB ?_
    show Steps p.tables e below (s₁.setTop (mkF m 60 #[.val (.int p1), .val (.int p2), .val (.int p3), .val (.int p4), .val (.int p5), .val (.int p6), .val (.int ((p1 &&& (2147483647 : Int32)) % (100000 : Int32))), .val (.int ((p2 &&& (2147483647 : Int32)) % (100000 : Int32))), .val (.int L2), .val (.int B2), .unset, .unset, .unset, .unset, .unset, .unset] [])) _
    refine XS.iload X0.here hx rfl (hb hby at_60) rfl ?_
    show Steps p.tables e below (s₁.setTop (mkF m 62 #[.val (.int p1), .val (.int p2), .val (.int p3), .val (.int p4), .val (.int p5), .val (.int p6), .val (.int ((p1 &&& (2147483647 : Int32)) % (100000 : Int32))), .val (.int ((p2 &&& (2147483647 : Int32)) % (100000 : Int32))), .val (.int L2), .val (.int B2), .unset, .unset, .unset, .unset, .unset, .unset] [(.int p5)])) _
    refine XS.iconst X0.here hx rfl (hb hby at_62) ?_
    show Steps p.tables e below (s₁.setTop (mkF m 63 #[.val (.int p1), .val (.int p2), .val (.int p3), .val (.int p4), .val (.int p5), .val (.int p6), .val (.int ((p1 &&& (2147483647 : Int32)) % (100000 : Int32))), .val (.int ((p2 &&& (2147483647 : Int32)) % (100000 : Int32))), .val (.int L2), .val (.int B2), .unset, .unset, .unset, .unset, .unset, .unset] [(.int (3 : Int32)), (.int p5)])) _
    refine XS.iand X0.here hx rfl (hb hby at_63) rfl ?_
    show Steps p.tables e below (s₁.setTop (mkF m 64 #[.val (.int p1), .val (.int p2), .val (.int p3), .val (.int p4), .val (.int p5), .val (.int p6), .val (.int ((p1 &&& (2147483647 : Int32)) % (100000 : Int32))), .val (.int ((p2 &&& (2147483647 : Int32)) % (100000 : Int32))), .val (.int L2), .val (.int B2), .unset, .unset, .unset, .unset, .unset, .unset] [(.int (p5 &&& (3 : Int32)))])) _
    refine st7 _ ?_
    show Steps p.tables e below (T7.setTop (mkF m 67 #[.val (.int p1), .val (.int p2), .val (.int p3), .val (.int p4), .val (.int p5), .val (.int p6), .val (.int ((p1 &&& (2147483647 : Int32)) % (100000 : Int32))), .val (.int ((p2 &&& (2147483647 : Int32)) % (100000 : Int32))), .val (.int L2), .val (.int B2), .unset, .unset, .unset, .unset, .unset, .unset] [(.ref w1)])) _
    refine XS.astore X7.here hx rfl (hb hby at_67) rfl rfl (l' := #[.val (.int p1), .val (.int p2), .val (.int p3), .val (.int p4), .val (.int p5), .val (.int p6), .val (.int ((p1 &&& (2147483647 : Int32)) % (100000 : Int32))), .val (.int ((p2 &&& (2147483647 : Int32)) % (100000 : Int32))), .val (.int L2), .val (.int B2), .val (.ref w1), .unset, .unset, .unset, .unset, .unset]) rfl ?_
    show Steps p.tables e below (T7.setTop (mkF m 69 #[.val (.int p1), .val (.int p2), .val (.int p3), .val (.int p4), .val (.int p5), .val (.int p6), .val (.int ((p1 &&& (2147483647 : Int32)) % (100000 : Int32))), .val (.int ((p2 &&& (2147483647 : Int32)) % (100000 : Int32))), .val (.int L2), .val (.int B2), .val (.ref w1), .unset, .unset, .unset, .unset, .unset] [])) _
    refine XS.iload X7.here hx rfl (hb hby at_69) rfl ?_
    show Steps p.tables e below (T7.setTop (mkF m 71 #[.val (.int p1), .val (.int p2), .val (.int p3), .val (.int p4), .val (.int p5), .val (.int p6), .val (.int ((p1 &&& (2147483647 : Int32)) % (100000 : Int32))), .val (.int ((p2 &&& (2147483647 : Int32)) % (100000 : Int32))), .val (.int L2), .val (.int B2), .val (.ref w1), .unset, .unset, .unset, .unset, .unset] [(.int p5)])) _
    refine XS.iconst X7.here hx rfl (hb hby at_71) ?_
    show Steps p.tables e below (T7.setTop (mkF m 72 #[.val (.int p1), .val (.int p2), .val (.int p3), .val (.int p4), .val (.int p5), .val (.int p6), .val (.int ((p1 &&& (2147483647 : Int32)) % (100000 : Int32))), .val (.int ((p2 &&& (2147483647 : Int32)) % (100000 : Int32))), .val (.int L2), .val (.int B2), .val (.ref w1), .unset, .unset, .unset, .unset, .unset] [(.int (2 : Int32)), (.int p5)])) _
    refine XS.iushr X7.here hx rfl (hb hby at_72) rfl ?_
    show Steps p.tables e below (T7.setTop (mkF m 73 #[.val (.int p1), .val (.int p2), .val (.int p3), .val (.int p4), .val (.int p5), .val (.int p6), .val (.int ((p1 &&& (2147483647 : Int32)) % (100000 : Int32))), .val (.int ((p2 &&& (2147483647 : Int32)) % (100000 : Int32))), .val (.int L2), .val (.int B2), .val (.ref w1), .unset, .unset, .unset, .unset, .unset] [(.int ((p5.toUInt32 >>> ((2 : Int32) &&& 31).toUInt32).toInt32))])) _
    refine XS.iconst X7.here hx rfl (hb hby at_73) ?_
    show Steps p.tables e below (T7.setTop (mkF m 74 #[.val (.int p1), .val (.int p2), .val (.int p3), .val (.int p4), .val (.int p5), .val (.int p6), .val (.int ((p1 &&& (2147483647 : Int32)) % (100000 : Int32))), .val (.int ((p2 &&& (2147483647 : Int32)) % (100000 : Int32))), .val (.int L2), .val (.int B2), .val (.ref w1), .unset, .unset, .unset, .unset, .unset] [(.int (3 : Int32)), (.int ((p5.toUInt32 >>> ((2 : Int32) &&& 31).toUInt32).toInt32))])) _
    refine XS.iand X7.here hx rfl (hb hby at_74) rfl ?_
    show Steps p.tables e below (T7.setTop (mkF m 75 #[.val (.int p1), .val (.int p2), .val (.int p3), .val (.int p4), .val (.int p5), .val (.int p6), .val (.int ((p1 &&& (2147483647 : Int32)) % (100000 : Int32))), .val (.int ((p2 &&& (2147483647 : Int32)) % (100000 : Int32))), .val (.int L2), .val (.int B2), .val (.ref w1), .unset, .unset, .unset, .unset, .unset] [(.int (((p5.toUInt32 >>> ((2 : Int32) &&& 31).toUInt32).toInt32) &&& (3 : Int32)))])) _
    refine st8 _ ?_
    show Steps p.tables e below (T8.setTop (mkF m 78 #[.val (.int p1), .val (.int p2), .val (.int p3), .val (.int p4), .val (.int p5), .val (.int p6), .val (.int ((p1 &&& (2147483647 : Int32)) % (100000 : Int32))), .val (.int ((p2 &&& (2147483647 : Int32)) % (100000 : Int32))), .val (.int L2), .val (.int B2), .val (.ref w1), .unset, .unset, .unset, .unset, .unset] [(.ref w2)])) _
    refine XS.astore X8.here hx rfl (hb hby at_78) rfl rfl (l' := #[.val (.int p1), .val (.int p2), .val (.int p3), .val (.int p4), .val (.int p5), .val (.int p6), .val (.int ((p1 &&& (2147483647 : Int32)) % (100000 : Int32))), .val (.int ((p2 &&& (2147483647 : Int32)) % (100000 : Int32))), .val (.int L2), .val (.int B2), .val (.ref w1), .val (.ref w2), .unset, .unset, .unset, .unset]) rfl ?_
    show Steps p.tables e below (T8.setTop (mkF m 80 #[.val (.int p1), .val (.int p2), .val (.int p3), .val (.int p4), .val (.int p5), .val (.int p6), .val (.int ((p1 &&& (2147483647 : Int32)) % (100000 : Int32))), .val (.int ((p2 &&& (2147483647 : Int32)) % (100000 : Int32))), .val (.int L2), .val (.int B2), .val (.ref w1), .val (.ref w2), .unset, .unset, .unset, .unset] [])) _
    refine st9 _ ?_
    show Steps p.tables e below (T9.setTop (mkF m 83 #[.val (.int p1), .val (.int p2), .val (.int p3), .val (.int p4), .val (.int p5), .val (.int p6), .val (.int ((p1 &&& (2147483647 : Int32)) % (100000 : Int32))), .val (.int ((p2 &&& (2147483647 : Int32)) % (100000 : Int32))), .val (.int L2), .val (.int B2), .val (.ref w1), .val (.ref w2), .unset, .unset, .unset, .unset] [(.ref b9)])) _
    refine XS.dup X9.here hx rfl (hb hby at_83) rfl rfl ?_
    show Steps p.tables e below (T9.setTop (mkF m 84 #[.val (.int p1), .val (.int p2), .val (.int p3), .val (.int p4), .val (.int p5), .val (.int p6), .val (.int ((p1 &&& (2147483647 : Int32)) % (100000 : Int32))), .val (.int ((p2 &&& (2147483647 : Int32)) % (100000 : Int32))), .val (.int L2), .val (.int B2), .val (.ref w1), .val (.ref w2), .unset, .unset, .unset, .unset] [(.ref b9), (.ref b9)])) _
    refine XS.iload X9.here hx rfl (hb hby at_84) rfl ?_
    show Steps p.tables e below (T9.setTop (mkF m 86 #[.val (.int p1), .val (.int p2), .val (.int p3), .val (.int p4), .val (.int p5), .val (.int p6), .val (.int ((p1 &&& (2147483647 : Int32)) % (100000 : Int32))), .val (.int ((p2 &&& (2147483647 : Int32)) % (100000 : Int32))), .val (.int L2), .val (.int B2), .val (.ref w1), .val (.ref w2), .unset, .unset, .unset, .unset] [(.int ((p1 &&& (2147483647 : Int32)) % (100000 : Int32))), (.ref b9), (.ref b9)])) _
    refine XS.aload X9.here hx rfl (hb hby at_86) rfl rfl ?_
    show Steps p.tables e below (T9.setTop (mkF m 88 #[.val (.int p1), .val (.int p2), .val (.int p3), .val (.int p4), .val (.int p5), .val (.int p6), .val (.int ((p1 &&& (2147483647 : Int32)) % (100000 : Int32))), .val (.int ((p2 &&& (2147483647 : Int32)) % (100000 : Int32))), .val (.int L2), .val (.int B2), .val (.ref w1), .val (.ref w2), .unset, .unset, .unset, .unset] [(.ref w1), (.int ((p1 &&& (2147483647 : Int32)) % (100000 : Int32))), (.ref b9), (.ref b9)])) _
    refine XS.iload X9.here hx rfl (hb hby at_88) rfl ?_
    show Steps p.tables e below (T9.setTop (mkF m 90 #[.val (.int p1), .val (.int p2), .val (.int p3), .val (.int p4), .val (.int p5), .val (.int p6), .val (.int ((p1 &&& (2147483647 : Int32)) % (100000 : Int32))), .val (.int ((p2 &&& (2147483647 : Int32)) % (100000 : Int32))), .val (.int L2), .val (.int B2), .val (.ref w1), .val (.ref w2), .unset, .unset, .unset, .unset] [(.int ((p2 &&& (2147483647 : Int32)) % (100000 : Int32))), (.ref w1), (.int ((p1 &&& (2147483647 : Int32)) % (100000 : Int32))), (.ref b9), (.ref b9)])) _
    refine st10.trans ?_
    show Steps p.tables e below (T10.setTop (mkF m 93 #[.val (.int p1), .val (.int p2), .val (.int p3), .val (.int p4), .val (.int p5), .val (.int p6), .val (.int ((p1 &&& (2147483647 : Int32)) % (100000 : Int32))), .val (.int ((p2 &&& (2147483647 : Int32)) % (100000 : Int32))), .val (.int L2), .val (.int B2), .val (.ref w1), .val (.ref w2), .unset, .unset, .unset, .unset] [(.ref b9)])) _
    refine XS.astore X10.here hx rfl (hb hby at_93) rfl rfl (l' := #[.val (.int p1), .val (.int p2), .val (.int p3), .val (.int p4), .val (.int p5), .val (.int p6), .val (.int ((p1 &&& (2147483647 : Int32)) % (100000 : Int32))), .val (.int ((p2 &&& (2147483647 : Int32)) % (100000 : Int32))), .val (.int L2), .val (.int B2), .val (.ref w1), .val (.ref w2), .val (.ref b9), .unset, .unset, .unset]) rfl ?_
    show Steps p.tables e below (T10.setTop (mkF m 95 #[.val (.int p1), .val (.int p2), .val (.int p3), .val (.int p4), .val (.int p5), .val (.int p6), .val (.int ((p1 &&& (2147483647 : Int32)) % (100000 : Int32))), .val (.int ((p2 &&& (2147483647 : Int32)) % (100000 : Int32))), .val (.int L2), .val (.int B2), .val (.ref w1), .val (.ref w2), .val (.ref b9), .unset, .unset, .unset] [])) _
    refine XS.iload X10.here hx rfl (hb hby at_95) rfl ?_
    show Steps p.tables e below (T10.setTop (mkF m 97 #[.val (.int p1), .val (.int p2), .val (.int p3), .val (.int p4), .val (.int p5), .val (.int p6), .val (.int ((p1 &&& (2147483647 : Int32)) % (100000 : Int32))), .val (.int ((p2 &&& (2147483647 : Int32)) % (100000 : Int32))), .val (.int L2), .val (.int B2), .val (.ref w1), .val (.ref w2), .val (.ref b9), .unset, .unset, .unset] [(.int p6)])) _
    refine XS.iconst X10.here hx rfl (hb hby at_97) ?_
    show Steps p.tables e below (T10.setTop (mkF m 98 #[.val (.int p1), .val (.int p2), .val (.int p3), .val (.int p4), .val (.int p5), .val (.int p6), .val (.int ((p1 &&& (2147483647 : Int32)) % (100000 : Int32))), .val (.int ((p2 &&& (2147483647 : Int32)) % (100000 : Int32))), .val (.int L2), .val (.int B2), .val (.ref w1), .val (.ref w2), .val (.ref b9), .unset, .unset, .unset] [(.int (2 : Int32)), (.int p6)])) _
    refine XS.iushr X10.here hx rfl (hb hby at_98) rfl ?_
    show Steps p.tables e below (T10.setTop (mkF m 99 #[.val (.int p1), .val (.int p2), .val (.int p3), .val (.int p4), .val (.int p5), .val (.int p6), .val (.int ((p1 &&& (2147483647 : Int32)) % (100000 : Int32))), .val (.int ((p2 &&& (2147483647 : Int32)) % (100000 : Int32))), .val (.int L2), .val (.int B2), .val (.ref w1), .val (.ref w2), .val (.ref b9), .unset, .unset, .unset] [(.int ((p6.toUInt32 >>> ((2 : Int32) &&& 31).toUInt32).toInt32))])) _
    refine XS.iconst X10.here hx rfl (hb hby at_99) ?_
    show Steps p.tables e below (T10.setTop (mkF m 100 #[.val (.int p1), .val (.int p2), .val (.int p3), .val (.int p4), .val (.int p5), .val (.int p6), .val (.int ((p1 &&& (2147483647 : Int32)) % (100000 : Int32))), .val (.int ((p2 &&& (2147483647 : Int32)) % (100000 : Int32))), .val (.int L2), .val (.int B2), .val (.ref w1), .val (.ref w2), .val (.ref b9), .unset, .unset, .unset] [(.int (3 : Int32)), (.int ((p6.toUInt32 >>> ((2 : Int32) &&& 31).toUInt32).toInt32))])) _
    refine XS.iand X10.here hx rfl (hb hby at_100) rfl ?_
    show Steps p.tables e below (T10.setTop (mkF m 101 #[.val (.int p1), .val (.int p2), .val (.int p3), .val (.int p4), .val (.int p5), .val (.int p6), .val (.int ((p1 &&& (2147483647 : Int32)) % (100000 : Int32))), .val (.int ((p2 &&& (2147483647 : Int32)) % (100000 : Int32))), .val (.int L2), .val (.int B2), .val (.ref w1), .val (.ref w2), .val (.ref b9), .unset, .unset, .unset] [(.int (((p6.toUInt32 >>> ((2 : Int32) &&& 31).toUInt32).toInt32) &&& (3 : Int32)))])) _
    refine XS.istore X10.here hx rfl (hb hby at_101) rfl (l' := #[.val (.int p1), .val (.int p2), .val (.int p3), .val (.int p4), .val (.int p5), .val (.int p6), .val (.int ((p1 &&& (2147483647 : Int32)) % (100000 : Int32))), .val (.int ((p2 &&& (2147483647 : Int32)) % (100000 : Int32))), .val (.int L2), .val (.int B2), .val (.ref w1), .val (.ref w2), .val (.ref b9), .val (.int (((p6.toUInt32 >>> ((2 : Int32) &&& 31).toUInt32).toInt32) &&& (3 : Int32))), .unset, .unset]) rfl ?_
    show Steps p.tables e below (T10.setTop (mkF m 103 #[.val (.int p1), .val (.int p2), .val (.int p3), .val (.int p4), .val (.int p5), .val (.int p6), .val (.int ((p1 &&& (2147483647 : Int32)) % (100000 : Int32))), .val (.int ((p2 &&& (2147483647 : Int32)) % (100000 : Int32))), .val (.int L2), .val (.int B2), .val (.ref w1), .val (.ref w2), .val (.ref b9), .val (.int (((p6.toUInt32 >>> ((2 : Int32) &&& 31).toUInt32).toInt32) &&& (3 : Int32))), .unset, .unset] [])) _
    refine XS.iload X10.here hx rfl (hb hby at_103) rfl ?_
    show Steps p.tables e below (T10.setTop (mkF m 105 #[.val (.int p1), .val (.int p2), .val (.int p3), .val (.int p4), .val (.int p5), .val (.int p6), .val (.int ((p1 &&& (2147483647 : Int32)) % (100000 : Int32))), .val (.int ((p2 &&& (2147483647 : Int32)) % (100000 : Int32))), .val (.int L2), .val (.int B2), .val (.ref w1), .val (.ref w2), .val (.ref b9), .val (.int (((p6.toUInt32 >>> ((2 : Int32) &&& 31).toUInt32).toInt32) &&& (3 : Int32))), .unset, .unset] [(.int (((p6.toUInt32 >>> ((2 : Int32) &&& 31).toUInt32).toInt32) &&& (3 : Int32)))])) _
    refine XS.iconst X10.here hx rfl (hb hby at_105) ?_
    show Steps p.tables e below (T10.setTop (mkF m 106 #[.val (.int p1), .val (.int p2), .val (.int p3), .val (.int p4), .val (.int p5), .val (.int p6), .val (.int ((p1 &&& (2147483647 : Int32)) % (100000 : Int32))), .val (.int ((p2 &&& (2147483647 : Int32)) % (100000 : Int32))), .val (.int L2), .val (.int B2), .val (.ref w1), .val (.ref w2), .val (.ref b9), .val (.int (((p6.toUInt32 >>> ((2 : Int32) &&& 31).toUInt32).toInt32) &&& (3 : Int32))), .unset, .unset] [(.int (1 : Int32)), (.int (((p6.toUInt32 >>> ((2 : Int32) &&& 31).toUInt32).toInt32) &&& (3 : Int32)))])) _
    refine XS.icmpYes X10.here hx rfl (pc0 := 106) (pc' := 124) rfl (hb hby at_106) rfl (feq hc106).2 (by decide) (by decide) ?_
    show Steps p.tables e below (T10.setTop (mkF m 124 #[.val (.int p1), .val (.int p2), .val (.int p3), .val (.int p4), .val (.int p5), .val (.int p6), .val (.int ((p1 &&& (2147483647 : Int32)) % (100000 : Int32))), .val (.int ((p2 &&& (2147483647 : Int32)) % (100000 : Int32))), .val (.int L2), .val (.int B2), .val (.ref w1), .val (.ref w2), .val (.ref b9), .val (.int (((p6.toUInt32 >>> ((2 : Int32) &&& 31).toUInt32).toInt32) &&& (3 : Int32))), .unset, .unset] [])) _
    refine XS.iload X10.here hx rfl (hb hby at_124) rfl ?_
    show Steps p.tables e below (T10.setTop (mkF m 126 #[.val (.int p1), .val (.int p2), .val (.int p3), .val (.int p4), .val (.int p5), .val (.int p6), .val (.int ((p1 &&& (2147483647 : Int32)) % (100000 : Int32))), .val (.int ((p2 &&& (2147483647 : Int32)) % (100000 : Int32))), .val (.int L2), .val (.int B2), .val (.ref w1), .val (.ref w2), .val (.ref b9), .val (.int (((p6.toUInt32 >>> ((2 : Int32) &&& 31).toUInt32).toInt32) &&& (3 : Int32))), .unset, .unset] [(.int (((p6.toUInt32 >>> ((2 : Int32) &&& 31).toUInt32).toInt32) &&& (3 : Int32)))])) _
    refine XS.iconst X10.here hx rfl (hb hby at_126) ?_
    show Steps p.tables e below (T10.setTop (mkF m 127 #[.val (.int p1), .val (.int p2), .val (.int p3), .val (.int p4), .val (.int p5), .val (.int p6), .val (.int ((p1 &&& (2147483647 : Int32)) % (100000 : Int32))), .val (.int ((p2 &&& (2147483647 : Int32)) % (100000 : Int32))), .val (.int L2), .val (.int B2), .val (.ref w1), .val (.ref w2), .val (.ref b9), .val (.int (((p6.toUInt32 >>> ((2 : Int32) &&& 31).toUInt32).toInt32) &&& (3 : Int32))), .unset, .unset] [(.int (2 : Int32)), (.int (((p6.toUInt32 >>> ((2 : Int32) &&& 31).toUInt32).toInt32) &&& (3 : Int32)))])) _
    refine XS.icmpYes X10.here hx rfl (pc0 := 127) (pc' := 153) rfl (hb hby at_127) rfl (feq hc127).2 (by decide) (by decide) ?_
    show Steps p.tables e below (T10.setTop (mkF m 153 #[.val (.int p1), .val (.int p2), .val (.int p3), .val (.int p4), .val (.int p5), .val (.int p6), .val (.int ((p1 &&& (2147483647 : Int32)) % (100000 : Int32))), .val (.int ((p2 &&& (2147483647 : Int32)) % (100000 : Int32))), .val (.int L2), .val (.int B2), .val (.ref w1), .val (.ref w2), .val (.ref b9), .val (.int (((p6.toUInt32 >>> ((2 : Int32) &&& 31).toUInt32).toInt32) &&& (3 : Int32))), .unset, .unset] [])) _
    refine XS.iload X10.here hx rfl (hb hby at_153) rfl ?_
    show Steps p.tables e below (T10.setTop (mkF m 155 #[.val (.int p1), .val (.int p2), .val (.int p3), .val (.int p4), .val (.int p5), .val (.int p6), .val (.int ((p1 &&& (2147483647 : Int32)) % (100000 : Int32))), .val (.int ((p2 &&& (2147483647 : Int32)) % (100000 : Int32))), .val (.int L2), .val (.int B2), .val (.ref w1), .val (.ref w2), .val (.ref b9), .val (.int (((p6.toUInt32 >>> ((2 : Int32) &&& 31).toUInt32).toInt32) &&& (3 : Int32))), .unset, .unset] [(.int (((p6.toUInt32 >>> ((2 : Int32) &&& 31).toUInt32).toInt32) &&& (3 : Int32)))])) _
    refine XS.iconst X10.here hx rfl (hb hby at_155) ?_
    show Steps p.tables e below (T10.setTop (mkF m 156 #[.val (.int p1), .val (.int p2), .val (.int p3), .val (.int p4), .val (.int p5), .val (.int p6), .val (.int ((p1 &&& (2147483647 : Int32)) % (100000 : Int32))), .val (.int ((p2 &&& (2147483647 : Int32)) % (100000 : Int32))), .val (.int L2), .val (.int B2), .val (.ref w1), .val (.ref w2), .val (.ref b9), .val (.int (((p6.toUInt32 >>> ((2 : Int32) &&& 31).toUInt32).toInt32) &&& (3 : Int32))), .unset, .unset] [(.int (3 : Int32)), (.int (((p6.toUInt32 >>> ((2 : Int32) &&& 31).toUInt32).toInt32) &&& (3 : Int32)))])) _
    refine XS.icmpYes X10.here hx rfl (pc0 := 156) (pc' := 167) rfl (hb hby at_156) rfl (feq hc156).2 (by decide) (by decide) ?_
    show Steps p.tables e below (T10.setTop (mkF m 167 #[.val (.int p1), .val (.int p2), .val (.int p3), .val (.int p4), .val (.int p5), .val (.int p6), .val (.int ((p1 &&& (2147483647 : Int32)) % (100000 : Int32))), .val (.int ((p2 &&& (2147483647 : Int32)) % (100000 : Int32))), .val (.int L2), .val (.int B2), .val (.ref w1), .val (.ref w2), .val (.ref b9), .val (.int (((p6.toUInt32 >>> ((2 : Int32) &&& 31).toUInt32).toInt32) &&& (3 : Int32))), .unset, .unset] [])) _
    refine st11 _ ?_
    show Steps p.tables e below (T11.setTop (mkF m 170 #[.val (.int p1), .val (.int p2), .val (.int p3), .val (.int p4), .val (.int p5), .val (.int p6), .val (.int ((p1 &&& (2147483647 : Int32)) % (100000 : Int32))), .val (.int ((p2 &&& (2147483647 : Int32)) % (100000 : Int32))), .val (.int L2), .val (.int B2), .val (.ref w1), .val (.ref w2), .val (.ref b9), .val (.int (((p6.toUInt32 >>> ((2 : Int32) &&& 31).toUInt32).toInt32) &&& (3 : Int32))), .unset, .unset] [(.ref b11)])) _
    refine XS.dup X11.here hx rfl (hb hby at_170) rfl rfl ?_
    show Steps p.tables e below (T11.setTop (mkF m 171 #[.val (.int p1), .val (.int p2), .val (.int p3), .val (.int p4), .val (.int p5), .val (.int p6), .val (.int ((p1 &&& (2147483647 : Int32)) % (100000 : Int32))), .val (.int ((p2 &&& (2147483647 : Int32)) % (100000 : Int32))), .val (.int L2), .val (.int B2), .val (.ref w1), .val (.ref w2), .val (.ref b9), .val (.int (((p6.toUInt32 >>> ((2 : Int32) &&& 31).toUInt32).toInt32) &&& (3 : Int32))), .unset, .unset] [(.ref b11), (.ref b11)])) _
    refine XS.iload X11.here hx rfl (hb hby at_171) rfl ?_
    show Steps p.tables e below (T11.setTop (mkF m 173 #[.val (.int p1), .val (.int p2), .val (.int p3), .val (.int p4), .val (.int p5), .val (.int p6), .val (.int ((p1 &&& (2147483647 : Int32)) % (100000 : Int32))), .val (.int ((p2 &&& (2147483647 : Int32)) % (100000 : Int32))), .val (.int L2), .val (.int B2), .val (.ref w1), .val (.ref w2), .val (.ref b9), .val (.int (((p6.toUInt32 >>> ((2 : Int32) &&& 31).toUInt32).toInt32) &&& (3 : Int32))), .unset, .unset] [(.int L2), (.ref b11), (.ref b11)])) _
    refine XS.aload X11.here hx rfl (hb hby at_173) rfl rfl ?_
    show Steps p.tables e below (T11.setTop (mkF m 175 #[.val (.int p1), .val (.int p2), .val (.int p3), .val (.int p4), .val (.int p5), .val (.int p6), .val (.int ((p1 &&& (2147483647 : Int32)) % (100000 : Int32))), .val (.int ((p2 &&& (2147483647 : Int32)) % (100000 : Int32))), .val (.int L2), .val (.int B2), .val (.ref w1), .val (.ref w2), .val (.ref b9), .val (.int (((p6.toUInt32 >>> ((2 : Int32) &&& 31).toUInt32).toInt32) &&& (3 : Int32))), .unset, .unset] [(.ref w2), (.int L2), (.ref b11), (.ref b11)])) _
    refine XS.iload X11.here hx rfl (hb hby at_175) rfl ?_
    show Steps p.tables e below (T11.setTop (mkF m 177 #[.val (.int p1), .val (.int p2), .val (.int p3), .val (.int p4), .val (.int p5), .val (.int p6), .val (.int ((p1 &&& (2147483647 : Int32)) % (100000 : Int32))), .val (.int ((p2 &&& (2147483647 : Int32)) % (100000 : Int32))), .val (.int L2), .val (.int B2), .val (.ref w1), .val (.ref w2), .val (.ref b9), .val (.int (((p6.toUInt32 >>> ((2 : Int32) &&& 31).toUInt32).toInt32) &&& (3 : Int32))), .unset, .unset] [(.int B2), (.ref w2), (.int L2), (.ref b11), (.ref b11)])) _
    refine st12.trans ?_
    show Steps p.tables e below (T12.setTop (mkF m 180 #[.val (.int p1), .val (.int p2), .val (.int p3), .val (.int p4), .val (.int p5), .val (.int p6), .val (.int ((p1 &&& (2147483647 : Int32)) % (100000 : Int32))), .val (.int ((p2 &&& (2147483647 : Int32)) % (100000 : Int32))), .val (.int L2), .val (.int B2), .val (.ref w1), .val (.ref w2), .val (.ref b9), .val (.int (((p6.toUInt32 >>> ((2 : Int32) &&& 31).toUInt32).toInt32) &&& (3 : Int32))), .unset, .unset] [(.ref b11)])) _
    refine XS.astore X12.here hx rfl (hb hby at_180) rfl rfl (l' := #[.val (.int p1), .val (.int p2), .val (.int p3), .val (.int p4), .val (.int p5), .val (.int p6), .val (.int ((p1 &&& (2147483647 : Int32)) % (100000 : Int32))), .val (.int ((p2 &&& (2147483647 : Int32)) % (100000 : Int32))), .val (.int L2), .val (.int B2), .val (.ref w1), .val (.ref w2), .val (.ref b9), .val (.int (((p6.toUInt32 >>> ((2 : Int32) &&& 31).toUInt32).toInt32) &&& (3 : Int32))), .val (.ref b11), .unset]) rfl ?_
    show Steps p.tables e below (T12.setTop (mkF m 182 #[.val (.int p1), .val (.int p2), .val (.int p3), .val (.int p4), .val (.int p5), .val (.int p6), .val (.int ((p1 &&& (2147483647 : Int32)) % (100000 : Int32))), .val (.int ((p2 &&& (2147483647 : Int32)) % (100000 : Int32))), .val (.int L2), .val (.int B2), .val (.ref w1), .val (.ref w2), .val (.ref b9), .val (.int (((p6.toUInt32 >>> ((2 : Int32) &&& 31).toUInt32).toInt32) &&& (3 : Int32))), .val (.ref b11), .unset] [])) _
    refine XS.iload X12.here hx rfl (hb hby at_182) rfl ?_
    show Steps p.tables e below (T12.setTop (mkF m 184 #[.val (.int p1), .val (.int p2), .val (.int p3), .val (.int p4), .val (.int p5), .val (.int p6), .val (.int ((p1 &&& (2147483647 : Int32)) % (100000 : Int32))), .val (.int ((p2 &&& (2147483647 : Int32)) % (100000 : Int32))), .val (.int L2), .val (.int B2), .val (.ref w1), .val (.ref w2), .val (.ref b9), .val (.int (((p6.toUInt32 >>> ((2 : Int32) &&& 31).toUInt32).toInt32) &&& (3 : Int32))), .val (.ref b11), .unset] [(.int ((p1 &&& (2147483647 : Int32)) % (100000 : Int32)))])) _
    refine XS.iload X12.here hx rfl (hb hby at_184) rfl ?_
    show Steps p.tables e below (T12.setTop (mkF m 186 #[.val (.int p1), .val (.int p2), .val (.int p3), .val (.int p4), .val (.int p5), .val (.int p6), .val (.int ((p1 &&& (2147483647 : Int32)) % (100000 : Int32))), .val (.int ((p2 &&& (2147483647 : Int32)) % (100000 : Int32))), .val (.int L2), .val (.int B2), .val (.ref w1), .val (.ref w2), .val (.ref b9), .val (.int (((p6.toUInt32 >>> ((2 : Int32) &&& 31).toUInt32).toInt32) &&& (3 : Int32))), .val (.ref b11), .unset] [(.int L2), (.int ((p1 &&& (2147483647 : Int32)) % (100000 : Int32)))])) _
    refine XS.icmpNo X12.here hx rfl (hb hby at_186) rfl (teq hc186).2 ?_
    show Steps p.tables e below (T12.setTop (mkF m 189 #[.val (.int p1), .val (.int p2), .val (.int p3), .val (.int p4), .val (.int p5), .val (.int p6), .val (.int ((p1 &&& (2147483647 : Int32)) % (100000 : Int32))), .val (.int ((p2 &&& (2147483647 : Int32)) % (100000 : Int32))), .val (.int L2), .val (.int B2), .val (.ref w1), .val (.ref w2), .val (.ref b9), .val (.int (((p6.toUInt32 >>> ((2 : Int32) &&& 31).toUInt32).toInt32) &&& (3 : Int32))), .val (.ref b11), .unset] [])) _
    refine XS.aload X12.here hx rfl (hb hby at_189) rfl rfl ?_
    show Steps p.tables e below (T12.setTop (mkF m 191 #[.val (.int p1), .val (.int p2), .val (.int p3), .val (.int p4), .val (.int p5), .val (.int p6), .val (.int ((p1 &&& (2147483647 : Int32)) % (100000 : Int32))), .val (.int ((p2 &&& (2147483647 : Int32)) % (100000 : Int32))), .val (.int L2), .val (.int B2), .val (.ref w1), .val (.ref w2), .val (.ref b9), .val (.int (((p6.toUInt32 >>> ((2 : Int32) &&& 31).toUInt32).toInt32) &&& (3 : Int32))), .val (.ref b11), .unset] [(.ref w1)])) _
    refine XS.aload X12.here hx rfl (hb hby at_191) rfl rfl ?_
    show Steps p.tables e below (T12.setTop (mkF m 193 #[.val (.int p1), .val (.int p2), .val (.int p3), .val (.int p4), .val (.int p5), .val (.int p6), .val (.int ((p1 &&& (2147483647 : Int32)) % (100000 : Int32))), .val (.int ((p2 &&& (2147483647 : Int32)) % (100000 : Int32))), .val (.int L2), .val (.int B2), .val (.ref w1), .val (.ref w2), .val (.ref b9), .val (.int (((p6.toUInt32 >>> ((2 : Int32) &&& 31).toUInt32).toInt32) &&& (3 : Int32))), .val (.ref b11), .unset] [(.ref w2), (.ref w1)])) _
    refine Jvm.RoadKit.acmp (g := (mkF m 193 #[.val (.int p1), .val (.int p2), .val (.int p3), .val (.int p4), .val (.int p5), .val (.int p6), .val (.int ((p1 &&& (2147483647 : Int32)) % (100000 : Int32))), .val (.int ((p2 &&& (2147483647 : Int32)) % (100000 : Int32))), .val (.int L2), .val (.int B2), .val (.ref w1), .val (.ref w2), .val (.ref b9), .val (.int (((p6.toUInt32 >>> ((2 : Int32) &&& 31).toUInt32).toInt32) &&& (3 : Int32))), .val (.ref b11), .unset] [(.ref w2), (.ref w1)])) X12 hx rfl rfl rfl (pc0 := 193) (pc' := 196) (same := true) rfl (hb hby at_193) rfl (decide_eq_true (congrArg Value.ref ha193)) (by decide) (by decide) ?_
    show Steps p.tables e below (T12.setTop (mkF m 196 #[.val (.int p1), .val (.int p2), .val (.int p3), .val (.int p4), .val (.int p5), .val (.int p6), .val (.int ((p1 &&& (2147483647 : Int32)) % (100000 : Int32))), .val (.int ((p2 &&& (2147483647 : Int32)) % (100000 : Int32))), .val (.int L2), .val (.int B2), .val (.ref w1), .val (.ref w2), .val (.ref b9), .val (.int (((p6.toUInt32 >>> ((2 : Int32) &&& 31).toUInt32).toInt32) &&& (3 : Int32))), .val (.ref b11), .unset] [])) _
    refine XS.iload X12.here hx rfl (hb hby at_196) rfl ?_
    show Steps p.tables e below (T12.setTop (mkF m 198 #[.val (.int p1), .val (.int p2), .val (.int p3), .val (.int p4), .val (.int p5), .val (.int p6), .val (.int ((p1 &&& (2147483647 : Int32)) % (100000 : Int32))), .val (.int ((p2 &&& (2147483647 : Int32)) % (100000 : Int32))), .val (.int L2), .val (.int B2), .val (.ref w1), .val (.ref w2), .val (.ref b9), .val (.int (((p6.toUInt32 >>> ((2 : Int32) &&& 31).toUInt32).toInt32) &&& (3 : Int32))), .val (.ref b11), .unset] [(.int ((p2 &&& (2147483647 : Int32)) % (100000 : Int32)))])) _
    refine XS.iload X12.here hx rfl (hb hby at_198) rfl ?_
    show Steps p.tables e below (T12.setTop (mkF m 200 #[.val (.int p1), .val (.int p2), .val (.int p3), .val (.int p4), .val (.int p5), .val (.int p6), .val (.int ((p1 &&& (2147483647 : Int32)) % (100000 : Int32))), .val (.int ((p2 &&& (2147483647 : Int32)) % (100000 : Int32))), .val (.int L2), .val (.int B2), .val (.ref w1), .val (.ref w2), .val (.ref b9), .val (.int (((p6.toUInt32 >>> ((2 : Int32) &&& 31).toUInt32).toInt32) &&& (3 : Int32))), .val (.ref b11), .unset] [(.int B2), (.int ((p2 &&& (2147483647 : Int32)) % (100000 : Int32)))])) _
    refine XS.icmpNo X12.here hx rfl (hb hby at_200) rfl (teq hc200).2 ?_
    show Steps p.tables e below (T12.setTop (mkF m 203 #[.val (.int p1), .val (.int p2), .val (.int p3), .val (.int p4), .val (.int p5), .val (.int p6), .val (.int ((p1 &&& (2147483647 : Int32)) % (100000 : Int32))), .val (.int ((p2 &&& (2147483647 : Int32)) % (100000 : Int32))), .val (.int L2), .val (.int B2), .val (.ref w1), .val (.ref w2), .val (.ref b9), .val (.int (((p6.toUInt32 >>> ((2 : Int32) &&& 31).toUInt32).toInt32) &&& (3 : Int32))), .val (.ref b11), .unset] [])) _
    refine XS.iconst X12.here hx rfl (hb hby at_203) ?_
    show Steps p.tables e below (T12.setTop (mkF m 204 #[.val (.int p1), .val (.int p2), .val (.int p3), .val (.int p4), .val (.int p5), .val (.int p6), .val (.int ((p1 &&& (2147483647 : Int32)) % (100000 : Int32))), .val (.int ((p2 &&& (2147483647 : Int32)) % (100000 : Int32))), .val (.int L2), .val (.int B2), .val (.ref w1), .val (.ref w2), .val (.ref b9), .val (.int (((p6.toUInt32 >>> ((2 : Int32) &&& 31).toUInt32).toInt32) &&& (3 : Int32))), .val (.ref b11), .unset] [(.int (1 : Int32))])) _
    refine XS.goto X12.here hx rfl (pc0 := 204) (pc' := 208) rfl (hb hby at_204) (by decide) (by decide) ?_
    show Steps p.tables e below (T12.setTop (mkF m 208 #[.val (.int p1), .val (.int p2), .val (.int p3), .val (.int p4), .val (.int p5), .val (.int p6), .val (.int ((p1 &&& (2147483647 : Int32)) % (100000 : Int32))), .val (.int ((p2 &&& (2147483647 : Int32)) % (100000 : Int32))), .val (.int L2), .val (.int B2), .val (.ref w1), .val (.ref w2), .val (.ref b9), .val (.int (((p6.toUInt32 >>> ((2 : Int32) &&& 31).toUInt32).toInt32) &&& (3 : Int32))), .val (.ref b11), .unset] [(.int (1 : Int32))])) _
    refine XS.istore X12.here hx rfl (hb hby at_208) rfl (l' := #[.val (.int p1), .val (.int p2), .val (.int p3), .val (.int p4), .val (.int p5), .val (.int p6), .val (.int ((p1 &&& (2147483647 : Int32)) % (100000 : Int32))), .val (.int ((p2 &&& (2147483647 : Int32)) % (100000 : Int32))), .val (.int L2), .val (.int B2), .val (.ref w1), .val (.ref w2), .val (.ref b9), .val (.int (((p6.toUInt32 >>> ((2 : Int32) &&& 31).toUInt32).toInt32) &&& (3 : Int32))), .val (.ref b11), .val (.int (1 : Int32))]) rfl ?_
    show Steps p.tables e below (T12.setTop (mkF m 210 #[.val (.int p1), .val (.int p2), .val (.int p3), .val (.int p4), .val (.int p5), .val (.int p6), .val (.int ((p1 &&& (2147483647 : Int32)) % (100000 : Int32))), .val (.int ((p2 &&& (2147483647 : Int32)) % (100000 : Int32))), .val (.int L2), .val (.int B2), .val (.ref w1), .val (.ref w2), .val (.ref b9), .val (.int (((p6.toUInt32 >>> ((2 : Int32) &&& 31).toUInt32).toInt32) &&& (3 : Int32))), .val (.ref b11), .val (.int (1 : Int32))] [])) _
    refine XS.aload X12.here hx rfl (hb hby at_210) rfl rfl ?_
    show Steps p.tables e below (T12.setTop (mkF m 212 #[.val (.int p1), .val (.int p2), .val (.int p3), .val (.int p4), .val (.int p5), .val (.int p6), .val (.int ((p1 &&& (2147483647 : Int32)) % (100000 : Int32))), .val (.int ((p2 &&& (2147483647 : Int32)) % (100000 : Int32))), .val (.int L2), .val (.int B2), .val (.ref w1), .val (.ref w2), .val (.ref b9), .val (.int (((p6.toUInt32 >>> ((2 : Int32) &&& 31).toUInt32).toInt32) &&& (3 : Int32))), .val (.ref b11), .val (.int (1 : Int32))] [(.ref b9)])) _
    refine XS.aload X12.here hx rfl (hb hby at_212) rfl rfl ?_
    show Steps p.tables e below (T12.setTop (mkF m 214 #[.val (.int p1), .val (.int p2), .val (.int p3), .val (.int p4), .val (.int p5), .val (.int p6), .val (.int ((p1 &&& (2147483647 : Int32)) % (100000 : Int32))), .val (.int ((p2 &&& (2147483647 : Int32)) % (100000 : Int32))), .val (.int L2), .val (.int B2), .val (.ref w1), .val (.ref w2), .val (.ref b9), .val (.int (((p6.toUInt32 >>> ((2 : Int32) &&& 31).toUInt32).toInt32) &&& (3 : Int32))), .val (.ref b11), .val (.int (1 : Int32))] [(.ref b11), (.ref b9)])) _
    refine st13.trans ?_
    show Steps p.tables e below (T13.setTop (mkF m 217 #[.val (.int p1), .val (.int p2), .val (.int p3), .val (.int p4), .val (.int p5), .val (.int p6), .val (.int ((p1 &&& (2147483647 : Int32)) % (100000 : Int32))), .val (.int ((p2 &&& (2147483647 : Int32)) % (100000 : Int32))), .val (.int L2), .val (.int B2), .val (.ref w1), .val (.ref w2), .val (.ref b9), .val (.int (((p6.toUInt32 >>> ((2 : Int32) &&& 31).toUInt32).toInt32) &&& (3 : Int32))), .val (.ref b11), .val (.int (1 : Int32))] [(.int (1 : Int32))])) _
    refine XS.iload X13.here hx rfl (hb hby at_217) rfl ?_
    show Steps p.tables e below (T13.setTop (mkF m 219 #[.val (.int p1), .val (.int p2), .val (.int p3), .val (.int p4), .val (.int p5), .val (.int p6), .val (.int ((p1 &&& (2147483647 : Int32)) % (100000 : Int32))), .val (.int ((p2 &&& (2147483647 : Int32)) % (100000 : Int32))), .val (.int L2), .val (.int B2), .val (.ref w1), .val (.ref w2), .val (.ref b9), .val (.int (((p6.toUInt32 >>> ((2 : Int32) &&& 31).toUInt32).toInt32) &&& (3 : Int32))), .val (.ref b11), .val (.int (1 : Int32))] [(.int (1 : Int32)), (.int (1 : Int32))])) _
    refine XS.icmpNo X13.here hx rfl (hb hby at_219) rfl (teq (rfl : (1 : Int32) = (1 : Int32))).2 ?_
    show Steps p.tables e below (T13.setTop (mkF m 222 #[.val (.int p1), .val (.int p2), .val (.int p3), .val (.int p4), .val (.int p5), .val (.int p6), .val (.int ((p1 &&& (2147483647 : Int32)) % (100000 : Int32))), .val (.int ((p2 &&& (2147483647 : Int32)) % (100000 : Int32))), .val (.int L2), .val (.int B2), .val (.ref w1), .val (.ref w2), .val (.ref b9), .val (.int (((p6.toUInt32 >>> ((2 : Int32) &&& 31).toUInt32).toInt32) &&& (3 : Int32))), .val (.ref b11), .val (.int (1 : Int32))] [])) _
    refine XS.aload X13.here hx rfl (hb hby at_222) rfl rfl ?_
    show Steps p.tables e below (T13.setTop (mkF m 224 #[.val (.int p1), .val (.int p2), .val (.int p3), .val (.int p4), .val (.int p5), .val (.int p6), .val (.int ((p1 &&& (2147483647 : Int32)) % (100000 : Int32))), .val (.int ((p2 &&& (2147483647 : Int32)) % (100000 : Int32))), .val (.int L2), .val (.int B2), .val (.ref w1), .val (.ref w2), .val (.ref b9), .val (.int (((p6.toUInt32 >>> ((2 : Int32) &&& 31).toUInt32).toInt32) &&& (3 : Int32))), .val (.ref b11), .val (.int (1 : Int32))] [(.ref b11)])) _
    refine XS.aload X13.here hx rfl (hb hby at_224) rfl rfl ?_
    show Steps p.tables e below (T13.setTop (mkF m 226 #[.val (.int p1), .val (.int p2), .val (.int p3), .val (.int p4), .val (.int p5), .val (.int p6), .val (.int ((p1 &&& (2147483647 : Int32)) % (100000 : Int32))), .val (.int ((p2 &&& (2147483647 : Int32)) % (100000 : Int32))), .val (.int L2), .val (.int B2), .val (.ref w1), .val (.ref w2), .val (.ref b9), .val (.int (((p6.toUInt32 >>> ((2 : Int32) &&& 31).toUInt32).toInt32) &&& (3 : Int32))), .val (.ref b11), .val (.int (1 : Int32))] [(.ref b9), (.ref b11)])) _
    refine st14.trans ?_
    show Steps p.tables e below (T14.setTop (mkF m 229 #[.val (.int p1), .val (.int p2), .val (.int p3), .val (.int p4), .val (.int p5), .val (.int p6), .val (.int ((p1 &&& (2147483647 : Int32)) % (100000 : Int32))), .val (.int ((p2 &&& (2147483647 : Int32)) % (100000 : Int32))), .val (.int L2), .val (.int B2), .val (.ref w1), .val (.ref w2), .val (.ref b9), .val (.int (((p6.toUInt32 >>> ((2 : Int32) &&& 31).toUInt32).toInt32) &&& (3 : Int32))), .val (.ref b11), .val (.int (1 : Int32))] [(.int (1 : Int32))])) _
    refine XS.iload X14.here hx rfl (hb hby at_229) rfl ?_
    show Steps p.tables e below (T14.setTop (mkF m 231 #[.val (.int p1), .val (.int p2), .val (.int p3), .val (.int p4), .val (.int p5), .val (.int p6), .val (.int ((p1 &&& (2147483647 : Int32)) % (100000 : Int32))), .val (.int ((p2 &&& (2147483647 : Int32)) % (100000 : Int32))), .val (.int L2), .val (.int B2), .val (.ref w1), .val (.ref w2), .val (.ref b9), .val (.int (((p6.toUInt32 >>> ((2 : Int32) &&& 31).toUInt32).toInt32) &&& (3 : Int32))), .val (.ref b11), .val (.int (1 : Int32))] [(.int (1 : Int32)), (.int (1 : Int32))])) _
    refine XS.icmpNo X14.here hx rfl (hb hby at_231) rfl (teq (rfl : (1 : Int32) = (1 : Int32))).2 ?_
    show Steps p.tables e below (T14.setTop (mkF m 234 #[.val (.int p1), .val (.int p2), .val (.int p3), .val (.int p4), .val (.int p5), .val (.int p6), .val (.int ((p1 &&& (2147483647 : Int32)) % (100000 : Int32))), .val (.int ((p2 &&& (2147483647 : Int32)) % (100000 : Int32))), .val (.int L2), .val (.int B2), .val (.ref w1), .val (.ref w2), .val (.ref b9), .val (.int (((p6.toUInt32 >>> ((2 : Int32) &&& 31).toUInt32).toInt32) &&& (3 : Int32))), .val (.ref b11), .val (.int (1 : Int32))] [])) _
    refine XS.iconst X14.here hx rfl (hb hby at_234) ?_
    show Steps p.tables e below (T14.setTop (mkF m 235 #[.val (.int p1), .val (.int p2), .val (.int p3), .val (.int p4), .val (.int p5), .val (.int p6), .val (.int ((p1 &&& (2147483647 : Int32)) % (100000 : Int32))), .val (.int ((p2 &&& (2147483647 : Int32)) % (100000 : Int32))), .val (.int L2), .val (.int B2), .val (.ref w1), .val (.ref w2), .val (.ref b9), .val (.int (((p6.toUInt32 >>> ((2 : Int32) &&& 31).toUInt32).toInt32) &&& (3 : Int32))), .val (.ref b11), .val (.int (1 : Int32))] [(.int (1 : Int32))])) _
    refine XS.goto X14.here hx rfl (pc0 := 235) (pc' := 239) rfl (hb hby at_235) (by decide) (by decide) ?_
    show Steps p.tables e below (T14.setTop (mkF m 239 #[.val (.int p1), .val (.int p2), .val (.int p3), .val (.int p4), .val (.int p5), .val (.int p6), .val (.int ((p1 &&& (2147483647 : Int32)) % (100000 : Int32))), .val (.int ((p2 &&& (2147483647 : Int32)) % (100000 : Int32))), .val (.int L2), .val (.int B2), .val (.ref w1), .val (.ref w2), .val (.ref b9), .val (.int (((p6.toUInt32 >>> ((2 : Int32) &&& 31).toUInt32).toInt32) &&& (3 : Int32))), .val (.ref b11), .val (.int (1 : Int32))] [(.int (1 : Int32))])) _
    exact retN X14 hx (t := .boolean) Bd.returns (by simp) (hb hby at_239) hr
  · show Q0 h0 n0 _ T14.heap _
    rw [eq14]
    exact ⟨rfl, N14⟩
set_option maxRecDepth 65536 in
set_option maxHeartbeats 40000000 in
theorem rm0_ttttff (l : Launch) (Z : State) (a0 : Array Value) (hw : ∀ d ∈ tables_1, d.before a0 Z = true) (ws : List Jvm.Cond) (p1 : Int32) (p2 : Int32) (p3 : Int32) (p4 : Int32) (p5 : Int32) (p6 : Int32) (L2 : Int32) (B2 : Int32) (w1 w2 : Addr) (wC : Int32) (h0 : Heap) (n0 : Nat) (Z0 : n0 ≤ h0.size) (HL : (((p6 &&& (1 : Int32)) = (0 : Int32) ∧ L2 = (p3 &&& (2147483647 : Int32)) % (100000 : Int32)) ∨ (¬ (p6 &&& (1 : Int32)) = (0 : Int32) ∧ L2 = ((p1 &&& (2147483647 : Int32)) % (100000 : Int32))))) (HB : (((p6 &&& (2 : Int32)) = (0 : Int32) ∧ B2 = (p4 &&& (2147483647 : Int32)) % (100000 : Int32)) ∨ (¬ (p6 &&& (2 : Int32)) = (0 : Int32) ∧ B2 = ((p2 &&& (2147483647 : Int32)) % (100000 : Int32))))) (H1 : ((p5 &&& (3 : Int32)) = 0 ∧ Sta Z h0 "com/example/fieldwright/fieldwright/mater/RecordLabel$Status" "NEW" "Lcom/example/fieldwright/fieldwright/mater/RecordLabel$Status;" (.ref w1)) ∨ ((p5 &&& (3 : Int32)) = 1 ∧ Sta Z h0 "com/example/fieldwright/fieldwright/mater/RecordLabel$Status" "AMENDED" "Lcom/example/fieldwright/fieldwright/mater/RecordLabel$Status;" (.ref w1)) ∨ ((p5 &&& (3 : Int32)) = 2 ∧ Sta Z h0 "com/example/fieldwright/fieldwright/mater/RecordLabel$Status" "DELETED" "Lcom/example/fieldwright/fieldwright/mater/RecordLabel$Status;" (.ref w1)) ∨ ((p5 &&& (3 : Int32)) = 3 ∧ Sta Z h0 "com/example/fieldwright/fieldwright/mater/RecordLabel$Status" "INFORMATION" "Lcom/example/fieldwright/fieldwright/mater/RecordLabel$Status;" (.ref w1))) (H2 : ((((p5.toUInt32 >>> ((2 : Int32) &&& 31).toUInt32).toInt32) &&& (3 : Int32)) = 0 ∧ Sta Z h0 "com/example/fieldwright/fieldwright/mater/RecordLabel$Status" "NEW" "Lcom/example/fieldwright/fieldwright/mater/RecordLabel$Status;" (.ref w2)) ∨ ((((p5.toUInt32 >>> ((2 : Int32) &&& 31).toUInt32).toInt32) &&& (3 : Int32)) = 1 ∧ Sta Z h0 "com/example/fieldwright/fieldwright/mater/RecordLabel$Status" "AMENDED" "Lcom/example/fieldwright/fieldwright/mater/RecordLabel$Status;" (.ref w2)) ∨ ((((p5.toUInt32 >>> ((2 : Int32) &&& 31).toUInt32).toInt32) &&& (3 : Int32)) = 2 ∧ Sta Z h0 "com/example/fieldwright/fieldwright/mater/RecordLabel$Status" "DELETED" "Lcom/example/fieldwright/fieldwright/mater/RecordLabel$Status;" (.ref w2)) ∨ ((((p5.toUInt32 >>> ((2 : Int32) &&& 31).toUInt32).toInt32) &&& (3 : Int32)) = 3 ∧ Sta Z h0 "com/example/fieldwright/fieldwright/mater/RecordLabel$Status" "INFORMATION" "Lcom/example/fieldwright/fieldwright/mater/RecordLabel$Status;" (.ref w2))) (E1 : Exa Z h0 w1 "com/example/fieldwright/fieldwright/mater/RecordLabel$Status") (E2 : Exa Z h0 w2 "com/example/fieldwright/fieldwright/mater/RecordLabel$Status") (SC : Sta Z h0 "java/lang/String" "COMPACT_STRINGS" "Z" (.int wC)) (hC : ¬ (wC = (0 : Int32))) (RL : ¬ (L2 < (0 : Int32)) ∧ ¬ ((99999 : Int32) < L2)) (RB : ¬ (B2 < (0 : Int32)) ∧ ¬ ((99999 : Int32) < B2)) (hc106 : ¬ ((((p6.toUInt32 >>> ((2 : Int32) &&& 31).toUInt32).toInt32) &&& (3 : Int32)) = (1 : Int32))) (hc127 : ¬ ((((p6.toUInt32 >>> ((2 : Int32) &&& 31).toUInt32).toInt32) &&& (3 : Int32)) = (2 : Int32))) (hc156 : ¬ ((((p6.toUInt32 >>> ((2 : Int32) &&& 31).toUInt32).toInt32) &&& (3 : Int32)) = (3 : Int32))) (hc186 : ¬ (((p1 &&& (2147483647 : Int32)) % (100000 : Int32)) = L2)) :
    MetFree l x (head1 (Jvm.Cond.code x code maxLocals ret :: ws) room_1) (fun a U => a = #[(.int p1), (.int p2), (.int p3), (.int p4), (.int p5), (.int p6)] ∧ Z.Warmed39 U.vm ∧ U.heap = h0) (fun _ _ _ _ _ => True) (fun _ U o U' => ∃ v L, o = .returned v ∧ Q0 h0 n0 v U'.heap L ∧ ReturnedEndW U o U' L room_1.cells room_1.slots) := by
  refine MetFree.of_bodySF (plainFor_of_name pn_0) hisR ?_
  intro p e s m args below meth c s₁ Bd hml0 hP hK
  obtain ⟨rfl, hZ, hh⟩ := hP
  have hx := Bd.exec
  have hby := Bd.bytes
  have hml : c.maxLocals = 16 := hml0
  have hown : s.vm.findClass "com/example/fieldwright/fieldwright/mater/RecordLabelEqualsPinLaw" = some m.cls := findClass_of_methodNamed Bd.named
  have hnm := (name_of_methodNamed Bd.named Bd.method).1
  have X0 : Stand p l e room_1 s m #[(.int p1), (.int p2), (.int p3), (.int p4), (.int p5), (.int p6)] below meth c s₁ [] 0 0 := Stand.of_body Bd
  have e0 : s₁.heap = h0 := by rw [← hh, Bd.state]; rfl
  have N0 := Fr.nil n0
  have pre0 : ∀ t, Steps p.tables e below (s₁.setTop (mkF m 0 #[.val (.int p1), .val (.int p2), .val (.int p3), .val (.int p4), .val (.int p5), .val (.int p6), .unset, .unset, .unset, .unset, .unset, .unset, .unset, .unset, .unset, .unset] [])) t → Steps p.tables e below (s₁.setTop (entryFrame m #[(.int p1), (.int p2), (.int p3), (.int p4), (.int p5), (.int p6)] maxLocals)) t := fun t k => castTop (ef_0 m p1 p2 p3 p4 p5 p6) k
  have hne : ¬ (((p1 &&& (2147483647 : Int32)) % (100000 : Int32)) = L2 ∧ w1 = w2 ∧ ((p2 &&& (2147483647 : Int32)) % (100000 : Int32)) = B2) := fun q => hc186 q.1
  have hZ00 := hZ
  have hown00 := hown
  have hS : s.Since s.vm h0.size := (State.WarmedH.refl s).since _
  have hk : h0.size ≤ h0.size := Nat.le_refl _
  obtain ⟨_, _, ⟨T7, L7, k7, n7⟩, -, X7, ⟨Lc7, hQ7, l7, y7, z7⟩, st7⟩ := Jvm.LawKit.callS X0 hx (y := (⟨"com/example/fieldwright/fieldwright/mater/RecordLabelEqualsPinLaw", "status", "(I)Lcom/example/fieldwright/fieldwright/mater/RecordLabel$Status;"⟩ : MethodName)) hown (mvT hZ (hw _ (List.mem_of_getElem? (i := 2) rfl))) (mvT hZ (hw _ (List.mem_of_getElem? (i := 3) rfl))) (mvT hZ (hw _ (List.mem_of_getElem? (i := 4) rfl))) (mvT hZ (hw _ (List.mem_of_getElem? (i := 5) rfl))) (by decide) (backOf (W := 0) (rm1 l Z a0 hw [] (p5 &&& (3 : Int32)) w1 h0 n0 Z0 H1) hZ (hw _ (List.mem_of_getElem? (i := 5) rfl)) (hw _ (List.mem_of_getElem? (i := 4) rfl)) (by decide) (by decide)) (g := (mkF m 64 #[.val (.int p1), .val (.int p2), .val (.int p3), .val (.int p4), .val (.int p5), .val (.int p6), .val (.int ((p1 &&& (2147483647 : Int32)) % (100000 : Int32))), .val (.int ((p2 &&& (2147483647 : Int32)) % (100000 : Int32))), .val (.int L2), .val (.int B2), .unset, .unset, .unset, .unset, .unset, .unset] [(.int (p5 &&& (3 : Int32)))])) rfl (by rw [hml]; rfl) (argsL := [(.int (p5 &&& (3 : Int32)))]) (rest := []) (lenOf pd_0_0 rfl) rfl (by show 2 * 0 + _ ≤ _; exact Nat.le_of_eq rfl) (hb hby at_64) (fun _ _ => ⟨rfl, e0, (by decide : 0 + 0 ≤ _), (by decide : 0 + 0 ≤ _)⟩)
  dsimp only [Pt.U, Pt.locs, Pt.cells, Pt.slots] at X7 l7 y7 z7 st7 hQ7
  subst l7 y7 z7
  obtain ⟨rfl, N7q, eq7⟩ := hQ7
  have N7 := Fr.app N0 N7q
  obtain ⟨_, _, ⟨T8, L8, k8, n8⟩, -, X8, ⟨Lc8, hQ8, l8, y8, z8⟩, st8⟩ := Jvm.LawKit.callS X7 hx (y := (⟨"com/example/fieldwright/fieldwright/mater/RecordLabelEqualsPinLaw", "status", "(I)Lcom/example/fieldwright/fieldwright/mater/RecordLabel$Status;"⟩ : MethodName)) hown (mvT hZ (hw _ (List.mem_of_getElem? (i := 2) rfl))) (mvT hZ (hw _ (List.mem_of_getElem? (i := 3) rfl))) (mvT hZ (hw _ (List.mem_of_getElem? (i := 4) rfl))) (mvT hZ (hw _ (List.mem_of_getElem? (i := 5) rfl))) (by decide) (backOf (W := 0) (rm1 l Z a0 hw [] (((p5.toUInt32 >>> ((2 : Int32) &&& 31).toUInt32).toInt32) &&& (3 : Int32)) w2 h0 n0 Z0 H2) hZ (hw _ (List.mem_of_getElem? (i := 5) rfl)) (hw _ (List.mem_of_getElem? (i := 4) rfl)) (by decide) (by decide)) (g := (mkF m 75 #[.val (.int p1), .val (.int p2), .val (.int p3), .val (.int p4), .val (.int p5), .val (.int p6), .val (.int ((p1 &&& (2147483647 : Int32)) % (100000 : Int32))), .val (.int ((p2 &&& (2147483647 : Int32)) % (100000 : Int32))), .val (.int L2), .val (.int B2), .val (.ref w1), .unset, .unset, .unset, .unset, .unset] [(.int (((p5.toUInt32 >>> ((2 : Int32) &&& 31).toUInt32).toInt32) &&& (3 : Int32)))])) rfl (by rw [hml]; rfl) (argsL := [(.int (((p5.toUInt32 >>> ((2 : Int32) &&& 31).toUInt32).toInt32) &&& (3 : Int32)))]) (rest := []) (lenOf pd_0_0 rfl) rfl (by show 2 * 0 + _ ≤ _; exact Nat.le_of_eq rfl) (hb hby at_75) (fun _ _ => ⟨rfl, eq7, (by decide : 0 + 0 ≤ _), (by decide : 0 + 0 ≤ _)⟩)
  dsimp only [Pt.U, Pt.locs, Pt.cells, Pt.slots] at X8 l8 y8 z8 st8 hQ8
  subst l8 y8 z8
  obtain ⟨rfl, N8q, eq8⟩ := hQ8
  have N8 := Fr.app N7 N8q
  obtain ⟨T9, h9, X9, e9, E9, A9, D9, -, st9⟩ := newO X8 hx hZ hown (hw _ (List.mem_of_getElem? (i := 9) rfl)) (hw _ (List.mem_of_getElem? (i := 10) rfl)) (hw _ (List.mem_of_getElem? (i := 11) rfl)) eq8 (g := (mkF m 80 #[.val (.int p1), .val (.int p2), .val (.int p3), .val (.int p4), .val (.int p5), .val (.int p6), .val (.int ((p1 &&& (2147483647 : Int32)) % (100000 : Int32))), .val (.int ((p2 &&& (2147483647 : Int32)) % (100000 : Int32))), .val (.int L2), .val (.int B2), .val (.ref w1), .val (.ref w2), .unset, .unset, .unset, .unset] [])) rfl (hb hby at_80) (by decide) (by decide)
  obtain ⟨b9, g9⟩ : ∃ z, z = h0.size := ⟨_, rfl⟩
  rw [← g9] at A9 D9 st9
  have F_recordLength_b9 : Fld Z h9 b9 "com/example/fieldwright/fieldwright/mater/RecordLabel" "recordLength" "I" (.int (0 : Int32)) := D9 (Or.inr (hw _ (List.mem_of_getElem? (i := 31) rfl))) (ty := .int) (by decide)
  have F_status_b9 : Fld Z h9 b9 "com/example/fieldwright/fieldwright/mater/RecordLabel" "status" "Lcom/example/fieldwright/fieldwright/mater/RecordLabel$Status;" .null := D9 (Or.inr (hw _ (List.mem_of_getElem? (i := 40) rfl))) (ty := (.object "com/example/fieldwright/fieldwright/mater/RecordLabel$Status")) (by decide)
  have F_baseAddress_b9 : Fld Z h9 b9 "com/example/fieldwright/fieldwright/mater/RecordLabel" "baseAddress" "I" (.int (0 : Int32)) := D9 (Or.inr (hw _ (List.mem_of_getElem? (i := 43) rfl))) (ty := .int) (by decide)
  have E_b9 := A9
  have g_b9 : n0 ≤ b9 := Nat.le_trans Z0 (Nat.le_of_eq g9.symm)
  have sz_b9 : h0.size ≤ b9 := (Nat.le_trans (Keep.refl h0 []).1 (Nat.le_of_eq g9.symm))
  have K9 : Keep h0 h9 [] := (Keep.refl h0 []).ext E9
  have hk := Nat.le_trans hk E9.1
  obtain ⟨_, _, ⟨T10, L10, k10, n10⟩, -, X10, hS10, hg10, ⟨Lc10, hQ10, l10, y10, z10⟩, st10⟩ := X9.specialBackS hx (y := (⟨"com/example/fieldwright/fieldwright/mater/RecordLabel", "<init>", "(ILcom/example/fieldwright/fieldwright/mater/RecordLabel$Status;I)V"⟩ : MethodName)) rfl hown (mvT hZ (hw _ (List.mem_of_getElem? (i := 12) rfl))) (mvT hZ (hw _ (List.mem_of_getElem? (i := 13) rfl))) (mvT hZ (hw _ (List.mem_of_getElem? (i := 14) rfl))) (by decide) (backOfS (W := 1) (rm2 l Z a0 hw [] b9 ((p1 &&& (2147483647 : Int32)) % (100000 : Int32)) w1 ((p2 &&& (2147483647 : Int32)) % (100000 : Int32)) (.int (0 : Int32)) .null (.int (0 : Int32)) h9 n0 (Nat.le_trans Z0 K9.1) (own_rng p1).1 (own_rng p1).2 (own_rng p2).1 (own_rng p2).2 E_b9 F_recordLength_b9 g_b9 (E1.keep K9) F_status_b9 F_baseAddress_b9) hZ (hw _ (List.mem_of_getElem? (i := 14) rfl)) (hw _ (List.mem_of_getElem? (i := 11) rfl)) (by decide) (by decide)) (g := (mkF m 90 #[.val (.int p1), .val (.int p2), .val (.int p3), .val (.int p4), .val (.int p5), .val (.int p6), .val (.int ((p1 &&& (2147483647 : Int32)) % (100000 : Int32))), .val (.int ((p2 &&& (2147483647 : Int32)) % (100000 : Int32))), .val (.int L2), .val (.int B2), .val (.ref w1), .val (.ref w2), .unset, .unset, .unset, .unset] [(.int ((p2 &&& (2147483647 : Int32)) % (100000 : Int32))), (.ref w1), (.int ((p1 &&& (2147483647 : Int32)) % (100000 : Int32))), (.ref b9), (.ref b9)])) rfl (by rw [hml]; rfl) (Steps.refl _) (a := b9) (argsL := [(.int ((p1 &&& (2147483647 : Int32)) % (100000 : Int32))), (.ref w1), (.int ((p2 &&& (2147483647 : Int32)) % (100000 : Int32)))]) (rest := [(.ref b9)]) (lenOf pd_0_1 rfl) rfl (by show 2 * 0 + _ ≤ _; exact Nat.le_of_eq rfl) (hb hby at_90) (fun _ _ => ⟨rfl, e9, (by decide : 1 + 6 ≤ _), (by decide : 3 + 136 ≤ _)⟩)
  dsimp only [Pt.U, Pt.locs, Pt.cells, Pt.slots] at X10 l10 y10 z10 st10 hQ10 hS10 hg10
  subst l10 y10 z10
  obtain ⟨rfl, N10q, Kq10, Eq10, F1_b9, F2_b9, F3_b9⟩ := hQ10
  have K10 : Keep h0 T10.heap [] := K9.trans Kq10 (fun x hx => by cases List.mem_singleton.mp hx; exact Or.inr sz_b9)
  have N10 := Fr.app N8 N10q
  obtain ⟨X10, hS, hZ, hown⟩ := rebS hS (show _ ≤ T9.heap.size by rw [e9]; exact hk) X10 hS10 hg10 hZ hown
  have hk := Nat.le_refl T10.heap.size
  obtain ⟨T11, h11, X11, e11, E11, A11, D11, -, st11⟩ := newO X10 hx hZ hown (hw _ (List.mem_of_getElem? (i := 9) rfl)) (hw _ (List.mem_of_getElem? (i := 10) rfl)) (hw _ (List.mem_of_getElem? (i := 11) rfl)) rfl (g := (mkF m 167 #[.val (.int p1), .val (.int p2), .val (.int p3), .val (.int p4), .val (.int p5), .val (.int p6), .val (.int ((p1 &&& (2147483647 : Int32)) % (100000 : Int32))), .val (.int ((p2 &&& (2147483647 : Int32)) % (100000 : Int32))), .val (.int L2), .val (.int B2), .val (.ref w1), .val (.ref w2), .val (.ref b9), .val (.int (((p6.toUInt32 >>> ((2 : Int32) &&& 31).toUInt32).toInt32) &&& (3 : Int32))), .unset, .unset] [])) rfl (hb hby at_167) (by decide) (by decide)
  obtain ⟨b11, g11⟩ : ∃ z, z = T10.heap.size := ⟨_, rfl⟩
  rw [← g11] at A11 D11 st11
  have F_recordLength_b11 : Fld Z h11 b11 "com/example/fieldwright/fieldwright/mater/RecordLabel" "recordLength" "I" (.int (0 : Int32)) := D11 (Or.inr (hw _ (List.mem_of_getElem? (i := 31) rfl))) (ty := .int) (by decide)
  have F_status_b11 : Fld Z h11 b11 "com/example/fieldwright/fieldwright/mater/RecordLabel" "status" "Lcom/example/fieldwright/fieldwright/mater/RecordLabel$Status;" .null := D11 (Or.inr (hw _ (List.mem_of_getElem? (i := 40) rfl))) (ty := (.object "com/example/fieldwright/fieldwright/mater/RecordLabel$Status")) (by decide)
  have F_baseAddress_b11 : Fld Z h11 b11 "com/example/fieldwright/fieldwright/mater/RecordLabel" "baseAddress" "I" (.int (0 : Int32)) := D11 (Or.inr (hw _ (List.mem_of_getElem? (i := 43) rfl))) (ty := .int) (by decide)
  have E_b11 := A11
  have g_b11 : n0 ≤ b11 := Nat.le_trans (Nat.le_trans (Nat.le_trans Z0 E9.1) Kq10.1) (Nat.le_of_eq g11.symm)
  have sz_b11 : h0.size ≤ b11 := (Nat.le_trans K10.1 (Nat.le_of_eq g11.symm))
  have K11 : Keep h0 h11 [] := K10.ext E11
  have hk := Nat.le_trans hk E11.1
  obtain ⟨_, _, ⟨T12, L12, k12, n12⟩, -, X12, hS12, hg12, ⟨Lc12, hQ12, l12, y12, z12⟩, st12⟩ := X11.specialBackS hx (y := (⟨"com/example/fieldwright/fieldwright/mater/RecordLabel", "<init>", "(ILcom/example/fieldwright/fieldwright/mater/RecordLabel$Status;I)V"⟩ : MethodName)) rfl hown (mvT hZ (hw _ (List.mem_of_getElem? (i := 12) rfl))) (mvT hZ (hw _ (List.mem_of_getElem? (i := 13) rfl))) (mvT hZ (hw _ (List.mem_of_getElem? (i := 14) rfl))) (by decide) (backOfS (W := 1) (rm2 l Z a0 hw [] b11 L2 w2 B2 (.int (0 : Int32)) .null (.int (0 : Int32)) h11 n0 (Nat.le_trans Z0 K11.1) RL.1 RL.2 RB.1 RB.2 E_b11 F_recordLength_b11 g_b11 (E2.keep K11) F_status_b11 F_baseAddress_b11) hZ (hw _ (List.mem_of_getElem? (i := 14) rfl)) (hw _ (List.mem_of_getElem? (i := 11) rfl)) (by decide) (by decide)) (g := (mkF m 177 #[.val (.int p1), .val (.int p2), .val (.int p3), .val (.int p4), .val (.int p5), .val (.int p6), .val (.int ((p1 &&& (2147483647 : Int32)) % (100000 : Int32))), .val (.int ((p2 &&& (2147483647 : Int32)) % (100000 : Int32))), .val (.int L2), .val (.int B2), .val (.ref w1), .val (.ref w2), .val (.ref b9), .val (.int (((p6.toUInt32 >>> ((2 : Int32) &&& 31).toUInt32).toInt32) &&& (3 : Int32))), .unset, .unset] [(.int B2), (.ref w2), (.int L2), (.ref b11), (.ref b11)])) rfl (by rw [hml]; rfl) (Steps.refl _) (a := b11) (argsL := [(.int L2), (.ref w2), (.int B2)]) (rest := [(.ref b11)]) (lenOf pd_0_1 rfl) rfl (by show 2 * 0 + _ ≤ _; exact Nat.le_of_eq rfl) (hb hby at_177) (fun _ _ => ⟨rfl, e11, (by decide : 8 + 6 ≤ _), (by decide : 142 + 136 ≤ _)⟩)
  dsimp only [Pt.U, Pt.locs, Pt.cells, Pt.slots] at X12 l12 y12 z12 st12 hQ12 hS12 hg12
  subst l12 y12 z12
  obtain ⟨rfl, N12q, Kq12, Eq12, F1_b11, F2_b11, F3_b11⟩ := hQ12
  have KA : Keep T10.heap T12.heap [] := ((Keep.refl T10.heap []).ext E11).trans Kq12 (fun x hx => by cases List.mem_singleton.mp hx; exact Or.inr (Nat.le_of_eq g11.symm))
  have K12 : Keep h0 T12.heap [] := K11.trans Kq12 (fun x hx => by cases List.mem_singleton.mp hx; exact Or.inr sz_b11)
  have N12 := Fr.app N10 N12q
  obtain ⟨X12, hS, hZ, hown⟩ := rebS hS (show _ ≤ T11.heap.size by rw [e11]; exact hk) X12 hS12 hg12 hZ hown
  have hk := Nat.le_refl T12.heap.size
  obtain ⟨cq13, kq13, q13a, q13b, q13c⟩ := isOf hZ rfl (((E_b9.keep Kq10).ext E11).keep Kq12)
  obtain ⟨_, _, ⟨T13, L13, k13, n13⟩, -, X13, ⟨Lc13, hQ13, l13, y13, z13⟩, st13⟩ := X12.virtualBack hx (y := (⟨"com/example/fieldwright/fieldwright/mater/RecordLabel", "equals", "(Ljava/lang/Object;)Z"⟩ : MethodName)) (z := (⟨"com/example/fieldwright/fieldwright/mater/RecordLabel", "equals", "(Ljava/lang/Object;)Z"⟩ : MethodName)) hown (mvT hZ (hw _ (List.mem_of_getElem? (i := 44) rfl))) (mvT hZ (hw _ (List.mem_of_getElem? (i := 45) rfl))) (notFace_of_selects (args := #[]) (mvT hZ (hw _ (List.mem_of_getElem? (i := 47) rfl)))) (mvT hZ (hw _ (List.mem_of_getElem? (i := 47) rfl))) (mvT hZ (hw _ (List.mem_of_getElem? (i := 46) rfl))) (by decide) (backOf (W := 0) (rm6_no l Z a0 hw [] b9 b11 ((p1 &&& (2147483647 : Int32)) % (100000 : Int32)) L2 w1 w2 ((p2 &&& (2147483647 : Int32)) % (100000 : Int32)) B2 T12.heap n0 (Nat.le_trans Z0 K12.1) Eq12 (F1_b9.keep KA List.not_mem_nil) (F2_b9.keep KA List.not_mem_nil) (F3_b9.keep KA List.not_mem_nil) F1_b11 F2_b11 F3_b11 hne) hZ (hw _ (List.mem_of_getElem? (i := 48) rfl)) (hw _ (List.mem_of_getElem? (i := 11) rfl)) (by decide) (by decide)) q13a q13c (g := (mkF m 214 #[.val (.int p1), .val (.int p2), .val (.int p3), .val (.int p4), .val (.int p5), .val (.int p6), .val (.int ((p1 &&& (2147483647 : Int32)) % (100000 : Int32))), .val (.int ((p2 &&& (2147483647 : Int32)) % (100000 : Int32))), .val (.int L2), .val (.int B2), .val (.ref w1), .val (.ref w2), .val (.ref b9), .val (.int (((p6.toUInt32 >>> ((2 : Int32) &&& 31).toUInt32).toInt32) &&& (3 : Int32))), .val (.ref b11), .val (.int (0 : Int32))] [(.ref b11), (.ref b9)])) rfl (by rw [hml]; rfl) (Steps.refl _) (argsL := [(.ref b11)]) (rest := []) (lenOf pd_0_5 rfl) rfl (by show 2 * 0 + _ ≤ _; exact Nat.le_of_eq rfl) (hb hby at_214) (fun _ _ => ⟨rfl, rfl, (by decide : 14 + 0 ≤ _), (by decide : 278 + 0 ≤ _)⟩)
  dsimp only [Pt.U, Pt.locs, Pt.cells, Pt.slots] at X13 l13 y13 z13 st13 hQ13
  subst l13 y13 z13
  obtain ⟨rfl, N13q, eq13⟩ := hQ13
  have N13 := Fr.app N12 N13q
  obtain ⟨cq14, kq14, q14a, q14b, q14c⟩ := isOf hZ eq13 (E_b11.keep Kq12)
  obtain ⟨_, _, ⟨T14, L14, k14, n14⟩, -, X14, ⟨Lc14, hQ14, l14, y14, z14⟩, st14⟩ := X13.virtualBack hx (y := (⟨"com/example/fieldwright/fieldwright/mater/RecordLabel", "equals", "(Ljava/lang/Object;)Z"⟩ : MethodName)) (z := (⟨"com/example/fieldwright/fieldwright/mater/RecordLabel", "equals", "(Ljava/lang/Object;)Z"⟩ : MethodName)) hown (mvT hZ (hw _ (List.mem_of_getElem? (i := 44) rfl))) (mvT hZ (hw _ (List.mem_of_getElem? (i := 45) rfl))) (notFace_of_selects (args := #[]) (mvT hZ (hw _ (List.mem_of_getElem? (i := 47) rfl)))) (mvT hZ (hw _ (List.mem_of_getElem? (i := 47) rfl))) (mvT hZ (hw _ (List.mem_of_getElem? (i := 46) rfl))) (by decide) (backOf (W := 0) (rm6_no l Z a0 hw [] b11 b9 L2 ((p1 &&& (2147483647 : Int32)) % (100000 : Int32)) w2 w1 B2 ((p2 &&& (2147483647 : Int32)) % (100000 : Int32)) T12.heap n0 (Nat.le_trans Z0 K12.1) (Eq10.keep KA) F1_b11 F2_b11 F3_b11 (F1_b9.keep KA List.not_mem_nil) (F2_b9.keep KA List.not_mem_nil) (F3_b9.keep KA List.not_mem_nil) (fun q => hne ⟨q.1.symm, q.2.1.symm, q.2.2.symm⟩)) hZ (hw _ (List.mem_of_getElem? (i := 48) rfl)) (hw _ (List.mem_of_getElem? (i := 11) rfl)) (by decide) (by decide)) q14a q14c (g := (mkF m 226 #[.val (.int p1), .val (.int p2), .val (.int p3), .val (.int p4), .val (.int p5), .val (.int p6), .val (.int ((p1 &&& (2147483647 : Int32)) % (100000 : Int32))), .val (.int ((p2 &&& (2147483647 : Int32)) % (100000 : Int32))), .val (.int L2), .val (.int B2), .val (.ref w1), .val (.ref w2), .val (.ref b9), .val (.int (((p6.toUInt32 >>> ((2 : Int32) &&& 31).toUInt32).toInt32) &&& (3 : Int32))), .val (.ref b11), .val (.int (0 : Int32))] [(.ref b9), (.ref b11)])) rfl (by rw [hml]; rfl) (Steps.refl _) (argsL := [(.ref b9)]) (rest := []) (lenOf pd_0_5 rfl) rfl (by show 2 * 0 + _ ≤ _; exact Nat.le_of_eq rfl) (hb hby at_226) (fun _ _ => ⟨rfl, eq13, (by decide : 14 + 0 ≤ _), (by decide : 278 + 0 ≤ _)⟩)
  dsimp only [Pt.U, Pt.locs, Pt.cells, Pt.slots] at X14 l14 y14 z14 st14 hQ14
  subst l14 y14 z14
  obtain ⟨rfl, N14q, eq14⟩ := hQ14
  have N14 := Fr.app N13 N14q
  obtain ⟨fs, hr, hrun, hended, hW1, hW2, hW3, hsame⟩ := X14.leaveW hS (show _ ≤ T14.heap.size by rw [eq14]; exact hk) (v := some (.int (1 : Int32))) (fun h => by rw [Bd.returns] at h; cases h)
  refine ⟨_, _, pre0 _ ?_, hrun, hended, _, _, rfl, ?_, hW1, hW2, hW3, hsame.mono (by decide) (by decide)⟩
  · show Steps p.tables e below (s₁.setTop (mkF m 0 #[.val (.int p1), .val (.int p2), .val (.int p3), .val (.int p4), .val (.int p5), .val (.int p6), .unset, .unset, .unset, .unset, .unset, .unset, .unset, .unset, .unset, .unset] [])) _
    refine XS.iloadN X0.here hx rfl (hb hby at_0) rfl ?_
    show Steps p.tables e below (s₁.setTop (mkF m 1 #[.val (.int p1), .val (.int p2), .val (.int p3), .val (.int p4), .val (.int p5), .val (.int p6), .unset, .unset, .unset, .unset, .unset, .unset, .unset, .unset, .unset, .unset] [(.int p1)])) _
    refine X0.ldcInt hx hown00 (mvT hZ00 (hw _ (List.mem_of_getElem? (i := 0) rfl))) (g := (mkF m 1 #[.val (.int p1), .val (.int p2), .val (.int p3), .val (.int p4), .val (.int p5), .val (.int p6), .unset, .unset, .unset, .unset, .unset, .unset, .unset, .unset, .unset, .unset] [(.int p1)])) rfl (hb hby at_1) _ ?_
    show Steps p.tables e below (s₁.setTop (mkF m 3 #[.val (.int p1), .val (.int p2), .val (.int p3), .val (.int p4), .val (.int p5), .val (.int p6), .unset, .unset, .unset, .unset, .unset, .unset, .unset, .unset, .unset, .unset] [(.int (2147483647 : Int32)), (.int p1)])) _
    refine XS.iand X0.here hx rfl (hb hby at_3) rfl ?_
    show Steps p.tables e below (s₁.setTop (mkF m 4 #[.val (.int p1), .val (.int p2), .val (.int p3), .val (.int p4), .val (.int p5), .val (.int p6), .unset, .unset, .unset, .unset, .unset, .unset, .unset, .unset, .unset, .unset] [(.int (p1 &&& (2147483647 : Int32)))])) _
    refine X0.ldcInt hx hown00 (mvT hZ00 (hw _ (List.mem_of_getElem? (i := 1) rfl))) (g := (mkF m 4 #[.val (.int p1), .val (.int p2), .val (.int p3), .val (.int p4), .val (.int p5), .val (.int p6), .unset, .unset, .unset, .unset, .unset, .unset, .unset, .unset, .unset, .unset] [(.int (p1 &&& (2147483647 : Int32)))])) rfl (hb hby at_4) _ ?_
    show Steps p.tables e below (s₁.setTop (mkF m 6 #[.val (.int p1), .val (.int p2), .val (.int p3), .val (.int p4), .val (.int p5), .val (.int p6), .unset, .unset, .unset, .unset, .unset, .unset, .unset, .unset, .unset, .unset] [(.int (100000 : Int32)), (.int (p1 &&& (2147483647 : Int32)))])) _
    refine iremM X0 hx rfl (hb hby at_6) rfl (by decide) ?_
    show Steps p.tables e below (s₁.setTop (mkF m 7 #[.val (.int p1), .val (.int p2), .val (.int p3), .val (.int p4), .val (.int p5), .val (.int p6), .unset, .unset, .unset, .unset, .unset, .unset, .unset, .unset, .unset, .unset] [(.int ((p1 &&& (2147483647 : Int32)) % (100000 : Int32)))])) _
    refine XS.istore X0.here hx rfl (hb hby at_7) rfl (l' := #[.val (.int p1), .val (.int p2), .val (.int p3), .val (.int p4), .val (.int p5), .val (.int p6), .val (.int ((p1 &&& (2147483647 : Int32)) % (100000 : Int32))), .unset, .unset, .unset, .unset, .unset, .unset, .unset, .unset, .unset]) rfl ?_
    show Steps p.tables e below (s₁.setTop (mkF m 9 #[.val (.int p1), .val (.int p2), .val (.int p3), .val (.int p4), .val (.int p5), .val (.int p6), .val (.int ((p1 &&& (2147483647 : Int32)) % (100000 : Int32))), .unset, .unset, .unset, .unset, .unset, .unset, .unset, .unset, .unset] [])) _
    refine XS.iloadN X0.here hx rfl (hb hby at_9) rfl ?_
    show Steps p.tables e below (s₁.setTop (mkF m 10 #[.val (.int p1), .val (.int p2), .val (.int p3), .val (.int p4), .val (.int p5), .val (.int p6), .val (.int ((p1 &&& (2147483647 : Int32)) % (100000 : Int32))), .unset, .unset, .unset, .unset, .unset, .unset, .unset, .unset, .unset] [(.int p2)])) _
    refine X0.ldcInt hx hown00 (mvT hZ00 (hw _ (List.mem_of_getElem? (i := 0) rfl))) (g := (mkF m 10 #[.val (.int p1), .val (.int p2), .val (.int p3), .val (.int p4), .val (.int p5), .val (.int p6), .val (.int ((p1 &&& (2147483647 : Int32)) % (100000 : Int32))), .unset, .unset, .unset, .unset, .unset, .unset, .unset, .unset, .unset] [(.int p2)])) rfl (hb hby at_10) _ ?_
    show Steps p.tables e below (s₁.setTop (mkF m 12 #[.val (.int p1), .val (.int p2), .val (.int p3), .val (.int p4), .val (.int p5), .val (.int p6), .val (.int ((p1 &&& (2147483647 : Int32)) % (100000 : Int32))), .unset, .unset, .unset, .unset, .unset, .unset, .unset, .unset, .unset] [(.int (2147483647 : Int32)), (.int p2)])) _
    refine XS.iand X0.here hx rfl (hb hby at_12) rfl ?_
    show Steps p.tables e below (s₁.setTop (mkF m 13 #[.val (.int p1), .val (.int p2), .val (.int p3), .val (.int p4), .val (.int p5), .val (.int p6), .val (.int ((p1 &&& (2147483647 : Int32)) % (100000 : Int32))), .unset, .unset, .unset, .unset, .unset, .unset, .unset, .unset, .unset] [(.int (p2 &&& (2147483647 : Int32)))])) _
    refine X0.ldcInt hx hown00 (mvT hZ00 (hw _ (List.mem_of_getElem? (i := 1) rfl))) (g := (mkF m 13 #[.val (.int p1), .val (.int p2), .val (.int p3), .val (.int p4), .val (.int p5), .val (.int p6), .val (.int ((p1 &&& (2147483647 : Int32)) % (100000 : Int32))), .unset, .unset, .unset, .unset, .unset, .unset, .unset, .unset, .unset] [(.int (p2 &&& (2147483647 : Int32)))])) rfl (hb hby at_13) _ ?_
    show Steps p.tables e below (s₁.setTop (mkF m 15 #[.val (.int p1), .val (.int p2), .val (.int p3), .val (.int p4), .val (.int p5), .val (.int p6), .val (.int ((p1 &&& (2147483647 : Int32)) % (100000 : Int32))), .unset, .unset, .unset, .unset, .unset, .unset, .unset, .unset, .unset] [(.int (100000 : Int32)), (.int (p2 &&& (2147483647 : Int32)))])) _
    refine iremM X0 hx rfl (hb hby at_15) rfl (by decide) ?_
    show Steps p.tables e below (s₁.setTop (mkF m 16 #[.val (.int p1), .val (.int p2), .val (.int p3), .val (.int p4), .val (.int p5), .val (.int p6), .val (.int ((p1 &&& (2147483647 : Int32)) % (100000 : Int32))), .unset, .unset, .unset, .unset, .unset, .unset, .unset, .unset, .unset] [(.int ((p2 &&& (2147483647 : Int32)) % (100000 : Int32)))])) _
    refine XS.istore X0.here hx rfl (hb hby at_16) rfl (l' := #[.val (.int p1), .val (.int p2), .val (.int p3), .val (.int p4), .val (.int p5), .val (.int p6), .val (.int ((p1 &&& (2147483647 : Int32)) % (100000 : Int32))), .val (.int ((p2 &&& (2147483647 : Int32)) % (100000 : Int32))), .unset, .unset, .unset, .unset, .unset, .unset, .unset, .unset]) rfl ?_
    show Steps p.tables e below (s₁.setTop (mkF m 18 #[.val (.int p1), .val (.int p2), .val (.int p3), .val (.int p4), .val (.int p5), .val (.int p6), .val (.int ((p1 &&& (2147483647 : Int32)) % (100000 : Int32))), .val (.int ((p2 &&& (2147483647 : Int32)) % (100000 : Int32))), .unset, .unset, .unset, .unset, .unset, .unset, .unset, .unset] [])) _
    refine seg18 X0 hx hZ00 hw hby hml hown00 p1 p2 p3 p4 p5 p6 ((p1 &&& (2147483647 : Int32)) % (100000 : Int32)) ((p2 &&& (2147483647 : Int32)) % (100000 : Int32)) L2 HL ?_
    show Steps p.tables e below (s₁.setTop (mkF m 39 #[.val (.int p1), .val (.int p2), .val (.int p3), .val (.int p4), .val (.int p5), .val (.int p6), .val (.int ((p1 &&& (2147483647 : Int32)) % (100000 : Int32))), .val (.int ((p2 &&& (2147483647 : Int32)) % (100000 : Int32))), .val (.int L2), .unset, .unset, .unset, .unset, .unset, .unset, .unset] [])) _
    refine seg39 X0 hx hZ00 hw hby hml hown00 p1 p2 p3 p4 p5 p6 ((p1 &&& (2147483647 : Int32)) % (100000 : Int32)) ((p2 &&& (2147483647 : Int32)) % (100000 : Int32)) L2 B2 HB ?_
    show Steps p.tables e below (s₁.setTop (mkF m 60 #[.val (.int p1), .val (.int p2), .val (.int p3), .val (.int p4), .val (.int p5), .val (.int p6), .val (.int ((p1 &&& (2147483647 : Int32)) % (100000 : Int32))), .val (.int ((p2 &&& (2147483647 : Int32)) % (100000 : Int32))), .val (.int L2), .val (.int B2), .unset, .unset, .unset, .unset, .unset, .unset] [])) _
    refine XS.iload X0.here hx rfl (hb hby at_60) rfl ?_
    show Steps p.tables e below (s₁.setTop (mkF m 62 #[.val (.int p1), .val (.int p2), .val (.int p3), .val (.int p4), .val (.int p5), .val (.int p6), .val (.int ((p1 &&& (2147483647 : Int32)) % (100000 : Int32))), .val (.int ((p2 &&& (2147483647 : Int32)) % (100000 : Int32))), .val (.int L2), .val (.int B2), .unset, .unset, .unset, .unset, .unset, .unset] [(.int p5)])) _
    refine XS.iconst X0.here hx rfl (hb hby at_62) ?_
    show Steps p.tables e below (s₁.setTop (mkF m 63 #[.val (.int p1), .val (.int p2), .val (.int p3), .val (.int p4), .val (.int p5), .val (.int p6), .val (.int ((p1 &&& (2147483647 : Int32)) % (100000 : Int32))), .val (.int ((p2 &&& (2147483647 : Int32)) % (100000 : Int32))), .val (.int L2), .val (.int B2), .unset, .unset, .unset, .unset, .unset, .unset] [(.int (3 : Int32)), (.int p5)])) _
    refine XS.iand X0.here hx rfl (hb hby at_63) rfl ?_
    show Steps p.tables e below (s₁.setTop (mkF m 64 #[.val (.int p1), .val (.int p2), .val (.int p3), .val (.int p4), .val (.int p5), .val (.int p6), .val (.int ((p1 &&& (2147483647 : Int32)) % (100000 : Int32))), .val (.int ((p2 &&& (2147483647 : Int32)) % (100000 : Int32))), .val (.int L2), .val (.int B2), .unset, .unset, .unset, .unset, .unset, .unset] [(.int (p5 &&& (3 : Int32)))])) _
    refine st7 _ ?_
    show Steps p.tables e below (T7.setTop (mkF m 67 #[.val (.int p1), .val (.int p2), .val (.int p3), .val (.int p4), .val (.int p5), .val (.int p6), .val (.int ((p1 &&& (2147483647 : Int32)) % (100000 : Int32))), .val (.int ((p2 &&& (2147483647 : Int32)) % (100000 : Int32))), .val (.int L2), .val (.int B2), .unset, .unset, .unset, .unset, .unset, .unset] [(.ref w1)])) _
    refine XS.astore X7.here hx rfl (hb hby at_67) rfl rfl (l' := #[.val (.int p1), .val (.int p2), .val (.int p3), .val (.int p4), .val (.int p5), .val (.int p6), .val (.int ((p1 &&& (2147483647 : Int32)) % (100000 : Int32))), .val (.int ((p2 &&& (2147483647 : Int32)) % (100000 : Int32))), .val (.int L2), .val (.int B2), .val (.ref w1), .unset, .unset, .unset, .unset, .unset]) rfl ?_
    show Steps p.tables e below (T7.setTop (mkF m 69 #[.val (.int p1), .val (.int p2), .val (.int p3), .val (.int p4), .val (.int p5), .val (.int p6), .val (.int ((p1 &&& (2147483647 : Int32)) % (100000 : Int32))), .val (.int ((p2 &&& (2147483647 : Int32)) % (100000 : Int32))), .val (.int L2), .val (.int B2), .val (.ref w1), .unset, .unset, .unset, .unset, .unset] [])) _
    refine XS.iload X7.here hx rfl (hb hby at_69) rfl ?_
    show Steps p.tables e below (T7.setTop (mkF m 71 #[.val (.int p1), .val (.int p2), .val (.int p3), .val (.int p4), .val (.int p5), .val (.int p6), .val (.int ((p1 &&& (2147483647 : Int32)) % (100000 : Int32))), .val (.int ((p2 &&& (2147483647 : Int32)) % (100000 : Int32))), .val (.int L2), .val (.int B2), .val (.ref w1), .unset, .unset, .unset, .unset, .unset] [(.int p5)])) _
    refine XS.iconst X7.here hx rfl (hb hby at_71) ?_
    show Steps p.tables e below (T7.setTop (mkF m 72 #[.val (.int p1), .val (.int p2), .val (.int p3), .val (.int p4), .val (.int p5), .val (.int p6), .val (.int ((p1 &&& (2147483647 : Int32)) % (100000 : Int32))), .val (.int ((p2 &&& (2147483647 : Int32)) % (100000 : Int32))), .val (.int L2), .val (.int B2), .val (.ref w1), .unset, .unset, .unset, .unset, .unset] [(.int (2 : Int32)), (.int p5)])) _
    refine XS.iushr X7.here hx rfl (hb hby at_72) rfl ?_
    show Steps p.tables e below (T7.setTop (mkF m 73 #[.val (.int p1), .val (.int p2), .val (.int p3), .val (.int p4), .val (.int p5), .val (.int p6), .val (.int ((p1 &&& (2147483647 : Int32)) % (100000 : Int32))), .val (.int ((p2 &&& (2147483647 : Int32)) % (100000 : Int32))), .val (.int L2), .val (.int B2), .val (.ref w1), .unset, .unset, .unset, .unset, .unset] [(.int ((p5.toUInt32 >>> ((2 : Int32) &&& 31).toUInt32).toInt32))])) _
    refine XS.iconst X7.here hx rfl (hb hby at_73) ?_
    show Steps p.tables e below (T7.setTop (mkF m 74 #[.val (.int p1), .val (.int p2), .val (.int p3), .val (.int p4), .val (.int p5), .val (.int p6), .val (.int ((p1 &&& (2147483647 : Int32)) % (100000 : Int32))), .val (.int ((p2 &&& (2147483647 : Int32)) % (100000 : Int32))), .val (.int L2), .val (.int B2), .val (.ref w1), .unset, .unset, .unset, .unset, .unset] [(.int (3 : Int32)), (.int ((p5.toUInt32 >>> ((2 : Int32) &&& 31).toUInt32).toInt32))])) _
    refine XS.iand X7.here hx rfl (hb hby at_74) rfl ?_
    show Steps p.tables e below (T7.setTop (mkF m 75 #[.val (.int p1), .val (.int p2), .val (.int p3), .val (.int p4), .val (.int p5), .val (.int p6), .val (.int ((p1 &&& (2147483647 : Int32)) % (100000 : Int32))), .val (.int ((p2 &&& (2147483647 : Int32)) % (100000 : Int32))), .val (.int L2), .val (.int B2), .val (.ref w1), .unset, .unset, .unset, .unset, .unset] [(.int (((p5.toUInt32 >>> ((2 : Int32) &&& 31).toUInt32).toInt32) &&& (3 : Int32)))])) _
    refine st8 _ ?_
    show Steps p.tables e below (T8.setTop (mkF m 78 #[.val (.int p1), .val (.int p2), .val (.int p3), .val (.int p4), .val (.int p5), .val (.int p6), .val (.int ((p1 &&& (2147483647 : Int32)) % (100000 : Int32))), .val (.int ((p2 &&& (2147483647 : Int32)) % (100000 : Int32))), .val (.int L2), .val (.int B2), .val (.ref w1), .unset, .unset, .unset, .unset, .unset] [(.ref w2)])) _
    refine XS.astore X8.here hx rfl (hb hby at_78) rfl rfl (l' := #[.val (.int p1), .val (.int p2), .val (.int p3), .val (.int p4), .val (.int p5), .val (.int p6), .val (.int ((p1 &&& (2147483647 : Int32)) % (100000 : Int32))), .val (.int ((p2 &&& (2147483647 : Int32)) % (100000 : Int32))), .val (.int L2), .val (.int B2), .val (.ref w1), .val (.ref w2), .unset, .unset, .unset, .unset]) rfl ?_
    show Steps p.tables e below (T8.setTop (mkF m 80 #[.val (.int p1), .val (.int p2), .val (.int p3), .val (.int p4), .val (.int p5), .val (.int p6), .val (.int ((p1 &&& (2147483647 : Int32)) % (100000 : Int32))), .val (.int ((p2 &&& (2147483647 : Int32)) % (100000 : Int32))), .val (.int L2), .val (.int B2), .val (.ref w1), .val (.ref w2), .unset, .unset, .unset, .unset] [])) _
    refine st9 _ ?_
    show Steps p.tables e below (T9.setTop (mkF m 83 #[.val (.int p1), .val (.int p2), .val (.int p3), .val (.int p4), .val (.int p5), .val (.int p6), .val (.int ((p1 &&& (2147483647 : Int32)) % (100000 : Int32))), .val (.int ((p2 &&& (2147483647 : Int32)) % (100000 : Int32))), .val (.int L2), .val (.int B2), .val (.ref w1), .val (.ref w2), .unset, .unset, .unset, .unset] [(.ref b9)])) _
    refine XS.dup X9.here hx rfl (hb hby at_83) rfl rfl ?_
    show Steps p.tables e below (T9.setTop (mkF m 84 #[.val (.int p1), .val (.int p2), .val (.int p3), .val (.int p4), .val (.int p5), .val (.int p6), .val (.int ((p1 &&& (2147483647 : Int32)) % (100000 : Int32))), .val (.int ((p2 &&& (2147483647 : Int32)) % (100000 : Int32))), .val (.int L2), .val (.int B2), .val (.ref w1), .val (.ref w2), .unset, .unset, .unset, .unset] [(.ref b9), (.ref b9)])) _
    refine XS.iload X9.here hx rfl (hb hby at_84) rfl ?_
    show Steps p.tables e below (T9.setTop (mkF m 86 #[.val (.int p1), .val (.int p2), .val (.int p3), .val (.int p4), .val (.int p5), .val (.int p6), .val (.int ((p1 &&& (2147483647 : Int32)) % (100000 : Int32))), .val (.int ((p2 &&& (2147483647 : Int32)) % (100000 : Int32))), .val (.int L2), .val (.int B2), .val (.ref w1), .val (.ref w2), .unset, .unset, .unset, .unset] [(.int ((p1 &&& (2147483647 : Int32)) % (100000 : Int32))), (.ref b9), (.ref b9)])) _
    refine XS.aload X9.here hx rfl (hb hby at_86) rfl rfl ?_
    show Steps p.tables e below (T9.setTop (mkF m 88 #[.val (.int p1), .val (.int p2), .val (.int p3), .val (.int p4), .val (.int p5), .val (.int p6), .val (.int ((p1 &&& (2147483647 : Int32)) % (100000 : Int32))), .val (.int ((p2 &&& (2147483647 : Int32)) % (100000 : Int32))), .val (.int L2), .val (.int B2), .val (.ref w1), .val (.ref w2), .unset, .unset, .unset, .unset] [(.ref w1), (.int ((p1 &&& (2147483647 : Int32)) % (100000 : Int32))), (.ref b9), (.ref b9)])) _
    refine XS.iload X9.here hx rfl (hb hby at_88) rfl ?_
    show Steps p.tables e below (T9.setTop (mkF m 90 #[.val (.int p1), .val (.int p2), .val (.int p3), .val (.int p4), .val (.int p5), .val (.int p6), .val (.int ((p1 &&& (2147483647 : Int32)) % (100000 : Int32))), .val (.int ((p2 &&& (2147483647 : Int32)) % (100000 : Int32))), .val (.int L2), .val (.int B2), .val (.ref w1), .val (.ref w2), .unset, .unset, .unset, .unset] [(.int ((p2 &&& (2147483647 : Int32)) % (100000 : Int32))), (.ref w1), (.int ((p1 &&& (2147483647 : Int32)) % (100000 : Int32))), (.ref b9), (.ref b9)])) _
    refine st10.trans ?_
    show Steps p.tables e below (T10.setTop (mkF m 93 #[.val (.int p1), .val (.int p2), .val (.int p3), .val (.int p4), .val (.int p5), .val (.int p6), .val (.int ((p1 &&& (2147483647 : Int32)) % (100000 : Int32))), .val (.int ((p2 &&& (2147483647 : Int32)) % (100000 : Int32))), .val (.int L2), .val (.int B2), .val (.ref w1), .val (.ref w2), .unset, .unset, .unset, .unset] [(.ref b9)])) _
    refine XS.astore X10.here hx rfl (hb hby at_93) rfl rfl (l' := #[.val (.int p1), .val (.int p2), .val (.int p3), .val (.int p4), .val (.int p5), .val (.int p6), .val (.int ((p1 &&& (2147483647 : Int32)) % (100000 : Int32))), .val (.int ((p2 &&& (2147483647 : Int32)) % (100000 : Int32))), .val (.int L2), .val (.int B2), .val (.ref w1), .val (.ref w2), .val (.ref b9), .unset, .unset, .unset]) rfl ?_
    show Steps p.tables e below (T10.setTop (mkF m 95 #[.val (.int p1), .val (.int p2), .val (.int p3), .val (.int p4), .val (.int p5), .val (.int p6), .val (.int ((p1 &&& (2147483647 : Int32)) % (100000 : Int32))), .val (.int ((p2 &&& (2147483647 : Int32)) % (100000 : Int32))), .val (.int L2), .val (.int B2), .val (.ref w1), .val (.ref w2), .val (.ref b9), .unset, .unset, .unset] [])) _
    refine XS.iload X10.here hx rfl (hb hby at_95) rfl ?_
    show Steps p.tables e below (T10.setTop (mkF m 97 #[.val (.int p1), .val (.int p2), .val (.int p3), .val (.int p4), .val (.int p5), .val (.int p6), .val (.int ((p1 &&& (2147483647 : Int32)) % (100000 : Int32))), .val (.int ((p2 &&& (2147483647 : Int32)) % (100000 : Int32))), .val (.int L2), .val (.int B2), .val (.ref w1), .val (.ref w2), .val (.ref b9), .unset, .unset, .unset] [(.int p6)])) _
    refine XS.iconst X10.here hx rfl (hb hby at_97) ?_
    show Steps p.tables e below (T10.setTop (mkF m 98 #[.val (.int p1), .val (.int p2), .val (.int p3), .val (.int p4), .val (.int p5), .val (.int p6), .val (.int ((p1 &&& (2147483647 : Int32)) % (100000 : Int32))), .val (.int ((p2 &&& (2147483647 : Int32)) % (100000 : Int32))), .val (.int L2), .val (.int B2), .val (.ref w1), .val (.ref w2), .val (.ref b9), .unset, .unset, .unset] [(.int (2 : Int32)), (.int p6)])) _
    refine XS.iushr X10.here hx rfl (hb hby at_98) rfl ?_
    show Steps p.tables e below (T10.setTop (mkF m 99 #[.val (.int p1), .val (.int p2), .val (.int p3), .val (.int p4), .val (.int p5), .val (.int p6), .val (.int ((p1 &&& (2147483647 : Int32)) % (100000 : Int32))), .val (.int ((p2 &&& (2147483647 : Int32)) % (100000 : Int32))), .val (.int L2), .val (.int B2), .val (.ref w1), .val (.ref w2), .val (.ref b9), .unset, .unset, .unset] [(.int ((p6.toUInt32 >>> ((2 : Int32) &&& 31).toUInt32).toInt32))])) _
    refine XS.iconst X10.here hx rfl (hb hby at_99) ?_
    show Steps p.tables e below (T10.setTop (mkF m 100 #[.val (.int p1), .val (.int p2), .val (.int p3), .val (.int p4), .val (.int p5), .val (.int p6), .val (.int ((p1 &&& (2147483647 : Int32)) % (100000 : Int32))), .val (.int ((p2 &&& (2147483647 : Int32)) % (100000 : Int32))), .val (.int L2), .val (.int B2), .val (.ref w1), .val (.ref w2), .val (.ref b9), .unset, .unset, .unset] [(.int (3 : Int32)), (.int ((p6.toUInt32 >>> ((2 : Int32) &&& 31).toUInt32).toInt32))])) _
    refine XS.iand X10.here hx rfl (hb hby at_100) rfl ?_
    show Steps p.tables e below (T10.setTop (mkF m 101 #[.val (.int p1), .val (.int p2), .val (.int p3), .val (.int p4), .val (.int p5), .val (.int p6), .val (.int ((p1 &&& (2147483647 : Int32)) % (100000 : Int32))), .val (.int ((p2 &&& (2147483647 : Int32)) % (100000 : Int32))), .val (.int L2), .val (.int B2), .val (.ref w1), .val (.ref w2), .val (.ref b9), .unset, .unset, .unset] [(.int (((p6.toUInt32 >>> ((2 : Int32) &&& 31).toUInt32).toInt32) &&& (3 : Int32)))])) _
    refine XS.istore X10.here hx rfl (hb hby at_101) rfl (l' := #[.val (.int p1), .val (.int p2), .val (.int p3), .val (.int p4), .val (.int p5), .val (.int p6), .val (.int ((p1 &&& (2147483647 : Int32)) % (100000 : Int32))), .val (.int ((p2 &&& (2147483647 : Int32)) % (100000 : Int32))), .val (.int L2), .val (.int B2), .val (.ref w1), .val (.ref w2), .val (.ref b9), .val (.int (((p6.toUInt32 >>> ((2 : Int32) &&& 31).toUInt32).toInt32) &&& (3 : Int32))), .unset, .unset]) rfl ?_
    show Steps p.tables e below (T10.setTop (mkF m 103 #[.val (.int p1), .val (.int p2), .val (.int p3), .val (.int p4), .val (.int p5), .val (.int p6), .val (.int ((p1 &&& (2147483647 : Int32)) % (100000 : Int32))), .val (.int ((p2 &&& (2147483647 : Int32)) % (100000 : Int32))), .val (.int L2), .val (.int B2), .val (.ref w1), .val (.ref w2), .val (.ref b9), .val (.int (((p6.toUInt32 >>> ((2 : Int32) &&& 31).toUInt32).toInt32) &&& (3 : Int32))), .unset, .unset] [])) _
    refine XS.iload X10.here hx rfl (hb hby at_103) rfl ?_
    show Steps p.tables e below (T10.setTop (mkF m 105 #[.val (.int p1), .val (.int p2), .val (.int p3), .val (.int p4), .val (.int p5), .val (.int p6), .val (.int ((p1 &&& (2147483647 : Int32)) % (100000 : Int32))), .val (.int ((p2 &&& (2147483647 : Int32)) % (100000 : Int32))), .val (.int L2), .val (.int B2), .val (.ref w1), .val (.ref w2), .val (.ref b9), .val (.int (((p6.toUInt32 >>> ((2 : Int32) &&& 31).toUInt32).toInt32) &&& (3 : Int32))), .unset, .unset] [(.int (((p6.toUInt32 >>> ((2 : Int32) &&& 31).toUInt32).toInt32) &&& (3 : Int32)))])) _
    refine XS.iconst X10.here hx rfl (hb hby at_105) ?_
    show Steps p.tables e below (T10.setTop (mkF m 106 #[.val (.int p1), .val (.int p2), .val (.int p3), .val (.int p4), .val (.int p5), .val (.int p6), .val (.int ((p1 &&& (2147483647 : Int32)) % (100000 : Int32))), .val (.int ((p2 &&& (2147483647 : Int32)) % (100000 : Int32))), .val (.int L2), .val (.int B2), .val (.ref w1), .val (.ref w2), .val (.ref b9), .val (.int (((p6.toUInt32 >>> ((2 : Int32) &&& 31).toUInt32).toInt32) &&& (3 : Int32))), .unset, .unset] [(.int (1 : Int32)), (.int (((p6.toUInt32 >>> ((2 : Int32) &&& 31).toUInt32).toInt32) &&& (3 : Int32)))])) _
    refine XS.icmpYes X10.here hx rfl (pc0 := 106) (pc' := 124) rfl (hb hby at_106) rfl (feq hc106).2 (by decide) (by decide) ?_
    show Steps p.tables e below (T10.setTop (mkF m 124 #[.val (.int p1), .val (.int p2), .val (.int p3), .val (.int p4), .val (.int p5), .val (.int p6), .val (.int ((p1 &&& (2147483647 : Int32)) % (100000 : Int32))), .val (.int ((p2 &&& (2147483647 : Int32)) % (100000 : Int32))), .val (.int L2), .val (.int B2), .val (.ref w1), .val (.ref w2), .val (.ref b9), .val (.int (((p6.toUInt32 >>> ((2 : Int32) &&& 31).toUInt32).toInt32) &&& (3 : Int32))), .unset, .unset] [])) _
    refine XS.iload X10.here hx rfl (hb hby at_124) rfl ?_
    show Steps p.tables e below (T10.setTop (mkF m 126 #[.val (.int p1), .val (.int p2), .val (.int p3), .val (.int p4), .val (.int p5), .val (.int p6), .val (.int ((p1 &&& (2147483647 : Int32)) % (100000 : Int32))), .val (.int ((p2 &&& (2147483647 : Int32)) % (100000 : Int32))), .val (.int L2), .val (.int B2), .val (.ref w1), .val (.ref w2), .val (.ref b9), .val (.int (((p6.toUInt32 >>> ((2 : Int32) &&& 31).toUInt32).toInt32) &&& (3 : Int32))), .unset, .unset] [(.int (((p6.toUInt32 >>> ((2 : Int32) &&& 31).toUInt32).toInt32) &&& (3 : Int32)))])) _
    refine XS.iconst X10.here hx rfl (hb hby at_126) ?_
    show Steps p.tables e below (T10.setTop (mkF m 127 #[.val (.int p1), .val (.int p2), .val (.int p3), .val (.int p4), .val (.int p5), .val (.int p6), .val (.int ((p1 &&& (2147483647 : Int32)) % (100000 : Int32))), .val (.int ((p2 &&& (2147483647 : Int32)) % (100000 : Int32))), .val (.int L2), .val (.int B2), .val (.ref w1), .val (.ref w2), .val (.ref b9), .val (.int (((p6.toUInt32 >>> ((2 : Int32) &&& 31).toUInt32).toInt32) &&& (3 : Int32))), .unset, .unset] [(.int (2 : Int32)), (.int (((p6.toUInt32 >>> ((2 : Int32) &&& 31).toUInt32).toInt32) &&& (3 : Int32)))])) _
    refine XS.icmpYes X10.here hx rfl (pc0 := 127) (pc' := 153) rfl (hb hby at_127) rfl (feq hc127).2 (by decide) (by decide) ?_
    show Steps p.tables e below (T10.setTop (mkF m 153 #[.val (.int p1), .val (.int p2), .val (.int p3), .val (.int p4), .val (.int p5), .val (.int p6), .val (.int ((p1 &&& (2147483647 : Int32)) % (100000 : Int32))), .val (.int ((p2 &&& (2147483647 : Int32)) % (100000 : Int32))), .val (.int L2), .val (.int B2), .val (.ref w1), .val (.ref w2), .val (.ref b9), .val (.int (((p6.toUInt32 >>> ((2 : Int32) &&& 31).toUInt32).toInt32) &&& (3 : Int32))), .unset, .unset] [])) _
    refine XS.iload X10.here hx rfl (hb hby at_153) rfl ?_
    show Steps p.tables e below (T10.setTop (mkF m 155 #[.val (.int p1), .val (.int p2), .val (.int p3), .val (.int p4), .val (.int p5), .val (.int p6), .val (.int ((p1 &&& (2147483647 : Int32)) % (100000 : Int32))), .val (.int ((p2 &&& (2147483647 : Int32)) % (100000 : Int32))), .val (.int L2), .val (.int B2), .val (.ref w1), .val (.ref w2), .val (.ref b9), .val (.int (((p6.toUInt32 >>> ((2 : Int32) &&& 31).toUInt32).toInt32) &&& (3 : Int32))), .unset, .unset] [(.int (((p6.toUInt32 >>> ((2 : Int32) &&& 31).toUInt32).toInt32) &&& (3 : Int32)))])) _
    refine XS.iconst X10.here hx rfl (hb hby at_155) ?_
    show Steps p.tables e below (T10.setTop (mkF m 156 #[.val (.int p1), .val (.int p2), .val (.int p3), .val (.int p4), .val (.int p5), .val (.int p6), .val (.int ((p1 &&& (2147483647 : Int32)) % (100000 : Int32))), .val (.int ((p2 &&& (2147483647 : Int32)) % (100000 : Int32))), .val (.int L2), .val (.int B2), .val (.ref w1), .val (.ref w2), .val (.ref b9), .val (.int (((p6.toUInt32 >>> ((2 : Int32) &&& 31).toUInt32).toInt32) &&& (3 : Int32))), .unset, .unset] [(.int (3 : Int32)), (.int (((p6.toUInt32 >>> ((2 : Int32) &&& 31).toUInt32).toInt32) &&& (3 : Int32)))])) _
    refine XS.icmpYes X10.here hx rfl (pc0 := 156) (pc' := 167) rfl (hb hby at_156) rfl (feq hc156).2 (by decide) (by decide) ?_
    show Steps p.tables e below (T10.setTop (mkF m 167 #[.val (.int p1), .val (.int p2), .val (.int p3), .val (.int p4), .val (.int p5), .val (.int p6), .val (.int ((p1 &&& (2147483647 : Int32)) % (100000 : Int32))), .val (.int ((p2 &&& (2147483647 : Int32)) % (100000 : Int32))), .val (.int L2), .val (.int B2), .val (.ref w1), .val (.ref w2), .val (.ref b9), .val (.int (((p6.toUInt32 >>> ((2 : Int32) &&& 31).toUInt32).toInt32) &&& (3 : Int32))), .unset, .unset] [])) _
    refine st11 _ ?_
    show Steps p.tables e below (T11.setTop (mkF m 170 #[.val (.int p1), .val (.int p2), .val (.int p3), .val (.int p4), .val (.int p5), .val (.int p6), .val (.int ((p1 &&& (2147483647 : Int32)) % (100000 : Int32))), .val (.int ((p2 &&& (2147483647 : Int32)) % (100000 : Int32))), .val (.int L2), .val (.int B2), .val (.ref w1), .val (.ref w2), .val (.ref b9), .val (.int (((p6.toUInt32 >>> ((2 : Int32) &&& 31).toUInt32).toInt32) &&& (3 : Int32))), .unset, .unset] [(.ref b11)])) _
    refine XS.dup X11.here hx rfl (hb hby at_170) rfl rfl ?_
    show Steps p.tables e below (T11.setTop (mkF m 171 #[.val (.int p1), .val (.int p2), .val (.int p3), .val (.int p4), .val (.int p5), .val (.int p6), .val (.int ((p1 &&& (2147483647 : Int32)) % (100000 : Int32))), .val (.int ((p2 &&& (2147483647 : Int32)) % (100000 : Int32))), .val (.int L2), .val (.int B2), .val (.ref w1), .val (.ref w2), .val (.ref b9), .val (.int (((p6.toUInt32 >>> ((2 : Int32) &&& 31).toUInt32).toInt32) &&& (3 : Int32))), .unset, .unset] [(.ref b11), (.ref b11)])) _
    refine XS.iload X11.here hx rfl (hb hby at_171) rfl ?_
    show Steps p.tables e below (T11.setTop (mkF m 173 #[.val (.int p1), .val (.int p2), .val (.int p3), .val (.int p4), .val (.int p5), .val (.int p6), .val (.int ((p1 &&& (2147483647 : Int32)) % (100000 : Int32))), .val (.int ((p2 &&& (2147483647 : Int32)) % (100000 : Int32))), .val (.int L2), .val (.int B2), .val (.ref w1), .val (.ref w2), .val (.ref b9), .val (.int (((p6.toUInt32 >>> ((2 : Int32) &&& 31).toUInt32).toInt32) &&& (3 : Int32))), .unset, .unset] [(.int L2), (.ref b11), (.ref b11)])) _
    refine XS.aload X11.here hx rfl (hb hby at_173) rfl rfl ?_
    show Steps p.tables e below (T11.setTop (mkF m 175 #[.val (.int p1), .val (.int p2), .val (.int p3), .val (.int p4), .val (.int p5), .val (.int p6), .val (.int ((p1 &&& (2147483647 : Int32)) % (100000 : Int32))), .val (.int ((p2 &&& (2147483647 : Int32)) % (100000 : Int32))), .val (.int L2), .val (.int B2), .val (.ref w1), .val (.ref w2), .val (.ref b9), .val (.int (((p6.toUInt32 >>> ((2 : Int32) &&& 31).toUInt32).toInt32) &&& (3 : Int32))), .unset, .unset] [(.ref w2), (.int L2), (.ref b11), (.ref b11)])) _
    refine XS.iload X11.here hx rfl (hb hby at_175) rfl ?_
    show Steps p.tables e below (T11.setTop (mkF m 177 #[.val (.int p1), .val (.int p2), .val (.int p3), .val (.int p4), .val (.int p5), .val (.int p6), .val (.int ((p1 &&& (2147483647 : Int32)) % (100000 : Int32))), .val (.int ((p2 &&& (2147483647 : Int32)) % (100000 : Int32))), .val (.int L2), .val (.int B2), .val (.ref w1), .val (.ref w2), .val (.ref b9), .val (.int (((p6.toUInt32 >>> ((2 : Int32) &&& 31).toUInt32).toInt32) &&& (3 : Int32))), .unset, .unset] [(.int B2), (.ref w2), (.int L2), (.ref b11), (.ref b11)])) _
    refine st12.trans ?_
    show Steps p.tables e below (T12.setTop (mkF m 180 #[.val (.int p1), .val (.int p2), .val (.int p3), .val (.int p4), .val (.int p5), .val (.int p6), .val (.int ((p1 &&& (2147483647 : Int32)) % (100000 : Int32))), .val (.int ((p2 &&& (2147483647 : Int32)) % (100000 : Int32))), .val (.int L2), .val (.int B2), .val (.ref w1), .val (.ref w2), .val (.ref b9), .val (.int (((p6.toUInt32 >>> ((2 : Int32) &&& 31).toUInt32).toInt32) &&& (3 : Int32))), .unset, .unset] [(.ref b11)])) _
    refine XS.astore X12.here hx rfl (hb hby at_180) rfl rfl (l' := #[.val (.int p1), .val (.int p2), .val (.int p3), .val (.int p4), .val (.int p5), .val (.int p6), .val (.int ((p1 &&& (2147483647 : Int32)) % (100000 : Int32))), .val (.int ((p2 &&& (2147483647 : Int32)) % (100000 : Int32))), .val (.int L2), .val (.int B2), .val (.ref w1), .val (.ref w2), .val (.ref b9), .val (.int (((p6.toUInt32 >>> ((2 : Int32) &&& 31).toUInt32).toInt32) &&& (3 : Int32))), .val (.ref b11), .unset]) rfl ?_
    show Steps p.tables e below (T12.setTop (mkF m 182 #[.val (.int p1), .val (.int p2), .val (.int p3), .val (.int p4), .val (.int p5), .val (.int p6), .val (.int ((p1 &&& (2147483647 : Int32)) % (100000 : Int32))), .val (.int ((p2 &&& (2147483647 : Int32)) % (100000 : Int32))), .val (.int L2), .val (.int B2), .val (.ref w1), .val (.ref w2), .val (.ref b9), .val (.int (((p6.toUInt32 >>> ((2 : Int32) &&& 31).toUInt32).toInt32) &&& (3 : Int32))), .val (.ref b11), .unset] [])) _
    refine XS.iload X12.here hx rfl (hb hby at_182) rfl ?_
    show Steps p.tables e below (T12.setTop (mkF m 184 #[.val (.int p1), .val (.int p2), .val (.int p3), .val (.int p4), .val (.int p5), .val (.int p6), .val (.int ((p1 &&& (2147483647 : Int32)) % (100000 : Int32))), .val (.int ((p2 &&& (2147483647 : Int32)) % (100000 : Int32))), .val (.int L2), .val (.int B2), .val (.ref w1), .val (.ref w2), .val (.ref b9), .val (.int (((p6.toUInt32 >>> ((2 : Int32) &&& 31).toUInt32).toInt32) &&& (3 : Int32))), .val (.ref b11), .unset] [(.int ((p1 &&& (2147483647 : Int32)) % (100000 : Int32)))])) _
    refine XS.iload X12.here hx rfl (hb hby at_184) rfl ?_
    show Steps p.tables e below (T12.setTop (mkF m 186 #[.val (.int p1), .val (.int p2), .val (.int p3), .val (.int p4), .val (.int p5), .val (.int p6), .val (.int ((p1 &&& (2147483647 : Int32)) % (100000 : Int32))), .val (.int ((p2 &&& (2147483647 : Int32)) % (100000 : Int32))), .val (.int L2), .val (.int B2), .val (.ref w1), .val (.ref w2), .val (.ref b9), .val (.int (((p6.toUInt32 >>> ((2 : Int32) &&& 31).toUInt32).toInt32) &&& (3 : Int32))), .val (.ref b11), .unset] [(.int L2), (.int ((p1 &&& (2147483647 : Int32)) % (100000 : Int32)))])) _
    refine XS.icmpYes X12.here hx rfl (pc0 := 186) (pc' := 207) rfl (hb hby at_186) rfl (feq hc186).2 (by decide) (by decide) ?_
    show Steps p.tables e below (T12.setTop (mkF m 207 #[.val (.int p1), .val (.int p2), .val (.int p3), .val (.int p4), .val (.int p5), .val (.int p6), .val (.int ((p1 &&& (2147483647 : Int32)) % (100000 : Int32))), .val (.int ((p2 &&& (2147483647 : Int32)) % (100000 : Int32))), .val (.int L2), .val (.int B2), .val (.ref w1), .val (.ref w2), .val (.ref b9), .val (.int (((p6.toUInt32 >>> ((2 : Int32) &&& 31).toUInt32).toInt32) &&& (3 : Int32))), .val (.ref b11), .unset] [])) _
    refine XS.iconst X12.here hx rfl (hb hby at_207) ?_
    show Steps p.tables e below (T12.setTop (mkF m 208 #[.val (.int p1), .val (.int p2), .val (.int p3), .val (.int p4), .val (.int p5), .val (.int p6), .val (.int ((p1 &&& (2147483647 : Int32)) % (100000 : Int32))), .val (.int ((p2 &&& (2147483647 : Int32)) % (100000 : Int32))), .val (.int L2), .val (.int B2), .val (.ref w1), .val (.ref w2), .val (.ref b9), .val (.int (((p6.toUInt32 >>> ((2 : Int32) &&& 31).toUInt32).toInt32) &&& (3 : Int32))), .val (.ref b11), .unset] [(.int (0 : Int32))])) _
    refine XS.istore X12.here hx rfl (hb hby at_208) rfl (l' := #[.val (.int p1), .val (.int p2), .val (.int p3), .val (.int p4), .val (.int p5), .val (.int p6), .val (.int ((p1 &&& (2147483647 : Int32)) % (100000 : Int32))), .val (.int ((p2 &&& (2147483647 : Int32)) % (100000 : Int32))), .val (.int L2), .val (.int B2), .val (.ref w1), .val (.ref w2), .val (.ref b9), .val (.int (((p6.toUInt32 >>> ((2 : Int32) &&& 31).toUInt32).toInt32) &&& (3 : Int32))), .val (.ref b11), .val (.int (0 : Int32))]) rfl ?_
    show Steps p.tables e below (T12.setTop (mkF m 210 #[.val (.int p1), .val (.int p2), .val (.int p3), .val (.int p4), .val (.int p5), .val (.int p6), .val (.int ((p1 &&& (2147483647 : Int32)) % (100000 : Int32))), .val (.int ((p2 &&& (2147483647 : Int32)) % (100000 : Int32))), .val (.int L2), .val (.int B2), .val (.ref w1), .val (.ref w2), .val (.ref b9), .val (.int (((p6.toUInt32 >>> ((2 : Int32) &&& 31).toUInt32).toInt32) &&& (3 : Int32))), .val (.ref b11), .val (.int (0 : Int32))] [])) _
    refine XS.aload X12.here hx rfl (hb hby at_210) rfl rfl ?_
    show Steps p.tables e below (T12.setTop (mkF m 212 #[.val (.int p1), .val (.int p2), .val (.int p3), .val (.int p4), .val (.int p5), .val (.int p6), .val (.int ((p1 &&& (2147483647 : Int32)) % (100000 : Int32))), .val (.int ((p2 &&& (2147483647 : Int32)) % (100000 : Int32))), .val (.int L2), .val (.int B2), .val (.ref w1), .val (.ref w2), .val (.ref b9), .val (.int (((p6.toUInt32 >>> ((2 : Int32) &&& 31).toUInt32).toInt32) &&& (3 : Int32))), .val (.ref b11), .val (.int (0 : Int32))] [(.ref b9)])) _
    refine XS.aload X12.here hx rfl (hb hby at_212) rfl rfl ?_
    show Steps p.tables e below (T12.setTop (mkF m 214 #[.val (.int p1), .val (.int p2), .val (.int p3), .val (.int p4), .val (.int p5), .val (.int p6), .val (.int ((p1 &&& (2147483647 : Int32)) % (100000 : Int32))), .val (.int ((p2 &&& (2147483647 : Int32)) % (100000 : Int32))), .val (.int L2), .val (.int B2), .val (.ref w1), .val (.ref w2), .val (.ref b9), .val (.int (((p6.toUInt32 >>> ((2 : Int32) &&& 31).toUInt32).toInt32) &&& (3 : Int32))), .val (.ref b11), .val (.int (0 : Int32))] [(.ref b11), (.ref b9)])) _
    refine st13.trans ?_
    show Steps p.tables e below (T13.setTop (mkF m 217 #[.val (.int p1), .val (.int p2), .val (.int p3), .val (.int p4), .val (.int p5), .val (.int p6), .val (.int ((p1 &&& (2147483647 : Int32)) % (100000 : Int32))), .val (.int ((p2 &&& (2147483647 : Int32)) % (100000 : Int32))), .val (.int L2), .val (.int B2), .val (.ref w1), .val (.ref w2), .val (.ref b9), .val (.int (((p6.toUInt32 >>> ((2 : Int32) &&& 31).toUInt32).toInt32) &&& (3 : Int32))), .val (.ref b11), .val (.int (0 : Int32))] [(.int (0 : Int32))])) _
    refine XS.iload X13.here hx rfl (hb hby at_217) rfl ?_
    show Steps p.tables e below (T13.setTop (mkF m 219 #[.val (.int p1), .val (.int p2), .val (.int p3), .val (.int p4), .val (.int p5), .val (.int p6), .val (.int ((p1 &&& (2147483647 : Int32)) % (100000 : Int32))), .val (.int ((p2 &&& (2147483647 : Int32)) % (100000 : Int32))), .val (.int L2), .val (.int B2), .val (.ref w1), .val (.ref w2), .val (.ref b9), .val (.int (((p6.toUInt32 >>> ((2 : Int32) &&& 31).toUInt32).toInt32) &&& (3 : Int32))), .val (.ref b11), .val (.int (0 : Int32))] [(.int (0 : Int32)), (.int (0 : Int32))])) _
    refine XS.icmpNo X13.here hx rfl (hb hby at_219) rfl (teq (rfl : (0 : Int32) = (0 : Int32))).2 ?_
    show Steps p.tables e below (T13.setTop (mkF m 222 #[.val (.int p1), .val (.int p2), .val (.int p3), .val (.int p4), .val (.int p5), .val (.int p6), .val (.int ((p1 &&& (2147483647 : Int32)) % (100000 : Int32))), .val (.int ((p2 &&& (2147483647 : Int32)) % (100000 : Int32))), .val (.int L2), .val (.int B2), .val (.ref w1), .val (.ref w2), .val (.ref b9), .val (.int (((p6.toUInt32 >>> ((2 : Int32) &&& 31).toUInt32).toInt32) &&& (3 : Int32))), .val (.ref b11), .val (.int (0 : Int32))] [])) _
    refine XS.aload X13.here hx rfl (hb hby at_222) rfl rfl ?_
    show Steps p.tables e below (T13.setTop (mkF m 224 #[.val (.int p1), .val (.int p2), .val (.int p3), .val (.int p4), .val (.int p5), .val (.int p6), .val (.int ((p1 &&& (2147483647 : Int32)) % (100000 : Int32))), .val (.int ((p2 &&& (2147483647 : Int32)) % (100000 : Int32))), .val (.int L2), .val (.int B2), .val (.ref w1), .val (.ref w2), .val (.ref b9), .val (.int (((p6.toUInt32 >>> ((2 : Int32) &&& 31).toUInt32).toInt32) &&& (3 : Int32))), .val (.ref b11), .val (.int (0 : Int32))] [(.ref b11)])) _
    refine XS.aload X13.here hx rfl (hb hby at_224) rfl rfl ?_
    show Steps p.tables e below (T13.setTop (mkF m 226 #[.val (.int p1), .val (.int p2), .val (.int p3), .val (.int p4), .val (.int p5), .val (.int p6), .val (.int ((p1 &&& (2147483647 : Int32)) % (100000 : Int32))), .val (.int ((p2 &&& (2147483647 : Int32)) % (100000 : Int32))), .val (.int L2), .val (.int B2), .val (.ref w1), .val (.ref w2), .val (.ref b9), .val (.int (((p6.toUInt32 >>> ((2 : Int32) &&& 31).toUInt32).toInt32) &&& (3 : Int32))), .val (.ref b11), .val (.int (0 : Int32))] [(.ref b9), (.ref b11)])) _
    refine st14.trans ?_
    show Steps p.tables e below (T14.setTop (mkF m 229 #[.val (.int p1), .val (.int p2), .val (.int p3), .val (.int p4), .val (.int p5), .val (.int p6), .val (.int ((p1 &&& (2147483647 : Int32)) % (100000 : Int32))), .val (.int ((p2 &&& (2147483647 : Int32)) % (100000 : Int32))), .val (.int L2), .val (.int B2), .val (.ref w1), .val (.ref w2), .val (.ref b9), .val (.int (((p6.toUInt32 >>> ((2 : Int32) &&& 31).toUInt32).toInt32) &&& (3 : Int32))), .val (.ref b11), .val (.int (0 : Int32))] [(.int (0 : Int32))])) _
    refine XS.iload X14.here hx rfl (hb hby at_229) rfl ?_
    show Steps p.tables e below (T14.setTop (mkF m 231 #[.val (.int p1), .val (.int p2), .val (.int p3), .val (.int p4), .val (.int p5), .val (.int p6), .val (.int ((p1 &&& (2147483647 : Int32)) % (100000 : Int32))), .val (.int ((p2 &&& (2147483647 : Int32)) % (100000 : Int32))), .val (.int L2), .val (.int B2), .val (.ref w1), .val (.ref w2), .val (.ref b9), .val (.int (((p6.toUInt32 >>> ((2 : Int32) &&& 31).toUInt32).toInt32) &&& (3 : Int32))), .val (.ref b11), .val (.int (0 : Int32))] [(.int (0 : Int32)), (.int (0 : Int32))])) _
    refine XS.icmpNo X14.here hx rfl (hb hby at_231) rfl (teq (rfl : (0 : Int32) = (0 : Int32))).2 ?_
    show Steps p.tables e below (T14.setTop (mkF m 234 #[.val (.int p1), .val (.int p2), .val (.int p3), .val (.int p4), .val (.int p5), .val (.int p6), .val (.int ((p1 &&& (2147483647 : Int32)) % (100000 : Int32))), .val (.int ((p2 &&& (2147483647 : Int32)) % (100000 : Int32))), .val (.int L2), .val (.int B2), .val (.ref w1), .val (.ref w2), .val (.ref b9), .val (.int (((p6.toUInt32 >>> ((2 : Int32) &&& 31).toUInt32).toInt32) &&& (3 : Int32))), .val (.ref b11), .val (.int (0 : Int32))] [])) _
    refine XS.iconst X14.here hx rfl (hb hby at_234) ?_
    show Steps p.tables e below (T14.setTop (mkF m 235 #[.val (.int p1), .val (.int p2), .val (.int p3), .val (.int p4), .val (.int p5), .val (.int p6), .val (.int ((p1 &&& (2147483647 : Int32)) % (100000 : Int32))), .val (.int ((p2 &&& (2147483647 : Int32)) % (100000 : Int32))), .val (.int L2), .val (.int B2), .val (.ref w1), .val (.ref w2), .val (.ref b9), .val (.int (((p6.toUInt32 >>> ((2 : Int32) &&& 31).toUInt32).toInt32) &&& (3 : Int32))), .val (.ref b11), .val (.int (0 : Int32))] [(.int (1 : Int32))])) _
    refine XS.goto X14.here hx rfl (pc0 := 235) (pc' := 239) rfl (hb hby at_235) (by decide) (by decide) ?_
    show Steps p.tables e below (T14.setTop (mkF m 239 #[.val (.int p1), .val (.int p2), .val (.int p3), .val (.int p4), .val (.int p5), .val (.int p6), .val (.int ((p1 &&& (2147483647 : Int32)) % (100000 : Int32))), .val (.int ((p2 &&& (2147483647 : Int32)) % (100000 : Int32))), .val (.int L2), .val (.int B2), .val (.ref w1), .val (.ref w2), .val (.ref b9), .val (.int (((p6.toUInt32 >>> ((2 : Int32) &&& 31).toUInt32).toInt32) &&& (3 : Int32))), .val (.ref b11), .val (.int (0 : Int32))] [(.int (1 : Int32))])) _
    exact retN X14 hx (t := .boolean) Bd.returns (by simp) (hb hby at_239) hr
  · show Q0 h0 n0 _ T14.heap _
    rw [eq14]
    exact ⟨rfl, N14⟩
set_option maxRecDepth 65536 in
set_option maxHeartbeats 40000000 in
theorem rm0_tttftff (l : Launch) (Z : State) (a0 : Array Value) (hw : ∀ d ∈ tables_1, d.before a0 Z = true) (ws : List Jvm.Cond) (p1 : Int32) (p2 : Int32) (p3 : Int32) (p4 : Int32) (p5 : Int32) (p6 : Int32) (L2 : Int32) (B2 : Int32) (w1 w2 : Addr) (wC : Int32) (h0 : Heap) (n0 : Nat) (Z0 : n0 ≤ h0.size) (HL : (((p6 &&& (1 : Int32)) = (0 : Int32) ∧ L2 = (p3 &&& (2147483647 : Int32)) % (100000 : Int32)) ∨ (¬ (p6 &&& (1 : Int32)) = (0 : Int32) ∧ L2 = ((p1 &&& (2147483647 : Int32)) % (100000 : Int32))))) (HB : (((p6 &&& (2 : Int32)) = (0 : Int32) ∧ B2 = (p4 &&& (2147483647 : Int32)) % (100000 : Int32)) ∨ (¬ (p6 &&& (2 : Int32)) = (0 : Int32) ∧ B2 = ((p2 &&& (2147483647 : Int32)) % (100000 : Int32))))) (H1 : ((p5 &&& (3 : Int32)) = 0 ∧ Sta Z h0 "com/example/fieldwright/fieldwright/mater/RecordLabel$Status" "NEW" "Lcom/example/fieldwright/fieldwright/mater/RecordLabel$Status;" (.ref w1)) ∨ ((p5 &&& (3 : Int32)) = 1 ∧ Sta Z h0 "com/example/fieldwright/fieldwright/mater/RecordLabel$Status" "AMENDED" "Lcom/example/fieldwright/fieldwright/mater/RecordLabel$Status;" (.ref w1)) ∨ ((p5 &&& (3 : Int32)) = 2 ∧ Sta Z h0 "com/example/fieldwright/fieldwright/mater/RecordLabel$Status" "DELETED" "Lcom/example/fieldwright/fieldwright/mater/RecordLabel$Status;" (.ref w1)) ∨ ((p5 &&& (3 : Int32)) = 3 ∧ Sta Z h0 "com/example/fieldwright/fieldwright/mater/RecordLabel$Status" "INFORMATION" "Lcom/example/fieldwright/fieldwright/mater/RecordLabel$Status;" (.ref w1))) (H2 : ((((p5.toUInt32 >>> ((2 : Int32) &&& 31).toUInt32).toInt32) &&& (3 : Int32)) = 0 ∧ Sta Z h0 "com/example/fieldwright/fieldwright/mater/RecordLabel$Status" "NEW" "Lcom/example/fieldwright/fieldwright/mater/RecordLabel$Status;" (.ref w2)) ∨ ((((p5.toUInt32 >>> ((2 : Int32) &&& 31).toUInt32).toInt32) &&& (3 : Int32)) = 1 ∧ Sta Z h0 "com/example/fieldwright/fieldwright/mater/RecordLabel$Status" "AMENDED" "Lcom/example/fieldwright/fieldwright/mater/RecordLabel$Status;" (.ref w2)) ∨ ((((p5.toUInt32 >>> ((2 : Int32) &&& 31).toUInt32).toInt32) &&& (3 : Int32)) = 2 ∧ Sta Z h0 "com/example/fieldwright/fieldwright/mater/RecordLabel$Status" "DELETED" "Lcom/example/fieldwright/fieldwright/mater/RecordLabel$Status;" (.ref w2)) ∨ ((((p5.toUInt32 >>> ((2 : Int32) &&& 31).toUInt32).toInt32) &&& (3 : Int32)) = 3 ∧ Sta Z h0 "com/example/fieldwright/fieldwright/mater/RecordLabel$Status" "INFORMATION" "Lcom/example/fieldwright/fieldwright/mater/RecordLabel$Status;" (.ref w2))) (E1 : Exa Z h0 w1 "com/example/fieldwright/fieldwright/mater/RecordLabel$Status") (E2 : Exa Z h0 w2 "com/example/fieldwright/fieldwright/mater/RecordLabel$Status") (SC : Sta Z h0 "java/lang/String" "COMPACT_STRINGS" "Z" (.int wC)) (hC : ¬ (wC = (0 : Int32))) (RL : ¬ (L2 < (0 : Int32)) ∧ ¬ ((99999 : Int32) < L2)) (RB : ¬ (B2 < (0 : Int32)) ∧ ¬ ((99999 : Int32) < B2)) (hc106 : ¬ ((((p6.toUInt32 >>> ((2 : Int32) &&& 31).toUInt32).toInt32) &&& (3 : Int32)) = (1 : Int32))) (hc127 : ¬ ((((p6.toUInt32 >>> ((2 : Int32) &&& 31).toUInt32).toInt32) &&& (3 : Int32)) = (2 : Int32))) (hc156 : ¬ ((((p6.toUInt32 >>> ((2 : Int32) &&& 31).toUInt32).toInt32) &&& (3 : Int32)) = (3 : Int32))) (hc186 : ((p1 &&& (2147483647 : Int32)) % (100000 : Int32)) = L2) (ha193 : ¬ (w1 = w2)) :
    MetFree l x (head1 (Jvm.Cond.code x code maxLocals ret :: ws) room_1) (fun a U => a = #[(.int p1), (.int p2), (.int p3), (.int p4), (.int p5), (.int p6)] ∧ Z.Warmed39 U.vm ∧ U.heap = h0) (fun _ _ _ _ _ => True) (fun _ U o U' => ∃ v L, o = .returned v ∧ Q0 h0 n0 v U'.heap L ∧ ReturnedEndW U o U' L room_1.cells room_1.slots) := by
  refine MetFree.of_bodySF (plainFor_of_name pn_0) hisR ?_
  intro p e s m args below meth c s₁ Bd hml0 hP hK
  obtain ⟨rfl, hZ, hh⟩ := hP
  have hx := Bd.exec
  have hby := Bd.bytes
  have hml : c.maxLocals = 16 := hml0
  have hown : s.vm.findClass "com/example/fieldwright/fieldwright/mater/RecordLabelEqualsPinLaw" = some m.cls := findClass_of_methodNamed Bd.named
  have hnm := (name_of_methodNamed Bd.named Bd.method).1
  have X0 : Stand p l e room_1 s m #[(.int p1), (.int p2), (.int p3), (.int p4), (.int p5), (.int p6)] below meth c s₁ [] 0 0 := Stand.of_body Bd
  have e0 : s₁.heap = h0 := by rw [← hh, Bd.state]; rfl
  have N0 := Fr.nil n0
  have pre0 : ∀ t, Steps p.tables e below (s₁.setTop (mkF m 0 #[.val (.int p1), .val (.int p2), .val (.int p3), .val (.int p4), .val (.int p5), .val (.int p6), .unset, .unset, .unset, .unset, .unset, .unset, .unset, .unset, .unset, .unset] [])) t → Steps p.tables e below (s₁.setTop (entryFrame m #[(.int p1), (.int p2), (.int p3), (.int p4), (.int p5), (.int p6)] maxLocals)) t := fun t k => castTop (ef_0 m p1 p2 p3 p4 p5 p6) k
  have hne : ¬ (((p1 &&& (2147483647 : Int32)) % (100000 : Int32)) = L2 ∧ w1 = w2 ∧ ((p2 &&& (2147483647 : Int32)) % (100000 : Int32)) = B2) := fun q => ha193 q.2.1
  have hZ00 := hZ
  have hown00 := hown
  have hS : s.Since s.vm h0.size := (State.WarmedH.refl s).since _
  have hk : h0.size ≤ h0.size := Nat.le_refl _
  obtain ⟨_, _, ⟨T7, L7, k7, n7⟩, -, X7, ⟨Lc7, hQ7, l7, y7, z7⟩, st7⟩ := Jvm.LawKit.callS X0 hx (y := (⟨"com/example/fieldwright/fieldwright/mater/RecordLabelEqualsPinLaw", "status", "(I)Lcom/example/fieldwright/fieldwright/mater/RecordLabel$Status;"⟩ : MethodName)) hown (mvT hZ (hw _ (List.mem_of_getElem? (i := 2) rfl))) (mvT hZ (hw _ (List.mem_of_getElem? (i := 3) rfl))) (mvT hZ (hw _ (List.mem_of_getElem? (i := 4) rfl))) (mvT hZ (hw _ (List.mem_of_getElem? (i := 5) rfl))) (by decide) (backOf (W := 0) (rm1 l Z a0 hw [] (p5 &&& (3 : Int32)) w1 h0 n0 Z0 H1) hZ (hw _ (List.mem_of_getElem? (i := 5) rfl)) (hw _ (List.mem_of_getElem? (i := 4) rfl)) (by decide) (by decide)) (g := (mkF m 64 #[.val (.int p1), .val (.int p2), .val (.int p3), .val (.int p4), .val (.int p5), .val (.int p6), .val (.int ((p1 &&& (2147483647 : Int32)) % (100000 : Int32))), .val (.int ((p2 &&& (2147483647 : Int32)) % (100000 : Int32))), .val (.int L2), .val (.int B2), .unset, .unset, .unset, .unset, .unset, .unset] [(.int (p5 &&& (3 : Int32)))])) rfl (by rw [hml]; rfl) (argsL := [(.int (p5 &&& (3 : Int32)))]) (rest := []) (lenOf pd_0_0 rfl) rfl (by show 2 * 0 + _ ≤ _; exact Nat.le_of_eq rfl) (hb hby at_64) (fun _ _ => ⟨rfl, e0, (by decide : 0 + 0 ≤ _), (by decide : 0 + 0 ≤ _)⟩)
  dsimp only [Pt.U, Pt.locs, Pt.cells, Pt.slots] at X7 l7 y7 z7 st7 hQ7
  subst l7 y7 z7
  obtain ⟨rfl, N7q, eq7⟩ := hQ7
  have N7 := Fr.app N0 N7q
  obtain ⟨_, _, ⟨T8, L8, k8, n8⟩, -, X8, ⟨Lc8, hQ8, l8, y8, z8⟩, st8⟩ := Jvm.LawKit.callS X7 hx (y := (⟨"com/example/fieldwright/fieldwright/mater/RecordLabelEqualsPinLaw", "status", "(I)Lcom/example/fieldwright/fieldwright/mater/RecordLabel$Status;"⟩ : MethodName)) hown (mvT hZ (hw _ (List.mem_of_getElem? (i := 2) rfl))) (mvT hZ (hw _ (List.mem_of_getElem? (i := 3) rfl))) (mvT hZ (hw _ (List.mem_of_getElem? (i := 4) rfl))) (mvT hZ (hw _ (List.mem_of_getElem? (i := 5) rfl))) (by decide) (backOf (W := 0) (rm1 l Z a0 hw [] (((p5.toUInt32 >>> ((2 : Int32) &&& 31).toUInt32).toInt32) &&& (3 : Int32)) w2 h0 n0 Z0 H2) hZ (hw _ (List.mem_of_getElem? (i := 5) rfl)) (hw _ (List.mem_of_getElem? (i := 4) rfl)) (by decide) (by decide)) (g := (mkF m 75 #[.val (.int p1), .val (.int p2), .val (.int p3), .val (.int p4), .val (.int p5), .val (.int p6), .val (.int ((p1 &&& (2147483647 : Int32)) % (100000 : Int32))), .val (.int ((p2 &&& (2147483647 : Int32)) % (100000 : Int32))), .val (.int L2), .val (.int B2), .val (.ref w1), .unset, .unset, .unset, .unset, .unset] [(.int (((p5.toUInt32 >>> ((2 : Int32) &&& 31).toUInt32).toInt32) &&& (3 : Int32)))])) rfl (by rw [hml]; rfl) (argsL := [(.int (((p5.toUInt32 >>> ((2 : Int32) &&& 31).toUInt32).toInt32) &&& (3 : Int32)))]) (rest := []) (lenOf pd_0_0 rfl) rfl (by show 2 * 0 + _ ≤ _; exact Nat.le_of_eq rfl) (hb hby at_75) (fun _ _ => ⟨rfl, eq7, (by decide : 0 + 0 ≤ _), (by decide : 0 + 0 ≤ _)⟩)
  dsimp only [Pt.U, Pt.locs, Pt.cells, Pt.slots] at X8 l8 y8 z8 st8 hQ8
  subst l8 y8 z8
  obtain ⟨rfl, N8q, eq8⟩ := hQ8
  have N8 := Fr.app N7 N8q
  obtain ⟨T9, h9, X9, e9, E9, A9, D9, -, st9⟩ := newO X8 hx hZ hown (hw _ (List.mem_of_getElem? (i := 9) rfl)) (hw _ (List.mem_of_getElem? (i := 10) rfl)) (hw _ (List.mem_of_getElem? (i := 11) rfl)) eq8 (g := (mkF m 80 #[.val (.int p1), .val (.int p2), .val (.int p3), .val (.int p4), .val (.int p5), .val (.int p6), .val (.int ((p1 &&& (2147483647 : Int32)) % (100000 : Int32))), .val (.int ((p2 &&& (2147483647 : Int32)) % (100000 : Int32))), .val (.int L2), .val (.int B2), .val (.ref w1), .val (.ref w2), .unset, .unset, .unset, .unset] [])) rfl (hb hby at_80) (by decide) (by decide)
  obtain ⟨b9, g9⟩ : ∃ z, z = h0.size := ⟨_, rfl⟩
  rw [← g9] at A9 D9 st9
  have F_recordLength_b9 : Fld Z h9 b9 "com/example/fieldwright/fieldwright/mater/RecordLabel" "recordLength" "I" (.int (0 : Int32)) := D9 (Or.inr (hw _ (List.mem_of_getElem? (i := 31) rfl))) (ty := .int) (by decide)
  have F_status_b9 : Fld Z h9 b9 "com/example/fieldwright/fieldwright/mater/RecordLabel" "status" "Lcom/example/fieldwright/fieldwright/mater/RecordLabel$Status;" .null := D9 (Or.inr (hw _ (List.mem_of_getElem? (i := 40) rfl))) (ty := (.object "com/example/fieldwright/fieldwright/mater/RecordLabel$Status")) (by decide)
  have F_baseAddress_b9 : Fld Z h9 b9 "com/example/fieldwright/fieldwright/mater/RecordLabel" "baseAddress" "I" (.int (0 : Int32)) := D9 (Or.inr (hw _ (List.mem_of_getElem? (i := 43) rfl))) (ty := .int) (by decide)
  have E_b9 := A9
  have g_b9 : n0 ≤ b9 := Nat.le_trans Z0 (Nat.le_of_eq g9.symm)
  have sz_b9 : h0.size ≤ b9 := (Nat.le_trans (Keep.refl h0 []).1 (Nat.le_of_eq g9.symm))
  have K9 : Keep h0 h9 [] := (Keep.refl h0 []).ext E9
  have hk := Nat.le_trans hk E9.1
  obtain ⟨_, _, ⟨T10, L10, k10, n10⟩, -, X10, hS10, hg10, ⟨Lc10, hQ10, l10, y10, z10⟩, st10⟩ := X9.specialBackS hx (y := (⟨"com/example/fieldwright/fieldwright/mater/RecordLabel", "<init>", "(ILcom/example/fieldwright/fieldwright/mater/RecordLabel$Status;I)V"⟩ : MethodName)) rfl hown (mvT hZ (hw _ (List.mem_of_getElem? (i := 12) rfl))) (mvT hZ (hw _ (List.mem_of_getElem? (i := 13) rfl))) (mvT hZ (hw _ (List.mem_of_getElem? (i := 14) rfl))) (by decide) (backOfS (W := 1) (rm2 l Z a0 hw [] b9 ((p1 &&& (2147483647 : Int32)) % (100000 : Int32)) w1 ((p2 &&& (2147483647 : Int32)) % (100000 : Int32)) (.int (0 : Int32)) .null (.int (0 : Int32)) h9 n0 (Nat.le_trans Z0 K9.1) (own_rng p1).1 (own_rng p1).2 (own_rng p2).1 (own_rng p2).2 E_b9 F_recordLength_b9 g_b9 (E1.keep K9) F_status_b9 F_baseAddress_b9) hZ (hw _ (List.mem_of_getElem? (i := 14) rfl)) (hw _ (List.mem_of_getElem? (i := 11) rfl)) (by decide) (by decide)) (g := (mkF m 90 #[.val (.int p1), .val (.int p2), .val (.int p3), .val (.int p4), .val (.int p5), .val (.int p6), .val (.int ((p1 &&& (2147483647 : Int32)) % (100000 : Int32))), .val (.int ((p2 &&& (2147483647 : Int32)) % (100000 : Int32))), .val (.int L2), .val (.int B2), .val (.ref w1), .val (.ref w2), .unset, .unset, .unset, .unset] [(.int ((p2 &&& (2147483647 : Int32)) % (100000 : Int32))), (.ref w1), (.int ((p1 &&& (2147483647 : Int32)) % (100000 : Int32))), (.ref b9), (.ref b9)])) rfl (by rw [hml]; rfl) (Steps.refl _) (a := b9) (argsL := [(.int ((p1 &&& (2147483647 : Int32)) % (100000 : Int32))), (.ref w1), (.int ((p2 &&& (2147483647 : Int32)) % (100000 : Int32)))]) (rest := [(.ref b9)]) (lenOf pd_0_1 rfl) rfl (by show 2 * 0 + _ ≤ _; exact Nat.le_of_eq rfl) (hb hby at_90) (fun _ _ => ⟨rfl, e9, (by decide : 1 + 6 ≤ _), (by decide : 3 + 136 ≤ _)⟩)
  dsimp only [Pt.U, Pt.locs, Pt.cells, Pt.slots] at X10 l10 y10 z10 st10 hQ10 hS10 hg10
  subst l10 y10 z10
  obtain ⟨rfl, N10q, Kq10, Eq10, F1_b9, F2_b9, F3_b9⟩ := hQ10
  have K10 : Keep h0 T10.heap [] := K9.trans Kq10 (fun x hx => by cases List.mem_singleton.mp hx; exact Or.inr sz_b9)
  have N10 := Fr.app N8 N10q
  obtain ⟨X10, hS, hZ, hown⟩ := rebS hS (show _ ≤ T9.heap.size by rw [e9]; exact hk) X10 hS10 hg10 hZ hown
  have hk := Nat.le_refl T10.heap.size
  obtain ⟨T11, h11, X11, e11, E11, A11, D11, -, st11⟩ := newO X10 hx hZ hown (hw _ (List.mem_of_getElem? (i := 9) rfl)) (hw _ (List.mem_of_getElem? (i := 10) rfl)) (hw _ (List.mem_of_getElem? (i := 11) rfl)) rfl (g := (mkF m 167 #[.val (.int p1), .val (.int p2), .val (.int p3), .val (.int p4), .val (.int p5), .val (.int p6), .val (.int ((p1 &&& (2147483647 : Int32)) % (100000 : Int32))), .val (.int ((p2 &&& (2147483647 : Int32)) % (100000 : Int32))), .val (.int L2), .val (.int B2), .val (.ref w1), .val (.ref w2), .val (.ref b9), .val (.int (((p6.toUInt32 >>> ((2 : Int32) &&& 31).toUInt32).toInt32) &&& (3 : Int32))), .unset, .unset] [])) rfl (hb hby at_167) (by decide) (by decide)
  obtain ⟨b11, g11⟩ : ∃ z, z = T10.heap.size := ⟨_, rfl⟩
  rw [← g11] at A11 D11 st11
  have F_recordLength_b11 : Fld Z h11 b11 "com/example/fieldwright/fieldwright/mater/RecordLabel" "recordLength" "I" (.int (0 : Int32)) := D11 (Or.inr (hw _ (List.mem_of_getElem? (i := 31) rfl))) (ty := .int) (by decide)
  have F_status_b11 : Fld Z h11 b11 "com/example/fieldwright/fieldwright/mater/RecordLabel" "status" "Lcom/example/fieldwright/fieldwright/mater/RecordLabel$Status;" .null := D11 (Or.inr (hw _ (List.mem_of_getElem? (i := 40) rfl))) (ty := (.object "com/example/fieldwright/fieldwright/mater/RecordLabel$Status")) (by decide)
  have F_baseAddress_b11 : Fld Z h11 b11 "com/example/fieldwright/fieldwright/mater/RecordLabel" "baseAddress" "I" (.int (0 : Int32)) := D11 (Or.inr (hw _ (List.mem_of_getElem? (i := 43) rfl))) (ty := .int) (by decide)
  have E_b11 := A11
  have g_b11 : n0 ≤ b11 := Nat.le_trans (Nat.le_trans (Nat.le_trans Z0 E9.1) Kq10.1) (Nat.le_of_eq g11.symm)
  have sz_b11 : h0.size ≤ b11 := (Nat.le_trans K10.1 (Nat.le_of_eq g11.symm))
  have K11 : Keep h0 h11 [] := K10.ext E11
  have hk := Nat.le_trans hk E11.1
  obtain ⟨_, _, ⟨T12, L12, k12, n12⟩, -, X12, hS12, hg12, ⟨Lc12, hQ12, l12, y12, z12⟩, st12⟩ := X11.specialBackS hx (y := (⟨"com/example/fieldwright/fieldwright/mater/RecordLabel", "<init>", "(ILcom/example/fieldwright/fieldwright/mater/RecordLabel$Status;I)V"⟩ : MethodName)) rfl hown (mvT hZ (hw _ (List.mem_of_getElem? (i := 12) rfl))) (mvT hZ (hw _ (List.mem_of_getElem? (i := 13) rfl))) (mvT hZ (hw _ (List.mem_of_getElem? (i := 14) rfl))) (by decide) (backOfS (W := 1) (rm2 l Z a0 hw [] b11 L2 w2 B2 (.int (0 : Int32)) .null (.int (0 : Int32)) h11 n0 (Nat.le_trans Z0 K11.1) RL.1 RL.2 RB.1 RB.2 E_b11 F_recordLength_b11 g_b11 (E2.keep K11) F_status_b11 F_baseAddress_b11) hZ (hw _ (List.mem_of_getElem? (i := 14) rfl)) (hw _ (List.mem_of_getElem? (i := 11) rfl)) (by decide) (by decide)) (g := (mkF m 177 #[.val (.int p1), .val (.int p2), .val (.int p3), .val (.int p4), .val (.int p5), .val (.int p6), .val (.int ((p1 &&& (2147483647 : Int32)) % (100000 : Int32))), .val (.int ((p2 &&& (2147483647 : Int32)) % (100000 : Int32))), .val (.int L2), .val (.int B2), .val (.ref w1), .val (.ref w2), .val (.ref b9), .val (.int (((p6.toUInt32 >>> ((2 : Int32) &&& 31).toUInt32).toInt32) &&& (3 : Int32))), .unset, .unset] [(.int B2), (.ref w2), (.int L2), (.ref b11), (.ref b11)])) rfl (by rw [hml]; rfl) (Steps.refl _) (a := b11) (argsL := [(.int L2), (.ref w2), (.int B2)]) (rest := [(.ref b11)]) (lenOf pd_0_1 rfl) rfl (by show 2 * 0 + _ ≤ _; exact Nat.le_of_eq rfl) (hb hby at_177) (fun _ _ => ⟨rfl, e11, (by decide : 8 + 6 ≤ _), (by decide : 142 + 136 ≤ _)⟩)
  dsimp only [Pt.U, Pt.locs, Pt.cells, Pt.slots] at X12 l12 y12 z12 st12 hQ12 hS12 hg12
  subst l12 y12 z12
  obtain ⟨rfl, N12q, Kq12, Eq12, F1_b11, F2_b11, F3_b11⟩ := hQ12
  have KA : Keep T10.heap T12.heap [] := ((Keep.refl T10.heap []).ext E11).trans Kq12 (fun x hx => by cases List.mem_singleton.mp hx; exact Or.inr (Nat.le_of_eq g11.symm))
  have K12 : Keep h0 T12.heap [] := K11.trans Kq12 (fun x hx => by cases List.mem_singleton.mp hx; exact Or.inr sz_b11)
  have N12 := Fr.app N10 N12q
  obtain ⟨X12, hS, hZ, hown⟩ := rebS hS (show _ ≤ T11.heap.size by rw [e11]; exact hk) X12 hS12 hg12 hZ hown
  have hk := Nat.le_refl T12.heap.size
  obtain ⟨cq13, kq13, q13a, q13b, q13c⟩ := isOf hZ rfl (((E_b9.keep Kq10).ext E11).keep Kq12)
  obtain ⟨_, _, ⟨T13, L13, k13, n13⟩, -, X13, ⟨Lc13, hQ13, l13, y13, z13⟩, st13⟩ := X12.virtualBack hx (y := (⟨"com/example/fieldwright/fieldwright/mater/RecordLabel", "equals", "(Ljava/lang/Object;)Z"⟩ : MethodName)) (z := (⟨"com/example/fieldwright/fieldwright/mater/RecordLabel", "equals", "(Ljava/lang/Object;)Z"⟩ : MethodName)) hown (mvT hZ (hw _ (List.mem_of_getElem? (i := 44) rfl))) (mvT hZ (hw _ (List.mem_of_getElem? (i := 45) rfl))) (notFace_of_selects (args := #[]) (mvT hZ (hw _ (List.mem_of_getElem? (i := 47) rfl)))) (mvT hZ (hw _ (List.mem_of_getElem? (i := 47) rfl))) (mvT hZ (hw _ (List.mem_of_getElem? (i := 46) rfl))) (by decide) (backOf (W := 0) (rm6_no l Z a0 hw [] b9 b11 ((p1 &&& (2147483647 : Int32)) % (100000 : Int32)) L2 w1 w2 ((p2 &&& (2147483647 : Int32)) % (100000 : Int32)) B2 T12.heap n0 (Nat.le_trans Z0 K12.1) Eq12 (F1_b9.keep KA List.not_mem_nil) (F2_b9.keep KA List.not_mem_nil) (F3_b9.keep KA List.not_mem_nil) F1_b11 F2_b11 F3_b11 hne) hZ (hw _ (List.mem_of_getElem? (i := 48) rfl)) (hw _ (List.mem_of_getElem? (i := 11) rfl)) (by decide) (by decide)) q13a q13c (g := (mkF m 214 #[.val (.int p1), .val (.int p2), .val (.int p3), .val (.int p4), .val (.int p5), .val (.int p6), .val (.int ((p1 &&& (2147483647 : Int32)) % (100000 : Int32))), .val (.int ((p2 &&& (2147483647 : Int32)) % (100000 : Int32))), .val (.int L2), .val (.int B2), .val (.ref w1), .val (.ref w2), .val (.ref b9), .val (.int (((p6.toUInt32 >>> ((2 : Int32) &&& 31).toUInt32).toInt32) &&& (3 : Int32))), .val (.ref b11), .val (.int (0 : Int32))] [(.ref b11), (.ref b9)])) rfl (by rw [hml]; rfl) (Steps.refl _) (argsL := [(.ref b11)]) (rest := []) (lenOf pd_0_5 rfl) rfl (by show 2 * 0 + _ ≤ _; exact Nat.le_of_eq rfl) (hb hby at_214) (fun _ _ => ⟨rfl, rfl, (by decide : 14 + 0 ≤ _), (by decide : 278 + 0 ≤ _)⟩)
  dsimp only [Pt.U, Pt.locs, Pt.cells, Pt.slots] at X13 l13 y13 z13 st13 hQ13
  subst l13 y13 z13
  obtain ⟨rfl, N13q, eq13⟩ := hQ13
  have N13 := Fr.app N12 N13q
  obtain ⟨cq14, kq14, q14a, q14b, q14c⟩ := isOf hZ eq13 (E_b11.keep Kq12)
  obtain ⟨_, _, ⟨T14, L14, k14, n14⟩, -, X14, ⟨Lc14, hQ14, l14, y14, z14⟩, st14⟩ := X13.virtualBack hx (y := (⟨"com/example/fieldwright/fieldwright/mater/RecordLabel", "equals", "(Ljava/lang/Object;)Z"⟩ : MethodName)) (z := (⟨"com/example/fieldwright/fieldwright/mater/RecordLabel", "equals", "(Ljava/lang/Object;)Z"⟩ : MethodName)) hown (mvT hZ (hw _ (List.mem_of_getElem? (i := 44) rfl))) (mvT hZ (hw _ (List.mem_of_getElem? (i := 45) rfl))) (notFace_of_selects (args := #[]) (mvT hZ (hw _ (List.mem_of_getElem? (i := 47) rfl)))) (mvT hZ (hw _ (List.mem_of_getElem? (i := 47) rfl))) (mvT hZ (hw _ (List.mem_of_getElem? (i := 46) rfl))) (by decide) (backOf (W := 0) (rm6_no l Z a0 hw [] b11 b9 L2 ((p1 &&& (2147483647 : Int32)) % (100000 : Int32)) w2 w1 B2 ((p2 &&& (2147483647 : Int32)) % (100000 : Int32)) T12.heap n0 (Nat.le_trans Z0 K12.1) (Eq10.keep KA) F1_b11 F2_b11 F3_b11 (F1_b9.keep KA List.not_mem_nil) (F2_b9.keep KA List.not_mem_nil) (F3_b9.keep KA List.not_mem_nil) (fun q => hne ⟨q.1.symm, q.2.1.symm, q.2.2.symm⟩)) hZ (hw _ (List.mem_of_getElem? (i := 48) rfl)) (hw _ (List.mem_of_getElem? (i := 11) rfl)) (by decide) (by decide)) q14a q14c (g := (mkF m 226 #[.val (.int p1), .val (.int p2), .val (.int p3), .val (.int p4), .val (.int p5), .val (.int p6), .val (.int ((p1 &&& (2147483647 : Int32)) % (100000 : Int32))), .val (.int ((p2 &&& (2147483647 : Int32)) % (100000 : Int32))), .val (.int L2), .val (.int B2), .val (.ref w1), .val (.ref w2), .val (.ref b9), .val (.int (((p6.toUInt32 >>> ((2 : Int32) &&& 31).toUInt32).toInt32) &&& (3 : Int32))), .val (.ref b11), .val (.int (0 : Int32))] [(.ref b9), (.ref b11)])) rfl (by rw [hml]; rfl) (Steps.refl _) (argsL := [(.ref b9)]) (rest := []) (lenOf pd_0_5 rfl) rfl (by show 2 * 0 + _ ≤ _; exact Nat.le_of_eq rfl) (hb hby at_226) (fun _ _ => ⟨rfl, eq13, (by decide : 14 + 0 ≤ _), (by decide : 278 + 0 ≤ _)⟩)
  dsimp only [Pt.U, Pt.locs, Pt.cells, Pt.slots] at X14 l14 y14 z14 st14 hQ14
  subst l14 y14 z14
  obtain ⟨rfl, N14q, eq14⟩ := hQ14
  have N14 := Fr.app N13 N14q
  obtain ⟨fs, hr, hrun, hended, hW1, hW2, hW3, hsame⟩ := X14.leaveW hS (show _ ≤ T14.heap.size by rw [eq14]; exact hk) (v := some (.int (1 : Int32))) (fun h => by rw [Bd.returns] at h; cases h)
  refine ⟨_, _, pre0 _ ?_, hrun, hended, _, _, rfl, ?_, hW1, hW2, hW3, hsame.mono (by decide) (by decide)⟩
  · show Steps p.tables e below (s₁.setTop (mkF m 0 #[.val (.int p1), .val (.int p2), .val (.int p3), .val (.int p4), .val (.int p5), .val (.int p6), .unset, .unset, .unset, .unset, .unset, .unset, .unset, .unset, .unset, .unset] [])) _
    refine XS.iloadN X0.here hx rfl (hb hby at_0) rfl ?_
    show Steps p.tables e below (s₁.setTop (mkF m 1 #[.val (.int p1), .val (.int p2), .val (.int p3), .val (.int p4), .val (.int p5), .val (.int p6), .unset, .unset, .unset, .unset, .unset, .unset, .unset, .unset, .unset, .unset] [(.int p1)])) _
    refine X0.ldcInt hx hown00 (mvT hZ00 (hw _ (List.mem_of_getElem? (i := 0) rfl))) (g := (mkF m 1 #[.val (.int p1), .val (.int p2), .val (.int p3), .val (.int p4), .val (.int p5), .val (.int p6), .unset, .unset, .unset, .unset, .unset, .unset, .unset, .unset, .unset, .unset] [(.int p1)])) rfl (hb hby at_1) _ ?_
    show Steps p.tables e below (s₁.setTop (mkF m 3 #[.val (.int p1), .val (.int p2), .val (.int p3), .val (.int p4), .val (.int p5), .val (.int p6), .unset, .unset, .unset, .unset, .unset, .unset, .unset, .unset, .unset, .unset] [(.int (2147483647 : Int32)), (.int p1)])) _
    refine XS.iand X0.here hx rfl (hb hby at_3) rfl ?_
    show Steps p.tables e below (s₁.setTop (mkF m 4 #[.val (.int p1), .val (.int p2), .val (.int p3), .val (.int p4), .val (.int p5), .val (.int p6), .unset, .unset, .unset, .unset, .unset, .unset, .unset, .unset, .unset, .unset] [(.int (p1 &&& (2147483647 : Int32)))])) _
    refine X0.ldcInt hx hown00 (mvT hZ00 (hw _ (List.mem_of_getElem? (i := 1) rfl))) (g := (mkF m 4 #[.val (.int p1), .val (.int p2), .val (.int p3), .val (.int p4), .val (.int p5), .val (.int p6), .unset, .unset, .unset, .unset, .unset, .unset, .unset, .unset, .unset, .unset] [(.int (p1 &&& (2147483647 : Int32)))])) rfl (hb hby at_4) _ ?_
    show Steps p.tables e below (s₁.setTop (mkF m 6 #[.val (.int p1), .val (.int p2), .val (.int p3), .val (.int p4), .val (.int p5), .val (.int p6), .unset, .unset, .unset, .unset, .unset, .unset, .unset, .unset, .unset, .unset] [(.int (100000 : Int32)), (.int (p1 &&& (2147483647 : Int32)))])) _
    refine iremM X0 hx rfl (hb hby at_6) rfl (by decide) ?_
    show Steps p.tables e below (s₁.setTop (mkF m 7 #[.val (.int p1), .val (.int p2), .val (.int p3), .val (.int p4), .val (.int p5), .val (.int p6), .unset, .unset, .unset, .unset, .unset, .unset, .unset, .unset, .unset, .unset] [(.int ((p1 &&& (2147483647 : Int32)) % (100000 : Int32)))])) _
    refine XS.istore X0.here hx rfl (hb hby at_7) rfl (l' := #[.val (.int p1), .val (.int p2), .val (.int p3), .val (.int p4), .val (.int p5), .val (.int p6), .val (.int ((p1 &&& (2147483647 : Int32)) % (100000 : Int32))), .unset, .unset, .unset, .unset, .unset, .unset, .unset, .unset, .unset]) rfl ?_
    show Steps p.tables e below (s₁.setTop (mkF m 9 #[.val (.int p1), .val (.int p2), .val (.int p3), .val (.int p4), .val (.int p5), .val (.int p6), .val (.int ((p1 &&& (2147483647 : Int32)) % (100000 : Int32))), .unset, .unset, .unset, .unset, .unset, .unset, .unset, .unset, .unset] [])) _
    refine XS.iloadN X0.here hx rfl (hb hby at_9) rfl ?_
    show Steps p.tables e below (s₁.setTop (mkF m 10 #[.val (.int p1), .val (.int p2), .val (.int p3), .val (.int p4), .val (.int p5), .val (.int p6), .val (.int ((p1 &&& (2147483647 : Int32)) % (100000 : Int32))), .unset, .unset, .unset, .unset, .unset, .unset, .unset, .unset, .unset] [(.int p2)])) _
    refine X0.ldcInt hx hown00 (mvT hZ00 (hw _ (List.mem_of_getElem? (i := 0) rfl))) (g := (mkF m 10 #[.val (.int p1), .val (.int p2), .val (.int p3), .val (.int p4), .val (.int p5), .val (.int p6), .val (.int ((p1 &&& (2147483647 : Int32)) % (100000 : Int32))), .unset, .unset, .unset, .unset, .unset, .unset, .unset, .unset, .unset] [(.int p2)])) rfl (hb hby at_10) _ ?_
    show Steps p.tables e below (s₁.setTop (mkF m 12 #[.val (.int p1), .val (.int p2), .val (.int p3), .val (.int p4), .val (.int p5), .val (.int p6), .val (.int ((p1 &&& (2147483647 : Int32)) % (100000 : Int32))), .unset, .unset, .unset, .unset, .unset, .unset, .unset, .unset, .unset] [(.int (2147483647 : Int32)), (.int p2)])) _
    refine XS.iand X0.here hx rfl (hb hby at_12) rfl ?_
    show Steps p.tables e below (s₁.setTop (mkF m 13 #[.val (.int p1), .val (.int p2), .val (.int p3), .val (.int p4), .val (.int p5), .val (.int p6), .val (.int ((p1 &&& (2147483647 : Int32)) % (100000 : Int32))), .unset, .unset, .unset, .unset, .unset, .unset, .unset, .unset, .unset] [(.int (p2 &&& (2147483647 : Int32)))])) _
    refine X0.ldcInt hx hown00 (mvT hZ00 (hw _ (List.mem_of_getElem? (i := 1) rfl))) (g := (mkF m 13 #[.val (.int p1), .val (.int p2), .val (.int p3), .val (.int p4), .val (.int p5), .val (.int p6), .val (.int ((p1 &&& (2147483647 : Int32)) % (100000 : Int32))), .unset, .unset, .unset, .unset, .unset, .unset, .unset, .unset, .unset] [(.int (p2 &&& (2147483647 : Int32)))])) rfl (hb hby at_13) _ ?_
    show Steps p.tables e below (s₁.setTop (mkF m 15 #[.val (.int p1), .val (.int p2), .val (.int p3), .val (.int p4), .val (.int p5), .val (.int p6), .val (.int ((p1 &&& (2147483647 : Int32)) % (100000 : Int32))), .unset, .unset, .unset, .unset, .unset, .unset, .unset, .unset, .unset] [(.int (100000 : Int32)), (.int (p2 &&& (2147483647 : Int32)))])) _
    refine iremM X0 hx rfl (hb hby at_15) rfl (by decide) ?_
    show Steps p.tables e below (s₁.setTop (mkF m 16 #[.val (.int p1), .val (.int p2), .val (.int p3), .val (.int p4), .val (.int p5), .val (.int p6), .val (.int ((p1 &&& (2147483647 : Int32)) % (100000 : Int32))), .unset, .unset, .unset, .unset, .unset, .unset, .unset, .unset, .unset] [(.int ((p2 &&& (2147483647 : Int32)) % (100000 : Int32)))])) _
    refine XS.istore X0.here hx rfl (hb hby at_16) rfl (l' := #[.val (.int p1), .val (.int p2), .val (.int p3), .val (.int p4), .val (.int p5), .val (.int p6), .val (.int ((p1 &&& (2147483647 : Int32)) % (100000 : Int32))), .val (.int ((p2 &&& (2147483647 : Int32)) % (100000 : Int32))), .unset, .unset, .unset, .unset, .unset, .unset, .unset, .unset]) rfl ?_
    show Steps p.tables e below (s₁.setTop (mkF m 18 #[.val (.int p1), .val (.int p2), .val (.int p3), .val (.int p4), .val (.int p5), .val (.int p6), .val (.int ((p1 &&& (2147483647 : Int32)) % (100000 : Int32))), .val (.int ((p2 &&& (2147483647 : Int32)) % (100000 : Int32))), .unset, .unset, .unset, .unset, .unset, .unset, .unset, .unset] [])) _
    refine seg18 X0 hx hZ00 hw hby hml hown00 p1 p2 p3 p4 p5 p6 ((p1 &&& (2147483647 : Int32)) % (100000 : Int32)) ((p2 &&& (2147483647 : Int32)) % (100000 : Int32)) L2 HL ?_
    show Steps p.tables e below (s₁.setTop (mkF m 39 #[.val (.int p1), .val (.int p2), .val (.int p3), .val (.int p4), .val (.int p5), .val (.int p6), .val (.int ((p1 &&& (2147483647 : Int32)) % (100000 : Int32))), .val (.int ((p2 &&& (2147483647 : Int32)) % (100000 : Int32))), .val (.int L2), .unset, .unset, .unset, .unset, .unset, .unset, .unset] [])) _
    refine seg39 X0 hx hZ00 hw hby hml hown00 p1 p2 p3 p4 p5 p6 ((p1 &&& (2147483647 : Int32)) % (100000 : Int32)) ((p2 &&& (2147483647 : Int32)) % (100000 : Int32)) L2 B2 HB ?_
    show Steps p.tables e below (s₁.setTop (mkF m 60 #[.val (.int p1), .val (.int p2), .val (.int p3), .val (.int p4), .val (.int p5), .val (.int p6), .val (.int ((p1 &&& (2147483647 : Int32)) % (100000 : Int32))), .val (.int ((p2 &&& (2147483647 : Int32)) % (100000 : Int32))), .val (.int L2), .val (.int B2), .unset, .unset, .unset, .unset, .unset, .unset] [])) _
    refine XS.iload X0.here hx rfl (hb hby at_60) rfl ?_
    show Steps p.tables e below (s₁.setTop (mkF m 62 #[.val (.int p1), .val (.int p2), .val (.int p3), .val (.int p4), .val (.int p5), .val (.int p6), .val (.int ((p1 &&& (2147483647 : Int32)) % (100000 : Int32))), .val (.int ((p2 &&& (2147483647 : Int32)) % (100000 : Int32))), .val (.int L2), .val (.int B2), .unset, .unset, .unset, .unset, .unset, .unset] [(.int p5)])) _
    refine XS.iconst X0.here hx rfl (hb hby at_62) ?_
    show Steps p.tables e below (s₁.setTop (mkF m 63 #[.val (.int p1), .val (.int p2), .val (.int p3), .val (.int p4), .val (.int p5), .val (.int p6), .val (.int ((p1 &&& (2147483647 : Int32)) % (100000 : Int32))), .val (.int ((p2 &&& (2147483647 : Int32)) % (100000 : Int32))), .val (.int L2), .val (.int B2), .unset, .unset, .unset, .unset, .unset, .unset] [(.int (3 : Int32)), (.int p5)])) _
    refine XS.iand X0.here hx rfl (hb hby at_63) rfl ?_
    show Steps p.tables e below (s₁.setTop (mkF m 64 #[.val (.int p1), .val (.int p2), .val (.int p3), .val (.int p4), .val (.int p5), .val (.int p6), .val (.int ((p1 &&& (2147483647 : Int32)) % (100000 : Int32))), .val (.int ((p2 &&& (2147483647 : Int32)) % (100000 : Int32))), .val (.int L2), .val (.int B2), .unset, .unset, .unset, .unset, .unset, .unset] [(.int (p5 &&& (3 : Int32)))])) _
    refine st7 _ ?_
    show Steps p.tables e below (T7.setTop (mkF m 67 #[.val (.int p1), .val (.int p2), .val (.int p3), .val (.int p4), .val (.int p5), .val (.int p6), .val (.int ((p1 &&& (2147483647 : Int32)) % (100000 : Int32))), .val (.int ((p2 &&& (2147483647 : Int32)) % (100000 : Int32))), .val (.int L2), .val (.int B2), .unset, .unset, .unset, .unset, .unset, .unset] [(.ref w1)])) _
    refine XS.astore X7.here hx rfl (hb hby at_67) rfl rfl (l' := #[.val (.int p1), .val (.int p2), .val (.int p3), .val (.int p4), .val (.int p5), .val (.int p6), .val (.int ((p1 &&& (2147483647 : Int32)) % (100000 : Int32))), .val (.int ((p2 &&& (2147483647 : Int32)) % (100000 : Int32))), .val (.int L2), .val (.int B2), .val (.ref w1), .unset, .unset, .unset, .unset, .unset]) rfl ?_
    show Steps p.tables e below (T7.setTop (mkF m 69 #[.val (.int p1), .val (.int p2), .val (.int p3), .val (.int p4), .val (.int p5), .val (.int p6), .val (.int ((p1 &&& (2147483647 : Int32)) % (100000 : Int32))), .val (.int ((p2 &&& (2147483647 : Int32)) % (100000 : Int32))), .val (.int L2), .val (.int B2), .val (.ref w1), .unset, .unset, .unset, .unset, .unset] [])) _
    refine XS.iload X7.here hx rfl (hb hby at_69) rfl ?_
    show Steps p.tables e below (T7.setTop (mkF m 71 #[.val (.int p1), .val (.int p2), .val (.int p3), .val (.int p4), .val (.int p5), .val (.int p6), .val (.int ((p1 &&& (2147483647 : Int32)) % (100000 : Int32))), .val (.int ((p2 &&& (2147483647 : Int32)) % (100000 : Int32))), .val (.int L2), .val (.int B2), .val (.ref w1), .unset, .unset, .unset, .unset, .unset] [(.int p5)])) _
    refine XS.iconst X7.here hx rfl (hb hby at_71) ?_
    show Steps p.tables e below (T7.setTop (mkF m 72 #[.val (.int p1), .val (.int p2), .val (.int p3), .val (.int p4), .val (.int p5), .val (.int p6), .val (.int ((p1 &&& (2147483647 : Int32)) % (100000 : Int32))), .val (.int ((p2 &&& (2147483647 : Int32)) % (100000 : Int32))), .val (.int L2), .val (.int B2), .val (.ref w1), .unset, .unset, .unset, .unset, .unset] [(.int (2 : Int32)), (.int p5)])) _
    refine XS.iushr X7.here hx rfl (hb hby at_72) rfl ?_
    show Steps p.tables e below (T7.setTop (mkF m 73 #[.val (.int p1), .val (.int p2), .val (.int p3), .val (.int p4), .val (.int p5), .val (.int p6), .val (.int ((p1 &&& (2147483647 : Int32)) % (100000 : Int32))), .val (.int ((p2 &&& (2147483647 : Int32)) % (100000 : Int32))), .val (.int L2), .val (.int B2), .val (.ref w1), .unset, .unset, .unset, .unset, .unset] [(.int ((p5.toUInt32 >>> ((2 : Int32) &&& 31).toUInt32).toInt32))])) _
    refine XS.iconst X7.here hx rfl (hb hby at_73) ?_
    show Steps p.tables e below (T7.setTop (mkF m 74 #[.val (.int p1), .val (.int p2), .val (.int p3), .val (.int p4), .val (.int p5), .val (.int p6), .val (.int ((p1 &&& (2147483647 : Int32)) % (100000 : Int32))), .val (.int ((p2 &&& (2147483647 : Int32)) % (100000 : Int32))), .val (.int L2), .val (.int B2), .val (.ref w1), .unset, .unset, .unset, .unset, .unset] [(.int (3 : Int32)), (.int ((p5.toUInt32 >>> ((2 : Int32) &&& 31).toUInt32).toInt32))])) _
    refine XS.iand X7.here hx rfl (hb hby at_74) rfl ?_
    show Steps p.tables e below (T7.setTop (mkF m 75 #[.val (.int p1), .val (.int p2), .val (.int p3), .val (.int p4), .val (.int p5), .val (.int p6), .val (.int ((p1 &&& (2147483647 : Int32)) % (100000 : Int32))), .val (.int ((p2 &&& (2147483647 : Int32)) % (100000 : Int32))), .val (.int L2), .val (.int B2), .val (.ref w1), .unset, .unset, .unset, .unset, .unset] [(.int (((p5.toUInt32 >>> ((2 : Int32) &&& 31).toUInt32).toInt32) &&& (3 : Int32)))])) _
    refine st8 _ ?_
    show Steps p.tables e below (T8.setTop (mkF m 78 #[.val (.int p1), .val (.int p2), .val (.int p3), .val (.int p4), .val (.int p5), .val (.int p6), .val (.int ((p1 &&& (2147483647 : Int32)) % (100000 : Int32))), .val (.int ((p2 &&& (2147483647 : Int32)) % (100000 : Int32))), .val (.int L2), .val (.int B2), .val (.ref w1), .unset, .unset, .unset, .unset, .unset] [(.ref w2)])) _
    refine XS.astore X8.here hx rfl (hb hby at_78) rfl rfl (l' := #[.val (.int p1), .val (.int p2), .val (.int p3), .val (.int p4), .val (.int p5), .val (.int p6), .val (.int ((p1 &&& (2147483647 : Int32)) % (100000 : Int32))), .val (.int ((p2 &&& (2147483647 : Int32)) % (100000 : Int32))), .val (.int L2), .val (.int B2), .val (.ref w1), .val (.ref w2), .unset, .unset, .unset, .unset]) rfl ?_
    show Steps p.tables e below (T8.setTop (mkF m 80 #[.val (.int p1), .val (.int p2), .val (.int p3), .val (.int p4), .val (.int p5), .val (.int p6), .val (.int ((p1 &&& (2147483647 : Int32)) % (100000 : Int32))), .val (.int ((p2 &&& (2147483647 : Int32)) % (100000 : Int32))), .val (.int L2), .val (.int B2), .val (.ref w1), .val (.ref w2), .unset, .unset, .unset, .unset] [])) _
    refine st9 _ ?_
    show Steps p.tables e below (T9.setTop (mkF m 83 #[.val (.int p1), .val (.int p2), .val (.int p3), .val (.int p4), .val (.int p5), .val (.int p6), .val (.int ((p1 &&& (2147483647 : Int32)) % (100000 : Int32))), .val (.int ((p2 &&& (2147483647 : Int32)) % (100000 : Int32))), .val (.int L2), .val (.int B2), .val (.ref w1), .val (.ref w2), .unset, .unset, .unset, .unset] [(.ref b9)])) _
    refine XS.dup X9.here hx rfl (hb hby at_83) rfl rfl ?_
    show Steps p.tables e below (T9.setTop (mkF m 84 #[.val (.int p1), .val (.int p2), .val (.int p3), .val (.int p4), .val (.int p5), .val (.int p6), .val (.int ((p1 &&& (2147483647 : Int32)) % (100000 : Int32))), .val (.int ((p2 &&& (2147483647 : Int32)) % (100000 : Int32))), .val (.int L2), .val (.int B2), .val (.ref w1), .val (.ref w2), .unset, .unset, .unset, .unset] [(.ref b9), (.ref b9)])) _
    refine XS.iload X9.here hx rfl (hb hby at_84) rfl ?_
    show Steps p.tables e below (T9.setTop (mkF m 86 #[.val (.int p1), .val (.int p2), .val (.int p3), .val (.int p4), .val (.int p5), .val (.int p6), .val (.int ((p1 &&& (2147483647 : Int32)) % (100000 : Int32))), .val (.int ((p2 &&& (2147483647 : Int32)) % (100000 : Int32))), .val (.int L2), .val (.int B2), .val (.ref w1), .val (.ref w2), .unset, .unset, .unset, .unset] [(.int ((p1 &&& (2147483647 : Int32)) % (100000 : Int32))), (.ref b9), (.ref b9)])) _
    refine XS.aload X9.here hx rfl (hb hby at_86) rfl rfl ?_
    show Steps p.tables e below (T9.setTop (mkF m 88 #[.val (.int p1), .val (.int p2), .val (.int p3), .val (.int p4), .val (.int p5), .val (.int p6), .val (.int ((p1 &&& (2147483647 : Int32)) % (100000 : Int32))), .val (.int ((p2 &&& (2147483647 : Int32)) % (100000 : Int32))), .val (.int L2), .val (.int B2), .val (.ref w1), .val (.ref w2), .unset, .unset, .unset, .unset] [(.ref w1), (.int ((p1 &&& (2147483647 : Int32)) % (100000 : Int32))), (.ref b9), (.ref b9)])) _
    refine XS.iload X9.here hx rfl (hb hby at_88) rfl ?_
    show Steps p.tables e below (T9.setTop (mkF m 90 #[.val (.int p1), .val (.int p2), .val (.int p3), .val (.int p4), .val (.int p5), .val (.int p6), .val (.int ((p1 &&& (2147483647 : Int32)) % (100000 : Int32))), .val (.int ((p2 &&& (2147483647 : Int32)) % (100000 : Int32))), .val (.int L2), .val (.int B2), .val (.ref w1), .val (.ref w2), .unset, .unset, .unset, .unset] [(.int ((p2 &&& (2147483647 : Int32)) % (100000 : Int32))), (.ref w1), (.int ((p1 &&& (2147483647 : Int32)) % (100000 : Int32))), (.ref b9), (.ref b9)])) _
    refine st10.trans ?_
    show Steps p.tables e below (T10.setTop (mkF m 93 #[.val (.int p1), .val (.int p2), .val (.int p3), .val (.int p4), .val (.int p5), .val (.int p6), .val (.int ((p1 &&& (2147483647 : Int32)) % (100000 : Int32))), .val (.int ((p2 &&& (2147483647 : Int32)) % (100000 : Int32))), .val (.int L2), .val (.int B2), .val (.ref w1), .val (.ref w2), .unset, .unset, .unset, .unset] [(.ref b9)])) _
    refine XS.astore X10.here hx rfl (hb hby at_93) rfl rfl (l' := #[.val (.int p1), .val (.int p2), .val (.int p3), .val (.int p4), .val (.int p5), .val (.int p6), .val (.int ((p1 &&& (2147483647 : Int32)) % (100000 : Int32))), .val (.int ((p2 &&& (2147483647 : Int32)) % (100000 : Int32))), .val (.int L2), .val (.int B2), .val (.ref w1), .val (.ref w2), .val (.ref b9), .unset, .unset, .unset]) rfl ?_
    show Steps p.tables e below (T10.setTop (mkF m 95 #[.val (.int p1), .val (.int p2), .val (.int p3), .val (.int p4), .val (.int p5), .val (.int p6), .val (.int ((p1 &&& (2147483647 : Int32)) % (100000 : Int32))), .val (.int ((p2 &&& (2147483647 : Int32)) % (100000 : Int32))), .val (.int L2), .val (.int B2), .val (.ref w1), .val (.ref w2), .val (.ref b9), .unset, .unset, .unset] [])) _
    refine XS.iload X10.here hx rfl (hb hby at_95) rfl ?_
    show Steps p.tables e below (T10.setTop (mkF m 97 #[.val (.int p1), .val (.int p2), .val (.int p3), .val (.int p4), .val (.int p5), .val (.int p6), .val (.int ((p1 &&& (2147483647 : Int32)) % (100000 : Int32))), .val (.int ((p2 &&& (2147483647 : Int32)) % (100000 : Int32))), .val (.int L2), .val (.int B2), .val (.ref w1), .val (.ref w2), .val (.ref b9), .unset, .unset, .unset] [(.int p6)])) _
    refine XS.iconst X10.here hx rfl (hb hby at_97) ?_
    show Steps p.tables e below (T10.setTop (mkF m 98 #[.val (.int p1), .val (.int p2), .val (.int p3), .val (.int p4), .val (.int p5), .val (.int p6), .val (.int ((p1 &&& (2147483647 : Int32)) % (100000 : Int32))), .val (.int ((p2 &&& (2147483647 : Int32)) % (100000 : Int32))), .val (.int L2), .val (.int B2), .val (.ref w1), .val (.ref w2), .val (.ref b9), .unset, .unset, .unset] [(.int (2 : Int32)), (.int p6)])) _
    refine XS.iushr X10.here hx rfl (hb hby at_98) rfl ?_
    show Steps p.tables e below (T10.setTop (mkF m 99 #[.val (.int p1), .val (.int p2), .val (.int p3), .val (.int p4), .val (.int p5), .val (.int p6), .val (.int ((p1 &&& (2147483647 : Int32)) % (100000 : Int32))), .val (.int ((p2 &&& (2147483647 : Int32)) % (100000 : Int32))), .val (.int L2), .val (.int B2), .val (.ref w1), .val (.ref w2), .val (.ref b9), .unset, .unset, .unset] [(.int ((p6.toUInt32 >>> ((2 : Int32) &&& 31).toUInt32).toInt32))])) _
    refine XS.iconst X10.here hx rfl (hb hby at_99) ?_
    show Steps p.tables e below (T10.setTop (mkF m 100 #[.val (.int p1), .val (.int p2), .val (.int p3), .val (.int p4), .val (.int p5), .val (.int p6), .val (.int ((p1 &&& (2147483647 : Int32)) % (100000 : Int32))), .val (.int ((p2 &&& (2147483647 : Int32)) % (100000 : Int32))), .val (.int L2), .val (.int B2), .val (.ref w1), .val (.ref w2), .val (.ref b9), .unset, .unset, .unset] [(.int (3 : Int32)), (.int ((p6.toUInt32 >>> ((2 : Int32) &&& 31).toUInt32).toInt32))])) _
    refine XS.iand X10.here hx rfl (hb hby at_100) rfl ?_
    show Steps p.tables e below (T10.setTop (mkF m 101 #[.val (.int p1), .val (.int p2), .val (.int p3), .val (.int p4), .val (.int p5), .val (.int p6), .val (.int ((p1 &&& (2147483647 : Int32)) % (100000 : Int32))), .val (.int ((p2 &&& (2147483647 : Int32)) % (100000 : Int32))), .val (.int L2), .val (.int B2), .val (.ref w1), .val (.ref w2), .val (.ref b9), .unset, .unset, .unset] [(.int (((p6.toUInt32 >>> ((2 : Int32) &&& 31).toUInt32).toInt32) &&& (3 : Int32)))])) _
    refine XS.istore X10.here hx rfl (hb hby at_101) rfl (l' := #[.val (.int p1), .val (.int p2), .val (.int p3), .val (.int p4), .val (.int p5), .val (.int p6), .val (.int ((p1 &&& (2147483647 : Int32)) % (100000 : Int32))), .val (.int ((p2 &&& (2147483647 : Int32)) % (100000 : Int32))), .val (.int L2), .val (.int B2), .val (.ref w1), .val (.ref w2), .val (.ref b9), .val (.int (((p6.toUInt32 >>> ((2 : Int32) &&& 31).toUInt32).toInt32) &&& (3 : Int32))), .unset, .unset]) rfl ?_
    show Steps p.tables e below (T10.setTop (mkF m 103 #[.val (.int p1), .val (.int p2), .val (.int p3), .val (.int p4), .val (.int p5), .val (.int p6), .val (.int ((p1 &&& (2147483647 : Int32)) % (100000 : Int32))), .val (.int ((p2 &&& (2147483647 : Int32)) % (100000 : Int32))), .val (.int L2), .val (.int B2), .val (.ref w1), .val (.ref w2), .val (.ref b9), .val (.int (((p6.toUInt32 >>> ((2 : Int32) &&& 31).toUInt32).toInt32) &&& (3 : Int32))), .unset, .unset] [])) _
    refine XS.iload X10.here hx rfl (hb hby at_103) rfl ?_
    show Steps p.tables e below (T10.setTop (mkF m 105 #[.val (.int p1), .val (.int p2), .val (.int p3), .val (.int p4), .val (.int p5), .val (.int p6), .val (.int ((p1 &&& (2147483647 : Int32)) % (100000 : Int32))), .val (.int ((p2 &&& (2147483647 : Int32)) % (100000 : Int32))), .val (.int L2), .val (.int B2), .val (.ref w1), .val (.ref w2), .val (.ref b9), .val (.int (((p6.toUInt32 >>> ((2 : Int32) &&& 31).toUInt32).toInt32) &&& (3 : Int32))), .unset, .unset] [(.int (((p6.toUInt32 >>> ((2 : Int32) &&& 31).toUInt32).toInt32) &&& (3 : Int32)))])) _
    refine XS.iconst X10.here hx rfl (hb hby at_105) ?_
    show Steps p.tables e below (T10.setTop (mkF m 106 #[.val (.int p1), .val (.int p2), .val (.int p3), .val (.int p4), .val (.int p5), .val (.int p6), .val (.int ((p1 &&& (2147483647 : Int32)) % (100000 : Int32))), .val (.int ((p2 &&& (2147483647 : Int32)) % (100000 : Int32))), .val (.int L2), .val (.int B2), .val (.ref w1), .val (.ref w2), .val (.ref b9), .val (.int (((p6.toUInt32 >>> ((2 : Int32) &&& 31).toUInt32).toInt32) &&& (3 : Int32))), .unset, .unset] [(.int (1 : Int32)), (.int (((p6.toUInt32 >>> ((2 : Int32) &&& 31).toUInt32).toInt32) &&& (3 : Int32)))])) _
    refine XS.icmpYes X10.here hx rfl (pc0 := 106) (pc' := 124) rfl (hb hby at_106) rfl (feq hc106).2 (by decide) (by decide) ?_
    show Steps p.tables e below (T10.setTop (mkF m 124 #[.val (.int p1), .val (.int p2), .val (.int p3), .val (.int p4), .val (.int p5), .val (.int p6), .val (.int ((p1 &&& (2147483647 : Int32)) % (100000 : Int32))), .val (.int ((p2 &&& (2147483647 : Int32)) % (100000 : Int32))), .val (.int L2), .val (.int B2), .val (.ref w1), .val (.ref w2), .val (.ref b9), .val (.int (((p6.toUInt32 >>> ((2 : Int32) &&& 31).toUInt32).toInt32) &&& (3 : Int32))), .unset, .unset] [])) _
    refine XS.iload X10.here hx rfl (hb hby at_124) rfl ?_
    show Steps p.tables e below (T10.setTop (mkF m 126 #[.val (.int p1), .val (.int p2), .val (.int p3), .val (.int p4), .val (.int p5), .val (.int p6), .val (.int ((p1 &&& (2147483647 : Int32)) % (100000 : Int32))), .val (.int ((p2 &&& (2147483647 : Int32)) % (100000 : Int32))), .val (.int L2), .val (.int B2), .val (.ref w1), .val (.ref w2), .val (.ref b9), .val (.int (((p6.toUInt32 >>> ((2 : Int32) &&& 31).toUInt32).toInt32) &&& (3 : Int32))), .unset, .unset] [(.int (((p6.toUInt32 >>> ((2 : Int32) &&& 31).toUInt32).toInt32) &&& (3 : Int32)))])) _
    refine XS.iconst X10.here hx rfl (hb hby at_126) ?_
    show Steps p.tables e below (T10.setTop (mkF m 127 #[.val (.int p1), .val (.int p2), .val (.int p3), .val (.int p4), .val (.int p5), .val (.int p6), .val (.int ((p1 &&& (2147483647 : Int32)) % (100000 : Int32))), .val (.int ((p2 &&& (2147483647 : Int32)) % (100000 : Int32))), .val (.int L2), .val (.int B2), .val (.ref w1), .val (.ref w2), .val (.ref b9), .val (.int (((p6.toUInt32 >>> ((2 : Int32) &&& 31).toUInt32).toInt32) &&& (3 : Int32))), .unset, .unset] [(.int (2 : Int32)), (.int (((p6.toUInt32 >>> ((2 : Int32) &&& 31).toUInt32).toInt32) &&& (3 : Int32)))])) _
    refine XS.icmpYes X10.here hx rfl (pc0 := 127) (pc' := 153) rfl (hb hby at_127) rfl (feq hc127).2 (by decide) (by decide) ?_
    show Steps p.tables e below (T10.setTop (mkF m 153 #[.val (.int p1), .val (.int p2), .val (.int p3), .val (.int p4), .val (.int p5), .val (.int p6), .val (.int ((p1 &&& (2147483647 : Int32)) % (100000 : Int32))), .val (.int ((p2 &&& (2147483647 : Int32)) % (100000 : Int32))), .val (.int L2), .val (.int B2), .val (.ref w1), .val (.ref w2), .val (.ref b9), .val (.int (((p6.toUInt32 >>> ((2 : Int32) &&& 31).toUInt32).toInt32) &&& (3 : Int32))), .unset, .unset] [])) _
    refine XS.iload X10.here hx rfl (hb hby at_153) rfl ?_
    show Steps p.tables e below (T10.setTop (mkF m 155 #[.val (.int p1), .val (.int p2), .val (.int p3), .val (.int p4), .val (.int p5), .val (.int p6), .val (.int ((p1 &&& (2147483647 : Int32)) % (100000 : Int32))), .val (.int ((p2 &&& (2147483647 : Int32)) % (100000 : Int32))), .val (.int L2), .val (.int B2), .val (.ref w1), .val (.ref w2), .val (.ref b9), .val (.int (((p6.toUInt32 >>> ((2 : Int32) &&& 31).toUInt32).toInt32) &&& (3 : Int32))), .unset, .unset] [(.int (((p6.toUInt32 >>> ((2 : Int32) &&& 31).toUInt32).toInt32) &&& (3 : Int32)))])) _
    refine XS.iconst X10.here hx rfl (hb hby at_155) ?_
    show Steps p.tables e below (T10.setTop (mkF m 156 #[.val (.int p1), .val (.int p2), .val (.int p3), .val (.int p4), .val (.int p5), .val (.int p6), .val (.int ((p1 &&& (2147483647 : Int32)) % (100000 : Int32))), .val (.int ((p2 &&& (2147483647 : Int32)) % (100000 : Int32))), .val (.int L2), .val (.int B2), .val (.ref w1), .val (.ref w2), .val (.ref b9), .val (.int (((p6.toUInt32 >>> ((2 : Int32) &&& 31).toUInt32).toInt32) &&& (3 : Int32))), .unset, .unset] [(.int (3 : Int32)), (.int (((p6.toUInt32 >>> ((2 : Int32) &&& 31).toUInt32).toInt32) &&& (3 : Int32)))])) _
    refine XS.icmpYes X10.here hx rfl (pc0 := 156) (pc' := 167) rfl (hb hby at_156) rfl (feq hc156).2 (by decide) (by decide) ?_
    show Steps p.tables e below (T10.setTop (mkF m 167 #[.val (.int p1), .val (.int p2), .val (.int p3), .val (.int p4), .val (.int p5), .val (.int p6), .val (.int ((p1 &&& (2147483647 : Int32)) % (100000 : Int32))), .val (.int ((p2 &&& (2147483647 : Int32)) % (100000 : Int32))), .val (.int L2), .val (.int B2), .val (.ref w1), .val (.ref w2), .val (.ref b9), .val (.int (((p6.toUInt32 >>> ((2 : Int32) &&& 31).toUInt32).toInt32) &&& (3 : Int32))), .unset, .unset] [])) _
    refine st11 _ ?_
    show Steps p.tables e below (T11.setTop (mkF m 170 #[.val (.int p1), .val (.int p2), .val (.int p3), .val (.int p4), .val (.int p5), .val (.int p6), .val (.int ((p1 &&& (2147483647 : Int32)) % (100000 : Int32))), .val (.int ((p2 &&& (2147483647 : Int32)) % (100000 : Int32))), .val (.int L2), .val (.int B2), .val (.ref w1), .val (.ref w2), .val (.ref b9), .val (.int (((p6.toUInt32 >>> ((2 : Int32) &&& 31).toUInt32).toInt32) &&& (3 : Int32))), .unset, .unset] [(.ref b11)])) _
    refine XS.dup X11.here hx rfl (hb hby at_170) rfl rfl ?_
    show Steps p.tables e below (T11.setTop (mkF m 171 #[.val (.int p1), .val (.int p2), .val (.int p3), .val (.int p4), .val (.int p5), .val (.int p6), .val (.int ((p1 &&& (2147483647 : Int32)) % (100000 : Int32))), .val (.int ((p2 &&& (2147483647 : Int32)) % (100000 : Int32))), .val (.int L2), .val (.int B2), .val (.ref w1), .val (.ref w2), .val (.ref b9), .val (.int (((p6.toUInt32 >>> ((2 : Int32) &&& 31).toUInt32).toInt32) &&& (3 : Int32))), .unset, .unset] [(.ref b11), (.ref b11)])) _
    refine XS.iload X11.here hx rfl (hb hby at_171) rfl ?_
    show Steps p.tables e below (T11.setTop (mkF m 173 #[.val (.int p1), .val (.int p2), .val (.int p3), .val (.int p4), .val (.int p5), .val (.int p6), .val (.int ((p1 &&& (2147483647 : Int32)) % (100000 : Int32))), .val (.int ((p2 &&& (2147483647 : Int32)) % (100000 : Int32))), .val (.int L2), .val (.int B2), .val (.ref w1), .val (.ref w2), .val (.ref b9), .val (.int (((p6.toUInt32 >>> ((2 : Int32) &&& 31).toUInt32).toInt32) &&& (3 : Int32))), .unset, .unset] [(.int L2), (.ref b11), (.ref b11)])) _
    refine XS.aload X11.here hx rfl (hb hby at_173) rfl rfl ?_
    show Steps p.tables e below (T11.setTop (mkF m 175 #[.val (.int p1), .val (.int p2), .val (.int p3), .val (.int p4), .val (.int p5), .val (.int p6), .val (.int ((p1 &&& (2147483647 : Int32)) % (100000 : Int32))), .val (.int ((p2 &&& (2147483647 : Int32)) % (100000 : Int32))), .val (.int L2), .val (.int B2), .val (.ref w1), .val (.ref w2), .val (.ref b9), .val (.int (((p6.toUInt32 >>> ((2 : Int32) &&& 31).toUInt32).toInt32) &&& (3 : Int32))), .unset, .unset] [(.ref w2), (.int L2), (.ref b11), (.ref b11)])) _
    refine XS.iload X11.here hx rfl (hb hby at_175) rfl ?_
    show Steps p.tables e below (T11.setTop (mkF m 177 #[.val (.int p1), .val (.int p2), .val (.int p3), .val (.int p4), .val (.int p5), .val (.int p6), .val (.int ((p1 &&& (2147483647 : Int32)) % (100000 : Int32))), .val (.int ((p2 &&& (2147483647 : Int32)) % (100000 : Int32))), .val (.int L2), .val (.int B2), .val (.ref w1), .val (.ref w2), .val (.ref b9), .val (.int (((p6.toUInt32 >>> ((2 : Int32) &&& 31).toUInt32).toInt32) &&& (3 : Int32))), .unset, .unset] [(.int B2), (.ref w2), (.int L2), (.ref b11), (.ref b11)])) _
    refine st12.trans ?_
    show Steps p.tables e below (T12.setTop (mkF m 180 #[.val (.int p1), .val (.int p2), .val (.int p3), .val (.int p4), .val (.int p5), .val (.int p6), .val (.int ((p1 &&& (2147483647 : Int32)) % (100000 : Int32))), .val (.int ((p2 &&& (2147483647 : Int32)) % (100000 : Int32))), .val (.int L2), .val (.int B2), .val (.ref w1), .val (.ref w2), .val (.ref b9), .val (.int (((p6.toUInt32 >>> ((2 : Int32) &&& 31).toUInt32).toInt32) &&& (3 : Int32))), .unset, .unset] [(.ref b11)])) _
    refine XS.astore X12.here hx rfl (hb hby at_180) rfl rfl (l' := #[.val (.int p1), .val (.int p2), .val (.int p3), .val (.int p4), .val (.int p5), .val (.int p6), .val (.int ((p1 &&& (2147483647 : Int32)) % (100000 : Int32))), .val (.int ((p2 &&& (2147483647 : Int32)) % (100000 : Int32))), .val (.int L2), .val (.int B2), .val (.ref w1), .val (.ref w2), .val (.ref b9), .val (.int (((p6.toUInt32 >>> ((2 : Int32) &&& 31).toUInt32).toInt32) &&& (3 : Int32))), .val (.ref b11), .unset]) rfl ?_
    show Steps p.tables e below (T12.setTop (mkF m 182 #[.val (.int p1), .val (.int p2), .val (.int p3), .val (.int p4), .val (.int p5), .val (.int p6), .val (.int ((p1 &&& (2147483647 : Int32)) % (100000 : Int32))), .val (.int ((p2 &&& (2147483647 : Int32)) % (100000 : Int32))), .val (.int L2), .val (.int B2), .val (.ref w1), .val (.ref w2), .val (.ref b9), .val (.int (((p6.toUInt32 >>> ((2 : Int32) &&& 31).toUInt32).toInt32) &&& (3 : Int32))), .val (.ref b11), .unset] [])) _
    refine XS.iload X12.here hx rfl (hb hby at_182) rfl ?_
    show Steps p.tables e below (T12.setTop (mkF m 184 #[.val (.int p1), .val (.int p2), .val (.int p3), .val (.int p4), .val (.int p5), .val (.int p6), .val (.int ((p1 &&& (2147483647 : Int32)) % (100000 : Int32))), .val (.int ((p2 &&& (2147483647 : Int32)) % (100000 : Int32))), .val (.int L2), .val (.int B2), .val (.ref w1), .val (.ref w2), .val (.ref b9), .val (.int (((p6.toUInt32 >>> ((2 : Int32) &&& 31).toUInt32).toInt32) &&& (3 : Int32))), .val (.ref b11), .unset] [(.int ((p1 &&& (2147483647 : Int32)) % (100000 : Int32)))])) _
    refine XS.iload X12.here hx rfl (hb hby at_184) rfl ?_
    show Steps p.tables e below (T12.setTop (mkF m 186 #[.val (.int p1), .val (.int p2), .val (.int p3), .val (.int p4), .val (.int p5), .val (.int p6), .val (.int ((p1 &&& (2147483647 : Int32)) % (100000 : Int32))), .val (.int ((p2 &&& (2147483647 : Int32)) % (100000 : Int32))), .val (.int L2), .val (.int B2), .val (.ref w1), .val (.ref w2), .val (.ref b9), .val (.int (((p6.toUInt32 >>> ((2 : Int32) &&& 31).toUInt32).toInt32) &&& (3 : Int32))), .val (.ref b11), .unset] [(.int L2), (.int ((p1 &&& (2147483647 : Int32)) % (100000 : Int32)))])) _
    refine XS.icmpNo X12.here hx rfl (hb hby at_186) rfl (teq hc186).2 ?_
    show Steps p.tables e below (T12.setTop (mkF m 189 #[.val (.int p1), .val (.int p2), .val (.int p3), .val (.int p4), .val (.int p5), .val (.int p6), .val (.int ((p1 &&& (2147483647 : Int32)) % (100000 : Int32))), .val (.int ((p2 &&& (2147483647 : Int32)) % (100000 : Int32))), .val (.int L2), .val (.int B2), .val (.ref w1), .val (.ref w2), .val (.ref b9), .val (.int (((p6.toUInt32 >>> ((2 : Int32) &&& 31).toUInt32).toInt32) &&& (3 : Int32))), .val (.ref b11), .unset] [])) _
    refine XS.aload X12.here hx rfl (hb hby at_189) rfl rfl ?_
    show Steps p.tables e below (T12.setTop (mkF m 191 #[.val (.int p1), .val (.int p2), .val (.int p3), .val (.int p4), .val (.int p5), .val (.int p6), .val (.int ((p1 &&& (2147483647 : Int32)) % (100000 : Int32))), .val (.int ((p2 &&& (2147483647 : Int32)) % (100000 : Int32))), .val (.int L2), .val (.int B2), .val (.ref w1), .val (.ref w2), .val (.ref b9), .val (.int (((p6.toUInt32 >>> ((2 : Int32) &&& 31).toUInt32).toInt32) &&& (3 : Int32))), .val (.ref b11), .unset] [(.ref w1)])) _
    refine XS.aload X12.here hx rfl (hb hby at_191) rfl rfl ?_
    show Steps p.tables e below (T12.setTop (mkF m 193 #[.val (.int p1), .val (.int p2), .val (.int p3), .val (.int p4), .val (.int p5), .val (.int p6), .val (.int ((p1 &&& (2147483647 : Int32)) % (100000 : Int32))), .val (.int ((p2 &&& (2147483647 : Int32)) % (100000 : Int32))), .val (.int L2), .val (.int B2), .val (.ref w1), .val (.ref w2), .val (.ref b9), .val (.int (((p6.toUInt32 >>> ((2 : Int32) &&& 31).toUInt32).toInt32) &&& (3 : Int32))), .val (.ref b11), .unset] [(.ref w2), (.ref w1)])) _
    refine Jvm.RoadKit.acmp (g := (mkF m 193 #[.val (.int p1), .val (.int p2), .val (.int p3), .val (.int p4), .val (.int p5), .val (.int p6), .val (.int ((p1 &&& (2147483647 : Int32)) % (100000 : Int32))), .val (.int ((p2 &&& (2147483647 : Int32)) % (100000 : Int32))), .val (.int L2), .val (.int B2), .val (.ref w1), .val (.ref w2), .val (.ref b9), .val (.int (((p6.toUInt32 >>> ((2 : Int32) &&& 31).toUInt32).toInt32) &&& (3 : Int32))), .val (.ref b11), .unset] [(.ref w2), (.ref w1)])) X12 hx rfl rfl rfl (pc0 := 193) (pc' := 207) (same := false) rfl (hb hby at_193) rfl (decide_eq_false fun q => ha193 (Value.ref.inj q)) (by decide) (by decide) ?_
    show Steps p.tables e below (T12.setTop (mkF m 207 #[.val (.int p1), .val (.int p2), .val (.int p3), .val (.int p4), .val (.int p5), .val (.int p6), .val (.int ((p1 &&& (2147483647 : Int32)) % (100000 : Int32))), .val (.int ((p2 &&& (2147483647 : Int32)) % (100000 : Int32))), .val (.int L2), .val (.int B2), .val (.ref w1), .val (.ref w2), .val (.ref b9), .val (.int (((p6.toUInt32 >>> ((2 : Int32) &&& 31).toUInt32).toInt32) &&& (3 : Int32))), .val (.ref b11), .unset] [])) _
    refine XS.iconst X12.here hx rfl (hb hby at_207) ?_
    show Steps p.tables e below (T12.setTop (mkF m 208 #[.val (.int p1), .val (.int p2), .val (.int p3), .val (.int p4), .val (.int p5), .val (.int p6), .val (.int ((p1 &&& (2147483647 : Int32)) % (100000 : Int32))), .val (.int ((p2 &&& (2147483647 : Int32)) % (100000 : Int32))), .val (.int L2), .val (.int B2), .val (.ref w1), .val (.ref w2), .val (.ref b9), .val (.int (((p6.toUInt32 >>> ((2 : Int32) &&& 31).toUInt32).toInt32) &&& (3 : Int32))), .val (.ref b11), .unset] [(.int (0 : Int32))])) _
    refine XS.istore X12.here hx rfl (hb hby at_208) rfl (l' := #[.val (.int p1), .val (.int p2), .val (.int p3), .val (.int p4), .val (.int p5), .val (.int p6), .val (.int ((p1 &&& (2147483647 : Int32)) % (100000 : Int32))), .val (.int ((p2 &&& (2147483647 : Int32)) % (100000 : Int32))), .val (.int L2), .val (.int B2), .val (.ref w1), .val (.ref w2), .val (.ref b9), .val (.int (((p6.toUInt32 >>> ((2 : Int32) &&& 31).toUInt32).toInt32) &&& (3 : Int32))), .val (.ref b11), .val (.int (0 : Int32))]) rfl ?_
    show Steps p.tables e below (T12.setTop (mkF m 210 #[.val (.int p1), .val (.int p2), .val (.int p3), .val (.int p4), .val (.int p5), .val (.int p6), .val (.int ((p1 &&& (2147483647 : Int32)) % (100000 : Int32))), .val (.int ((p2 &&& (2147483647 : Int32)) % (100000 : Int32))), .val (.int L2), .val (.int B2), .val (.ref w1), .val (.ref w2), .val (.ref b9), .val (.int (((p6.toUInt32 >>> ((2 : Int32) &&& 31).toUInt32).toInt32) &&& (3 : Int32))), .val (.ref b11), .val (.int (0 : Int32))] [])) _
    refine XS.aload X12.here hx rfl (hb hby at_210) rfl rfl ?_
    show Steps p.tables e below (T12.setTop (mkF m 212 #[.val (.int p1), .val (.int p2), .val (.int p3), .val (.int p4), .val (.int p5), .val (.int p6), .val (.int ((p1 &&& (2147483647 : Int32)) % (100000 : Int32))), .val (.int ((p2 &&& (2147483647 : Int32)) % (100000 : Int32))), .val (.int L2), .val (.int B2), .val (.ref w1), .val (.ref w2), .val (.ref b9), .val (.int (((p6.toUInt32 >>> ((2 : Int32) &&& 31).toUInt32).toInt32) &&& (3 : Int32))), .val (.ref b11), .val (.int (0 : Int32))] [(.ref b9)])) _
    refine XS.aload X12.here hx rfl (hb hby at_212) rfl rfl ?_
    show Steps p.tables e below (T12.setTop (mkF m 214 #[.val (.int p1), .val (.int p2), .val (.int p3), .val (.int p4), .val (.int p5), .val (.int p6), .val (.int ((p1 &&& (2147483647 : Int32)) % (100000 : Int32))), .val (.int ((p2 &&& (2147483647 : Int32)) % (100000 : Int32))), .val (.int L2), .val (.int B2), .val (.ref w1), .val (.ref w2), .val (.ref b9), .val (.int (((p6.toUInt32 >>> ((2 : Int32) &&& 31).toUInt32).toInt32) &&& (3 : Int32))), .val (.ref b11), .val (.int (0 : Int32))] [(.ref b11), (.ref b9)])) _
    refine st13.trans ?_
    show Steps p.tables e below (T13.setTop (mkF m 217 #[.val (.int p1), .val (.int p2), .val (.int p3), .val (.int p4), .val (.int p5), .val (.int p6), .val (.int ((p1 &&& (2147483647 : Int32)) % (100000 : Int32))), .val (.int ((p2 &&& (2147483647 : Int32)) % (100000 : Int32))), .val (.int L2), .val (.int B2), .val (.ref w1), .val (.ref w2), .val (.ref b9), .val (.int (((p6.toUInt32 >>> ((2 : Int32) &&& 31).toUInt32).toInt32) &&& (3 : Int32))), .val (.ref b11), .val (.int (0 : Int32))] [(.int (0 : Int32))])) _
    refine XS.iload X13.here hx rfl (hb hby at_217) rfl ?_
    show Steps p.tables e below (T13.setTop (mkF m 219 #[.val (.int p1), .val (.int p2), .val (.int p3), .val (.int p4), .val (.int p5), .val (.int p6), .val (.int ((p1 &&& (2147483647 : Int32)) % (100000 : Int32))), .val (.int ((p2 &&& (2147483647 : Int32)) % (100000 : Int32))), .val (.int L2), .val (.int B2), .val (.ref w1), .val (.ref w2), .val (.ref b9), .val (.int (((p6.toUInt32 >>> ((2 : Int32) &&& 31).toUInt32).toInt32) &&& (3 : Int32))), .val (.ref b11), .val (.int (0 : Int32))] [(.int (0 : Int32)), (.int (0 : Int32))])) _
    refine XS.icmpNo X13.here hx rfl (hb hby at_219) rfl (teq (rfl : (0 : Int32) = (0 : Int32))).2 ?_
    show Steps p.tables e below (T13.setTop (mkF m 222 #[.val (.int p1), .val (.int p2), .val (.int p3), .val (.int p4), .val (.int p5), .val (.int p6), .val (.int ((p1 &&& (2147483647 : Int32)) % (100000 : Int32))), .val (.int ((p2 &&& (2147483647 : Int32)) % (100000 : Int32))), .val (.int L2), .val (.int B2), .val (.ref w1), .val (.ref w2), .val (.ref b9), .val (.int (((p6.toUInt32 >>> ((2 : Int32) &&& 31).toUInt32).toInt32) &&& (3 : Int32))), .val (.ref b11), .val (.int (0 : Int32))] [])) _
    refine XS.aload X13.here hx rfl (hb hby at_222) rfl rfl ?_
    show Steps p.tables e below (T13.setTop (mkF m 224 #[.val (.int p1), .val (.int p2), .val (.int p3), .val (.int p4), .val (.int p5), .val (.int p6), .val (.int ((p1 &&& (2147483647 : Int32)) % (100000 : Int32))), .val (.int ((p2 &&& (2147483647 : Int32)) % (100000 : Int32))), .val (.int L2), .val (.int B2), .val (.ref w1), .val (.ref w2), .val (.ref b9), .val (.int (((p6.toUInt32 >>> ((2 : Int32) &&& 31).toUInt32).toInt32) &&& (3 : Int32))), .val (.ref b11), .val (.int (0 : Int32))] [(.ref b11)])) _
    refine XS.aload X13.here hx rfl (hb hby at_224) rfl rfl ?_
    show Steps p.tables e below (T13.setTop (mkF m 226 #[.val (.int p1), .val (.int p2), .val (.int p3), .val (.int p4), .val (.int p5), .val (.int p6), .val (.int ((p1 &&& (2147483647 : Int32)) % (100000 : Int32))), .val (.int ((p2 &&& (2147483647 : Int32)) % (100000 : Int32))), .val (.int L2), .val (.int B2), .val (.ref w1), .val (.ref w2), .val (.ref b9), .val (.int (((p6.toUInt32 >>> ((2 : Int32) &&& 31).toUInt32).toInt32) &&& (3 : Int32))), .val (.ref b11), .val (.int (0 : Int32))] [(.ref b9), (.ref b11)])) _
    refine st14.trans ?_
    show Steps p.tables e below (T14.setTop (mkF m 229 #[.val (.int p1), .val (.int p2), .val (.int p3), .val (.int p4), .val (.int p5), .val (.int p6), .val (.int ((p1 &&& (2147483647 : Int32)) % (100000 : Int32))), .val (.int ((p2 &&& (2147483647 : Int32)) % (100000 : Int32))), .val (.int L2), .val (.int B2), .val (.ref w1), .val (.ref w2), .val (.ref b9), .val (.int (((p6.toUInt32 >>> ((2 : Int32) &&& 31).toUInt32).toInt32) &&& (3 : Int32))), .val (.ref b11), .val (.int (0 : Int32))] [(.int (0 : Int32))])) _
    refine XS.iload X14.here hx rfl (hb hby at_229) rfl ?_
    show Steps p.tables e below (T14.setTop (mkF m 231 #[.val (.int p1), .val (.int p2), .val (.int p3), .val (.int p4), .val (.int p5), .val (.int p6), .val (.int ((p1 &&& (2147483647 : Int32)) % (100000 : Int32))), .val (.int ((p2 &&& (2147483647 : Int32)) % (100000 : Int32))), .val (.int L2), .val (.int B2), .val (.ref w1), .val (.ref w2), .val (.ref b9), .val (.int (((p6.toUInt32 >>> ((2 : Int32) &&& 31).toUInt32).toInt32) &&& (3 : Int32))), .val (.ref b11), .val (.int (0 : Int32))] [(.int (0 : Int32)), (.int (0 : Int32))])) _
    refine XS.icmpNo X14.here hx rfl (hb hby at_231) rfl (teq (rfl : (0 : Int32) = (0 : Int32))).2 ?_
    show Steps p.tables e below (T14.setTop (mkF m 234 #[.val (.int p1), .val (.int p2), .val (.int p3), .val (.int p4), .val (.int p5), .val (.int p6), .val (.int ((p1 &&& (2147483647 : Int32)) % (100000 : Int32))), .val (.int ((p2 &&& (2147483647 : Int32)) % (100000 : Int32))), .val (.int L2), .val (.int B2), .val (.ref w1), .val (.ref w2), .val (.ref b9), .val (.int (((p6.toUInt32 >>> ((2 : Int32) &&& 31).toUInt32).toInt32) &&& (3 : Int32))), .val (.ref b11), .val (.int (0 : Int32))] [])) _
    refine XS.iconst X14.here hx rfl (hb hby at_234) ?_
    show Steps p.tables e below (T14.setTop (mkF m 235 #[.val (.int p1), .val (.int p2), .val (.int p3), .val (.int p4), .val (.int p5), .val (.int p6), .val (.int ((p1 &&& (2147483647 : Int32)) % (100000 : Int32))), .val (.int ((p2 &&& (2147483647 : Int32)) % (100000 : Int32))), .val (.int L2), .val (.int B2), .val (.ref w1), .val (.ref w2), .val (.ref b9), .val (.int (((p6.toUInt32 >>> ((2 : Int32) &&& 31).toUInt32).toInt32) &&& (3 : Int32))), .val (.ref b11), .val (.int (0 : Int32))] [(.int (1 : Int32))])) _
    refine XS.goto X14.here hx rfl (pc0 := 235) (pc' := 239) rfl (hb hby at_235) (by decide) (by decide) ?_
    show Steps p.tables e below (T14.setTop (mkF m 239 #[.val (.int p1), .val (.int p2), .val (.int p3), .val (.int p4), .val (.int p5), .val (.int p6), .val (.int ((p1 &&& (2147483647 : Int32)) % (100000 : Int32))), .val (.int ((p2 &&& (2147483647 : Int32)) % (100000 : Int32))), .val (.int L2), .val (.int B2), .val (.ref w1), .val (.ref w2), .val (.ref b9), .val (.int (((p6.toUInt32 >>> ((2 : Int32) &&& 31).toUInt32).toInt32) &&& (3 : Int32))), .val (.ref b11), .val (.int (0 : Int32))] [(.int (1 : Int32))])) _
    exact retN X14 hx (t := .boolean) Bd.returns (by simp) (hb hby at_239) hr
  · show Q0 h0 n0 _ T14.heap _
    rw [eq14]
    exact ⟨rfl, N14⟩
set_option maxRecDepth 65536 in
set_option maxHeartbeats 40000000 in
theorem rm0_tttfftff (l : Launch) (Z : State) (a0 : Array Value) (hw : ∀ d ∈ tables_1, d.before a0 Z = true) (ws : List Jvm.Cond) (p1 : Int32) (p2 : Int32) (p3 : Int32) (p4 : Int32) (p5 : Int32) (p6 : Int32) (L2 : Int32) (B2 : Int32) (w1 w2 : Addr) (wC : Int32) (h0 : Heap) (n0 : Nat) (Z0 : n0 ≤ h0.size) (HL : (((p6 &&& (1 : Int32)) = (0 : Int32) ∧ L2 = (p3 &&& (2147483647 : Int32)) % (100000 : Int32)) ∨ (¬ (p6 &&& (1 : Int32)) = (0 : Int32) ∧ L2 = ((p1 &&& (2147483647 : Int32)) % (100000 : Int32))))) (HB : (((p6 &&& (2 : Int32)) = (0 : Int32) ∧ B2 = (p4 &&& (2147483647 : Int32)) % (100000 : Int32)) ∨ (¬ (p6 &&& (2 : Int32)) = (0 : Int32) ∧ B2 = ((p2 &&& (2147483647 : Int32)) % (100000 : Int32))))) (H1 : ((p5 &&& (3 : Int32)) = 0 ∧ Sta Z h0 "com/example/fieldwright/fieldwright/mater/RecordLabel$Status" "NEW" "Lcom/example/fieldwright/fieldwright/mater/RecordLabel$Status;" (.ref w1)) ∨ ((p5 &&& (3 : Int32)) = 1 ∧ Sta Z h0 "com/example/fieldwright/fieldwright/mater/RecordLabel$Status" "AMENDED" "Lcom/example/fieldwright/fieldwright/mater/RecordLabel$Status;" (.ref w1)) ∨ ((p5 &&& (3 : Int32)) = 2 ∧ Sta Z h0 "com/example/fieldwright/fieldwright/mater/RecordLabel$Status" "DELETED" "Lcom/example/fieldwright/fieldwright/mater/RecordLabel$Status;" (.ref w1)) ∨ ((p5 &&& (3 : Int32)) = 3 ∧ Sta Z h0 "com/example/fieldwright/fieldwright/mater/RecordLabel$Status" "INFORMATION" "Lcom/example/fieldwright/fieldwright/mater/RecordLabel$Status;" (.ref w1))) (H2 : ((((p5.toUInt32 >>> ((2 : Int32) &&& 31).toUInt32).toInt32) &&& (3 : Int32)) = 0 ∧ Sta Z h0 "com/example/fieldwright/fieldwright/mater/RecordLabel$Status" "NEW" "Lcom/example/fieldwright/fieldwright/mater/RecordLabel$Status;" (.ref w2)) ∨ ((((p5.toUInt32 >>> ((2 : Int32) &&& 31).toUInt32).toInt32) &&& (3 : Int32)) = 1 ∧ Sta Z h0 "com/example/fieldwright/fieldwright/mater/RecordLabel$Status" "AMENDED" "Lcom/example/fieldwright/fieldwright/mater/RecordLabel$Status;" (.ref w2)) ∨ ((((p5.toUInt32 >>> ((2 : Int32) &&& 31).toUInt32).toInt32) &&& (3 : Int32)) = 2 ∧ Sta Z h0 "com/example/fieldwright/fieldwright/mater/RecordLabel$Status" "DELETED" "Lcom/example/fieldwright/fieldwright/mater/RecordLabel$Status;" (.ref w2)) ∨ ((((p5.toUInt32 >>> ((2 : Int32) &&& 31).toUInt32).toInt32) &&& (3 : Int32)) = 3 ∧ Sta Z h0 "com/example/fieldwright/fieldwright/mater/RecordLabel$Status" "INFORMATION" "Lcom/example/fieldwright/fieldwright/mater/RecordLabel$Status;" (.ref w2))) (E1 : Exa Z h0 w1 "com/example/fieldwright/fieldwright/mater/RecordLabel$Status") (E2 : Exa Z h0 w2 "com/example/fieldwright/fieldwright/mater/RecordLabel$Status") (SC : Sta Z h0 "java/lang/String" "COMPACT_STRINGS" "Z" (.int wC)) (hC : ¬ (wC = (0 : Int32))) (RL : ¬ (L2 < (0 : Int32)) ∧ ¬ ((99999 : Int32) < L2)) (RB : ¬ (B2 < (0 : Int32)) ∧ ¬ ((99999 : Int32) < B2)) (hc106 : ¬ ((((p6.toUInt32 >>> ((2 : Int32) &&& 31).toUInt32).toInt32) &&& (3 : Int32)) = (1 : Int32))) (hc127 : ¬ ((((p6.toUInt32 >>> ((2 : Int32) &&& 31).toUInt32).toInt32) &&& (3 : Int32)) = (2 : Int32))) (hc156 : ¬ ((((p6.toUInt32 >>> ((2 : Int32) &&& 31).toUInt32).toInt32) &&& (3 : Int32)) = (3 : Int32))) (hc186 : ((p1 &&& (2147483647 : Int32)) % (100000 : Int32)) = L2) (ha193 : w1 = w2) (hc200 : ¬ (((p2 &&& (2147483647 : Int32)) % (100000 : Int32)) = B2)) :
    MetFree l x (head1 (Jvm.Cond.code x code maxLocals ret :: ws) room_1) (fun a U => a = #[(.int p1), (.int p2), (.int p3), (.int p4), (.int p5), (.int p6)] ∧ Z.Warmed39 U.vm ∧ U.heap = h0) (fun _ _ _ _ _ => True) (fun _ U o U' => ∃ v L, o = .returned v ∧ Q0 h0 n0 v U'.heap L ∧ ReturnedEndW U o U' L room_1.cells room_1.slots) := by
  refine MetFree.of_bodySF (plainFor_of_name pn_0) hisR ?_
  intro p e s m args below meth c s₁ Bd hml0 hP hK
  obtain ⟨rfl, hZ, hh⟩ := hP
  have hx := Bd.exec
  have hby := Bd.bytes
  have hml : c.maxLocals = 16 := hml0
  have hown : s.vm.findClass "com/example/fieldwright/fieldwright/mater/RecordLabelEqualsPinLaw" = some m.cls := findClass_of_methodNamed Bd.named
  have hnm := (name_of_methodNamed Bd.named Bd.method).1
  have X0 : Stand p l e room_1 s m #[(.int p1), (.int p2), (.int p3), (.int p4), (.int p5), (.int p6)] below meth c s₁ [] 0 0 := Stand.of_body Bd
  have e0 : s₁.heap = h0 := by rw [← hh, Bd.state]; rfl
  have N0 := Fr.nil n0
  have pre0 : ∀ t, Steps p.tables e below (s₁.setTop (mkF m 0 #[.val (.int p1), .val (.int p2), .val (.int p3), .val (.int p4), .val (.int p5), .val (.int p6), .unset, .unset, .unset, .unset, .unset, .unset, .unset, .unset, .unset, .unset] [])) t → Steps p.tables e below (s₁.setTop (entryFrame m #[(.int p1), (.int p2), (.int p3), (.int p4), (.int p5), (.int p6)] maxLocals)) t := fun t k => castTop (ef_0 m p1 p2 p3 p4 p5 p6) k
  have hne : ¬ (((p1 &&& (2147483647 : Int32)) % (100000 : Int32)) = L2 ∧ w1 = w2 ∧ ((p2 &&& (2147483647 : Int32)) % (100000 : Int32)) = B2) := fun q => hc200 q.2.2
  have hZ00 := hZ
  have hown00 := hown
  have hS : s.Since s.vm h0.size := (State.WarmedH.refl s).since _
  have hk : h0.size ≤ h0.size := Nat.le_refl _
  obtain ⟨_, _, ⟨T7, L7, k7, n7⟩, -, X7, ⟨Lc7, hQ7, l7, y7, z7⟩, st7⟩ := Jvm.LawKit.callS X0 hx (y := (⟨"com/example/fieldwright/fieldwright/mater/RecordLabelEqualsPinLaw", "status", "(I)Lcom/example/fieldwright/fieldwright/mater/RecordLabel$Status;"⟩ : MethodName)) hown (mvT hZ (hw _ (List.mem_of_getElem? (i := 2) rfl))) (mvT hZ (hw _ (List.mem_of_getElem? (i := 3) rfl))) (mvT hZ (hw _ (List.mem_of_getElem? (i := 4) rfl))) (mvT hZ (hw _ (List.mem_of_getElem? (i := 5) rfl))) (by decide) (backOf (W := 0) (rm1 l Z a0 hw [] (p5 &&& (3 : Int32)) w1 h0 n0 Z0 H1) hZ (hw _ (List.mem_of_getElem? (i := 5) rfl)) (hw _ (List.mem_of_getElem? (i := 4) rfl)) (by decide) (by decide)) (g := (mkF m 64 #[.val (.int p1), .val (.int p2), .val (.int p3), .val (.int p4), .val (.int p5), .val (.int p6), .val (.int ((p1 &&& (2147483647 : Int32)) % (100000 : Int32))), .val (.int ((p2 &&& (2147483647 : Int32)) % (100000 : Int32))), .val (.int L2), .val (.int B2), .unset, .unset, .unset, .unset, .unset, .unset] [(.int (p5 &&& (3 : Int32)))])) rfl (by rw [hml]; rfl) (argsL := [(.int (p5 &&& (3 : Int32)))]) (rest := []) (lenOf pd_0_0 rfl) rfl (by show 2 * 0 + _ ≤ _; exact Nat.le_of_eq rfl) (hb hby at_64) (fun _ _ => ⟨rfl, e0, (by decide : 0 + 0 ≤ _), (by decide : 0 + 0 ≤ _)⟩)
  dsimp only [Pt.U, Pt.locs, Pt.cells, Pt.slots] at X7 l7 y7 z7 st7 hQ7
  subst l7 y7 z7
  obtain ⟨rfl, N7q, eq7⟩ := hQ7
  have N7 := Fr.app N0 N7q
  obtain ⟨_, _, ⟨T8, L8, k8, n8⟩, -, X8, ⟨Lc8, hQ8, l8, y8, z8⟩, st8⟩ := Jvm.LawKit.callS X7 hx (y := (⟨"com/example/fieldwright/fieldwright/mater/RecordLabelEqualsPinLaw", "status", "(I)Lcom/example/fieldwright/fieldwright/mater/RecordLabel$Status;"⟩ : MethodName)) hown (mvT hZ (hw _ (List.mem_of_getElem? (i := 2) rfl))) (mvT hZ (hw _ (List.mem_of_getElem? (i := 3) rfl))) (mvT hZ (hw _ (List.mem_of_getElem? (i := 4) rfl))) (mvT hZ (hw _ (List.mem_of_getElem? (i := 5) rfl))) (by decide) (backOf (W := 0) (rm1 l Z a0 hw [] (((p5.toUInt32 >>> ((2 : Int32) &&& 31).toUInt32).toInt32) &&& (3 : Int32)) w2 h0 n0 Z0 H2) hZ (hw _ (List.mem_of_getElem? (i := 5) rfl)) (hw _ (List.mem_of_getElem? (i := 4) rfl)) (by decide) (by decide)) (g := (mkF m 75 #[.val (.int p1), .val (.int p2), .val (.int p3), .val (.int p4), .val (.int p5), .val (.int p6), .val (.int ((p1 &&& (2147483647 : Int32)) % (100000 : Int32))), .val (.int ((p2 &&& (2147483647 : Int32)) % (100000 : Int32))), .val (.int L2), .val (.int B2), .val (.ref w1), .unset, .unset, .unset, .unset, .unset] [(.int (((p5.toUInt32 >>> ((2 : Int32) &&& 31).toUInt32).toInt32) &&& (3 : Int32)))])) rfl (by rw [hml]; rfl) (argsL := [(.int (((p5.toUInt32 >>> ((2 : Int32) &&& 31).toUInt32).toInt32) &&& (3 : Int32)))]) (rest := []) (lenOf pd_0_0 rfl) rfl (by show 2 * 0 + _ ≤ _; exact Nat.le_of_eq rfl) (hb hby at_75) (fun _ _ => ⟨rfl, eq7, (by decide : 0 + 0 ≤ _), (by decide : 0 + 0 ≤ _)⟩)
  dsimp only [Pt.U, Pt.locs, Pt.cells, Pt.slots] at X8 l8 y8 z8 st8 hQ8
  subst l8 y8 z8
  obtain ⟨rfl, N8q, eq8⟩ := hQ8
  have N8 := Fr.app N7 N8q
  obtain ⟨T9, h9, X9, e9, E9, A9, D9, -, st9⟩ := newO X8 hx hZ hown (hw _ (List.mem_of_getElem? (i := 9) rfl)) (hw _ (List.mem_of_getElem? (i := 10) rfl)) (hw _ (List.mem_of_getElem? (i := 11) rfl)) eq8 (g := (mkF m 80 #[.val (.int p1), .val (.int p2), .val (.int p3), .val (.int p4), .val (.int p5), .val (.int p6), .val (.int ((p1 &&& (2147483647 : Int32)) % (100000 : Int32))), .val (.int ((p2 &&& (2147483647 : Int32)) % (100000 : Int32))), .val (.int L2), .val (.int B2), .val (.ref w1), .val (.ref w2), .unset, .unset, .unset, .unset] [])) rfl (hb hby at_80) (by decide) (by decide)
  obtain ⟨b9, g9⟩ : ∃ z, z = h0.size := ⟨_, rfl⟩
  rw [← g9] at A9 D9 st9
  have F_recordLength_b9 : Fld Z h9 b9 "com/example/fieldwright/fieldwright/mater/RecordLabel" "recordLength" "I" (.int (0 : Int32)) := D9 (Or.inr (hw _ (List.mem_of_getElem? (i := 31) rfl))) (ty := .int) (by decide)
  have F_status_b9 : Fld Z h9 b9 "com/example/fieldwright/fieldwright/mater/RecordLabel" "status" "Lcom/example/fieldwright/fieldwright/mater/RecordLabel$Status;" .null := D9 (Or.inr (hw _ (List.mem_of_getElem? (i := 40) rfl))) (ty := (.object "com/example/fieldwright/fieldwright/mater/RecordLabel$Status")) (by decide)
  have F_baseAddress_b9 : Fld Z h9 b9 "com/example/fieldwright/fieldwright/mater/RecordLabel" "baseAddress" "I" (.int (0 : Int32)) := D9 (Or.inr (hw _ (List.mem_of_getElem? (i := 43) rfl))) (ty := .int) (by decide)
  have E_b9 := A9
  have g_b9 : n0 ≤ b9 := Nat.le_trans Z0 (Nat.le_of_eq g9.symm)
  have sz_b9 : h0.size ≤ b9 := (Nat.le_trans (Keep.refl h0 []).1 (Nat.le_of_eq g9.symm))
  have K9 : Keep h0 h9 [] := (Keep.refl h0 []).ext E9
  have hk := Nat.le_trans hk E9.1
  obtain ⟨_, _, ⟨T10, L10, k10, n10⟩, -, X10, hS10, hg10, ⟨Lc10, hQ10, l10, y10, z10⟩, st10⟩ := X9.specialBackS hx (y := (⟨"com/example/fieldwright/fieldwright/mater/RecordLabel", "<init>", "(ILcom/example/fieldwright/fieldwright/mater/RecordLabel$Status;I)V"⟩ : MethodName)) rfl hown (mvT hZ (hw _ (List.mem_of_getElem? (i := 12) rfl))) (mvT hZ (hw _ (List.mem_of_getElem? (i := 13) rfl))) (mvT hZ (hw _ (List.mem_of_getElem? (i := 14) rfl))) (by decide) (backOfS (W := 1) (rm2 l Z a0 hw [] b9 ((p1 &&& (2147483647 : Int32)) % (100000 : Int32)) w1 ((p2 &&& (2147483647 : Int32)) % (100000 : Int32)) (.int (0 : Int32)) .null (.int (0 : Int32)) h9 n0 (Nat.le_trans Z0 K9.1) (own_rng p1).1 (own_rng p1).2 (own_rng p2).1 (own_rng p2).2 E_b9 F_recordLength_b9 g_b9 (E1.keep K9) F_status_b9 F_baseAddress_b9) hZ (hw _ (List.mem_of_getElem? (i := 14) rfl)) (hw _ (List.mem_of_getElem? (i := 11) rfl)) (by decide) (by decide)) (g := (mkF m 90 #[.val (.int p1), .val (.int p2), .val (.int p3), .val (.int p4), .val (.int p5), .val (.int p6), .val (.int ((p1 &&& (2147483647 : Int32)) % (100000 : Int32))), .val (.int ((p2 &&& (2147483647 : Int32)) % (100000 : Int32))), .val (.int L2), .val (.int B2), .val (.ref w1), .val (.ref w2), .unset, .unset, .unset, .unset] [(.int ((p2 &&& (2147483647 : Int32)) % (100000 : Int32))), (.ref w1), (.int ((p1 &&& (2147483647 : Int32)) % (100000 : Int32))), (.ref b9), (.ref b9)])) rfl (by rw [hml]; rfl) (Steps.refl _) (a := b9) (argsL := [(.int ((p1 &&& (2147483647 : Int32)) % (100000 : Int32))), (.ref w1), (.int ((p2 &&& (2147483647 : Int32)) % (100000 : Int32)))]) (rest := [(.ref b9)]) (lenOf pd_0_1 rfl) rfl (by show 2 * 0 + _ ≤ _; exact Nat.le_of_eq rfl) (hb hby at_90) (fun _ _ => ⟨rfl, e9, (by decide : 1 + 6 ≤ _), (by decide : 3 + 136 ≤ _)⟩)
  dsimp only [Pt.U, Pt.locs, Pt.cells, Pt.slots] at X10 l10 y10 z10 st10 hQ10 hS10 hg10
  subst l10 y10 z10
  obtain ⟨rfl, N10q, Kq10, Eq10, F1_b9, F2_b9, F3_b9⟩ := hQ10
  have K10 : Keep h0 T10.heap [] := K9.trans Kq10 (fun x hx => by cases List.mem_singleton.mp hx; exact Or.inr sz_b9)
  have N10 := Fr.app N8 N10q
  obtain ⟨X10, hS, hZ, hown⟩ := rebS hS (show _ ≤ T9.heap.size by rw [e9]; exact hk) X10 hS10 hg10 hZ hown
  have hk := Nat.le_refl T10.heap.size
  obtain ⟨T11, h11, X11, e11, E11, A11, D11, -, st11⟩ := newO X10 hx hZ hown (hw _ (List.mem_of_getElem? (i := 9) rfl)) (hw _ (List.mem_of_getElem? (i := 10) rfl)) (hw _ (List.mem_of_getElem? (i := 11) rfl)) rfl (g := (mkF m 167 #[.val (.int p1), .val (.int p2), .val (.int p3), .val (.int p4), .val (.int p5), .val (.int p6), .val (.int ((p1 &&& (2147483647 : Int32)) % (100000 : Int32))), .val (.int ((p2 &&& (2147483647 : Int32)) % (100000 : Int32))), .val (.int L2), .val (.int B2), .val (.ref w1), .val (.ref w2), .val (.ref b9), .val (.int (((p6.toUInt32 >>> ((2 : Int32) &&& 31).toUInt32).toInt32) &&& (3 : Int32))), .unset, .unset] [])) rfl (hb hby at_167) (by decide) (by decide)
  obtain ⟨b11, g11⟩ : ∃ z, z = T10.heap.size := ⟨_, rfl⟩
  rw [← g11] at A11 D11 st11
  have F_recordLength_b11 : Fld Z h11 b11 "com/example/fieldwright/fieldwright/mater/RecordLabel" "recordLength" "I" (.int (0 : Int32)) := D11 (Or.inr (hw _ (List.mem_of_getElem? (i := 31) rfl))) (ty := .int) (by decide)
  have F_status_b11 : Fld Z h11 b11 "com/example/fieldwright/fieldwright/mater/RecordLabel" "status" "Lcom/example/fieldwright/fieldwright/mater/RecordLabel$Status;" .null := D11 (Or.inr (hw _ (List.mem_of_getElem? (i := 40) rfl))) (ty := (.object "com/example/fieldwright/fieldwright/mater/RecordLabel$Status")) (by decide)
  have F_baseAddress_b11 : Fld Z h11 b11 "com/example/fieldwright/fieldwright/mater/RecordLabel" "baseAddress" "I" (.int (0 : Int32)) := D11 (Or.inr (hw _ (List.mem_of_getElem? (i := 43) rfl))) (ty := .int) (by decide)
  have E_b11 := A11
  have g_b11 : n0 ≤ b11 := Nat.le_trans (Nat.le_trans (Nat.le_trans Z0 E9.1) Kq10.1) (Nat.le_of_eq g11.symm)
  have sz_b11 : h0.size ≤ b11 := (Nat.le_trans K10.1 (Nat.le_of_eq g11.symm))
  have K11 : Keep h0 h11 [] := K10.ext E11
  have hk := Nat.le_trans hk E11.1
  obtain ⟨_, _, ⟨T12, L12, k12, n12⟩, -, X12, hS12, hg12, ⟨Lc12, hQ12, l12, y12, z12⟩, st12⟩ := X11.specialBackS hx (y := (⟨"com/example/fieldwright/fieldwright/mater/RecordLabel", "<init>", "(ILcom/example/fieldwright/fieldwright/mater/RecordLabel$Status;I)V"⟩ : MethodName)) rfl hown (mvT hZ (hw _ (List.mem_of_getElem? (i := 12) rfl))) (mvT hZ (hw _ (List.mem_of_getElem? (i := 13) rfl))) (mvT hZ (hw _ (List.mem_of_getElem? (i := 14) rfl))) (by decide) (backOfS (W := 1) (rm2 l Z a0 hw [] b11 L2 w2 B2 (.int (0 : Int32)) .null (.int (0 : Int32)) h11 n0 (Nat.le_trans Z0 K11.1) RL.1 RL.2 RB.1 RB.2 E_b11 F_recordLength_b11 g_b11 (E2.keep K11) F_status_b11 F_baseAddress_b11) hZ (hw _ (List.mem_of_getElem? (i := 14) rfl)) (hw _ (List.mem_of_getElem? (i := 11) rfl)) (by decide) (by decide)) (g := (mkF m 177 #[.val (.int p1), .val (.int p2), .val (.int p3), .val (.int p4), .val (.int p5), .val (.int p6), .val (.int ((p1 &&& (2147483647 : Int32)) % (100000 : Int32))), .val (.int ((p2 &&& (2147483647 : Int32)) % (100000 : Int32))), .val (.int L2), .val (.int B2), .val (.ref w1), .val (.ref w2), .val (.ref b9), .val (.int (((p6.toUInt32 >>> ((2 : Int32) &&& 31).toUInt32).toInt32) &&& (3 : Int32))), .unset, .unset] [(.int B2), (.ref w2), (.int L2), (.ref b11), (.ref b11)])) rfl (by rw [hml]; rfl) (Steps.refl _) (a := b11) (argsL := [(.int L2), (.ref w2), (.int B2)]) (rest := [(.ref b11)]) (lenOf pd_0_1 rfl) rfl (by show 2 * 0 + _ ≤ _; exact Nat.le_of_eq rfl) (hb hby at_177) (fun _ _ => ⟨rfl, e11, (by decide : 8 + 6 ≤ _), (by decide : 142 + 136 ≤ _)⟩)
  dsimp only [Pt.U, Pt.locs, Pt.cells, Pt.slots] at X12 l12 y12 z12 st12 hQ12 hS12 hg12
  subst l12 y12 z12
  obtain ⟨rfl, N12q, Kq12, Eq12, F1_b11, F2_b11, F3_b11⟩ := hQ12
  have KA : Keep T10.heap T12.heap [] := ((Keep.refl T10.heap []).ext E11).trans Kq12 (fun x hx => by cases List.mem_singleton.mp hx; exact Or.inr (Nat.le_of_eq g11.symm))
  have K12 : Keep h0 T12.heap [] := K11.trans Kq12 (fun x hx => by cases List.mem_singleton.mp hx; exact Or.inr sz_b11)
  have N12 := Fr.app N10 N12q
  obtain ⟨X12, hS, hZ, hown⟩ := rebS hS (show _ ≤ T11.heap.size by rw [e11]; exact hk) X12 hS12 hg12 hZ hown
  have hk := Nat.le_refl T12.heap.size
  obtain ⟨cq13, kq13, q13a, q13b, q13c⟩ := isOf hZ rfl (((E_b9.keep Kq10).ext E11).keep Kq12)
  obtain ⟨_, _, ⟨T13, L13, k13, n13⟩, -, X13, ⟨Lc13, hQ13, l13, y13, z13⟩, st13⟩ := X12.virtualBack hx (y := (⟨"com/example/fieldwright/fieldwright/mater/RecordLabel", "equals", "(Ljava/lang/Object;)Z"⟩ : MethodName)) (z := (⟨"com/example/fieldwright/fieldwright/mater/RecordLabel", "equals", "(Ljava/lang/Object;)Z"⟩ : MethodName)) hown (mvT hZ (hw _ (List.mem_of_getElem? (i := 44) rfl))) (mvT hZ (hw _ (List.mem_of_getElem? (i := 45) rfl))) (notFace_of_selects (args := #[]) (mvT hZ (hw _ (List.mem_of_getElem? (i := 47) rfl)))) (mvT hZ (hw _ (List.mem_of_getElem? (i := 47) rfl))) (mvT hZ (hw _ (List.mem_of_getElem? (i := 46) rfl))) (by decide) (backOf (W := 0) (rm6_no l Z a0 hw [] b9 b11 ((p1 &&& (2147483647 : Int32)) % (100000 : Int32)) L2 w1 w2 ((p2 &&& (2147483647 : Int32)) % (100000 : Int32)) B2 T12.heap n0 (Nat.le_trans Z0 K12.1) Eq12 (F1_b9.keep KA List.not_mem_nil) (F2_b9.keep KA List.not_mem_nil) (F3_b9.keep KA List.not_mem_nil) F1_b11 F2_b11 F3_b11 hne) hZ (hw _ (List.mem_of_getElem? (i := 48) rfl)) (hw _ (List.mem_of_getElem? (i := 11) rfl)) (by decide) (by decide)) q13a q13c (g := (mkF m 214 #[.val (.int p1), .val (.int p2), .val (.int p3), .val (.int p4), .val (.int p5), .val (.int p6), .val (.int ((p1 &&& (2147483647 : Int32)) % (100000 : Int32))), .val (.int ((p2 &&& (2147483647 : Int32)) % (100000 : Int32))), .val (.int L2), .val (.int B2), .val (.ref w1), .val (.ref w2), .val (.ref b9), .val (.int (((p6.toUInt32 >>> ((2 : Int32) &&& 31).toUInt32).toInt32) &&& (3 : Int32))), .val (.ref b11), .val (.int (0 : Int32))] [(.ref b11), (.ref b9)])) rfl (by rw [hml]; rfl) (Steps.refl _) (argsL := [(.ref b11)]) (rest := []) (lenOf pd_0_5 rfl) rfl (by show 2 * 0 + _ ≤ _; exact Nat.le_of_eq rfl) (hb hby at_214) (fun _ _ => ⟨rfl, rfl, (by decide : 14 + 0 ≤ _), (by decide : 278 + 0 ≤ _)⟩)
  dsimp only [Pt.U, Pt.locs, Pt.cells, Pt.slots] at X13 l13 y13 z13 st13 hQ13
  subst l13 y13 z13
  obtain ⟨rfl, N13q, eq13⟩ := hQ13
  have N13 := Fr.app N12 N13q
  obtain ⟨cq14, kq14, q14a, q14b, q14c⟩ := isOf hZ eq13 (E_b11.keep Kq12)
  obtain ⟨_, _, ⟨T14, L14, k14, n14⟩, -, X14, ⟨Lc14, hQ14, l14, y14, z14⟩, st14⟩ := X13.virtualBack hx (y := (⟨"com/example/fieldwright/fieldwright/mater/RecordLabel", "equals", "(Ljava/lang/Object;)Z"⟩ : MethodName)) (z := (⟨"com/example/fieldwright/fieldwright/mater/RecordLabel", "equals", "(Ljava/lang/Object;)Z"⟩ : MethodName)) hown (mvT hZ (hw _ (List.mem_of_getElem? (i := 44) rfl))) (mvT hZ (hw _ (List.mem_of_getElem? (i := 45) rfl))) (notFace_of_selects (args := #[]) (mvT hZ (hw _ (List.mem_of_getElem? (i := 47) rfl)))) (mvT hZ (hw _ (List.mem_of_getElem? (i := 47) rfl))) (mvT hZ (hw _ (List.mem_of_getElem? (i := 46) rfl))) (by decide) (backOf (W := 0) (rm6_no l Z a0 hw [] b11 b9 L2 ((p1 &&& (2147483647 : Int32)) % (100000 : Int32)) w2 w1 B2 ((p2 &&& (2147483647 : Int32)) % (100000 : Int32)) T12.heap n0 (Nat.le_trans Z0 K12.1) (Eq10.keep KA) F1_b11 F2_b11 F3_b11 (F1_b9.keep KA List.not_mem_nil) (F2_b9.keep KA List.not_mem_nil) (F3_b9.keep KA List.not_mem_nil) (fun q => hne ⟨q.1.symm, q.2.1.symm, q.2.2.symm⟩)) hZ (hw _ (List.mem_of_getElem? (i := 48) rfl)) (hw _ (List.mem_of_getElem? (i := 11) rfl)) (by decide) (by decide)) q14a q14c (g := (mkF m 226 #[.val (.int p1), .val (.int p2), .val (.int p3), .val (.int p4), .val (.int p5), .val (.int p6), .val (.int ((p1 &&& (2147483647 : Int32)) % (100000 : Int32))), .val (.int ((p2 &&& (2147483647 : Int32)) % (100000 : Int32))), .val (.int L2), .val (.int B2), .val (.ref w1), .val (.ref w2), .val (.ref b9), .val (.int (((p6.toUInt32 >>> ((2 : Int32) &&& 31).toUInt32).toInt32) &&& (3 : Int32))), .val (.ref b11), .val (.int (0 : Int32))] [(.ref b9), (.ref b11)])) rfl (by rw [hml]; rfl) (Steps.refl _) (argsL := [(.ref b9)]) (rest := []) (lenOf pd_0_5 rfl) rfl (by show 2 * 0 + _ ≤ _; exact Nat.le_of_eq rfl) (hb hby at_226) (fun _ _ => ⟨rfl, eq13, (by decide : 14 + 0 ≤ _), (by decide : 278 + 0 ≤ _)⟩)
  dsimp only [Pt.U, Pt.locs, Pt.cells, Pt.slots] at X14 l14 y14 z14 st14 hQ14
  subst l14 y14 z14
  obtain ⟨rfl, N14q, eq14⟩ := hQ14
  have N14 := Fr.app N13 N14q
  obtain ⟨fs, hr, hrun, hended, hW1, hW2, hW3, hsame⟩ := X14.leaveW hS (show _ ≤ T14.heap.size by rw [eq14]; exact hk) (v := some (.int (1 : Int32))) (fun h => by rw [Bd.returns] at h; cases h)
  refine ⟨_, _, pre0 _ ?_, hrun, hended, _, _, rfl, ?_, hW1, hW2, hW3, hsame.mono (by decide) (by decide)⟩
  · show Steps p.tables e below (s₁.setTop (mkF m 0 #[.val (.int p1), .val (.int p2), .val (.int p3), .val (.int p4), .val (.int p5), .val (.int p6), .unset, .unset, .unset, .unset, .unset, .unset, .unset, .unset, .unset, .unset] [])) _
    refine XS.iloadN X0.here hx rfl (hb hby at_0) rfl ?_
    show Steps p.tables e below (s₁.setTop (mkF m 1 #[.val (.int p1), .val (.int p2), .val (.int p3), .val (.int p4), .val (.int p5), .val (.int p6), .unset, .unset, .unset, .unset, .unset, .unset, .unset, .unset, .unset, .unset] [(.int p1)])) _
    refine X0.ldcInt hx hown00 (mvT hZ00 (hw _ (List.mem_of_getElem? (i := 0) rfl))) (g := (mkF m 1 #[.val (.int p1), .val (.int p2), .val (.int p3), .val (.int p4), .val (.int p5), .val (.int p6), .unset, .unset, .unset, .unset, .unset, .unset, .unset, .unset, .unset, .unset] [(.int p1)])) rfl (hb hby at_1) _ ?_
    show Steps p.tables e below (s₁.setTop (mkF m 3 #[.val (.int p1), .val (.int p2), .val (.int p3), .val (.int p4), .val (.int p5), .val (.int p6), .unset, .unset, .unset, .unset, .unset, .unset, .unset, .unset, .unset, .unset] [(.int (2147483647 : Int32)), (.int p1)])) _
    refine XS.iand X0.here hx rfl (hb hby at_3) rfl ?_
    show Steps p.tables e below (s₁.setTop (mkF m 4 #[.val (.int p1), .val (.int p2), .val (.int p3), .val (.int p4), .val (.int p5), .val (.int p6), .unset, .unset, .unset, .unset, .unset, .unset, .unset, .unset, .unset, .unset] [(.int (p1 &&& (2147483647 : Int32)))])) _
    refine X0.ldcInt hx hown00 (mvT hZ00 (hw _ (List.mem_of_getElem? (i := 1) rfl))) (g := (mkF m 4 #[.val (.int p1), .val (.int p2), .val (.int p3), .val (.int p4), .val (.int p5), .val (.int p6), .unset, .unset, .unset, .unset, .unset, .unset, .unset, .unset, .unset, .unset] [(.int (p1 &&& (2147483647 : Int32)))])) rfl (hb hby at_4) _ ?_
    show Steps p.tables e below (s₁.setTop (mkF m 6 #[.val (.int p1), .val (.int p2), .val (.int p3), .val (.int p4), .val (.int p5), .val (.int p6), .unset, .unset, .unset, .unset, .unset, .unset, .unset, .unset, .unset, .unset] [(.int (100000 : Int32)), (.int (p1 &&& (2147483647 : Int32)))])) _
    refine iremM X0 hx rfl (hb hby at_6) rfl (by decide) ?_
    show Steps p.tables e below (s₁.setTop (mkF m 7 #[.val (.int p1), .val (.int p2), .val (.int p3), .val (.int p4), .val (.int p5), .val (.int p6), .unset, .unset, .unset, .unset, .unset, .unset, .unset, .unset, .unset, .unset] [(.int ((p1 &&& (2147483647 : Int32)) % (100000 : Int32)))])) _
    refine XS.istore X0.here hx rfl (hb hby at_7) rfl (l' := #[.val (.int p1), .val (.int p2), .val (.int p3), .val (.int p4), .val (.int p5), .val (.int p6), .val (.int ((p1 &&& (2147483647 : Int32)) % (100000 : Int32))), .unset, .unset, .unset, .unset, .unset, .unset, .unset, .unset, .unset]) rfl ?_
    show Steps p.tables e below (s₁.setTop (mkF m 9 #[.val (.int p1), .val (.int p2), .val (.int p3), .val (.int p4), .val (.int p5), .val (.int p6), .val (.int ((p1 &&& (2147483647 : Int32)) % (100000 : Int32))), .unset, .unset, .unset, .unset, .unset, .unset, .unset, .unset, .unset] [])) _
    refine XS.iloadN X0.here hx rfl (hb hby at_9) rfl ?_
    show Steps p.tables e below (s₁.setTop (mkF m 10 #[.val (.int p1), .val (.int p2), .val (.int p3), .val (.int p4), .val (.int p5), .val (.int p6), .val (.int ((p1 &&& (2147483647 : Int32)) % (100000 : Int32))), .unset, .unset, .unset, .unset, .unset, .unset, .unset, .unset, .unset] [(.int p2)])) _
    refine X0.ldcInt hx hown00 (mvT hZ00 (hw _ (List.mem_of_getElem? (i := 0) rfl))) (g := (mkF m 10 #[.val (.int p1), .val (.int p2), .val (.int p3), .val (.int p4), .val (.int p5), .val (.int p6), .val (.int ((p1 &&& (2147483647 : Int32)) % (100000 : Int32))), .unset, .unset, .unset, .unset, .unset, .unset, .unset, .unset, .unset] [(.int p2)])) rfl (hb hby at_10) _ ?_
    show Steps p.tables e below (s₁.setTop (mkF m 12 #[.val (.int p1), .val (.int p2), .val (.int p3), .val (.int p4), .val (.int p5), .val (.int p6), .val (.int ((p1 &&& (2147483647 : Int32)) % (100000 : Int32))), .unset, .unset, .unset, .unset, .unset, .unset, .unset, .unset, .unset] [(.int (2147483647 : Int32)), (.int p2)])) _
    refine XS.iand X0.here hx rfl (hb hby at_12) rfl ?_
    show Steps p.tables e below (s₁.setTop (mkF m 13 #[.val (.int p1), .val (.int p2), .val (.int p3), .val (.int p4), .val (.int p5), .val (.int p6), .val (.int ((p1 &&& (2147483647 : Int32)) % (100000 : Int32))), .unset, .unset, .unset, .unset, .unset, .unset, .unset, .unset, .unset] [(.int (p2 &&& (2147483647 : Int32)))])) _
    refine X0.ldcInt hx hown00 (mvT hZ00 (hw _ (List.mem_of_getElem? (i := 1) rfl))) (g := (mkF m 13 #[.val (.int p1), .val (.int p2), .val (.int p3), .val (.int p4), .val (.int p5), .val (.int p6), .val (.int ((p1 &&& (2147483647 : Int32)) % (100000 : Int32))), .unset, .unset, .unset, .unset, .unset, .unset, .unset, .unset, .unset] [(.int (p2 &&& (2147483647 : Int32)))])) rfl (hb hby at_13) _ ?_
    show Steps p.tables e below (s₁.setTop (mkF m 15 #[.val (.int p1), .val (.int p2), .val (.int p3), .val (.int p4), .val (.int p5), .val (.int p6), .val (.int ((p1 &&& (2147483647 : Int32)) % (100000 : Int32))), .unset, .unset, .unset, .unset, .unset, .unset, .unset, .unset, .unset] [(.int (100000 : Int32)), (.int (p2 &&& (2147483647 : Int32)))])) _
    refine iremM X0 hx rfl (hb hby at_15) rfl (by decide) ?_
    show Steps p.tables e below (s₁.setTop (mkF m 16 #[.val (.int p1), .val (.int p2), .val (.int p3), .val (.int p4), .val (.int p5), .val (.int p6), .val (.int ((p1 &&& (2147483647 : Int32)) % (100000 : Int32))), .unset, .unset, .unset, .unset, .unset, .unset, .unset, .unset, .unset] [(.int ((p2 &&& (2147483647 : Int32)) % (100000 : Int32)))])) _
    refine XS.istore X0.here hx rfl (hb hby at_16) rfl (l' := #[.val (.int p1), .val (.int p2), .val (.int p3), .val (.int p4), .val (.int p5), .val (.int p6), .val (.int ((p1 &&& (2147483647 : Int32)) % (100000 : Int32))), .val (.int ((p2 &&& (2147483647 : Int32)) % (100000 : Int32))), .unset, .unset, .unset, .unset, .unset, .unset, .unset, .unset]) rfl ?_
    show Steps p.tables e below (s₁.setTop (mkF m 18 #[.val (.int p1), .val (.int p2), .val (.int p3), .val (.int p4), .val (.int p5), .val (.int p6), .val (.int ((p1 &&& (2147483647 : Int32)) % (100000 : Int32))), .val (.int ((p2 &&& (2147483647 : Int32)) % (100000 : Int32))), .unset, .unset, .unset, .unset, .unset, .unset, .unset, .unset] [])) _
    refine seg18 X0 hx hZ00 hw hby hml hown00 p1 p2 p3 p4 p5 p6 ((p1 &&& (2147483647 : Int32)) % (100000 : Int32)) ((p2 &&& (2147483647 : Int32)) % (100000 : Int32)) L2 HL ?_
    show Steps p.tables e below (s₁.setTop (mkF m 39 #[.val (.int p1), .val (.int p2), .val (.int p3), .val (.int p4), .val (.int p5), .val (.int p6), .val (.int ((p1 &&& (2147483647 : Int32)) % (100000 : Int32))), .val (.int ((p2 &&& (2147483647 : Int32)) % (100000 : Int32))), .val (.int L2), .unset, .unset, .unset, .unset, .unset, .unset, .unset] [])) _
    refine seg39 X0 hx hZ00 hw hby hml hown00 p1 p2 p3 p4 p5 p6 ((p1 &&& (2147483647 : Int32)) % (100000 : Int32)) ((p2 &&& (2147483647 : Int32)) % (100000 : Int32)) L2 B2 HB ?_
    show Steps p.tables e below (s₁.setTop (mkF m 60 #[.val (.int p1), .val (.int p2), .val (.int p3), .val (.int p4), .val (.int p5), .val (.int p6), .val (.int ((p1 &&& (2147483647 : Int32)) % (100000 : Int32))), .val (.int ((p2 &&& (2147483647 : Int32)) % (100000 : Int32))), .val (.int L2), .val (.int B2), .unset, .unset, .unset, .unset, .unset, .unset] [])) _
    refine XS.iload X0.here hx rfl (hb hby at_60) rfl ?_
    show Steps p.tables e below (s₁.setTop (mkF m 62 #[.val (.int p1), .val (.int p2), .val (.int p3), .val (.int p4), .val (.int p5), .val (.int p6), .val (.int ((p1 &&& (2147483647 : Int32)) % (100000 : Int32))), .val (.int ((p2 &&& (2147483647 : Int32)) % (100000 : Int32))), .val (.int L2), .val (.int B2), .unset, .unset, .unset, .unset, .unset, .unset] [(.int p5)])) _
    refine XS.iconst X0.here hx rfl (hb hby at_62) ?_
    show Steps p.tables e below (s₁.setTop (mkF m 63 #[.val (.int p1), .val (.int p2), .val (.int p3), .val (.int p4), .val (.int p5), .val (.int p6), .val (.int ((p1 &&& (2147483647 : Int32)) % (100000 : Int32))), .val (.int ((p2 &&& (2147483647 : Int32)) % (100000 : Int32))), .val (.int L2), .val (.int B2), .unset, .unset, .unset, .unset, .unset, .unset] [(.int (3 : Int32)), (.int p5)])) _
    refine XS.iand X0.here hx rfl (hb hby at_63) rfl ?_
    show Steps p.tables e below (s₁.setTop (mkF m 64 #[.val (.int p1), .val (.int p2), .val (.int p3), .val (.int p4), .val (.int p5), .val (.int p6), .val (.int ((p1 &&& (2147483647 : Int32)) % (100000 : Int32))), .val (.int ((p2 &&& (2147483647 : Int32)) % (100000 : Int32))), .val (.int L2), .val (.int B2), .unset, .unset, .unset, .unset, .unset, .unset] [(.int (p5 &&& (3 : Int32)))])) _
    refine st7 _ ?_
    show Steps p.tables e below (T7.setTop (mkF m 67 #[.val (.int p1), .val (.int p2), .val (.int p3), .val (.int p4), .val (.int p5), .val (.int p6), .val (.int ((p1 &&& (2147483647 : Int32)) % (100000 : Int32))), .val (.int ((p2 &&& (2147483647 : Int32)) % (100000 : Int32))), .val (.int L2), .val (.int B2), .unset, .unset, .unset, .unset, .unset, .unset] [(.ref w1)])) _
    refine XS.astore X7.here hx rfl (hb hby at_67) rfl rfl (l' := #[.val (.int p1), .val (.int p2), .val (.int p3), .val (.int p4), .val (.int p5), .val (.int p6), .val (.int ((p1 &&& (2147483647 : Int32)) % (100000 : Int32))), .val (.int ((p2 &&& (2147483647 : Int32)) % (100000 : Int32))), .val (.int L2), .val (.int B2), .val (.ref w1), .unset, .unset, .unset, .unset, .unset]) rfl ?_
    show Steps p.tables e below (T7.setTop (mkF m 69 #[.val (.int p1), .val (.int p2), .val (.int p3), .val (.int p4), .val (.int p5), .val (.int p6), .val (.int ((p1 &&& (2147483647 : Int32)) % (100000 : Int32))), .val (.int ((p2 &&& (2147483647 : Int32)) % (100000 : Int32))), .val (.int L2), .val (.int B2), .val (.ref w1), .unset, .unset, .unset, .unset, .unset] [])) _
    refine XS.iload X7.here hx rfl (hb hby at_69) rfl ?_
    show Steps p.tables e below (T7.setTop (mkF m 71 #[.val (.int p1), .val (.int p2), .val (.int p3), .val (.int p4), .val (.int p5), .val (.int p6), .val (.int ((p1 &&& (2147483647 : Int32)) % (100000 : Int32))), .val (.int ((p2 &&& (2147483647 : Int32)) % (100000 : Int32))), .val (.int L2), .val (.int B2), .val (.ref w1), .unset, .unset, .unset, .unset, .unset] [(.int p5)])) _
    refine XS.iconst X7.here hx rfl (hb hby at_71) ?_
    show Steps p.tables e below (T7.setTop (mkF m 72 #[.val (.int p1), .val (.int p2), .val (.int p3), .val (.int p4), .val (.int p5), .val (.int p6), .val (.int ((p1 &&& (2147483647 : Int32)) % (100000 : Int32))), .val (.int ((p2 &&& (2147483647 : Int32)) % (100000 : Int32))), .val (.int L2), .val (.int B2), .val (.ref w1), .unset, .unset, .unset, .unset, .unset] [(.int (2 : Int32)), (.int p5)])) _
    refine XS.iushr X7.here hx rfl (hb hby at_72) rfl ?_
    show Steps p.tables e below (T7.setTop (mkF m 73 #[.val (.int p1), .val (.int p2), .val (.int p3), .val (.int p4), .val (.int p5), .val (.int p6), .val (.int ((p1 &&& (2147483647 : Int32)) % (100000 : Int32))), .val (.int ((p2 &&& (2147483647 : Int32)) % (100000 : Int32))), .val (.int L2), .val (.int B2), .val (.ref w1), .unset, .unset, .unset, .unset, .unset] [(.int ((p5.toUInt32 >>> ((2 : Int32) &&& 31).toUInt32).toInt32))])) _
    refine XS.iconst X7.here hx rfl (hb hby at_73) ?_
    show Steps p.tables e below (T7.setTop (mkF m 74 #[.val (.int p1), .val (.int p2), .val (.int p3), .val (.int p4), .val (.int p5), .val (.int p6), .val (.int ((p1 &&& (2147483647 : Int32)) % (100000 : Int32))), .val (.int ((p2 &&& (2147483647 : Int32)) % (100000 : Int32))), .val (.int L2), .val (.int B2), .val (.ref w1), .unset, .unset, .unset, .unset, .unset] [(.int (3 : Int32)), (.int ((p5.toUInt32 >>> ((2 : Int32) &&& 31).toUInt32).toInt32))])) _
    refine XS.iand X7.here hx rfl (hb hby at_74) rfl ?_
    show Steps p.tables e below (T7.setTop (mkF m 75 #[.val (.int p1), .val (.int p2), .val (.int p3), .val (.int p4), .val (.int p5), .val (.int p6), .val (.int ((p1 &&& (2147483647 : Int32)) % (100000 : Int32))), .val (.int ((p2 &&& (2147483647 : Int32)) % (100000 : Int32))), .val (.int L2), .val (.int B2), .val (.ref w1), .unset, .unset, .unset, .unset, .unset] [(.int (((p5.toUInt32 >>> ((2 : Int32) &&& 31).toUInt32).toInt32) &&& (3 : Int32)))])) _
    refine st8 _ ?_
    show Steps p.tables e below (T8.setTop (mkF m 78 #[.val (.int p1), .val (.int p2), .val (.int p3), .val (.int p4), .val (.int p5), .val (.int p6), .val (.int ((p1 &&& (2147483647 : Int32)) % (100000 : Int32))), .val (.int ((p2 &&& (2147483647 : Int32)) % (100000 : Int32))), .val (.int L2), .val (.int B2), .val (.ref w1), .unset, .unset, .unset, .unset, .unset] [(.ref w2)])) _
    refine XS.astore X8.here hx rfl (hb hby at_78) rfl rfl (l' := #[.val (.int p1), .val (.int p2), .val (.int p3), .val (.int p4), .val (.int p5), .val (.int p6), .val (.int ((p1 &&& (2147483647 : Int32)) % (100000 : Int32))), .val (.int ((p2 &&& (2147483647 : Int32)) % (100000 : Int32))), .val (.int L2), .val (.int B2), .val (.ref w1), .val (.ref w2), .unset, .unset, .unset, .unset]) rfl ?_
    show Steps p.tables e below (T8.setTop (mkF m 80 #[.val (.int p1), .val (.int p2), .val (.int p3), .val (.int p4), .val (.int p5), .val (.int p6), .val (.int ((p1 &&& (2147483647 : Int32)) % (100000 : Int32))), .val (.int ((p2 &&& (2147483647 : Int32)) % (100000 : Int32))), .val (.int L2), .val (.int B2), .val (.ref w1), .val (.ref w2), .unset, .unset, .unset, .unset] [])) _
    refine st9 _ ?_
    show Steps p.tables e below (T9.setTop (mkF m 83 #[.val (.int p1), .val (.int p2), .val (.int p3), .val (.int p4), .val (.int p5), .val (.int p6), .val (.int ((p1 &&& (2147483647 : Int32)) % (100000 : Int32))), .val (.int ((p2 &&& (2147483647 : Int32)) % (100000 : Int32))), .val (.int L2), .val (.int B2), .val (.ref w1), .val (.ref w2), .unset, .unset, .unset, .unset] [(.ref b9)])) _
    refine XS.dup X9.here hx rfl (hb hby at_83) rfl rfl ?_
    show Steps p.tables e below (T9.setTop (mkF m 84 #[.val (.int p1), .val (.int p2), .val (.int p3), .val (.int p4), .val (.int p5), .val (.int p6), .val (.int ((p1 &&& (2147483647 : Int32)) % (100000 : Int32))), .val (.int ((p2 &&& (2147483647 : Int32)) % (100000 : Int32))), .val (.int L2), .val (.int B2), .val (.ref w1), .val (.ref w2), .unset, .unset, .unset, .unset] [(.ref b9), (.ref b9)])) _
    refine XS.iload X9.here hx rfl (hb hby at_84) rfl ?_
    show Steps p.tables e below (T9.setTop (mkF m 86 #[.val (.int p1), .val (.int p2), .val (.int p3), .val (.int p4), .val (.int p5), .val (.int p6), .val (.int ((p1 &&& (2147483647 : Int32)) % (100000 : Int32))), .val (.int ((p2 &&& (2147483647 : Int32)) % (100000 : Int32))), .val (.int L2), .val (.int B2), .val (.ref w1), .val (.ref w2), .unset, .unset, .unset, .unset] [(.int ((p1 &&& (2147483647 : Int32)) % (100000 : Int32))), (.ref b9), (.ref b9)])) _
    refine XS.aload X9.here hx rfl (hb hby at_86) rfl rfl ?_
    show Steps p.tables e below (T9.setTop (mkF m 88 #[.val (.int p1), .val (.int p2), .val (.int p3), .val (.int p4), .val (.int p5), .val (.int p6), .val (.int ((p1 &&& (2147483647 : Int32)) % (100000 : Int32))), .val (.int ((p2 &&& (2147483647 : Int32)) % (100000 : Int32))), .val (.int L2), .val (.int B2), .val (.ref w1), .val (.ref w2), .unset, .unset, .unset, .unset] [(.ref w1), (.int ((p1 &&& (2147483647 : Int32)) % (100000 : Int32))), (.ref b9), (.ref b9)])) _
    refine XS.iload X9.here hx rfl (hb hby at_88) rfl ?_
    show Steps p.tables e below (T9.setTop (mkF m 90 #[.val (.int p1), .val (.int p2), .val (.int p3), .val (.int p4), .val (.int p5), .val (.int p6), .val (.int ((p1 &&& (2147483647 : Int32)) % (100000 : Int32))), .val (.int ((p2 &&& (2147483647 : Int32)) % (100000 : Int32))), .val (.int L2), .val (.int B2), .val (.ref w1), .val (.ref w2), .unset, .unset, .unset, .unset] [(.int ((p2 &&& (2147483647 : Int32)) % (100000 : Int32))), (.ref w1), (.int ((p1 &&& (2147483647 : Int32)) % (100000 : Int32))), (.ref b9), (.ref b9)])) _
    refine st10.trans ?_
    show Steps p.tables e below (T10.setTop (mkF m 93 #[.val (.int p1), .val (.int p2), .val (.int p3), .val (.int p4), .val (.int p5), .val (.int p6), .val (.int ((p1 &&& (2147483647 : Int32)) % (100000 : Int32))), .val (.int ((p2 &&& (2147483647 : Int32)) % (100000 : Int32))), .val (.int L2), .val (.int B2), .val (.ref w1), .val (.ref w2), .unset, .unset, .unset, .unset] [(.ref b9)])) _
    refine XS.astore X10.here hx rfl (hb hby at_93) rfl rfl (l' := #[.val (.int p1), .val (.int p2), .val (.int p3), .val (.int p4), .val (.int p5), .val (.int p6), .val (.int ((p1 &&& (2147483647 : Int32)) % (100000 : Int32))), .val (.int ((p2 &&& (2147483647 : Int32)) % (100000 : Int32))), .val (.int L2), .val (.int B2), .val (.ref w1), .val (.ref w2), .val (.ref b9), .unset, .unset, .unset]) rfl ?_
    show Steps p.tables e below (T10.setTop (mkF m 95 #[.val (.int p1), .val (.int p2), .val (.int p3), .val (.int p4), .val (.int p5), .val (.int p6), .val (.int ((p1 &&& (2147483647 : Int32)) % (100000 : Int32))), .val (.int ((p2 &&& (2147483647 : Int32)) % (100000 : Int32))), .val (.int L2), .val (.int B2), .val (.ref w1), .val (.ref w2), .val (.ref b9), .unset, .unset, .unset] [])) _
    refine XS.iload X10.here hx rfl (hb hby at_95) rfl ?_
    show Steps p.tables e below (T10.setTop (mkF m 97 #[.val (.int p1), .val (.int p2), .val (.int p3), .val (.int p4), .val (.int p5), .val (.int p6), .val (.int ((p1 &&& (2147483647 : Int32)) % (100000 : Int32))), .val (.int ((p2 &&& (2147483647 : Int32)) % (100000 : Int32))), .val (.int L2), .val (.int B2), .val (.ref w1), .val (.ref w2), .val (.ref b9), .unset, .unset, .unset] [(.int p6)])) _
    refine XS.iconst X10.here hx rfl (hb hby at_97) ?_
    show Steps p.tables e below (T10.setTop (mkF m 98 #[.val (.int p1), .val (.int p2), .val (.int p3), .val (.int p4), .val (.int p5), .val (.int p6), .val (.int ((p1 &&& (2147483647 : Int32)) % (100000 : Int32))), .val (.int ((p2 &&& (2147483647 : Int32)) % (100000 : Int32))), .val (.int L2), .val (.int B2), .val (.ref w1), .val (.ref w2), .val (.ref b9), .unset, .unset, .unset] [(.int (2 : Int32)), (.int p6)])) _
    refine XS.iushr X10.here hx rfl (hb hby at_98) rfl ?_
    show Steps p.tables e below (T10.setTop (mkF m 99 #[.val (.int p1), .val (.int p2), .val (.int p3), .val (.int p4), .val (.int p5), .val (.int p6), .val (.int ((p1 &&& (2147483647 : Int32)) % (100000 : Int32))), .val (.int ((p2 &&& (2147483647 : Int32)) % (100000 : Int32))), .val (.int L2), .val (.int B2), .val (.ref w1), .val (.ref w2), .val (.ref b9), .unset, .unset, .unset] [(.int ((p6.toUInt32 >>> ((2 : Int32) &&& 31).toUInt32).toInt32))])) _
    refine XS.iconst X10.here hx rfl (hb hby at_99) ?_
    show Steps p.tables e below (T10.setTop (mkF m 100 #[.val (.int p1), .val (.int p2), .val (.int p3), .val (.int p4), .val (.int p5), .val (.int p6), .val (.int ((p1 &&& (2147483647 : Int32)) % (100000 : Int32))), .val (.int ((p2 &&& (2147483647 : Int32)) % (100000 : Int32))), .val (.int L2), .val (.int B2), .val (.ref w1), .val (.ref w2), .val (.ref b9), .unset, .unset, .unset] [(.int (3 : Int32)), (.int ((p6.toUInt32 >>> ((2 : Int32) &&& 31).toUInt32).toInt32))])) _
    refine XS.iand X10.here hx rfl (hb hby at_100) rfl ?_
    show Steps p.tables e below (T10.setTop (mkF m 101 #[.val (.int p1), .val (.int p2), .val (.int p3), .val (.int p4), .val (.int p5), .val (.int p6), .val (.int ((p1 &&& (2147483647 : Int32)) % (100000 : Int32))), .val (.int ((p2 &&& (2147483647 : Int32)) % (100000 : Int32))), .val (.int L2), .val (.int B2), .val (.ref w1), .val (.ref w2), .val (.ref b9), .unset, .unset, .unset] [(.int (((p6.toUInt32 >>> ((2 : Int32) &&& 31).toUInt32).toInt32) &&& (3 : Int32)))])) _
    refine XS.istore X10.here hx rfl (hb hby at_101) rfl (l' := #[.val (.int p1), .val (.int p2), .val (.int p3), .val (.int p4), .val (.int p5), .val (.int p6), .val (.int ((p1 &&& (2147483647 : Int32)) % (100000 : Int32))), .val (.int ((p2 &&& (2147483647 : Int32)) % (100000 : Int32))), .val (.int L2), .val (.int B2), .val (.ref w1), .val (.ref w2), .val (.ref b9), .val (.int (((p6.toUInt32 >>> ((2 : Int32) &&& 31).toUInt32).toInt32) &&& (3 : Int32))), .unset, .unset]) rfl ?_
    show Steps p.tables e below (T10.setTop (mkF m 103 #[.val (.int p1), .val (.int p2), .val (.int p3), .val (.int p4), .val (.int p5), .val (.int p6), .val (.int ((p1 &&& (2147483647 : Int32)) % (100000 : Int32))), .val (.int ((p2 &&& (2147483647 : Int32)) % (100000 : Int32))), .val (.int L2), .val (.int B2), .val (.ref w1), .val (.ref w2), .val (.ref b9), .val (.int (((p6.toUInt32 >>> ((2 : Int32) &&& 31).toUInt32).toInt32) &&& (3 : Int32))), .unset, .unset] [])) _
    refine XS.iload X10.here hx rfl (hb hby at_103) rfl ?_
    show Steps p.tables e below (T10.setTop (mkF m 105 #[.val (.int p1), .val (.int p2), .val (.int p3), .val (.int p4), .val (.int p5), .val (.int p6), .val (.int ((p1 &&& (2147483647 : Int32)) % (100000 : Int32))), .val (.int ((p2 &&& (2147483647 : Int32)) % (100000 : Int32))), .val (.int L2), .val (.int B2), .val (.ref w1), .val (.ref w2), .val (.ref b9), .val (.int (((p6.toUInt32 >>> ((2 : Int32) &&& 31).toUInt32).toInt32) &&& (3 : Int32))), .unset, .unset] [(.int (((p6.toUInt32 >>> ((2 : Int32) &&& 31).toUInt32).toInt32) &&& (3 : Int32)))])) _
    refine XS.iconst X10.here hx rfl (hb hby at_105) ?_
    show Steps p.tables e below (T10.setTop (mkF m 106 #[.val (.int p1), .val (.int p2), .val (.int p3), .val (.int p4), .val (.int p5), .val (.int p6), .val (.int ((p1 &&& (2147483647 : Int32)) % (100000 : Int32))), .val (.int ((p2 &&& (2147483647 : Int32)) % (100000 : Int32))), .val (.int L2), .val (.int B2), .val (.ref w1), .val (.ref w2), .val (.ref b9), .val (.int (((p6.toUInt32 >>> ((2 : Int32) &&& 31).toUInt32).toInt32) &&& (3 : Int32))), .unset, .unset] [(.int (1 : Int32)), (.int (((p6.toUInt32 >>> ((2 : Int32) &&& 31).toUInt32).toInt32) &&& (3 : Int32)))])) _
    refine XS.icmpYes X10.here hx rfl (pc0 := 106) (pc' := 124) rfl (hb hby at_106) rfl (feq hc106).2 (by decide) (by decide) ?_
    show Steps p.tables e below (T10.setTop (mkF m 124 #[.val (.int p1), .val (.int p2), .val (.int p3), .val (.int p4), .val (.int p5), .val (.int p6), .val (.int ((p1 &&& (2147483647 : Int32)) % (100000 : Int32))), .val (.int ((p2 &&& (2147483647 : Int32)) % (100000 : Int32))), .val (.int L2), .val (.int B2), .val (.ref w1), .val (.ref w2), .val (.ref b9), .val (.int (((p6.toUInt32 >>> ((2 : Int32) &&& 31).toUInt32).toInt32) &&& (3 : Int32))), .unset, .unset] [])) _
    refine XS.iload X10.here hx rfl (hb hby at_124) rfl ?_
    show Steps p.tables e below (T10.setTop (mkF m 126 #[.val (.int p1), .val (.int p2), .val (.int p3), .val (.int p4), .val (.int p5), .val (.int p6), .val (.int ((p1 &&& (2147483647 : Int32)) % (100000 : Int32))), .val (.int ((p2 &&& (2147483647 : Int32)) % (100000 : Int32))), .val (.int L2), .val (.int B2), .val (.ref w1), .val (.ref w2), .val (.ref b9), .val (.int (((p6.toUInt32 >>> ((2 : Int32) &&& 31).toUInt32).toInt32) &&& (3 : Int32))), .unset, .unset] [(.int (((p6.toUInt32 >>> ((2 : Int32) &&& 31).toUInt32).toInt32) &&& (3 : Int32)))])) _
    refine XS.iconst X10.here hx rfl (hb hby at_126) ?_
    show Steps p.tables e below (T10.setTop (mkF m 127 #[.val (.int p1), .val (.int p2), .val (.int p3), .val (.int p4), .val (.int p5), .val (.int p6), .val (.int ((p1 &&& (2147483647 : Int32)) % (100000 : Int32))), .val (.int ((p2 &&& (2147483647 : Int32)) % (100000 : Int32))), .val (.int L2), .val (.int B2), .val (.ref w1), .val (.ref w2), .val (.ref b9), .val (.int (((p6.toUInt32 >>> ((2 : Int32) &&& 31).toUInt32).toInt32) &&& (3 : Int32))), .unset, .unset] [(.int (2 : Int32)), (.int (((p6.toUInt32 >>> ((2 : Int32) &&& 31).toUInt32).toInt32) &&& (3 : Int32)))])) _
    refine XS.icmpYes X10.here hx rfl (pc0 := 127) (pc' := 153) rfl (hb hby at_127) rfl (feq hc127).2 (by decide) (by decide) ?_
    show Steps p.tables e below (T10.setTop (mkF m 153 #[.val (.int p1), .val (.int p2), .val (.int p3), .val (.int p4), .val (.int p5), .val (.int p6), .val (.int ((p1 &&& (2147483647 : Int32)) % (100000 : Int32))), .val (.int ((p2 &&& (2147483647 : Int32)) % (100000 : Int32))), .val (.int L2), .val (.int B2), .val (.ref w1), .val (.ref w2), .val (.ref b9), .val (.int (((p6.toUInt32 >>> ((2 : Int32) &&& 31).toUInt32).toInt32) &&& (3 : Int32))), .unset, .unset] [])) _
    refine XS.iload X10.here hx rfl (hb hby at_153) rfl ?_
    show Steps p.tables e below (T10.setTop (mkF m 155 #[.val (.int p1), .val (.int p2), .val (.int p3), .val (.int p4), .val (.int p5), .val (.int p6), .val (.int ((p1 &&& (2147483647 : Int32)) % (100000 : Int32))), .val (.int ((p2 &&& (2147483647 : Int32)) % (100000 : Int32))), .val (.int L2), .val (.int B2), .val (.ref w1), .val (.ref w2), .val (.ref b9), .val (.int (((p6.toUInt32 >>> ((2 : Int32) &&& 31).toUInt32).toInt32) &&& (3 : Int32))), .unset, .unset] [(.int (((p6.toUInt32 >>> ((2 : Int32) &&& 31).toUInt32).toInt32) &&& (3 : Int32)))])) _
    refine XS.iconst X10.here hx rfl (hb hby at_155) ?_
    show Steps p.tables e below (T10.setTop (mkF m 156 #[.val (.int p1), .val (.int p2), .val (.int p3), .val (.int p4), .val (.int p5), .val (.int p6), .val (.int ((p1 &&& (2147483647 : Int32)) % (100000 : Int32))), .val (.int ((p2 &&& (2147483647 : Int32)) % (100000 : Int32))), .val (.int L2), .val (.int B2), .val (.ref w1), .val (.ref w2), .val (.ref b9), .val (.int (((p6.toUInt32 >>> ((2 : Int32) &&& 31).toUInt32).toInt32) &&& (3 : Int32))), .unset, .unset] [(.int (3 : Int32)), (.int (((p6.toUInt32 >>> ((2 : Int32) &&& 31).toUInt32).toInt32) &&& (3 : Int32)))])) _
    refine XS.icmpYes X10.here hx rfl (pc0 := 156) (pc' := 167) rfl (hb hby at_156) rfl (feq hc156).2 (by decide) (by decide) ?_
    show Steps p.tables e below (T10.setTop (mkF m 167 #[.val (.int p1), .val (.int p2), .val (.int p3), .val (.int p4), .val (.int p5), .val (.int p6), .val (.int ((p1 &&& (2147483647 : Int32)) % (100000 : Int32))), .val (.int ((p2 &&& (2147483647 : Int32)) % (100000 : Int32))), .val (.int L2), .val (.int B2), .val (.ref w1), .val (.ref w2), .val (.ref b9), .val (.int (((p6.toUInt32 >>> ((2 : Int32) &&& 31).toUInt32).toInt32) &&& (3 : Int32))), .unset, .unset] [])) _
    refine st11 _ ?_
    show Steps p.tables e below (T11.setTop (mkF m 170 #[.val (.int p1), .val (.int p2), .val (.int p3), .val (.int p4), .val (.int p5), .val (.int p6), .val (.int ((p1 &&& (2147483647 : Int32)) % (100000 : Int32))), .val (.int ((p2 &&& (2147483647 : Int32)) % (100000 : Int32))), .val (.int L2), .val (.int B2), .val (.ref w1), .val (.ref w2), .val (.ref b9), .val (.int (((p6.toUInt32 >>> ((2 : Int32) &&& 31).toUInt32).toInt32) &&& (3 : Int32))), .unset, .unset] [(.ref b11)])) _
    refine XS.dup X11.here hx rfl (hb hby at_170) rfl rfl ?_
    show Steps p.tables e below (T11.setTop (mkF m 171 #[.val (.int p1), .val (.int p2), .val (.int p3), .val (.int p4), .val (.int p5), .val (.int p6), .val (.int ((p1 &&& (2147483647 : Int32)) % (100000 : Int32))), .val (.int ((p2 &&& (2147483647 : Int32)) % (100000 : Int32))), .val (.int L2), .val (.int B2), .val (.ref w1), .val (.ref w2), .val (.ref b9), .val (.int (((p6.toUInt32 >>> ((2 : Int32) &&& 31).toUInt32).toInt32) &&& (3 : Int32))), .unset, .unset] [(.ref b11), (.ref b11)])) _
    refine XS.iload X11.here hx rfl (hb hby at_171) rfl ?_
    show Steps p.tables e below (T11.setTop (mkF m 173 #[.val (.int p1), .val (.int p2), .val (.int p3), .val (.int p4), .val (.int p5), .val (.int p6), .val (.int ((p1 &&& (2147483647 : Int32)) % (100000 : Int32))), .val (.int ((p2 &&& (2147483647 : Int32)) % (100000 : Int32))), .val (.int L2), .val (.int B2), .val (.ref w1), .val (.ref w2), .val (.ref b9), .val (.int (((p6.toUInt32 >>> ((2 : Int32) &&& 31).toUInt32).toInt32) &&& (3 : Int32))), .unset, .unset] [(.int L2), (.ref b11), (.ref b11)])) _
    refine XS.aload X11.here hx rfl (hb hby at_173) rfl rfl ?_
    show Steps p.tables e below (T11.setTop (mkF m 175 #[.val (.int p1), .val (.int p2), .val (.int p3), .val (.int p4), .val (.int p5), .val (.int p6), .val (.int ((p1 &&& (2147483647 : Int32)) % (100000 : Int32))), .val (.int ((p2 &&& (2147483647 : Int32)) % (100000 : Int32))), .val (.int L2), .val (.int B2), .val (.ref w1), .val (.ref w2), .val (.ref b9), .val (.int (((p6.toUInt32 >>> ((2 : Int32) &&& 31).toUInt32).toInt32) &&& (3 : Int32))), .unset, .unset] [(.ref w2), (.int L2), (.ref b11), (.ref b11)])) _
    refine XS.iload X11.here hx rfl (hb hby at_175) rfl ?_
    show Steps p.tables e below (T11.setTop (mkF m 177 #[.val (.int p1), .val (.int p2), .val (.int p3), .val (.int p4), .val (.int p5), .val (.int p6), .val (.int ((p1 &&& (2147483647 : Int32)) % (100000 : Int32))), .val (.int ((p2 &&& (2147483647 : Int32)) % (100000 : Int32))), .val (.int L2), .val (.int B2), .val (.ref w1), .val (.ref w2), .val (.ref b9), .val (.int (((p6.toUInt32 >>> ((2 : Int32) &&& 31).toUInt32).toInt32) &&& (3 : Int32))), .unset, .unset] [(.int B2), (.ref w2), (.int L2), (.ref b11), (.ref b11)])) _
    refine st12.trans ?_
    show Steps p.tables e below (T12.setTop (mkF m 180 #[.val (.int p1), .val (.int p2), .val (.int p3), .val (.int p4), .val (.int p5), .val (.int p6), .val (.int ((p1 &&& (2147483647 : Int32)) % (100000 : Int32))), .val (.int ((p2 &&& (2147483647 : Int32)) % (100000 : Int32))), .val (.int L2), .val (.int B2), .val (.ref w1), .val (.ref w2), .val (.ref b9), .val (.int (((p6.toUInt32 >>> ((2 : Int32) &&& 31).toUInt32).toInt32) &&& (3 : Int32))), .unset, .unset] [(.ref b11)])) _
    refine XS.astore X12.here hx rfl (hb hby at_180) rfl rfl (l' := #[.val (.int p1), .val (.int p2), .val (.int p3), .val (.int p4), .val (.int p5), .val (.int p6), .val (.int ((p1 &&& (2147483647 : Int32)) % (100000 : Int32))), .val (.int ((p2 &&& (2147483647 : Int32)) % (100000 : Int32))), .val (.int L2), .val (.int B2), .val (.ref w1), .val (.ref w2), .val (.ref b9), .val (.int (((p6.toUInt32 >>> ((2 : Int32) &&& 31).toUInt32).toInt32) &&& (3 : Int32))), .val (.ref b11), .unset]) rfl ?_
    show Steps p.tables e below (T12.setTop (mkF m 182 #[.val (.int p1), .val (.int p2), .val (.int p3), .val (.int p4), .val (.int p5), .val (.int p6), .val (.int ((p1 &&& (2147483647 : Int32)) % (100000 : Int32))), .val (.int ((p2 &&& (2147483647 : Int32)) % (100000 : Int32))), .val (.int L2), .val (.int B2), .val (.ref w1), .val (.ref w2), .val (.ref b9), .val (.int (((p6.toUInt32 >>> ((2 : Int32) &&& 31).toUInt32).toInt32) &&& (3 : Int32))), .val (.ref b11), .unset] [])) _
    refine XS.iload X12.here hx rfl (hb hby at_182) rfl ?_
    show Steps p.tables e below (T12.setTop (mkF m 184 #[.val (.int p1), .val (.int p2), .val (.int p3), .val (.int p4), .val (.int p5), .val (.int p6), .val (.int ((p1 &&& (2147483647 : Int32)) % (100000 : Int32))), .val (.int ((p2 &&& (2147483647 : Int32)) % (100000 : Int32))), .val (.int L2), .val (.int B2), .val (.ref w1), .val (.ref w2), .val (.ref b9), .val (.int (((p6.toUInt32 >>> ((2 : Int32) &&& 31).toUInt32).toInt32) &&& (3 : Int32))), .val (.ref b11), .unset] [(.int ((p1 &&& (2147483647 : Int32)) % (100000 : Int32)))])) _
    refine XS.iload X12.here hx rfl (hb hby at_184) rfl ?_
    show Steps p.tables e below (T12.setTop (mkF m 186 #[.val (.int p1), .val (.int p2), .val (.int p3), .val (.int p4), .val (.int p5), .val (.int p6), .val (.int ((p1 &&& (2147483647 : Int32)) % (100000 : Int32))), .val (.int ((p2 &&& (2147483647 : Int32)) % (100000 : Int32))), .val (.int L2), .val (.int B2), .val (.ref w1), .val (.ref w2), .val (.ref b9), .val (.int (((p6.toUInt32 >>> ((2 : Int32) &&& 31).toUInt32).toInt32) &&& (3 : Int32))), .val (.ref b11), .unset] [(.int L2), (.int ((p1 &&& (2147483647 : Int32)) % (100000 : Int32)))])) _
    refine XS.icmpNo X12.here hx rfl (hb hby at_186) rfl (teq hc186).2 ?_
    show Steps p.tables e below (T12.setTop (mkF m 189 #[.val (.int p1), .val (.int p2), .val (.int p3), .val (.int p4), .val (.int p5), .val (.int p6), .val (.int ((p1 &&& (2147483647 : Int32)) % (100000 : Int32))), .val (.int ((p2 &&& (2147483647 : Int32)) % (100000 : Int32))), .val (.int L2), .val (.int B2), .val (.ref w1), .val (.ref w2), .val (.ref b9), .val (.int (((p6.toUInt32 >>> ((2 : Int32) &&& 31).toUInt32).toInt32) &&& (3 : Int32))), .val (.ref b11), .unset] [])) _
    refine XS.aload X12.here hx rfl (hb hby at_189) rfl rfl ?_
    show Steps p.tables e below (T12.setTop (mkF m 191 #[.val (.int p1), .val (.int p2), .val (.int p3), .val (.int p4), .val (.int p5), .val (.int p6), .val (.int ((p1 &&& (2147483647 : Int32)) % (100000 : Int32))), .val (.int ((p2 &&& (2147483647 : Int32)) % (100000 : Int32))), .val (.int L2), .val (.int B2), .val (.ref w1), .val (.ref w2), .val (.ref b9), .val (.int (((p6.toUInt32 >>> ((2 : Int32) &&& 31).toUInt32).toInt32) &&& (3 : Int32))), .val (.ref b11), .unset] [(.ref w1)])) _
    refine XS.aload X12.here hx rfl (hb hby at_191) rfl rfl ?_
    show Steps p.tables e below (T12.setTop (mkF m 193 #[.val (.int p1), .val (.int p2), .val (.int p3), .val (.int p4), .val (.int p5), .val (.int p6), .val (.int ((p1 &&& (2147483647 : Int32)) % (100000 : Int32))), .val (.int ((p2 &&& (2147483647 : Int32)) % (100000 : Int32))), .val (.int L2), .val (.int B2), .val (.ref w1), .val (.ref w2), .val (.ref b9), .val (.int (((p6.toUInt32 >>> ((2 : Int32) &&& 31).toUInt32).toInt32) &&& (3 : Int32))), .val (.ref b11), .unset] [(.ref w2), (.ref w1)])) _
    refine Jvm.RoadKit.acmp (g := (mkF m 193 #[.val (.int p1), .val (.int p2), .val (.int p3), .val (.int p4), .val (.int p5), .val (.int p6), .val (.int ((p1 &&& (2147483647 : Int32)) % (100000 : Int32))), .val (.int ((p2 &&& (2147483647 : Int32)) % (100000 : Int32))), .val (.int L2), .val (.int B2), .val (.ref w1), .val (.ref w2), .val (.ref b9), .val (.int (((p6.toUInt32 >>> ((2 : Int32) &&& 31).toUInt32).toInt32) &&& (3 : Int32))), .val (.ref b11), .unset] [(.ref w2), (.ref w1)])) X12 hx rfl rfl rfl (pc0 := 193) (pc' := 196) (same := true) rfl (hb hby at_193) rfl (decide_eq_true (congrArg Value.ref ha193)) (by decide) (by decide) ?_
    show Steps p.tables e below (T12.setTop (mkF m 196 #[.val (.int p1), .val (.int p2), .val (.int p3), .val (.int p4), .val (.int p5), .val (.int p6), .val (.int ((p1 &&& (2147483647 : Int32)) % (100000 : Int32))), .val (.int ((p2 &&& (2147483647 : Int32)) % (100000 : Int32))), .val (.int L2), .val (.int B2), .val (.ref w1), .val (.ref w2), .val (.ref b9), .val (.int (((p6.toUInt32 >>> ((2 : Int32) &&& 31).toUInt32).toInt32) &&& (3 : Int32))), .val (.ref b11), .unset] [])) _
    refine XS.iload X12.here hx rfl (hb hby at_196) rfl ?_
    show Steps p.tables e below (T12.setTop (mkF m 198 #[.val (.int p1), .val (.int p2), .val (.int p3), .val (.int p4), .val (.int p5), .val (.int p6), .val (.int ((p1 &&& (2147483647 : Int32)) % (100000 : Int32))), .val (.int ((p2 &&& (2147483647 : Int32)) % (100000 : Int32))), .val (.int L2), .val (.int B2), .val (.ref w1), .val (.ref w2), .val (.ref b9), .val (.int (((p6.toUInt32 >>> ((2 : Int32) &&& 31).toUInt32).toInt32) &&& (3 : Int32))), .val (.ref b11), .unset] [(.int ((p2 &&& (2147483647 : Int32)) % (100000 : Int32)))])) _
    refine XS.iload X12.here hx rfl (hb hby at_198) rfl ?_
    show Steps p.tables e below (T12.setTop (mkF m 200 #[.val (.int p1), .val (.int p2), .val (.int p3), .val (.int p4), .val (.int p5), .val (.int p6), .val (.int ((p1 &&& (2147483647 : Int32)) % (100000 : Int32))), .val (.int ((p2 &&& (2147483647 : Int32)) % (100000 : Int32))), .val (.int L2), .val (.int B2), .val (.ref w1), .val (.ref w2), .val (.ref b9), .val (.int (((p6.toUInt32 >>> ((2 : Int32) &&& 31).toUInt32).toInt32) &&& (3 : Int32))), .val (.ref b11), .unset] [(.int B2), (.int ((p2 &&& (2147483647 : Int32)) % (100000 : Int32)))])) _
    refine XS.icmpYes X12.here hx rfl (pc0 := 200) (pc' := 207) rfl (hb hby at_200) rfl (feq hc200).2 (by decide) (by decide) ?_
    show Steps p.tables e below (T12.setTop (mkF m 207 #[.val (.int p1), .val (.int p2), .val (.int p3), .val (.int p4), .val (.int p5), .val (.int p6), .val (.int ((p1 &&& (2147483647 : Int32)) % (100000 : Int32))), .val (.int ((p2 &&& (2147483647 : Int32)) % (100000 : Int32))), .val (.int L2), .val (.int B2), .val (.ref w1), .val (.ref w2), .val (.ref b9), .val (.int (((p6.toUInt32 >>> ((2 : Int32) &&& 31).toUInt32).toInt32) &&& (3 : Int32))), .val (.ref b11), .unset] [])) _
    refine XS.iconst X12.here hx rfl (hb hby at_207) ?_
    show Steps p.tables e below (T12.setTop (mkF m 208 #[.val (.int p1), .val (.int p2), .val (.int p3), .val (.int p4), .val (.int p5), .val (.int p6), .val (.int ((p1 &&& (2147483647 : Int32)) % (100000 : Int32))), .val (.int ((p2 &&& (2147483647 : Int32)) % (100000 : Int32))), .val (.int L2), .val (.int B2), .val (.ref w1), .val (.ref w2), .val (.ref b9), .val (.int (((p6.toUInt32 >>> ((2 : Int32) &&& 31).toUInt32).toInt32) &&& (3 : Int32))), .val (.ref b11), .unset] [(.int (0 : Int32))])) _
    refine XS.istore X12.here hx rfl (hb hby at_208) rfl (l' := #[.val (.int p1), .val (.int p2), .val (.int p3), .val (.int p4), .val (.int p5), .val (.int p6), .val (.int ((p1 &&& (2147483647 : Int32)) % (100000 : Int32))), .val (.int ((p2 &&& (2147483647 : Int32)) % (100000 : Int32))), .val (.int L2), .val (.int B2), .val (.ref w1), .val (.ref w2), .val (.ref b9), .val (.int (((p6.toUInt32 >>> ((2 : Int32) &&& 31).toUInt32).toInt32) &&& (3 : Int32))), .val (.ref b11), .val (.int (0 : Int32))]) rfl ?_
    show Steps p.tables e below (T12.setTop (mkF m 210 #[.val (.int p1), .val (.int p2), .val (.int p3), .val (.int p4), .val (.int p5), .val (.int p6), .val (.int ((p1 &&& (2147483647 : Int32)) % (100000 : Int32))), .val (.int ((p2 &&& (2147483647 : Int32)) % (100000 : Int32))), .val (.int L2), .val (.int B2), .val (.ref w1), .val (.ref w2), .val (.ref b9), .val (.int (((p6.toUInt32 >>> ((2 : Int32) &&& 31).toUInt32).toInt32) &&& (3 : Int32))), .val (.ref b11), .val (.int (0 : Int32))] [])) _
    refine XS.aload X12.here hx rfl (hb hby at_210) rfl rfl ?_
    show Steps p.tables e below (T12.setTop (mkF m 212 #[.val (.int p1), .val (.int p2), .val (.int p3), .val (.int p4), .val (.int p5), .val (.int p6), .val (.int ((p1 &&& (2147483647 : Int32)) % (100000 : Int32))), .val (.int ((p2 &&& (2147483647 : Int32)) % (100000 : Int32))), .val (.int L2), .val (.int B2), .val (.ref w1), .val (.ref w2), .val (.ref b9), .val (.int (((p6.toUInt32 >>> ((2 : Int32) &&& 31).toUInt32).toInt32) &&& (3 : Int32))), .val (.ref b11), .val (.int (0 : Int32))] [(.ref b9)])) _
    refine XS.aload X12.here hx rfl (hb hby at_212) rfl rfl ?_
    show Steps p.tables e below (T12.setTop (mkF m 214 #[.val (.int p1), .val (.int p2), .val (.int p3), .val (.int p4), .val (.int p5), .val (.int p6), .val (.int ((p1 &&& (2147483647 : Int32)) % (100000 : Int32))), .val (.int ((p2 &&& (2147483647 : Int32)) % (100000 : Int32))), .val (.int L2), .val (.int B2), .val (.ref w1), .val (.ref w2), .val (.ref b9), .val (.int (((p6.toUInt32 >>> ((2 : Int32) &&& 31).toUInt32).toInt32) &&& (3 : Int32))), .val (.ref b11), .val (.int (0 : Int32))] [(.ref b11), (.ref b9)])) _
    refine st13.trans ?_
    show Steps p.tables e below (T13.setTop (mkF m 217 #[.val (.int p1), .val (.int p2), .val (.int p3), .val (.int p4), .val (.int p5), .val (.int p6), .val (.int ((p1 &&& (2147483647 : Int32)) % (100000 : Int32))), .val (.int ((p2 &&& (2147483647 : Int32)) % (100000 : Int32))), .val (.int L2), .val (.int B2), .val (.ref w1), .val (.ref w2), .val (.ref b9), .val (.int (((p6.toUInt32 >>> ((2 : Int32) &&& 31).toUInt32).toInt32) &&& (3 : Int32))), .val (.ref b11), .val (.int (0 : Int32))] [(.int (0 : Int32))])) _
    refine XS.iload X13.here hx rfl (hb hby at_217) rfl ?_
    show Steps p.tables e below (T13.setTop (mkF m 219 #[.val (.int p1), .val (.int p2), .val (.int p3), .val (.int p4), .val (.int p5), .val (.int p6), .val (.int ((p1 &&& (2147483647 : Int32)) % (100000 : Int32))), .val (.int ((p2 &&& (2147483647 : Int32)) % (100000 : Int32))), .val (.int L2), .val (.int B2), .val (.ref w1), .val (.ref w2), .val (.ref b9), .val (.int (((p6.toUInt32 >>> ((2 : Int32) &&& 31).toUInt32).toInt32) &&& (3 : Int32))), .val (.ref b11), .val (.int (0 : Int32))] [(.int (0 : Int32)), (.int (0 : Int32))])) _
    refine XS.icmpNo X13.here hx rfl (hb hby at_219) rfl (teq (rfl : (0 : Int32) = (0 : Int32))).2 ?_
    show Steps p.tables e below (T13.setTop (mkF m 222 #[.val (.int p1), .val (.int p2), .val (.int p3), .val (.int p4), .val (.int p5), .val (.int p6), .val (.int ((p1 &&& (2147483647 : Int32)) % (100000 : Int32))), .val (.int ((p2 &&& (2147483647 : Int32)) % (100000 : Int32))), .val (.int L2), .val (.int B2), .val (.ref w1), .val (.ref w2), .val (.ref b9), .val (.int (((p6.toUInt32 >>> ((2 : Int32) &&& 31).toUInt32).toInt32) &&& (3 : Int32))), .val (.ref b11), .val (.int (0 : Int32))] [])) _
    refine XS.aload X13.here hx rfl (hb hby at_222) rfl rfl ?_
    show Steps p.tables e below (T13.setTop (mkF m 224 #[.val (.int p1), .val (.int p2), .val (.int p3), .val (.int p4), .val (.int p5), .val (.int p6), .val (.int ((p1 &&& (2147483647 : Int32)) % (100000 : Int32))), .val (.int ((p2 &&& (2147483647 : Int32)) % (100000 : Int32))), .val (.int L2), .val (.int B2), .val (.ref w1), .val (.ref w2), .val (.ref b9), .val (.int (((p6.toUInt32 >>> ((2 : Int32) &&& 31).toUInt32).toInt32) &&& (3 : Int32))), .val (.ref b11), .val (.int (0 : Int32))] [(.ref b11)])) _
    refine XS.aload X13.here hx rfl (hb hby at_224) rfl rfl ?_
    show Steps p.tables e below (T13.setTop (mkF m 226 #[.val (.int p1), .val (.int p2), .val (.int p3), .val (.int p4), .val (.int p5), .val (.int p6), .val (.int ((p1 &&& (2147483647 : Int32)) % (100000 : Int32))), .val (.int ((p2 &&& (2147483647 : Int32)) % (100000 : Int32))), .val (.int L2), .val (.int B2), .val (.ref w1), .val (.ref w2), .val (.ref b9), .val (.int (((p6.toUInt32 >>> ((2 : Int32) &&& 31).toUInt32).toInt32) &&& (3 : Int32))), .val (.ref b11), .val (.int (0 : Int32))] [(.ref b9), (.ref b11)])) _
    refine st14.trans ?_
    show Steps p.tables e below (T14.setTop (mkF m 229 #[.val (.int p1), .val (.int p2), .val (.int p3), .val (.int p4), .val (.int p5), .val (.int p6), .val (.int ((p1 &&& (2147483647 : Int32)) % (100000 : Int32))), .val (.int ((p2 &&& (2147483647 : Int32)) % (100000 : Int32))), .val (.int L2), .val (.int B2), .val (.ref w1), .val (.ref w2), .val (.ref b9), .val (.int (((p6.toUInt32 >>> ((2 : Int32) &&& 31).toUInt32).toInt32) &&& (3 : Int32))), .val (.ref b11), .val (.int (0 : Int32))] [(.int (0 : Int32))])) _
    refine XS.iload X14.here hx rfl (hb hby at_229) rfl ?_
    show Steps p.tables e below (T14.setTop (mkF m 231 #[.val (.int p1), .val (.int p2), .val (.int p3), .val (.int p4), .val (.int p5), .val (.int p6), .val (.int ((p1 &&& (2147483647 : Int32)) % (100000 : Int32))), .val (.int ((p2 &&& (2147483647 : Int32)) % (100000 : Int32))), .val (.int L2), .val (.int B2), .val (.ref w1), .val (.ref w2), .val (.ref b9), .val (.int (((p6.toUInt32 >>> ((2 : Int32) &&& 31).toUInt32).toInt32) &&& (3 : Int32))), .val (.ref b11), .val (.int (0 : Int32))] [(.int (0 : Int32)), (.int (0 : Int32))])) _
    refine XS.icmpNo X14.here hx rfl (hb hby at_231) rfl (teq (rfl : (0 : Int32) = (0 : Int32))).2 ?_
    show Steps p.tables e below (T14.setTop (mkF m 234 #[.val (.int p1), .val (.int p2), .val (.int p3), .val (.int p4), .val (.int p5), .val (.int p6), .val (.int ((p1 &&& (2147483647 : Int32)) % (100000 : Int32))), .val (.int ((p2 &&& (2147483647 : Int32)) % (100000 : Int32))), .val (.int L2), .val (.int B2), .val (.ref w1), .val (.ref w2), .val (.ref b9), .val (.int (((p6.toUInt32 >>> ((2 : Int32) &&& 31).toUInt32).toInt32) &&& (3 : Int32))), .val (.ref b11), .val (.int (0 : Int32))] [])) _
    refine XS.iconst X14.here hx rfl (hb hby at_234) ?_
    show Steps p.tables e below (T14.setTop (mkF m 235 #[.val (.int p1), .val (.int p2), .val (.int p3), .val (.int p4), .val (.int p5), .val (.int p6), .val (.int ((p1 &&& (2147483647 : Int32)) % (100000 : Int32))), .val (.int ((p2 &&& (2147483647 : Int32)) % (100000 : Int32))), .val (.int L2), .val (.int B2), .val (.ref w1), .val (.ref w2), .val (.ref b9), .val (.int (((p6.toUInt32 >>> ((2 : Int32) &&& 31).toUInt32).toInt32) &&& (3 : Int32))), .val (.ref b11), .val (.int (0 : Int32))] [(.int (1 : Int32))])) _
    refine XS.goto X14.here hx rfl (pc0 := 235) (pc' := 239) rfl (hb hby at_235) (by decide) (by decide) ?_
    show Steps p.tables e below (T14.setTop (mkF m 239 #[.val (.int p1), .val (.int p2), .val (.int p3), .val (.int p4), .val (.int p5), .val (.int p6), .val (.int ((p1 &&& (2147483647 : Int32)) % (100000 : Int32))), .val (.int ((p2 &&& (2147483647 : Int32)) % (100000 : Int32))), .val (.int L2), .val (.int B2), .val (.ref w1), .val (.ref w2), .val (.ref b9), .val (.int (((p6.toUInt32 >>> ((2 : Int32) &&& 31).toUInt32).toInt32) &&& (3 : Int32))), .val (.ref b11), .val (.int (0 : Int32))] [(.int (1 : Int32))])) _
    exact retN X14 hx (t := .boolean) Bd.returns (by simp) (hb hby at_239) hr
  · show Q0 h0 n0 _ T14.heap _
    rw [eq14]
    exact ⟨rfl, N14⟩
theorem rm0 (l : Launch) (Z : State) (a0 : Array Value) (hw : ∀ d ∈ tables_1, d.before a0 Z = true) (ws : List Jvm.Cond) (p1 : Int32) (p2 : Int32) (p3 : Int32) (p4 : Int32) (p5 : Int32) (p6 : Int32) (L2 : Int32) (B2 : Int32) (w1 w2 : Addr) (wC : Int32) (h0 : Heap) (n0 : Nat) (Z0 : n0 ≤ h0.size) (HL : (((p6 &&& (1 : Int32)) = (0 : Int32) ∧ L2 = (p3 &&& (2147483647 : Int32)) % (100000 : Int32)) ∨ (¬ (p6 &&& (1 : Int32)) = (0 : Int32) ∧ L2 = ((p1 &&& (2147483647 : Int32)) % (100000 : Int32))))) (HB : (((p6 &&& (2 : Int32)) = (0 : Int32) ∧ B2 = (p4 &&& (2147483647 : Int32)) % (100000 : Int32)) ∨ (¬ (p6 &&& (2 : Int32)) = (0 : Int32) ∧ B2 = ((p2 &&& (2147483647 : Int32)) % (100000 : Int32))))) (H1 : ((p5 &&& (3 : Int32)) = 0 ∧ Sta Z h0 "com/example/fieldwright/fieldwright/mater/RecordLabel$Status" "NEW" "Lcom/example/fieldwright/fieldwright/mater/RecordLabel$Status;" (.ref w1)) ∨ ((p5 &&& (3 : Int32)) = 1 ∧ Sta Z h0 "com/example/fieldwright/fieldwright/mater/RecordLabel$Status" "AMENDED" "Lcom/example/fieldwright/fieldwright/mater/RecordLabel$Status;" (.ref w1)) ∨ ((p5 &&& (3 : Int32)) = 2 ∧ Sta Z h0 "com/example/fieldwright/fieldwright/mater/RecordLabel$Status" "DELETED" "Lcom/example/fieldwright/fieldwright/mater/RecordLabel$Status;" (.ref w1)) ∨ ((p5 &&& (3 : Int32)) = 3 ∧ Sta Z h0 "com/example/fieldwright/fieldwright/mater/RecordLabel$Status" "INFORMATION" "Lcom/example/fieldwright/fieldwright/mater/RecordLabel$Status;" (.ref w1))) (H2 : ((((p5.toUInt32 >>> ((2 : Int32) &&& 31).toUInt32).toInt32) &&& (3 : Int32)) = 0 ∧ Sta Z h0 "com/example/fieldwright/fieldwright/mater/RecordLabel$Status" "NEW" "Lcom/example/fieldwright/fieldwright/mater/RecordLabel$Status;" (.ref w2)) ∨ ((((p5.toUInt32 >>> ((2 : Int32) &&& 31).toUInt32).toInt32) &&& (3 : Int32)) = 1 ∧ Sta Z h0 "com/example/fieldwright/fieldwright/mater/RecordLabel$Status" "AMENDED" "Lcom/example/fieldwright/fieldwright/mater/RecordLabel$Status;" (.ref w2)) ∨ ((((p5.toUInt32 >>> ((2 : Int32) &&& 31).toUInt32).toInt32) &&& (3 : Int32)) = 2 ∧ Sta Z h0 "com/example/fieldwright/fieldwright/mater/RecordLabel$Status" "DELETED" "Lcom/example/fieldwright/fieldwright/mater/RecordLabel$Status;" (.ref w2)) ∨ ((((p5.toUInt32 >>> ((2 : Int32) &&& 31).toUInt32).toInt32) &&& (3 : Int32)) = 3 ∧ Sta Z h0 "com/example/fieldwright/fieldwright/mater/RecordLabel$Status" "INFORMATION" "Lcom/example/fieldwright/fieldwright/mater/RecordLabel$Status;" (.ref w2))) (E1 : Exa Z h0 w1 "com/example/fieldwright/fieldwright/mater/RecordLabel$Status") (E2 : Exa Z h0 w2 "com/example/fieldwright/fieldwright/mater/RecordLabel$Status") (SC : Sta Z h0 "java/lang/String" "COMPACT_STRINGS" "Z" (.int wC)) (hC : ¬ (wC = (0 : Int32))) (RL : ¬ (L2 < (0 : Int32)) ∧ ¬ ((99999 : Int32) < L2)) (RB : ¬ (B2 < (0 : Int32)) ∧ ¬ ((99999 : Int32) < B2)) :
    MetFree l x (head1 (Jvm.Cond.code x code maxLocals ret :: ws) room_1) (fun a U => a = #[(.int p1), (.int p2), (.int p3), (.int p4), (.int p5), (.int p6)] ∧ Z.Warmed39 U.vm ∧ U.heap = h0) (fun _ _ _ _ _ => True) (fun _ U o U' => ∃ v L, o = .returned v ∧ Q0 h0 n0 v U'.heap L ∧ ReturnedEndW U o U' L room_1.cells room_1.slots) := by
  rcases own_and3 ((p6.toUInt32 >>> ((2 : Int32) &&& 31).toUInt32).toInt32) with k | k | k | k
  · by_cases h1 : ((p1 &&& (2147483647 : Int32)) % (100000 : Int32)) = L2
    · by_cases h2 : w1 = w2
      · by_cases h3 : ((p2 &&& (2147483647 : Int32)) % (100000 : Int32)) = B2
        · exact rm0_tttfffff l Z a0 hw ws p1 p2 p3 p4 p5 p6 L2 B2 w1 w2 wC h0 n0 Z0 HL HB H1 H2 E1 E2 SC hC RL RB (by rw [k]; decide) (by rw [k]; decide) (by rw [k]; decide) h1 h2 h3
        · exact rm0_tttfftff l Z a0 hw ws p1 p2 p3 p4 p5 p6 L2 B2 w1 w2 wC h0 n0 Z0 HL HB H1 H2 E1 E2 SC hC RL RB (by rw [k]; decide) (by rw [k]; decide) (by rw [k]; decide) h1 h2 h3
      · exact rm0_tttftff l Z a0 hw ws p1 p2 p3 p4 p5 p6 L2 B2 w1 w2 wC h0 n0 Z0 HL HB H1 H2 E1 E2 SC hC RL RB (by rw [k]; decide) (by rw [k]; decide) (by rw [k]; decide) h1 h2
    · exact rm0_ttttff l Z a0 hw ws p1 p2 p3 p4 p5 p6 L2 B2 w1 w2 wC h0 n0 Z0 HL HB H1 H2 E1 E2 SC hC RL RB (by rw [k]; decide) (by rw [k]; decide) (by rw [k]; decide) h1
  · exact rm0_ff l Z a0 hw ws p1 p2 p3 p4 p5 p6 L2 B2 w1 w2 wC h0 n0 Z0 HL HB H1 H2 E1 E2 SC hC RL RB k
  · exact rm0_tff l Z a0 hw ws p1 p2 p3 p4 p5 p6 L2 B2 w1 w2 wC h0 n0 Z0 HL HB H1 H2 E1 E2 SC hC RL RB (by rw [k]; decide) k
  · exact rm0_ttf l Z a0 hw ws p1 p2 p3 p4 p5 p6 L2 B2 w1 w2 wC h0 n0 Z0 HL HB H1 H2 E1 E2 SC hC RL RB (by rw [k]; decide) (by rw [k]; decide) k
set_option maxRecDepth 65536 in
set_option maxHeartbeats 40000000 in
theorem comes_1 {Post : Tables → Env → Array Value → State → Outcome → State → Prop} (hpost : ∀ tb e args s v u, (limb_1_1.after args s (.returned v) u = true ∧ limb_1_2.after args s (.returned v) u = true ∧ True) → ReturnedEndW s (.returned v) u (Jvm.fieldLocs frame_1_writes args s ++ Jvm.arrayLocs frame_1_arrays args s ++ Jvm.staticLocs frame_1_statics s) 24 3200 → Post tb e args s (.returned v) u) :
    ArmFor flags0 classFile x code maxLocals ret World_1 tables_1 room_1 Calls_1 rest_1 Pre_1 Post := by
  intro l hfl _ _ p e ha hc hk s m args below hf hA hF happ hP
  obtain ⟨hcalls, hrest, hpre⟩ := hP
  obtain ⟨-, -, -, hnamed, -, -, -, hat⟩ := (Spec.applies_iff hf).mp happ
  obtain ⟨hg, hn⟩ := and_e (Cond.before_iff.mp (show (Jvm.Cond.and given_1 narrow_1).before args s = true from hpre))
  obtain ⟨g15, g16⟩ := and_e hg
  obtain ⟨g17, g18⟩ := and_e g16
  obtain ⟨g19, g20⟩ := and_e g18
  obtain ⟨g21, g22⟩ := and_e g20
  obtain ⟨g23, g24⟩ := and_e g22
  obtain ⟨g25, g26⟩ := and_e g24
  obtain ⟨w0, w1, w2, w3, w4, w5, rfl⟩ : ∃ w0 w1 w2 w3 w4 w5 : Value, args = #[w0, w1, w2, w3, w4, w5] := by
    have hs : args.size = 6 := by simpa [Cond.value, given_1] using g15
    obtain ⟨L⟩ := args
    match L, hs with
    | [w0, w1, w2, w3, w4, w5], _ => exact ⟨w0, w1, w2, w3, w4, w5, rfl⟩
  have hw := fun d (hd : d ∈ tables_1) => atoms_spec (ws := Jvm.Cond.code x code maxLocals ret :: tables_1) hat d (List.mem_cons_of_mem _ hd)
  have hfit : Fit s := fun {y c} hc i hi => by
    obtain ⟨ha, rfl⟩ := Array.getElem?_eq_some_iff.mp hc
    have q := List.all_eq_true.mp ((Array.all_eq_true_iff_forall_mem.mp hF) _ (Array.getElem_mem ha)) i (List.mem_range.mpr hi)
    simpa [Array.getElem?_eq_getElem hi] using q
  obtain ⟨hsets, hown0⟩ := atoms_of _ (rest_1_c_eq ▸ (show rest_1_c.before _ s = true from hrest))
  have hr0 := Cond.before_iff.mp hown0
  obtain ⟨i0, ei0⟩ := is_v g17
  obtain rfl : w0 = (.int i0) := Option.some.inj ei0
  obtain ⟨i1, ei1⟩ := is_v g19
  obtain rfl : w1 = (.int i1) := Option.some.inj ei1
  obtain ⟨i2, ei2⟩ := is_v g21
  obtain rfl : w2 = (.int i2) := Option.some.inj ei2
  obtain ⟨i3, ei3⟩ := is_v g23
  obtain rfl : w3 = (.int i3) := Option.some.inj ei3
  obtain ⟨i4, ei4⟩ := is_v g25
  obtain rfl : w4 = (.int i4) := Option.some.inj ei4
  obtain ⟨i5, ei5⟩ := is_v g26
  obtain rfl : w5 = (.int i5) := Option.some.inj ei5
  obtain ⟨n1, hn⟩ := and_e hn
  obtain ⟨n2, hn⟩ := and_e hn
  obtain ⟨n3, hn⟩ := and_e hn
  obtain ⟨n4, hn⟩ := and_e hn
  obtain ⟨n5, hn⟩ := and_e hn
  obtain ⟨n6, hn⟩ := and_e hn
  obtain ⟨n7, n8⟩ := and_e hn
  obtain ⟨a_NEW, v_NEW, S_NEW, E_NEW⟩ := own_st n1 (hw _ (List.mem_of_getElem? (i := 7) rfl)) (hw _ (List.mem_of_getElem? (i := 8) rfl))
  obtain ⟨a_DELETED, v_DELETED, S_DELETED, E_DELETED⟩ := own_st n2 (hw _ (List.mem_of_getElem? (i := 7) rfl)) (hw _ (List.mem_of_getElem? (i := 52) rfl))
  obtain ⟨a_AMENDED, v_AMENDED, S_AMENDED, E_AMENDED⟩ := own_st n3 (hw _ (List.mem_of_getElem? (i := 7) rfl)) (hw _ (List.mem_of_getElem? (i := 54) rfl))
  obtain ⟨a_INFORMATION, v_INFORMATION, S_INFORMATION, E_INFORMATION⟩ := own_st n4 (hw _ (List.mem_of_getElem? (i := 7) rfl)) (hw _ (List.mem_of_getElem? (i := 56) rfl))
  have F_DELETED := own_fld v_DELETED n5
  have F_INFORMATION := own_fld v_INFORMATION n6
  have F_AMENDED := own_fld v_AMENDED n7
  have F_NEW := own_fld v_NEW n8
  obtain ⟨wC, eC⟩ := is_v (Cond.before_iff.mp (hsets _ (List.mem_of_getElem? (i := 1) rfl)))
  have SC : Sta s s.heap "java/lang/String" "COMPACT_STRINGS" "Z" (.int wC) := Sta.start eC (Or.inl (hsets _ (List.mem_of_getElem? (i := 0) rfl)))
  have nC := not_v (Cond.before_iff.mp (hsets _ (List.mem_of_getElem? (i := 2) rfl)))
  have hC : ¬ (wC = (0 : Int32)) := gotF (Cond.eq_ints eC (Term.int_eval 0)) nC
  have HST : ∀ k : Int32, (k = 0 ∨ k = 1 ∨ k = 2 ∨ k = 3) → ∃ b, ((k = 0 ∧ Sta s s.heap "com/example/fieldwright/fieldwright/mater/RecordLabel$Status" "NEW" "Lcom/example/fieldwright/fieldwright/mater/RecordLabel$Status;" (.ref b)) ∨ (k = 1 ∧ Sta s s.heap "com/example/fieldwright/fieldwright/mater/RecordLabel$Status" "AMENDED" "Lcom/example/fieldwright/fieldwright/mater/RecordLabel$Status;" (.ref b)) ∨ (k = 2 ∧ Sta s s.heap "com/example/fieldwright/fieldwright/mater/RecordLabel$Status" "DELETED" "Lcom/example/fieldwright/fieldwright/mater/RecordLabel$Status;" (.ref b)) ∨ (k = 3 ∧ Sta s s.heap "com/example/fieldwright/fieldwright/mater/RecordLabel$Status" "INFORMATION" "Lcom/example/fieldwright/fieldwright/mater/RecordLabel$Status;" (.ref b))) ∧ Exa s s.heap b "com/example/fieldwright/fieldwright/mater/RecordLabel$Status" := by
    intro k hk
    rcases hk with q | q | q | q
    · exact ⟨a_NEW, Or.inl ⟨q, S_NEW⟩, E_NEW⟩
    · exact ⟨a_AMENDED, Or.inr (Or.inl ⟨q, S_AMENDED⟩), E_AMENDED⟩
    · exact ⟨a_DELETED, Or.inr (Or.inr (Or.inl ⟨q, S_DELETED⟩)), E_DELETED⟩
    · exact ⟨a_INFORMATION, Or.inr (Or.inr (Or.inr ⟨q, S_INFORMATION⟩)), E_INFORMATION⟩
  obtain ⟨b1, H1, X1⟩ := HST (i4 &&& (3 : Int32)) (own_and3 _)
  obtain ⟨b2, H2, X2⟩ := HST (((i4.toUInt32 >>> ((2 : Int32) &&& 31).toUInt32).toInt32) &&& (3 : Int32)) (own_and3 _)
  obtain ⟨L2, HL, RL⟩ : ∃ L2 : Int32, (((i5 &&& (1 : Int32)) = (0 : Int32) ∧ L2 = (i2 &&& (2147483647 : Int32)) % (100000 : Int32)) ∨ (¬ (i5 &&& (1 : Int32)) = (0 : Int32) ∧ L2 = ((i0 &&& (2147483647 : Int32)) % (100000 : Int32)))) ∧ (¬ (L2 < (0 : Int32)) ∧ ¬ ((99999 : Int32) < L2)) := by
    by_cases q : (i5 &&& (1 : Int32)) = (0 : Int32)
    · exact ⟨_, Or.inl ⟨q, rfl⟩, own_rng i2⟩
    · exact ⟨_, Or.inr ⟨q, rfl⟩, own_rng i0⟩
  obtain ⟨B2, HB, RB⟩ : ∃ B2 : Int32, (((i5 &&& (2 : Int32)) = (0 : Int32) ∧ B2 = (i3 &&& (2147483647 : Int32)) % (100000 : Int32)) ∨ (¬ (i5 &&& (2 : Int32)) = (0 : Int32) ∧ B2 = ((i1 &&& (2147483647 : Int32)) % (100000 : Int32)))) ∧ (¬ (B2 < (0 : Int32)) ∧ ¬ ((99999 : Int32) < B2)) := by
    by_cases q : (i5 &&& (2 : Int32)) = (0 : Int32)
    · exact ⟨_, Or.inl ⟨q, rfl⟩, own_rng i3⟩
    · exact ⟨_, Or.inr ⟨q, rfl⟩, own_rng i1⟩
  obtain ⟨n, o, h1, h2, h3, _, L, rfl, ⟨rfl, N⟩, hq⟩ := rm0 l s _ hw tables_1 i0 i1 i2 i3 i4 i5 L2 B2 b1 b2 wC s.heap s.heap.size (Nat.le_refl _) HL HB H1 H2 X1 X2 SC hC RL RB p e ha hc hk s m _ below hf ((Spec.applies_iff_loose hf).mp happ).1 ⟨rfl, State.Warmed39.refl s, rfl⟩ trivial
  refine ⟨n, _, h1, h2, h3, hpost _ _ _ _ _ _ ⟨Cond.after_iff.mpr rfl, Cond.after_iff.mpr (eq_i res_at (Term.int_eval (1)) rfl), trivial⟩ ⟨hq.1, hq.2.1, hq.2.2.1, (hq.2.2.2.sift fun y hy => Or.inr (N y hy)).mono (by decide) (by decide)⟩⟩
theorem main_1_1 : Claimed_1_1 := comes_1 fun _ _ _ _ _ _ h hF => ⟨h.1, hF⟩
theorem main_1_2 : Claimed_1_2 := comes_1 fun _ _ _ _ _ _ h hF => ⟨h.2.1, hF⟩
end Jvm.Pilot.@@N@@
namespace Jvm.Pilot.@@N@@
open Jvm Jvm.ClassFile Sem Op Lib Jvm.Free Jvm.Stand Jvm.Pilot.@@N@@.Jvm.D
/-! MADE BY PROGRAM (witnessworld.py) out of the Statement's table words and the real class files: 20 classes; the members and pool entries that the words name. The judged class is class 1, her method 2. -/
namespace start1
open Jvm.ClassFile
def u (s : String) : CpInfo := .utf8 (stringToUtf16 s)
/-- a pool by its gaps: so many unusable entries, then the entry; so many at the end -/
def gap : Nat → List CpInfo → List CpInfo
  | 0, r => r
  | n + 1, r => .unusable :: gap n r
def poolList (es : List (Nat × CpInfo)) (last : Nat) : List CpInfo := es.foldr (fun e r => gap e.1 (e.2 :: r)) (gap last [])
def pool (es : List (Nat × CpInfo)) (last : Nat) : Array CpInfo := ⟨poolList es last⟩
def fileOf (pool : Array CpInfo) (this : Nat) (attrs : Array Attribute := #[]) (ms : Array MethodInfo := #[]) (fl : Nat := 33) (sup : Nat := 0) (ifs : Array Nat := #[]) (fds : Array FieldInfo := #[]) : ClassFile where
  minorVersion := 0
  majorVersion := 65
  constantPool := pool
  accessFlags := fl
  thisClass := this
  superClass := sup
  interfaces := ifs
  fields := fds
  methods := ms
  attributes := attrs
def plain (name : String) (sup : Option ClassId) : Class where
  name := name
  kind := .ordinary
  loader := none
  accessFlags := 33
  super := sup
  interfaces := #[]
  cf := none
  fields := #[]
  methods := #[]
  instanceTypes := #[]
  staticTypes := #[]
  resolved := #[]
  callSites := []
  init := .initialized
  statics := none
  mirror := none

def pool0 : Array CpInfo := pool [(5, u "<init>"), (0, u "()V"), (1, .class_ 10), (1, u "java/lang/Object")] 113

def k0c0 : Code := { maxStack := 0, maxLocals := 1, code := object_method_1_code, exceptionTable := #[], attributes := #[] }
def k0m0 : Method := { name := "<init>", desc := "()V", sig := { parameters := [], returnType := none }, accessFlags := 1, code := some k0c0 }
/-- java/lang/Object -/
def k0 : Class := { plain "java/lang/Object" none with
  accessFlags := 33
  interfaces := #[]
  cf := some (fileOf pool0 8 #[] #[{ accessFlags := 1, nameIndex := 5, descriptorIndex := 6, attributes := #[] }] 33 0 #[] #[])
  fields := #[]
  methods := #[k0m0]
  instanceTypes := #[]
  staticTypes := #[]
  resolved := Array.replicate 124 none
  statics := none }

def pool1 : Array CpInfo := pool [(2, .class_ 4), (1, u "java/lang/Object"), (0, u "<init>"), (0, u "()V"), (0, .fieldref 8 9), (0, .class_ 10), (0, .nameAndType 11 12), (0, u "com/example/fieldwright/fieldwright/mater/RecordLabel$Status"), (0, u "NEW"), (0, u "Lcom/example/fieldwright/fieldwright/mater/RecordLabel$Status;"), (0, .fieldref 8 14), (0, .nameAndType 15 12), (0, u "AMENDED"), (0, .fieldref 8 17), (0, .nameAndType 18 12), (0, u "DELETED"), (0, .fieldref 8 20), (0, .nameAndType 21 12), (0, u "INFORMATION"), (0, .integer 2147483647), (0, .integer 100000), (0, .methodref 25 26), (0, .class_ 27), (0, .nameAndType 28 29), (0, u "com/example/fieldwright/fieldwright/mater/RecordLabelEqualsPinLaw"), (0, u "status"), (0, u "(I)Lcom/example/fieldwright/fieldwright/mater/RecordLabel$Status;"), (0, .class_ 31), (0, u "com/example/fieldwright/fieldwright/mater/RecordLabel"), (0, .methodref 30 33), (0, .nameAndType 5 34), (0, u "(ILcom/example/fieldwright/fieldwright/mater/RecordLabel$Status;I)V"), (0, .methodref 30 36), (0, .nameAndType 37 38), (0, u "equals"), (0, u "(Ljava/lang/Object;)Z"), (0, .methodref 40 41), (0, .class_ 42), (0, .nameAndType 43 44), (0, u "java/lang/String"), (0, u "valueOf"), (0, u "(C)Ljava/lang/String;"), (3, u "law"), (0, u "(IIIIII)Z")] 4

def k1m0 : Method := { name := "<init>", desc := "()V", sig := { parameters := [], returnType := none }, accessFlags := 1, code := none }
def k1c1 : Code := { maxStack := 2, maxLocals := 1, code := method_2_code, exceptionTable := #[], attributes := #[] }
def k1m1 : Method := { name := "status", desc := "(I)Lcom/example/fieldwright/fieldwright/mater/RecordLabel$Status;", sig := { parameters := [.int], returnType := some (.object "com/example/fieldwright/fieldwright/mater/RecordLabel$Status") }, accessFlags := 10, code := some k1c1 }
def k1c2 : Code := { maxStack := 5, maxLocals := 16, code := code, exceptionTable := #[], attributes := #[] }
def k1m2 : Method := { name := "law", desc := "(IIIIII)Z", sig := { parameters := [.int, .int, .int, .int, .int, .int], returnType := some .boolean }, accessFlags := 9, code := some k1c2 }
/-- com/example/fieldwright/fieldwright/mater/RecordLabelEqualsPinLaw -/
def k1 : Class := { plain "com/example/fieldwright/fieldwright/mater/RecordLabelEqualsPinLaw" (some 0) with
  accessFlags := 49
  interfaces := #[]
  cf := some (fileOf pool1 25 #[] #[{ accessFlags := 1, nameIndex := 5, descriptorIndex := 6, attributes := #[] }, { accessFlags := 10, nameIndex := 28, descriptorIndex := 29, attributes := #[] }, { accessFlags := 9, nameIndex := 48, descriptorIndex := 49, attributes := #[] }] 49 2 #[] #[])
  fields := #[]
  methods := #[k1m0, k1m1, k1m2]
  instanceTypes := #[]
  staticTypes := #[]
  resolved := Array.replicate 54 none
  statics := none }

def pool2 : Array CpInfo := pool [(1, .class_ 2), (0, u "java/lang/constant/Constable"), (0, .class_ 4), (0, u "java/lang/Object")] 6

/-- java/lang/constant/Constable -/
def k2 : Class := { plain "java/lang/constant/Constable" (some 0) with
  accessFlags := 1537
  interfaces := #[]
  cf := some (fileOf pool2 1 #[] #[] 1537 3 #[] #[])
  fields := #[]
  methods := #[]
  instanceTypes := #[]
  staticTypes := #[]
  resolved := Array.replicate 11 none
  statics := none }

def pool3 : Array CpInfo := pool [(1, .class_ 2), (0, u "java/lang/Comparable"), (0, .class_ 4), (0, u "java/lang/Object")] 7

/-- java/lang/Comparable -/
def k3 : Class := { plain "java/lang/Comparable" (some 0) with
  accessFlags := 1537
  interfaces := #[]
  cf := some (fileOf pool3 1 #[] #[] 1537 3 #[] #[])
  fields := #[]
  methods := #[]
  instanceTypes := #[]
  staticTypes := #[]
  resolved := Array.replicate 12 none
  statics := none }

def pool4 : Array CpInfo := pool [(1, .class_ 2), (0, u "java/io/Serializable"), (0, .class_ 4), (0, u "java/lang/Object")] 2

/-- java/io/Serializable -/
def k4 : Class := { plain "java/io/Serializable" (some 0) with
  accessFlags := 1537
  interfaces := #[]
  cf := some (fileOf pool4 1 #[] #[] 1537 3 #[] #[])
  fields := #[]
  methods := #[]
  instanceTypes := #[]
  staticTypes := #[]
  resolved := Array.replicate 7 none
  statics := none }

def pool5 : Array CpInfo := pool [(2, .class_ 4), (1, u "java/lang/Enum"), (0, u "name"), (0, u "Ljava/lang/String;"), (2, u "ordinal"), (0, u "I"), (1, .class_ 14), (1, u "java/lang/Object"), (4, u "hash"), (86, .class_ 108), (1, u "java/lang/Enum$EnumDesc"), (2, .class_ 112), (0, u "java/lang/constant/Constable"), (0, .class_ 114), (0, u "java/lang/Comparable"), (0, .class_ 116), (0, u "java/io/Serializable")] 87

/-- java/lang/Enum -/
def k5 : Class := { plain "java/lang/Enum" (some 0) with
  accessFlags := 1057
  interfaces := #[2, 3, 4]
  cf := some (fileOf pool5 2 #[.nestMembers #[106]] #[] 1057 12 #[111, 113, 115] #[{ accessFlags := 18, nameIndex := 5, descriptorIndex := 6, attributes := #[] }, { accessFlags := 18, nameIndex := 9, descriptorIndex := 10, attributes := #[] }, { accessFlags := 2, nameIndex := 19, descriptorIndex := 10, attributes := #[] }])
  fields := #[{ name := "name", type := (.object "java/lang/String"), accessFlags := 18, slot := 0, constantValue := 0 }, { name := "ordinal", type := .int, accessFlags := 18, slot := 1, constantValue := 0 }, { name := "hash", type := .int, accessFlags := 2, slot := 2, constantValue := 0 }]
  methods := #[]
  instanceTypes := #[(.object "java/lang/String"), .int, .int]
  staticTypes := #[]
  resolved := Array.replicate 204 none
  statics := none }

def pool6 : Array CpInfo := pool [(1, .class_ 2), (0, u "com/example/fieldwright/fieldwright/mater/RecordLabel$Status"), (2, u "NEW"), (0, u "Lcom/example/fieldwright/fieldwright/mater/RecordLabel$Status;"), (2, u "AMENDED"), (2, u "DELETED"), (2, u "INFORMATION"), (2, u "$VALUES"), (0, u "[Lcom/example/fieldwright/fieldwright/mater/RecordLabel$Status;"), (6, .class_ 28), (1, u "java/lang/Enum"), (8, u "code"), (0, u "B"), (2, u "ALL"), (30, .class_ 73), (0, u "com/example/fieldwright/fieldwright/mater/RecordLabel")] 2

/-- com/example/fieldwright/fieldwright/mater/RecordLabel$Status -/
def k6 : Class := { plain "com/example/fieldwright/fieldwright/mater/RecordLabel$Status" (some 5) with
  accessFlags := 16433
  interfaces := #[]
  cf := some (fileOf pool6 1 #[.nestHost 72] #[] 16433 26 #[] #[{ accessFlags := 16409, nameIndex := 5, descriptorIndex := 6, attributes := #[] }, { accessFlags := 16409, nameIndex := 9, descriptorIndex := 6, attributes := #[] }, { accessFlags := 16409, nameIndex := 12, descriptorIndex := 6, attributes := #[] }, { accessFlags := 16409, nameIndex := 15, descriptorIndex := 6, attributes := #[] }, { accessFlags := 26, nameIndex := 41, descriptorIndex := 19, attributes := #[] }, { accessFlags := 18, nameIndex := 37, descriptorIndex := 38, attributes := #[] }, { accessFlags := 4122, nameIndex := 18, descriptorIndex := 19, attributes := #[] }])
  fields := #[{ name := "NEW", type := (.object "com/example/fieldwright/fieldwright/mater/RecordLabel$Status"), accessFlags := 16409, slot := 0, constantValue := 0 }, { name := "AMENDED", type := (.object "com/example/fieldwright/fieldwright/mater/RecordLabel$Status"), accessFlags := 16409, slot := 1, constantValue := 0 }, { name := "DELETED", type := (.object "com/example/fieldwright/fieldwright/mater/RecordLabel$Status"), accessFlags := 16409, slot := 2, constantValue := 0 }, { name := "INFORMATION", type := (.object "com/example/fieldwright/fieldwright/mater/RecordLabel$Status"), accessFlags := 16409, slot := 3, constantValue := 0 }, { name := "ALL", type := (.array (.object "com/example/fieldwright/fieldwright/mater/RecordLabel$Status")), accessFlags := 26, slot := 4, constantValue := 0 }, { name := "code", type := .byte, accessFlags := 18, slot := 3, constantValue := 0 }, { name := "$VALUES", type := (.array (.object "com/example/fieldwright/fieldwright/mater/RecordLabel$Status")), accessFlags := 4122, slot := 5, constantValue := 0 }]
  methods := #[]
  instanceTypes := #[(.object "java/lang/String"), .int, .int, .byte]
  staticTypes := #[(.object "com/example/fieldwright/fieldwright/mater/RecordLabel$Status"), (.object "com/example/fieldwright/fieldwright/mater/RecordLabel$Status"), (.object "com/example/fieldwright/fieldwright/mater/RecordLabel$Status"), (.object "com/example/fieldwright/fieldwright/mater/RecordLabel$Status"), (.array (.object "com/example/fieldwright/fieldwright/mater/RecordLabel$Status")), (.array (.object "com/example/fieldwright/fieldwright/mater/RecordLabel$Status"))]
  resolved := Array.replicate 76 none
  statics := some 0 }

def pool7 : Array CpInfo := pool [(1, .methodref 2 3), (0, .class_ 4), (0, .nameAndType 5 6), (0, u "java/lang/Object"), (0, u "<init>"), (0, u "()V"), (0, .class_ 8), (0, u "com/example/fieldwright/fieldwright/mater/RecordLabel"), (0, .string 10), (0, u "record length"), (0, .methodref 7 12), (0, .nameAndType 13 14), (0, u "checkNumber"), (0, u "(Ljava/lang/String;I)I"), (0, .fieldref 7 16), (0, .nameAndType 17 18), (0, u "recordLength"), (0, u "I"), (0, .string 20), (0, u "status"), (0, .methodref 22 23), (0, .class_ 24), (0, .nameAndType 25 26), (0, u "java/util/Objects"), (0, u "requireNonNull"), (0, u "(Ljava/lang/Object;Ljava/lang/String;)Ljava/lang/Object;"), (0, .class_ 28), (0, u "com/example/fieldwright/fieldwright/mater/RecordLabel$Status"), (0, .fieldref 7 30), (0, .nameAndType 20 31), (0, u "Lcom/example/fieldwright/fieldwright/mater/RecordLabel$Status;"), (0, .string 33), (0, u "base address"), (0, .fieldref 7 35), (0, .nameAndType 36 18), (0, u "baseAddress"), (49, u "TEMPLATE"), (0, u "[B"), (8, u "(ILcom/example/fieldwright/fieldwright/mater/RecordLabel$Status;I)V"), (38, .integer 99999), (20, u "LENGTH"), (2, u "MAX_NUMBER"), (0, u "LENGTH_AT"), (1, u "STATUS_AT"), (1, u "BASE_ADDRESS_AT"), (1, u "DIGITS"), (0, u "LENGTH_NAME"), (0, u "Ljava/lang/String;"), (0, u "BASE_ADDRESS_NAME"), (0, u "PART"), (0, u "FIXED"), (12, u "equals"), (0, u "(Ljava/lang/Object;)Z")] 28

def k7c0 : Code := { maxStack := 3, maxLocals := 4, code := prog_26_method_1_code, exceptionTable := #[], attributes := #[] }
def k7m0 : Method := { name := "<init>", desc := "(ILcom/example/fieldwright/fieldwright/mater/RecordLabel$Status;I)V", sig := { parameters := [.int, (.object "com/example/fieldwright/fieldwright/mater/RecordLabel$Status"), .int], returnType := none }, accessFlags := 1, code := some k7c0 }
def k7c1 : Code := { maxStack := 2, maxLocals := 3, code := prog_26_method_10_code, exceptionTable := #[], attributes := #[] }
def k7m1 : Method := { name := "equals", desc := "(Ljava/lang/Object;)Z", sig := { parameters := [(.object "java/lang/Object")], returnType := some .boolean }, accessFlags := 1, code := some k7c1 }
def k7c2 : Code := { maxStack := 4, maxLocals := 2, code := prog_26_method_13_code, exceptionTable := #[], attributes := #[] }
def k7m2 : Method := { name := "checkNumber", desc := "(Ljava/lang/String;I)I", sig := { parameters := [(.object "java/lang/String"), .int], returnType := some .int }, accessFlags := 10, code := some k7c2 }
/-- com/example/fieldwright/fieldwright/mater/RecordLabel -/
def k7 : Class := { plain "com/example/fieldwright/fieldwright/mater/RecordLabel" (some 0) with
  accessFlags := 33
  interfaces := #[]
  cf := some (fileOf pool7 7 #[.nestMembers #[27]] #[{ accessFlags := 1, nameIndex := 5, descriptorIndex := 96, attributes := #[] }, { accessFlags := 1, nameIndex := 184, descriptorIndex := 185, attributes := #[] }, { accessFlags := 10, nameIndex := 13, descriptorIndex := 14, attributes := #[] }] 33 2 #[] #[{ accessFlags := 25, nameIndex := 156, descriptorIndex := 18, attributes := #[] }, { accessFlags := 25, nameIndex := 159, descriptorIndex := 18, attributes := #[] }, { accessFlags := 26, nameIndex := 160, descriptorIndex := 18, attributes := #[] }, { accessFlags := 26, nameIndex := 162, descriptorIndex := 18, attributes := #[] }, { accessFlags := 26, nameIndex := 164, descriptorIndex := 18, attributes := #[] }, { accessFlags := 26, nameIndex := 166, descriptorIndex := 18, attributes := #[] }, { accessFlags := 26, nameIndex := 167, descriptorIndex := 168, attributes := #[] }, { accessFlags := 26, nameIndex := 169, descriptorIndex := 168, attributes := #[] }, { accessFlags := 26, nameIndex := 170, descriptorIndex := 168, attributes := #[] }, { accessFlags := 26, nameIndex := 171, descriptorIndex := 168, attributes := #[] }, { accessFlags := 26, nameIndex := 86, descriptorIndex := 87, attributes := #[] }, { accessFlags := 18, nameIndex := 17, descriptorIndex := 18, attributes := #[] }, { accessFlags := 18, nameIndex := 20, descriptorIndex := 31, attributes := #[] }, { accessFlags := 18, nameIndex := 36, descriptorIndex := 18, attributes := #[] }])
  fields := #[{ name := "LENGTH", type := .int, accessFlags := 25, slot := 0, constantValue := 0 }, { name := "MAX_NUMBER", type := .int, accessFlags := 25, slot := 1, constantValue := 0 }, { name := "LENGTH_AT", type := .int, accessFlags := 26, slot := 2, constantValue := 0 }, { name := "STATUS_AT", type := .int, accessFlags := 26, slot := 3, constantValue := 0 }, { name := "BASE_ADDRESS_AT", type := .int, accessFlags := 26, slot := 4, constantValue := 0 }, { name := "DIGITS", type := .int, accessFlags := 26, slot := 5, constantValue := 0 }, { name := "LENGTH_NAME", type := (.object "java/lang/String"), accessFlags := 26, slot := 6, constantValue := 0 }, { name := "BASE_ADDRESS_NAME", type := (.object "java/lang/String"), accessFlags := 26, slot := 7, constantValue := 0 }, { name := "PART", type := (.object "java/lang/String"), accessFlags := 26, slot := 8, constantValue := 0 }, { name := "FIXED", type := (.object "java/lang/String"), accessFlags := 26, slot := 9, constantValue := 0 }, { name := "TEMPLATE", type := (.array .byte), accessFlags := 26, slot := 10, constantValue := 0 }, { name := "recordLength", type := .int, accessFlags := 18, slot := 0, constantValue := 0 }, { name := "status", type := (.object "com/example/fieldwright/fieldwright/mater/RecordLabel$Status"), accessFlags := 18, slot := 1, constantValue := 0 }, { name := "baseAddress", type := .int, accessFlags := 18, slot := 2, constantValue := 0 }]
  methods := #[k7m0, k7m1, k7m2]
  instanceTypes := #[.int, (.object "com/example/fieldwright/fieldwright/mater/RecordLabel$Status"), .int]
  staticTypes := #[.int, .int, .int, .int, .int, .int, (.object "java/lang/String"), (.object "java/lang/String"), (.object "java/lang/String"), (.object "java/lang/String"), (.array .byte)]
  resolved := Array.replicate 214 none
  statics := none }

def pool8 : Array CpInfo := pool [(2, .class_ 4), (1, u "java/lang/CharSequence"), (42, .class_ 48), (0, u "java/lang/CharSequence$1CodePointIterator"), (10, .class_ 60), (0, u "java/lang/CharSequence$1CharIterator"), (5, .class_ 67), (0, u "java/lang/Object")] 63

/-- java/lang/CharSequence -/
def k8 : Class := { plain "java/lang/CharSequence" (some 0) with
  accessFlags := 1537
  interfaces := #[]
  cf := some (fileOf pool8 2 #[.nestMembers #[47, 59]] #[] 1537 66 #[] #[])
  fields := #[]
  methods := #[]
  instanceTypes := #[]
  staticTypes := #[]
  resolved := Array.replicate 131 none
  statics := none }

def pool9 : Array CpInfo := pool [(1, .class_ 2), (0, u "java/lang/constant/ConstantDesc"), (0, .class_ 4), (0, u "java/lang/Object")] 32

/-- java/lang/constant/ConstantDesc -/
def k9 : Class := { plain "java/lang/constant/ConstantDesc" (some 0) with
  accessFlags := 1537
  interfaces := #[]
  cf := some (fileOf pool9 1 #[] #[] 1537 3 #[] #[])
  fields := #[]
  methods := #[]
  instanceTypes := #[]
  staticTypes := #[]
  resolved := Array.replicate 37 none
  statics := none }

def pool10 : Array CpInfo := pool [(1, .methodref 2 3), (0, .class_ 4), (0, .nameAndType 5 6), (0, u "java/lang/Object"), (0, u "<init>"), (0, u "()V"), (2, .fieldref 10 11), (0, .class_ 12), (0, .nameAndType 13 14), (0, u "java/lang/String"), (0, u "value"), (0, u "[B"), (0, .fieldref 10 16), (0, .nameAndType 17 18), (0, u "coder"), (0, u "B"), (2, u "hash"), (0, u "I"), (2, u "hashIsZero"), (0, u "Z"), (11, .fieldref 10 39), (0, .nameAndType 40 26), (0, u "COMPACT_STRINGS"), (12, u "toBytes"), (53, .class_ 109), (1, u "java/lang/StringLatin1"), (99, .methodref 10 210), (0, .nameAndType 5 211), (0, u "([BB)V"), (157, u "(C)Z"), (205, .class_ 576), (0, u "java/lang/CharSequence"), (22, u "CASE_INSENSITIVE_ORDER"), (0, u "Ljava/util/Comparator;"), (181, u "valueOf"), (0, u "(C)Ljava/lang/String;"), (231, .methodref 107 1016), (0, .nameAndType 1017 369), (0, u "canEncode"), (0, .methodref 107 1019), (0, .nameAndType 53 1020), (0, u "(C)[B"), (80, u "serialPersistentFields"), (0, u "[Ljava/io/ObjectStreamField;"), (0, .class_ 1104), (0, u "java/lang/String$CaseInsensitiveComparator"), (1, .class_ 1107), (0, u "java/io/Serializable"), (0, .class_ 1109), (0, u "java/lang/Comparable"), (0, .class_ 1111), (0, u "java/lang/constant/Constable"), (0, .class_ 1113), (0, u "java/lang/constant/ConstantDesc"), (2, u "serialVersionUID"), (0, u "J"), (3, u "REPL"), (0, u "C"), (2, u "LATIN1"), (1, u "UTF16")] 323

def k10m0 : Method := { name := "<init>", desc := "()V", sig := { parameters := [], returnType := none }, accessFlags := 1, code := none }
def k10c1 : Code := { maxStack := 4, maxLocals := 1, code := jdk_42_method_139_code, exceptionTable := #[], attributes := #[] }
def k10m1 : Method := { name := "valueOf", desc := "(C)Ljava/lang/String;", sig := { parameters := [.char], returnType := some (.object "java/lang/String") }, accessFlags := 9, code := some k10c1 }
def k10c2 : Code := { maxStack := 2, maxLocals := 3, code := jdk_42_method_151_code, exceptionTable := #[], attributes := #[] }
def k10m2 : Method := { name := "<init>", desc := "([BB)V", sig := { parameters := [(.array .byte), .byte], returnType := none }, accessFlags := 0, code := some k10c2 }
/-- java/lang/String -/
def k10 : Class := { plain "java/lang/String" (some 0) with
  accessFlags := 49
  interfaces := #[4, 3, 8, 2, 9]
  cf := some (fileOf pool10 10 #[.nestMembers #[1103]] #[{ accessFlags := 1, nameIndex := 5, descriptorIndex := 6, attributes := #[] }, { accessFlags := 9, nameIndex := 782, descriptorIndex := 783, attributes := #[] }, { accessFlags := 0, nameIndex := 5, descriptorIndex := 211, attributes := #[] }] 49 2 #[1106, 1108, 575, 1110, 1112] #[{ accessFlags := 18, nameIndex := 13, descriptorIndex := 14, attributes := #[] }, { accessFlags := 18, nameIndex := 17, descriptorIndex := 18, attributes := #[] }, { accessFlags := 2, nameIndex := 21, descriptorIndex := 22, attributes := #[] }, { accessFlags := 2, nameIndex := 25, descriptorIndex := 26, attributes := #[] }, { accessFlags := 26, nameIndex := 1116, descriptorIndex := 1117, attributes := #[] }, { accessFlags := 24, nameIndex := 40, descriptorIndex := 26, attributes := #[] }, { accessFlags := 26, nameIndex := 1101, descriptorIndex := 1102, attributes := #[] }, { accessFlags := 26, nameIndex := 1121, descriptorIndex := 1122, attributes := #[] }, { accessFlags := 25, nameIndex := 599, descriptorIndex := 600, attributes := #[] }, { accessFlags := 24, nameIndex := 1125, descriptorIndex := 18, attributes := #[] }, { accessFlags := 24, nameIndex := 1127, descriptorIndex := 18, attributes := #[] }])
  fields := #[{ name := "value", type := (.array .byte), accessFlags := 18, slot := 0, constantValue := 0 }, { name := "coder", type := .byte, accessFlags := 18, slot := 1, constantValue := 0 }, { name := "hash", type := .int, accessFlags := 2, slot := 2, constantValue := 0 }, { name := "hashIsZero", type := .boolean, accessFlags := 2, slot := 3, constantValue := 0 }, { name := "serialVersionUID", type := .long, accessFlags := 26, slot := 0, constantValue := 0 }, { name := "COMPACT_STRINGS", type := .boolean, accessFlags := 24, slot := 1, constantValue := 0 }, { name := "serialPersistentFields", type := (.array (.object "java/io/ObjectStreamField")), accessFlags := 26, slot := 2, constantValue := 0 }, { name := "REPL", type := .char, accessFlags := 26, slot := 3, constantValue := 0 }, { name := "CASE_INSENSITIVE_ORDER", type := (.object "java/util/Comparator"), accessFlags := 25, slot := 4, constantValue := 0 }, { name := "LATIN1", type := .byte, accessFlags := 24, slot := 5, constantValue := 0 }, { name := "UTF16", type := .byte, accessFlags := 24, slot := 6, constantValue := 0 }]
  methods := #[k10m0, k10m1, k10m2]
  instanceTypes := #[(.array .byte), .byte, .int, .boolean]
  staticTypes := #[.long, .boolean, (.array (.object "java/io/ObjectStreamField")), .char, (.object "java/util/Comparator"), .byte, .byte]
  resolved := Array.replicate 1451 none
  statics := some 1 }

def pool11 : Array CpInfo := pool [(2, .class_ 4), (1, u "java/lang/Object"), (0, u "<init>"), (0, u "()V"), (35, .class_ 44), (1, u "java/util/Objects"), (0, u "requireNonNull"), (48, u "(Ljava/lang/Object;Ljava/lang/String;)Ljava/lang/Object;")] 89

def k11m0 : Method := { name := "<init>", desc := "()V", sig := { parameters := [], returnType := none }, accessFlags := 2, code := none }
def k11c1 : Code := { maxStack := 3, maxLocals := 2, code := jdk_31_method_11_code, exceptionTable := #[], attributes := #[] }
def k11m1 : Method := { name := "requireNonNull", desc := "(Ljava/lang/Object;Ljava/lang/String;)Ljava/lang/Object;", sig := { parameters := [(.object "java/lang/Object"), (.object "java/lang/String")], returnType := some (.object "java/lang/Object") }, accessFlags := 9, code := some k11c1 }
/-- java/util/Objects -/
def k11 : Class := { plain "java/util/Objects" (some 0) with
  accessFlags := 49
  interfaces := #[]
  cf := some (fileOf pool11 42 #[] #[{ accessFlags := 2, nameIndex := 5, descriptorIndex := 6, attributes := #[] }, { accessFlags := 9, nameIndex := 45, descriptorIndex := 94, attributes := #[] }] 49 2 #[] #[])
  fields := #[]
  methods := #[k11m0, k11m1]
  instanceTypes := #[]
  staticTypes := #[]
  resolved := Array.replicate 184 none
  statics := none }

def pool12 : Array CpInfo := pool [(4, .class_ 6), (1, u "java/lang/Object"), (0, u "<init>"), (0, u "()V"), (5, .class_ 16), (1, u "java/lang/StringLatin1"), (73, u "canEncode"), (14, u "(C)Z"), (15, u "$assertionsDisabled"), (0, u "Z"), (98, .class_ 223), (1, u "java/lang/StringLatin1$LinesSpliterator"), (156, u "toBytes"), (1, u "(C)[B"), (7, .class_ 391), (0, u "java/lang/StringLatin1$CharsSpliterator")] 3

def k12m0 : Method := { name := "<init>", desc := "()V", sig := { parameters := [], returnType := none }, accessFlags := 0, code := none }
def k12c1 : Code := { maxStack := 2, maxLocals := 1, code := jdk_43_method_3_code, exceptionTable := #[], attributes := #[] }
def k12m1 : Method := { name := "canEncode", desc := "(C)Z", sig := { parameters := [.char], returnType := some .boolean }, accessFlags := 9, code := some k12c1 }
def k12c2 : Code := { maxStack := 4, maxLocals := 1, code := jdk_43_method_46_code, exceptionTable := #[], attributes := #[] }
def k12m2 : Method := { name := "toBytes", desc := "(C)[B", sig := { parameters := [.char], returnType := some (.array .byte) }, accessFlags := 9, code := some k12c2 }
/-- java/lang/StringLatin1 -/
def k12 : Class := { plain "java/lang/StringLatin1" (some 0) with
  accessFlags := 48
  interfaces := #[]
  cf := some (fileOf pool12 14 #[.nestMembers #[390, 221]] #[{ accessFlags := 0, nameIndex := 7, descriptorIndex := 8, attributes := #[] }, { accessFlags := 9, nameIndex := 90, descriptorIndex := 105, attributes := #[] }, { accessFlags := 9, nameIndex := 380, descriptorIndex := 382, attributes := #[] }] 48 4 #[] #[{ accessFlags := 4120, nameIndex := 121, descriptorIndex := 122, attributes := #[] }])
  fields := #[{ name := "$assertionsDisabled", type := .boolean, accessFlags := 4120, slot := 0, constantValue := 0 }]
  methods := #[k12m0, k12m1, k12m2]
  instanceTypes := #[]
  staticTypes := #[.boolean]
  resolved := Array.replicate 395 none
  statics := none }

def pool13 : Array CpInfo := pool [(2, .class_ 4), (1, u "java/lang/Object"), (0, u "<init>"), (0, u "()V"), (17, .class_ 26), (1, u "jdk/internal/util/Preconditions"), (28, .class_ 56), (0, u "jdk/internal/util/Preconditions$4"), (57, .class_ 115), (0, u "jdk/internal/util/Preconditions$1"), (7, u "SIOOBE_FORMATTER"), (0, u "Ljava/util/function/BiFunction;"), (0, .class_ 126), (0, u "jdk/internal/util/Preconditions$2"), (3, u "AIOOBE_FORMATTER"), (0, .class_ 132), (0, u "jdk/internal/util/Preconditions$3"), (3, u "IOOBE_FORMATTER")] 57

def k13m0 : Method := { name := "<init>", desc := "()V", sig := { parameters := [], returnType := none }, accessFlags := 1, code := none }
/-- jdk/internal/util/Preconditions -/
def k13 : Class := { plain "jdk/internal/util/Preconditions" (some 0) with
  accessFlags := 33
  interfaces := #[]
  cf := some (fileOf pool13 24 #[.nestMembers #[55, 131, 125, 114]] #[{ accessFlags := 1, nameIndex := 5, descriptorIndex := 6, attributes := #[] }] 33 2 #[] #[{ accessFlags := 25, nameIndex := 123, descriptorIndex := 124, attributes := #[] }, { accessFlags := 25, nameIndex := 130, descriptorIndex := 124, attributes := #[] }, { accessFlags := 25, nameIndex := 136, descriptorIndex := 124, attributes := #[] }])
  fields := #[{ name := "SIOOBE_FORMATTER", type := (.object "java/util/function/BiFunction"), accessFlags := 25, slot := 0, constantValue := 0 }, { name := "AIOOBE_FORMATTER", type := (.object "java/util/function/BiFunction"), accessFlags := 25, slot := 1, constantValue := 0 }, { name := "IOOBE_FORMATTER", type := (.object "java/util/function/BiFunction"), accessFlags := 25, slot := 2, constantValue := 0 }]
  methods := #[k13m0]
  instanceTypes := #[]
  staticTypes := #[(.object "java/util/function/BiFunction"), (.object "java/util/function/BiFunction"), (.object "java/util/function/BiFunction")]
  resolved := Array.replicate 194 none
  statics := some 2 }

def pool14 : Array CpInfo := pool [(9, u "<init>"), (6, .class_ 18), (1, u "java/lang/Object"), (0, u "()V"), (1, .class_ 23), (1, u "jdk/internal/util/ArraysSupport"), (0, u "LOG2_ARRAY_LONG_INDEX_SCALE"), (0, u "I"), (2, u "U"), (0, u "Ljdk/internal/misc/Unsafe;"), (8, u "BIG_ENDIAN"), (0, u "Z"), (8, u "LOG2_BYTE_BIT_SIZE"), (4, u "LOG2_ARRAY_INT_INDEX_SCALE"), (54, u "JLA"), (0, u "Ljdk/internal/access/JavaLangAccess;"), (11, u "LOG2_ARRAY_BOOLEAN_INDEX_SCALE"), (9, u "LOG2_ARRAY_BYTE_INDEX_SCALE"), (5, u "LOG2_ARRAY_CHAR_INDEX_SCALE"), (5, u "LOG2_ARRAY_SHORT_INDEX_SCALE"), (18, u "LOG2_ARRAY_FLOAT_INDEX_SCALE"), (24, u "LOG2_ARRAY_DOUBLE_INDEX_SCALE"), (89, u "T_BOOLEAN"), (2, u "T_CHAR"), (1, u "T_FLOAT"), (1, u "T_DOUBLE"), (1, u "T_BYTE"), (1, u "T_SHORT"), (1, u "T_INT"), (1, u "T_LONG"), (1, u "SOFT_MAX_ARRAY_LENGTH")] 83

def k14m0 : Method := { name := "<init>", desc := "()V", sig := { parameters := [], returnType := none }, accessFlags := 2, code := none }
/-- jdk/internal/util/ArraysSupport -/
def k14 : Class := { plain "jdk/internal/util/ArraysSupport" (some 0) with
  accessFlags := 33
  interfaces := #[]
  cf := some (fileOf pool14 21 #[] #[{ accessFlags := 2, nameIndex := 9, descriptorIndex := 19, attributes := #[] }] 33 16 #[] #[{ accessFlags := 24, nameIndex := 28, descriptorIndex := 29, attributes := #[] }, { accessFlags := 26, nameIndex := 38, descriptorIndex := 39, attributes := #[] }, { accessFlags := 25, nameIndex := 121, descriptorIndex := 25, attributes := #[] }, { accessFlags := 25, nameIndex := 131, descriptorIndex := 25, attributes := #[] }, { accessFlags := 25, nameIndex := 137, descriptorIndex := 25, attributes := #[] }, { accessFlags := 25, nameIndex := 143, descriptorIndex := 25, attributes := #[] }, { accessFlags := 25, nameIndex := 53, descriptorIndex := 25, attributes := #[] }, { accessFlags := 25, nameIndex := 24, descriptorIndex := 25, attributes := #[] }, { accessFlags := 25, nameIndex := 162, descriptorIndex := 25, attributes := #[] }, { accessFlags := 25, nameIndex := 187, descriptorIndex := 25, attributes := #[] }, { accessFlags := 26, nameIndex := 48, descriptorIndex := 25, attributes := #[] }, { accessFlags := 25, nameIndex := 277, descriptorIndex := 25, attributes := #[] }, { accessFlags := 25, nameIndex := 280, descriptorIndex := 25, attributes := #[] }, { accessFlags := 25, nameIndex := 282, descriptorIndex := 25, attributes := #[] }, { accessFlags := 25, nameIndex := 284, descriptorIndex := 25, attributes := #[] }, { accessFlags := 25, nameIndex := 286, descriptorIndex := 25, attributes := #[] }, { accessFlags := 25, nameIndex := 288, descriptorIndex := 25, attributes := #[] }, { accessFlags := 25, nameIndex := 290, descriptorIndex := 25, attributes := #[] }, { accessFlags := 25, nameIndex := 292, descriptorIndex := 25, attributes := #[] }, { accessFlags := 26, nameIndex := 108, descriptorIndex := 109, attributes := #[] }, { accessFlags := 25, nameIndex := 294, descriptorIndex := 25, attributes := #[] }])
  fields := #[{ name := "U", type := (.object "jdk/internal/misc/Unsafe"), accessFlags := 24, slot := 0, constantValue := 0 }, { name := "BIG_ENDIAN", type := .boolean, accessFlags := 26, slot := 1, constantValue := 0 }, { name := "LOG2_ARRAY_BOOLEAN_INDEX_SCALE", type := .int, accessFlags := 25, slot := 2, constantValue := 0 }, { name := "LOG2_ARRAY_BYTE_INDEX_SCALE", type := .int, accessFlags := 25, slot := 3, constantValue := 0 }, { name := "LOG2_ARRAY_CHAR_INDEX_SCALE", type := .int, accessFlags := 25, slot := 4, constantValue := 0 }, { name := "LOG2_ARRAY_SHORT_INDEX_SCALE", type := .int, accessFlags := 25, slot := 5, constantValue := 0 }, { name := "LOG2_ARRAY_INT_INDEX_SCALE", type := .int, accessFlags := 25, slot := 6, constantValue := 0 }, { name := "LOG2_ARRAY_LONG_INDEX_SCALE", type := .int, accessFlags := 25, slot := 7, constantValue := 0 }, { name := "LOG2_ARRAY_FLOAT_INDEX_SCALE", type := .int, accessFlags := 25, slot := 8, constantValue := 0 }, { name := "LOG2_ARRAY_DOUBLE_INDEX_SCALE", type := .int, accessFlags := 25, slot := 9, constantValue := 0 }, { name := "LOG2_BYTE_BIT_SIZE", type := .int, accessFlags := 26, slot := 10, constantValue := 0 }, { name := "T_BOOLEAN", type := .int, accessFlags := 25, slot := 11, constantValue := 0 }, { name := "T_CHAR", type := .int, accessFlags := 25, slot := 12, constantValue := 0 }, { name := "T_FLOAT", type := .int, accessFlags := 25, slot := 13, constantValue := 0 }, { name := "T_DOUBLE", type := .int, accessFlags := 25, slot := 14, constantValue := 0 }, { name := "T_BYTE", type := .int, accessFlags := 25, slot := 15, constantValue := 0 }, { name := "T_SHORT", type := .int, accessFlags := 25, slot := 16, constantValue := 0 }, { name := "T_INT", type := .int, accessFlags := 25, slot := 17, constantValue := 0 }, { name := "T_LONG", type := .int, accessFlags := 25, slot := 18, constantValue := 0 }, { name := "JLA", type := (.object "jdk/internal/access/JavaLangAccess"), accessFlags := 26, slot := 19, constantValue := 0 }, { name := "SOFT_MAX_ARRAY_LENGTH", type := .int, accessFlags := 25, slot := 20, constantValue := 0 }]
  methods := #[k14m0]
  instanceTypes := #[]
  staticTypes := #[(.object "jdk/internal/misc/Unsafe"), .boolean, .int, .int, .int, .int, .int, .int, .int, .int, .int, .int, .int, .int, .int, .int, .int, .int, .int, (.object "jdk/internal/access/JavaLangAccess"), .int]
  resolved := Array.replicate 378 none
  statics := none }

def pool15 : Array CpInfo := pool [(1, u "java/lang/Cloneable"), (0, .class_ 1), (0, u "java/lang/Object"), (0, .class_ 3)] 3

/-- java/lang/Cloneable -/
def k15 : Class := { plain "java/lang/Cloneable" (some 0) with
  accessFlags := 1537
  interfaces := #[]
  cf := some (fileOf pool15 2 #[] #[] 1537 4 #[] #[])
  fields := #[]
  methods := #[]
  instanceTypes := #[]
  staticTypes := #[]
  resolved := Array.replicate 8 none
  statics := none }

/-- the primitive byte -/
def k16 : Class := { plain "byte" none with kind := .primitive 'B', accessFlags := 0x411 }
/-- [B -/
def k17 : Class := { plain "[B" (some 0) with kind := .array 16 .byte, interfaces := #[15, 4], accessFlags := 1041 }

/-- the primitive int -/
def k18 : Class := { plain "int" none with kind := .primitive 'I', accessFlags := 0x411 }
/-- [I -/
def k19 : Class := { plain "[I" (some 0) with kind := .array 18 .int, interfaces := #[15, 4], accessFlags := 1041 }

def heap : Heap := #[{ cls := 6, slots := #[.ref 3, .ref 4, .ref 5, .ref 6, .null, .null], vm := .statics 6 },
  { cls := 10, slots := #[.long 0, .int 1, .null, .int 0, .null, .int 0, .int 0], vm := .statics 10 },
  { cls := 13, slots := #[.null, .null, .null], vm := .statics 13 },
  { cls := 6, slots := #[.null, .int 0, .int 0, .int 0], vm := .none },
  { cls := 6, slots := #[.null, .int 1, .int 0, .int 0], vm := .none },
  { cls := 6, slots := #[.null, .int 2, .int 0, .int 0], vm := .none },
  { cls := 6, slots := #[.null, .int 3, .int 0, .int 0], vm := .none }]
def classes : Array Class := #[k0, k1, k2, k3, k4, k5, k6, k7, k8, k9, k10, k11, k12, k13, k14, k15, k16, k17, k18, k19]
def interned : List (Array UInt16 × Addr) := []
def slotsUsed : Nat := 32
def theMethod : MethodId := ⟨1, 2⟩
def args0 : Array Value := #[.int 3, .int 77, .int 5, .int 6, .int 7, .int 9]
def aboutOver (below : List Frame) : State where
  vm := { classes := classes, interned := interned.toArray }
  heap := heap
  slotsUsed := slotsUsed
  threads := #[{ frames := .invoking theMethod args0 :: below }]
def below0 : List Frame := [.native { method := ⟨0, 0⟩, args := #[] }]
def about1 : State := aboutOver below0
def p0 : Program := .bare "" "" ""
def e0 : Env := launch0.env 0 0 0
theorem w_frames : about1.frames = Frame.invoking theMethod args0 :: below0 := rfl
set_option maxRecDepth 65536 in
theorem w_args : argsFit about1.vm theMethod args0 = true := by decide +kernel
set_option maxRecDepth 65536 in
theorem w_heap : heapFits about1 = true := by decide +kernel
set_option maxRecDepth 65536 in
theorem w_runnable : about1.curStatus? = some .runnable := by decide +kernel
set_option maxRecDepth 65536 in
theorem w_alone : about1.alone = true := by decide +kernel
set_option maxRecDepth 65536 in
theorem w_named : about1.methodNamed? x = some theMethod := by decide +kernel
set_option maxRecDepth 65536 in
theorem w_hears : about1.hears theMethod below0 = true := by decide +kernel
set_option maxRecDepth 65536 in
theorem w_ripe : about1.ripe theMethod args0 below0 = true := by decide +kernel
theorem w_running : about1.status = .running := rfl
set_option maxRecDepth 65536 in
theorem w_room : about1.hasRoom e0.platform room_1 = true :=
  launch0.hasRoom_least _ room_1 (by decide +kernel) (by decide +kernel) (by decide +kernel) (by decide +kernel) (by decide +kernel) (by decide +kernel)
theorem allAtoms_all (ts : List Jvm.Cond) (a : Array Jvm.Value) (st : Jvm.State) : (allAtoms ts).before a st = ts.all (fun c => c.before a st) := by
  induction ts with
  | nil => rfl
  | cons c t ih =>
    show (Jvm.Cond.and c (allAtoms t)).before a st = _
    rw [Jvm.Cond.before_and, ih, List.all_cons]
def words1 : List Jvm.Cond := Jvm.Cond.code x code maxLocals ret :: tables_1
/-- a 'code' word, met by the world's own term for the bytes: nothing is compared byte by byte -/
theorem code_word {y : MethodName} {bytes : ByteArray} {mx : Nat} {rt : Option FieldType} {a : Array Value} {s : State} {m : MethodId} {meth : Method} {c : Code} (h1 : s.methodNamed? y = some m) (h2 : s.vm.method? m = some meth) (h3 : meth.code = some c) (h4 : c.code = bytes)
    (h5 : (c.maxLocals == mx && c.exceptionTable.isEmpty && decide (c.maxStack ≤ mostOperands) && decide (meth.sig.returnType = rt) && !meth.locks && decide (parseMethodDescriptor y.desc = some meth.sig)) = true) : (Jvm.Cond.code y bytes mx rt).before a s = true := by
  simp only [Bool.and_eq_true, beq_iff_eq, Bool.not_eq_true', decide_eq_true_eq] at h5
  obtain ⟨⟨⟨⟨⟨g1, g2⟩, g3⟩, g4⟩, g5⟩, g6⟩ := h5
  simp [Cond.before, Cond.holds, Cond.value, h1, h2, h3, h4, g1, g2, g3, g4, g5, g6]
def isCode : Jvm.Cond → Bool
  | .code _ _ _ _ => true
  | _ => false
theorem all_split {L : List Jvm.Cond} {P : Jvm.Cond → Bool} (h1 : L.all (fun c => isCode c || P c) = true) (h2 : ∀ c ∈ L.filter isCode, P c = true) : L.all P = true := by
  refine List.all_eq_true.mpr fun c hc => ?_
  have h := List.all_eq_true.mp h1 c hc
  rcases Bool.eq_false_or_eq_true (isCode c) with hi | hi
  · exact h2 c (List.mem_filter.mpr ⟨hc, hi⟩)
  · simpa [hi] using h
set_option maxRecDepth 65536 in
theorem w_c0 : (Jvm.Cond.code x code maxLocals ret).before args0 about1 = true := code_word (m := ⟨1, 2⟩) (meth := k1m2) (c := k1c2) (by decide +kernel) rfl rfl rfl (by decide +kernel)
set_option maxRecDepth 65536 in
theorem w_c1 : (Jvm.Cond.code ({ cls := "com/example/fieldwright/fieldwright/mater/RecordLabelEqualsPinLaw", name := "status", desc := "(I)Lcom/example/fieldwright/fieldwright/mater/RecordLabel$Status;" } : Jvm.MethodName) method_2_code (1 : Nat) (Option.some (Jvm.ClassFile.FieldType.object "com/example/fieldwright/fieldwright/mater/RecordLabel$Status"))).before args0 about1 = true := code_word (m := ⟨1, 1⟩) (meth := k1m1) (c := k1c1) (by decide +kernel) rfl rfl rfl (by decide +kernel)
set_option maxRecDepth 65536 in
theorem w_c2 : (Jvm.Cond.code ({ cls := "com/example/fieldwright/fieldwright/mater/RecordLabel", name := "<init>", desc := "(ILcom/example/fieldwright/fieldwright/mater/RecordLabel$Status;I)V" } : Jvm.MethodName) prog_26_method_1_code (4 : Nat) (Option.none : Option Jvm.ClassFile.FieldType)).before args0 about1 = true := code_word (m := ⟨7, 0⟩) (meth := k7m0) (c := k7c0) (by decide +kernel) rfl rfl rfl (by decide +kernel)
set_option maxRecDepth 65536 in
theorem w_c3 : (Jvm.Cond.code ({ cls := "java/lang/Object", name := "<init>", desc := "()V" } : Jvm.MethodName) object_method_1_code (1 : Nat) (Option.none : Option Jvm.ClassFile.FieldType)).before args0 about1 = true := code_word (m := ⟨0, 0⟩) (meth := k0m0) (c := k0c0) (by decide +kernel) rfl rfl rfl (by decide +kernel)
set_option maxRecDepth 65536 in
theorem w_c4 : (Jvm.Cond.code ({ cls := "com/example/fieldwright/fieldwright/mater/RecordLabel", name := "checkNumber", desc := "(Ljava/lang/String;I)I" } : Jvm.MethodName) prog_26_method_13_code (2 : Nat) (Option.some Jvm.ClassFile.FieldType.int)).before args0 about1 = true := code_word (m := ⟨7, 2⟩) (meth := k7m2) (c := k7c2) (by decide +kernel) rfl rfl rfl (by decide +kernel)
set_option maxRecDepth 65536 in
theorem w_c5 : (Jvm.Cond.code ({ cls := "java/util/Objects", name := "requireNonNull", desc := "(Ljava/lang/Object;Ljava/lang/String;)Ljava/lang/Object;" } : Jvm.MethodName) jdk_31_method_11_code (2 : Nat) (Option.some (Jvm.ClassFile.FieldType.object "java/lang/Object"))).before args0 about1 = true := code_word (m := ⟨11, 1⟩) (meth := k11m1) (c := k11c1) (by decide +kernel) rfl rfl rfl (by decide +kernel)
set_option maxRecDepth 65536 in
theorem w_c6 : (Jvm.Cond.code ({ cls := "com/example/fieldwright/fieldwright/mater/RecordLabel", name := "equals", desc := "(Ljava/lang/Object;)Z" } : Jvm.MethodName) prog_26_method_10_code (3 : Nat) (Option.some Jvm.ClassFile.FieldType.boolean)).before args0 about1 = true := code_word (m := ⟨7, 1⟩) (meth := k7m1) (c := k7c1) (by decide +kernel) rfl rfl rfl (by decide +kernel)
set_option maxRecDepth 65536 in
theorem w_c7 : (Jvm.Cond.code ({ cls := "java/lang/String", name := "valueOf", desc := "(C)Ljava/lang/String;" } : Jvm.MethodName) jdk_42_method_139_code (1 : Nat) (Option.some (Jvm.ClassFile.FieldType.object "java/lang/String"))).before args0 about1 = true := code_word (m := ⟨10, 1⟩) (meth := k10m1) (c := k10c1) (by decide +kernel) rfl rfl rfl (by decide +kernel)
set_option maxRecDepth 65536 in
theorem w_c8 : (Jvm.Cond.code ({ cls := "java/lang/StringLatin1", name := "canEncode", desc := "(C)Z" } : Jvm.MethodName) jdk_43_method_3_code (1 : Nat) (Option.some Jvm.ClassFile.FieldType.boolean)).before args0 about1 = true := code_word (m := ⟨12, 1⟩) (meth := k12m1) (c := k12c1) (by decide +kernel) rfl rfl rfl (by decide +kernel)
set_option maxRecDepth 65536 in
theorem w_c9 : (Jvm.Cond.code ({ cls := "java/lang/StringLatin1", name := "toBytes", desc := "(C)[B" } : Jvm.MethodName) jdk_43_method_46_code (1 : Nat) (Option.some (Jvm.ClassFile.FieldType.array Jvm.ClassFile.FieldType.byte))).before args0 about1 = true := code_word (m := ⟨12, 2⟩) (meth := k12m2) (c := k12c2) (by decide +kernel) rfl rfl rfl (by decide +kernel)
set_option maxRecDepth 65536 in
theorem w_c10 : (Jvm.Cond.code ({ cls := "java/lang/String", name := "<init>", desc := "([BB)V" } : Jvm.MethodName) jdk_42_method_151_code (3 : Nat) (Option.none : Option Jvm.ClassFile.FieldType)).before args0 about1 = true := code_word (m := ⟨10, 2⟩) (meth := k10m2) (c := k10c2) (by decide +kernel) rfl rfl rfl (by decide +kernel)
def codes1 : List Jvm.Cond := [Jvm.Cond.code x code maxLocals ret, Jvm.Cond.code ({ cls := "com/example/fieldwright/fieldwright/mater/RecordLabelEqualsPinLaw", name := "status", desc := "(I)Lcom/example/fieldwright/fieldwright/mater/RecordLabel$Status;" } : Jvm.MethodName) method_2_code (1 : Nat) (Option.some (Jvm.ClassFile.FieldType.object "com/example/fieldwright/fieldwright/mater/RecordLabel$Status")), Jvm.Cond.code ({ cls := "com/example/fieldwright/fieldwright/mater/RecordLabel", name := "<init>", desc := "(ILcom/example/fieldwright/fieldwright/mater/RecordLabel$Status;I)V" } : Jvm.MethodName) prog_26_method_1_code (4 : Nat) (Option.none : Option Jvm.ClassFile.FieldType), Jvm.Cond.code ({ cls := "java/lang/Object", name := "<init>", desc := "()V" } : Jvm.MethodName) object_method_1_code (1 : Nat) (Option.none : Option Jvm.ClassFile.FieldType), Jvm.Cond.code ({ cls := "com/example/fieldwright/fieldwright/mater/RecordLabel", name := "checkNumber", desc := "(Ljava/lang/String;I)I" } : Jvm.MethodName) prog_26_method_13_code (2 : Nat) (Option.some Jvm.ClassFile.FieldType.int), Jvm.Cond.code ({ cls := "java/util/Objects", name := "requireNonNull", desc := "(Ljava/lang/Object;Ljava/lang/String;)Ljava/lang/Object;" } : Jvm.MethodName) jdk_31_method_11_code (2 : Nat) (Option.some (Jvm.ClassFile.FieldType.object "java/lang/Object")), Jvm.Cond.code ({ cls := "com/example/fieldwright/fieldwright/mater/RecordLabel", name := "equals", desc := "(Ljava/lang/Object;)Z" } : Jvm.MethodName) prog_26_method_10_code (3 : Nat) (Option.some Jvm.ClassFile.FieldType.boolean), Jvm.Cond.code ({ cls := "java/lang/String", name := "valueOf", desc := "(C)Ljava/lang/String;" } : Jvm.MethodName) jdk_42_method_139_code (1 : Nat) (Option.some (Jvm.ClassFile.FieldType.object "java/lang/String")), Jvm.Cond.code ({ cls := "java/lang/StringLatin1", name := "canEncode", desc := "(C)Z" } : Jvm.MethodName) jdk_43_method_3_code (1 : Nat) (Option.some Jvm.ClassFile.FieldType.boolean), Jvm.Cond.code ({ cls := "java/lang/StringLatin1", name := "toBytes", desc := "(C)[B" } : Jvm.MethodName) jdk_43_method_46_code (1 : Nat) (Option.some (Jvm.ClassFile.FieldType.array Jvm.ClassFile.FieldType.byte)), Jvm.Cond.code ({ cls := "java/lang/String", name := "<init>", desc := "([BB)V" } : Jvm.MethodName) jdk_42_method_151_code (3 : Nat) (Option.none : Option Jvm.ClassFile.FieldType)]
set_option maxRecDepth 65536 in
theorem codes_eq : words1.filter isCode = codes1 := rfl
theorem w_codes : ∀ c ∈ words1.filter isCode, c.before args0 about1 = true := by
  rw [codes_eq]
  intro c hc
  simp only [codes1, List.mem_cons, List.not_mem_nil, or_false] at hc
  rcases hc with rfl | rfl | rfl | rfl | rfl | rfl | rfl | rfl | rfl | rfl | rfl
  · exact w_c0
  · exact w_c1
  · exact w_c2
  · exact w_c3
  · exact w_c4
  · exact w_c5
  · exact w_c6
  · exact w_c7
  · exact w_c8
  · exact w_c9
  · exact w_c10
set_option maxRecDepth 65536 in
theorem w_t1 : (words1.take 24).all (fun c => isCode c || c.before args0 about1) = true := by decide +kernel
set_option maxRecDepth 65536 in
theorem w_t2 : ((words1.drop 24).take 24).all (fun c => isCode c || c.before args0 about1) = true := by decide +kernel
set_option maxRecDepth 65536 in
theorem w_t3 : (((words1.drop 24).drop 24).take 24).all (fun c => isCode c || c.before args0 about1) = true := by decide +kernel
set_option maxRecDepth 65536 in
theorem w_t4 : (((words1.drop 24).drop 24).drop 24).all (fun c => isCode c || c.before args0 about1) = true := by decide +kernel
theorem w_tables : (allAtoms (Jvm.Cond.code x code maxLocals ret :: tables_1)).before args0 about1 = true := by
  rw [allAtoms_all]
  show words1.all (fun c => c.before args0 about1) = true
  refine all_split ?_ w_codes
  rw [← List.take_append_drop 24 words1, List.all_append, w_t1, ← List.take_append_drop 24 (words1.drop 24), List.all_append, w_t2, ← List.take_append_drop 24 ((words1.drop 24).drop 24), List.all_append, w_t3, w_t4]
  rfl
set_option maxRecDepth 65536 in
theorem w_rest : rest_1_c.before args0 about1 = true := by decide +kernel
set_option maxRecDepth 65536 in
theorem w_case : (Jvm.Cond.and given_1 narrow_1).before args0 about1 = true := by decide +kernel
theorem w_applies : (headSpec (Jvm.Cond.code x code maxLocals ret :: tables_1) room_1).applies x e0.platform about1 = true :=
  (Spec.applies_iff w_frames).mpr ⟨w_running, w_runnable, w_alone, w_named, w_hears, w_ripe, w_room, w_tables⟩
theorem atStart : AtStart classFile x code maxLocals ret World_1 tables_1 room_1 Calls_1 rest_1 Pre_1 launch0 p0 e0 about1 theMethod args0 below0 :=
  ⟨lists_1, trivial, launch0.admits_env _ _ _, launch0.least_env, fairChoices_fair.cas, fairChoices_fair.clock, w_frames, w_args, w_heap, w_applies, trivial, w_rest, w_case⟩
end start1
theorem witness_1 : WitnessClaimed_1 := ⟨start1.p0, start1.e0, start1.about1, start1.theMethod, start1.args0, start1.below0, start1.atStart⟩
end Jvm.Pilot.@@N@@
