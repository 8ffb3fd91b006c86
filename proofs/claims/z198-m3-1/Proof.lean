import JvmDerived
import JvmDerived.Pilot.@@N@@Statement
import JvmDerived.Pilot.@@N@@Code
set_option linter.unusedVariables false
set_option linter.unusedSimpArgs false
namespace Jvm.RoadKit
open Sem ClassFile Op Lib Jvm.Stand Jvm.Free Jvm.LawKit
section New
variable {p : Program} {l : Launch} {e : Env} {R : Room} {s : State} {m : MethodId} {args : Array Value} {below : List Frame} {meth : Method} {c : Code} {T : State} {locs : List Loc} {cells slots : Nat}
theorem retI (X : Stand p l e R s m args below meth c T locs cells slots) (hx : p.tables.exec = Jvm.exec) {pc : Nat} {Ls : Array Slot} {z : Int32} {rest : List Value} (hret : meth.sig.returnType = some .int) (hd : decode c.code pc = .ok (.ireturn, 1)) {fs : List Frame}
    (hl : ∀ (f : JFrame) (acts : List Action), f.method = m → f.locked = none → f.entered = [] → (doReturn e (T.setTop f) acts (some (.int z))).1 = T.setFrames fs) : Steps p.tables e below (T.setTop (mkF m pc Ls (.int z :: rest))) (T.setFrames fs) := by
  have hm' : T.vm.method? m = some meth := X.method'
  have hn : narrow .int (.int z) = .int z := rfl
  show Steps p.tables e below (T.setTop { method := m, pc := pc, locals := Ls, stack := _ :: rest, locked := none }) _
  jvm_step X.here [X.here.top, hx, hd, hm', hret, hn]
  first | (intro acts; rw [hl _ acts rfl rfl rfl]) | rw [hl _ _ rfl rfl rfl]
  exact Steps.refl _
end New
end Jvm.RoadKit
namespace Jvm.Pilot.@@N@@
open Jvm Jvm.ClassFile Sem Op Lib Jvm.Free Jvm.Stand Jvm.LawKit Jvm.RoadKit Bundle Jvm.Pilot.@@N@@.Jvm.D

theorem own_fld {s : State} {args : Array Value} {t : Term} {a : Addr} {C n d : String} {k : Int32} (ht : t.eval args s none [] s = some (.ref a)) (h : (Jvm.Cond.eq (.field t C n d) (.int k)).value args s none s [] = some true) : Fld s s.heap a C n d (.int k) := by
  refine Fld.start ?_
  have e := fld_at (C := C) (n := n) (dd := d) ht
  obtain ⟨x, y, h1, h2, h3, h4⟩ := cmp_v (Or.inl h)
  obtain rfl : y = .int k := (Option.some.inj (h2.symm.trans (Term.int_eval k)))
  obtain ⟨z, rfl⟩ := h4
  rw [← e, h1]
  simp only [Cond.value, h1, h2] at h
  simpa using h
theorem own_st {s : State} {args : Array Value} {C n d K : String} (h : (Jvm.Cond.exactly (.static C n d) K).value args s none s [] = some true) (hi : (Jvm.Cond.initialized C).before args s = true) (hl : (Jvm.Cond.laysStatic C n d).before args s = true) :
    ∃ a, (Term.static C n d).eval args s none [] s = some (.ref a) ∧ Sta s s.heap C n d (.ref a) ∧ Exa s s.heap a K := by
  obtain ⟨a, ev⟩ := exa_v h
  exact ⟨a, ev, Sta.start ev (Or.inr ⟨hi, hl⟩), Exa.start ev h⟩

theorem own_ne {Z : State} {h : Heap} {a b : Addr} {C n d : String} {i j : Int32} (F : Fld Z h a C n d (.int i)) (G : Fld Z h b C n d (.int j)) (hij : i ≠ j) : a ≠ b := by
  rintro rfl
  obtain ⟨cell, cf, k, ix, f, h1, h2, h3, h4, h5, h6, h7⟩ := F
  obtain ⟨cell', cf', k', ix', f', g1, g2, g3, g4, g5, g6, g7⟩ := G
  cases h1.symm.trans g1
  cases h2.symm.trans g2
  exact hij (by simpa using h7.symm.trans g7)

theorem own_rem (x n : Int32) (d : Int) (hn : n.toInt = d) : ((x &&& (2147483647 : Int32)) % n).toInt = (x.toInt % 2147483648) % d := by
  have h1 := c_mask x 2147483647 31 (by decide) (by decide)
  have h2 : (x &&& (2147483647 : Int32)).toInt = x.toInt % 2147483648 := h1
  rw [(c_irem (x &&& (2147483647 : Int32)) n d hn).1 (by omega), h2]
theorem own_i32 {x y : Int32} (h : x.toInt = y.toInt) : x = y := Int32.toInt_inj.mp h

theorem own_stk {Z : State} {h h' : Heap} {C n d : String} {v : Value} (F : Sta Z h C n d v) (K : Keep h h' []) : Sta Z h' C n d v := by
  obtain ⟨cf, i, k, f, st, cell, h1, h2, h3, h4, h5, r⟩ := F
  exact ⟨cf, i, k, f, st, cell, h1, h2, h3, h4, K.2.1 _ _ h5 List.not_mem_nil, r⟩
theorem d1_0 : decode prog_20_method_6_code 0 = .ok (.aload_n 0, 1) := by decide +kernel
theorem d1_1 : decode prog_20_method_6_code 1 = .ok (.getstatic 3, 3) := by decide +kernel
theorem d1_4 : decode prog_20_method_6_code 4 = .ok (.if_acmp .eq 17, 3) := by decide +kernel
theorem d1_21 : decode prog_20_method_6_code 21 = .ok (.iconst 1, 1) := by decide +kernel
theorem d1_22 : decode prog_20_method_6_code 22 = .ok (.goto 4, 3) := by decide +kernel
theorem d1_26 : decode prog_20_method_6_code 26 = .ok (.ireturn, 1) := by decide +kernel
theorem pn_1 : plainName "com/example/nuthatch/nuthatch/formula/Kind" = true := by first | (simp [plainName, overriddenIn]; done) | decide +kernel
theorem ef_1 (m : MethodId) (x0 : Addr) : entryFrame m #[(.ref x0)] 1 = mkF m 0 #[.val (.ref x0)] [] := by first | (simp [entryFrame, mkF, argsToLocals, Value.category]; done) | rfl
def Q1_t (Z : State) (a1 : Addr) (w2 : Addr) (h0 : Heap) (n0 : Nat) (v : Option Value) (h : Heap) (L : List Loc) : Prop := v = some (.int (1 : Int32)) ∧ Fr n0 L ∧ h = h0
set_option maxRecDepth 65536 in
set_option maxHeartbeats 40000000 in
theorem rm1_t (l : Launch) (Z : State) (a0 : Array Value) (hw : ∀ d ∈ tables_1, d.before a0 Z = true) (ws : List Jvm.Cond) (a1 : Addr) (w2 : Addr) (h0 : Heap) (n0 : Nat) (Z0 : n0 ≤ h0.size) (S_SYMBOL : Sta Z h0 "com/example/nuthatch/nuthatch/formula/Kind" "SYMBOL" "Lcom/example/nuthatch/nuthatch/formula/Kind;" (.ref w2)) (ha4 : a1 = w2) :
    MetFree l (⟨"com/example/nuthatch/nuthatch/formula/Kind", "hasSymbol", "()Z"⟩ : MethodName) (head1 (Jvm.Cond.code (⟨"com/example/nuthatch/nuthatch/formula/Kind", "hasSymbol", "()Z"⟩ : MethodName) prog_20_method_6_code 1 (some .boolean) :: ws) ({ frames := 0, cells := 0, slots := 0, locals := 0 } : Room)) (fun a U => a = #[(.ref a1)] ∧ Z.Warmed39 U.vm ∧ U.heap = h0) (fun _ _ _ _ _ => True) (fun _ U o U' => ∃ v L, o = .returned v ∧ Q1_t Z a1 w2 h0 n0 v U'.heap L ∧ FrameEnd U o U' L ({ frames := 0, cells := 0, slots := 0, locals := 0 } : Room).cells ({ frames := 0, cells := 0, slots := 0, locals := 0 } : Room).slots) := by
  refine MetFree.of_bodySF (plainFor_of_name pn_1) hisR ?_
  intro p e s m args below meth c s₁ Bd hml0 hP hK
  obtain ⟨rfl, hZ, hh⟩ := hP
  have hx := Bd.exec
  have hby := Bd.bytes
  have hml : c.maxLocals = 1 := hml0
  have hown : s.vm.findClass "com/example/nuthatch/nuthatch/formula/Kind" = some m.cls := findClass_of_methodNamed Bd.named
  have hnm := (name_of_methodNamed Bd.named Bd.method).1
  have X0 : Stand p l e ({ frames := 0, cells := 0, slots := 0, locals := 0 } : Room) s m #[(.ref a1)] below meth c s₁ [] 0 0 := Stand.of_body Bd
  have e0 : s₁.heap = h0 := by rw [← hh, Bd.state]; rfl
  have N0 := Fr.nil n0
  have pre0 : ∀ t, Steps p.tables e below (s₁.setTop (mkF m 0 #[.val (.ref a1)] [])) t → Steps p.tables e below (s₁.setTop (entryFrame m #[(.ref a1)] 1)) t := fun t k => castTop (ef_1 m a1) k
  obtain ⟨T3, X3, e3, st3⟩ := getS2 X0 hx hZ hown (host := "") (Or.inl (hw _ (List.mem_of_getElem? (i := 48) rfl))) Via.refl e0 S_SYMBOL (g := (mkF m 1 #[.val (.ref a1)] [(.ref a1)])) rfl (hb hby d1_1)
  obtain ⟨fs, hr, hrun, hended, hW, hsame⟩ := X3.leave (v := some (.int (1 : Int32))) (fun h => by rw [Bd.returns] at h; cases h)
  refine ⟨_, _, pre0 _ ?_, hrun, hended, _, _, rfl, ?_, ⟨_, rfl⟩, hW, hsame.mono (by decide) (by decide)⟩
  · show Steps p.tables e below (s₁.setTop (mkF m 0 #[.val (.ref a1)] [])) _
    refine XS.aloadN X0.here hx rfl (hb hby d1_0) rfl rfl ?_
    show Steps p.tables e below (s₁.setTop (mkF m 1 #[.val (.ref a1)] [(.ref a1)])) _
    refine st3 _ ?_
    show Steps p.tables e below (T3.setTop (mkF m 4 #[.val (.ref a1)] [(.ref w2), (.ref a1)])) _
    refine Jvm.RoadKit.acmp (g := (mkF m 4 #[.val (.ref a1)] [(.ref w2), (.ref a1)])) X3 hx rfl rfl rfl (pc0 := 4) (pc' := 21) (same := true) rfl (hb hby d1_4) rfl (decide_eq_true (congrArg Value.ref ha4)) (by decide) (by decide) ?_
    show Steps p.tables e below (T3.setTop (mkF m 21 #[.val (.ref a1)] [])) _
    refine XS.iconst X3.here hx rfl (hb hby d1_21) ?_
    show Steps p.tables e below (T3.setTop (mkF m 22 #[.val (.ref a1)] [(.int (1 : Int32))])) _
    refine XS.goto X3.here hx rfl (pc0 := 22) (pc' := 26) rfl (hb hby d1_22) (by decide) (by decide) ?_
    show Steps p.tables e below (T3.setTop (mkF m 26 #[.val (.ref a1)] [(.int (1 : Int32))])) _
    exact retN X3 hx (t := .boolean) Bd.returns (by simp) (hb hby d1_26) hr
  · show Q1_t Z a1 w2 h0 n0 _ T3.heap _
    rw [e3]
    exact ⟨rfl, N0, rfl⟩
theorem d1_7 : decode prog_20_method_6_code 7 = .ok (.aload_n 0, 1) := by decide +kernel
theorem d1_8 : decode prog_20_method_6_code 8 = .ok (.getstatic 10, 3) := by decide +kernel
theorem d1_11 : decode prog_20_method_6_code 11 = .ok (.if_acmp .eq 10, 3) := by decide +kernel
def Q1_ft (Z : State) (a1 : Addr) (w2 : Addr) (w4 : Addr) (h0 : Heap) (n0 : Nat) (v : Option Value) (h : Heap) (L : List Loc) : Prop := v = some (.int (1 : Int32)) ∧ Fr n0 L ∧ h = h0
set_option maxRecDepth 65536 in
set_option maxHeartbeats 40000000 in
theorem rm1_ft (l : Launch) (Z : State) (a0 : Array Value) (hw : ∀ d ∈ tables_1, d.before a0 Z = true) (ws : List Jvm.Cond) (a1 : Addr) (w2 : Addr) (w4 : Addr) (h0 : Heap) (n0 : Nat) (Z0 : n0 ≤ h0.size) (S_SYMBOL : Sta Z h0 "com/example/nuthatch/nuthatch/formula/Kind" "SYMBOL" "Lcom/example/nuthatch/nuthatch/formula/Kind;" (.ref w2)) (S_INFIX : Sta Z h0 "com/example/nuthatch/nuthatch/formula/Kind" "INFIX" "Lcom/example/nuthatch/nuthatch/formula/Kind;" (.ref w4)) (ha4 : ¬ (a1 = w2)) (ha11 : a1 = w4) :
    MetFree l (⟨"com/example/nuthatch/nuthatch/formula/Kind", "hasSymbol", "()Z"⟩ : MethodName) (head1 (Jvm.Cond.code (⟨"com/example/nuthatch/nuthatch/formula/Kind", "hasSymbol", "()Z"⟩ : MethodName) prog_20_method_6_code 1 (some .boolean) :: ws) ({ frames := 0, cells := 0, slots := 0, locals := 0 } : Room)) (fun a U => a = #[(.ref a1)] ∧ Z.Warmed39 U.vm ∧ U.heap = h0) (fun _ _ _ _ _ => True) (fun _ U o U' => ∃ v L, o = .returned v ∧ Q1_ft Z a1 w2 w4 h0 n0 v U'.heap L ∧ FrameEnd U o U' L ({ frames := 0, cells := 0, slots := 0, locals := 0 } : Room).cells ({ frames := 0, cells := 0, slots := 0, locals := 0 } : Room).slots) := by
  refine MetFree.of_bodySF (plainFor_of_name pn_1) hisR ?_
  intro p e s m args below meth c s₁ Bd hml0 hP hK
  obtain ⟨rfl, hZ, hh⟩ := hP
  have hx := Bd.exec
  have hby := Bd.bytes
  have hml : c.maxLocals = 1 := hml0
  have hown : s.vm.findClass "com/example/nuthatch/nuthatch/formula/Kind" = some m.cls := findClass_of_methodNamed Bd.named
  have hnm := (name_of_methodNamed Bd.named Bd.method).1
  have X0 : Stand p l e ({ frames := 0, cells := 0, slots := 0, locals := 0 } : Room) s m #[(.ref a1)] below meth c s₁ [] 0 0 := Stand.of_body Bd
  have e0 : s₁.heap = h0 := by rw [← hh, Bd.state]; rfl
  have N0 := Fr.nil n0
  have pre0 : ∀ t, Steps p.tables e below (s₁.setTop (mkF m 0 #[.val (.ref a1)] [])) t → Steps p.tables e below (s₁.setTop (entryFrame m #[(.ref a1)] 1)) t := fun t k => castTop (ef_1 m a1) k
  obtain ⟨T3, X3, e3, st3⟩ := getS2 X0 hx hZ hown (host := "") (Or.inl (hw _ (List.mem_of_getElem? (i := 48) rfl))) Via.refl e0 S_SYMBOL (g := (mkF m 1 #[.val (.ref a1)] [(.ref a1)])) rfl (hb hby d1_1)
  obtain ⟨T5, X5, e5, st5⟩ := getS2 X3 hx hZ hown (host := "") (Or.inl (hw _ (List.mem_of_getElem? (i := 49) rfl))) Via.refl e3 S_INFIX (g := (mkF m 8 #[.val (.ref a1)] [(.ref a1)])) rfl (hb hby d1_8)
  obtain ⟨fs, hr, hrun, hended, hW, hsame⟩ := X5.leave (v := some (.int (1 : Int32))) (fun h => by rw [Bd.returns] at h; cases h)
  refine ⟨_, _, pre0 _ ?_, hrun, hended, _, _, rfl, ?_, ⟨_, rfl⟩, hW, hsame.mono (by decide) (by decide)⟩
  · show Steps p.tables e below (s₁.setTop (mkF m 0 #[.val (.ref a1)] [])) _
    refine XS.aloadN X0.here hx rfl (hb hby d1_0) rfl rfl ?_
    show Steps p.tables e below (s₁.setTop (mkF m 1 #[.val (.ref a1)] [(.ref a1)])) _
    refine st3 _ ?_
    show Steps p.tables e below (T3.setTop (mkF m 4 #[.val (.ref a1)] [(.ref w2), (.ref a1)])) _
    refine Jvm.RoadKit.acmp (g := (mkF m 4 #[.val (.ref a1)] [(.ref w2), (.ref a1)])) X3 hx rfl rfl rfl (pc0 := 4) (pc' := 7) (same := false) rfl (hb hby d1_4) rfl (decide_eq_false fun q => ha4 (Value.ref.inj q)) (by decide) (by decide) ?_
    show Steps p.tables e below (T3.setTop (mkF m 7 #[.val (.ref a1)] [])) _
    refine XS.aloadN X3.here hx rfl (hb hby d1_7) rfl rfl ?_
    show Steps p.tables e below (T3.setTop (mkF m 8 #[.val (.ref a1)] [(.ref a1)])) _
    refine st5 _ ?_
    show Steps p.tables e below (T5.setTop (mkF m 11 #[.val (.ref a1)] [(.ref w4), (.ref a1)])) _
    refine Jvm.RoadKit.acmp (g := (mkF m 11 #[.val (.ref a1)] [(.ref w4), (.ref a1)])) X5 hx rfl rfl rfl (pc0 := 11) (pc' := 21) (same := true) rfl (hb hby d1_11) rfl (decide_eq_true (congrArg Value.ref ha11)) (by decide) (by decide) ?_
    show Steps p.tables e below (T5.setTop (mkF m 21 #[.val (.ref a1)] [])) _
    refine XS.iconst X5.here hx rfl (hb hby d1_21) ?_
    show Steps p.tables e below (T5.setTop (mkF m 22 #[.val (.ref a1)] [(.int (1 : Int32))])) _
    refine XS.goto X5.here hx rfl (pc0 := 22) (pc' := 26) rfl (hb hby d1_22) (by decide) (by decide) ?_
    show Steps p.tables e below (T5.setTop (mkF m 26 #[.val (.ref a1)] [(.int (1 : Int32))])) _
    exact retN X5 hx (t := .boolean) Bd.returns (by simp) (hb hby d1_26) hr
  · show Q1_ft Z a1 w2 w4 h0 n0 _ T5.heap _
    rw [e5]
    exact ⟨rfl, N0, rfl⟩
theorem d1_14 : decode prog_20_method_6_code 14 = .ok (.aload_n 0, 1) := by decide +kernel
theorem d1_15 : decode prog_20_method_6_code 15 = .ok (.getstatic 13, 3) := by decide +kernel
theorem d1_18 : decode prog_20_method_6_code 18 = .ok (.if_acmp .ne 7, 3) := by decide +kernel
def Q1_fff (Z : State) (a1 : Addr) (w2 : Addr) (w4 : Addr) (w6 : Addr) (h0 : Heap) (n0 : Nat) (v : Option Value) (h : Heap) (L : List Loc) : Prop := v = some (.int (1 : Int32)) ∧ Fr n0 L ∧ h = h0
set_option maxRecDepth 65536 in
set_option maxHeartbeats 40000000 in
theorem rm1_fff (l : Launch) (Z : State) (a0 : Array Value) (hw : ∀ d ∈ tables_1, d.before a0 Z = true) (ws : List Jvm.Cond) (a1 : Addr) (w2 : Addr) (w4 : Addr) (w6 : Addr) (h0 : Heap) (n0 : Nat) (Z0 : n0 ≤ h0.size) (S_SYMBOL : Sta Z h0 "com/example/nuthatch/nuthatch/formula/Kind" "SYMBOL" "Lcom/example/nuthatch/nuthatch/formula/Kind;" (.ref w2)) (S_INFIX : Sta Z h0 "com/example/nuthatch/nuthatch/formula/Kind" "INFIX" "Lcom/example/nuthatch/nuthatch/formula/Kind;" (.ref w4)) (S_PREFIX : Sta Z h0 "com/example/nuthatch/nuthatch/formula/Kind" "PREFIX" "Lcom/example/nuthatch/nuthatch/formula/Kind;" (.ref w6)) (ha4 : ¬ (a1 = w2)) (ha11 : ¬ (a1 = w4)) (ha18 : a1 = w6) :
    MetFree l (⟨"com/example/nuthatch/nuthatch/formula/Kind", "hasSymbol", "()Z"⟩ : MethodName) (head1 (Jvm.Cond.code (⟨"com/example/nuthatch/nuthatch/formula/Kind", "hasSymbol", "()Z"⟩ : MethodName) prog_20_method_6_code 1 (some .boolean) :: ws) ({ frames := 0, cells := 0, slots := 0, locals := 0 } : Room)) (fun a U => a = #[(.ref a1)] ∧ Z.Warmed39 U.vm ∧ U.heap = h0) (fun _ _ _ _ _ => True) (fun _ U o U' => ∃ v L, o = .returned v ∧ Q1_fff Z a1 w2 w4 w6 h0 n0 v U'.heap L ∧ FrameEnd U o U' L ({ frames := 0, cells := 0, slots := 0, locals := 0 } : Room).cells ({ frames := 0, cells := 0, slots := 0, locals := 0 } : Room).slots) := by
  refine MetFree.of_bodySF (plainFor_of_name pn_1) hisR ?_
  intro p e s m args below meth c s₁ Bd hml0 hP hK
  obtain ⟨rfl, hZ, hh⟩ := hP
  have hx := Bd.exec
  have hby := Bd.bytes
  have hml : c.maxLocals = 1 := hml0
  have hown : s.vm.findClass "com/example/nuthatch/nuthatch/formula/Kind" = some m.cls := findClass_of_methodNamed Bd.named
  have hnm := (name_of_methodNamed Bd.named Bd.method).1
  have X0 : Stand p l e ({ frames := 0, cells := 0, slots := 0, locals := 0 } : Room) s m #[(.ref a1)] below meth c s₁ [] 0 0 := Stand.of_body Bd
  have e0 : s₁.heap = h0 := by rw [← hh, Bd.state]; rfl
  have N0 := Fr.nil n0
  have pre0 : ∀ t, Steps p.tables e below (s₁.setTop (mkF m 0 #[.val (.ref a1)] [])) t → Steps p.tables e below (s₁.setTop (entryFrame m #[(.ref a1)] 1)) t := fun t k => castTop (ef_1 m a1) k
  obtain ⟨T3, X3, e3, st3⟩ := getS2 X0 hx hZ hown (host := "") (Or.inl (hw _ (List.mem_of_getElem? (i := 48) rfl))) Via.refl e0 S_SYMBOL (g := (mkF m 1 #[.val (.ref a1)] [(.ref a1)])) rfl (hb hby d1_1)
  obtain ⟨T5, X5, e5, st5⟩ := getS2 X3 hx hZ hown (host := "") (Or.inl (hw _ (List.mem_of_getElem? (i := 49) rfl))) Via.refl e3 S_INFIX (g := (mkF m 8 #[.val (.ref a1)] [(.ref a1)])) rfl (hb hby d1_8)
  obtain ⟨T7, X7, e7, st7⟩ := getS2 X5 hx hZ hown (host := "") (Or.inl (hw _ (List.mem_of_getElem? (i := 50) rfl))) Via.refl e5 S_PREFIX (g := (mkF m 15 #[.val (.ref a1)] [(.ref a1)])) rfl (hb hby d1_15)
  obtain ⟨fs, hr, hrun, hended, hW, hsame⟩ := X7.leave (v := some (.int (1 : Int32))) (fun h => by rw [Bd.returns] at h; cases h)
  refine ⟨_, _, pre0 _ ?_, hrun, hended, _, _, rfl, ?_, ⟨_, rfl⟩, hW, hsame.mono (by decide) (by decide)⟩
  · show Steps p.tables e below (s₁.setTop (mkF m 0 #[.val (.ref a1)] [])) _
    refine XS.aloadN X0.here hx rfl (hb hby d1_0) rfl rfl ?_
    show Steps p.tables e below (s₁.setTop (mkF m 1 #[.val (.ref a1)] [(.ref a1)])) _
    refine st3 _ ?_
    show Steps p.tables e below (T3.setTop (mkF m 4 #[.val (.ref a1)] [(.ref w2), (.ref a1)])) _
    refine Jvm.RoadKit.acmp (g := (mkF m 4 #[.val (.ref a1)] [(.ref w2), (.ref a1)])) X3 hx rfl rfl rfl (pc0 := 4) (pc' := 7) (same := false) rfl (hb hby d1_4) rfl (decide_eq_false fun q => ha4 (Value.ref.inj q)) (by decide) (by decide) ?_
    show Steps p.tables e below (T3.setTop (mkF m 7 #[.val (.ref a1)] [])) _
    refine XS.aloadN X3.here hx rfl (hb hby d1_7) rfl rfl ?_
    show Steps p.tables e below (T3.setTop (mkF m 8 #[.val (.ref a1)] [(.ref a1)])) _
    refine st5 _ ?_
    show Steps p.tables e below (T5.setTop (mkF m 11 #[.val (.ref a1)] [(.ref w4), (.ref a1)])) _
    refine Jvm.RoadKit.acmp (g := (mkF m 11 #[.val (.ref a1)] [(.ref w4), (.ref a1)])) X5 hx rfl rfl rfl (pc0 := 11) (pc' := 14) (same := false) rfl (hb hby d1_11) rfl (decide_eq_false fun q => ha11 (Value.ref.inj q)) (by decide) (by decide) ?_
    show Steps p.tables e below (T5.setTop (mkF m 14 #[.val (.ref a1)] [])) _
    refine XS.aloadN X5.here hx rfl (hb hby d1_14) rfl rfl ?_
    show Steps p.tables e below (T5.setTop (mkF m 15 #[.val (.ref a1)] [(.ref a1)])) _
    refine st7 _ ?_
    show Steps p.tables e below (T7.setTop (mkF m 18 #[.val (.ref a1)] [(.ref w6), (.ref a1)])) _
    refine Jvm.RoadKit.acmp (g := (mkF m 18 #[.val (.ref a1)] [(.ref w6), (.ref a1)])) X7 hx rfl rfl rfl (pc0 := 18) (pc' := 21) (same := true) rfl (hb hby d1_18) rfl (decide_eq_true (congrArg Value.ref ha18)) (by decide) (by decide) ?_
    show Steps p.tables e below (T7.setTop (mkF m 21 #[.val (.ref a1)] [])) _
    refine XS.iconst X7.here hx rfl (hb hby d1_21) ?_
    show Steps p.tables e below (T7.setTop (mkF m 22 #[.val (.ref a1)] [(.int (1 : Int32))])) _
    refine XS.goto X7.here hx rfl (pc0 := 22) (pc' := 26) rfl (hb hby d1_22) (by decide) (by decide) ?_
    show Steps p.tables e below (T7.setTop (mkF m 26 #[.val (.ref a1)] [(.int (1 : Int32))])) _
    exact retN X7 hx (t := .boolean) Bd.returns (by simp) (hb hby d1_26) hr
  · show Q1_fff Z a1 w2 w4 w6 h0 n0 _ T7.heap _
    rw [e7]
    exact ⟨rfl, N0, rfl⟩
theorem d1_25 : decode prog_20_method_6_code 25 = .ok (.iconst 0, 1) := by decide +kernel
def Q1_fft (Z : State) (a1 : Addr) (w2 : Addr) (w4 : Addr) (w6 : Addr) (h0 : Heap) (n0 : Nat) (v : Option Value) (h : Heap) (L : List Loc) : Prop := v = some (.int (0 : Int32)) ∧ Fr n0 L ∧ h = h0
set_option maxRecDepth 65536 in
set_option maxHeartbeats 40000000 in
theorem rm1_fft (l : Launch) (Z : State) (a0 : Array Value) (hw : ∀ d ∈ tables_1, d.before a0 Z = true) (ws : List Jvm.Cond) (a1 : Addr) (w2 : Addr) (w4 : Addr) (w6 : Addr) (h0 : Heap) (n0 : Nat) (Z0 : n0 ≤ h0.size) (S_SYMBOL : Sta Z h0 "com/example/nuthatch/nuthatch/formula/Kind" "SYMBOL" "Lcom/example/nuthatch/nuthatch/formula/Kind;" (.ref w2)) (S_INFIX : Sta Z h0 "com/example/nuthatch/nuthatch/formula/Kind" "INFIX" "Lcom/example/nuthatch/nuthatch/formula/Kind;" (.ref w4)) (S_PREFIX : Sta Z h0 "com/example/nuthatch/nuthatch/formula/Kind" "PREFIX" "Lcom/example/nuthatch/nuthatch/formula/Kind;" (.ref w6)) (ha4 : ¬ (a1 = w2)) (ha11 : ¬ (a1 = w4)) (ha18 : ¬ (a1 = w6)) :
    MetFree l (⟨"com/example/nuthatch/nuthatch/formula/Kind", "hasSymbol", "()Z"⟩ : MethodName) (head1 (Jvm.Cond.code (⟨"com/example/nuthatch/nuthatch/formula/Kind", "hasSymbol", "()Z"⟩ : MethodName) prog_20_method_6_code 1 (some .boolean) :: ws) ({ frames := 0, cells := 0, slots := 0, locals := 0 } : Room)) (fun a U => a = #[(.ref a1)] ∧ Z.Warmed39 U.vm ∧ U.heap = h0) (fun _ _ _ _ _ => True) (fun _ U o U' => ∃ v L, o = .returned v ∧ Q1_fft Z a1 w2 w4 w6 h0 n0 v U'.heap L ∧ FrameEnd U o U' L ({ frames := 0, cells := 0, slots := 0, locals := 0 } : Room).cells ({ frames := 0, cells := 0, slots := 0, locals := 0 } : Room).slots) := by
  refine MetFree.of_bodySF (plainFor_of_name pn_1) hisR ?_
  intro p e s m args below meth c s₁ Bd hml0 hP hK
  obtain ⟨rfl, hZ, hh⟩ := hP
  have hx := Bd.exec
  have hby := Bd.bytes
  have hml : c.maxLocals = 1 := hml0
  have hown : s.vm.findClass "com/example/nuthatch/nuthatch/formula/Kind" = some m.cls := findClass_of_methodNamed Bd.named
  have hnm := (name_of_methodNamed Bd.named Bd.method).1
  have X0 : Stand p l e ({ frames := 0, cells := 0, slots := 0, locals := 0 } : Room) s m #[(.ref a1)] below meth c s₁ [] 0 0 := Stand.of_body Bd
  have e0 : s₁.heap = h0 := by rw [← hh, Bd.state]; rfl
  have N0 := Fr.nil n0
  have pre0 : ∀ t, Steps p.tables e below (s₁.setTop (mkF m 0 #[.val (.ref a1)] [])) t → Steps p.tables e below (s₁.setTop (entryFrame m #[(.ref a1)] 1)) t := fun t k => castTop (ef_1 m a1) k
  obtain ⟨T3, X3, e3, st3⟩ := getS2 X0 hx hZ hown (host := "") (Or.inl (hw _ (List.mem_of_getElem? (i := 48) rfl))) Via.refl e0 S_SYMBOL (g := (mkF m 1 #[.val (.ref a1)] [(.ref a1)])) rfl (hb hby d1_1)
  obtain ⟨T5, X5, e5, st5⟩ := getS2 X3 hx hZ hown (host := "") (Or.inl (hw _ (List.mem_of_getElem? (i := 49) rfl))) Via.refl e3 S_INFIX (g := (mkF m 8 #[.val (.ref a1)] [(.ref a1)])) rfl (hb hby d1_8)
  obtain ⟨T7, X7, e7, st7⟩ := getS2 X5 hx hZ hown (host := "") (Or.inl (hw _ (List.mem_of_getElem? (i := 50) rfl))) Via.refl e5 S_PREFIX (g := (mkF m 15 #[.val (.ref a1)] [(.ref a1)])) rfl (hb hby d1_15)
  obtain ⟨fs, hr, hrun, hended, hW, hsame⟩ := X7.leave (v := some (.int (0 : Int32))) (fun h => by rw [Bd.returns] at h; cases h)
  refine ⟨_, _, pre0 _ ?_, hrun, hended, _, _, rfl, ?_, ⟨_, rfl⟩, hW, hsame.mono (by decide) (by decide)⟩
  · show Steps p.tables e below (s₁.setTop (mkF m 0 #[.val (.ref a1)] [])) _
    refine XS.aloadN X0.here hx rfl (hb hby d1_0) rfl rfl ?_
    show Steps p.tables e below (s₁.setTop (mkF m 1 #[.val (.ref a1)] [(.ref a1)])) _
    refine st3 _ ?_
    show Steps p.tables e below (T3.setTop (mkF m 4 #[.val (.ref a1)] [(.ref w2), (.ref a1)])) _
    refine Jvm.RoadKit.acmp (g := (mkF m 4 #[.val (.ref a1)] [(.ref w2), (.ref a1)])) X3 hx rfl rfl rfl (pc0 := 4) (pc' := 7) (same := false) rfl (hb hby d1_4) rfl (decide_eq_false fun q => ha4 (Value.ref.inj q)) (by decide) (by decide) ?_
    show Steps p.tables e below (T3.setTop (mkF m 7 #[.val (.ref a1)] [])) _
    refine XS.aloadN X3.here hx rfl (hb hby d1_7) rfl rfl ?_
    show Steps p.tables e below (T3.setTop (mkF m 8 #[.val (.ref a1)] [(.ref a1)])) _
    refine st5 _ ?_
    show Steps p.tables e below (T5.setTop (mkF m 11 #[.val (.ref a1)] [(.ref w4), (.ref a1)])) _
    refine Jvm.RoadKit.acmp (g := (mkF m 11 #[.val (.ref a1)] [(.ref w4), (.ref a1)])) X5 hx rfl rfl rfl (pc0 := 11) (pc' := 14) (same := false) rfl (hb hby d1_11) rfl (decide_eq_false fun q => ha11 (Value.ref.inj q)) (by decide) (by decide) ?_
    show Steps p.tables e below (T5.setTop (mkF m 14 #[.val (.ref a1)] [])) _
    refine XS.aloadN X5.here hx rfl (hb hby d1_14) rfl rfl ?_
    show Steps p.tables e below (T5.setTop (mkF m 15 #[.val (.ref a1)] [(.ref a1)])) _
    refine st7 _ ?_
    show Steps p.tables e below (T7.setTop (mkF m 18 #[.val (.ref a1)] [(.ref w6), (.ref a1)])) _
    refine Jvm.RoadKit.acmp (g := (mkF m 18 #[.val (.ref a1)] [(.ref w6), (.ref a1)])) X7 hx rfl rfl rfl (pc0 := 18) (pc' := 25) (same := false) rfl (hb hby d1_18) rfl (decide_eq_false fun q => ha18 (Value.ref.inj q)) (by decide) (by decide) ?_
    show Steps p.tables e below (T7.setTop (mkF m 25 #[.val (.ref a1)] [])) _
    refine XS.iconst X7.here hx rfl (hb hby d1_25) ?_
    show Steps p.tables e below (T7.setTop (mkF m 26 #[.val (.ref a1)] [(.int (0 : Int32))])) _
    exact retN X7 hx (t := .boolean) Bd.returns (by simp) (hb hby d1_26) hr
  · show Q1_fft Z a1 w2 w4 w6 h0 n0 _ T7.heap _
    rw [e7]
    exact ⟨rfl, N0, rfl⟩
theorem pn_0 : plainName "com/example/nuthatch/nuthatch/formula/KindHasSymbolPinLaw" = true := by first | (simp [plainName, overriddenIn]; done) | decide +kernel
theorem pd_0_0 : parseMethodDescriptor "()Z" = some ⟨[], some .boolean⟩ := by decide +kernel
theorem ef_0 (m : MethodId) (x0 : Int32) : entryFrame m #[(.int x0)] maxLocals = mkF m 0 #[.val (.int x0), .unset, .unset, .unset] [] := by first | (simp [entryFrame, mkF, argsToLocals, Value.category, maxLocals]; done) | rfl
def Q0 (Z : State) (p1 : Int32) (w3 : Addr) (w6 : Addr) (w9 : Addr) (w12 : Addr) (w15 : Addr) (w18 : Addr) (w21 : Addr) (w24 : Addr) (w27 : Addr) (w30 : Addr) (w33 : Addr) (w36 : Addr) (w39 : Addr) (w42 : Addr) (w45 : Addr) (w48 : Addr) (w51 : Addr) (w54 : Addr) (w57 : Addr) (w60 : Addr) (h0 : Heap) (n0 : Nat) (v : Option Value) (h : Heap) (L : List Loc) : Prop := v = some (.int (1 : Int32)) ∧ Fr n0 L
set_option maxRecDepth 65536 in
set_option maxHeartbeats 40000000 in
theorem rm0_tf (l : Launch) (Z : State) (a0 : Array Value) (hw : ∀ d ∈ tables_1, d.before a0 Z = true) (ws : List Jvm.Cond) (p1 : Int32) (w3 : Addr) (w6 : Addr) (w9 : Addr) (w12 : Addr) (w15 : Addr) (w18 : Addr) (w21 : Addr) (w24 : Addr) (w27 : Addr) (w30 : Addr) (w33 : Addr) (w36 : Addr) (w39 : Addr) (w42 : Addr) (w45 : Addr) (w48 : Addr) (w51 : Addr) (w54 : Addr) (w57 : Addr) (w60 : Addr) (h0 : Heap) (n0 : Nat) (Z0 : n0 ≤ h0.size) (nq0 : w60 = w3) (S_SYMBOL : Sta Z h0 "com/example/nuthatch/nuthatch/formula/Kind" "SYMBOL" "Lcom/example/nuthatch/nuthatch/formula/Kind;" (.ref w3)) (E_w3 : Exa Z h0 w3 "com/example/nuthatch/nuthatch/formula/Kind") (S_ROW : Sta Z h0 "com/example/nuthatch/nuthatch/formula/Kind" "ROW" "Lcom/example/nuthatch/nuthatch/formula/Kind;" (.ref w6)) (E_w6 : Exa Z h0 w6 "com/example/nuthatch/nuthatch/formula/Kind") (S_INFIX : Sta Z h0 "com/example/nuthatch/nuthatch/formula/Kind" "INFIX" "Lcom/example/nuthatch/nuthatch/formula/Kind;" (.ref w9)) (E_w9 : Exa Z h0 w9 "com/example/nuthatch/nuthatch/formula/Kind") (S_PREFIX : Sta Z h0 "com/example/nuthatch/nuthatch/formula/Kind" "PREFIX" "Lcom/example/nuthatch/nuthatch/formula/Kind;" (.ref w12)) (E_w12 : Exa Z h0 w12 "com/example/nuthatch/nuthatch/formula/Kind") (S_JUXTAPOSITION : Sta Z h0 "com/example/nuthatch/nuthatch/formula/Kind" "JUXTAPOSITION" "Lcom/example/nuthatch/nuthatch/formula/Kind;" (.ref w15)) (E_w15 : Exa Z h0 w15 "com/example/nuthatch/nuthatch/formula/Kind") (S_SUPERSCRIPT : Sta Z h0 "com/example/nuthatch/nuthatch/formula/Kind" "SUPERSCRIPT" "Lcom/example/nuthatch/nuthatch/formula/Kind;" (.ref w18)) (E_w18 : Exa Z h0 w18 "com/example/nuthatch/nuthatch/formula/Kind") (S_SUBSCRIPT : Sta Z h0 "com/example/nuthatch/nuthatch/formula/Kind" "SUBSCRIPT" "Lcom/example/nuthatch/nuthatch/formula/Kind;" (.ref w21)) (E_w21 : Exa Z h0 w21 "com/example/nuthatch/nuthatch/formula/Kind") (S_SUBSCRIPT_SUPERSCRIPT : Sta Z h0 "com/example/nuthatch/nuthatch/formula/Kind" "SUBSCRIPT_SUPERSCRIPT" "Lcom/example/nuthatch/nuthatch/formula/Kind;" (.ref w24)) (E_w24 : Exa Z h0 w24 "com/example/nuthatch/nuthatch/formula/Kind") (S_FRACTION : Sta Z h0 "com/example/nuthatch/nuthatch/formula/Kind" "FRACTION" "Lcom/example/nuthatch/nuthatch/formula/Kind;" (.ref w27)) (E_w27 : Exa Z h0 w27 "com/example/nuthatch/nuthatch/formula/Kind") (S_ATOP : Sta Z h0 "com/example/nuthatch/nuthatch/formula/Kind" "ATOP" "Lcom/example/nuthatch/nuthatch/formula/Kind;" (.ref w30)) (E_w30 : Exa Z h0 w30 "com/example/nuthatch/nuthatch/formula/Kind") (S_ROOT : Sta Z h0 "com/example/nuthatch/nuthatch/formula/Kind" "ROOT" "Lcom/example/nuthatch/nuthatch/formula/Kind;" (.ref w33)) (E_w33 : Exa Z h0 w33 "com/example/nuthatch/nuthatch/formula/Kind") (S_INDEXED_ROOT : Sta Z h0 "com/example/nuthatch/nuthatch/formula/Kind" "INDEXED_ROOT" "Lcom/example/nuthatch/nuthatch/formula/Kind;" (.ref w36)) (E_w36 : Exa Z h0 w36 "com/example/nuthatch/nuthatch/formula/Kind") (S_FENCE : Sta Z h0 "com/example/nuthatch/nuthatch/formula/Kind" "FENCE" "Lcom/example/nuthatch/nuthatch/formula/Kind;" (.ref w39)) (E_w39 : Exa Z h0 w39 "com/example/nuthatch/nuthatch/formula/Kind") (S_ACCENT : Sta Z h0 "com/example/nuthatch/nuthatch/formula/Kind" "ACCENT" "Lcom/example/nuthatch/nuthatch/formula/Kind;" (.ref w42)) (E_w42 : Exa Z h0 w42 "com/example/nuthatch/nuthatch/formula/Kind") (S_OVER : Sta Z h0 "com/example/nuthatch/nuthatch/formula/Kind" "OVER" "Lcom/example/nuthatch/nuthatch/formula/Kind;" (.ref w45)) (E_w45 : Exa Z h0 w45 "com/example/nuthatch/nuthatch/formula/Kind") (S_UNDER : Sta Z h0 "com/example/nuthatch/nuthatch/formula/Kind" "UNDER" "Lcom/example/nuthatch/nuthatch/formula/Kind;" (.ref w48)) (E_w48 : Exa Z h0 w48 "com/example/nuthatch/nuthatch/formula/Kind") (S_UNDER_OVER : Sta Z h0 "com/example/nuthatch/nuthatch/formula/Kind" "UNDER_OVER" "Lcom/example/nuthatch/nuthatch/formula/Kind;" (.ref w51)) (E_w51 : Exa Z h0 w51 "com/example/nuthatch/nuthatch/formula/Kind") (S_TABLE : Sta Z h0 "com/example/nuthatch/nuthatch/formula/Kind" "TABLE" "Lcom/example/nuthatch/nuthatch/formula/Kind;" (.ref w54)) (E_w54 : Exa Z h0 w54 "com/example/nuthatch/nuthatch/formula/Kind") (S_TABLE_ROW : Sta Z h0 "com/example/nuthatch/nuthatch/formula/Kind" "TABLE_ROW" "Lcom/example/nuthatch/nuthatch/formula/Kind;" (.ref w57)) (E_w57 : Exa Z h0 w57 "com/example/nuthatch/nuthatch/formula/Kind") (E_w60 : Exa Z h0 w60 "com/example/nuthatch/nuthatch/formula/Kind") (hc142 : ((p1 &&& (2147483647 : Int32)) % (19 : Int32)) = (0 : Int32)) (hn163 : ¬ (((p1 &&& (2147483647 : Int32)) % (19 : Int32)) < 0)) (hl163 : ((p1 &&& (2147483647 : Int32)) % (19 : Int32)) < (19 : Int32)) (hv163 : ([(.ref w3), (.ref w6), (.ref w9), (.ref w12), (.ref w15), (.ref w18), (.ref w21), (.ref w24), (.ref w27), (.ref w30), (.ref w33), (.ref w36), (.ref w39), (.ref w42), (.ref w45), (.ref w48), (.ref w51), (.ref w54), (.ref w57)] : List Value).getD (((p1 &&& (2147483647 : Int32)) % (19 : Int32))).toNatClampNeg .null = (.ref w60)) :
    MetFree l x (head1 (Jvm.Cond.code x code maxLocals ret :: ws) room_1) (fun a U => a = #[(.int p1)] ∧ Z.Warmed39 U.vm ∧ U.heap = h0) (fun _ _ _ _ _ => True) (fun _ U o U' => ∃ v L, o = .returned v ∧ Q0 Z p1 w3 w6 w9 w12 w15 w18 w21 w24 w27 w30 w33 w36 w39 w42 w45 w48 w51 w54 w57 w60 h0 n0 v U'.heap L ∧ FrameEnd U o U' L room_1.cells room_1.slots) := by
  refine MetFree.of_bodySF (plainFor_of_name pn_0) hisR ?_
  intro p e s m args below meth c s₁ Bd hml0 hP hK
  obtain ⟨rfl, hZ, hh⟩ := hP
  have hx := Bd.exec
  have hby := Bd.bytes
  have hml : c.maxLocals = 4 := hml0
  have hown : s.vm.findClass "com/example/nuthatch/nuthatch/formula/KindHasSymbolPinLaw" = some m.cls := findClass_of_methodNamed Bd.named
  have hnm := (name_of_methodNamed Bd.named Bd.method).1
  have X0 : Stand p l e room_1 s m #[(.int p1)] below meth c s₁ [] 0 0 := Stand.of_body Bd
  have e0 : s₁.heap = h0 := by rw [← hh, Bd.state]; rfl
  have N0 := Fr.nil n0
  have pre0 : ∀ t, Steps p.tables e below (s₁.setTop (mkF m 0 #[.val (.int p1), .unset, .unset, .unset] [])) t → Steps p.tables e below (s₁.setTop (entryFrame m #[(.int p1)] maxLocals)) t := fun t k => castTop (ef_0 m p1) k
  obtain ⟨T2, h2, k2, X2, e2, E2, A2, O2, st2⟩ := newR X0 hx hZ hown (hw _ (List.mem_of_getElem? (i := 0) rfl)) (hw _ (List.mem_of_getElem? (i := 1) rfl)) e0 (g := (mkF m 2 #[.val (.int p1), .unset, .unset, .unset] [(.int (19 : Int32))])) rfl (hb hby at_2) rfl (by decide) (cap := 19) (by decide) (by decide) (by decide) (by decide)
  obtain ⟨b2, g2⟩ : ∃ z, z = h0.size := ⟨_, rfl⟩
  rw [← g2] at A2 st2
  have V_b2 : Arv Z h2 b2 k2 (.object "com/example/nuthatch/nuthatch/formula/Kind") (19 : Int32) [.null, .null, .null, .null, .null, .null, .null, .null, .null, .null, .null, .null, .null, .null, .null, .null, .null, .null, .null] .null := (Arv.new A2 (by decide)).pad (pad_rep [] .null 19)
  have g_b2 : n0 ≤ b2 := Nat.le_trans Z0 (Nat.le_of_eq g2.symm)
  have sz_b2 : h0.size ≤ b2 := (Nat.le_trans (Keep.refl h0 []).1 (Nat.le_of_eq g2.symm))
  have K2 : Keep h0 h2 [] := (Keep.refl h0 []).ext E2
  obtain ⟨T4, X4, e4, st4⟩ := getS2 X2 hx hZ hown (host := "") (Or.inl (hw _ (List.mem_of_getElem? (i := 2) rfl))) Via.refl e2 (own_stk S_SYMBOL K2) (g := (mkF m 7 #[.val (.int p1), .unset, .unset, .unset] [(.int (0 : Int32)), (.ref b2), (.ref b2)])) rfl (hb hby at_7)
  obtain ⟨cl_b2_10, Ar_b2, q_b2, S_b2, N_b2, H_b2, G_b2⟩ := V_b2
  have hin10 : ¬ ((0 : Int32) < 0 ∨ cl_b2_10.slots.size ≤ ((0 : Int32)).toNatClampNeg) := inb_of S_b2 ⟨by decide, by decide⟩
  obtain ⟨T5, h5, X5, e5, W5, st5⟩ := stR X4 hx hZ e4 Ar_b2 (j := (0 : Int32)) hin10 rfl (Sto.ofV Ar_b2 q_b2 O2 (Ins.self (E_w3.keep K2))) (g := (mkF m 10 #[.val (.int p1), .unset, .unset, .unset] [(.ref w3), (.int (0 : Int32)), (.ref b2), (.ref b2)])) rfl rfl (hb hby at_10)
  have V_b2_5 : Arv Z h5 b2 k2 (.object "com/example/nuthatch/nuthatch/formula/Kind") (19 : Int32) [(.ref w3), .null, .null, .null, .null, .null, .null, .null, .null, .null, .null, .null, .null, .null, .null, .null, .null, .null, .null] .null := Arv.set Ar_b2 q_b2 S_b2 N_b2 H_b2 G_b2 rfl W5 0 rfl (Nat.le_of_ble_eq_true rfl)
  have N5 := Fr.snoc X5 N0 g_b2
  have K5 : Keep h0 h5 [] := K2.wr W5 (Or.inr sz_b2)
  obtain ⟨T7, X7, e7, st7⟩ := getS2 X5 hx hZ hown (host := "") (Or.inl (hw _ (List.mem_of_getElem? (i := 6) rfl))) Via.refl e5 (own_stk S_ROW K5) (g := (mkF m 13 #[.val (.int p1), .unset, .unset, .unset] [(.int (1 : Int32)), (.ref b2), (.ref b2)])) rfl (hb hby at_13)
  obtain ⟨cl_b2_16, Ar_b2, q_b2, S_b2, N_b2, H_b2, G_b2⟩ := V_b2_5
  have hin16 : ¬ ((1 : Int32) < 0 ∨ cl_b2_16.slots.size ≤ ((1 : Int32)).toNatClampNeg) := inb_of S_b2 ⟨by decide, by decide⟩
  obtain ⟨T8, h8, X8, e8, W8, st8⟩ := stR X7 hx hZ e7 Ar_b2 (j := (1 : Int32)) hin16 rfl (Sto.ofV Ar_b2 q_b2 O2 (Ins.self (E_w6.keep K5))) (g := (mkF m 16 #[.val (.int p1), .unset, .unset, .unset] [(.ref w6), (.int (1 : Int32)), (.ref b2), (.ref b2)])) rfl rfl (hb hby at_16)
  have V_b2_8 : Arv Z h8 b2 k2 (.object "com/example/nuthatch/nuthatch/formula/Kind") (19 : Int32) [(.ref w3), (.ref w6), .null, .null, .null, .null, .null, .null, .null, .null, .null, .null, .null, .null, .null, .null, .null, .null, .null] .null := Arv.set Ar_b2 q_b2 S_b2 N_b2 H_b2 G_b2 rfl W8 1 rfl (Nat.le_of_ble_eq_true rfl)
  have N8 := Fr.snoc X8 N5 g_b2
  have K8 : Keep h0 h8 [] := K5.wr W8 (Or.inr sz_b2)
  obtain ⟨T10, X10, e10, st10⟩ := getS2 X8 hx hZ hown (host := "") (Or.inl (hw _ (List.mem_of_getElem? (i := 8) rfl))) Via.refl e8 (own_stk S_INFIX K8) (g := (mkF m 19 #[.val (.int p1), .unset, .unset, .unset] [(.int (2 : Int32)), (.ref b2), (.ref b2)])) rfl (hb hby at_19)
  obtain ⟨cl_b2_22, Ar_b2, q_b2, S_b2, N_b2, H_b2, G_b2⟩ := V_b2_8
  have hin22 : ¬ ((2 : Int32) < 0 ∨ cl_b2_22.slots.size ≤ ((2 : Int32)).toNatClampNeg) := inb_of S_b2 ⟨by decide, by decide⟩
  obtain ⟨T11, h11, X11, e11, W11, st11⟩ := stR X10 hx hZ e10 Ar_b2 (j := (2 : Int32)) hin22 rfl (Sto.ofV Ar_b2 q_b2 O2 (Ins.self (E_w9.keep K8))) (g := (mkF m 22 #[.val (.int p1), .unset, .unset, .unset] [(.ref w9), (.int (2 : Int32)), (.ref b2), (.ref b2)])) rfl rfl (hb hby at_22)
  have V_b2_11 : Arv Z h11 b2 k2 (.object "com/example/nuthatch/nuthatch/formula/Kind") (19 : Int32) [(.ref w3), (.ref w6), (.ref w9), .null, .null, .null, .null, .null, .null, .null, .null, .null, .null, .null, .null, .null, .null, .null, .null] .null := Arv.set Ar_b2 q_b2 S_b2 N_b2 H_b2 G_b2 rfl W11 2 rfl (Nat.le_of_ble_eq_true rfl)
  have N11 := Fr.snoc X11 N8 g_b2
  have K11 : Keep h0 h11 [] := K8.wr W11 (Or.inr sz_b2)
  obtain ⟨T13, X13, e13, st13⟩ := getS2 X11 hx hZ hown (host := "") (Or.inl (hw _ (List.mem_of_getElem? (i := 10) rfl))) Via.refl e11 (own_stk S_PREFIX K11) (g := (mkF m 25 #[.val (.int p1), .unset, .unset, .unset] [(.int (3 : Int32)), (.ref b2), (.ref b2)])) rfl (hb hby at_25)
  obtain ⟨cl_b2_28, Ar_b2, q_b2, S_b2, N_b2, H_b2, G_b2⟩ := V_b2_11
  have hin28 : ¬ ((3 : Int32) < 0 ∨ cl_b2_28.slots.size ≤ ((3 : Int32)).toNatClampNeg) := inb_of S_b2 ⟨by decide, by decide⟩
  obtain ⟨T14, h14, X14, e14, W14, st14⟩ := stR X13 hx hZ e13 Ar_b2 (j := (3 : Int32)) hin28 rfl (Sto.ofV Ar_b2 q_b2 O2 (Ins.self (E_w12.keep K11))) (g := (mkF m 28 #[.val (.int p1), .unset, .unset, .unset] [(.ref w12), (.int (3 : Int32)), (.ref b2), (.ref b2)])) rfl rfl (hb hby at_28)
  have V_b2_14 : Arv Z h14 b2 k2 (.object "com/example/nuthatch/nuthatch/formula/Kind") (19 : Int32) [(.ref w3), (.ref w6), (.ref w9), (.ref w12), .null, .null, .null, .null, .null, .null, .null, .null, .null, .null, .null, .null, .null, .null, .null] .null := Arv.set Ar_b2 q_b2 S_b2 N_b2 H_b2 G_b2 rfl W14 3 rfl (Nat.le_of_ble_eq_true rfl)
  have N14 := Fr.snoc X14 N11 g_b2
  have K14 : Keep h0 h14 [] := K11.wr W14 (Or.inr sz_b2)
  obtain ⟨T16, X16, e16, st16⟩ := getS2 X14 hx hZ hown (host := "") (Or.inl (hw _ (List.mem_of_getElem? (i := 12) rfl))) Via.refl e14 (own_stk S_JUXTAPOSITION K14) (g := (mkF m 31 #[.val (.int p1), .unset, .unset, .unset] [(.int (4 : Int32)), (.ref b2), (.ref b2)])) rfl (hb hby at_31)
  obtain ⟨cl_b2_34, Ar_b2, q_b2, S_b2, N_b2, H_b2, G_b2⟩ := V_b2_14
  have hin34 : ¬ ((4 : Int32) < 0 ∨ cl_b2_34.slots.size ≤ ((4 : Int32)).toNatClampNeg) := inb_of S_b2 ⟨by decide, by decide⟩
  obtain ⟨T17, h17, X17, e17, W17, st17⟩ := stR X16 hx hZ e16 Ar_b2 (j := (4 : Int32)) hin34 rfl (Sto.ofV Ar_b2 q_b2 O2 (Ins.self (E_w15.keep K14))) (g := (mkF m 34 #[.val (.int p1), .unset, .unset, .unset] [(.ref w15), (.int (4 : Int32)), (.ref b2), (.ref b2)])) rfl rfl (hb hby at_34)
  have V_b2_17 : Arv Z h17 b2 k2 (.object "com/example/nuthatch/nuthatch/formula/Kind") (19 : Int32) [(.ref w3), (.ref w6), (.ref w9), (.ref w12), (.ref w15), .null, .null, .null, .null, .null, .null, .null, .null, .null, .null, .null, .null, .null, .null] .null := Arv.set Ar_b2 q_b2 S_b2 N_b2 H_b2 G_b2 rfl W17 4 rfl (Nat.le_of_ble_eq_true rfl)
  have N17 := Fr.snoc X17 N14 g_b2
  have K17 : Keep h0 h17 [] := K14.wr W17 (Or.inr sz_b2)
  obtain ⟨T19, X19, e19, st19⟩ := getS2 X17 hx hZ hown (host := "") (Or.inl (hw _ (List.mem_of_getElem? (i := 14) rfl))) Via.refl e17 (own_stk S_SUPERSCRIPT K17) (g := (mkF m 37 #[.val (.int p1), .unset, .unset, .unset] [(.int (5 : Int32)), (.ref b2), (.ref b2)])) rfl (hb hby at_37)
  obtain ⟨cl_b2_40, Ar_b2, q_b2, S_b2, N_b2, H_b2, G_b2⟩ := V_b2_17
  have hin40 : ¬ ((5 : Int32) < 0 ∨ cl_b2_40.slots.size ≤ ((5 : Int32)).toNatClampNeg) := inb_of S_b2 ⟨by decide, by decide⟩
  obtain ⟨T20, h20, X20, e20, W20, st20⟩ := stR X19 hx hZ e19 Ar_b2 (j := (5 : Int32)) hin40 rfl (Sto.ofV Ar_b2 q_b2 O2 (Ins.self (E_w18.keep K17))) (g := (mkF m 40 #[.val (.int p1), .unset, .unset, .unset] [(.ref w18), (.int (5 : Int32)), (.ref b2), (.ref b2)])) rfl rfl (hb hby at_40)
  have V_b2_20 : Arv Z h20 b2 k2 (.object "com/example/nuthatch/nuthatch/formula/Kind") (19 : Int32) [(.ref w3), (.ref w6), (.ref w9), (.ref w12), (.ref w15), (.ref w18), .null, .null, .null, .null, .null, .null, .null, .null, .null, .null, .null, .null, .null] .null := Arv.set Ar_b2 q_b2 S_b2 N_b2 H_b2 G_b2 rfl W20 5 rfl (Nat.le_of_ble_eq_true rfl)
  have N20 := Fr.snoc X20 N17 g_b2
  have K20 : Keep h0 h20 [] := K17.wr W20 (Or.inr sz_b2)
  obtain ⟨T22, X22, e22, st22⟩ := getS2 X20 hx hZ hown (host := "") (Or.inl (hw _ (List.mem_of_getElem? (i := 16) rfl))) Via.refl e20 (own_stk S_SUBSCRIPT K20) (g := (mkF m 44 #[.val (.int p1), .unset, .unset, .unset] [(.int (6 : Int32)), (.ref b2), (.ref b2)])) rfl (hb hby at_44)
  obtain ⟨cl_b2_47, Ar_b2, q_b2, S_b2, N_b2, H_b2, G_b2⟩ := V_b2_20
  have hin47 : ¬ ((6 : Int32) < 0 ∨ cl_b2_47.slots.size ≤ ((6 : Int32)).toNatClampNeg) := inb_of S_b2 ⟨by decide, by decide⟩
  obtain ⟨T23, h23, X23, e23, W23, st23⟩ := stR X22 hx hZ e22 Ar_b2 (j := (6 : Int32)) hin47 rfl (Sto.ofV Ar_b2 q_b2 O2 (Ins.self (E_w21.keep K20))) (g := (mkF m 47 #[.val (.int p1), .unset, .unset, .unset] [(.ref w21), (.int (6 : Int32)), (.ref b2), (.ref b2)])) rfl rfl (hb hby at_47)
  have V_b2_23 : Arv Z h23 b2 k2 (.object "com/example/nuthatch/nuthatch/formula/Kind") (19 : Int32) [(.ref w3), (.ref w6), (.ref w9), (.ref w12), (.ref w15), (.ref w18), (.ref w21), .null, .null, .null, .null, .null, .null, .null, .null, .null, .null, .null, .null] .null := Arv.set Ar_b2 q_b2 S_b2 N_b2 H_b2 G_b2 rfl W23 6 rfl (Nat.le_of_ble_eq_true rfl)
  have N23 := Fr.snoc X23 N20 g_b2
  have K23 : Keep h0 h23 [] := K20.wr W23 (Or.inr sz_b2)
  obtain ⟨T25, X25, e25, st25⟩ := getS2 X23 hx hZ hown (host := "") (Or.inl (hw _ (List.mem_of_getElem? (i := 18) rfl))) Via.refl e23 (own_stk S_SUBSCRIPT_SUPERSCRIPT K23) (g := (mkF m 51 #[.val (.int p1), .unset, .unset, .unset] [(.int (7 : Int32)), (.ref b2), (.ref b2)])) rfl (hb hby at_51)
  obtain ⟨cl_b2_54, Ar_b2, q_b2, S_b2, N_b2, H_b2, G_b2⟩ := V_b2_23
  have hin54 : ¬ ((7 : Int32) < 0 ∨ cl_b2_54.slots.size ≤ ((7 : Int32)).toNatClampNeg) := inb_of S_b2 ⟨by decide, by decide⟩
  obtain ⟨T26, h26, X26, e26, W26, st26⟩ := stR X25 hx hZ e25 Ar_b2 (j := (7 : Int32)) hin54 rfl (Sto.ofV Ar_b2 q_b2 O2 (Ins.self (E_w24.keep K23))) (g := (mkF m 54 #[.val (.int p1), .unset, .unset, .unset] [(.ref w24), (.int (7 : Int32)), (.ref b2), (.ref b2)])) rfl rfl (hb hby at_54)
  have V_b2_26 : Arv Z h26 b2 k2 (.object "com/example/nuthatch/nuthatch/formula/Kind") (19 : Int32) [(.ref w3), (.ref w6), (.ref w9), (.ref w12), (.ref w15), (.ref w18), (.ref w21), (.ref w24), .null, .null, .null, .null, .null, .null, .null, .null, .null, .null, .null] .null := Arv.set Ar_b2 q_b2 S_b2 N_b2 H_b2 G_b2 rfl W26 7 rfl (Nat.le_of_ble_eq_true rfl)
  have N26 := Fr.snoc X26 N23 g_b2
  have K26 : Keep h0 h26 [] := K23.wr W26 (Or.inr sz_b2)
  obtain ⟨T28, X28, e28, st28⟩ := getS2 X26 hx hZ hown (host := "") (Or.inl (hw _ (List.mem_of_getElem? (i := 20) rfl))) Via.refl e26 (own_stk S_FRACTION K26) (g := (mkF m 58 #[.val (.int p1), .unset, .unset, .unset] [(.int (8 : Int32)), (.ref b2), (.ref b2)])) rfl (hb hby at_58)
  obtain ⟨cl_b2_61, Ar_b2, q_b2, S_b2, N_b2, H_b2, G_b2⟩ := V_b2_26
  have hin61 : ¬ ((8 : Int32) < 0 ∨ cl_b2_61.slots.size ≤ ((8 : Int32)).toNatClampNeg) := inb_of S_b2 ⟨by decide, by decide⟩
  obtain ⟨T29, h29, X29, e29, W29, st29⟩ := stR X28 hx hZ e28 Ar_b2 (j := (8 : Int32)) hin61 rfl (Sto.ofV Ar_b2 q_b2 O2 (Ins.self (E_w27.keep K26))) (g := (mkF m 61 #[.val (.int p1), .unset, .unset, .unset] [(.ref w27), (.int (8 : Int32)), (.ref b2), (.ref b2)])) rfl rfl (hb hby at_61)
  have V_b2_29 : Arv Z h29 b2 k2 (.object "com/example/nuthatch/nuthatch/formula/Kind") (19 : Int32) [(.ref w3), (.ref w6), (.ref w9), (.ref w12), (.ref w15), (.ref w18), (.ref w21), (.ref w24), (.ref w27), .null, .null, .null, .null, .null, .null, .null, .null, .null, .null] .null := Arv.set Ar_b2 q_b2 S_b2 N_b2 H_b2 G_b2 rfl W29 8 rfl (Nat.le_of_ble_eq_true rfl)
  have N29 := Fr.snoc X29 N26 g_b2
  have K29 : Keep h0 h29 [] := K26.wr W29 (Or.inr sz_b2)
  obtain ⟨T31, X31, e31, st31⟩ := getS2 X29 hx hZ hown (host := "") (Or.inl (hw _ (List.mem_of_getElem? (i := 22) rfl))) Via.refl e29 (own_stk S_ATOP K29) (g := (mkF m 65 #[.val (.int p1), .unset, .unset, .unset] [(.int (9 : Int32)), (.ref b2), (.ref b2)])) rfl (hb hby at_65)
  obtain ⟨cl_b2_68, Ar_b2, q_b2, S_b2, N_b2, H_b2, G_b2⟩ := V_b2_29
  have hin68 : ¬ ((9 : Int32) < 0 ∨ cl_b2_68.slots.size ≤ ((9 : Int32)).toNatClampNeg) := inb_of S_b2 ⟨by decide, by decide⟩
  obtain ⟨T32, h32, X32, e32, W32, st32⟩ := stR X31 hx hZ e31 Ar_b2 (j := (9 : Int32)) hin68 rfl (Sto.ofV Ar_b2 q_b2 O2 (Ins.self (E_w30.keep K29))) (g := (mkF m 68 #[.val (.int p1), .unset, .unset, .unset] [(.ref w30), (.int (9 : Int32)), (.ref b2), (.ref b2)])) rfl rfl (hb hby at_68)
  have V_b2_32 : Arv Z h32 b2 k2 (.object "com/example/nuthatch/nuthatch/formula/Kind") (19 : Int32) [(.ref w3), (.ref w6), (.ref w9), (.ref w12), (.ref w15), (.ref w18), (.ref w21), (.ref w24), (.ref w27), (.ref w30), .null, .null, .null, .null, .null, .null, .null, .null, .null] .null := Arv.set Ar_b2 q_b2 S_b2 N_b2 H_b2 G_b2 rfl W32 9 rfl (Nat.le_of_ble_eq_true rfl)
  have N32 := Fr.snoc X32 N29 g_b2
  have K32 : Keep h0 h32 [] := K29.wr W32 (Or.inr sz_b2)
  obtain ⟨T34, X34, e34, st34⟩ := getS2 X32 hx hZ hown (host := "") (Or.inl (hw _ (List.mem_of_getElem? (i := 24) rfl))) Via.refl e32 (own_stk S_ROOT K32) (g := (mkF m 72 #[.val (.int p1), .unset, .unset, .unset] [(.int (10 : Int32)), (.ref b2), (.ref b2)])) rfl (hb hby at_72)
  obtain ⟨cl_b2_75, Ar_b2, q_b2, S_b2, N_b2, H_b2, G_b2⟩ := V_b2_32
  have hin75 : ¬ ((10 : Int32) < 0 ∨ cl_b2_75.slots.size ≤ ((10 : Int32)).toNatClampNeg) := inb_of S_b2 ⟨by decide, by decide⟩
  obtain ⟨T35, h35, X35, e35, W35, st35⟩ := stR X34 hx hZ e34 Ar_b2 (j := (10 : Int32)) hin75 rfl (Sto.ofV Ar_b2 q_b2 O2 (Ins.self (E_w33.keep K32))) (g := (mkF m 75 #[.val (.int p1), .unset, .unset, .unset] [(.ref w33), (.int (10 : Int32)), (.ref b2), (.ref b2)])) rfl rfl (hb hby at_75)
  have V_b2_35 : Arv Z h35 b2 k2 (.object "com/example/nuthatch/nuthatch/formula/Kind") (19 : Int32) [(.ref w3), (.ref w6), (.ref w9), (.ref w12), (.ref w15), (.ref w18), (.ref w21), (.ref w24), (.ref w27), (.ref w30), (.ref w33), .null, .null, .null, .null, .null, .null, .null, .null] .null := Arv.set Ar_b2 q_b2 S_b2 N_b2 H_b2 G_b2 rfl W35 10 rfl (Nat.le_of_ble_eq_true rfl)
  have N35 := Fr.snoc X35 N32 g_b2
  have K35 : Keep h0 h35 [] := K32.wr W35 (Or.inr sz_b2)
  obtain ⟨T37, X37, e37, st37⟩ := getS2 X35 hx hZ hown (host := "") (Or.inl (hw _ (List.mem_of_getElem? (i := 26) rfl))) Via.refl e35 (own_stk S_INDEXED_ROOT K35) (g := (mkF m 79 #[.val (.int p1), .unset, .unset, .unset] [(.int (11 : Int32)), (.ref b2), (.ref b2)])) rfl (hb hby at_79)
  obtain ⟨cl_b2_82, Ar_b2, q_b2, S_b2, N_b2, H_b2, G_b2⟩ := V_b2_35
  have hin82 : ¬ ((11 : Int32) < 0 ∨ cl_b2_82.slots.size ≤ ((11 : Int32)).toNatClampNeg) := inb_of S_b2 ⟨by decide, by decide⟩
  obtain ⟨T38, h38, X38, e38, W38, st38⟩ := stR X37 hx hZ e37 Ar_b2 (j := (11 : Int32)) hin82 rfl (Sto.ofV Ar_b2 q_b2 O2 (Ins.self (E_w36.keep K35))) (g := (mkF m 82 #[.val (.int p1), .unset, .unset, .unset] [(.ref w36), (.int (11 : Int32)), (.ref b2), (.ref b2)])) rfl rfl (hb hby at_82)
  have V_b2_38 : Arv Z h38 b2 k2 (.object "com/example/nuthatch/nuthatch/formula/Kind") (19 : Int32) [(.ref w3), (.ref w6), (.ref w9), (.ref w12), (.ref w15), (.ref w18), (.ref w21), (.ref w24), (.ref w27), (.ref w30), (.ref w33), (.ref w36), .null, .null, .null, .null, .null, .null, .null] .null := Arv.set Ar_b2 q_b2 S_b2 N_b2 H_b2 G_b2 rfl W38 11 rfl (Nat.le_of_ble_eq_true rfl)
  have N38 := Fr.snoc X38 N35 g_b2
  have K38 : Keep h0 h38 [] := K35.wr W38 (Or.inr sz_b2)
  obtain ⟨T40, X40, e40, st40⟩ := getS2 X38 hx hZ hown (host := "") (Or.inl (hw _ (List.mem_of_getElem? (i := 28) rfl))) Via.refl e38 (own_stk S_FENCE K38) (g := (mkF m 86 #[.val (.int p1), .unset, .unset, .unset] [(.int (12 : Int32)), (.ref b2), (.ref b2)])) rfl (hb hby at_86)
  obtain ⟨cl_b2_89, Ar_b2, q_b2, S_b2, N_b2, H_b2, G_b2⟩ := V_b2_38
  have hin89 : ¬ ((12 : Int32) < 0 ∨ cl_b2_89.slots.size ≤ ((12 : Int32)).toNatClampNeg) := inb_of S_b2 ⟨by decide, by decide⟩
  obtain ⟨T41, h41, X41, e41, W41, st41⟩ := stR X40 hx hZ e40 Ar_b2 (j := (12 : Int32)) hin89 rfl (Sto.ofV Ar_b2 q_b2 O2 (Ins.self (E_w39.keep K38))) (g := (mkF m 89 #[.val (.int p1), .unset, .unset, .unset] [(.ref w39), (.int (12 : Int32)), (.ref b2), (.ref b2)])) rfl rfl (hb hby at_89)
  have V_b2_41 : Arv Z h41 b2 k2 (.object "com/example/nuthatch/nuthatch/formula/Kind") (19 : Int32) [(.ref w3), (.ref w6), (.ref w9), (.ref w12), (.ref w15), (.ref w18), (.ref w21), (.ref w24), (.ref w27), (.ref w30), (.ref w33), (.ref w36), (.ref w39), .null, .null, .null, .null, .null, .null] .null := Arv.set Ar_b2 q_b2 S_b2 N_b2 H_b2 G_b2 rfl W41 12 rfl (Nat.le_of_ble_eq_true rfl)
  have N41 := Fr.snoc X41 N38 g_b2
  have K41 : Keep h0 h41 [] := K38.wr W41 (Or.inr sz_b2)
  obtain ⟨T43, X43, e43, st43⟩ := getS2 X41 hx hZ hown (host := "") (Or.inl (hw _ (List.mem_of_getElem? (i := 30) rfl))) Via.refl e41 (own_stk S_ACCENT K41) (g := (mkF m 93 #[.val (.int p1), .unset, .unset, .unset] [(.int (13 : Int32)), (.ref b2), (.ref b2)])) rfl (hb hby at_93)
  obtain ⟨cl_b2_96, Ar_b2, q_b2, S_b2, N_b2, H_b2, G_b2⟩ := V_b2_41
  have hin96 : ¬ ((13 : Int32) < 0 ∨ cl_b2_96.slots.size ≤ ((13 : Int32)).toNatClampNeg) := inb_of S_b2 ⟨by decide, by decide⟩
  obtain ⟨T44, h44, X44, e44, W44, st44⟩ := stR X43 hx hZ e43 Ar_b2 (j := (13 : Int32)) hin96 rfl (Sto.ofV Ar_b2 q_b2 O2 (Ins.self (E_w42.keep K41))) (g := (mkF m 96 #[.val (.int p1), .unset, .unset, .unset] [(.ref w42), (.int (13 : Int32)), (.ref b2), (.ref b2)])) rfl rfl (hb hby at_96)
  have V_b2_44 : Arv Z h44 b2 k2 (.object "com/example/nuthatch/nuthatch/formula/Kind") (19 : Int32) [(.ref w3), (.ref w6), (.ref w9), (.ref w12), (.ref w15), (.ref w18), (.ref w21), (.ref w24), (.ref w27), (.ref w30), (.ref w33), (.ref w36), (.ref w39), (.ref w42), .null, .null, .null, .null, .null] .null := Arv.set Ar_b2 q_b2 S_b2 N_b2 H_b2 G_b2 rfl W44 13 rfl (Nat.le_of_ble_eq_true rfl)
  have N44 := Fr.snoc X44 N41 g_b2
  have K44 : Keep h0 h44 [] := K41.wr W44 (Or.inr sz_b2)
  obtain ⟨T46, X46, e46, st46⟩ := getS2 X44 hx hZ hown (host := "") (Or.inl (hw _ (List.mem_of_getElem? (i := 32) rfl))) Via.refl e44 (own_stk S_OVER K44) (g := (mkF m 100 #[.val (.int p1), .unset, .unset, .unset] [(.int (14 : Int32)), (.ref b2), (.ref b2)])) rfl (hb hby at_100)
  obtain ⟨cl_b2_103, Ar_b2, q_b2, S_b2, N_b2, H_b2, G_b2⟩ := V_b2_44
  have hin103 : ¬ ((14 : Int32) < 0 ∨ cl_b2_103.slots.size ≤ ((14 : Int32)).toNatClampNeg) := inb_of S_b2 ⟨by decide, by decide⟩
  obtain ⟨T47, h47, X47, e47, W47, st47⟩ := stR X46 hx hZ e46 Ar_b2 (j := (14 : Int32)) hin103 rfl (Sto.ofV Ar_b2 q_b2 O2 (Ins.self (E_w45.keep K44))) (g := (mkF m 103 #[.val (.int p1), .unset, .unset, .unset] [(.ref w45), (.int (14 : Int32)), (.ref b2), (.ref b2)])) rfl rfl (hb hby at_103)
  have V_b2_47 : Arv Z h47 b2 k2 (.object "com/example/nuthatch/nuthatch/formula/Kind") (19 : Int32) [(.ref w3), (.ref w6), (.ref w9), (.ref w12), (.ref w15), (.ref w18), (.ref w21), (.ref w24), (.ref w27), (.ref w30), (.ref w33), (.ref w36), (.ref w39), (.ref w42), (.ref w45), .null, .null, .null, .null] .null := Arv.set Ar_b2 q_b2 S_b2 N_b2 H_b2 G_b2 rfl W47 14 rfl (Nat.le_of_ble_eq_true rfl)
  have N47 := Fr.snoc X47 N44 g_b2
  have K47 : Keep h0 h47 [] := K44.wr W47 (Or.inr sz_b2)
  obtain ⟨T49, X49, e49, st49⟩ := getS2 X47 hx hZ hown (host := "") (Or.inl (hw _ (List.mem_of_getElem? (i := 34) rfl))) Via.refl e47 (own_stk S_UNDER K47) (g := (mkF m 107 #[.val (.int p1), .unset, .unset, .unset] [(.int (15 : Int32)), (.ref b2), (.ref b2)])) rfl (hb hby at_107)
  obtain ⟨cl_b2_110, Ar_b2, q_b2, S_b2, N_b2, H_b2, G_b2⟩ := V_b2_47
  have hin110 : ¬ ((15 : Int32) < 0 ∨ cl_b2_110.slots.size ≤ ((15 : Int32)).toNatClampNeg) := inb_of S_b2 ⟨by decide, by decide⟩
  obtain ⟨T50, h50, X50, e50, W50, st50⟩ := stR X49 hx hZ e49 Ar_b2 (j := (15 : Int32)) hin110 rfl (Sto.ofV Ar_b2 q_b2 O2 (Ins.self (E_w48.keep K47))) (g := (mkF m 110 #[.val (.int p1), .unset, .unset, .unset] [(.ref w48), (.int (15 : Int32)), (.ref b2), (.ref b2)])) rfl rfl (hb hby at_110)
  have V_b2_50 : Arv Z h50 b2 k2 (.object "com/example/nuthatch/nuthatch/formula/Kind") (19 : Int32) [(.ref w3), (.ref w6), (.ref w9), (.ref w12), (.ref w15), (.ref w18), (.ref w21), (.ref w24), (.ref w27), (.ref w30), (.ref w33), (.ref w36), (.ref w39), (.ref w42), (.ref w45), (.ref w48), .null, .null, .null] .null := Arv.set Ar_b2 q_b2 S_b2 N_b2 H_b2 G_b2 rfl W50 15 rfl (Nat.le_of_ble_eq_true rfl)
  have N50 := Fr.snoc X50 N47 g_b2
  have K50 : Keep h0 h50 [] := K47.wr W50 (Or.inr sz_b2)
  obtain ⟨T52, X52, e52, st52⟩ := getS2 X50 hx hZ hown (host := "") (Or.inl (hw _ (List.mem_of_getElem? (i := 36) rfl))) Via.refl e50 (own_stk S_UNDER_OVER K50) (g := (mkF m 114 #[.val (.int p1), .unset, .unset, .unset] [(.int (16 : Int32)), (.ref b2), (.ref b2)])) rfl (hb hby at_114)
  obtain ⟨cl_b2_117, Ar_b2, q_b2, S_b2, N_b2, H_b2, G_b2⟩ := V_b2_50
  have hin117 : ¬ ((16 : Int32) < 0 ∨ cl_b2_117.slots.size ≤ ((16 : Int32)).toNatClampNeg) := inb_of S_b2 ⟨by decide, by decide⟩
  obtain ⟨T53, h53, X53, e53, W53, st53⟩ := stR X52 hx hZ e52 Ar_b2 (j := (16 : Int32)) hin117 rfl (Sto.ofV Ar_b2 q_b2 O2 (Ins.self (E_w51.keep K50))) (g := (mkF m 117 #[.val (.int p1), .unset, .unset, .unset] [(.ref w51), (.int (16 : Int32)), (.ref b2), (.ref b2)])) rfl rfl (hb hby at_117)
  have V_b2_53 : Arv Z h53 b2 k2 (.object "com/example/nuthatch/nuthatch/formula/Kind") (19 : Int32) [(.ref w3), (.ref w6), (.ref w9), (.ref w12), (.ref w15), (.ref w18), (.ref w21), (.ref w24), (.ref w27), (.ref w30), (.ref w33), (.ref w36), (.ref w39), (.ref w42), (.ref w45), (.ref w48), (.ref w51), .null, .null] .null := Arv.set Ar_b2 q_b2 S_b2 N_b2 H_b2 G_b2 rfl W53 16 rfl (Nat.le_of_ble_eq_true rfl)
  have N53 := Fr.snoc X53 N50 g_b2
  have K53 : Keep h0 h53 [] := K50.wr W53 (Or.inr sz_b2)
  obtain ⟨T55, X55, e55, st55⟩ := getS2 X53 hx hZ hown (host := "") (Or.inl (hw _ (List.mem_of_getElem? (i := 38) rfl))) Via.refl e53 (own_stk S_TABLE K53) (g := (mkF m 121 #[.val (.int p1), .unset, .unset, .unset] [(.int (17 : Int32)), (.ref b2), (.ref b2)])) rfl (hb hby at_121)
  obtain ⟨cl_b2_124, Ar_b2, q_b2, S_b2, N_b2, H_b2, G_b2⟩ := V_b2_53
  have hin124 : ¬ ((17 : Int32) < 0 ∨ cl_b2_124.slots.size ≤ ((17 : Int32)).toNatClampNeg) := inb_of S_b2 ⟨by decide, by decide⟩
  obtain ⟨T56, h56, X56, e56, W56, st56⟩ := stR X55 hx hZ e55 Ar_b2 (j := (17 : Int32)) hin124 rfl (Sto.ofV Ar_b2 q_b2 O2 (Ins.self (E_w54.keep K53))) (g := (mkF m 124 #[.val (.int p1), .unset, .unset, .unset] [(.ref w54), (.int (17 : Int32)), (.ref b2), (.ref b2)])) rfl rfl (hb hby at_124)
  have V_b2_56 : Arv Z h56 b2 k2 (.object "com/example/nuthatch/nuthatch/formula/Kind") (19 : Int32) [(.ref w3), (.ref w6), (.ref w9), (.ref w12), (.ref w15), (.ref w18), (.ref w21), (.ref w24), (.ref w27), (.ref w30), (.ref w33), (.ref w36), (.ref w39), (.ref w42), (.ref w45), (.ref w48), (.ref w51), (.ref w54), .null] .null := Arv.set Ar_b2 q_b2 S_b2 N_b2 H_b2 G_b2 rfl W56 17 rfl (Nat.le_of_ble_eq_true rfl)
  have N56 := Fr.snoc X56 N53 g_b2
  have K56 : Keep h0 h56 [] := K53.wr W56 (Or.inr sz_b2)
  obtain ⟨T58, X58, e58, st58⟩ := getS2 X56 hx hZ hown (host := "") (Or.inl (hw _ (List.mem_of_getElem? (i := 40) rfl))) Via.refl e56 (own_stk S_TABLE_ROW K56) (g := (mkF m 128 #[.val (.int p1), .unset, .unset, .unset] [(.int (18 : Int32)), (.ref b2), (.ref b2)])) rfl (hb hby at_128)
  obtain ⟨cl_b2_131, Ar_b2, q_b2, S_b2, N_b2, H_b2, G_b2⟩ := V_b2_56
  have hin131 : ¬ ((18 : Int32) < 0 ∨ cl_b2_131.slots.size ≤ ((18 : Int32)).toNatClampNeg) := inb_of S_b2 ⟨by decide, by decide⟩
  obtain ⟨T59, h59, X59, e59, W59, st59⟩ := stR X58 hx hZ e58 Ar_b2 (j := (18 : Int32)) hin131 rfl (Sto.ofV Ar_b2 q_b2 O2 (Ins.self (E_w57.keep K56))) (g := (mkF m 131 #[.val (.int p1), .unset, .unset, .unset] [(.ref w57), (.int (18 : Int32)), (.ref b2), (.ref b2)])) rfl rfl (hb hby at_131)
  have V_b2_59 : Arv Z h59 b2 k2 (.object "com/example/nuthatch/nuthatch/formula/Kind") (19 : Int32) [(.ref w3), (.ref w6), (.ref w9), (.ref w12), (.ref w15), (.ref w18), (.ref w21), (.ref w24), (.ref w27), (.ref w30), (.ref w33), (.ref w36), (.ref w39), (.ref w42), (.ref w45), (.ref w48), (.ref w51), (.ref w54), (.ref w57)] .null := Arv.set Ar_b2 q_b2 S_b2 N_b2 H_b2 G_b2 rfl W59 18 rfl (Nat.le_of_ble_eq_true rfl)
  have N59 := Fr.snoc X59 N56 g_b2
  have K59 : Keep h0 h59 [] := K56.wr W59 (Or.inr sz_b2)
  obtain ⟨cl_b2_163, Ar_b2, q_b2, S_b2, N_b2, H_b2, G_b2⟩ := V_b2_59
  have hin163 : ¬ (((p1 &&& (2147483647 : Int32)) % (19 : Int32)) < 0 ∨ cl_b2_163.slots.size ≤ (((p1 &&& (2147483647 : Int32)) % (19 : Int32))).toNatClampNeg) := inb_of S_b2 ⟨hn163, hl163⟩
  have hat163 : cl_b2_163.slots[(((p1 &&& (2147483647 : Int32)) % (19 : Int32))).toNatClampNeg]? = some (.ref w60) := H_b2.at hin163 hv163
  obtain ⟨cq61, kq61, q61a, q61b, q61c⟩ := isOf hZ e59 (E_w60.keep K59)
  obtain ⟨_, _, ⟨T61, L61, k61, n61⟩, -, X61, ⟨Lc61, hQ61, l61, y61, z61⟩, st61⟩ := X59.virtualBack hx (y := (⟨"com/example/nuthatch/nuthatch/formula/Kind", "hasSymbol", "()Z"⟩ : MethodName)) (z := (⟨"com/example/nuthatch/nuthatch/formula/Kind", "hasSymbol", "()Z"⟩ : MethodName)) hown (mvT hZ (hw _ (List.mem_of_getElem? (i := 43) rfl))) (mvT hZ (hw _ (List.mem_of_getElem? (i := 44) rfl))) (notFace_of_selects (args := #[]) (mvT hZ (hw _ (List.mem_of_getElem? (i := 46) rfl)))) (mvT hZ (hw _ (List.mem_of_getElem? (i := 46) rfl))) (mvT hZ (hw _ (List.mem_of_getElem? (i := 45) rfl))) (by decide) (backOf (W := 0) (rm1_t l Z a0 hw [] w60 w3 h59 n0 (Nat.le_trans Z0 K59.1) (own_stk S_SYMBOL K59) nq0) hZ (hw _ (List.mem_of_getElem? (i := 47) rfl)) (hw _ (List.mem_of_getElem? (i := 3) rfl)) (by decide) (by decide)) q61a q61c (g := (mkF m 164 #[.val (.int p1), .val (.ref b2), .val (.int ((p1 &&& (2147483647 : Int32)) % (19 : Int32))), .val (.int (1 : Int32))] [(.ref w60)])) rfl (by rw [hml]; rfl) (Steps.refl _) (argsL := []) (rest := []) (lenOf pd_0_0 rfl) rfl (by show 2 * 0 + _ ≤ _; exact Nat.le_of_eq rfl) (hb hby at_164) (fun _ _ => ⟨rfl, e59, (by decide : 1 + 0 ≤ _), (by decide : 19 + 0 ≤ _)⟩)
  dsimp only [Pt.U, Pt.locs, Pt.cells, Pt.slots] at X61 l61 y61 z61 st61 hQ61
  subst l61 y61 z61
  obtain ⟨rfl, N61q, eQq⟩ := hQ61
  have N61 := Fr.app N59 N61q
  obtain ⟨fs, hr, hrun, hended, hW, hsame⟩ := X61.leave (v := some (.int (1 : Int32))) (fun h => by rw [Bd.returns] at h; cases h)
  refine ⟨_, _, pre0 _ ?_, hrun, hended, _, _, rfl, ?_, ⟨_, rfl⟩, hW, hsame.mono (by decide) (by decide)⟩
  · show Steps p.tables e below (s₁.setTop (mkF m 0 #[.val (.int p1), .unset, .unset, .unset] [])) _
    refine XS.bipush X0.here hx rfl (hb hby at_0) ?_
    show Steps p.tables e below (s₁.setTop (mkF m 2 #[.val (.int p1), .unset, .unset, .unset] [(.int (19 : Int32))])) _
    refine st2 _ ?_
    show Steps p.tables e below (T2.setTop (mkF m 5 #[.val (.int p1), .unset, .unset, .unset] [(.ref b2)])) _
    refine XS.dup X2.here hx rfl (hb hby at_5) rfl rfl ?_
    show Steps p.tables e below (T2.setTop (mkF m 6 #[.val (.int p1), .unset, .unset, .unset] [(.ref b2), (.ref b2)])) _
    refine XS.iconst X2.here hx rfl (hb hby at_6) ?_
    show Steps p.tables e below (T2.setTop (mkF m 7 #[.val (.int p1), .unset, .unset, .unset] [(.int (0 : Int32)), (.ref b2), (.ref b2)])) _
    refine st4 _ ?_
    show Steps p.tables e below (T4.setTop (mkF m 10 #[.val (.int p1), .unset, .unset, .unset] [(.ref w3), (.int (0 : Int32)), (.ref b2), (.ref b2)])) _
    refine st5 _ ?_
    show Steps p.tables e below (T5.setTop (mkF m 11 #[.val (.int p1), .unset, .unset, .unset] [(.ref b2)])) _
    refine XS.dup X5.here hx rfl (hb hby at_11) rfl rfl ?_
    show Steps p.tables e below (T5.setTop (mkF m 12 #[.val (.int p1), .unset, .unset, .unset] [(.ref b2), (.ref b2)])) _
    refine XS.iconst X5.here hx rfl (hb hby at_12) ?_
    show Steps p.tables e below (T5.setTop (mkF m 13 #[.val (.int p1), .unset, .unset, .unset] [(.int (1 : Int32)), (.ref b2), (.ref b2)])) _
    refine st7 _ ?_
    show Steps p.tables e below (T7.setTop (mkF m 16 #[.val (.int p1), .unset, .unset, .unset] [(.ref w6), (.int (1 : Int32)), (.ref b2), (.ref b2)])) _
    refine st8 _ ?_
    show Steps p.tables e below (T8.setTop (mkF m 17 #[.val (.int p1), .unset, .unset, .unset] [(.ref b2)])) _
    refine XS.dup X8.here hx rfl (hb hby at_17) rfl rfl ?_
    show Steps p.tables e below (T8.setTop (mkF m 18 #[.val (.int p1), .unset, .unset, .unset] [(.ref b2), (.ref b2)])) _
    refine XS.iconst X8.here hx rfl (hb hby at_18) ?_
    show Steps p.tables e below (T8.setTop (mkF m 19 #[.val (.int p1), .unset, .unset, .unset] [(.int (2 : Int32)), (.ref b2), (.ref b2)])) _
    refine st10 _ ?_
    show Steps p.tables e below (T10.setTop (mkF m 22 #[.val (.int p1), .unset, .unset, .unset] [(.ref w9), (.int (2 : Int32)), (.ref b2), (.ref b2)])) _
    refine st11 _ ?_
    show Steps p.tables e below (T11.setTop (mkF m 23 #[.val (.int p1), .unset, .unset, .unset] [(.ref b2)])) _
    refine XS.dup X11.here hx rfl (hb hby at_23) rfl rfl ?_
    show Steps p.tables e below (T11.setTop (mkF m 24 #[.val (.int p1), .unset, .unset, .unset] [(.ref b2), (.ref b2)])) _
    refine XS.iconst X11.here hx rfl (hb hby at_24) ?_
    show Steps p.tables e below (T11.setTop (mkF m 25 #[.val (.int p1), .unset, .unset, .unset] [(.int (3 : Int32)), (.ref b2), (.ref b2)])) _
    refine st13 _ ?_
    show Steps p.tables e below (T13.setTop (mkF m 28 #[.val (.int p1), .unset, .unset, .unset] [(.ref w12), (.int (3 : Int32)), (.ref b2), (.ref b2)])) _
    refine st14 _ ?_
    show Steps p.tables e below (T14.setTop (mkF m 29 #[.val (.int p1), .unset, .unset, .unset] [(.ref b2)])) _
    refine XS.dup X14.here hx rfl (hb hby at_29) rfl rfl ?_
    show Steps p.tables e below (T14.setTop (mkF m 30 #[.val (.int p1), .unset, .unset, .unset] [(.ref b2), (.ref b2)])) _
    refine XS.iconst X14.here hx rfl (hb hby at_30) ?_
    show Steps p.tables e below (T14.setTop (mkF m 31 #[.val (.int p1), .unset, .unset, .unset] [(.int (4 : Int32)), (.ref b2), (.ref b2)])) _
    refine st16 _ ?_
    show Steps p.tables e below (T16.setTop (mkF m 34 #[.val (.int p1), .unset, .unset, .unset] [(.ref w15), (.int (4 : Int32)), (.ref b2), (.ref b2)])) _
    refine st17 _ ?_
    show Steps p.tables e below (T17.setTop (mkF m 35 #[.val (.int p1), .unset, .unset, .unset] [(.ref b2)])) _
    refine XS.dup X17.here hx rfl (hb hby at_35) rfl rfl ?_
    show Steps p.tables e below (T17.setTop (mkF m 36 #[.val (.int p1), .unset, .unset, .unset] [(.ref b2), (.ref b2)])) _
    refine XS.iconst X17.here hx rfl (hb hby at_36) ?_
    show Steps p.tables e below (T17.setTop (mkF m 37 #[.val (.int p1), .unset, .unset, .unset] [(.int (5 : Int32)), (.ref b2), (.ref b2)])) _
    refine st19 _ ?_
    show Steps p.tables e below (T19.setTop (mkF m 40 #[.val (.int p1), .unset, .unset, .unset] [(.ref w18), (.int (5 : Int32)), (.ref b2), (.ref b2)])) _
    refine st20 _ ?_
    show Steps p.tables e below (T20.setTop (mkF m 41 #[.val (.int p1), .unset, .unset, .unset] [(.ref b2)])) _
    refine XS.dup X20.here hx rfl (hb hby at_41) rfl rfl ?_
    show Steps p.tables e below (T20.setTop (mkF m 42 #[.val (.int p1), .unset, .unset, .unset] [(.ref b2), (.ref b2)])) _
    refine XS.bipush X20.here hx rfl (hb hby at_42) ?_
    show Steps p.tables e below (T20.setTop (mkF m 44 #[.val (.int p1), .unset, .unset, .unset] [(.int (6 : Int32)), (.ref b2), (.ref b2)])) _
    refine st22 _ ?_
    show Steps p.tables e below (T22.setTop (mkF m 47 #[.val (.int p1), .unset, .unset, .unset] [(.ref w21), (.int (6 : Int32)), (.ref b2), (.ref b2)])) _
    refine st23 _ ?_
    show Steps p.tables e below (T23.setTop (mkF m 48 #[.val (.int p1), .unset, .unset, .unset] [(.ref b2)])) _
    refine XS.dup X23.here hx rfl (hb hby at_48) rfl rfl ?_
    show Steps p.tables e below (T23.setTop (mkF m 49 #[.val (.int p1), .unset, .unset, .unset] [(.ref b2), (.ref b2)])) _
    refine XS.bipush X23.here hx rfl (hb hby at_49) ?_
    show Steps p.tables e below (T23.setTop (mkF m 51 #[.val (.int p1), .unset, .unset, .unset] [(.int (7 : Int32)), (.ref b2), (.ref b2)])) _
    refine st25 _ ?_
    show Steps p.tables e below (T25.setTop (mkF m 54 #[.val (.int p1), .unset, .unset, .unset] [(.ref w24), (.int (7 : Int32)), (.ref b2), (.ref b2)])) _
    refine st26 _ ?_
    show Steps p.tables e below (T26.setTop (mkF m 55 #[.val (.int p1), .unset, .unset, .unset] [(.ref b2)])) _
    refine XS.dup X26.here hx rfl (hb hby at_55) rfl rfl ?_
    show Steps p.tables e below (T26.setTop (mkF m 56 #[.val (.int p1), .unset, .unset, .unset] [(.ref b2), (.ref b2)])) _
    refine XS.bipush X26.here hx rfl (hb hby at_56) ?_
    show Steps p.tables e below (T26.setTop (mkF m 58 #[.val (.int p1), .unset, .unset, .unset] [(.int (8 : Int32)), (.ref b2), (.ref b2)])) _
    refine st28 _ ?_
    show Steps p.tables e below (T28.setTop (mkF m 61 #[.val (.int p1), .unset, .unset, .unset] [(.ref w27), (.int (8 : Int32)), (.ref b2), (.ref b2)])) _
    refine st29 _ ?_
    show Steps p.tables e below (T29.setTop (mkF m 62 #[.val (.int p1), .unset, .unset, .unset] [(.ref b2)])) _
    refine XS.dup X29.here hx rfl (hb hby at_62) rfl rfl ?_
    show Steps p.tables e below (T29.setTop (mkF m 63 #[.val (.int p1), .unset, .unset, .unset] [(.ref b2), (.ref b2)])) _
    refine XS.bipush X29.here hx rfl (hb hby at_63) ?_
    show Steps p.tables e below (T29.setTop (mkF m 65 #[.val (.int p1), .unset, .unset, .unset] [(.int (9 : Int32)), (.ref b2), (.ref b2)])) _
    refine st31 _ ?_
    show Steps p.tables e below (T31.setTop (mkF m 68 #[.val (.int p1), .unset, .unset, .unset] [(.ref w30), (.int (9 : Int32)), (.ref b2), (.ref b2)])) _
    refine st32 _ ?_
    show Steps p.tables e below (T32.setTop (mkF m 69 #[.val (.int p1), .unset, .unset, .unset] [(.ref b2)])) _
    refine XS.dup X32.here hx rfl (hb hby at_69) rfl rfl ?_
    show Steps p.tables e below (T32.setTop (mkF m 70 #[.val (.int p1), .unset, .unset, .unset] [(.ref b2), (.ref b2)])) _
    refine XS.bipush X32.here hx rfl (hb hby at_70) ?_
    show Steps p.tables e below (T32.setTop (mkF m 72 #[.val (.int p1), .unset, .unset, .unset] [(.int (10 : Int32)), (.ref b2), (.ref b2)])) _
    refine st34 _ ?_
    show Steps p.tables e below (T34.setTop (mkF m 75 #[.val (.int p1), .unset, .unset, .unset] [(.ref w33), (.int (10 : Int32)), (.ref b2), (.ref b2)])) _
    refine st35 _ ?_
    show Steps p.tables e below (T35.setTop (mkF m 76 #[.val (.int p1), .unset, .unset, .unset] [(.ref b2)])) _
    refine XS.dup X35.here hx rfl (hb hby at_76) rfl rfl ?_
    show Steps p.tables e below (T35.setTop (mkF m 77 #[.val (.int p1), .unset, .unset, .unset] [(.ref b2), (.ref b2)])) _
    refine XS.bipush X35.here hx rfl (hb hby at_77) ?_
    show Steps p.tables e below (T35.setTop (mkF m 79 #[.val (.int p1), .unset, .unset, .unset] [(.int (11 : Int32)), (.ref b2), (.ref b2)])) _
    refine st37 _ ?_
    show Steps p.tables e below (T37.setTop (mkF m 82 #[.val (.int p1), .unset, .unset, .unset] [(.ref w36), (.int (11 : Int32)), (.ref b2), (.ref b2)])) _
    refine st38 _ ?_
    show Steps p.tables e below (T38.setTop (mkF m 83 #[.val (.int p1), .unset, .unset, .unset] [(.ref b2)])) _
    refine XS.dup X38.here hx rfl (hb hby at_83) rfl rfl ?_
    show Steps p.tables e below (T38.setTop (mkF m 84 #[.val (.int p1), .unset, .unset, .unset] [(.ref b2), (.ref b2)])) _
    refine XS.bipush X38.here hx rfl (hb hby at_84) ?_
    show Steps p.tables e below (T38.setTop (mkF m 86 #[.val (.int p1), .unset, .unset, .unset] [(.int (12 : Int32)), (.ref b2), (.ref b2)])) _
    refine st40 _ ?_
    show Steps p.tables e below (T40.setTop (mkF m 89 #[.val (.int p1), .unset, .unset, .unset] [(.ref w39), (.int (12 : Int32)), (.ref b2), (.ref b2)])) _
    refine st41 _ ?_
    show Steps p.tables e below (T41.setTop (mkF m 90 #[.val (.int p1), .unset, .unset, .unset] [(.ref b2)])) _
    refine XS.dup X41.here hx rfl (hb hby at_90) rfl rfl ?_
    show Steps p.tables e below (T41.setTop (mkF m 91 #[.val (.int p1), .unset, .unset, .unset] [(.ref b2), (.ref b2)])) _
    refine XS.bipush X41.here hx rfl (hb hby at_91) ?_
    show Steps p.tables e below (T41.setTop (mkF m 93 #[.val (.int p1), .unset, .unset, .unset] [(.int (13 : Int32)), (.ref b2), (.ref b2)])) _
    refine st43 _ ?_
    show Steps p.tables e below (T43.setTop (mkF m 96 #[.val (.int p1), .unset, .unset, .unset] [(.ref w42), (.int (13 : Int32)), (.ref b2), (.ref b2)])) _
    refine st44 _ ?_
    show Steps p.tables e below (T44.setTop (mkF m 97 #[.val (.int p1), .unset, .unset, .unset] [(.ref b2)])) _
    refine XS.dup X44.here hx rfl (hb hby at_97) rfl rfl ?_
    show Steps p.tables e below (T44.setTop (mkF m 98 #[.val (.int p1), .unset, .unset, .unset] [(.ref b2), (.ref b2)])) _
    refine XS.bipush X44.here hx rfl (hb hby at_98) ?_
    show Steps p.tables e below (T44.setTop (mkF m 100 #[.val (.int p1), .unset, .unset, .unset] [(.int (14 : Int32)), (.ref b2), (.ref b2)])) _
    refine st46 _ ?_
    show Steps p.tables e below (T46.setTop (mkF m 103 #[.val (.int p1), .unset, .unset, .unset] [(.ref w45), (.int (14 : Int32)), (.ref b2), (.ref b2)])) _
    refine st47 _ ?_
    show Steps p.tables e below (T47.setTop (mkF m 104 #[.val (.int p1), .unset, .unset, .unset] [(.ref b2)])) _
    refine XS.dup X47.here hx rfl (hb hby at_104) rfl rfl ?_
    show Steps p.tables e below (T47.setTop (mkF m 105 #[.val (.int p1), .unset, .unset, .unset] [(.ref b2), (.ref b2)])) _
    refine XS.bipush X47.here hx rfl (hb hby at_105) ?_
    show Steps p.tables e below (T47.setTop (mkF m 107 #[.val (.int p1), .unset, .unset, .unset] [(.int (15 : Int32)), (.ref b2), (.ref b2)])) _
    refine st49 _ ?_
    show Steps p.tables e below (T49.setTop (mkF m 110 #[.val (.int p1), .unset, .unset, .unset] [(.ref w48), (.int (15 : Int32)), (.ref b2), (.ref b2)])) _
    refine st50 _ ?_
    show Steps p.tables e below (T50.setTop (mkF m 111 #[.val (.int p1), .unset, .unset, .unset] [(.ref b2)])) _
    refine XS.dup X50.here hx rfl (hb hby at_111) rfl rfl ?_
    show Steps p.tables e below (T50.setTop (mkF m 112 #[.val (.int p1), .unset, .unset, .unset] [(.ref b2), (.ref b2)])) _
    refine XS.bipush X50.here hx rfl (hb hby at_112) ?_
    show Steps p.tables e below (T50.setTop (mkF m 114 #[.val (.int p1), .unset, .unset, .unset] [(.int (16 : Int32)), (.ref b2), (.ref b2)])) _
    refine st52 _ ?_
    show Steps p.tables e below (T52.setTop (mkF m 117 #[.val (.int p1), .unset, .unset, .unset] [(.ref w51), (.int (16 : Int32)), (.ref b2), (.ref b2)])) _
    refine st53 _ ?_
    show Steps p.tables e below (T53.setTop (mkF m 118 #[.val (.int p1), .unset, .unset, .unset] [(.ref b2)])) _
    refine XS.dup X53.here hx rfl (hb hby at_118) rfl rfl ?_
    show Steps p.tables e below (T53.setTop (mkF m 119 #[.val (.int p1), .unset, .unset, .unset] [(.ref b2), (.ref b2)])) _
    refine XS.bipush X53.here hx rfl (hb hby at_119) ?_
    show Steps p.tables e below (T53.setTop (mkF m 121 #[.val (.int p1), .unset, .unset, .unset] [(.int (17 : Int32)), (.ref b2), (.ref b2)])) _
    refine st55 _ ?_
    show Steps p.tables e below (T55.setTop (mkF m 124 #[.val (.int p1), .unset, .unset, .unset] [(.ref w54), (.int (17 : Int32)), (.ref b2), (.ref b2)])) _
    refine st56 _ ?_
    show Steps p.tables e below (T56.setTop (mkF m 125 #[.val (.int p1), .unset, .unset, .unset] [(.ref b2)])) _
    refine XS.dup X56.here hx rfl (hb hby at_125) rfl rfl ?_
    show Steps p.tables e below (T56.setTop (mkF m 126 #[.val (.int p1), .unset, .unset, .unset] [(.ref b2), (.ref b2)])) _
    refine XS.bipush X56.here hx rfl (hb hby at_126) ?_
    show Steps p.tables e below (T56.setTop (mkF m 128 #[.val (.int p1), .unset, .unset, .unset] [(.int (18 : Int32)), (.ref b2), (.ref b2)])) _
    refine st58 _ ?_
    show Steps p.tables e below (T58.setTop (mkF m 131 #[.val (.int p1), .unset, .unset, .unset] [(.ref w57), (.int (18 : Int32)), (.ref b2), (.ref b2)])) _
    refine st59 _ ?_
    show Steps p.tables e below (T59.setTop (mkF m 132 #[.val (.int p1), .unset, .unset, .unset] [(.ref b2)])) _
    refine XS.astoreN X59.here hx rfl (hb hby at_132) rfl rfl (l' := #[.val (.int p1), .val (.ref b2), .unset, .unset]) rfl ?_
    show Steps p.tables e below (T59.setTop (mkF m 133 #[.val (.int p1), .val (.ref b2), .unset, .unset] [])) _
    refine XS.iloadN X59.here hx rfl (hb hby at_133) rfl ?_
    show Steps p.tables e below (T59.setTop (mkF m 134 #[.val (.int p1), .val (.ref b2), .unset, .unset] [(.int p1)])) _
    refine X59.ldcInt hx hown (mvT hZ (hw _ (List.mem_of_getElem? (i := 42) rfl))) (g := (mkF m 134 #[.val (.int p1), .val (.ref b2), .unset, .unset] [(.int p1)])) rfl (hb hby at_134) _ ?_
    show Steps p.tables e below (T59.setTop (mkF m 136 #[.val (.int p1), .val (.ref b2), .unset, .unset] [(.int (2147483647 : Int32)), (.int p1)])) _
    refine XS.iand X59.here hx rfl (hb hby at_136) rfl ?_
    show Steps p.tables e below (T59.setTop (mkF m 137 #[.val (.int p1), .val (.ref b2), .unset, .unset] [(.int (p1 &&& (2147483647 : Int32)))])) _
    refine XS.bipush X59.here hx rfl (hb hby at_137) ?_
    show Steps p.tables e below (T59.setTop (mkF m 139 #[.val (.int p1), .val (.ref b2), .unset, .unset] [(.int (19 : Int32)), (.int (p1 &&& (2147483647 : Int32)))])) _
    refine iremM X59 hx rfl (hb hby at_139) rfl (by decide) ?_
    show Steps p.tables e below (T59.setTop (mkF m 140 #[.val (.int p1), .val (.ref b2), .unset, .unset] [(.int ((p1 &&& (2147483647 : Int32)) % (19 : Int32)))])) _
    refine XS.istoreN X59.here hx rfl (hb hby at_140) rfl (l' := #[.val (.int p1), .val (.ref b2), .val (.int ((p1 &&& (2147483647 : Int32)) % (19 : Int32))), .unset]) rfl ?_
    show Steps p.tables e below (T59.setTop (mkF m 141 #[.val (.int p1), .val (.ref b2), .val (.int ((p1 &&& (2147483647 : Int32)) % (19 : Int32))), .unset] [])) _
    refine XS.iloadN X59.here hx rfl (hb hby at_141) rfl ?_
    show Steps p.tables e below (T59.setTop (mkF m 142 #[.val (.int p1), .val (.ref b2), .val (.int ((p1 &&& (2147483647 : Int32)) % (19 : Int32))), .unset] [(.int ((p1 &&& (2147483647 : Int32)) % (19 : Int32)))])) _
    refine XS.ifYes X59.here hx rfl (pc0 := 142) (pc' := 155) rfl (hb hby at_142) rfl ((if0 _ _).trans (teq hc142).1) (by decide) (by decide) ?_
    show Steps p.tables e below (T59.setTop (mkF m 155 #[.val (.int p1), .val (.ref b2), .val (.int ((p1 &&& (2147483647 : Int32)) % (19 : Int32))), .unset] [])) _
    refine XS.iconst X59.here hx rfl (hb hby at_155) ?_
    show Steps p.tables e below (T59.setTop (mkF m 156 #[.val (.int p1), .val (.ref b2), .val (.int ((p1 &&& (2147483647 : Int32)) % (19 : Int32))), .unset] [(.int (1 : Int32))])) _
    refine XS.goto X59.here hx rfl (pc0 := 156) (pc' := 160) rfl (hb hby at_156) (by decide) (by decide) ?_
    show Steps p.tables e below (T59.setTop (mkF m 160 #[.val (.int p1), .val (.ref b2), .val (.int ((p1 &&& (2147483647 : Int32)) % (19 : Int32))), .unset] [(.int (1 : Int32))])) _
    refine XS.istoreN X59.here hx rfl (hb hby at_160) rfl (l' := #[.val (.int p1), .val (.ref b2), .val (.int ((p1 &&& (2147483647 : Int32)) % (19 : Int32))), .val (.int (1 : Int32))]) rfl ?_
    show Steps p.tables e below (T59.setTop (mkF m 161 #[.val (.int p1), .val (.ref b2), .val (.int ((p1 &&& (2147483647 : Int32)) % (19 : Int32))), .val (.int (1 : Int32))] [])) _
    refine XS.aloadN X59.here hx rfl (hb hby at_161) rfl rfl ?_
    show Steps p.tables e below (T59.setTop (mkF m 162 #[.val (.int p1), .val (.ref b2), .val (.int ((p1 &&& (2147483647 : Int32)) % (19 : Int32))), .val (.int (1 : Int32))] [(.ref b2)])) _
    refine XS.iloadN X59.here hx rfl (hb hby at_162) rfl ?_
    show Steps p.tables e below (T59.setTop (mkF m 163 #[.val (.int p1), .val (.ref b2), .val (.int ((p1 &&& (2147483647 : Int32)) % (19 : Int32))), .val (.int (1 : Int32))] [(.int ((p1 &&& (2147483647 : Int32)) % (19 : Int32))), (.ref b2)])) _
    refine X59.aaload hx (j := ((p1 &&& (2147483647 : Int32)) % (19 : Int32))) (v := (.ref w60)) (by rw [e59]; exact Ar_b2.1) (State.isArrayOf_alike hZ.alike Ar_b2.2.1) rfl Ar_b2.2.2 hin163 hat163 (g := (mkF m 163 #[.val (.int p1), .val (.ref b2), .val (.int ((p1 &&& (2147483647 : Int32)) % (19 : Int32))), .val (.int (1 : Int32))] [(.int ((p1 &&& (2147483647 : Int32)) % (19 : Int32))), (.ref b2)])) rfl rfl (hb hby at_163) _ ?_
    show Steps p.tables e below (T59.setTop (mkF m 164 #[.val (.int p1), .val (.ref b2), .val (.int ((p1 &&& (2147483647 : Int32)) % (19 : Int32))), .val (.int (1 : Int32))] [(.ref w60)])) _
    refine st61.trans ?_
    show Steps p.tables e below (T61.setTop (mkF m 167 #[.val (.int p1), .val (.ref b2), .val (.int ((p1 &&& (2147483647 : Int32)) % (19 : Int32))), .val (.int (1 : Int32))] [(.int (1 : Int32))])) _
    refine XS.iloadN X61.here hx rfl (hb hby at_167) rfl ?_
    show Steps p.tables e below (T61.setTop (mkF m 168 #[.val (.int p1), .val (.ref b2), .val (.int ((p1 &&& (2147483647 : Int32)) % (19 : Int32))), .val (.int (1 : Int32))] [(.int (1 : Int32)), (.int (1 : Int32))])) _
    refine XS.icmpNo X61.here hx rfl (hb hby at_168) rfl (teq (rfl : (1 : Int32) = (1 : Int32))).2 ?_
    show Steps p.tables e below (T61.setTop (mkF m 171 #[.val (.int p1), .val (.ref b2), .val (.int ((p1 &&& (2147483647 : Int32)) % (19 : Int32))), .val (.int (1 : Int32))] [])) _
    refine XS.iconst X61.here hx rfl (hb hby at_171) ?_
    show Steps p.tables e below (T61.setTop (mkF m 172 #[.val (.int p1), .val (.ref b2), .val (.int ((p1 &&& (2147483647 : Int32)) % (19 : Int32))), .val (.int (1 : Int32))] [(.int (1 : Int32))])) _
    refine XS.goto X61.here hx rfl (pc0 := 172) (pc' := 176) rfl (hb hby at_172) (by decide) (by decide) ?_
    show Steps p.tables e below (T61.setTop (mkF m 176 #[.val (.int p1), .val (.ref b2), .val (.int ((p1 &&& (2147483647 : Int32)) % (19 : Int32))), .val (.int (1 : Int32))] [(.int (1 : Int32))])) _
    exact retN X61 hx (t := .boolean) Bd.returns (by simp) (hb hby at_176) hr
  · show Q0 Z p1 w3 w6 w9 w12 w15 w18 w21 w24 w27 w30 w33 w36 w39 w42 w45 w48 w51 w54 w57 w60 h0 n0 _ T61.heap _
    exact ⟨rfl, N61⟩
set_option maxRecDepth 65536 in
set_option maxHeartbeats 40000000 in
theorem rm0_ftf (l : Launch) (Z : State) (a0 : Array Value) (hw : ∀ d ∈ tables_1, d.before a0 Z = true) (ws : List Jvm.Cond) (p1 : Int32) (w3 : Addr) (w6 : Addr) (w9 : Addr) (w12 : Addr) (w15 : Addr) (w18 : Addr) (w21 : Addr) (w24 : Addr) (w27 : Addr) (w30 : Addr) (w33 : Addr) (w36 : Addr) (w39 : Addr) (w42 : Addr) (w45 : Addr) (w48 : Addr) (w51 : Addr) (w54 : Addr) (w57 : Addr) (w60 : Addr) (h0 : Heap) (n0 : Nat) (Z0 : n0 ≤ h0.size) (nq0 : ¬ (w60 = w3)) (nq1 : w60 = w9) (S_SYMBOL : Sta Z h0 "com/example/nuthatch/nuthatch/formula/Kind" "SYMBOL" "Lcom/example/nuthatch/nuthatch/formula/Kind;" (.ref w3)) (E_w3 : Exa Z h0 w3 "com/example/nuthatch/nuthatch/formula/Kind") (S_ROW : Sta Z h0 "com/example/nuthatch/nuthatch/formula/Kind" "ROW" "Lcom/example/nuthatch/nuthatch/formula/Kind;" (.ref w6)) (E_w6 : Exa Z h0 w6 "com/example/nuthatch/nuthatch/formula/Kind") (S_INFIX : Sta Z h0 "com/example/nuthatch/nuthatch/formula/Kind" "INFIX" "Lcom/example/nuthatch/nuthatch/formula/Kind;" (.ref w9)) (E_w9 : Exa Z h0 w9 "com/example/nuthatch/nuthatch/formula/Kind") (S_PREFIX : Sta Z h0 "com/example/nuthatch/nuthatch/formula/Kind" "PREFIX" "Lcom/example/nuthatch/nuthatch/formula/Kind;" (.ref w12)) (E_w12 : Exa Z h0 w12 "com/example/nuthatch/nuthatch/formula/Kind") (S_JUXTAPOSITION : Sta Z h0 "com/example/nuthatch/nuthatch/formula/Kind" "JUXTAPOSITION" "Lcom/example/nuthatch/nuthatch/formula/Kind;" (.ref w15)) (E_w15 : Exa Z h0 w15 "com/example/nuthatch/nuthatch/formula/Kind") (S_SUPERSCRIPT : Sta Z h0 "com/example/nuthatch/nuthatch/formula/Kind" "SUPERSCRIPT" "Lcom/example/nuthatch/nuthatch/formula/Kind;" (.ref w18)) (E_w18 : Exa Z h0 w18 "com/example/nuthatch/nuthatch/formula/Kind") (S_SUBSCRIPT : Sta Z h0 "com/example/nuthatch/nuthatch/formula/Kind" "SUBSCRIPT" "Lcom/example/nuthatch/nuthatch/formula/Kind;" (.ref w21)) (E_w21 : Exa Z h0 w21 "com/example/nuthatch/nuthatch/formula/Kind") (S_SUBSCRIPT_SUPERSCRIPT : Sta Z h0 "com/example/nuthatch/nuthatch/formula/Kind" "SUBSCRIPT_SUPERSCRIPT" "Lcom/example/nuthatch/nuthatch/formula/Kind;" (.ref w24)) (E_w24 : Exa Z h0 w24 "com/example/nuthatch/nuthatch/formula/Kind") (S_FRACTION : Sta Z h0 "com/example/nuthatch/nuthatch/formula/Kind" "FRACTION" "Lcom/example/nuthatch/nuthatch/formula/Kind;" (.ref w27)) (E_w27 : Exa Z h0 w27 "com/example/nuthatch/nuthatch/formula/Kind") (S_ATOP : Sta Z h0 "com/example/nuthatch/nuthatch/formula/Kind" "ATOP" "Lcom/example/nuthatch/nuthatch/formula/Kind;" (.ref w30)) (E_w30 : Exa Z h0 w30 "com/example/nuthatch/nuthatch/formula/Kind") (S_ROOT : Sta Z h0 "com/example/nuthatch/nuthatch/formula/Kind" "ROOT" "Lcom/example/nuthatch/nuthatch/formula/Kind;" (.ref w33)) (E_w33 : Exa Z h0 w33 "com/example/nuthatch/nuthatch/formula/Kind") (S_INDEXED_ROOT : Sta Z h0 "com/example/nuthatch/nuthatch/formula/Kind" "INDEXED_ROOT" "Lcom/example/nuthatch/nuthatch/formula/Kind;" (.ref w36)) (E_w36 : Exa Z h0 w36 "com/example/nuthatch/nuthatch/formula/Kind") (S_FENCE : Sta Z h0 "com/example/nuthatch/nuthatch/formula/Kind" "FENCE" "Lcom/example/nuthatch/nuthatch/formula/Kind;" (.ref w39)) (E_w39 : Exa Z h0 w39 "com/example/nuthatch/nuthatch/formula/Kind") (S_ACCENT : Sta Z h0 "com/example/nuthatch/nuthatch/formula/Kind" "ACCENT" "Lcom/example/nuthatch/nuthatch/formula/Kind;" (.ref w42)) (E_w42 : Exa Z h0 w42 "com/example/nuthatch/nuthatch/formula/Kind") (S_OVER : Sta Z h0 "com/example/nuthatch/nuthatch/formula/Kind" "OVER" "Lcom/example/nuthatch/nuthatch/formula/Kind;" (.ref w45)) (E_w45 : Exa Z h0 w45 "com/example/nuthatch/nuthatch/formula/Kind") (S_UNDER : Sta Z h0 "com/example/nuthatch/nuthatch/formula/Kind" "UNDER" "Lcom/example/nuthatch/nuthatch/formula/Kind;" (.ref w48)) (E_w48 : Exa Z h0 w48 "com/example/nuthatch/nuthatch/formula/Kind") (S_UNDER_OVER : Sta Z h0 "com/example/nuthatch/nuthatch/formula/Kind" "UNDER_OVER" "Lcom/example/nuthatch/nuthatch/formula/Kind;" (.ref w51)) (E_w51 : Exa Z h0 w51 "com/example/nuthatch/nuthatch/formula/Kind") (S_TABLE : Sta Z h0 "com/example/nuthatch/nuthatch/formula/Kind" "TABLE" "Lcom/example/nuthatch/nuthatch/formula/Kind;" (.ref w54)) (E_w54 : Exa Z h0 w54 "com/example/nuthatch/nuthatch/formula/Kind") (S_TABLE_ROW : Sta Z h0 "com/example/nuthatch/nuthatch/formula/Kind" "TABLE_ROW" "Lcom/example/nuthatch/nuthatch/formula/Kind;" (.ref w57)) (E_w57 : Exa Z h0 w57 "com/example/nuthatch/nuthatch/formula/Kind") (E_w60 : Exa Z h0 w60 "com/example/nuthatch/nuthatch/formula/Kind") (hc142 : ¬ (((p1 &&& (2147483647 : Int32)) % (19 : Int32)) = (0 : Int32))) (hc147 : ((p1 &&& (2147483647 : Int32)) % (19 : Int32)) = (2 : Int32)) (hn163 : ¬ (((p1 &&& (2147483647 : Int32)) % (19 : Int32)) < 0)) (hl163 : ((p1 &&& (2147483647 : Int32)) % (19 : Int32)) < (19 : Int32)) (hv163 : ([(.ref w3), (.ref w6), (.ref w9), (.ref w12), (.ref w15), (.ref w18), (.ref w21), (.ref w24), (.ref w27), (.ref w30), (.ref w33), (.ref w36), (.ref w39), (.ref w42), (.ref w45), (.ref w48), (.ref w51), (.ref w54), (.ref w57)] : List Value).getD (((p1 &&& (2147483647 : Int32)) % (19 : Int32))).toNatClampNeg .null = (.ref w60)) :
    MetFree l x (head1 (Jvm.Cond.code x code maxLocals ret :: ws) room_1) (fun a U => a = #[(.int p1)] ∧ Z.Warmed39 U.vm ∧ U.heap = h0) (fun _ _ _ _ _ => True) (fun _ U o U' => ∃ v L, o = .returned v ∧ Q0 Z p1 w3 w6 w9 w12 w15 w18 w21 w24 w27 w30 w33 w36 w39 w42 w45 w48 w51 w54 w57 w60 h0 n0 v U'.heap L ∧ FrameEnd U o U' L room_1.cells room_1.slots) := by
  refine MetFree.of_bodySF (plainFor_of_name pn_0) hisR ?_
  intro p e s m args below meth c s₁ Bd hml0 hP hK
  obtain ⟨rfl, hZ, hh⟩ := hP
  have hx := Bd.exec
  have hby := Bd.bytes
  have hml : c.maxLocals = 4 := hml0
  have hown : s.vm.findClass "com/example/nuthatch/nuthatch/formula/KindHasSymbolPinLaw" = some m.cls := findClass_of_methodNamed Bd.named
  have hnm := (name_of_methodNamed Bd.named Bd.method).1
  have X0 : Stand p l e room_1 s m #[(.int p1)] below meth c s₁ [] 0 0 := Stand.of_body Bd
  have e0 : s₁.heap = h0 := by rw [← hh, Bd.state]; rfl
  have N0 := Fr.nil n0
  have pre0 : ∀ t, Steps p.tables e below (s₁.setTop (mkF m 0 #[.val (.int p1), .unset, .unset, .unset] [])) t → Steps p.tables e below (s₁.setTop (entryFrame m #[(.int p1)] maxLocals)) t := fun t k => castTop (ef_0 m p1) k
  obtain ⟨T2, h2, k2, X2, e2, E2, A2, O2, st2⟩ := newR X0 hx hZ hown (hw _ (List.mem_of_getElem? (i := 0) rfl)) (hw _ (List.mem_of_getElem? (i := 1) rfl)) e0 (g := (mkF m 2 #[.val (.int p1), .unset, .unset, .unset] [(.int (19 : Int32))])) rfl (hb hby at_2) rfl (by decide) (cap := 19) (by decide) (by decide) (by decide) (by decide)
  obtain ⟨b2, g2⟩ : ∃ z, z = h0.size := ⟨_, rfl⟩
  rw [← g2] at A2 st2
  have V_b2 : Arv Z h2 b2 k2 (.object "com/example/nuthatch/nuthatch/formula/Kind") (19 : Int32) [.null, .null, .null, .null, .null, .null, .null, .null, .null, .null, .null, .null, .null, .null, .null, .null, .null, .null, .null] .null := (Arv.new A2 (by decide)).pad (pad_rep [] .null 19)
  have g_b2 : n0 ≤ b2 := Nat.le_trans Z0 (Nat.le_of_eq g2.symm)
  have sz_b2 : h0.size ≤ b2 := (Nat.le_trans (Keep.refl h0 []).1 (Nat.le_of_eq g2.symm))
  have K2 : Keep h0 h2 [] := (Keep.refl h0 []).ext E2
  obtain ⟨T4, X4, e4, st4⟩ := getS2 X2 hx hZ hown (host := "") (Or.inl (hw _ (List.mem_of_getElem? (i := 2) rfl))) Via.refl e2 (own_stk S_SYMBOL K2) (g := (mkF m 7 #[.val (.int p1), .unset, .unset, .unset] [(.int (0 : Int32)), (.ref b2), (.ref b2)])) rfl (hb hby at_7)
  obtain ⟨cl_b2_10, Ar_b2, q_b2, S_b2, N_b2, H_b2, G_b2⟩ := V_b2
  have hin10 : ¬ ((0 : Int32) < 0 ∨ cl_b2_10.slots.size ≤ ((0 : Int32)).toNatClampNeg) := inb_of S_b2 ⟨by decide, by decide⟩
  obtain ⟨T5, h5, X5, e5, W5, st5⟩ := stR X4 hx hZ e4 Ar_b2 (j := (0 : Int32)) hin10 rfl (Sto.ofV Ar_b2 q_b2 O2 (Ins.self (E_w3.keep K2))) (g := (mkF m 10 #[.val (.int p1), .unset, .unset, .unset] [(.ref w3), (.int (0 : Int32)), (.ref b2), (.ref b2)])) rfl rfl (hb hby at_10)
  have V_b2_5 : Arv Z h5 b2 k2 (.object "com/example/nuthatch/nuthatch/formula/Kind") (19 : Int32) [(.ref w3), .null, .null, .null, .null, .null, .null, .null, .null, .null, .null, .null, .null, .null, .null, .null, .null, .null, .null] .null := Arv.set Ar_b2 q_b2 S_b2 N_b2 H_b2 G_b2 rfl W5 0 rfl (Nat.le_of_ble_eq_true rfl)
  have N5 := Fr.snoc X5 N0 g_b2
  have K5 : Keep h0 h5 [] := K2.wr W5 (Or.inr sz_b2)
  obtain ⟨T7, X7, e7, st7⟩ := getS2 X5 hx hZ hown (host := "") (Or.inl (hw _ (List.mem_of_getElem? (i := 6) rfl))) Via.refl e5 (own_stk S_ROW K5) (g := (mkF m 13 #[.val (.int p1), .unset, .unset, .unset] [(.int (1 : Int32)), (.ref b2), (.ref b2)])) rfl (hb hby at_13)
  obtain ⟨cl_b2_16, Ar_b2, q_b2, S_b2, N_b2, H_b2, G_b2⟩ := V_b2_5
  have hin16 : ¬ ((1 : Int32) < 0 ∨ cl_b2_16.slots.size ≤ ((1 : Int32)).toNatClampNeg) := inb_of S_b2 ⟨by decide, by decide⟩
  obtain ⟨T8, h8, X8, e8, W8, st8⟩ := stR X7 hx hZ e7 Ar_b2 (j := (1 : Int32)) hin16 rfl (Sto.ofV Ar_b2 q_b2 O2 (Ins.self (E_w6.keep K5))) (g := (mkF m 16 #[.val (.int p1), .unset, .unset, .unset] [(.ref w6), (.int (1 : Int32)), (.ref b2), (.ref b2)])) rfl rfl (hb hby at_16)
  have V_b2_8 : Arv Z h8 b2 k2 (.object "com/example/nuthatch/nuthatch/formula/Kind") (19 : Int32) [(.ref w3), (.ref w6), .null, .null, .null, .null, .null, .null, .null, .null, .null, .null, .null, .null, .null, .null, .null, .null, .null] .null := Arv.set Ar_b2 q_b2 S_b2 N_b2 H_b2 G_b2 rfl W8 1 rfl (Nat.le_of_ble_eq_true rfl)
  have N8 := Fr.snoc X8 N5 g_b2
  have K8 : Keep h0 h8 [] := K5.wr W8 (Or.inr sz_b2)
  obtain ⟨T10, X10, e10, st10⟩ := getS2 X8 hx hZ hown (host := "") (Or.inl (hw _ (List.mem_of_getElem? (i := 8) rfl))) Via.refl e8 (own_stk S_INFIX K8) (g := (mkF m 19 #[.val (.int p1), .unset, .unset, .unset] [(.int (2 : Int32)), (.ref b2), (.ref b2)])) rfl (hb hby at_19)
  obtain ⟨cl_b2_22, Ar_b2, q_b2, S_b2, N_b2, H_b2, G_b2⟩ := V_b2_8
  have hin22 : ¬ ((2 : Int32) < 0 ∨ cl_b2_22.slots.size ≤ ((2 : Int32)).toNatClampNeg) := inb_of S_b2 ⟨by decide, by decide⟩
  obtain ⟨T11, h11, X11, e11, W11, st11⟩ := stR X10 hx hZ e10 Ar_b2 (j := (2 : Int32)) hin22 rfl (Sto.ofV Ar_b2 q_b2 O2 (Ins.self (E_w9.keep K8))) (g := (mkF m 22 #[.val (.int p1), .unset, .unset, .unset] [(.ref w9), (.int (2 : Int32)), (.ref b2), (.ref b2)])) rfl rfl (hb hby at_22)
  have V_b2_11 : Arv Z h11 b2 k2 (.object "com/example/nuthatch/nuthatch/formula/Kind") (19 : Int32) [(.ref w3), (.ref w6), (.ref w9), .null, .null, .null, .null, .null, .null, .null, .null, .null, .null, .null, .null, .null, .null, .null, .null] .null := Arv.set Ar_b2 q_b2 S_b2 N_b2 H_b2 G_b2 rfl W11 2 rfl (Nat.le_of_ble_eq_true rfl)
  have N11 := Fr.snoc X11 N8 g_b2
  have K11 : Keep h0 h11 [] := K8.wr W11 (Or.inr sz_b2)
  obtain ⟨T13, X13, e13, st13⟩ := getS2 X11 hx hZ hown (host := "") (Or.inl (hw _ (List.mem_of_getElem? (i := 10) rfl))) Via.refl e11 (own_stk S_PREFIX K11) (g := (mkF m 25 #[.val (.int p1), .unset, .unset, .unset] [(.int (3 : Int32)), (.ref b2), (.ref b2)])) rfl (hb hby at_25)
  obtain ⟨cl_b2_28, Ar_b2, q_b2, S_b2, N_b2, H_b2, G_b2⟩ := V_b2_11
  have hin28 : ¬ ((3 : Int32) < 0 ∨ cl_b2_28.slots.size ≤ ((3 : Int32)).toNatClampNeg) := inb_of S_b2 ⟨by decide, by decide⟩
  obtain ⟨T14, h14, X14, e14, W14, st14⟩ := stR X13 hx hZ e13 Ar_b2 (j := (3 : Int32)) hin28 rfl (Sto.ofV Ar_b2 q_b2 O2 (Ins.self (E_w12.keep K11))) (g := (mkF m 28 #[.val (.int p1), .unset, .unset, .unset] [(.ref w12), (.int (3 : Int32)), (.ref b2), (.ref b2)])) rfl rfl (hb hby at_28)
  have V_b2_14 : Arv Z h14 b2 k2 (.object "com/example/nuthatch/nuthatch/formula/Kind") (19 : Int32) [(.ref w3), (.ref w6), (.ref w9), (.ref w12), .null, .null, .null, .null, .null, .null, .null, .null, .null, .null, .null, .null, .null, .null, .null] .null := Arv.set Ar_b2 q_b2 S_b2 N_b2 H_b2 G_b2 rfl W14 3 rfl (Nat.le_of_ble_eq_true rfl)
  have N14 := Fr.snoc X14 N11 g_b2
  have K14 : Keep h0 h14 [] := K11.wr W14 (Or.inr sz_b2)
  obtain ⟨T16, X16, e16, st16⟩ := getS2 X14 hx hZ hown (host := "") (Or.inl (hw _ (List.mem_of_getElem? (i := 12) rfl))) Via.refl e14 (own_stk S_JUXTAPOSITION K14) (g := (mkF m 31 #[.val (.int p1), .unset, .unset, .unset] [(.int (4 : Int32)), (.ref b2), (.ref b2)])) rfl (hb hby at_31)
  obtain ⟨cl_b2_34, Ar_b2, q_b2, S_b2, N_b2, H_b2, G_b2⟩ := V_b2_14
  have hin34 : ¬ ((4 : Int32) < 0 ∨ cl_b2_34.slots.size ≤ ((4 : Int32)).toNatClampNeg) := inb_of S_b2 ⟨by decide, by decide⟩
  obtain ⟨T17, h17, X17, e17, W17, st17⟩ := stR X16 hx hZ e16 Ar_b2 (j := (4 : Int32)) hin34 rfl (Sto.ofV Ar_b2 q_b2 O2 (Ins.self (E_w15.keep K14))) (g := (mkF m 34 #[.val (.int p1), .unset, .unset, .unset] [(.ref w15), (.int (4 : Int32)), (.ref b2), (.ref b2)])) rfl rfl (hb hby at_34)
  have V_b2_17 : Arv Z h17 b2 k2 (.object "com/example/nuthatch/nuthatch/formula/Kind") (19 : Int32) [(.ref w3), (.ref w6), (.ref w9), (.ref w12), (.ref w15), .null, .null, .null, .null, .null, .null, .null, .null, .null, .null, .null, .null, .null, .null] .null := Arv.set Ar_b2 q_b2 S_b2 N_b2 H_b2 G_b2 rfl W17 4 rfl (Nat.le_of_ble_eq_true rfl)
  have N17 := Fr.snoc X17 N14 g_b2
  have K17 : Keep h0 h17 [] := K14.wr W17 (Or.inr sz_b2)
  obtain ⟨T19, X19, e19, st19⟩ := getS2 X17 hx hZ hown (host := "") (Or.inl (hw _ (List.mem_of_getElem? (i := 14) rfl))) Via.refl e17 (own_stk S_SUPERSCRIPT K17) (g := (mkF m 37 #[.val (.int p1), .unset, .unset, .unset] [(.int (5 : Int32)), (.ref b2), (.ref b2)])) rfl (hb hby at_37)
  obtain ⟨cl_b2_40, Ar_b2, q_b2, S_b2, N_b2, H_b2, G_b2⟩ := V_b2_17
  have hin40 : ¬ ((5 : Int32) < 0 ∨ cl_b2_40.slots.size ≤ ((5 : Int32)).toNatClampNeg) := inb_of S_b2 ⟨by decide, by decide⟩
  obtain ⟨T20, h20, X20, e20, W20, st20⟩ := stR X19 hx hZ e19 Ar_b2 (j := (5 : Int32)) hin40 rfl (Sto.ofV Ar_b2 q_b2 O2 (Ins.self (E_w18.keep K17))) (g := (mkF m 40 #[.val (.int p1), .unset, .unset, .unset] [(.ref w18), (.int (5 : Int32)), (.ref b2), (.ref b2)])) rfl rfl (hb hby at_40)
  have V_b2_20 : Arv Z h20 b2 k2 (.object "com/example/nuthatch/nuthatch/formula/Kind") (19 : Int32) [(.ref w3), (.ref w6), (.ref w9), (.ref w12), (.ref w15), (.ref w18), .null, .null, .null, .null, .null, .null, .null, .null, .null, .null, .null, .null, .null] .null := Arv.set Ar_b2 q_b2 S_b2 N_b2 H_b2 G_b2 rfl W20 5 rfl (Nat.le_of_ble_eq_true rfl)
  have N20 := Fr.snoc X20 N17 g_b2
  have K20 : Keep h0 h20 [] := K17.wr W20 (Or.inr sz_b2)
  obtain ⟨T22, X22, e22, st22⟩ := getS2 X20 hx hZ hown (host := "") (Or.inl (hw _ (List.mem_of_getElem? (i := 16) rfl))) Via.refl e20 (own_stk S_SUBSCRIPT K20) (g := (mkF m 44 #[.val (.int p1), .unset, .unset, .unset] [(.int (6 : Int32)), (.ref b2), (.ref b2)])) rfl (hb hby at_44)
  obtain ⟨cl_b2_47, Ar_b2, q_b2, S_b2, N_b2, H_b2, G_b2⟩ := V_b2_20
  have hin47 : ¬ ((6 : Int32) < 0 ∨ cl_b2_47.slots.size ≤ ((6 : Int32)).toNatClampNeg) := inb_of S_b2 ⟨by decide, by decide⟩
  obtain ⟨T23, h23, X23, e23, W23, st23⟩ := stR X22 hx hZ e22 Ar_b2 (j := (6 : Int32)) hin47 rfl (Sto.ofV Ar_b2 q_b2 O2 (Ins.self (E_w21.keep K20))) (g := (mkF m 47 #[.val (.int p1), .unset, .unset, .unset] [(.ref w21), (.int (6 : Int32)), (.ref b2), (.ref b2)])) rfl rfl (hb hby at_47)
  have V_b2_23 : Arv Z h23 b2 k2 (.object "com/example/nuthatch/nuthatch/formula/Kind") (19 : Int32) [(.ref w3), (.ref w6), (.ref w9), (.ref w12), (.ref w15), (.ref w18), (.ref w21), .null, .null, .null, .null, .null, .null, .null, .null, .null, .null, .null, .null] .null := Arv.set Ar_b2 q_b2 S_b2 N_b2 H_b2 G_b2 rfl W23 6 rfl (Nat.le_of_ble_eq_true rfl)
  have N23 := Fr.snoc X23 N20 g_b2
  have K23 : Keep h0 h23 [] := K20.wr W23 (Or.inr sz_b2)
  obtain ⟨T25, X25, e25, st25⟩ := getS2 X23 hx hZ hown (host := "") (Or.inl (hw _ (List.mem_of_getElem? (i := 18) rfl))) Via.refl e23 (own_stk S_SUBSCRIPT_SUPERSCRIPT K23) (g := (mkF m 51 #[.val (.int p1), .unset, .unset, .unset] [(.int (7 : Int32)), (.ref b2), (.ref b2)])) rfl (hb hby at_51)
  obtain ⟨cl_b2_54, Ar_b2, q_b2, S_b2, N_b2, H_b2, G_b2⟩ := V_b2_23
  have hin54 : ¬ ((7 : Int32) < 0 ∨ cl_b2_54.slots.size ≤ ((7 : Int32)).toNatClampNeg) := inb_of S_b2 ⟨by decide, by decide⟩
  obtain ⟨T26, h26, X26, e26, W26, st26⟩ := stR X25 hx hZ e25 Ar_b2 (j := (7 : Int32)) hin54 rfl (Sto.ofV Ar_b2 q_b2 O2 (Ins.self (E_w24.keep K23))) (g := (mkF m 54 #[.val (.int p1), .unset, .unset, .unset] [(.ref w24), (.int (7 : Int32)), (.ref b2), (.ref b2)])) rfl rfl (hb hby at_54)
  have V_b2_26 : Arv Z h26 b2 k2 (.object "com/example/nuthatch/nuthatch/formula/Kind") (19 : Int32) [(.ref w3), (.ref w6), (.ref w9), (.ref w12), (.ref w15), (.ref w18), (.ref w21), (.ref w24), .null, .null, .null, .null, .null, .null, .null, .null, .null, .null, .null] .null := Arv.set Ar_b2 q_b2 S_b2 N_b2 H_b2 G_b2 rfl W26 7 rfl (Nat.le_of_ble_eq_true rfl)
  have N26 := Fr.snoc X26 N23 g_b2
  have K26 : Keep h0 h26 [] := K23.wr W26 (Or.inr sz_b2)
  obtain ⟨T28, X28, e28, st28⟩ := getS2 X26 hx hZ hown (host := "") (Or.inl (hw _ (List.mem_of_getElem? (i := 20) rfl))) Via.refl e26 (own_stk S_FRACTION K26) (g := (mkF m 58 #[.val (.int p1), .unset, .unset, .unset] [(.int (8 : Int32)), (.ref b2), (.ref b2)])) rfl (hb hby at_58)
  obtain ⟨cl_b2_61, Ar_b2, q_b2, S_b2, N_b2, H_b2, G_b2⟩ := V_b2_26
  have hin61 : ¬ ((8 : Int32) < 0 ∨ cl_b2_61.slots.size ≤ ((8 : Int32)).toNatClampNeg) := inb_of S_b2 ⟨by decide, by decide⟩
  obtain ⟨T29, h29, X29, e29, W29, st29⟩ := stR X28 hx hZ e28 Ar_b2 (j := (8 : Int32)) hin61 rfl (Sto.ofV Ar_b2 q_b2 O2 (Ins.self (E_w27.keep K26))) (g := (mkF m 61 #[.val (.int p1), .unset, .unset, .unset] [(.ref w27), (.int (8 : Int32)), (.ref b2), (.ref b2)])) rfl rfl (hb hby at_61)
  have V_b2_29 : Arv Z h29 b2 k2 (.object "com/example/nuthatch/nuthatch/formula/Kind") (19 : Int32) [(.ref w3), (.ref w6), (.ref w9), (.ref w12), (.ref w15), (.ref w18), (.ref w21), (.ref w24), (.ref w27), .null, .null, .null, .null, .null, .null, .null, .null, .null, .null] .null := Arv.set Ar_b2 q_b2 S_b2 N_b2 H_b2 G_b2 rfl W29 8 rfl (Nat.le_of_ble_eq_true rfl)
  have N29 := Fr.snoc X29 N26 g_b2
  have K29 : Keep h0 h29 [] := K26.wr W29 (Or.inr sz_b2)
  obtain ⟨T31, X31, e31, st31⟩ := getS2 X29 hx hZ hown (host := "") (Or.inl (hw _ (List.mem_of_getElem? (i := 22) rfl))) Via.refl e29 (own_stk S_ATOP K29) (g := (mkF m 65 #[.val (.int p1), .unset, .unset, .unset] [(.int (9 : Int32)), (.ref b2), (.ref b2)])) rfl (hb hby at_65)
  obtain ⟨cl_b2_68, Ar_b2, q_b2, S_b2, N_b2, H_b2, G_b2⟩ := V_b2_29
  have hin68 : ¬ ((9 : Int32) < 0 ∨ cl_b2_68.slots.size ≤ ((9 : Int32)).toNatClampNeg) := inb_of S_b2 ⟨by decide, by decide⟩
  obtain ⟨T32, h32, X32, e32, W32, st32⟩ := stR X31 hx hZ e31 Ar_b2 (j := (9 : Int32)) hin68 rfl (Sto.ofV Ar_b2 q_b2 O2 (Ins.self (E_w30.keep K29))) (g := (mkF m 68 #[.val (.int p1), .unset, .unset, .unset] [(.ref w30), (.int (9 : Int32)), (.ref b2), (.ref b2)])) rfl rfl (hb hby at_68)
  have V_b2_32 : Arv Z h32 b2 k2 (.object "com/example/nuthatch/nuthatch/formula/Kind") (19 : Int32) [(.ref w3), (.ref w6), (.ref w9), (.ref w12), (.ref w15), (.ref w18), (.ref w21), (.ref w24), (.ref w27), (.ref w30), .null, .null, .null, .null, .null, .null, .null, .null, .null] .null := Arv.set Ar_b2 q_b2 S_b2 N_b2 H_b2 G_b2 rfl W32 9 rfl (Nat.le_of_ble_eq_true rfl)
  have N32 := Fr.snoc X32 N29 g_b2
  have K32 : Keep h0 h32 [] := K29.wr W32 (Or.inr sz_b2)
  obtain ⟨T34, X34, e34, st34⟩ := getS2 X32 hx hZ hown (host := "") (Or.inl (hw _ (List.mem_of_getElem? (i := 24) rfl))) Via.refl e32 (own_stk S_ROOT K32) (g := (mkF m 72 #[.val (.int p1), .unset, .unset, .unset] [(.int (10 : Int32)), (.ref b2), (.ref b2)])) rfl (hb hby at_72)
  obtain ⟨cl_b2_75, Ar_b2, q_b2, S_b2, N_b2, H_b2, G_b2⟩ := V_b2_32
  have hin75 : ¬ ((10 : Int32) < 0 ∨ cl_b2_75.slots.size ≤ ((10 : Int32)).toNatClampNeg) := inb_of S_b2 ⟨by decide, by decide⟩
  obtain ⟨T35, h35, X35, e35, W35, st35⟩ := stR X34 hx hZ e34 Ar_b2 (j := (10 : Int32)) hin75 rfl (Sto.ofV Ar_b2 q_b2 O2 (Ins.self (E_w33.keep K32))) (g := (mkF m 75 #[.val (.int p1), .unset, .unset, .unset] [(.ref w33), (.int (10 : Int32)), (.ref b2), (.ref b2)])) rfl rfl (hb hby at_75)
  have V_b2_35 : Arv Z h35 b2 k2 (.object "com/example/nuthatch/nuthatch/formula/Kind") (19 : Int32) [(.ref w3), (.ref w6), (.ref w9), (.ref w12), (.ref w15), (.ref w18), (.ref w21), (.ref w24), (.ref w27), (.ref w30), (.ref w33), .null, .null, .null, .null, .null, .null, .null, .null] .null := Arv.set Ar_b2 q_b2 S_b2 N_b2 H_b2 G_b2 rfl W35 10 rfl (Nat.le_of_ble_eq_true rfl)
  have N35 := Fr.snoc X35 N32 g_b2
  have K35 : Keep h0 h35 [] := K32.wr W35 (Or.inr sz_b2)
  obtain ⟨T37, X37, e37, st37⟩ := getS2 X35 hx hZ hown (host := "") (Or.inl (hw _ (List.mem_of_getElem? (i := 26) rfl))) Via.refl e35 (own_stk S_INDEXED_ROOT K35) (g := (mkF m 79 #[.val (.int p1), .unset, .unset, .unset] [(.int (11 : Int32)), (.ref b2), (.ref b2)])) rfl (hb hby at_79)
  obtain ⟨cl_b2_82, Ar_b2, q_b2, S_b2, N_b2, H_b2, G_b2⟩ := V_b2_35
  have hin82 : ¬ ((11 : Int32) < 0 ∨ cl_b2_82.slots.size ≤ ((11 : Int32)).toNatClampNeg) := inb_of S_b2 ⟨by decide, by decide⟩
  obtain ⟨T38, h38, X38, e38, W38, st38⟩ := stR X37 hx hZ e37 Ar_b2 (j := (11 : Int32)) hin82 rfl (Sto.ofV Ar_b2 q_b2 O2 (Ins.self (E_w36.keep K35))) (g := (mkF m 82 #[.val (.int p1), .unset, .unset, .unset] [(.ref w36), (.int (11 : Int32)), (.ref b2), (.ref b2)])) rfl rfl (hb hby at_82)
  have V_b2_38 : Arv Z h38 b2 k2 (.object "com/example/nuthatch/nuthatch/formula/Kind") (19 : Int32) [(.ref w3), (.ref w6), (.ref w9), (.ref w12), (.ref w15), (.ref w18), (.ref w21), (.ref w24), (.ref w27), (.ref w30), (.ref w33), (.ref w36), .null, .null, .null, .null, .null, .null, .null] .null := Arv.set Ar_b2 q_b2 S_b2 N_b2 H_b2 G_b2 rfl W38 11 rfl (Nat.le_of_ble_eq_true rfl)
  have N38 := Fr.snoc X38 N35 g_b2
  have K38 : Keep h0 h38 [] := K35.wr W38 (Or.inr sz_b2)
  obtain ⟨T40, X40, e40, st40⟩ := getS2 X38 hx hZ hown (host := "") (Or.inl (hw _ (List.mem_of_getElem? (i := 28) rfl))) Via.refl e38 (own_stk S_FENCE K38) (g := (mkF m 86 #[.val (.int p1), .unset, .unset, .unset] [(.int (12 : Int32)), (.ref b2), (.ref b2)])) rfl (hb hby at_86)
  obtain ⟨cl_b2_89, Ar_b2, q_b2, S_b2, N_b2, H_b2, G_b2⟩ := V_b2_38
  have hin89 : ¬ ((12 : Int32) < 0 ∨ cl_b2_89.slots.size ≤ ((12 : Int32)).toNatClampNeg) := inb_of S_b2 ⟨by decide, by decide⟩
  obtain ⟨T41, h41, X41, e41, W41, st41⟩ := stR X40 hx hZ e40 Ar_b2 (j := (12 : Int32)) hin89 rfl (Sto.ofV Ar_b2 q_b2 O2 (Ins.self (E_w39.keep K38))) (g := (mkF m 89 #[.val (.int p1), .unset, .unset, .unset] [(.ref w39), (.int (12 : Int32)), (.ref b2), (.ref b2)])) rfl rfl (hb hby at_89)
  have V_b2_41 : Arv Z h41 b2 k2 (.object "com/example/nuthatch/nuthatch/formula/Kind") (19 : Int32) [(.ref w3), (.ref w6), (.ref w9), (.ref w12), (.ref w15), (.ref w18), (.ref w21), (.ref w24), (.ref w27), (.ref w30), (.ref w33), (.ref w36), (.ref w39), .null, .null, .null, .null, .null, .null] .null := Arv.set Ar_b2 q_b2 S_b2 N_b2 H_b2 G_b2 rfl W41 12 rfl (Nat.le_of_ble_eq_true rfl)
  have N41 := Fr.snoc X41 N38 g_b2
  have K41 : Keep h0 h41 [] := K38.wr W41 (Or.inr sz_b2)
  obtain ⟨T43, X43, e43, st43⟩ := getS2 X41 hx hZ hown (host := "") (Or.inl (hw _ (List.mem_of_getElem? (i := 30) rfl))) Via.refl e41 (own_stk S_ACCENT K41) (g := (mkF m 93 #[.val (.int p1), .unset, .unset, .unset] [(.int (13 : Int32)), (.ref b2), (.ref b2)])) rfl (hb hby at_93)
  obtain ⟨cl_b2_96, Ar_b2, q_b2, S_b2, N_b2, H_b2, G_b2⟩ := V_b2_41
  have hin96 : ¬ ((13 : Int32) < 0 ∨ cl_b2_96.slots.size ≤ ((13 : Int32)).toNatClampNeg) := inb_of S_b2 ⟨by decide, by decide⟩
  obtain ⟨T44, h44, X44, e44, W44, st44⟩ := stR X43 hx hZ e43 Ar_b2 (j := (13 : Int32)) hin96 rfl (Sto.ofV Ar_b2 q_b2 O2 (Ins.self (E_w42.keep K41))) (g := (mkF m 96 #[.val (.int p1), .unset, .unset, .unset] [(.ref w42), (.int (13 : Int32)), (.ref b2), (.ref b2)])) rfl rfl (hb hby at_96)
  have V_b2_44 : Arv Z h44 b2 k2 (.object "com/example/nuthatch/nuthatch/formula/Kind") (19 : Int32) [(.ref w3), (.ref w6), (.ref w9), (.ref w12), (.ref w15), (.ref w18), (.ref w21), (.ref w24), (.ref w27), (.ref w30), (.ref w33), (.ref w36), (.ref w39), (.ref w42), .null, .null, .null, .null, .null] .null := Arv.set Ar_b2 q_b2 S_b2 N_b2 H_b2 G_b2 rfl W44 13 rfl (Nat.le_of_ble_eq_true rfl)
  have N44 := Fr.snoc X44 N41 g_b2
  have K44 : Keep h0 h44 [] := K41.wr W44 (Or.inr sz_b2)
  obtain ⟨T46, X46, e46, st46⟩ := getS2 X44 hx hZ hown (host := "") (Or.inl (hw _ (List.mem_of_getElem? (i := 32) rfl))) Via.refl e44 (own_stk S_OVER K44) (g := (mkF m 100 #[.val (.int p1), .unset, .unset, .unset] [(.int (14 : Int32)), (.ref b2), (.ref b2)])) rfl (hb hby at_100)
  obtain ⟨cl_b2_103, Ar_b2, q_b2, S_b2, N_b2, H_b2, G_b2⟩ := V_b2_44
  have hin103 : ¬ ((14 : Int32) < 0 ∨ cl_b2_103.slots.size ≤ ((14 : Int32)).toNatClampNeg) := inb_of S_b2 ⟨by decide, by decide⟩
  obtain ⟨T47, h47, X47, e47, W47, st47⟩ := stR X46 hx hZ e46 Ar_b2 (j := (14 : Int32)) hin103 rfl (Sto.ofV Ar_b2 q_b2 O2 (Ins.self (E_w45.keep K44))) (g := (mkF m 103 #[.val (.int p1), .unset, .unset, .unset] [(.ref w45), (.int (14 : Int32)), (.ref b2), (.ref b2)])) rfl rfl (hb hby at_103)
  have V_b2_47 : Arv Z h47 b2 k2 (.object "com/example/nuthatch/nuthatch/formula/Kind") (19 : Int32) [(.ref w3), (.ref w6), (.ref w9), (.ref w12), (.ref w15), (.ref w18), (.ref w21), (.ref w24), (.ref w27), (.ref w30), (.ref w33), (.ref w36), (.ref w39), (.ref w42), (.ref w45), .null, .null, .null, .null] .null := Arv.set Ar_b2 q_b2 S_b2 N_b2 H_b2 G_b2 rfl W47 14 rfl (Nat.le_of_ble_eq_true rfl)
  have N47 := Fr.snoc X47 N44 g_b2
  have K47 : Keep h0 h47 [] := K44.wr W47 (Or.inr sz_b2)
  obtain ⟨T49, X49, e49, st49⟩ := getS2 X47 hx hZ hown (host := "") (Or.inl (hw _ (List.mem_of_getElem? (i := 34) rfl))) Via.refl e47 (own_stk S_UNDER K47) (g := (mkF m 107 #[.val (.int p1), .unset, .unset, .unset] [(.int (15 : Int32)), (.ref b2), (.ref b2)])) rfl (hb hby at_107)
  obtain ⟨cl_b2_110, Ar_b2, q_b2, S_b2, N_b2, H_b2, G_b2⟩ := V_b2_47
  have hin110 : ¬ ((15 : Int32) < 0 ∨ cl_b2_110.slots.size ≤ ((15 : Int32)).toNatClampNeg) := inb_of S_b2 ⟨by decide, by decide⟩
  obtain ⟨T50, h50, X50, e50, W50, st50⟩ := stR X49 hx hZ e49 Ar_b2 (j := (15 : Int32)) hin110 rfl (Sto.ofV Ar_b2 q_b2 O2 (Ins.self (E_w48.keep K47))) (g := (mkF m 110 #[.val (.int p1), .unset, .unset, .unset] [(.ref w48), (.int (15 : Int32)), (.ref b2), (.ref b2)])) rfl rfl (hb hby at_110)
  have V_b2_50 : Arv Z h50 b2 k2 (.object "com/example/nuthatch/nuthatch/formula/Kind") (19 : Int32) [(.ref w3), (.ref w6), (.ref w9), (.ref w12), (.ref w15), (.ref w18), (.ref w21), (.ref w24), (.ref w27), (.ref w30), (.ref w33), (.ref w36), (.ref w39), (.ref w42), (.ref w45), (.ref w48), .null, .null, .null] .null := Arv.set Ar_b2 q_b2 S_b2 N_b2 H_b2 G_b2 rfl W50 15 rfl (Nat.le_of_ble_eq_true rfl)
  have N50 := Fr.snoc X50 N47 g_b2
  have K50 : Keep h0 h50 [] := K47.wr W50 (Or.inr sz_b2)
  obtain ⟨T52, X52, e52, st52⟩ := getS2 X50 hx hZ hown (host := "") (Or.inl (hw _ (List.mem_of_getElem? (i := 36) rfl))) Via.refl e50 (own_stk S_UNDER_OVER K50) (g := (mkF m 114 #[.val (.int p1), .unset, .unset, .unset] [(.int (16 : Int32)), (.ref b2), (.ref b2)])) rfl (hb hby at_114)
  obtain ⟨cl_b2_117, Ar_b2, q_b2, S_b2, N_b2, H_b2, G_b2⟩ := V_b2_50
  have hin117 : ¬ ((16 : Int32) < 0 ∨ cl_b2_117.slots.size ≤ ((16 : Int32)).toNatClampNeg) := inb_of S_b2 ⟨by decide, by decide⟩
  obtain ⟨T53, h53, X53, e53, W53, st53⟩ := stR X52 hx hZ e52 Ar_b2 (j := (16 : Int32)) hin117 rfl (Sto.ofV Ar_b2 q_b2 O2 (Ins.self (E_w51.keep K50))) (g := (mkF m 117 #[.val (.int p1), .unset, .unset, .unset] [(.ref w51), (.int (16 : Int32)), (.ref b2), (.ref b2)])) rfl rfl (hb hby at_117)
  have V_b2_53 : Arv Z h53 b2 k2 (.object "com/example/nuthatch/nuthatch/formula/Kind") (19 : Int32) [(.ref w3), (.ref w6), (.ref w9), (.ref w12), (.ref w15), (.ref w18), (.ref w21), (.ref w24), (.ref w27), (.ref w30), (.ref w33), (.ref w36), (.ref w39), (.ref w42), (.ref w45), (.ref w48), (.ref w51), .null, .null] .null := Arv.set Ar_b2 q_b2 S_b2 N_b2 H_b2 G_b2 rfl W53 16 rfl (Nat.le_of_ble_eq_true rfl)
  have N53 := Fr.snoc X53 N50 g_b2
  have K53 : Keep h0 h53 [] := K50.wr W53 (Or.inr sz_b2)
  obtain ⟨T55, X55, e55, st55⟩ := getS2 X53 hx hZ hown (host := "") (Or.inl (hw _ (List.mem_of_getElem? (i := 38) rfl))) Via.refl e53 (own_stk S_TABLE K53) (g := (mkF m 121 #[.val (.int p1), .unset, .unset, .unset] [(.int (17 : Int32)), (.ref b2), (.ref b2)])) rfl (hb hby at_121)
  obtain ⟨cl_b2_124, Ar_b2, q_b2, S_b2, N_b2, H_b2, G_b2⟩ := V_b2_53
  have hin124 : ¬ ((17 : Int32) < 0 ∨ cl_b2_124.slots.size ≤ ((17 : Int32)).toNatClampNeg) := inb_of S_b2 ⟨by decide, by decide⟩
  obtain ⟨T56, h56, X56, e56, W56, st56⟩ := stR X55 hx hZ e55 Ar_b2 (j := (17 : Int32)) hin124 rfl (Sto.ofV Ar_b2 q_b2 O2 (Ins.self (E_w54.keep K53))) (g := (mkF m 124 #[.val (.int p1), .unset, .unset, .unset] [(.ref w54), (.int (17 : Int32)), (.ref b2), (.ref b2)])) rfl rfl (hb hby at_124)
  have V_b2_56 : Arv Z h56 b2 k2 (.object "com/example/nuthatch/nuthatch/formula/Kind") (19 : Int32) [(.ref w3), (.ref w6), (.ref w9), (.ref w12), (.ref w15), (.ref w18), (.ref w21), (.ref w24), (.ref w27), (.ref w30), (.ref w33), (.ref w36), (.ref w39), (.ref w42), (.ref w45), (.ref w48), (.ref w51), (.ref w54), .null] .null := Arv.set Ar_b2 q_b2 S_b2 N_b2 H_b2 G_b2 rfl W56 17 rfl (Nat.le_of_ble_eq_true rfl)
  have N56 := Fr.snoc X56 N53 g_b2
  have K56 : Keep h0 h56 [] := K53.wr W56 (Or.inr sz_b2)
  obtain ⟨T58, X58, e58, st58⟩ := getS2 X56 hx hZ hown (host := "") (Or.inl (hw _ (List.mem_of_getElem? (i := 40) rfl))) Via.refl e56 (own_stk S_TABLE_ROW K56) (g := (mkF m 128 #[.val (.int p1), .unset, .unset, .unset] [(.int (18 : Int32)), (.ref b2), (.ref b2)])) rfl (hb hby at_128)
  obtain ⟨cl_b2_131, Ar_b2, q_b2, S_b2, N_b2, H_b2, G_b2⟩ := V_b2_56
  have hin131 : ¬ ((18 : Int32) < 0 ∨ cl_b2_131.slots.size ≤ ((18 : Int32)).toNatClampNeg) := inb_of S_b2 ⟨by decide, by decide⟩
  obtain ⟨T59, h59, X59, e59, W59, st59⟩ := stR X58 hx hZ e58 Ar_b2 (j := (18 : Int32)) hin131 rfl (Sto.ofV Ar_b2 q_b2 O2 (Ins.self (E_w57.keep K56))) (g := (mkF m 131 #[.val (.int p1), .unset, .unset, .unset] [(.ref w57), (.int (18 : Int32)), (.ref b2), (.ref b2)])) rfl rfl (hb hby at_131)
  have V_b2_59 : Arv Z h59 b2 k2 (.object "com/example/nuthatch/nuthatch/formula/Kind") (19 : Int32) [(.ref w3), (.ref w6), (.ref w9), (.ref w12), (.ref w15), (.ref w18), (.ref w21), (.ref w24), (.ref w27), (.ref w30), (.ref w33), (.ref w36), (.ref w39), (.ref w42), (.ref w45), (.ref w48), (.ref w51), (.ref w54), (.ref w57)] .null := Arv.set Ar_b2 q_b2 S_b2 N_b2 H_b2 G_b2 rfl W59 18 rfl (Nat.le_of_ble_eq_true rfl)
  have N59 := Fr.snoc X59 N56 g_b2
  have K59 : Keep h0 h59 [] := K56.wr W59 (Or.inr sz_b2)
  obtain ⟨cl_b2_163, Ar_b2, q_b2, S_b2, N_b2, H_b2, G_b2⟩ := V_b2_59
  have hin163 : ¬ (((p1 &&& (2147483647 : Int32)) % (19 : Int32)) < 0 ∨ cl_b2_163.slots.size ≤ (((p1 &&& (2147483647 : Int32)) % (19 : Int32))).toNatClampNeg) := inb_of S_b2 ⟨hn163, hl163⟩
  have hat163 : cl_b2_163.slots[(((p1 &&& (2147483647 : Int32)) % (19 : Int32))).toNatClampNeg]? = some (.ref w60) := H_b2.at hin163 hv163
  obtain ⟨cq61, kq61, q61a, q61b, q61c⟩ := isOf hZ e59 (E_w60.keep K59)
  obtain ⟨_, _, ⟨T61, L61, k61, n61⟩, -, X61, ⟨Lc61, hQ61, l61, y61, z61⟩, st61⟩ := X59.virtualBack hx (y := (⟨"com/example/nuthatch/nuthatch/formula/Kind", "hasSymbol", "()Z"⟩ : MethodName)) (z := (⟨"com/example/nuthatch/nuthatch/formula/Kind", "hasSymbol", "()Z"⟩ : MethodName)) hown (mvT hZ (hw _ (List.mem_of_getElem? (i := 43) rfl))) (mvT hZ (hw _ (List.mem_of_getElem? (i := 44) rfl))) (notFace_of_selects (args := #[]) (mvT hZ (hw _ (List.mem_of_getElem? (i := 46) rfl)))) (mvT hZ (hw _ (List.mem_of_getElem? (i := 46) rfl))) (mvT hZ (hw _ (List.mem_of_getElem? (i := 45) rfl))) (by decide) (backOf (W := 0) (rm1_ft l Z a0 hw [] w60 w3 w9 h59 n0 (Nat.le_trans Z0 K59.1) (own_stk S_SYMBOL K59) (own_stk S_INFIX K59) nq0 nq1) hZ (hw _ (List.mem_of_getElem? (i := 47) rfl)) (hw _ (List.mem_of_getElem? (i := 3) rfl)) (by decide) (by decide)) q61a q61c (g := (mkF m 164 #[.val (.int p1), .val (.ref b2), .val (.int ((p1 &&& (2147483647 : Int32)) % (19 : Int32))), .val (.int (1 : Int32))] [(.ref w60)])) rfl (by rw [hml]; rfl) (Steps.refl _) (argsL := []) (rest := []) (lenOf pd_0_0 rfl) rfl (by show 2 * 0 + _ ≤ _; exact Nat.le_of_eq rfl) (hb hby at_164) (fun _ _ => ⟨rfl, e59, (by decide : 1 + 0 ≤ _), (by decide : 19 + 0 ≤ _)⟩)
  dsimp only [Pt.U, Pt.locs, Pt.cells, Pt.slots] at X61 l61 y61 z61 st61 hQ61
  subst l61 y61 z61
  obtain ⟨rfl, N61q, eQq⟩ := hQ61
  have N61 := Fr.app N59 N61q
  obtain ⟨fs, hr, hrun, hended, hW, hsame⟩ := X61.leave (v := some (.int (1 : Int32))) (fun h => by rw [Bd.returns] at h; cases h)
  refine ⟨_, _, pre0 _ ?_, hrun, hended, _, _, rfl, ?_, ⟨_, rfl⟩, hW, hsame.mono (by decide) (by decide)⟩
  · show Steps p.tables e below (s₁.setTop (mkF m 0 #[.val (.int p1), .unset, .unset, .unset] [])) _
    refine XS.bipush X0.here hx rfl (hb hby at_0) ?_
    show Steps p.tables e below (s₁.setTop (mkF m 2 #[.val (.int p1), .unset, .unset, .unset] [(.int (19 : Int32))])) _
    refine st2 _ ?_
    show Steps p.tables e below (T2.setTop (mkF m 5 #[.val (.int p1), .unset, .unset, .unset] [(.ref b2)])) _
    refine XS.dup X2.here hx rfl (hb hby at_5) rfl rfl ?_
    show Steps p.tables e below (T2.setTop (mkF m 6 #[.val (.int p1), .unset, .unset, .unset] [(.ref b2), (.ref b2)])) _
    refine XS.iconst X2.here hx rfl (hb hby at_6) ?_
    show Steps p.tables e below (T2.setTop (mkF m 7 #[.val (.int p1), .unset, .unset, .unset] [(.int (0 : Int32)), (.ref b2), (.ref b2)])) _
    refine st4 _ ?_
    show Steps p.tables e below (T4.setTop (mkF m 10 #[.val (.int p1), .unset, .unset, .unset] [(.ref w3), (.int (0 : Int32)), (.ref b2), (.ref b2)])) _
    refine st5 _ ?_
    show Steps p.tables e below (T5.setTop (mkF m 11 #[.val (.int p1), .unset, .unset, .unset] [(.ref b2)])) _
    refine XS.dup X5.here hx rfl (hb hby at_11) rfl rfl ?_
    show Steps p.tables e below (T5.setTop (mkF m 12 #[.val (.int p1), .unset, .unset, .unset] [(.ref b2), (.ref b2)])) _
    refine XS.iconst X5.here hx rfl (hb hby at_12) ?_
    show Steps p.tables e below (T5.setTop (mkF m 13 #[.val (.int p1), .unset, .unset, .unset] [(.int (1 : Int32)), (.ref b2), (.ref b2)])) _
    refine st7 _ ?_
    show Steps p.tables e below (T7.setTop (mkF m 16 #[.val (.int p1), .unset, .unset, .unset] [(.ref w6), (.int (1 : Int32)), (.ref b2), (.ref b2)])) _
    refine st8 _ ?_
    show Steps p.tables e below (T8.setTop (mkF m 17 #[.val (.int p1), .unset, .unset, .unset] [(.ref b2)])) _
    refine XS.dup X8.here hx rfl (hb hby at_17) rfl rfl ?_
    show Steps p.tables e below (T8.setTop (mkF m 18 #[.val (.int p1), .unset, .unset, .unset] [(.ref b2), (.ref b2)])) _
    refine XS.iconst X8.here hx rfl (hb hby at_18) ?_
    show Steps p.tables e below (T8.setTop (mkF m 19 #[.val (.int p1), .unset, .unset, .unset] [(.int (2 : Int32)), (.ref b2), (.ref b2)])) _
    refine st10 _ ?_
    show Steps p.tables e below (T10.setTop (mkF m 22 #[.val (.int p1), .unset, .unset, .unset] [(.ref w9), (.int (2 : Int32)), (.ref b2), (.ref b2)])) _
    refine st11 _ ?_
    show Steps p.tables e below (T11.setTop (mkF m 23 #[.val (.int p1), .unset, .unset, .unset] [(.ref b2)])) _
    refine XS.dup X11.here hx rfl (hb hby at_23) rfl rfl ?_
    show Steps p.tables e below (T11.setTop (mkF m 24 #[.val (.int p1), .unset, .unset, .unset] [(.ref b2), (.ref b2)])) _
    refine XS.iconst X11.here hx rfl (hb hby at_24) ?_
    show Steps p.tables e below (T11.setTop (mkF m 25 #[.val (.int p1), .unset, .unset, .unset] [(.int (3 : Int32)), (.ref b2), (.ref b2)])) _
    refine st13 _ ?_
    show Steps p.tables e below (T13.setTop (mkF m 28 #[.val (.int p1), .unset, .unset, .unset] [(.ref w12), (.int (3 : Int32)), (.ref b2), (.ref b2)])) _
    refine st14 _ ?_
    show Steps p.tables e below (T14.setTop (mkF m 29 #[.val (.int p1), .unset, .unset, .unset] [(.ref b2)])) _
    refine XS.dup X14.here hx rfl (hb hby at_29) rfl rfl ?_
    show Steps p.tables e below (T14.setTop (mkF m 30 #[.val (.int p1), .unset, .unset, .unset] [(.ref b2), (.ref b2)])) _
    refine XS.iconst X14.here hx rfl (hb hby at_30) ?_
    show Steps p.tables e below (T14.setTop (mkF m 31 #[.val (.int p1), .unset, .unset, .unset] [(.int (4 : Int32)), (.ref b2), (.ref b2)])) _
    refine st16 _ ?_
    show Steps p.tables e below (T16.setTop (mkF m 34 #[.val (.int p1), .unset, .unset, .unset] [(.ref w15), (.int (4 : Int32)), (.ref b2), (.ref b2)])) _
    refine st17 _ ?_
    show Steps p.tables e below (T17.setTop (mkF m 35 #[.val (.int p1), .unset, .unset, .unset] [(.ref b2)])) _
    refine XS.dup X17.here hx rfl (hb hby at_35) rfl rfl ?_
    show Steps p.tables e below (T17.setTop (mkF m 36 #[.val (.int p1), .unset, .unset, .unset] [(.ref b2), (.ref b2)])) _
    refine XS.iconst X17.here hx rfl (hb hby at_36) ?_
    show Steps p.tables e below (T17.setTop (mkF m 37 #[.val (.int p1), .unset, .unset, .unset] [(.int (5 : Int32)), (.ref b2), (.ref b2)])) _
    refine st19 _ ?_
    show Steps p.tables e below (T19.setTop (mkF m 40 #[.val (.int p1), .unset, .unset, .unset] [(.ref w18), (.int (5 : Int32)), (.ref b2), (.ref b2)])) _
    refine st20 _ ?_
    show Steps p.tables e below (T20.setTop (mkF m 41 #[.val (.int p1), .unset, .unset, .unset] [(.ref b2)])) _
    refine XS.dup X20.here hx rfl (hb hby at_41) rfl rfl ?_
    show Steps p.tables e below (T20.setTop (mkF m 42 #[.val (.int p1), .unset, .unset, .unset] [(.ref b2), (.ref b2)])) _
    refine XS.bipush X20.here hx rfl (hb hby at_42) ?_
    show Steps p.tables e below (T20.setTop (mkF m 44 #[.val (.int p1), .unset, .unset, .unset] [(.int (6 : Int32)), (.ref b2), (.ref b2)])) _
    refine st22 _ ?_
    show Steps p.tables e below (T22.setTop (mkF m 47 #[.val (.int p1), .unset, .unset, .unset] [(.ref w21), (.int (6 : Int32)), (.ref b2), (.ref b2)])) _
    refine st23 _ ?_
    show Steps p.tables e below (T23.setTop (mkF m 48 #[.val (.int p1), .unset, .unset, .unset] [(.ref b2)])) _
    refine XS.dup X23.here hx rfl (hb hby at_48) rfl rfl ?_
    show Steps p.tables e below (T23.setTop (mkF m 49 #[.val (.int p1), .unset, .unset, .unset] [(.ref b2), (.ref b2)])) _
    refine XS.bipush X23.here hx rfl (hb hby at_49) ?_
    show Steps p.tables e below (T23.setTop (mkF m 51 #[.val (.int p1), .unset, .unset, .unset] [(.int (7 : Int32)), (.ref b2), (.ref b2)])) _
    refine st25 _ ?_
    show Steps p.tables e below (T25.setTop (mkF m 54 #[.val (.int p1), .unset, .unset, .unset] [(.ref w24), (.int (7 : Int32)), (.ref b2), (.ref b2)])) _
    refine st26 _ ?_
    show Steps p.tables e below (T26.setTop (mkF m 55 #[.val (.int p1), .unset, .unset, .unset] [(.ref b2)])) _
    refine XS.dup X26.here hx rfl (hb hby at_55) rfl rfl ?_
    show Steps p.tables e below (T26.setTop (mkF m 56 #[.val (.int p1), .unset, .unset, .unset] [(.ref b2), (.ref b2)])) _
    refine XS.bipush X26.here hx rfl (hb hby at_56) ?_
    show Steps p.tables e below (T26.setTop (mkF m 58 #[.val (.int p1), .unset, .unset, .unset] [(.int (8 : Int32)), (.ref b2), (.ref b2)])) _
    refine st28 _ ?_
    show Steps p.tables e below (T28.setTop (mkF m 61 #[.val (.int p1), .unset, .unset, .unset] [(.ref w27), (.int (8 : Int32)), (.ref b2), (.ref b2)])) _
    refine st29 _ ?_
    show Steps p.tables e below (T29.setTop (mkF m 62 #[.val (.int p1), .unset, .unset, .unset] [(.ref b2)])) _
    refine XS.dup X29.here hx rfl (hb hby at_62) rfl rfl ?_
    show Steps p.tables e below (T29.setTop (mkF m 63 #[.val (.int p1), .unset, .unset, .unset] [(.ref b2), (.ref b2)])) _
    refine XS.bipush X29.here hx rfl (hb hby at_63) ?_
    show Steps p.tables e below (T29.setTop (mkF m 65 #[.val (.int p1), .unset, .unset, .unset] [(.int (9 : Int32)), (.ref b2), (.ref b2)])) _
    refine st31 _ ?_
    show Steps p.tables e below (T31.setTop (mkF m 68 #[.val (.int p1), .unset, .unset, .unset] [(.ref w30), (.int (9 : Int32)), (.ref b2), (.ref b2)])) _
    refine st32 _ ?_
    show Steps p.tables e below (T32.setTop (mkF m 69 #[.val (.int p1), .unset, .unset, .unset] [(.ref b2)])) _
    refine XS.dup X32.here hx rfl (hb hby at_69) rfl rfl ?_
    show Steps p.tables e below (T32.setTop (mkF m 70 #[.val (.int p1), .unset, .unset, .unset] [(.ref b2), (.ref b2)])) _
    refine XS.bipush X32.here hx rfl (hb hby at_70) ?_
    show Steps p.tables e below (T32.setTop (mkF m 72 #[.val (.int p1), .unset, .unset, .unset] [(.int (10 : Int32)), (.ref b2), (.ref b2)])) _
    refine st34 _ ?_
    show Steps p.tables e below (T34.setTop (mkF m 75 #[.val (.int p1), .unset, .unset, .unset] [(.ref w33), (.int (10 : Int32)), (.ref b2), (.ref b2)])) _
    refine st35 _ ?_
    show Steps p.tables e below (T35.setTop (mkF m 76 #[.val (.int p1), .unset, .unset, .unset] [(.ref b2)])) _
    refine XS.dup X35.here hx rfl (hb hby at_76) rfl rfl ?_
    show Steps p.tables e below (T35.setTop (mkF m 77 #[.val (.int p1), .unset, .unset, .unset] [(.ref b2), (.ref b2)])) _
    refine XS.bipush X35.here hx rfl (hb hby at_77) ?_
    show Steps p.tables e below (T35.setTop (mkF m 79 #[.val (.int p1), .unset, .unset, .unset] [(.int (11 : Int32)), (.ref b2), (.ref b2)])) _
    refine st37 _ ?_
    show Steps p.tables e below (T37.setTop (mkF m 82 #[.val (.int p1), .unset, .unset, .unset] [(.ref w36), (.int (11 : Int32)), (.ref b2), (.ref b2)])) _
    refine st38 _ ?_
    show Steps p.tables e below (T38.setTop (mkF m 83 #[.val (.int p1), .unset, .unset, .unset] [(.ref b2)])) _
    refine XS.dup X38.here hx rfl (hb hby at_83) rfl rfl ?_
    show Steps p.tables e below (T38.setTop (mkF m 84 #[.val (.int p1), .unset, .unset, .unset] [(.ref b2), (.ref b2)])) _
    refine XS.bipush X38.here hx rfl (hb hby at_84) ?_
    show Steps p.tables e below (T38.setTop (mkF m 86 #[.val (.int p1), .unset, .unset, .unset] [(.int (12 : Int32)), (.ref b2), (.ref b2)])) _
    refine st40 _ ?_
    show Steps p.tables e below (T40.setTop (mkF m 89 #[.val (.int p1), .unset, .unset, .unset] [(.ref w39), (.int (12 : Int32)), (.ref b2), (.ref b2)])) _
    refine st41 _ ?_
    show Steps p.tables e below (T41.setTop (mkF m 90 #[.val (.int p1), .unset, .unset, .unset] [(.ref b2)])) _
    refine XS.dup X41.here hx rfl (hb hby at_90) rfl rfl ?_
    show Steps p.tables e below (T41.setTop (mkF m 91 #[.val (.int p1), .unset, .unset, .unset] [(.ref b2), (.ref b2)])) _
    refine XS.bipush X41.here hx rfl (hb hby at_91) ?_
    show Steps p.tables e below (T41.setTop (mkF m 93 #[.val (.int p1), .unset, .unset, .unset] [(.int (13 : Int32)), (.ref b2), (.ref b2)])) _
    refine st43 _ ?_
    show Steps p.tables e below (T43.setTop (mkF m 96 #[.val (.int p1), .unset, .unset, .unset] [(.ref w42), (.int (13 : Int32)), (.ref b2), (.ref b2)])) _
    refine st44 _ ?_
    show Steps p.tables e below (T44.setTop (mkF m 97 #[.val (.int p1), .unset, .unset, .unset] [(.ref b2)])) _
    refine XS.dup X44.here hx rfl (hb hby at_97) rfl rfl ?_
    show Steps p.tables e below (T44.setTop (mkF m 98 #[.val (.int p1), .unset, .unset, .unset] [(.ref b2), (.ref b2)])) _
    refine XS.bipush X44.here hx rfl (hb hby at_98) ?_
    show Steps p.tables e below (T44.setTop (mkF m 100 #[.val (.int p1), .unset, .unset, .unset] [(.int (14 : Int32)), (.ref b2), (.ref b2)])) _
    refine st46 _ ?_
    show Steps p.tables e below (T46.setTop (mkF m 103 #[.val (.int p1), .unset, .unset, .unset] [(.ref w45), (.int (14 : Int32)), (.ref b2), (.ref b2)])) _
    refine st47 _ ?_
    show Steps p.tables e below (T47.setTop (mkF m 104 #[.val (.int p1), .unset, .unset, .unset] [(.ref b2)])) _
    refine XS.dup X47.here hx rfl (hb hby at_104) rfl rfl ?_
    show Steps p.tables e below (T47.setTop (mkF m 105 #[.val (.int p1), .unset, .unset, .unset] [(.ref b2), (.ref b2)])) _
    refine XS.bipush X47.here hx rfl (hb hby at_105) ?_
    show Steps p.tables e below (T47.setTop (mkF m 107 #[.val (.int p1), .unset, .unset, .unset] [(.int (15 : Int32)), (.ref b2), (.ref b2)])) _
    refine st49 _ ?_
    show Steps p.tables e below (T49.setTop (mkF m 110 #[.val (.int p1), .unset, .unset, .unset] [(.ref w48), (.int (15 : Int32)), (.ref b2), (.ref b2)])) _
    refine st50 _ ?_
    show Steps p.tables e below (T50.setTop (mkF m 111 #[.val (.int p1), .unset, .unset, .unset] [(.ref b2)])) _
    refine XS.dup X50.here hx rfl (hb hby at_111) rfl rfl ?_
    show Steps p.tables e below (T50.setTop (mkF m 112 #[.val (.int p1), .unset, .unset, .unset] [(.ref b2), (.ref b2)])) _
    refine XS.bipush X50.here hx rfl (hb hby at_112) ?_
    show Steps p.tables e below (T50.setTop (mkF m 114 #[.val (.int p1), .unset, .unset, .unset] [(.int (16 : Int32)), (.ref b2), (.ref b2)])) _
    refine st52 _ ?_
    show Steps p.tables e below (T52.setTop (mkF m 117 #[.val (.int p1), .unset, .unset, .unset] [(.ref w51), (.int (16 : Int32)), (.ref b2), (.ref b2)])) _
    refine st53 _ ?_
    show Steps p.tables e below (T53.setTop (mkF m 118 #[.val (.int p1), .unset, .unset, .unset] [(.ref b2)])) _
    refine XS.dup X53.here hx rfl (hb hby at_118) rfl rfl ?_
    show Steps p.tables e below (T53.setTop (mkF m 119 #[.val (.int p1), .unset, .unset, .unset] [(.ref b2), (.ref b2)])) _
    refine XS.bipush X53.here hx rfl (hb hby at_119) ?_
    show Steps p.tables e below (T53.setTop (mkF m 121 #[.val (.int p1), .unset, .unset, .unset] [(.int (17 : Int32)), (.ref b2), (.ref b2)])) _
    refine st55 _ ?_
    show Steps p.tables e below (T55.setTop (mkF m 124 #[.val (.int p1), .unset, .unset, .unset] [(.ref w54), (.int (17 : Int32)), (.ref b2), (.ref b2)])) _
    refine st56 _ ?_
    show Steps p.tables e below (T56.setTop (mkF m 125 #[.val (.int p1), .unset, .unset, .unset] [(.ref b2)])) _
    refine XS.dup X56.here hx rfl (hb hby at_125) rfl rfl ?_
    show Steps p.tables e below (T56.setTop (mkF m 126 #[.val (.int p1), .unset, .unset, .unset] [(.ref b2), (.ref b2)])) _
    refine XS.bipush X56.here hx rfl (hb hby at_126) ?_
    show Steps p.tables e below (T56.setTop (mkF m 128 #[.val (.int p1), .unset, .unset, .unset] [(.int (18 : Int32)), (.ref b2), (.ref b2)])) _
    refine st58 _ ?_
    show Steps p.tables e below (T58.setTop (mkF m 131 #[.val (.int p1), .unset, .unset, .unset] [(.ref w57), (.int (18 : Int32)), (.ref b2), (.ref b2)])) _
    refine st59 _ ?_
    show Steps p.tables e below (T59.setTop (mkF m 132 #[.val (.int p1), .unset, .unset, .unset] [(.ref b2)])) _
    refine XS.astoreN X59.here hx rfl (hb hby at_132) rfl rfl (l' := #[.val (.int p1), .val (.ref b2), .unset, .unset]) rfl ?_
    show Steps p.tables e below (T59.setTop (mkF m 133 #[.val (.int p1), .val (.ref b2), .unset, .unset] [])) _
    refine XS.iloadN X59.here hx rfl (hb hby at_133) rfl ?_
    show Steps p.tables e below (T59.setTop (mkF m 134 #[.val (.int p1), .val (.ref b2), .unset, .unset] [(.int p1)])) _
    refine X59.ldcInt hx hown (mvT hZ (hw _ (List.mem_of_getElem? (i := 42) rfl))) (g := (mkF m 134 #[.val (.int p1), .val (.ref b2), .unset, .unset] [(.int p1)])) rfl (hb hby at_134) _ ?_
    show Steps p.tables e below (T59.setTop (mkF m 136 #[.val (.int p1), .val (.ref b2), .unset, .unset] [(.int (2147483647 : Int32)), (.int p1)])) _
    refine XS.iand X59.here hx rfl (hb hby at_136) rfl ?_
    show Steps p.tables e below (T59.setTop (mkF m 137 #[.val (.int p1), .val (.ref b2), .unset, .unset] [(.int (p1 &&& (2147483647 : Int32)))])) _
    refine XS.bipush X59.here hx rfl (hb hby at_137) ?_
    show Steps p.tables e below (T59.setTop (mkF m 139 #[.val (.int p1), .val (.ref b2), .unset, .unset] [(.int (19 : Int32)), (.int (p1 &&& (2147483647 : Int32)))])) _
    refine iremM X59 hx rfl (hb hby at_139) rfl (by decide) ?_
    show Steps p.tables e below (T59.setTop (mkF m 140 #[.val (.int p1), .val (.ref b2), .unset, .unset] [(.int ((p1 &&& (2147483647 : Int32)) % (19 : Int32)))])) _
    refine XS.istoreN X59.here hx rfl (hb hby at_140) rfl (l' := #[.val (.int p1), .val (.ref b2), .val (.int ((p1 &&& (2147483647 : Int32)) % (19 : Int32))), .unset]) rfl ?_
    show Steps p.tables e below (T59.setTop (mkF m 141 #[.val (.int p1), .val (.ref b2), .val (.int ((p1 &&& (2147483647 : Int32)) % (19 : Int32))), .unset] [])) _
    refine XS.iloadN X59.here hx rfl (hb hby at_141) rfl ?_
    show Steps p.tables e below (T59.setTop (mkF m 142 #[.val (.int p1), .val (.ref b2), .val (.int ((p1 &&& (2147483647 : Int32)) % (19 : Int32))), .unset] [(.int ((p1 &&& (2147483647 : Int32)) % (19 : Int32)))])) _
    refine XS.ifNo X59.here hx rfl (hb hby at_142) rfl ((if0 _ _).trans (feq hc142).1) ?_
    show Steps p.tables e below (T59.setTop (mkF m 145 #[.val (.int p1), .val (.ref b2), .val (.int ((p1 &&& (2147483647 : Int32)) % (19 : Int32))), .unset] [])) _
    refine XS.iloadN X59.here hx rfl (hb hby at_145) rfl ?_
    show Steps p.tables e below (T59.setTop (mkF m 146 #[.val (.int p1), .val (.ref b2), .val (.int ((p1 &&& (2147483647 : Int32)) % (19 : Int32))), .unset] [(.int ((p1 &&& (2147483647 : Int32)) % (19 : Int32)))])) _
    refine XS.iconst X59.here hx rfl (hb hby at_146) ?_
    show Steps p.tables e below (T59.setTop (mkF m 147 #[.val (.int p1), .val (.ref b2), .val (.int ((p1 &&& (2147483647 : Int32)) % (19 : Int32))), .unset] [(.int (2 : Int32)), (.int ((p1 &&& (2147483647 : Int32)) % (19 : Int32)))])) _
    refine XS.icmpYes X59.here hx rfl (pc0 := 147) (pc' := 155) rfl (hb hby at_147) rfl (teq hc147).1 (by decide) (by decide) ?_
    show Steps p.tables e below (T59.setTop (mkF m 155 #[.val (.int p1), .val (.ref b2), .val (.int ((p1 &&& (2147483647 : Int32)) % (19 : Int32))), .unset] [])) _
    refine XS.iconst X59.here hx rfl (hb hby at_155) ?_
    show Steps p.tables e below (T59.setTop (mkF m 156 #[.val (.int p1), .val (.ref b2), .val (.int ((p1 &&& (2147483647 : Int32)) % (19 : Int32))), .unset] [(.int (1 : Int32))])) _
    refine XS.goto X59.here hx rfl (pc0 := 156) (pc' := 160) rfl (hb hby at_156) (by decide) (by decide) ?_
    show Steps p.tables e below (T59.setTop (mkF m 160 #[.val (.int p1), .val (.ref b2), .val (.int ((p1 &&& (2147483647 : Int32)) % (19 : Int32))), .unset] [(.int (1 : Int32))])) _
    refine XS.istoreN X59.here hx rfl (hb hby at_160) rfl (l' := #[.val (.int p1), .val (.ref b2), .val (.int ((p1 &&& (2147483647 : Int32)) % (19 : Int32))), .val (.int (1 : Int32))]) rfl ?_
    show Steps p.tables e below (T59.setTop (mkF m 161 #[.val (.int p1), .val (.ref b2), .val (.int ((p1 &&& (2147483647 : Int32)) % (19 : Int32))), .val (.int (1 : Int32))] [])) _
    refine XS.aloadN X59.here hx rfl (hb hby at_161) rfl rfl ?_
    show Steps p.tables e below (T59.setTop (mkF m 162 #[.val (.int p1), .val (.ref b2), .val (.int ((p1 &&& (2147483647 : Int32)) % (19 : Int32))), .val (.int (1 : Int32))] [(.ref b2)])) _
    refine XS.iloadN X59.here hx rfl (hb hby at_162) rfl ?_
    show Steps p.tables e below (T59.setTop (mkF m 163 #[.val (.int p1), .val (.ref b2), .val (.int ((p1 &&& (2147483647 : Int32)) % (19 : Int32))), .val (.int (1 : Int32))] [(.int ((p1 &&& (2147483647 : Int32)) % (19 : Int32))), (.ref b2)])) _
    refine X59.aaload hx (j := ((p1 &&& (2147483647 : Int32)) % (19 : Int32))) (v := (.ref w60)) (by rw [e59]; exact Ar_b2.1) (State.isArrayOf_alike hZ.alike Ar_b2.2.1) rfl Ar_b2.2.2 hin163 hat163 (g := (mkF m 163 #[.val (.int p1), .val (.ref b2), .val (.int ((p1 &&& (2147483647 : Int32)) % (19 : Int32))), .val (.int (1 : Int32))] [(.int ((p1 &&& (2147483647 : Int32)) % (19 : Int32))), (.ref b2)])) rfl rfl (hb hby at_163) _ ?_
    show Steps p.tables e below (T59.setTop (mkF m 164 #[.val (.int p1), .val (.ref b2), .val (.int ((p1 &&& (2147483647 : Int32)) % (19 : Int32))), .val (.int (1 : Int32))] [(.ref w60)])) _
    refine st61.trans ?_
    show Steps p.tables e below (T61.setTop (mkF m 167 #[.val (.int p1), .val (.ref b2), .val (.int ((p1 &&& (2147483647 : Int32)) % (19 : Int32))), .val (.int (1 : Int32))] [(.int (1 : Int32))])) _
    refine XS.iloadN X61.here hx rfl (hb hby at_167) rfl ?_
    show Steps p.tables e below (T61.setTop (mkF m 168 #[.val (.int p1), .val (.ref b2), .val (.int ((p1 &&& (2147483647 : Int32)) % (19 : Int32))), .val (.int (1 : Int32))] [(.int (1 : Int32)), (.int (1 : Int32))])) _
    refine XS.icmpNo X61.here hx rfl (hb hby at_168) rfl (teq (rfl : (1 : Int32) = (1 : Int32))).2 ?_
    show Steps p.tables e below (T61.setTop (mkF m 171 #[.val (.int p1), .val (.ref b2), .val (.int ((p1 &&& (2147483647 : Int32)) % (19 : Int32))), .val (.int (1 : Int32))] [])) _
    refine XS.iconst X61.here hx rfl (hb hby at_171) ?_
    show Steps p.tables e below (T61.setTop (mkF m 172 #[.val (.int p1), .val (.ref b2), .val (.int ((p1 &&& (2147483647 : Int32)) % (19 : Int32))), .val (.int (1 : Int32))] [(.int (1 : Int32))])) _
    refine XS.goto X61.here hx rfl (pc0 := 172) (pc' := 176) rfl (hb hby at_172) (by decide) (by decide) ?_
    show Steps p.tables e below (T61.setTop (mkF m 176 #[.val (.int p1), .val (.ref b2), .val (.int ((p1 &&& (2147483647 : Int32)) % (19 : Int32))), .val (.int (1 : Int32))] [(.int (1 : Int32))])) _
    exact retN X61 hx (t := .boolean) Bd.returns (by simp) (hb hby at_176) hr
  · show Q0 Z p1 w3 w6 w9 w12 w15 w18 w21 w24 w27 w30 w33 w36 w39 w42 w45 w48 w51 w54 w57 w60 h0 n0 _ T61.heap _
    exact ⟨rfl, N61⟩
set_option maxRecDepth 65536 in
set_option maxHeartbeats 40000000 in
theorem rm0_ffff (l : Launch) (Z : State) (a0 : Array Value) (hw : ∀ d ∈ tables_1, d.before a0 Z = true) (ws : List Jvm.Cond) (p1 : Int32) (w3 : Addr) (w6 : Addr) (w9 : Addr) (w12 : Addr) (w15 : Addr) (w18 : Addr) (w21 : Addr) (w24 : Addr) (w27 : Addr) (w30 : Addr) (w33 : Addr) (w36 : Addr) (w39 : Addr) (w42 : Addr) (w45 : Addr) (w48 : Addr) (w51 : Addr) (w54 : Addr) (w57 : Addr) (w60 : Addr) (h0 : Heap) (n0 : Nat) (Z0 : n0 ≤ h0.size) (nq0 : ¬ (w60 = w3)) (nq1 : ¬ (w60 = w9)) (nq2 : w60 = w12) (S_SYMBOL : Sta Z h0 "com/example/nuthatch/nuthatch/formula/Kind" "SYMBOL" "Lcom/example/nuthatch/nuthatch/formula/Kind;" (.ref w3)) (E_w3 : Exa Z h0 w3 "com/example/nuthatch/nuthatch/formula/Kind") (S_ROW : Sta Z h0 "com/example/nuthatch/nuthatch/formula/Kind" "ROW" "Lcom/example/nuthatch/nuthatch/formula/Kind;" (.ref w6)) (E_w6 : Exa Z h0 w6 "com/example/nuthatch/nuthatch/formula/Kind") (S_INFIX : Sta Z h0 "com/example/nuthatch/nuthatch/formula/Kind" "INFIX" "Lcom/example/nuthatch/nuthatch/formula/Kind;" (.ref w9)) (E_w9 : Exa Z h0 w9 "com/example/nuthatch/nuthatch/formula/Kind") (S_PREFIX : Sta Z h0 "com/example/nuthatch/nuthatch/formula/Kind" "PREFIX" "Lcom/example/nuthatch/nuthatch/formula/Kind;" (.ref w12)) (E_w12 : Exa Z h0 w12 "com/example/nuthatch/nuthatch/formula/Kind") (S_JUXTAPOSITION : Sta Z h0 "com/example/nuthatch/nuthatch/formula/Kind" "JUXTAPOSITION" "Lcom/example/nuthatch/nuthatch/formula/Kind;" (.ref w15)) (E_w15 : Exa Z h0 w15 "com/example/nuthatch/nuthatch/formula/Kind") (S_SUPERSCRIPT : Sta Z h0 "com/example/nuthatch/nuthatch/formula/Kind" "SUPERSCRIPT" "Lcom/example/nuthatch/nuthatch/formula/Kind;" (.ref w18)) (E_w18 : Exa Z h0 w18 "com/example/nuthatch/nuthatch/formula/Kind") (S_SUBSCRIPT : Sta Z h0 "com/example/nuthatch/nuthatch/formula/Kind" "SUBSCRIPT" "Lcom/example/nuthatch/nuthatch/formula/Kind;" (.ref w21)) (E_w21 : Exa Z h0 w21 "com/example/nuthatch/nuthatch/formula/Kind") (S_SUBSCRIPT_SUPERSCRIPT : Sta Z h0 "com/example/nuthatch/nuthatch/formula/Kind" "SUBSCRIPT_SUPERSCRIPT" "Lcom/example/nuthatch/nuthatch/formula/Kind;" (.ref w24)) (E_w24 : Exa Z h0 w24 "com/example/nuthatch/nuthatch/formula/Kind") (S_FRACTION : Sta Z h0 "com/example/nuthatch/nuthatch/formula/Kind" "FRACTION" "Lcom/example/nuthatch/nuthatch/formula/Kind;" (.ref w27)) (E_w27 : Exa Z h0 w27 "com/example/nuthatch/nuthatch/formula/Kind") (S_ATOP : Sta Z h0 "com/example/nuthatch/nuthatch/formula/Kind" "ATOP" "Lcom/example/nuthatch/nuthatch/formula/Kind;" (.ref w30)) (E_w30 : Exa Z h0 w30 "com/example/nuthatch/nuthatch/formula/Kind") (S_ROOT : Sta Z h0 "com/example/nuthatch/nuthatch/formula/Kind" "ROOT" "Lcom/example/nuthatch/nuthatch/formula/Kind;" (.ref w33)) (E_w33 : Exa Z h0 w33 "com/example/nuthatch/nuthatch/formula/Kind") (S_INDEXED_ROOT : Sta Z h0 "com/example/nuthatch/nuthatch/formula/Kind" "INDEXED_ROOT" "Lcom/example/nuthatch/nuthatch/formula/Kind;" (.ref w36)) (E_w36 : Exa Z h0 w36 "com/example/nuthatch/nuthatch/formula/Kind") (S_FENCE : Sta Z h0 "com/example/nuthatch/nuthatch/formula/Kind" "FENCE" "Lcom/example/nuthatch/nuthatch/formula/Kind;" (.ref w39)) (E_w39 : Exa Z h0 w39 "com/example/nuthatch/nuthatch/formula/Kind") (S_ACCENT : Sta Z h0 "com/example/nuthatch/nuthatch/formula/Kind" "ACCENT" "Lcom/example/nuthatch/nuthatch/formula/Kind;" (.ref w42)) (E_w42 : Exa Z h0 w42 "com/example/nuthatch/nuthatch/formula/Kind") (S_OVER : Sta Z h0 "com/example/nuthatch/nuthatch/formula/Kind" "OVER" "Lcom/example/nuthatch/nuthatch/formula/Kind;" (.ref w45)) (E_w45 : Exa Z h0 w45 "com/example/nuthatch/nuthatch/formula/Kind") (S_UNDER : Sta Z h0 "com/example/nuthatch/nuthatch/formula/Kind" "UNDER" "Lcom/example/nuthatch/nuthatch/formula/Kind;" (.ref w48)) (E_w48 : Exa Z h0 w48 "com/example/nuthatch/nuthatch/formula/Kind") (S_UNDER_OVER : Sta Z h0 "com/example/nuthatch/nuthatch/formula/Kind" "UNDER_OVER" "Lcom/example/nuthatch/nuthatch/formula/Kind;" (.ref w51)) (E_w51 : Exa Z h0 w51 "com/example/nuthatch/nuthatch/formula/Kind") (S_TABLE : Sta Z h0 "com/example/nuthatch/nuthatch/formula/Kind" "TABLE" "Lcom/example/nuthatch/nuthatch/formula/Kind;" (.ref w54)) (E_w54 : Exa Z h0 w54 "com/example/nuthatch/nuthatch/formula/Kind") (S_TABLE_ROW : Sta Z h0 "com/example/nuthatch/nuthatch/formula/Kind" "TABLE_ROW" "Lcom/example/nuthatch/nuthatch/formula/Kind;" (.ref w57)) (E_w57 : Exa Z h0 w57 "com/example/nuthatch/nuthatch/formula/Kind") (E_w60 : Exa Z h0 w60 "com/example/nuthatch/nuthatch/formula/Kind") (hc142 : ¬ (((p1 &&& (2147483647 : Int32)) % (19 : Int32)) = (0 : Int32))) (hc147 : ¬ (((p1 &&& (2147483647 : Int32)) % (19 : Int32)) = (2 : Int32))) (hc152 : ((p1 &&& (2147483647 : Int32)) % (19 : Int32)) = (3 : Int32)) (hn163 : ¬ (((p1 &&& (2147483647 : Int32)) % (19 : Int32)) < 0)) (hl163 : ((p1 &&& (2147483647 : Int32)) % (19 : Int32)) < (19 : Int32)) (hv163 : ([(.ref w3), (.ref w6), (.ref w9), (.ref w12), (.ref w15), (.ref w18), (.ref w21), (.ref w24), (.ref w27), (.ref w30), (.ref w33), (.ref w36), (.ref w39), (.ref w42), (.ref w45), (.ref w48), (.ref w51), (.ref w54), (.ref w57)] : List Value).getD (((p1 &&& (2147483647 : Int32)) % (19 : Int32))).toNatClampNeg .null = (.ref w60)) :
    MetFree l x (head1 (Jvm.Cond.code x code maxLocals ret :: ws) room_1) (fun a U => a = #[(.int p1)] ∧ Z.Warmed39 U.vm ∧ U.heap = h0) (fun _ _ _ _ _ => True) (fun _ U o U' => ∃ v L, o = .returned v ∧ Q0 Z p1 w3 w6 w9 w12 w15 w18 w21 w24 w27 w30 w33 w36 w39 w42 w45 w48 w51 w54 w57 w60 h0 n0 v U'.heap L ∧ FrameEnd U o U' L room_1.cells room_1.slots) := by
  refine MetFree.of_bodySF (plainFor_of_name pn_0) hisR ?_
  intro p e s m args below meth c s₁ Bd hml0 hP hK
  obtain ⟨rfl, hZ, hh⟩ := hP
  have hx := Bd.exec
  have hby := Bd.bytes
  have hml : c.maxLocals = 4 := hml0
  have hown : s.vm.findClass "com/example/nuthatch/nuthatch/formula/KindHasSymbolPinLaw" = some m.cls := findClass_of_methodNamed Bd.named
  have hnm := (name_of_methodNamed Bd.named Bd.method).1
  have X0 : Stand p l e room_1 s m #[(.int p1)] below meth c s₁ [] 0 0 := Stand.of_body Bd
  have e0 : s₁.heap = h0 := by rw [← hh, Bd.state]; rfl
  have N0 := Fr.nil n0
  have pre0 : ∀ t, Steps p.tables e below (s₁.setTop (mkF m 0 #[.val (.int p1), .unset, .unset, .unset] [])) t → Steps p.tables e below (s₁.setTop (entryFrame m #[(.int p1)] maxLocals)) t := fun t k => castTop (ef_0 m p1) k
  obtain ⟨T2, h2, k2, X2, e2, E2, A2, O2, st2⟩ := newR X0 hx hZ hown (hw _ (List.mem_of_getElem? (i := 0) rfl)) (hw _ (List.mem_of_getElem? (i := 1) rfl)) e0 (g := (mkF m 2 #[.val (.int p1), .unset, .unset, .unset] [(.int (19 : Int32))])) rfl (hb hby at_2) rfl (by decide) (cap := 19) (by decide) (by decide) (by decide) (by decide)
  obtain ⟨b2, g2⟩ : ∃ z, z = h0.size := ⟨_, rfl⟩
  rw [← g2] at A2 st2
  have V_b2 : Arv Z h2 b2 k2 (.object "com/example/nuthatch/nuthatch/formula/Kind") (19 : Int32) [.null, .null, .null, .null, .null, .null, .null, .null, .null, .null, .null, .null, .null, .null, .null, .null, .null, .null, .null] .null := (Arv.new A2 (by decide)).pad (pad_rep [] .null 19)
  have g_b2 : n0 ≤ b2 := Nat.le_trans Z0 (Nat.le_of_eq g2.symm)
  have sz_b2 : h0.size ≤ b2 := (Nat.le_trans (Keep.refl h0 []).1 (Nat.le_of_eq g2.symm))
  have K2 : Keep h0 h2 [] := (Keep.refl h0 []).ext E2
  obtain ⟨T4, X4, e4, st4⟩ := getS2 X2 hx hZ hown (host := "") (Or.inl (hw _ (List.mem_of_getElem? (i := 2) rfl))) Via.refl e2 (own_stk S_SYMBOL K2) (g := (mkF m 7 #[.val (.int p1), .unset, .unset, .unset] [(.int (0 : Int32)), (.ref b2), (.ref b2)])) rfl (hb hby at_7)
  obtain ⟨cl_b2_10, Ar_b2, q_b2, S_b2, N_b2, H_b2, G_b2⟩ := V_b2
  have hin10 : ¬ ((0 : Int32) < 0 ∨ cl_b2_10.slots.size ≤ ((0 : Int32)).toNatClampNeg) := inb_of S_b2 ⟨by decide, by decide⟩
  obtain ⟨T5, h5, X5, e5, W5, st5⟩ := stR X4 hx hZ e4 Ar_b2 (j := (0 : Int32)) hin10 rfl (Sto.ofV Ar_b2 q_b2 O2 (Ins.self (E_w3.keep K2))) (g := (mkF m 10 #[.val (.int p1), .unset, .unset, .unset] [(.ref w3), (.int (0 : Int32)), (.ref b2), (.ref b2)])) rfl rfl (hb hby at_10)
  have V_b2_5 : Arv Z h5 b2 k2 (.object "com/example/nuthatch/nuthatch/formula/Kind") (19 : Int32) [(.ref w3), .null, .null, .null, .null, .null, .null, .null, .null, .null, .null, .null, .null, .null, .null, .null, .null, .null, .null] .null := Arv.set Ar_b2 q_b2 S_b2 N_b2 H_b2 G_b2 rfl W5 0 rfl (Nat.le_of_ble_eq_true rfl)
  have N5 := Fr.snoc X5 N0 g_b2
  have K5 : Keep h0 h5 [] := K2.wr W5 (Or.inr sz_b2)
  obtain ⟨T7, X7, e7, st7⟩ := getS2 X5 hx hZ hown (host := "") (Or.inl (hw _ (List.mem_of_getElem? (i := 6) rfl))) Via.refl e5 (own_stk S_ROW K5) (g := (mkF m 13 #[.val (.int p1), .unset, .unset, .unset] [(.int (1 : Int32)), (.ref b2), (.ref b2)])) rfl (hb hby at_13)
  obtain ⟨cl_b2_16, Ar_b2, q_b2, S_b2, N_b2, H_b2, G_b2⟩ := V_b2_5
  have hin16 : ¬ ((1 : Int32) < 0 ∨ cl_b2_16.slots.size ≤ ((1 : Int32)).toNatClampNeg) := inb_of S_b2 ⟨by decide, by decide⟩
  obtain ⟨T8, h8, X8, e8, W8, st8⟩ := stR X7 hx hZ e7 Ar_b2 (j := (1 : Int32)) hin16 rfl (Sto.ofV Ar_b2 q_b2 O2 (Ins.self (E_w6.keep K5))) (g := (mkF m 16 #[.val (.int p1), .unset, .unset, .unset] [(.ref w6), (.int (1 : Int32)), (.ref b2), (.ref b2)])) rfl rfl (hb hby at_16)
  have V_b2_8 : Arv Z h8 b2 k2 (.object "com/example/nuthatch/nuthatch/formula/Kind") (19 : Int32) [(.ref w3), (.ref w6), .null, .null, .null, .null, .null, .null, .null, .null, .null, .null, .null, .null, .null, .null, .null, .null, .null] .null := Arv.set Ar_b2 q_b2 S_b2 N_b2 H_b2 G_b2 rfl W8 1 rfl (Nat.le_of_ble_eq_true rfl)
  have N8 := Fr.snoc X8 N5 g_b2
  have K8 : Keep h0 h8 [] := K5.wr W8 (Or.inr sz_b2)
  obtain ⟨T10, X10, e10, st10⟩ := getS2 X8 hx hZ hown (host := "") (Or.inl (hw _ (List.mem_of_getElem? (i := 8) rfl))) Via.refl e8 (own_stk S_INFIX K8) (g := (mkF m 19 #[.val (.int p1), .unset, .unset, .unset] [(.int (2 : Int32)), (.ref b2), (.ref b2)])) rfl (hb hby at_19)
  obtain ⟨cl_b2_22, Ar_b2, q_b2, S_b2, N_b2, H_b2, G_b2⟩ := V_b2_8
  have hin22 : ¬ ((2 : Int32) < 0 ∨ cl_b2_22.slots.size ≤ ((2 : Int32)).toNatClampNeg) := inb_of S_b2 ⟨by decide, by decide⟩
  obtain ⟨T11, h11, X11, e11, W11, st11⟩ := stR X10 hx hZ e10 Ar_b2 (j := (2 : Int32)) hin22 rfl (Sto.ofV Ar_b2 q_b2 O2 (Ins.self (E_w9.keep K8))) (g := (mkF m 22 #[.val (.int p1), .unset, .unset, .unset] [(.ref w9), (.int (2 : Int32)), (.ref b2), (.ref b2)])) rfl rfl (hb hby at_22)
  have V_b2_11 : Arv Z h11 b2 k2 (.object "com/example/nuthatch/nuthatch/formula/Kind") (19 : Int32) [(.ref w3), (.ref w6), (.ref w9), .null, .null, .null, .null, .null, .null, .null, .null, .null, .null, .null, .null, .null, .null, .null, .null] .null := Arv.set Ar_b2 q_b2 S_b2 N_b2 H_b2 G_b2 rfl W11 2 rfl (Nat.le_of_ble_eq_true rfl)
  have N11 := Fr.snoc X11 N8 g_b2
  have K11 : Keep h0 h11 [] := K8.wr W11 (Or.inr sz_b2)
  obtain ⟨T13, X13, e13, st13⟩ := getS2 X11 hx hZ hown (host := "") (Or.inl (hw _ (List.mem_of_getElem? (i := 10) rfl))) Via.refl e11 (own_stk S_PREFIX K11) (g := (mkF m 25 #[.val (.int p1), .unset, .unset, .unset] [(.int (3 : Int32)), (.ref b2), (.ref b2)])) rfl (hb hby at_25)
  obtain ⟨cl_b2_28, Ar_b2, q_b2, S_b2, N_b2, H_b2, G_b2⟩ := V_b2_11
  have hin28 : ¬ ((3 : Int32) < 0 ∨ cl_b2_28.slots.size ≤ ((3 : Int32)).toNatClampNeg) := inb_of S_b2 ⟨by decide, by decide⟩
  obtain ⟨T14, h14, X14, e14, W14, st14⟩ := stR X13 hx hZ e13 Ar_b2 (j := (3 : Int32)) hin28 rfl (Sto.ofV Ar_b2 q_b2 O2 (Ins.self (E_w12.keep K11))) (g := (mkF m 28 #[.val (.int p1), .unset, .unset, .unset] [(.ref w12), (.int (3 : Int32)), (.ref b2), (.ref b2)])) rfl rfl (hb hby at_28)
  have V_b2_14 : Arv Z h14 b2 k2 (.object "com/example/nuthatch/nuthatch/formula/Kind") (19 : Int32) [(.ref w3), (.ref w6), (.ref w9), (.ref w12), .null, .null, .null, .null, .null, .null, .null, .null, .null, .null, .null, .null, .null, .null, .null] .null := Arv.set Ar_b2 q_b2 S_b2 N_b2 H_b2 G_b2 rfl W14 3 rfl (Nat.le_of_ble_eq_true rfl)
  have N14 := Fr.snoc X14 N11 g_b2
  have K14 : Keep h0 h14 [] := K11.wr W14 (Or.inr sz_b2)
  obtain ⟨T16, X16, e16, st16⟩ := getS2 X14 hx hZ hown (host := "") (Or.inl (hw _ (List.mem_of_getElem? (i := 12) rfl))) Via.refl e14 (own_stk S_JUXTAPOSITION K14) (g := (mkF m 31 #[.val (.int p1), .unset, .unset, .unset] [(.int (4 : Int32)), (.ref b2), (.ref b2)])) rfl (hb hby at_31)
  obtain ⟨cl_b2_34, Ar_b2, q_b2, S_b2, N_b2, H_b2, G_b2⟩ := V_b2_14
  have hin34 : ¬ ((4 : Int32) < 0 ∨ cl_b2_34.slots.size ≤ ((4 : Int32)).toNatClampNeg) := inb_of S_b2 ⟨by decide, by decide⟩
  obtain ⟨T17, h17, X17, e17, W17, st17⟩ := stR X16 hx hZ e16 Ar_b2 (j := (4 : Int32)) hin34 rfl (Sto.ofV Ar_b2 q_b2 O2 (Ins.self (E_w15.keep K14))) (g := (mkF m 34 #[.val (.int p1), .unset, .unset, .unset] [(.ref w15), (.int (4 : Int32)), (.ref b2), (.ref b2)])) rfl rfl (hb hby at_34)
  have V_b2_17 : Arv Z h17 b2 k2 (.object "com/example/nuthatch/nuthatch/formula/Kind") (19 : Int32) [(.ref w3), (.ref w6), (.ref w9), (.ref w12), (.ref w15), .null, .null, .null, .null, .null, .null, .null, .null, .null, .null, .null, .null, .null, .null] .null := Arv.set Ar_b2 q_b2 S_b2 N_b2 H_b2 G_b2 rfl W17 4 rfl (Nat.le_of_ble_eq_true rfl)
  have N17 := Fr.snoc X17 N14 g_b2
  have K17 : Keep h0 h17 [] := K14.wr W17 (Or.inr sz_b2)
  obtain ⟨T19, X19, e19, st19⟩ := getS2 X17 hx hZ hown (host := "") (Or.inl (hw _ (List.mem_of_getElem? (i := 14) rfl))) Via.refl e17 (own_stk S_SUPERSCRIPT K17) (g := (mkF m 37 #[.val (.int p1), .unset, .unset, .unset] [(.int (5 : Int32)), (.ref b2), (.ref b2)])) rfl (hb hby at_37)
  obtain ⟨cl_b2_40, Ar_b2, q_b2, S_b2, N_b2, H_b2, G_b2⟩ := V_b2_17
  have hin40 : ¬ ((5 : Int32) < 0 ∨ cl_b2_40.slots.size ≤ ((5 : Int32)).toNatClampNeg) := inb_of S_b2 ⟨by decide, by decide⟩
  obtain ⟨T20, h20, X20, e20, W20, st20⟩ := stR X19 hx hZ e19 Ar_b2 (j := (5 : Int32)) hin40 rfl (Sto.ofV Ar_b2 q_b2 O2 (Ins.self (E_w18.keep K17))) (g := (mkF m 40 #[.val (.int p1), .unset, .unset, .unset] [(.ref w18), (.int (5 : Int32)), (.ref b2), (.ref b2)])) rfl rfl (hb hby at_40)
  have V_b2_20 : Arv Z h20 b2 k2 (.object "com/example/nuthatch/nuthatch/formula/Kind") (19 : Int32) [(.ref w3), (.ref w6), (.ref w9), (.ref w12), (.ref w15), (.ref w18), .null, .null, .null, .null, .null, .null, .null, .null, .null, .null, .null, .null, .null] .null := Arv.set Ar_b2 q_b2 S_b2 N_b2 H_b2 G_b2 rfl W20 5 rfl (Nat.le_of_ble_eq_true rfl)
  have N20 := Fr.snoc X20 N17 g_b2
  have K20 : Keep h0 h20 [] := K17.wr W20 (Or.inr sz_b2)
  obtain ⟨T22, X22, e22, st22⟩ := getS2 X20 hx hZ hown (host := "") (Or.inl (hw _ (List.mem_of_getElem? (i := 16) rfl))) Via.refl e20 (own_stk S_SUBSCRIPT K20) (g := (mkF m 44 #[.val (.int p1), .unset, .unset, .unset] [(.int (6 : Int32)), (.ref b2), (.ref b2)])) rfl (hb hby at_44)
  obtain ⟨cl_b2_47, Ar_b2, q_b2, S_b2, N_b2, H_b2, G_b2⟩ := V_b2_20
  have hin47 : ¬ ((6 : Int32) < 0 ∨ cl_b2_47.slots.size ≤ ((6 : Int32)).toNatClampNeg) := inb_of S_b2 ⟨by decide, by decide⟩
  obtain ⟨T23, h23, X23, e23, W23, st23⟩ := stR X22 hx hZ e22 Ar_b2 (j := (6 : Int32)) hin47 rfl (Sto.ofV Ar_b2 q_b2 O2 (Ins.self (E_w21.keep K20))) (g := (mkF m 47 #[.val (.int p1), .unset, .unset, .unset] [(.ref w21), (.int (6 : Int32)), (.ref b2), (.ref b2)])) rfl rfl (hb hby at_47)
  have V_b2_23 : Arv Z h23 b2 k2 (.object "com/example/nuthatch/nuthatch/formula/Kind") (19 : Int32) [(.ref w3), (.ref w6), (.ref w9), (.ref w12), (.ref w15), (.ref w18), (.ref w21), .null, .null, .null, .null, .null, .null, .null, .null, .null, .null, .null, .null] .null := Arv.set Ar_b2 q_b2 S_b2 N_b2 H_b2 G_b2 rfl W23 6 rfl (Nat.le_of_ble_eq_true rfl)
  have N23 := Fr.snoc X23 N20 g_b2
  have K23 : Keep h0 h23 [] := K20.wr W23 (Or.inr sz_b2)
  obtain ⟨T25, X25, e25, st25⟩ := getS2 X23 hx hZ hown (host := "") (Or.inl (hw _ (List.mem_of_getElem? (i := 18) rfl))) Via.refl e23 (own_stk S_SUBSCRIPT_SUPERSCRIPT K23) (g := (mkF m 51 #[.val (.int p1), .unset, .unset, .unset] [(.int (7 : Int32)), (.ref b2), (.ref b2)])) rfl (hb hby at_51)
  obtain ⟨cl_b2_54, Ar_b2, q_b2, S_b2, N_b2, H_b2, G_b2⟩ := V_b2_23
  have hin54 : ¬ ((7 : Int32) < 0 ∨ cl_b2_54.slots.size ≤ ((7 : Int32)).toNatClampNeg) := inb_of S_b2 ⟨by decide, by decide⟩
  obtain ⟨T26, h26, X26, e26, W26, st26⟩ := stR X25 hx hZ e25 Ar_b2 (j := (7 : Int32)) hin54 rfl (Sto.ofV Ar_b2 q_b2 O2 (Ins.self (E_w24.keep K23))) (g := (mkF m 54 #[.val (.int p1), .unset, .unset, .unset] [(.ref w24), (.int (7 : Int32)), (.ref b2), (.ref b2)])) rfl rfl (hb hby at_54)
  have V_b2_26 : Arv Z h26 b2 k2 (.object "com/example/nuthatch/nuthatch/formula/Kind") (19 : Int32) [(.ref w3), (.ref w6), (.ref w9), (.ref w12), (.ref w15), (.ref w18), (.ref w21), (.ref w24), .null, .null, .null, .null, .null, .null, .null, .null, .null, .null, .null] .null := Arv.set Ar_b2 q_b2 S_b2 N_b2 H_b2 G_b2 rfl W26 7 rfl (Nat.le_of_ble_eq_true rfl)
  have N26 := Fr.snoc X26 N23 g_b2
  have K26 : Keep h0 h26 [] := K23.wr W26 (Or.inr sz_b2)
  obtain ⟨T28, X28, e28, st28⟩ := getS2 X26 hx hZ hown (host := "") (Or.inl (hw _ (List.mem_of_getElem? (i := 20) rfl))) Via.refl e26 (own_stk S_FRACTION K26) (g := (mkF m 58 #[.val (.int p1), .unset, .unset, .unset] [(.int (8 : Int32)), (.ref b2), (.ref b2)])) rfl (hb hby at_58)
  obtain ⟨cl_b2_61, Ar_b2, q_b2, S_b2, N_b2, H_b2, G_b2⟩ := V_b2_26
  have hin61 : ¬ ((8 : Int32) < 0 ∨ cl_b2_61.slots.size ≤ ((8 : Int32)).toNatClampNeg) := inb_of S_b2 ⟨by decide, by decide⟩
  obtain ⟨T29, h29, X29, e29, W29, st29⟩ := stR X28 hx hZ e28 Ar_b2 (j := (8 : Int32)) hin61 rfl (Sto.ofV Ar_b2 q_b2 O2 (Ins.self (E_w27.keep K26))) (g := (mkF m 61 #[.val (.int p1), .unset, .unset, .unset] [(.ref w27), (.int (8 : Int32)), (.ref b2), (.ref b2)])) rfl rfl (hb hby at_61)
  have V_b2_29 : Arv Z h29 b2 k2 (.object "com/example/nuthatch/nuthatch/formula/Kind") (19 : Int32) [(.ref w3), (.ref w6), (.ref w9), (.ref w12), (.ref w15), (.ref w18), (.ref w21), (.ref w24), (.ref w27), .null, .null, .null, .null, .null, .null, .null, .null, .null, .null] .null := Arv.set Ar_b2 q_b2 S_b2 N_b2 H_b2 G_b2 rfl W29 8 rfl (Nat.le_of_ble_eq_true rfl)
  have N29 := Fr.snoc X29 N26 g_b2
  have K29 : Keep h0 h29 [] := K26.wr W29 (Or.inr sz_b2)
  obtain ⟨T31, X31, e31, st31⟩ := getS2 X29 hx hZ hown (host := "") (Or.inl (hw _ (List.mem_of_getElem? (i := 22) rfl))) Via.refl e29 (own_stk S_ATOP K29) (g := (mkF m 65 #[.val (.int p1), .unset, .unset, .unset] [(.int (9 : Int32)), (.ref b2), (.ref b2)])) rfl (hb hby at_65)
  obtain ⟨cl_b2_68, Ar_b2, q_b2, S_b2, N_b2, H_b2, G_b2⟩ := V_b2_29
  have hin68 : ¬ ((9 : Int32) < 0 ∨ cl_b2_68.slots.size ≤ ((9 : Int32)).toNatClampNeg) := inb_of S_b2 ⟨by decide, by decide⟩
  obtain ⟨T32, h32, X32, e32, W32, st32⟩ := stR X31 hx hZ e31 Ar_b2 (j := (9 : Int32)) hin68 rfl (Sto.ofV Ar_b2 q_b2 O2 (Ins.self (E_w30.keep K29))) (g := (mkF m 68 #[.val (.int p1), .unset, .unset, .unset] [(.ref w30), (.int (9 : Int32)), (.ref b2), (.ref b2)])) rfl rfl (hb hby at_68)
  have V_b2_32 : Arv Z h32 b2 k2 (.object "com/example/nuthatch/nuthatch/formula/Kind") (19 : Int32) [(.ref w3), (.ref w6), (.ref w9), (.ref w12), (.ref w15), (.ref w18), (.ref w21), (.ref w24), (.ref w27), (.ref w30), .null, .null, .null, .null, .null, .null, .null, .null, .null] .null := Arv.set Ar_b2 q_b2 S_b2 N_b2 H_b2 G_b2 rfl W32 9 rfl (Nat.le_of_ble_eq_true rfl)
  have N32 := Fr.snoc X32 N29 g_b2
  have K32 : Keep h0 h32 [] := K29.wr W32 (Or.inr sz_b2)
  obtain ⟨T34, X34, e34, st34⟩ := getS2 X32 hx hZ hown (host := "") (Or.inl (hw _ (List.mem_of_getElem? (i := 24) rfl))) Via.refl e32 (own_stk S_ROOT K32) (g := (mkF m 72 #[.val (.int p1), .unset, .unset, .unset] [(.int (10 : Int32)), (.ref b2), (.ref b2)])) rfl (hb hby at_72)
  obtain ⟨cl_b2_75, Ar_b2, q_b2, S_b2, N_b2, H_b2, G_b2⟩ := V_b2_32
  have hin75 : ¬ ((10 : Int32) < 0 ∨ cl_b2_75.slots.size ≤ ((10 : Int32)).toNatClampNeg) := inb_of S_b2 ⟨by decide, by decide⟩
  obtain ⟨T35, h35, X35, e35, W35, st35⟩ := stR X34 hx hZ e34 Ar_b2 (j := (10 : Int32)) hin75 rfl (Sto.ofV Ar_b2 q_b2 O2 (Ins.self (E_w33.keep K32))) (g := (mkF m 75 #[.val (.int p1), .unset, .unset, .unset] [(.ref w33), (.int (10 : Int32)), (.ref b2), (.ref b2)])) rfl rfl (hb hby at_75)
  have V_b2_35 : Arv Z h35 b2 k2 (.object "com/example/nuthatch/nuthatch/formula/Kind") (19 : Int32) [(.ref w3), (.ref w6), (.ref w9), (.ref w12), (.ref w15), (.ref w18), (.ref w21), (.ref w24), (.ref w27), (.ref w30), (.ref w33), .null, .null, .null, .null, .null, .null, .null, .null] .null := Arv.set Ar_b2 q_b2 S_b2 N_b2 H_b2 G_b2 rfl W35 10 rfl (Nat.le_of_ble_eq_true rfl)
  have N35 := Fr.snoc X35 N32 g_b2
  have K35 : Keep h0 h35 [] := K32.wr W35 (Or.inr sz_b2)
  obtain ⟨T37, X37, e37, st37⟩ := getS2 X35 hx hZ hown (host := "") (Or.inl (hw _ (List.mem_of_getElem? (i := 26) rfl))) Via.refl e35 (own_stk S_INDEXED_ROOT K35) (g := (mkF m 79 #[.val (.int p1), .unset, .unset, .unset] [(.int (11 : Int32)), (.ref b2), (.ref b2)])) rfl (hb hby at_79)
  obtain ⟨cl_b2_82, Ar_b2, q_b2, S_b2, N_b2, H_b2, G_b2⟩ := V_b2_35
  have hin82 : ¬ ((11 : Int32) < 0 ∨ cl_b2_82.slots.size ≤ ((11 : Int32)).toNatClampNeg) := inb_of S_b2 ⟨by decide, by decide⟩
  obtain ⟨T38, h38, X38, e38, W38, st38⟩ := stR X37 hx hZ e37 Ar_b2 (j := (11 : Int32)) hin82 rfl (Sto.ofV Ar_b2 q_b2 O2 (Ins.self (E_w36.keep K35))) (g := (mkF m 82 #[.val (.int p1), .unset, .unset, .unset] [(.ref w36), (.int (11 : Int32)), (.ref b2), (.ref b2)])) rfl rfl (hb hby at_82)
  have V_b2_38 : Arv Z h38 b2 k2 (.object "com/example/nuthatch/nuthatch/formula/Kind") (19 : Int32) [(.ref w3), (.ref w6), (.ref w9), (.ref w12), (.ref w15), (.ref w18), (.ref w21), (.ref w24), (.ref w27), (.ref w30), (.ref w33), (.ref w36), .null, .null, .null, .null, .null, .null, .null] .null := Arv.set Ar_b2 q_b2 S_b2 N_b2 H_b2 G_b2 rfl W38 11 rfl (Nat.le_of_ble_eq_true rfl)
  have N38 := Fr.snoc X38 N35 g_b2
  have K38 : Keep h0 h38 [] := K35.wr W38 (Or.inr sz_b2)
  obtain ⟨T40, X40, e40, st40⟩ := getS2 X38 hx hZ hown (host := "") (Or.inl (hw _ (List.mem_of_getElem? (i := 28) rfl))) Via.refl e38 (own_stk S_FENCE K38) (g := (mkF m 86 #[.val (.int p1), .unset, .unset, .unset] [(.int (12 : Int32)), (.ref b2), (.ref b2)])) rfl (hb hby at_86)
  obtain ⟨cl_b2_89, Ar_b2, q_b2, S_b2, N_b2, H_b2, G_b2⟩ := V_b2_38
  have hin89 : ¬ ((12 : Int32) < 0 ∨ cl_b2_89.slots.size ≤ ((12 : Int32)).toNatClampNeg) := inb_of S_b2 ⟨by decide, by decide⟩
  obtain ⟨T41, h41, X41, e41, W41, st41⟩ := stR X40 hx hZ e40 Ar_b2 (j := (12 : Int32)) hin89 rfl (Sto.ofV Ar_b2 q_b2 O2 (Ins.self (E_w39.keep K38))) (g := (mkF m 89 #[.val (.int p1), .unset, .unset, .unset] [(.ref w39), (.int (12 : Int32)), (.ref b2), (.ref b2)])) rfl rfl (hb hby at_89)
  have V_b2_41 : Arv Z h41 b2 k2 (.object "com/example/nuthatch/nuthatch/formula/Kind") (19 : Int32) [(.ref w3), (.ref w6), (.ref w9), (.ref w12), (.ref w15), (.ref w18), (.ref w21), (.ref w24), (.ref w27), (.ref w30), (.ref w33), (.ref w36), (.ref w39), .null, .null, .null, .null, .null, .null] .null := Arv.set Ar_b2 q_b2 S_b2 N_b2 H_b2 G_b2 rfl W41 12 rfl (Nat.le_of_ble_eq_true rfl)
  have N41 := Fr.snoc X41 N38 g_b2
  have K41 : Keep h0 h41 [] := K38.wr W41 (Or.inr sz_b2)
  obtain ⟨T43, X43, e43, st43⟩ := getS2 X41 hx hZ hown (host := "") (Or.inl (hw _ (List.mem_of_getElem? (i := 30) rfl))) Via.refl e41 (own_stk S_ACCENT K41) (g := (mkF m 93 #[.val (.int p1), .unset, .unset, .unset] [(.int (13 : Int32)), (.ref b2), (.ref b2)])) rfl (hb hby at_93)
  obtain ⟨cl_b2_96, Ar_b2, q_b2, S_b2, N_b2, H_b2, G_b2⟩ := V_b2_41
  have hin96 : ¬ ((13 : Int32) < 0 ∨ cl_b2_96.slots.size ≤ ((13 : Int32)).toNatClampNeg) := inb_of S_b2 ⟨by decide, by decide⟩
  obtain ⟨T44, h44, X44, e44, W44, st44⟩ := stR X43 hx hZ e43 Ar_b2 (j := (13 : Int32)) hin96 rfl (Sto.ofV Ar_b2 q_b2 O2 (Ins.self (E_w42.keep K41))) (g := (mkF m 96 #[.val (.int p1), .unset, .unset, .unset] [(.ref w42), (.int (13 : Int32)), (.ref b2), (.ref b2)])) rfl rfl (hb hby at_96)
  have V_b2_44 : Arv Z h44 b2 k2 (.object "com/example/nuthatch/nuthatch/formula/Kind") (19 : Int32) [(.ref w3), (.ref w6), (.ref w9), (.ref w12), (.ref w15), (.ref w18), (.ref w21), (.ref w24), (.ref w27), (.ref w30), (.ref w33), (.ref w36), (.ref w39), (.ref w42), .null, .null, .null, .null, .null] .null := Arv.set Ar_b2 q_b2 S_b2 N_b2 H_b2 G_b2 rfl W44 13 rfl (Nat.le_of_ble_eq_true rfl)
  have N44 := Fr.snoc X44 N41 g_b2
  have K44 : Keep h0 h44 [] := K41.wr W44 (Or.inr sz_b2)
  obtain ⟨T46, X46, e46, st46⟩ := getS2 X44 hx hZ hown (host := "") (Or.inl (hw _ (List.mem_of_getElem? (i := 32) rfl))) Via.refl e44 (own_stk S_OVER K44) (g := (mkF m 100 #[.val (.int p1), .unset, .unset, .unset] [(.int (14 : Int32)), (.ref b2), (.ref b2)])) rfl (hb hby at_100)
  obtain ⟨cl_b2_103, Ar_b2, q_b2, S_b2, N_b2, H_b2, G_b2⟩ := V_b2_44
  have hin103 : ¬ ((14 : Int32) < 0 ∨ cl_b2_103.slots.size ≤ ((14 : Int32)).toNatClampNeg) := inb_of S_b2 ⟨by decide, by decide⟩
  obtain ⟨T47, h47, X47, e47, W47, st47⟩ := stR X46 hx hZ e46 Ar_b2 (j := (14 : Int32)) hin103 rfl (Sto.ofV Ar_b2 q_b2 O2 (Ins.self (E_w45.keep K44))) (g := (mkF m 103 #[.val (.int p1), .unset, .unset, .unset] [(.ref w45), (.int (14 : Int32)), (.ref b2), (.ref b2)])) rfl rfl (hb hby at_103)
  have V_b2_47 : Arv Z h47 b2 k2 (.object "com/example/nuthatch/nuthatch/formula/Kind") (19 : Int32) [(.ref w3), (.ref w6), (.ref w9), (.ref w12), (.ref w15), (.ref w18), (.ref w21), (.ref w24), (.ref w27), (.ref w30), (.ref w33), (.ref w36), (.ref w39), (.ref w42), (.ref w45), .null, .null, .null, .null] .null := Arv.set Ar_b2 q_b2 S_b2 N_b2 H_b2 G_b2 rfl W47 14 rfl (Nat.le_of_ble_eq_true rfl)
  have N47 := Fr.snoc X47 N44 g_b2
  have K47 : Keep h0 h47 [] := K44.wr W47 (Or.inr sz_b2)
  obtain ⟨T49, X49, e49, st49⟩ := getS2 X47 hx hZ hown (host := "") (Or.inl (hw _ (List.mem_of_getElem? (i := 34) rfl))) Via.refl e47 (own_stk S_UNDER K47) (g := (mkF m 107 #[.val (.int p1), .unset, .unset, .unset] [(.int (15 : Int32)), (.ref b2), (.ref b2)])) rfl (hb hby at_107)
  obtain ⟨cl_b2_110, Ar_b2, q_b2, S_b2, N_b2, H_b2, G_b2⟩ := V_b2_47
  have hin110 : ¬ ((15 : Int32) < 0 ∨ cl_b2_110.slots.size ≤ ((15 : Int32)).toNatClampNeg) := inb_of S_b2 ⟨by decide, by decide⟩
  obtain ⟨T50, h50, X50, e50, W50, st50⟩ := stR X49 hx hZ e49 Ar_b2 (j := (15 : Int32)) hin110 rfl (Sto.ofV Ar_b2 q_b2 O2 (Ins.self (E_w48.keep K47))) (g := (mkF m 110 #[.val (.int p1), .unset, .unset, .unset] [(.ref w48), (.int (15 : Int32)), (.ref b2), (.ref b2)])) rfl rfl (hb hby at_110)
  have V_b2_50 : Arv Z h50 b2 k2 (.object "com/example/nuthatch/nuthatch/formula/Kind") (19 : Int32) [(.ref w3), (.ref w6), (.ref w9), (.ref w12), (.ref w15), (.ref w18), (.ref w21), (.ref w24), (.ref w27), (.ref w30), (.ref w33), (.ref w36), (.ref w39), (.ref w42), (.ref w45), (.ref w48), .null, .null, .null] .null := Arv.set Ar_b2 q_b2 S_b2 N_b2 H_b2 G_b2 rfl W50 15 rfl (Nat.le_of_ble_eq_true rfl)
  have N50 := Fr.snoc X50 N47 g_b2
  have K50 : Keep h0 h50 [] := K47.wr W50 (Or.inr sz_b2)
  obtain ⟨T52, X52, e52, st52⟩ := getS2 X50 hx hZ hown (host := "") (Or.inl (hw _ (List.mem_of_getElem? (i := 36) rfl))) Via.refl e50 (own_stk S_UNDER_OVER K50) (g := (mkF m 114 #[.val (.int p1), .unset, .unset, .unset] [(.int (16 : Int32)), (.ref b2), (.ref b2)])) rfl (hb hby at_114)
  obtain ⟨cl_b2_117, Ar_b2, q_b2, S_b2, N_b2, H_b2, G_b2⟩ := V_b2_50
  have hin117 : ¬ ((16 : Int32) < 0 ∨ cl_b2_117.slots.size ≤ ((16 : Int32)).toNatClampNeg) := inb_of S_b2 ⟨by decide, by decide⟩
  obtain ⟨T53, h53, X53, e53, W53, st53⟩ := stR X52 hx hZ e52 Ar_b2 (j := (16 : Int32)) hin117 rfl (Sto.ofV Ar_b2 q_b2 O2 (Ins.self (E_w51.keep K50))) (g := (mkF m 117 #[.val (.int p1), .unset, .unset, .unset] [(.ref w51), (.int (16 : Int32)), (.ref b2), (.ref b2)])) rfl rfl (hb hby at_117)
  have V_b2_53 : Arv Z h53 b2 k2 (.object "com/example/nuthatch/nuthatch/formula/Kind") (19 : Int32) [(.ref w3), (.ref w6), (.ref w9), (.ref w12), (.ref w15), (.ref w18), (.ref w21), (.ref w24), (.ref w27), (.ref w30), (.ref w33), (.ref w36), (.ref w39), (.ref w42), (.ref w45), (.ref w48), (.ref w51), .null, .null] .null := Arv.set Ar_b2 q_b2 S_b2 N_b2 H_b2 G_b2 rfl W53 16 rfl (Nat.le_of_ble_eq_true rfl)
  have N53 := Fr.snoc X53 N50 g_b2
  have K53 : Keep h0 h53 [] := K50.wr W53 (Or.inr sz_b2)
  obtain ⟨T55, X55, e55, st55⟩ := getS2 X53 hx hZ hown (host := "") (Or.inl (hw _ (List.mem_of_getElem? (i := 38) rfl))) Via.refl e53 (own_stk S_TABLE K53) (g := (mkF m 121 #[.val (.int p1), .unset, .unset, .unset] [(.int (17 : Int32)), (.ref b2), (.ref b2)])) rfl (hb hby at_121)
  obtain ⟨cl_b2_124, Ar_b2, q_b2, S_b2, N_b2, H_b2, G_b2⟩ := V_b2_53
  have hin124 : ¬ ((17 : Int32) < 0 ∨ cl_b2_124.slots.size ≤ ((17 : Int32)).toNatClampNeg) := inb_of S_b2 ⟨by decide, by decide⟩
  obtain ⟨T56, h56, X56, e56, W56, st56⟩ := stR X55 hx hZ e55 Ar_b2 (j := (17 : Int32)) hin124 rfl (Sto.ofV Ar_b2 q_b2 O2 (Ins.self (E_w54.keep K53))) (g := (mkF m 124 #[.val (.int p1), .unset, .unset, .unset] [(.ref w54), (.int (17 : Int32)), (.ref b2), (.ref b2)])) rfl rfl (hb hby at_124)
  have V_b2_56 : Arv Z h56 b2 k2 (.object "com/example/nuthatch/nuthatch/formula/Kind") (19 : Int32) [(.ref w3), (.ref w6), (.ref w9), (.ref w12), (.ref w15), (.ref w18), (.ref w21), (.ref w24), (.ref w27), (.ref w30), (.ref w33), (.ref w36), (.ref w39), (.ref w42), (.ref w45), (.ref w48), (.ref w51), (.ref w54), .null] .null := Arv.set Ar_b2 q_b2 S_b2 N_b2 H_b2 G_b2 rfl W56 17 rfl (Nat.le_of_ble_eq_true rfl)
  have N56 := Fr.snoc X56 N53 g_b2
  have K56 : Keep h0 h56 [] := K53.wr W56 (Or.inr sz_b2)
  obtain ⟨T58, X58, e58, st58⟩ := getS2 X56 hx hZ hown (host := "") (Or.inl (hw _ (List.mem_of_getElem? (i := 40) rfl))) Via.refl e56 (own_stk S_TABLE_ROW K56) (g := (mkF m 128 #[.val (.int p1), .unset, .unset, .unset] [(.int (18 : Int32)), (.ref b2), (.ref b2)])) rfl (hb hby at_128)
  obtain ⟨cl_b2_131, Ar_b2, q_b2, S_b2, N_b2, H_b2, G_b2⟩ := V_b2_56
  have hin131 : ¬ ((18 : Int32) < 0 ∨ cl_b2_131.slots.size ≤ ((18 : Int32)).toNatClampNeg) := inb_of S_b2 ⟨by decide, by decide⟩
  obtain ⟨T59, h59, X59, e59, W59, st59⟩ := stR X58 hx hZ e58 Ar_b2 (j := (18 : Int32)) hin131 rfl (Sto.ofV Ar_b2 q_b2 O2 (Ins.self (E_w57.keep K56))) (g := (mkF m 131 #[.val (.int p1), .unset, .unset, .unset] [(.ref w57), (.int (18 : Int32)), (.ref b2), (.ref b2)])) rfl rfl (hb hby at_131)
  have V_b2_59 : Arv Z h59 b2 k2 (.object "com/example/nuthatch/nuthatch/formula/Kind") (19 : Int32) [(.ref w3), (.ref w6), (.ref w9), (.ref w12), (.ref w15), (.ref w18), (.ref w21), (.ref w24), (.ref w27), (.ref w30), (.ref w33), (.ref w36), (.ref w39), (.ref w42), (.ref w45), (.ref w48), (.ref w51), (.ref w54), (.ref w57)] .null := Arv.set Ar_b2 q_b2 S_b2 N_b2 H_b2 G_b2 rfl W59 18 rfl (Nat.le_of_ble_eq_true rfl)
  have N59 := Fr.snoc X59 N56 g_b2
  have K59 : Keep h0 h59 [] := K56.wr W59 (Or.inr sz_b2)
  obtain ⟨cl_b2_163, Ar_b2, q_b2, S_b2, N_b2, H_b2, G_b2⟩ := V_b2_59
  have hin163 : ¬ (((p1 &&& (2147483647 : Int32)) % (19 : Int32)) < 0 ∨ cl_b2_163.slots.size ≤ (((p1 &&& (2147483647 : Int32)) % (19 : Int32))).toNatClampNeg) := inb_of S_b2 ⟨hn163, hl163⟩
  have hat163 : cl_b2_163.slots[(((p1 &&& (2147483647 : Int32)) % (19 : Int32))).toNatClampNeg]? = some (.ref w60) := H_b2.at hin163 hv163
  obtain ⟨cq61, kq61, q61a, q61b, q61c⟩ := isOf hZ e59 (E_w60.keep K59)
  obtain ⟨_, _, ⟨T61, L61, k61, n61⟩, -, X61, ⟨Lc61, hQ61, l61, y61, z61⟩, st61⟩ := X59.virtualBack hx (y := (⟨"com/example/nuthatch/nuthatch/formula/Kind", "hasSymbol", "()Z"⟩ : MethodName)) (z := (⟨"com/example/nuthatch/nuthatch/formula/Kind", "hasSymbol", "()Z"⟩ : MethodName)) hown (mvT hZ (hw _ (List.mem_of_getElem? (i := 43) rfl))) (mvT hZ (hw _ (List.mem_of_getElem? (i := 44) rfl))) (notFace_of_selects (args := #[]) (mvT hZ (hw _ (List.mem_of_getElem? (i := 46) rfl)))) (mvT hZ (hw _ (List.mem_of_getElem? (i := 46) rfl))) (mvT hZ (hw _ (List.mem_of_getElem? (i := 45) rfl))) (by decide) (backOf (W := 0) (rm1_fff l Z a0 hw [] w60 w3 w9 w12 h59 n0 (Nat.le_trans Z0 K59.1) (own_stk S_SYMBOL K59) (own_stk S_INFIX K59) (own_stk S_PREFIX K59) nq0 nq1 nq2) hZ (hw _ (List.mem_of_getElem? (i := 47) rfl)) (hw _ (List.mem_of_getElem? (i := 3) rfl)) (by decide) (by decide)) q61a q61c (g := (mkF m 164 #[.val (.int p1), .val (.ref b2), .val (.int ((p1 &&& (2147483647 : Int32)) % (19 : Int32))), .val (.int (1 : Int32))] [(.ref w60)])) rfl (by rw [hml]; rfl) (Steps.refl _) (argsL := []) (rest := []) (lenOf pd_0_0 rfl) rfl (by show 2 * 0 + _ ≤ _; exact Nat.le_of_eq rfl) (hb hby at_164) (fun _ _ => ⟨rfl, e59, (by decide : 1 + 0 ≤ _), (by decide : 19 + 0 ≤ _)⟩)
  dsimp only [Pt.U, Pt.locs, Pt.cells, Pt.slots] at X61 l61 y61 z61 st61 hQ61
  subst l61 y61 z61
  obtain ⟨rfl, N61q, eQq⟩ := hQ61
  have N61 := Fr.app N59 N61q
  obtain ⟨fs, hr, hrun, hended, hW, hsame⟩ := X61.leave (v := some (.int (1 : Int32))) (fun h => by rw [Bd.returns] at h; cases h)
  refine ⟨_, _, pre0 _ ?_, hrun, hended, _, _, rfl, ?_, ⟨_, rfl⟩, hW, hsame.mono (by decide) (by decide)⟩
  · show Steps p.tables e below (s₁.setTop (mkF m 0 #[.val (.int p1), .unset, .unset, .unset] [])) _
    refine XS.bipush X0.here hx rfl (hb hby at_0) ?_
    show Steps p.tables e below (s₁.setTop (mkF m 2 #[.val (.int p1), .unset, .unset, .unset] [(.int (19 : Int32))])) _
    refine st2 _ ?_
    show Steps p.tables e below (T2.setTop (mkF m 5 #[.val (.int p1), .unset, .unset, .unset] [(.ref b2)])) _
    refine XS.dup X2.here hx rfl (hb hby at_5) rfl rfl ?_
    show Steps p.tables e below (T2.setTop (mkF m 6 #[.val (.int p1), .unset, .unset, .unset] [(.ref b2), (.ref b2)])) _
    refine XS.iconst X2.here hx rfl (hb hby at_6) ?_
    show Steps p.tables e below (T2.setTop (mkF m 7 #[.val (.int p1), .unset, .unset, .unset] [(.int (0 : Int32)), (.ref b2), (.ref b2)])) _
    refine st4 _ ?_
    show Steps p.tables e below (T4.setTop (mkF m 10 #[.val (.int p1), .unset, .unset, .unset] [(.ref w3), (.int (0 : Int32)), (.ref b2), (.ref b2)])) _
    refine st5 _ ?_
    show Steps p.tables e below (T5.setTop (mkF m 11 #[.val (.int p1), .unset, .unset, .unset] [(.ref b2)])) _
    refine XS.dup X5.here hx rfl (hb hby at_11) rfl rfl ?_
    show Steps p.tables e below (T5.setTop (mkF m 12 #[.val (.int p1), .unset, .unset, .unset] [(.ref b2), (.ref b2)])) _
    refine XS.iconst X5.here hx rfl (hb hby at_12) ?_
    show Steps p.tables e below (T5.setTop (mkF m 13 #[.val (.int p1), .unset, .unset, .unset] [(.int (1 : Int32)), (.ref b2), (.ref b2)])) _
    refine st7 _ ?_
    show Steps p.tables e below (T7.setTop (mkF m 16 #[.val (.int p1), .unset, .unset, .unset] [(.ref w6), (.int (1 : Int32)), (.ref b2), (.ref b2)])) _
    refine st8 _ ?_
    show Steps p.tables e below (T8.setTop (mkF m 17 #[.val (.int p1), .unset, .unset, .unset] [(.ref b2)])) _
    refine XS.dup X8.here hx rfl (hb hby at_17) rfl rfl ?_
    show Steps p.tables e below (T8.setTop (mkF m 18 #[.val (.int p1), .unset, .unset, .unset] [(.ref b2), (.ref b2)])) _
    refine XS.iconst X8.here hx rfl (hb hby at_18) ?_
    show Steps p.tables e below (T8.setTop (mkF m 19 #[.val (.int p1), .unset, .unset, .unset] [(.int (2 : Int32)), (.ref b2), (.ref b2)])) _
    refine st10 _ ?_
    show Steps p.tables e below (T10.setTop (mkF m 22 #[.val (.int p1), .unset, .unset, .unset] [(.ref w9), (.int (2 : Int32)), (.ref b2), (.ref b2)])) _
    refine st11 _ ?_
    show Steps p.tables e below (T11.setTop (mkF m 23 #[.val (.int p1), .unset, .unset, .unset] [(.ref b2)])) _
    refine XS.dup X11.here hx rfl (hb hby at_23) rfl rfl ?_
    show Steps p.tables e below (T11.setTop (mkF m 24 #[.val (.int p1), .unset, .unset, .unset] [(.ref b2), (.ref b2)])) _
    refine XS.iconst X11.here hx rfl (hb hby at_24) ?_
    show Steps p.tables e below (T11.setTop (mkF m 25 #[.val (.int p1), .unset, .unset, .unset] [(.int (3 : Int32)), (.ref b2), (.ref b2)])) _
    refine st13 _ ?_
    show Steps p.tables e below (T13.setTop (mkF m 28 #[.val (.int p1), .unset, .unset, .unset] [(.ref w12), (.int (3 : Int32)), (.ref b2), (.ref b2)])) _
    refine st14 _ ?_
    show Steps p.tables e below (T14.setTop (mkF m 29 #[.val (.int p1), .unset, .unset, .unset] [(.ref b2)])) _
    refine XS.dup X14.here hx rfl (hb hby at_29) rfl rfl ?_
    show Steps p.tables e below (T14.setTop (mkF m 30 #[.val (.int p1), .unset, .unset, .unset] [(.ref b2), (.ref b2)])) _
    refine XS.iconst X14.here hx rfl (hb hby at_30) ?_
    show Steps p.tables e below (T14.setTop (mkF m 31 #[.val (.int p1), .unset, .unset, .unset] [(.int (4 : Int32)), (.ref b2), (.ref b2)])) _
    refine st16 _ ?_
    show Steps p.tables e below (T16.setTop (mkF m 34 #[.val (.int p1), .unset, .unset, .unset] [(.ref w15), (.int (4 : Int32)), (.ref b2), (.ref b2)])) _
    refine st17 _ ?_
    show Steps p.tables e below (T17.setTop (mkF m 35 #[.val (.int p1), .unset, .unset, .unset] [(.ref b2)])) _
    refine XS.dup X17.here hx rfl (hb hby at_35) rfl rfl ?_
    show Steps p.tables e below (T17.setTop (mkF m 36 #[.val (.int p1), .unset, .unset, .unset] [(.ref b2), (.ref b2)])) _
    refine XS.iconst X17.here hx rfl (hb hby at_36) ?_
    show Steps p.tables e below (T17.setTop (mkF m 37 #[.val (.int p1), .unset, .unset, .unset] [(.int (5 : Int32)), (.ref b2), (.ref b2)])) _
    refine st19 _ ?_
    show Steps p.tables e below (T19.setTop (mkF m 40 #[.val (.int p1), .unset, .unset, .unset] [(.ref w18), (.int (5 : Int32)), (.ref b2), (.ref b2)])) _
    refine st20 _ ?_
    show Steps p.tables e below (T20.setTop (mkF m 41 #[.val (.int p1), .unset, .unset, .unset] [(.ref b2)])) _
    refine XS.dup X20.here hx rfl (hb hby at_41) rfl rfl ?_
    show Steps p.tables e below (T20.setTop (mkF m 42 #[.val (.int p1), .unset, .unset, .unset] [(.ref b2), (.ref b2)])) _
    refine XS.bipush X20.here hx rfl (hb hby at_42) ?_
    show Steps p.tables e below (T20.setTop (mkF m 44 #[.val (.int p1), .unset, .unset, .unset] [(.int (6 : Int32)), (.ref b2), (.ref b2)])) _
    refine st22 _ ?_
    show Steps p.tables e below (T22.setTop (mkF m 47 #[.val (.int p1), .unset, .unset, .unset] [(.ref w21), (.int (6 : Int32)), (.ref b2), (.ref b2)])) _
    refine st23 _ ?_
    show Steps p.tables e below (T23.setTop (mkF m 48 #[.val (.int p1), .unset, .unset, .unset] [(.ref b2)])) _
    refine XS.dup X23.here hx rfl (hb hby at_48) rfl rfl ?_
    show Steps p.tables e below (T23.setTop (mkF m 49 #[.val (.int p1), .unset, .unset, .unset] [(.ref b2), (.ref b2)])) _
    refine XS.bipush X23.here hx rfl (hb hby at_49) ?_
    show Steps p.tables e below (T23.setTop (mkF m 51 #[.val (.int p1), .unset, .unset, .unset] [(.int (7 : Int32)), (.ref b2), (.ref b2)])) _
    refine st25 _ ?_
    show Steps p.tables e below (T25.setTop (mkF m 54 #[.val (.int p1), .unset, .unset, .unset] [(.ref w24), (.int (7 : Int32)), (.ref b2), (.ref b2)])) _
    refine st26 _ ?_
    show Steps p.tables e below (T26.setTop (mkF m 55 #[.val (.int p1), .unset, .unset, .unset] [(.ref b2)])) _
    refine XS.dup X26.here hx rfl (hb hby at_55) rfl rfl ?_
    show Steps p.tables e below (T26.setTop (mkF m 56 #[.val (.int p1), .unset, .unset, .unset] [(.ref b2), (.ref b2)])) _
    refine XS.bipush X26.here hx rfl (hb hby at_56) ?_
    show Steps p.tables e below (T26.setTop (mkF m 58 #[.val (.int p1), .unset, .unset, .unset] [(.int (8 : Int32)), (.ref b2), (.ref b2)])) _
    refine st28 _ ?_
    show Steps p.tables e below (T28.setTop (mkF m 61 #[.val (.int p1), .unset, .unset, .unset] [(.ref w27), (.int (8 : Int32)), (.ref b2), (.ref b2)])) _
    refine st29 _ ?_
    show Steps p.tables e below (T29.setTop (mkF m 62 #[.val (.int p1), .unset, .unset, .unset] [(.ref b2)])) _
    refine XS.dup X29.here hx rfl (hb hby at_62) rfl rfl ?_
    show Steps p.tables e below (T29.setTop (mkF m 63 #[.val (.int p1), .unset, .unset, .unset] [(.ref b2), (.ref b2)])) _
    refine XS.bipush X29.here hx rfl (hb hby at_63) ?_
    show Steps p.tables e below (T29.setTop (mkF m 65 #[.val (.int p1), .unset, .unset, .unset] [(.int (9 : Int32)), (.ref b2), (.ref b2)])) _
    refine st31 _ ?_
    show Steps p.tables e below (T31.setTop (mkF m 68 #[.val (.int p1), .unset, .unset, .unset] [(.ref w30), (.int (9 : Int32)), (.ref b2), (.ref b2)])) _
    refine st32 _ ?_
    show Steps p.tables e below (T32.setTop (mkF m 69 #[.val (.int p1), .unset, .unset, .unset] [(.ref b2)])) _
    refine XS.dup X32.here hx rfl (hb hby at_69) rfl rfl ?_
    show Steps p.tables e below (T32.setTop (mkF m 70 #[.val (.int p1), .unset, .unset, .unset] [(.ref b2), (.ref b2)])) _
    refine XS.bipush X32.here hx rfl (hb hby at_70) ?_
    show Steps p.tables e below (T32.setTop (mkF m 72 #[.val (.int p1), .unset, .unset, .unset] [(.int (10 : Int32)), (.ref b2), (.ref b2)])) _
    refine st34 _ ?_
    show Steps p.tables e below (T34.setTop (mkF m 75 #[.val (.int p1), .unset, .unset, .unset] [(.ref w33), (.int (10 : Int32)), (.ref b2), (.ref b2)])) _
    refine st35 _ ?_
    show Steps p.tables e below (T35.setTop (mkF m 76 #[.val (.int p1), .unset, .unset, .unset] [(.ref b2)])) _
    refine XS.dup X35.here hx rfl (hb hby at_76) rfl rfl ?_
    show Steps p.tables e below (T35.setTop (mkF m 77 #[.val (.int p1), .unset, .unset, .unset] [(.ref b2), (.ref b2)])) _
    refine XS.bipush X35.here hx rfl (hb hby at_77) ?_
    show Steps p.tables e below (T35.setTop (mkF m 79 #[.val (.int p1), .unset, .unset, .unset] [(.int (11 : Int32)), (.ref b2), (.ref b2)])) _
    refine st37 _ ?_
    show Steps p.tables e below (T37.setTop (mkF m 82 #[.val (.int p1), .unset, .unset, .unset] [(.ref w36), (.int (11 : Int32)), (.ref b2), (.ref b2)])) _
    refine st38 _ ?_
    show Steps p.tables e below (T38.setTop (mkF m 83 #[.val (.int p1), .unset, .unset, .unset] [(.ref b2)])) _
    refine XS.dup X38.here hx rfl (hb hby at_83) rfl rfl ?_
    show Steps p.tables e below (T38.setTop (mkF m 84 #[.val (.int p1), .unset, .unset, .unset] [(.ref b2), (.ref b2)])) _
    refine XS.bipush X38.here hx rfl (hb hby at_84) ?_
    show Steps p.tables e below (T38.setTop (mkF m 86 #[.val (.int p1), .unset, .unset, .unset] [(.int (12 : Int32)), (.ref b2), (.ref b2)])) _
    refine st40 _ ?_
    show Steps p.tables e below (T40.setTop (mkF m 89 #[.val (.int p1), .unset, .unset, .unset] [(.ref w39), (.int (12 : Int32)), (.ref b2), (.ref b2)])) _
    refine st41 _ ?_
    show Steps p.tables e below (T41.setTop (mkF m 90 #[.val (.int p1), .unset, .unset, .unset] [(.ref b2)])) _
    refine XS.dup X41.here hx rfl (hb hby at_90) rfl rfl ?_
    show Steps p.tables e below (T41.setTop (mkF m 91 #[.val (.int p1), .unset, .unset, .unset] [(.ref b2), (.ref b2)])) _
    refine XS.bipush X41.here hx rfl (hb hby at_91) ?_
    show Steps p.tables e below (T41.setTop (mkF m 93 #[.val (.int p1), .unset, .unset, .unset] [(.int (13 : Int32)), (.ref b2), (.ref b2)])) _
    refine st43 _ ?_
    show Steps p.tables e below (T43.setTop (mkF m 96 #[.val (.int p1), .unset, .unset, .unset] [(.ref w42), (.int (13 : Int32)), (.ref b2), (.ref b2)])) _
    refine st44 _ ?_
    show Steps p.tables e below (T44.setTop (mkF m 97 #[.val (.int p1), .unset, .unset, .unset] [(.ref b2)])) _
    refine XS.dup X44.here hx rfl (hb hby at_97) rfl rfl ?_
    show Steps p.tables e below (T44.setTop (mkF m 98 #[.val (.int p1), .unset, .unset, .unset] [(.ref b2), (.ref b2)])) _
    refine XS.bipush X44.here hx rfl (hb hby at_98) ?_
    show Steps p.tables e below (T44.setTop (mkF m 100 #[.val (.int p1), .unset, .unset, .unset] [(.int (14 : Int32)), (.ref b2), (.ref b2)])) _
    refine st46 _ ?_
    show Steps p.tables e below (T46.setTop (mkF m 103 #[.val (.int p1), .unset, .unset, .unset] [(.ref w45), (.int (14 : Int32)), (.ref b2), (.ref b2)])) _
    refine st47 _ ?_
    show Steps p.tables e below (T47.setTop (mkF m 104 #[.val (.int p1), .unset, .unset, .unset] [(.ref b2)])) _
    refine XS.dup X47.here hx rfl (hb hby at_104) rfl rfl ?_
    show Steps p.tables e below (T47.setTop (mkF m 105 #[.val (.int p1), .unset, .unset, .unset] [(.ref b2), (.ref b2)])) _
    refine XS.bipush X47.here hx rfl (hb hby at_105) ?_
    show Steps p.tables e below (T47.setTop (mkF m 107 #[.val (.int p1), .unset, .unset, .unset] [(.int (15 : Int32)), (.ref b2), (.ref b2)])) _
    refine st49 _ ?_
    show Steps p.tables e below (T49.setTop (mkF m 110 #[.val (.int p1), .unset, .unset, .unset] [(.ref w48), (.int (15 : Int32)), (.ref b2), (.ref b2)])) _
    refine st50 _ ?_
    show Steps p.tables e below (T50.setTop (mkF m 111 #[.val (.int p1), .unset, .unset, .unset] [(.ref b2)])) _
    refine XS.dup X50.here hx rfl (hb hby at_111) rfl rfl ?_
    show Steps p.tables e below (T50.setTop (mkF m 112 #[.val (.int p1), .unset, .unset, .unset] [(.ref b2), (.ref b2)])) _
    refine XS.bipush X50.here hx rfl (hb hby at_112) ?_
    show Steps p.tables e below (T50.setTop (mkF m 114 #[.val (.int p1), .unset, .unset, .unset] [(.int (16 : Int32)), (.ref b2), (.ref b2)])) _
    refine st52 _ ?_
    show Steps p.tables e below (T52.setTop (mkF m 117 #[.val (.int p1), .unset, .unset, .unset] [(.ref w51), (.int (16 : Int32)), (.ref b2), (.ref b2)])) _
    refine st53 _ ?_
    show Steps p.tables e below (T53.setTop (mkF m 118 #[.val (.int p1), .unset, .unset, .unset] [(.ref b2)])) _
    refine XS.dup X53.here hx rfl (hb hby at_118) rfl rfl ?_
    show Steps p.tables e below (T53.setTop (mkF m 119 #[.val (.int p1), .unset, .unset, .unset] [(.ref b2), (.ref b2)])) _
    refine XS.bipush X53.here hx rfl (hb hby at_119) ?_
    show Steps p.tables e below (T53.setTop (mkF m 121 #[.val (.int p1), .unset, .unset, .unset] [(.int (17 : Int32)), (.ref b2), (.ref b2)])) _
    refine st55 _ ?_
    show Steps p.tables e below (T55.setTop (mkF m 124 #[.val (.int p1), .unset, .unset, .unset] [(.ref w54), (.int (17 : Int32)), (.ref b2), (.ref b2)])) _
    refine st56 _ ?_
    show Steps p.tables e below (T56.setTop (mkF m 125 #[.val (.int p1), .unset, .unset, .unset] [(.ref b2)])) _
    refine XS.dup X56.here hx rfl (hb hby at_125) rfl rfl ?_
    show Steps p.tables e below (T56.setTop (mkF m 126 #[.val (.int p1), .unset, .unset, .unset] [(.ref b2), (.ref b2)])) _
    refine XS.bipush X56.here hx rfl (hb hby at_126) ?_
    show Steps p.tables e below (T56.setTop (mkF m 128 #[.val (.int p1), .unset, .unset, .unset] [(.int (18 : Int32)), (.ref b2), (.ref b2)])) _
    refine st58 _ ?_
    show Steps p.tables e below (T58.setTop (mkF m 131 #[.val (.int p1), .unset, .unset, .unset] [(.ref w57), (.int (18 : Int32)), (.ref b2), (.ref b2)])) _
    refine st59 _ ?_
    show Steps p.tables e below (T59.setTop (mkF m 132 #[.val (.int p1), .unset, .unset, .unset] [(.ref b2)])) _
    refine XS.astoreN X59.here hx rfl (hb hby at_132) rfl rfl (l' := #[.val (.int p1), .val (.ref b2), .unset, .unset]) rfl ?_
    show Steps p.tables e below (T59.setTop (mkF m 133 #[.val (.int p1), .val (.ref b2), .unset, .unset] [])) _
    refine XS.iloadN X59.here hx rfl (hb hby at_133) rfl ?_
    show Steps p.tables e below (T59.setTop (mkF m 134 #[.val (.int p1), .val (.ref b2), .unset, .unset] [(.int p1)])) _
    refine X59.ldcInt hx hown (mvT hZ (hw _ (List.mem_of_getElem? (i := 42) rfl))) (g := (mkF m 134 #[.val (.int p1), .val (.ref b2), .unset, .unset] [(.int p1)])) rfl (hb hby at_134) _ ?_
    show Steps p.tables e below (T59.setTop (mkF m 136 #[.val (.int p1), .val (.ref b2), .unset, .unset] [(.int (2147483647 : Int32)), (.int p1)])) _
    refine XS.iand X59.here hx rfl (hb hby at_136) rfl ?_
    show Steps p.tables e below (T59.setTop (mkF m 137 #[.val (.int p1), .val (.ref b2), .unset, .unset] [(.int (p1 &&& (2147483647 : Int32)))])) _
    refine XS.bipush X59.here hx rfl (hb hby at_137) ?_
    show Steps p.tables e below (T59.setTop (mkF m 139 #[.val (.int p1), .val (.ref b2), .unset, .unset] [(.int (19 : Int32)), (.int (p1 &&& (2147483647 : Int32)))])) _
    refine iremM X59 hx rfl (hb hby at_139) rfl (by decide) ?_
    show Steps p.tables e below (T59.setTop (mkF m 140 #[.val (.int p1), .val (.ref b2), .unset, .unset] [(.int ((p1 &&& (2147483647 : Int32)) % (19 : Int32)))])) _
    refine XS.istoreN X59.here hx rfl (hb hby at_140) rfl (l' := #[.val (.int p1), .val (.ref b2), .val (.int ((p1 &&& (2147483647 : Int32)) % (19 : Int32))), .unset]) rfl ?_
    show Steps p.tables e below (T59.setTop (mkF m 141 #[.val (.int p1), .val (.ref b2), .val (.int ((p1 &&& (2147483647 : Int32)) % (19 : Int32))), .unset] [])) _
    refine XS.iloadN X59.here hx rfl (hb hby at_141) rfl ?_
    show Steps p.tables e below (T59.setTop (mkF m 142 #[.val (.int p1), .val (.ref b2), .val (.int ((p1 &&& (2147483647 : Int32)) % (19 : Int32))), .unset] [(.int ((p1 &&& (2147483647 : Int32)) % (19 : Int32)))])) _
    refine XS.ifNo X59.here hx rfl (hb hby at_142) rfl ((if0 _ _).trans (feq hc142).1) ?_
    show Steps p.tables e below (T59.setTop (mkF m 145 #[.val (.int p1), .val (.ref b2), .val (.int ((p1 &&& (2147483647 : Int32)) % (19 : Int32))), .unset] [])) _
    refine XS.iloadN X59.here hx rfl (hb hby at_145) rfl ?_
    show Steps p.tables e below (T59.setTop (mkF m 146 #[.val (.int p1), .val (.ref b2), .val (.int ((p1 &&& (2147483647 : Int32)) % (19 : Int32))), .unset] [(.int ((p1 &&& (2147483647 : Int32)) % (19 : Int32)))])) _
    refine XS.iconst X59.here hx rfl (hb hby at_146) ?_
    show Steps p.tables e below (T59.setTop (mkF m 147 #[.val (.int p1), .val (.ref b2), .val (.int ((p1 &&& (2147483647 : Int32)) % (19 : Int32))), .unset] [(.int (2 : Int32)), (.int ((p1 &&& (2147483647 : Int32)) % (19 : Int32)))])) _
    refine XS.icmpNo X59.here hx rfl (hb hby at_147) rfl (feq hc147).1 ?_
    show Steps p.tables e below (T59.setTop (mkF m 150 #[.val (.int p1), .val (.ref b2), .val (.int ((p1 &&& (2147483647 : Int32)) % (19 : Int32))), .unset] [])) _
    refine XS.iloadN X59.here hx rfl (hb hby at_150) rfl ?_
    show Steps p.tables e below (T59.setTop (mkF m 151 #[.val (.int p1), .val (.ref b2), .val (.int ((p1 &&& (2147483647 : Int32)) % (19 : Int32))), .unset] [(.int ((p1 &&& (2147483647 : Int32)) % (19 : Int32)))])) _
    refine XS.iconst X59.here hx rfl (hb hby at_151) ?_
    show Steps p.tables e below (T59.setTop (mkF m 152 #[.val (.int p1), .val (.ref b2), .val (.int ((p1 &&& (2147483647 : Int32)) % (19 : Int32))), .unset] [(.int (3 : Int32)), (.int ((p1 &&& (2147483647 : Int32)) % (19 : Int32)))])) _
    refine XS.icmpNo X59.here hx rfl (hb hby at_152) rfl (teq hc152).2 ?_
    show Steps p.tables e below (T59.setTop (mkF m 155 #[.val (.int p1), .val (.ref b2), .val (.int ((p1 &&& (2147483647 : Int32)) % (19 : Int32))), .unset] [])) _
    refine XS.iconst X59.here hx rfl (hb hby at_155) ?_
    show Steps p.tables e below (T59.setTop (mkF m 156 #[.val (.int p1), .val (.ref b2), .val (.int ((p1 &&& (2147483647 : Int32)) % (19 : Int32))), .unset] [(.int (1 : Int32))])) _
    refine XS.goto X59.here hx rfl (pc0 := 156) (pc' := 160) rfl (hb hby at_156) (by decide) (by decide) ?_
    show Steps p.tables e below (T59.setTop (mkF m 160 #[.val (.int p1), .val (.ref b2), .val (.int ((p1 &&& (2147483647 : Int32)) % (19 : Int32))), .unset] [(.int (1 : Int32))])) _
    refine XS.istoreN X59.here hx rfl (hb hby at_160) rfl (l' := #[.val (.int p1), .val (.ref b2), .val (.int ((p1 &&& (2147483647 : Int32)) % (19 : Int32))), .val (.int (1 : Int32))]) rfl ?_
    show Steps p.tables e below (T59.setTop (mkF m 161 #[.val (.int p1), .val (.ref b2), .val (.int ((p1 &&& (2147483647 : Int32)) % (19 : Int32))), .val (.int (1 : Int32))] [])) _
    refine XS.aloadN X59.here hx rfl (hb hby at_161) rfl rfl ?_
    show Steps p.tables e below (T59.setTop (mkF m 162 #[.val (.int p1), .val (.ref b2), .val (.int ((p1 &&& (2147483647 : Int32)) % (19 : Int32))), .val (.int (1 : Int32))] [(.ref b2)])) _
    refine XS.iloadN X59.here hx rfl (hb hby at_162) rfl ?_
    show Steps p.tables e below (T59.setTop (mkF m 163 #[.val (.int p1), .val (.ref b2), .val (.int ((p1 &&& (2147483647 : Int32)) % (19 : Int32))), .val (.int (1 : Int32))] [(.int ((p1 &&& (2147483647 : Int32)) % (19 : Int32))), (.ref b2)])) _
    refine X59.aaload hx (j := ((p1 &&& (2147483647 : Int32)) % (19 : Int32))) (v := (.ref w60)) (by rw [e59]; exact Ar_b2.1) (State.isArrayOf_alike hZ.alike Ar_b2.2.1) rfl Ar_b2.2.2 hin163 hat163 (g := (mkF m 163 #[.val (.int p1), .val (.ref b2), .val (.int ((p1 &&& (2147483647 : Int32)) % (19 : Int32))), .val (.int (1 : Int32))] [(.int ((p1 &&& (2147483647 : Int32)) % (19 : Int32))), (.ref b2)])) rfl rfl (hb hby at_163) _ ?_
    show Steps p.tables e below (T59.setTop (mkF m 164 #[.val (.int p1), .val (.ref b2), .val (.int ((p1 &&& (2147483647 : Int32)) % (19 : Int32))), .val (.int (1 : Int32))] [(.ref w60)])) _
    refine st61.trans ?_
    show Steps p.tables e below (T61.setTop (mkF m 167 #[.val (.int p1), .val (.ref b2), .val (.int ((p1 &&& (2147483647 : Int32)) % (19 : Int32))), .val (.int (1 : Int32))] [(.int (1 : Int32))])) _
    refine XS.iloadN X61.here hx rfl (hb hby at_167) rfl ?_
    show Steps p.tables e below (T61.setTop (mkF m 168 #[.val (.int p1), .val (.ref b2), .val (.int ((p1 &&& (2147483647 : Int32)) % (19 : Int32))), .val (.int (1 : Int32))] [(.int (1 : Int32)), (.int (1 : Int32))])) _
    refine XS.icmpNo X61.here hx rfl (hb hby at_168) rfl (teq (rfl : (1 : Int32) = (1 : Int32))).2 ?_
    show Steps p.tables e below (T61.setTop (mkF m 171 #[.val (.int p1), .val (.ref b2), .val (.int ((p1 &&& (2147483647 : Int32)) % (19 : Int32))), .val (.int (1 : Int32))] [])) _
    refine XS.iconst X61.here hx rfl (hb hby at_171) ?_
    show Steps p.tables e below (T61.setTop (mkF m 172 #[.val (.int p1), .val (.ref b2), .val (.int ((p1 &&& (2147483647 : Int32)) % (19 : Int32))), .val (.int (1 : Int32))] [(.int (1 : Int32))])) _
    refine XS.goto X61.here hx rfl (pc0 := 172) (pc' := 176) rfl (hb hby at_172) (by decide) (by decide) ?_
    show Steps p.tables e below (T61.setTop (mkF m 176 #[.val (.int p1), .val (.ref b2), .val (.int ((p1 &&& (2147483647 : Int32)) % (19 : Int32))), .val (.int (1 : Int32))] [(.int (1 : Int32))])) _
    exact retN X61 hx (t := .boolean) Bd.returns (by simp) (hb hby at_176) hr
  · show Q0 Z p1 w3 w6 w9 w12 w15 w18 w21 w24 w27 w30 w33 w36 w39 w42 w45 w48 w51 w54 w57 w60 h0 n0 _ T61.heap _
    exact ⟨rfl, N61⟩
set_option maxRecDepth 65536 in
set_option maxHeartbeats 40000000 in
theorem rm0_fftf (l : Launch) (Z : State) (a0 : Array Value) (hw : ∀ d ∈ tables_1, d.before a0 Z = true) (ws : List Jvm.Cond) (p1 : Int32) (w3 : Addr) (w6 : Addr) (w9 : Addr) (w12 : Addr) (w15 : Addr) (w18 : Addr) (w21 : Addr) (w24 : Addr) (w27 : Addr) (w30 : Addr) (w33 : Addr) (w36 : Addr) (w39 : Addr) (w42 : Addr) (w45 : Addr) (w48 : Addr) (w51 : Addr) (w54 : Addr) (w57 : Addr) (w60 : Addr) (h0 : Heap) (n0 : Nat) (Z0 : n0 ≤ h0.size) (nq0 : ¬ (w60 = w3)) (nq1 : ¬ (w60 = w9)) (nq2 : ¬ (w60 = w12)) (S_SYMBOL : Sta Z h0 "com/example/nuthatch/nuthatch/formula/Kind" "SYMBOL" "Lcom/example/nuthatch/nuthatch/formula/Kind;" (.ref w3)) (E_w3 : Exa Z h0 w3 "com/example/nuthatch/nuthatch/formula/Kind") (S_ROW : Sta Z h0 "com/example/nuthatch/nuthatch/formula/Kind" "ROW" "Lcom/example/nuthatch/nuthatch/formula/Kind;" (.ref w6)) (E_w6 : Exa Z h0 w6 "com/example/nuthatch/nuthatch/formula/Kind") (S_INFIX : Sta Z h0 "com/example/nuthatch/nuthatch/formula/Kind" "INFIX" "Lcom/example/nuthatch/nuthatch/formula/Kind;" (.ref w9)) (E_w9 : Exa Z h0 w9 "com/example/nuthatch/nuthatch/formula/Kind") (S_PREFIX : Sta Z h0 "com/example/nuthatch/nuthatch/formula/Kind" "PREFIX" "Lcom/example/nuthatch/nuthatch/formula/Kind;" (.ref w12)) (E_w12 : Exa Z h0 w12 "com/example/nuthatch/nuthatch/formula/Kind") (S_JUXTAPOSITION : Sta Z h0 "com/example/nuthatch/nuthatch/formula/Kind" "JUXTAPOSITION" "Lcom/example/nuthatch/nuthatch/formula/Kind;" (.ref w15)) (E_w15 : Exa Z h0 w15 "com/example/nuthatch/nuthatch/formula/Kind") (S_SUPERSCRIPT : Sta Z h0 "com/example/nuthatch/nuthatch/formula/Kind" "SUPERSCRIPT" "Lcom/example/nuthatch/nuthatch/formula/Kind;" (.ref w18)) (E_w18 : Exa Z h0 w18 "com/example/nuthatch/nuthatch/formula/Kind") (S_SUBSCRIPT : Sta Z h0 "com/example/nuthatch/nuthatch/formula/Kind" "SUBSCRIPT" "Lcom/example/nuthatch/nuthatch/formula/Kind;" (.ref w21)) (E_w21 : Exa Z h0 w21 "com/example/nuthatch/nuthatch/formula/Kind") (S_SUBSCRIPT_SUPERSCRIPT : Sta Z h0 "com/example/nuthatch/nuthatch/formula/Kind" "SUBSCRIPT_SUPERSCRIPT" "Lcom/example/nuthatch/nuthatch/formula/Kind;" (.ref w24)) (E_w24 : Exa Z h0 w24 "com/example/nuthatch/nuthatch/formula/Kind") (S_FRACTION : Sta Z h0 "com/example/nuthatch/nuthatch/formula/Kind" "FRACTION" "Lcom/example/nuthatch/nuthatch/formula/Kind;" (.ref w27)) (E_w27 : Exa Z h0 w27 "com/example/nuthatch/nuthatch/formula/Kind") (S_ATOP : Sta Z h0 "com/example/nuthatch/nuthatch/formula/Kind" "ATOP" "Lcom/example/nuthatch/nuthatch/formula/Kind;" (.ref w30)) (E_w30 : Exa Z h0 w30 "com/example/nuthatch/nuthatch/formula/Kind") (S_ROOT : Sta Z h0 "com/example/nuthatch/nuthatch/formula/Kind" "ROOT" "Lcom/example/nuthatch/nuthatch/formula/Kind;" (.ref w33)) (E_w33 : Exa Z h0 w33 "com/example/nuthatch/nuthatch/formula/Kind") (S_INDEXED_ROOT : Sta Z h0 "com/example/nuthatch/nuthatch/formula/Kind" "INDEXED_ROOT" "Lcom/example/nuthatch/nuthatch/formula/Kind;" (.ref w36)) (E_w36 : Exa Z h0 w36 "com/example/nuthatch/nuthatch/formula/Kind") (S_FENCE : Sta Z h0 "com/example/nuthatch/nuthatch/formula/Kind" "FENCE" "Lcom/example/nuthatch/nuthatch/formula/Kind;" (.ref w39)) (E_w39 : Exa Z h0 w39 "com/example/nuthatch/nuthatch/formula/Kind") (S_ACCENT : Sta Z h0 "com/example/nuthatch/nuthatch/formula/Kind" "ACCENT" "Lcom/example/nuthatch/nuthatch/formula/Kind;" (.ref w42)) (E_w42 : Exa Z h0 w42 "com/example/nuthatch/nuthatch/formula/Kind") (S_OVER : Sta Z h0 "com/example/nuthatch/nuthatch/formula/Kind" "OVER" "Lcom/example/nuthatch/nuthatch/formula/Kind;" (.ref w45)) (E_w45 : Exa Z h0 w45 "com/example/nuthatch/nuthatch/formula/Kind") (S_UNDER : Sta Z h0 "com/example/nuthatch/nuthatch/formula/Kind" "UNDER" "Lcom/example/nuthatch/nuthatch/formula/Kind;" (.ref w48)) (E_w48 : Exa Z h0 w48 "com/example/nuthatch/nuthatch/formula/Kind") (S_UNDER_OVER : Sta Z h0 "com/example/nuthatch/nuthatch/formula/Kind" "UNDER_OVER" "Lcom/example/nuthatch/nuthatch/formula/Kind;" (.ref w51)) (E_w51 : Exa Z h0 w51 "com/example/nuthatch/nuthatch/formula/Kind") (S_TABLE : Sta Z h0 "com/example/nuthatch/nuthatch/formula/Kind" "TABLE" "Lcom/example/nuthatch/nuthatch/formula/Kind;" (.ref w54)) (E_w54 : Exa Z h0 w54 "com/example/nuthatch/nuthatch/formula/Kind") (S_TABLE_ROW : Sta Z h0 "com/example/nuthatch/nuthatch/formula/Kind" "TABLE_ROW" "Lcom/example/nuthatch/nuthatch/formula/Kind;" (.ref w57)) (E_w57 : Exa Z h0 w57 "com/example/nuthatch/nuthatch/formula/Kind") (E_w60 : Exa Z h0 w60 "com/example/nuthatch/nuthatch/formula/Kind") (hc142 : ¬ (((p1 &&& (2147483647 : Int32)) % (19 : Int32)) = (0 : Int32))) (hc147 : ¬ (((p1 &&& (2147483647 : Int32)) % (19 : Int32)) = (2 : Int32))) (hc152 : ¬ (((p1 &&& (2147483647 : Int32)) % (19 : Int32)) = (3 : Int32))) (hn163 : ¬ (((p1 &&& (2147483647 : Int32)) % (19 : Int32)) < 0)) (hl163 : ((p1 &&& (2147483647 : Int32)) % (19 : Int32)) < (19 : Int32)) (hv163 : ([(.ref w3), (.ref w6), (.ref w9), (.ref w12), (.ref w15), (.ref w18), (.ref w21), (.ref w24), (.ref w27), (.ref w30), (.ref w33), (.ref w36), (.ref w39), (.ref w42), (.ref w45), (.ref w48), (.ref w51), (.ref w54), (.ref w57)] : List Value).getD (((p1 &&& (2147483647 : Int32)) % (19 : Int32))).toNatClampNeg .null = (.ref w60)) :
    MetFree l x (head1 (Jvm.Cond.code x code maxLocals ret :: ws) room_1) (fun a U => a = #[(.int p1)] ∧ Z.Warmed39 U.vm ∧ U.heap = h0) (fun _ _ _ _ _ => True) (fun _ U o U' => ∃ v L, o = .returned v ∧ Q0 Z p1 w3 w6 w9 w12 w15 w18 w21 w24 w27 w30 w33 w36 w39 w42 w45 w48 w51 w54 w57 w60 h0 n0 v U'.heap L ∧ FrameEnd U o U' L room_1.cells room_1.slots) := by
  refine MetFree.of_bodySF (plainFor_of_name pn_0) hisR ?_
  intro p e s m args below meth c s₁ Bd hml0 hP hK
  obtain ⟨rfl, hZ, hh⟩ := hP
  have hx := Bd.exec
  have hby := Bd.bytes
  have hml : c.maxLocals = 4 := hml0
  have hown : s.vm.findClass "com/example/nuthatch/nuthatch/formula/KindHasSymbolPinLaw" = some m.cls := findClass_of_methodNamed Bd.named
  have hnm := (name_of_methodNamed Bd.named Bd.method).1
  have X0 : Stand p l e room_1 s m #[(.int p1)] below meth c s₁ [] 0 0 := Stand.of_body Bd
  have e0 : s₁.heap = h0 := by rw [← hh, Bd.state]; rfl
  have N0 := Fr.nil n0
  have pre0 : ∀ t, Steps p.tables e below (s₁.setTop (mkF m 0 #[.val (.int p1), .unset, .unset, .unset] [])) t → Steps p.tables e below (s₁.setTop (entryFrame m #[(.int p1)] maxLocals)) t := fun t k => castTop (ef_0 m p1) k
  obtain ⟨T2, h2, k2, X2, e2, E2, A2, O2, st2⟩ := newR X0 hx hZ hown (hw _ (List.mem_of_getElem? (i := 0) rfl)) (hw _ (List.mem_of_getElem? (i := 1) rfl)) e0 (g := (mkF m 2 #[.val (.int p1), .unset, .unset, .unset] [(.int (19 : Int32))])) rfl (hb hby at_2) rfl (by decide) (cap := 19) (by decide) (by decide) (by decide) (by decide)
  obtain ⟨b2, g2⟩ : ∃ z, z = h0.size := ⟨_, rfl⟩
  rw [← g2] at A2 st2
  have V_b2 : Arv Z h2 b2 k2 (.object "com/example/nuthatch/nuthatch/formula/Kind") (19 : Int32) [.null, .null, .null, .null, .null, .null, .null, .null, .null, .null, .null, .null, .null, .null, .null, .null, .null, .null, .null] .null := (Arv.new A2 (by decide)).pad (pad_rep [] .null 19)
  have g_b2 : n0 ≤ b2 := Nat.le_trans Z0 (Nat.le_of_eq g2.symm)
  have sz_b2 : h0.size ≤ b2 := (Nat.le_trans (Keep.refl h0 []).1 (Nat.le_of_eq g2.symm))
  have K2 : Keep h0 h2 [] := (Keep.refl h0 []).ext E2
  obtain ⟨T4, X4, e4, st4⟩ := getS2 X2 hx hZ hown (host := "") (Or.inl (hw _ (List.mem_of_getElem? (i := 2) rfl))) Via.refl e2 (own_stk S_SYMBOL K2) (g := (mkF m 7 #[.val (.int p1), .unset, .unset, .unset] [(.int (0 : Int32)), (.ref b2), (.ref b2)])) rfl (hb hby at_7)
  obtain ⟨cl_b2_10, Ar_b2, q_b2, S_b2, N_b2, H_b2, G_b2⟩ := V_b2
  have hin10 : ¬ ((0 : Int32) < 0 ∨ cl_b2_10.slots.size ≤ ((0 : Int32)).toNatClampNeg) := inb_of S_b2 ⟨by decide, by decide⟩
  obtain ⟨T5, h5, X5, e5, W5, st5⟩ := stR X4 hx hZ e4 Ar_b2 (j := (0 : Int32)) hin10 rfl (Sto.ofV Ar_b2 q_b2 O2 (Ins.self (E_w3.keep K2))) (g := (mkF m 10 #[.val (.int p1), .unset, .unset, .unset] [(.ref w3), (.int (0 : Int32)), (.ref b2), (.ref b2)])) rfl rfl (hb hby at_10)
  have V_b2_5 : Arv Z h5 b2 k2 (.object "com/example/nuthatch/nuthatch/formula/Kind") (19 : Int32) [(.ref w3), .null, .null, .null, .null, .null, .null, .null, .null, .null, .null, .null, .null, .null, .null, .null, .null, .null, .null] .null := Arv.set Ar_b2 q_b2 S_b2 N_b2 H_b2 G_b2 rfl W5 0 rfl (Nat.le_of_ble_eq_true rfl)
  have N5 := Fr.snoc X5 N0 g_b2
  have K5 : Keep h0 h5 [] := K2.wr W5 (Or.inr sz_b2)
  obtain ⟨T7, X7, e7, st7⟩ := getS2 X5 hx hZ hown (host := "") (Or.inl (hw _ (List.mem_of_getElem? (i := 6) rfl))) Via.refl e5 (own_stk S_ROW K5) (g := (mkF m 13 #[.val (.int p1), .unset, .unset, .unset] [(.int (1 : Int32)), (.ref b2), (.ref b2)])) rfl (hb hby at_13)
  obtain ⟨cl_b2_16, Ar_b2, q_b2, S_b2, N_b2, H_b2, G_b2⟩ := V_b2_5
  have hin16 : ¬ ((1 : Int32) < 0 ∨ cl_b2_16.slots.size ≤ ((1 : Int32)).toNatClampNeg) := inb_of S_b2 ⟨by decide, by decide⟩
  obtain ⟨T8, h8, X8, e8, W8, st8⟩ := stR X7 hx hZ e7 Ar_b2 (j := (1 : Int32)) hin16 rfl (Sto.ofV Ar_b2 q_b2 O2 (Ins.self (E_w6.keep K5))) (g := (mkF m 16 #[.val (.int p1), .unset, .unset, .unset] [(.ref w6), (.int (1 : Int32)), (.ref b2), (.ref b2)])) rfl rfl (hb hby at_16)
  have V_b2_8 : Arv Z h8 b2 k2 (.object "com/example/nuthatch/nuthatch/formula/Kind") (19 : Int32) [(.ref w3), (.ref w6), .null, .null, .null, .null, .null, .null, .null, .null, .null, .null, .null, .null, .null, .null, .null, .null, .null] .null := Arv.set Ar_b2 q_b2 S_b2 N_b2 H_b2 G_b2 rfl W8 1 rfl (Nat.le_of_ble_eq_true rfl)
  have N8 := Fr.snoc X8 N5 g_b2
  have K8 : Keep h0 h8 [] := K5.wr W8 (Or.inr sz_b2)
  obtain ⟨T10, X10, e10, st10⟩ := getS2 X8 hx hZ hown (host := "") (Or.inl (hw _ (List.mem_of_getElem? (i := 8) rfl))) Via.refl e8 (own_stk S_INFIX K8) (g := (mkF m 19 #[.val (.int p1), .unset, .unset, .unset] [(.int (2 : Int32)), (.ref b2), (.ref b2)])) rfl (hb hby at_19)
  obtain ⟨cl_b2_22, Ar_b2, q_b2, S_b2, N_b2, H_b2, G_b2⟩ := V_b2_8
  have hin22 : ¬ ((2 : Int32) < 0 ∨ cl_b2_22.slots.size ≤ ((2 : Int32)).toNatClampNeg) := inb_of S_b2 ⟨by decide, by decide⟩
  obtain ⟨T11, h11, X11, e11, W11, st11⟩ := stR X10 hx hZ e10 Ar_b2 (j := (2 : Int32)) hin22 rfl (Sto.ofV Ar_b2 q_b2 O2 (Ins.self (E_w9.keep K8))) (g := (mkF m 22 #[.val (.int p1), .unset, .unset, .unset] [(.ref w9), (.int (2 : Int32)), (.ref b2), (.ref b2)])) rfl rfl (hb hby at_22)
  have V_b2_11 : Arv Z h11 b2 k2 (.object "com/example/nuthatch/nuthatch/formula/Kind") (19 : Int32) [(.ref w3), (.ref w6), (.ref w9), .null, .null, .null, .null, .null, .null, .null, .null, .null, .null, .null, .null, .null, .null, .null, .null] .null := Arv.set Ar_b2 q_b2 S_b2 N_b2 H_b2 G_b2 rfl W11 2 rfl (Nat.le_of_ble_eq_true rfl)
  have N11 := Fr.snoc X11 N8 g_b2
  have K11 : Keep h0 h11 [] := K8.wr W11 (Or.inr sz_b2)
  obtain ⟨T13, X13, e13, st13⟩ := getS2 X11 hx hZ hown (host := "") (Or.inl (hw _ (List.mem_of_getElem? (i := 10) rfl))) Via.refl e11 (own_stk S_PREFIX K11) (g := (mkF m 25 #[.val (.int p1), .unset, .unset, .unset] [(.int (3 : Int32)), (.ref b2), (.ref b2)])) rfl (hb hby at_25)
  obtain ⟨cl_b2_28, Ar_b2, q_b2, S_b2, N_b2, H_b2, G_b2⟩ := V_b2_11
  have hin28 : ¬ ((3 : Int32) < 0 ∨ cl_b2_28.slots.size ≤ ((3 : Int32)).toNatClampNeg) := inb_of S_b2 ⟨by decide, by decide⟩
  obtain ⟨T14, h14, X14, e14, W14, st14⟩ := stR X13 hx hZ e13 Ar_b2 (j := (3 : Int32)) hin28 rfl (Sto.ofV Ar_b2 q_b2 O2 (Ins.self (E_w12.keep K11))) (g := (mkF m 28 #[.val (.int p1), .unset, .unset, .unset] [(.ref w12), (.int (3 : Int32)), (.ref b2), (.ref b2)])) rfl rfl (hb hby at_28)
  have V_b2_14 : Arv Z h14 b2 k2 (.object "com/example/nuthatch/nuthatch/formula/Kind") (19 : Int32) [(.ref w3), (.ref w6), (.ref w9), (.ref w12), .null, .null, .null, .null, .null, .null, .null, .null, .null, .null, .null, .null, .null, .null, .null] .null := Arv.set Ar_b2 q_b2 S_b2 N_b2 H_b2 G_b2 rfl W14 3 rfl (Nat.le_of_ble_eq_true rfl)
  have N14 := Fr.snoc X14 N11 g_b2
  have K14 : Keep h0 h14 [] := K11.wr W14 (Or.inr sz_b2)
  obtain ⟨T16, X16, e16, st16⟩ := getS2 X14 hx hZ hown (host := "") (Or.inl (hw _ (List.mem_of_getElem? (i := 12) rfl))) Via.refl e14 (own_stk S_JUXTAPOSITION K14) (g := (mkF m 31 #[.val (.int p1), .unset, .unset, .unset] [(.int (4 : Int32)), (.ref b2), (.ref b2)])) rfl (hb hby at_31)
  obtain ⟨cl_b2_34, Ar_b2, q_b2, S_b2, N_b2, H_b2, G_b2⟩ := V_b2_14
  have hin34 : ¬ ((4 : Int32) < 0 ∨ cl_b2_34.slots.size ≤ ((4 : Int32)).toNatClampNeg) := inb_of S_b2 ⟨by decide, by decide⟩
  obtain ⟨T17, h17, X17, e17, W17, st17⟩ := stR X16 hx hZ e16 Ar_b2 (j := (4 : Int32)) hin34 rfl (Sto.ofV Ar_b2 q_b2 O2 (Ins.self (E_w15.keep K14))) (g := (mkF m 34 #[.val (.int p1), .unset, .unset, .unset] [(.ref w15), (.int (4 : Int32)), (.ref b2), (.ref b2)])) rfl rfl (hb hby at_34)
  have V_b2_17 : Arv Z h17 b2 k2 (.object "com/example/nuthatch/nuthatch/formula/Kind") (19 : Int32) [(.ref w3), (.ref w6), (.ref w9), (.ref w12), (.ref w15), .null, .null, .null, .null, .null, .null, .null, .null, .null, .null, .null, .null, .null, .null] .null := Arv.set Ar_b2 q_b2 S_b2 N_b2 H_b2 G_b2 rfl W17 4 rfl (Nat.le_of_ble_eq_true rfl)
  have N17 := Fr.snoc X17 N14 g_b2
  have K17 : Keep h0 h17 [] := K14.wr W17 (Or.inr sz_b2)
  obtain ⟨T19, X19, e19, st19⟩ := getS2 X17 hx hZ hown (host := "") (Or.inl (hw _ (List.mem_of_getElem? (i := 14) rfl))) Via.refl e17 (own_stk S_SUPERSCRIPT K17) (g := (mkF m 37 #[.val (.int p1), .unset, .unset, .unset] [(.int (5 : Int32)), (.ref b2), (.ref b2)])) rfl (hb hby at_37)
  obtain ⟨cl_b2_40, Ar_b2, q_b2, S_b2, N_b2, H_b2, G_b2⟩ := V_b2_17
  have hin40 : ¬ ((5 : Int32) < 0 ∨ cl_b2_40.slots.size ≤ ((5 : Int32)).toNatClampNeg) := inb_of S_b2 ⟨by decide, by decide⟩
  obtain ⟨T20, h20, X20, e20, W20, st20⟩ := stR X19 hx hZ e19 Ar_b2 (j := (5 : Int32)) hin40 rfl (Sto.ofV Ar_b2 q_b2 O2 (Ins.self (E_w18.keep K17))) (g := (mkF m 40 #[.val (.int p1), .unset, .unset, .unset] [(.ref w18), (.int (5 : Int32)), (.ref b2), (.ref b2)])) rfl rfl (hb hby at_40)
  have V_b2_20 : Arv Z h20 b2 k2 (.object "com/example/nuthatch/nuthatch/formula/Kind") (19 : Int32) [(.ref w3), (.ref w6), (.ref w9), (.ref w12), (.ref w15), (.ref w18), .null, .null, .null, .null, .null, .null, .null, .null, .null, .null, .null, .null, .null] .null := Arv.set Ar_b2 q_b2 S_b2 N_b2 H_b2 G_b2 rfl W20 5 rfl (Nat.le_of_ble_eq_true rfl)
  have N20 := Fr.snoc X20 N17 g_b2
  have K20 : Keep h0 h20 [] := K17.wr W20 (Or.inr sz_b2)
  obtain ⟨T22, X22, e22, st22⟩ := getS2 X20 hx hZ hown (host := "") (Or.inl (hw _ (List.mem_of_getElem? (i := 16) rfl))) Via.refl e20 (own_stk S_SUBSCRIPT K20) (g := (mkF m 44 #[.val (.int p1), .unset, .unset, .unset] [(.int (6 : Int32)), (.ref b2), (.ref b2)])) rfl (hb hby at_44)
  obtain ⟨cl_b2_47, Ar_b2, q_b2, S_b2, N_b2, H_b2, G_b2⟩ := V_b2_20
  have hin47 : ¬ ((6 : Int32) < 0 ∨ cl_b2_47.slots.size ≤ ((6 : Int32)).toNatClampNeg) := inb_of S_b2 ⟨by decide, by decide⟩
  obtain ⟨T23, h23, X23, e23, W23, st23⟩ := stR X22 hx hZ e22 Ar_b2 (j := (6 : Int32)) hin47 rfl (Sto.ofV Ar_b2 q_b2 O2 (Ins.self (E_w21.keep K20))) (g := (mkF m 47 #[.val (.int p1), .unset, .unset, .unset] [(.ref w21), (.int (6 : Int32)), (.ref b2), (.ref b2)])) rfl rfl (hb hby at_47)
  have V_b2_23 : Arv Z h23 b2 k2 (.object "com/example/nuthatch/nuthatch/formula/Kind") (19 : Int32) [(.ref w3), (.ref w6), (.ref w9), (.ref w12), (.ref w15), (.ref w18), (.ref w21), .null, .null, .null, .null, .null, .null, .null, .null, .null, .null, .null, .null] .null := Arv.set Ar_b2 q_b2 S_b2 N_b2 H_b2 G_b2 rfl W23 6 rfl (Nat.le_of_ble_eq_true rfl)
  have N23 := Fr.snoc X23 N20 g_b2
  have K23 : Keep h0 h23 [] := K20.wr W23 (Or.inr sz_b2)
  obtain ⟨T25, X25, e25, st25⟩ := getS2 X23 hx hZ hown (host := "") (Or.inl (hw _ (List.mem_of_getElem? (i := 18) rfl))) Via.refl e23 (own_stk S_SUBSCRIPT_SUPERSCRIPT K23) (g := (mkF m 51 #[.val (.int p1), .unset, .unset, .unset] [(.int (7 : Int32)), (.ref b2), (.ref b2)])) rfl (hb hby at_51)
  obtain ⟨cl_b2_54, Ar_b2, q_b2, S_b2, N_b2, H_b2, G_b2⟩ := V_b2_23
  have hin54 : ¬ ((7 : Int32) < 0 ∨ cl_b2_54.slots.size ≤ ((7 : Int32)).toNatClampNeg) := inb_of S_b2 ⟨by decide, by decide⟩
  obtain ⟨T26, h26, X26, e26, W26, st26⟩ := stR X25 hx hZ e25 Ar_b2 (j := (7 : Int32)) hin54 rfl (Sto.ofV Ar_b2 q_b2 O2 (Ins.self (E_w24.keep K23))) (g := (mkF m 54 #[.val (.int p1), .unset, .unset, .unset] [(.ref w24), (.int (7 : Int32)), (.ref b2), (.ref b2)])) rfl rfl (hb hby at_54)
  have V_b2_26 : Arv Z h26 b2 k2 (.object "com/example/nuthatch/nuthatch/formula/Kind") (19 : Int32) [(.ref w3), (.ref w6), (.ref w9), (.ref w12), (.ref w15), (.ref w18), (.ref w21), (.ref w24), .null, .null, .null, .null, .null, .null, .null, .null, .null, .null, .null] .null := Arv.set Ar_b2 q_b2 S_b2 N_b2 H_b2 G_b2 rfl W26 7 rfl (Nat.le_of_ble_eq_true rfl)
  have N26 := Fr.snoc X26 N23 g_b2
  have K26 : Keep h0 h26 [] := K23.wr W26 (Or.inr sz_b2)
  obtain ⟨T28, X28, e28, st28⟩ := getS2 X26 hx hZ hown (host := "") (Or.inl (hw _ (List.mem_of_getElem? (i := 20) rfl))) Via.refl e26 (own_stk S_FRACTION K26) (g := (mkF m 58 #[.val (.int p1), .unset, .unset, .unset] [(.int (8 : Int32)), (.ref b2), (.ref b2)])) rfl (hb hby at_58)
  obtain ⟨cl_b2_61, Ar_b2, q_b2, S_b2, N_b2, H_b2, G_b2⟩ := V_b2_26
  have hin61 : ¬ ((8 : Int32) < 0 ∨ cl_b2_61.slots.size ≤ ((8 : Int32)).toNatClampNeg) := inb_of S_b2 ⟨by decide, by decide⟩
  obtain ⟨T29, h29, X29, e29, W29, st29⟩ := stR X28 hx hZ e28 Ar_b2 (j := (8 : Int32)) hin61 rfl (Sto.ofV Ar_b2 q_b2 O2 (Ins.self (E_w27.keep K26))) (g := (mkF m 61 #[.val (.int p1), .unset, .unset, .unset] [(.ref w27), (.int (8 : Int32)), (.ref b2), (.ref b2)])) rfl rfl (hb hby at_61)
  have V_b2_29 : Arv Z h29 b2 k2 (.object "com/example/nuthatch/nuthatch/formula/Kind") (19 : Int32) [(.ref w3), (.ref w6), (.ref w9), (.ref w12), (.ref w15), (.ref w18), (.ref w21), (.ref w24), (.ref w27), .null, .null, .null, .null, .null, .null, .null, .null, .null, .null] .null := Arv.set Ar_b2 q_b2 S_b2 N_b2 H_b2 G_b2 rfl W29 8 rfl (Nat.le_of_ble_eq_true rfl)
  have N29 := Fr.snoc X29 N26 g_b2
  have K29 : Keep h0 h29 [] := K26.wr W29 (Or.inr sz_b2)
  obtain ⟨T31, X31, e31, st31⟩ := getS2 X29 hx hZ hown (host := "") (Or.inl (hw _ (List.mem_of_getElem? (i := 22) rfl))) Via.refl e29 (own_stk S_ATOP K29) (g := (mkF m 65 #[.val (.int p1), .unset, .unset, .unset] [(.int (9 : Int32)), (.ref b2), (.ref b2)])) rfl (hb hby at_65)
  obtain ⟨cl_b2_68, Ar_b2, q_b2, S_b2, N_b2, H_b2, G_b2⟩ := V_b2_29
  have hin68 : ¬ ((9 : Int32) < 0 ∨ cl_b2_68.slots.size ≤ ((9 : Int32)).toNatClampNeg) := inb_of S_b2 ⟨by decide, by decide⟩
  obtain ⟨T32, h32, X32, e32, W32, st32⟩ := stR X31 hx hZ e31 Ar_b2 (j := (9 : Int32)) hin68 rfl (Sto.ofV Ar_b2 q_b2 O2 (Ins.self (E_w30.keep K29))) (g := (mkF m 68 #[.val (.int p1), .unset, .unset, .unset] [(.ref w30), (.int (9 : Int32)), (.ref b2), (.ref b2)])) rfl rfl (hb hby at_68)
  have V_b2_32 : Arv Z h32 b2 k2 (.object "com/example/nuthatch/nuthatch/formula/Kind") (19 : Int32) [(.ref w3), (.ref w6), (.ref w9), (.ref w12), (.ref w15), (.ref w18), (.ref w21), (.ref w24), (.ref w27), (.ref w30), .null, .null, .null, .null, .null, .null, .null, .null, .null] .null := Arv.set Ar_b2 q_b2 S_b2 N_b2 H_b2 G_b2 rfl W32 9 rfl (Nat.le_of_ble_eq_true rfl)
  have N32 := Fr.snoc X32 N29 g_b2
  have K32 : Keep h0 h32 [] := K29.wr W32 (Or.inr sz_b2)
  obtain ⟨T34, X34, e34, st34⟩ := getS2 X32 hx hZ hown (host := "") (Or.inl (hw _ (List.mem_of_getElem? (i := 24) rfl))) Via.refl e32 (own_stk S_ROOT K32) (g := (mkF m 72 #[.val (.int p1), .unset, .unset, .unset] [(.int (10 : Int32)), (.ref b2), (.ref b2)])) rfl (hb hby at_72)
  obtain ⟨cl_b2_75, Ar_b2, q_b2, S_b2, N_b2, H_b2, G_b2⟩ := V_b2_32
  have hin75 : ¬ ((10 : Int32) < 0 ∨ cl_b2_75.slots.size ≤ ((10 : Int32)).toNatClampNeg) := inb_of S_b2 ⟨by decide, by decide⟩
  obtain ⟨T35, h35, X35, e35, W35, st35⟩ := stR X34 hx hZ e34 Ar_b2 (j := (10 : Int32)) hin75 rfl (Sto.ofV Ar_b2 q_b2 O2 (Ins.self (E_w33.keep K32))) (g := (mkF m 75 #[.val (.int p1), .unset, .unset, .unset] [(.ref w33), (.int (10 : Int32)), (.ref b2), (.ref b2)])) rfl rfl (hb hby at_75)
  have V_b2_35 : Arv Z h35 b2 k2 (.object "com/example/nuthatch/nuthatch/formula/Kind") (19 : Int32) [(.ref w3), (.ref w6), (.ref w9), (.ref w12), (.ref w15), (.ref w18), (.ref w21), (.ref w24), (.ref w27), (.ref w30), (.ref w33), .null, .null, .null, .null, .null, .null, .null, .null] .null := Arv.set Ar_b2 q_b2 S_b2 N_b2 H_b2 G_b2 rfl W35 10 rfl (Nat.le_of_ble_eq_true rfl)
  have N35 := Fr.snoc X35 N32 g_b2
  have K35 : Keep h0 h35 [] := K32.wr W35 (Or.inr sz_b2)
  obtain ⟨T37, X37, e37, st37⟩ := getS2 X35 hx hZ hown (host := "") (Or.inl (hw _ (List.mem_of_getElem? (i := 26) rfl))) Via.refl e35 (own_stk S_INDEXED_ROOT K35) (g := (mkF m 79 #[.val (.int p1), .unset, .unset, .unset] [(.int (11 : Int32)), (.ref b2), (.ref b2)])) rfl (hb hby at_79)
  obtain ⟨cl_b2_82, Ar_b2, q_b2, S_b2, N_b2, H_b2, G_b2⟩ := V_b2_35
  have hin82 : ¬ ((11 : Int32) < 0 ∨ cl_b2_82.slots.size ≤ ((11 : Int32)).toNatClampNeg) := inb_of S_b2 ⟨by decide, by decide⟩
  obtain ⟨T38, h38, X38, e38, W38, st38⟩ := stR X37 hx hZ e37 Ar_b2 (j := (11 : Int32)) hin82 rfl (Sto.ofV Ar_b2 q_b2 O2 (Ins.self (E_w36.keep K35))) (g := (mkF m 82 #[.val (.int p1), .unset, .unset, .unset] [(.ref w36), (.int (11 : Int32)), (.ref b2), (.ref b2)])) rfl rfl (hb hby at_82)
  have V_b2_38 : Arv Z h38 b2 k2 (.object "com/example/nuthatch/nuthatch/formula/Kind") (19 : Int32) [(.ref w3), (.ref w6), (.ref w9), (.ref w12), (.ref w15), (.ref w18), (.ref w21), (.ref w24), (.ref w27), (.ref w30), (.ref w33), (.ref w36), .null, .null, .null, .null, .null, .null, .null] .null := Arv.set Ar_b2 q_b2 S_b2 N_b2 H_b2 G_b2 rfl W38 11 rfl (Nat.le_of_ble_eq_true rfl)
  have N38 := Fr.snoc X38 N35 g_b2
  have K38 : Keep h0 h38 [] := K35.wr W38 (Or.inr sz_b2)
  obtain ⟨T40, X40, e40, st40⟩ := getS2 X38 hx hZ hown (host := "") (Or.inl (hw _ (List.mem_of_getElem? (i := 28) rfl))) Via.refl e38 (own_stk S_FENCE K38) (g := (mkF m 86 #[.val (.int p1), .unset, .unset, .unset] [(.int (12 : Int32)), (.ref b2), (.ref b2)])) rfl (hb hby at_86)
  obtain ⟨cl_b2_89, Ar_b2, q_b2, S_b2, N_b2, H_b2, G_b2⟩ := V_b2_38
  have hin89 : ¬ ((12 : Int32) < 0 ∨ cl_b2_89.slots.size ≤ ((12 : Int32)).toNatClampNeg) := inb_of S_b2 ⟨by decide, by decide⟩
  obtain ⟨T41, h41, X41, e41, W41, st41⟩ := stR X40 hx hZ e40 Ar_b2 (j := (12 : Int32)) hin89 rfl (Sto.ofV Ar_b2 q_b2 O2 (Ins.self (E_w39.keep K38))) (g := (mkF m 89 #[.val (.int p1), .unset, .unset, .unset] [(.ref w39), (.int (12 : Int32)), (.ref b2), (.ref b2)])) rfl rfl (hb hby at_89)
  have V_b2_41 : Arv Z h41 b2 k2 (.object "com/example/nuthatch/nuthatch/formula/Kind") (19 : Int32) [(.ref w3), (.ref w6), (.ref w9), (.ref w12), (.ref w15), (.ref w18), (.ref w21), (.ref w24), (.ref w27), (.ref w30), (.ref w33), (.ref w36), (.ref w39), .null, .null, .null, .null, .null, .null] .null := Arv.set Ar_b2 q_b2 S_b2 N_b2 H_b2 G_b2 rfl W41 12 rfl (Nat.le_of_ble_eq_true rfl)
  have N41 := Fr.snoc X41 N38 g_b2
  have K41 : Keep h0 h41 [] := K38.wr W41 (Or.inr sz_b2)
  obtain ⟨T43, X43, e43, st43⟩ := getS2 X41 hx hZ hown (host := "") (Or.inl (hw _ (List.mem_of_getElem? (i := 30) rfl))) Via.refl e41 (own_stk S_ACCENT K41) (g := (mkF m 93 #[.val (.int p1), .unset, .unset, .unset] [(.int (13 : Int32)), (.ref b2), (.ref b2)])) rfl (hb hby at_93)
  obtain ⟨cl_b2_96, Ar_b2, q_b2, S_b2, N_b2, H_b2, G_b2⟩ := V_b2_41
  have hin96 : ¬ ((13 : Int32) < 0 ∨ cl_b2_96.slots.size ≤ ((13 : Int32)).toNatClampNeg) := inb_of S_b2 ⟨by decide, by decide⟩
  obtain ⟨T44, h44, X44, e44, W44, st44⟩ := stR X43 hx hZ e43 Ar_b2 (j := (13 : Int32)) hin96 rfl (Sto.ofV Ar_b2 q_b2 O2 (Ins.self (E_w42.keep K41))) (g := (mkF m 96 #[.val (.int p1), .unset, .unset, .unset] [(.ref w42), (.int (13 : Int32)), (.ref b2), (.ref b2)])) rfl rfl (hb hby at_96)
  have V_b2_44 : Arv Z h44 b2 k2 (.object "com/example/nuthatch/nuthatch/formula/Kind") (19 : Int32) [(.ref w3), (.ref w6), (.ref w9), (.ref w12), (.ref w15), (.ref w18), (.ref w21), (.ref w24), (.ref w27), (.ref w30), (.ref w33), (.ref w36), (.ref w39), (.ref w42), .null, .null, .null, .null, .null] .null := Arv.set Ar_b2 q_b2 S_b2 N_b2 H_b2 G_b2 rfl W44 13 rfl (Nat.le_of_ble_eq_true rfl)
  have N44 := Fr.snoc X44 N41 g_b2
  have K44 : Keep h0 h44 [] := K41.wr W44 (Or.inr sz_b2)
  obtain ⟨T46, X46, e46, st46⟩ := getS2 X44 hx hZ hown (host := "") (Or.inl (hw _ (List.mem_of_getElem? (i := 32) rfl))) Via.refl e44 (own_stk S_OVER K44) (g := (mkF m 100 #[.val (.int p1), .unset, .unset, .unset] [(.int (14 : Int32)), (.ref b2), (.ref b2)])) rfl (hb hby at_100)
  obtain ⟨cl_b2_103, Ar_b2, q_b2, S_b2, N_b2, H_b2, G_b2⟩ := V_b2_44
  have hin103 : ¬ ((14 : Int32) < 0 ∨ cl_b2_103.slots.size ≤ ((14 : Int32)).toNatClampNeg) := inb_of S_b2 ⟨by decide, by decide⟩
  obtain ⟨T47, h47, X47, e47, W47, st47⟩ := stR X46 hx hZ e46 Ar_b2 (j := (14 : Int32)) hin103 rfl (Sto.ofV Ar_b2 q_b2 O2 (Ins.self (E_w45.keep K44))) (g := (mkF m 103 #[.val (.int p1), .unset, .unset, .unset] [(.ref w45), (.int (14 : Int32)), (.ref b2), (.ref b2)])) rfl rfl (hb hby at_103)
  have V_b2_47 : Arv Z h47 b2 k2 (.object "com/example/nuthatch/nuthatch/formula/Kind") (19 : Int32) [(.ref w3), (.ref w6), (.ref w9), (.ref w12), (.ref w15), (.ref w18), (.ref w21), (.ref w24), (.ref w27), (.ref w30), (.ref w33), (.ref w36), (.ref w39), (.ref w42), (.ref w45), .null, .null, .null, .null] .null := Arv.set Ar_b2 q_b2 S_b2 N_b2 H_b2 G_b2 rfl W47 14 rfl (Nat.le_of_ble_eq_true rfl)
  have N47 := Fr.snoc X47 N44 g_b2
  have K47 : Keep h0 h47 [] := K44.wr W47 (Or.inr sz_b2)
  obtain ⟨T49, X49, e49, st49⟩ := getS2 X47 hx hZ hown (host := "") (Or.inl (hw _ (List.mem_of_getElem? (i := 34) rfl))) Via.refl e47 (own_stk S_UNDER K47) (g := (mkF m 107 #[.val (.int p1), .unset, .unset, .unset] [(.int (15 : Int32)), (.ref b2), (.ref b2)])) rfl (hb hby at_107)
  obtain ⟨cl_b2_110, Ar_b2, q_b2, S_b2, N_b2, H_b2, G_b2⟩ := V_b2_47
  have hin110 : ¬ ((15 : Int32) < 0 ∨ cl_b2_110.slots.size ≤ ((15 : Int32)).toNatClampNeg) := inb_of S_b2 ⟨by decide, by decide⟩
  obtain ⟨T50, h50, X50, e50, W50, st50⟩ := stR X49 hx hZ e49 Ar_b2 (j := (15 : Int32)) hin110 rfl (Sto.ofV Ar_b2 q_b2 O2 (Ins.self (E_w48.keep K47))) (g := (mkF m 110 #[.val (.int p1), .unset, .unset, .unset] [(.ref w48), (.int (15 : Int32)), (.ref b2), (.ref b2)])) rfl rfl (hb hby at_110)
  have V_b2_50 : Arv Z h50 b2 k2 (.object "com/example/nuthatch/nuthatch/formula/Kind") (19 : Int32) [(.ref w3), (.ref w6), (.ref w9), (.ref w12), (.ref w15), (.ref w18), (.ref w21), (.ref w24), (.ref w27), (.ref w30), (.ref w33), (.ref w36), (.ref w39), (.ref w42), (.ref w45), (.ref w48), .null, .null, .null] .null := Arv.set Ar_b2 q_b2 S_b2 N_b2 H_b2 G_b2 rfl W50 15 rfl (Nat.le_of_ble_eq_true rfl)
  have N50 := Fr.snoc X50 N47 g_b2
  have K50 : Keep h0 h50 [] := K47.wr W50 (Or.inr sz_b2)
  obtain ⟨T52, X52, e52, st52⟩ := getS2 X50 hx hZ hown (host := "") (Or.inl (hw _ (List.mem_of_getElem? (i := 36) rfl))) Via.refl e50 (own_stk S_UNDER_OVER K50) (g := (mkF m 114 #[.val (.int p1), .unset, .unset, .unset] [(.int (16 : Int32)), (.ref b2), (.ref b2)])) rfl (hb hby at_114)
  obtain ⟨cl_b2_117, Ar_b2, q_b2, S_b2, N_b2, H_b2, G_b2⟩ := V_b2_50
  have hin117 : ¬ ((16 : Int32) < 0 ∨ cl_b2_117.slots.size ≤ ((16 : Int32)).toNatClampNeg) := inb_of S_b2 ⟨by decide, by decide⟩
  obtain ⟨T53, h53, X53, e53, W53, st53⟩ := stR X52 hx hZ e52 Ar_b2 (j := (16 : Int32)) hin117 rfl (Sto.ofV Ar_b2 q_b2 O2 (Ins.self (E_w51.keep K50))) (g := (mkF m 117 #[.val (.int p1), .unset, .unset, .unset] [(.ref w51), (.int (16 : Int32)), (.ref b2), (.ref b2)])) rfl rfl (hb hby at_117)
  have V_b2_53 : Arv Z h53 b2 k2 (.object "com/example/nuthatch/nuthatch/formula/Kind") (19 : Int32) [(.ref w3), (.ref w6), (.ref w9), (.ref w12), (.ref w15), (.ref w18), (.ref w21), (.ref w24), (.ref w27), (.ref w30), (.ref w33), (.ref w36), (.ref w39), (.ref w42), (.ref w45), (.ref w48), (.ref w51), .null, .null] .null := Arv.set Ar_b2 q_b2 S_b2 N_b2 H_b2 G_b2 rfl W53 16 rfl (Nat.le_of_ble_eq_true rfl)
  have N53 := Fr.snoc X53 N50 g_b2
  have K53 : Keep h0 h53 [] := K50.wr W53 (Or.inr sz_b2)
  obtain ⟨T55, X55, e55, st55⟩ := getS2 X53 hx hZ hown (host := "") (Or.inl (hw _ (List.mem_of_getElem? (i := 38) rfl))) Via.refl e53 (own_stk S_TABLE K53) (g := (mkF m 121 #[.val (.int p1), .unset, .unset, .unset] [(.int (17 : Int32)), (.ref b2), (.ref b2)])) rfl (hb hby at_121)
  obtain ⟨cl_b2_124, Ar_b2, q_b2, S_b2, N_b2, H_b2, G_b2⟩ := V_b2_53
  have hin124 : ¬ ((17 : Int32) < 0 ∨ cl_b2_124.slots.size ≤ ((17 : Int32)).toNatClampNeg) := inb_of S_b2 ⟨by decide, by decide⟩
  obtain ⟨T56, h56, X56, e56, W56, st56⟩ := stR X55 hx hZ e55 Ar_b2 (j := (17 : Int32)) hin124 rfl (Sto.ofV Ar_b2 q_b2 O2 (Ins.self (E_w54.keep K53))) (g := (mkF m 124 #[.val (.int p1), .unset, .unset, .unset] [(.ref w54), (.int (17 : Int32)), (.ref b2), (.ref b2)])) rfl rfl (hb hby at_124)
  have V_b2_56 : Arv Z h56 b2 k2 (.object "com/example/nuthatch/nuthatch/formula/Kind") (19 : Int32) [(.ref w3), (.ref w6), (.ref w9), (.ref w12), (.ref w15), (.ref w18), (.ref w21), (.ref w24), (.ref w27), (.ref w30), (.ref w33), (.ref w36), (.ref w39), (.ref w42), (.ref w45), (.ref w48), (.ref w51), (.ref w54), .null] .null := Arv.set Ar_b2 q_b2 S_b2 N_b2 H_b2 G_b2 rfl W56 17 rfl (Nat.le_of_ble_eq_true rfl)
  have N56 := Fr.snoc X56 N53 g_b2
  have K56 : Keep h0 h56 [] := K53.wr W56 (Or.inr sz_b2)
  obtain ⟨T58, X58, e58, st58⟩ := getS2 X56 hx hZ hown (host := "") (Or.inl (hw _ (List.mem_of_getElem? (i := 40) rfl))) Via.refl e56 (own_stk S_TABLE_ROW K56) (g := (mkF m 128 #[.val (.int p1), .unset, .unset, .unset] [(.int (18 : Int32)), (.ref b2), (.ref b2)])) rfl (hb hby at_128)
  obtain ⟨cl_b2_131, Ar_b2, q_b2, S_b2, N_b2, H_b2, G_b2⟩ := V_b2_56
  have hin131 : ¬ ((18 : Int32) < 0 ∨ cl_b2_131.slots.size ≤ ((18 : Int32)).toNatClampNeg) := inb_of S_b2 ⟨by decide, by decide⟩
  obtain ⟨T59, h59, X59, e59, W59, st59⟩ := stR X58 hx hZ e58 Ar_b2 (j := (18 : Int32)) hin131 rfl (Sto.ofV Ar_b2 q_b2 O2 (Ins.self (E_w57.keep K56))) (g := (mkF m 131 #[.val (.int p1), .unset, .unset, .unset] [(.ref w57), (.int (18 : Int32)), (.ref b2), (.ref b2)])) rfl rfl (hb hby at_131)
  have V_b2_59 : Arv Z h59 b2 k2 (.object "com/example/nuthatch/nuthatch/formula/Kind") (19 : Int32) [(.ref w3), (.ref w6), (.ref w9), (.ref w12), (.ref w15), (.ref w18), (.ref w21), (.ref w24), (.ref w27), (.ref w30), (.ref w33), (.ref w36), (.ref w39), (.ref w42), (.ref w45), (.ref w48), (.ref w51), (.ref w54), (.ref w57)] .null := Arv.set Ar_b2 q_b2 S_b2 N_b2 H_b2 G_b2 rfl W59 18 rfl (Nat.le_of_ble_eq_true rfl)
  have N59 := Fr.snoc X59 N56 g_b2
  have K59 : Keep h0 h59 [] := K56.wr W59 (Or.inr sz_b2)
  obtain ⟨cl_b2_163, Ar_b2, q_b2, S_b2, N_b2, H_b2, G_b2⟩ := V_b2_59
  have hin163 : ¬ (((p1 &&& (2147483647 : Int32)) % (19 : Int32)) < 0 ∨ cl_b2_163.slots.size ≤ (((p1 &&& (2147483647 : Int32)) % (19 : Int32))).toNatClampNeg) := inb_of S_b2 ⟨hn163, hl163⟩
  have hat163 : cl_b2_163.slots[(((p1 &&& (2147483647 : Int32)) % (19 : Int32))).toNatClampNeg]? = some (.ref w60) := H_b2.at hin163 hv163
  obtain ⟨cq61, kq61, q61a, q61b, q61c⟩ := isOf hZ e59 (E_w60.keep K59)
  obtain ⟨_, _, ⟨T61, L61, k61, n61⟩, -, X61, ⟨Lc61, hQ61, l61, y61, z61⟩, st61⟩ := X59.virtualBack hx (y := (⟨"com/example/nuthatch/nuthatch/formula/Kind", "hasSymbol", "()Z"⟩ : MethodName)) (z := (⟨"com/example/nuthatch/nuthatch/formula/Kind", "hasSymbol", "()Z"⟩ : MethodName)) hown (mvT hZ (hw _ (List.mem_of_getElem? (i := 43) rfl))) (mvT hZ (hw _ (List.mem_of_getElem? (i := 44) rfl))) (notFace_of_selects (args := #[]) (mvT hZ (hw _ (List.mem_of_getElem? (i := 46) rfl)))) (mvT hZ (hw _ (List.mem_of_getElem? (i := 46) rfl))) (mvT hZ (hw _ (List.mem_of_getElem? (i := 45) rfl))) (by decide) (backOf (W := 0) (rm1_fft l Z a0 hw [] w60 w3 w9 w12 h59 n0 (Nat.le_trans Z0 K59.1) (own_stk S_SYMBOL K59) (own_stk S_INFIX K59) (own_stk S_PREFIX K59) nq0 nq1 nq2) hZ (hw _ (List.mem_of_getElem? (i := 47) rfl)) (hw _ (List.mem_of_getElem? (i := 3) rfl)) (by decide) (by decide)) q61a q61c (g := (mkF m 164 #[.val (.int p1), .val (.ref b2), .val (.int ((p1 &&& (2147483647 : Int32)) % (19 : Int32))), .val (.int (0 : Int32))] [(.ref w60)])) rfl (by rw [hml]; rfl) (Steps.refl _) (argsL := []) (rest := []) (lenOf pd_0_0 rfl) rfl (by show 2 * 0 + _ ≤ _; exact Nat.le_of_eq rfl) (hb hby at_164) (fun _ _ => ⟨rfl, e59, (by decide : 1 + 0 ≤ _), (by decide : 19 + 0 ≤ _)⟩)
  dsimp only [Pt.U, Pt.locs, Pt.cells, Pt.slots] at X61 l61 y61 z61 st61 hQ61
  subst l61 y61 z61
  obtain ⟨rfl, N61q, eQq⟩ := hQ61
  have N61 := Fr.app N59 N61q
  obtain ⟨fs, hr, hrun, hended, hW, hsame⟩ := X61.leave (v := some (.int (1 : Int32))) (fun h => by rw [Bd.returns] at h; cases h)
  refine ⟨_, _, pre0 _ ?_, hrun, hended, _, _, rfl, ?_, ⟨_, rfl⟩, hW, hsame.mono (by decide) (by decide)⟩
  · show Steps p.tables e below (s₁.setTop (mkF m 0 #[.val (.int p1), .unset, .unset, .unset] [])) _
    refine XS.bipush X0.here hx rfl (hb hby at_0) ?_
    show Steps p.tables e below (s₁.setTop (mkF m 2 #[.val (.int p1), .unset, .unset, .unset] [(.int (19 : Int32))])) _
    refine st2 _ ?_
    show Steps p.tables e below (T2.setTop (mkF m 5 #[.val (.int p1), .unset, .unset, .unset] [(.ref b2)])) _
    refine XS.dup X2.here hx rfl (hb hby at_5) rfl rfl ?_
    show Steps p.tables e below (T2.setTop (mkF m 6 #[.val (.int p1), .unset, .unset, .unset] [(.ref b2), (.ref b2)])) _
    refine XS.iconst X2.here hx rfl (hb hby at_6) ?_
    show Steps p.tables e below (T2.setTop (mkF m 7 #[.val (.int p1), .unset, .unset, .unset] [(.int (0 : Int32)), (.ref b2), (.ref b2)])) _
    refine st4 _ ?_
    show Steps p.tables e below (T4.setTop (mkF m 10 #[.val (.int p1), .unset, .unset, .unset] [(.ref w3), (.int (0 : Int32)), (.ref b2), (.ref b2)])) _
    refine st5 _ ?_
    show Steps p.tables e below (T5.setTop (mkF m 11 #[.val (.int p1), .unset, .unset, .unset] [(.ref b2)])) _
    refine XS.dup X5.here hx rfl (hb hby at_11) rfl rfl ?_
    show Steps p.tables e below (T5.setTop (mkF m 12 #[.val (.int p1), .unset, .unset, .unset] [(.ref b2), (.ref b2)])) _
    refine XS.iconst X5.here hx rfl (hb hby at_12) ?_
    show Steps p.tables e below (T5.setTop (mkF m 13 #[.val (.int p1), .unset, .unset, .unset] [(.int (1 : Int32)), (.ref b2), (.ref b2)])) _
    refine st7 _ ?_
    show Steps p.tables e below (T7.setTop (mkF m 16 #[.val (.int p1), .unset, .unset, .unset] [(.ref w6), (.int (1 : Int32)), (.ref b2), (.ref b2)])) _
    refine st8 _ ?_
    show Steps p.tables e below (T8.setTop (mkF m 17 #[.val (.int p1), .unset, .unset, .unset] [(.ref b2)])) _
    refine XS.dup X8.here hx rfl (hb hby at_17) rfl rfl ?_
    show Steps p.tables e below (T8.setTop (mkF m 18 #[.val (.int p1), .unset, .unset, .unset] [(.ref b2), (.ref b2)])) _
    refine XS.iconst X8.here hx rfl (hb hby at_18) ?_
    show Steps p.tables e below (T8.setTop (mkF m 19 #[.val (.int p1), .unset, .unset, .unset] [(.int (2 : Int32)), (.ref b2), (.ref b2)])) _
    refine st10 _ ?_
    show Steps p.tables e below (T10.setTop (mkF m 22 #[.val (.int p1), .unset, .unset, .unset] [(.ref w9), (.int (2 : Int32)), (.ref b2), (.ref b2)])) _
    refine st11 _ ?_
    show Steps p.tables e below (T11.setTop (mkF m 23 #[.val (.int p1), .unset, .unset, .unset] [(.ref b2)])) _
    refine XS.dup X11.here hx rfl (hb hby at_23) rfl rfl ?_
    show Steps p.tables e below (T11.setTop (mkF m 24 #[.val (.int p1), .unset, .unset, .unset] [(.ref b2), (.ref b2)])) _
    refine XS.iconst X11.here hx rfl (hb hby at_24) ?_
    show Steps p.tables e below (T11.setTop (mkF m 25 #[.val (.int p1), .unset, .unset, .unset] [(.int (3 : Int32)), (.ref b2), (.ref b2)])) _
    refine st13 _ ?_
    show Steps p.tables e below (T13.setTop (mkF m 28 #[.val (.int p1), .unset, .unset, .unset] [(.ref w12), (.int (3 : Int32)), (.ref b2), (.ref b2)])) _
    refine st14 _ ?_
    show Steps p.tables e below (T14.setTop (mkF m 29 #[.val (.int p1), .unset, .unset, .unset] [(.ref b2)])) _
    refine XS.dup X14.here hx rfl (hb hby at_29) rfl rfl ?_
    show Steps p.tables e below (T14.setTop (mkF m 30 #[.val (.int p1), .unset, .unset, .unset] [(.ref b2), (.ref b2)])) _
    refine XS.iconst X14.here hx rfl (hb hby at_30) ?_
    show Steps p.tables e below (T14.setTop (mkF m 31 #[.val (.int p1), .unset, .unset, .unset] [(.int (4 : Int32)), (.ref b2), (.ref b2)])) _
    refine st16 _ ?_
    show Steps p.tables e below (T16.setTop (mkF m 34 #[.val (.int p1), .unset, .unset, .unset] [(.ref w15), (.int (4 : Int32)), (.ref b2), (.ref b2)])) _
    refine st17 _ ?_
    show Steps p.tables e below (T17.setTop (mkF m 35 #[.val (.int p1), .unset, .unset, .unset] [(.ref b2)])) _
    refine XS.dup X17.here hx rfl (hb hby at_35) rfl rfl ?_
    show Steps p.tables e below (T17.setTop (mkF m 36 #[.val (.int p1), .unset, .unset, .unset] [(.ref b2), (.ref b2)])) _
    refine XS.iconst X17.here hx rfl (hb hby at_36) ?_
    show Steps p.tables e below (T17.setTop (mkF m 37 #[.val (.int p1), .unset, .unset, .unset] [(.int (5 : Int32)), (.ref b2), (.ref b2)])) _
    refine st19 _ ?_
    show Steps p.tables e below (T19.setTop (mkF m 40 #[.val (.int p1), .unset, .unset, .unset] [(.ref w18), (.int (5 : Int32)), (.ref b2), (.ref b2)])) _
    refine st20 _ ?_
    show Steps p.tables e below (T20.setTop (mkF m 41 #[.val (.int p1), .unset, .unset, .unset] [(.ref b2)])) _
    refine XS.dup X20.here hx rfl (hb hby at_41) rfl rfl ?_
    show Steps p.tables e below (T20.setTop (mkF m 42 #[.val (.int p1), .unset, .unset, .unset] [(.ref b2), (.ref b2)])) _
    refine XS.bipush X20.here hx rfl (hb hby at_42) ?_
    show Steps p.tables e below (T20.setTop (mkF m 44 #[.val (.int p1), .unset, .unset, .unset] [(.int (6 : Int32)), (.ref b2), (.ref b2)])) _
    refine st22 _ ?_
    show Steps p.tables e below (T22.setTop (mkF m 47 #[.val (.int p1), .unset, .unset, .unset] [(.ref w21), (.int (6 : Int32)), (.ref b2), (.ref b2)])) _
    refine st23 _ ?_
    show Steps p.tables e below (T23.setTop (mkF m 48 #[.val (.int p1), .unset, .unset, .unset] [(.ref b2)])) _
    refine XS.dup X23.here hx rfl (hb hby at_48) rfl rfl ?_
    show Steps p.tables e below (T23.setTop (mkF m 49 #[.val (.int p1), .unset, .unset, .unset] [(.ref b2), (.ref b2)])) _
    refine XS.bipush X23.here hx rfl (hb hby at_49) ?_
    show Steps p.tables e below (T23.setTop (mkF m 51 #[.val (.int p1), .unset, .unset, .unset] [(.int (7 : Int32)), (.ref b2), (.ref b2)])) _
    refine st25 _ ?_
    show Steps p.tables e below (T25.setTop (mkF m 54 #[.val (.int p1), .unset, .unset, .unset] [(.ref w24), (.int (7 : Int32)), (.ref b2), (.ref b2)])) _
    refine st26 _ ?_
    show Steps p.tables e below (T26.setTop (mkF m 55 #[.val (.int p1), .unset, .unset, .unset] [(.ref b2)])) _
    refine XS.dup X26.here hx rfl (hb hby at_55) rfl rfl ?_
    show Steps p.tables e below (T26.setTop (mkF m 56 #[.val (.int p1), .unset, .unset, .unset] [(.ref b2), (.ref b2)])) _
    refine XS.bipush X26.here hx rfl (hb hby at_56) ?_
    show Steps p.tables e below (T26.setTop (mkF m 58 #[.val (.int p1), .unset, .unset, .unset] [(.int (8 : Int32)), (.ref b2), (.ref b2)])) _
    refine st28 _ ?_
    show Steps p.tables e below (T28.setTop (mkF m 61 #[.val (.int p1), .unset, .unset, .unset] [(.ref w27), (.int (8 : Int32)), (.ref b2), (.ref b2)])) _
    refine st29 _ ?_
    show Steps p.tables e below (T29.setTop (mkF m 62 #[.val (.int p1), .unset, .unset, .unset] [(.ref b2)])) _
    refine XS.dup X29.here hx rfl (hb hby at_62) rfl rfl ?_
    show Steps p.tables e below (T29.setTop (mkF m 63 #[.val (.int p1), .unset, .unset, .unset] [(.ref b2), (.ref b2)])) _
    refine XS.bipush X29.here hx rfl (hb hby at_63) ?_
    show Steps p.tables e below (T29.setTop (mkF m 65 #[.val (.int p1), .unset, .unset, .unset] [(.int (9 : Int32)), (.ref b2), (.ref b2)])) _
    refine st31 _ ?_
    show Steps p.tables e below (T31.setTop (mkF m 68 #[.val (.int p1), .unset, .unset, .unset] [(.ref w30), (.int (9 : Int32)), (.ref b2), (.ref b2)])) _
    refine st32 _ ?_
    show Steps p.tables e below (T32.setTop (mkF m 69 #[.val (.int p1), .unset, .unset, .unset] [(.ref b2)])) _
    refine XS.dup X32.here hx rfl (hb hby at_69) rfl rfl ?_
    show Steps p.tables e below (T32.setTop (mkF m 70 #[.val (.int p1), .unset, .unset, .unset] [(.ref b2), (.ref b2)])) _
    refine XS.bipush X32.here hx rfl (hb hby at_70) ?_
    show Steps p.tables e below (T32.setTop (mkF m 72 #[.val (.int p1), .unset, .unset, .unset] [(.int (10 : Int32)), (.ref b2), (.ref b2)])) _
    refine st34 _ ?_
    show Steps p.tables e below (T34.setTop (mkF m 75 #[.val (.int p1), .unset, .unset, .unset] [(.ref w33), (.int (10 : Int32)), (.ref b2), (.ref b2)])) _
    refine st35 _ ?_
    show Steps p.tables e below (T35.setTop (mkF m 76 #[.val (.int p1), .unset, .unset, .unset] [(.ref b2)])) _
    refine XS.dup X35.here hx rfl (hb hby at_76) rfl rfl ?_
    show Steps p.tables e below (T35.setTop (mkF m 77 #[.val (.int p1), .unset, .unset, .unset] [(.ref b2), (.ref b2)])) _
    refine XS.bipush X35.here hx rfl (hb hby at_77) ?_
    show Steps p.tables e below (T35.setTop (mkF m 79 #[.val (.int p1), .unset, .unset, .unset] [(.int (11 : Int32)), (.ref b2), (.ref b2)])) _
    refine st37 _ ?_
    show Steps p.tables e below (T37.setTop (mkF m 82 #[.val (.int p1), .unset, .unset, .unset] [(.ref w36), (.int (11 : Int32)), (.ref b2), (.ref b2)])) _
    refine st38 _ ?_
    show Steps p.tables e below (T38.setTop (mkF m 83 #[.val (.int p1), .unset, .unset, .unset] [(.ref b2)])) _
    refine XS.dup X38.here hx rfl (hb hby at_83) rfl rfl ?_
    show Steps p.tables e below (T38.setTop (mkF m 84 #[.val (.int p1), .unset, .unset, .unset] [(.ref b2), (.ref b2)])) _
    refine XS.bipush X38.here hx rfl (hb hby at_84) ?_
    show Steps p.tables e below (T38.setTop (mkF m 86 #[.val (.int p1), .unset, .unset, .unset] [(.int (12 : Int32)), (.ref b2), (.ref b2)])) _
    refine st40 _ ?_
    show Steps p.tables e below (T40.setTop (mkF m 89 #[.val (.int p1), .unset, .unset, .unset] [(.ref w39), (.int (12 : Int32)), (.ref b2), (.ref b2)])) _
    refine st41 _ ?_
    show Steps p.tables e below (T41.setTop (mkF m 90 #[.val (.int p1), .unset, .unset, .unset] [(.ref b2)])) _
    refine XS.dup X41.here hx rfl (hb hby at_90) rfl rfl ?_
    show Steps p.tables e below (T41.setTop (mkF m 91 #[.val (.int p1), .unset, .unset, .unset] [(.ref b2), (.ref b2)])) _
    refine XS.bipush X41.here hx rfl (hb hby at_91) ?_
    show Steps p.tables e below (T41.setTop (mkF m 93 #[.val (.int p1), .unset, .unset, .unset] [(.int (13 : Int32)), (.ref b2), (.ref b2)])) _
    refine st43 _ ?_
    show Steps p.tables e below (T43.setTop (mkF m 96 #[.val (.int p1), .unset, .unset, .unset] [(.ref w42), (.int (13 : Int32)), (.ref b2), (.ref b2)])) _
    refine st44 _ ?_
    show Steps p.tables e below (T44.setTop (mkF m 97 #[.val (.int p1), .unset, .unset, .unset] [(.ref b2)])) _
    refine XS.dup X44.here hx rfl (hb hby at_97) rfl rfl ?_
    show Steps p.tables e below (T44.setTop (mkF m 98 #[.val (.int p1), .unset, .unset, .unset] [(.ref b2), (.ref b2)])) _
    refine XS.bipush X44.here hx rfl (hb hby at_98) ?_
    show Steps p.tables e below (T44.setTop (mkF m 100 #[.val (.int p1), .unset, .unset, .unset] [(.int (14 : Int32)), (.ref b2), (.ref b2)])) _
    refine st46 _ ?_
    show Steps p.tables e below (T46.setTop (mkF m 103 #[.val (.int p1), .unset, .unset, .unset] [(.ref w45), (.int (14 : Int32)), (.ref b2), (.ref b2)])) _
    refine st47 _ ?_
    show Steps p.tables e below (T47.setTop (mkF m 104 #[.val (.int p1), .unset, .unset, .unset] [(.ref b2)])) _
    refine XS.dup X47.here hx rfl (hb hby at_104) rfl rfl ?_
    show Steps p.tables e below (T47.setTop (mkF m 105 #[.val (.int p1), .unset, .unset, .unset] [(.ref b2), (.ref b2)])) _
    refine XS.bipush X47.here hx rfl (hb hby at_105) ?_
    show Steps p.tables e below (T47.setTop (mkF m 107 #[.val (.int p1), .unset, .unset, .unset] [(.int (15 : Int32)), (.ref b2), (.ref b2)])) _
    refine st49 _ ?_
    show Steps p.tables e below (T49.setTop (mkF m 110 #[.val (.int p1), .unset, .unset, .unset] [(.ref w48), (.int (15 : Int32)), (.ref b2), (.ref b2)])) _
    refine st50 _ ?_
    show Steps p.tables e below (T50.setTop (mkF m 111 #[.val (.int p1), .unset, .unset, .unset] [(.ref b2)])) _
    refine XS.dup X50.here hx rfl (hb hby at_111) rfl rfl ?_
    show Steps p.tables e below (T50.setTop (mkF m 112 #[.val (.int p1), .unset, .unset, .unset] [(.ref b2), (.ref b2)])) _
    refine XS.bipush X50.here hx rfl (hb hby at_112) ?_
    show Steps p.tables e below (T50.setTop (mkF m 114 #[.val (.int p1), .unset, .unset, .unset] [(.int (16 : Int32)), (.ref b2), (.ref b2)])) _
    refine st52 _ ?_
    show Steps p.tables e below (T52.setTop (mkF m 117 #[.val (.int p1), .unset, .unset, .unset] [(.ref w51), (.int (16 : Int32)), (.ref b2), (.ref b2)])) _
    refine st53 _ ?_
    show Steps p.tables e below (T53.setTop (mkF m 118 #[.val (.int p1), .unset, .unset, .unset] [(.ref b2)])) _
    refine XS.dup X53.here hx rfl (hb hby at_118) rfl rfl ?_
    show Steps p.tables e below (T53.setTop (mkF m 119 #[.val (.int p1), .unset, .unset, .unset] [(.ref b2), (.ref b2)])) _
    refine XS.bipush X53.here hx rfl (hb hby at_119) ?_
    show Steps p.tables e below (T53.setTop (mkF m 121 #[.val (.int p1), .unset, .unset, .unset] [(.int (17 : Int32)), (.ref b2), (.ref b2)])) _
    refine st55 _ ?_
    show Steps p.tables e below (T55.setTop (mkF m 124 #[.val (.int p1), .unset, .unset, .unset] [(.ref w54), (.int (17 : Int32)), (.ref b2), (.ref b2)])) _
    refine st56 _ ?_
    show Steps p.tables e below (T56.setTop (mkF m 125 #[.val (.int p1), .unset, .unset, .unset] [(.ref b2)])) _
    refine XS.dup X56.here hx rfl (hb hby at_125) rfl rfl ?_
    show Steps p.tables e below (T56.setTop (mkF m 126 #[.val (.int p1), .unset, .unset, .unset] [(.ref b2), (.ref b2)])) _
    refine XS.bipush X56.here hx rfl (hb hby at_126) ?_
    show Steps p.tables e below (T56.setTop (mkF m 128 #[.val (.int p1), .unset, .unset, .unset] [(.int (18 : Int32)), (.ref b2), (.ref b2)])) _
    refine st58 _ ?_
    show Steps p.tables e below (T58.setTop (mkF m 131 #[.val (.int p1), .unset, .unset, .unset] [(.ref w57), (.int (18 : Int32)), (.ref b2), (.ref b2)])) _
    refine st59 _ ?_
    show Steps p.tables e below (T59.setTop (mkF m 132 #[.val (.int p1), .unset, .unset, .unset] [(.ref b2)])) _
    refine XS.astoreN X59.here hx rfl (hb hby at_132) rfl rfl (l' := #[.val (.int p1), .val (.ref b2), .unset, .unset]) rfl ?_
    show Steps p.tables e below (T59.setTop (mkF m 133 #[.val (.int p1), .val (.ref b2), .unset, .unset] [])) _
    refine XS.iloadN X59.here hx rfl (hb hby at_133) rfl ?_
    show Steps p.tables e below (T59.setTop (mkF m 134 #[.val (.int p1), .val (.ref b2), .unset, .unset] [(.int p1)])) _
    refine X59.ldcInt hx hown (mvT hZ (hw _ (List.mem_of_getElem? (i := 42) rfl))) (g := (mkF m 134 #[.val (.int p1), .val (.ref b2), .unset, .unset] [(.int p1)])) rfl (hb hby at_134) _ ?_
    show Steps p.tables e below (T59.setTop (mkF m 136 #[.val (.int p1), .val (.ref b2), .unset, .unset] [(.int (2147483647 : Int32)), (.int p1)])) _
    refine XS.iand X59.here hx rfl (hb hby at_136) rfl ?_
    show Steps p.tables e below (T59.setTop (mkF m 137 #[.val (.int p1), .val (.ref b2), .unset, .unset] [(.int (p1 &&& (2147483647 : Int32)))])) _
    refine XS.bipush X59.here hx rfl (hb hby at_137) ?_
    show Steps p.tables e below (T59.setTop (mkF m 139 #[.val (.int p1), .val (.ref b2), .unset, .unset] [(.int (19 : Int32)), (.int (p1 &&& (2147483647 : Int32)))])) _
    refine iremM X59 hx rfl (hb hby at_139) rfl (by decide) ?_
    show Steps p.tables e below (T59.setTop (mkF m 140 #[.val (.int p1), .val (.ref b2), .unset, .unset] [(.int ((p1 &&& (2147483647 : Int32)) % (19 : Int32)))])) _
    refine XS.istoreN X59.here hx rfl (hb hby at_140) rfl (l' := #[.val (.int p1), .val (.ref b2), .val (.int ((p1 &&& (2147483647 : Int32)) % (19 : Int32))), .unset]) rfl ?_
    show Steps p.tables e below (T59.setTop (mkF m 141 #[.val (.int p1), .val (.ref b2), .val (.int ((p1 &&& (2147483647 : Int32)) % (19 : Int32))), .unset] [])) _
    refine XS.iloadN X59.here hx rfl (hb hby at_141) rfl ?_
    show Steps p.tables e below (T59.setTop (mkF m 142 #[.val (.int p1), .val (.ref b2), .val (.int ((p1 &&& (2147483647 : Int32)) % (19 : Int32))), .unset] [(.int ((p1 &&& (2147483647 : Int32)) % (19 : Int32)))])) _
    refine XS.ifNo X59.here hx rfl (hb hby at_142) rfl ((if0 _ _).trans (feq hc142).1) ?_
    show Steps p.tables e below (T59.setTop (mkF m 145 #[.val (.int p1), .val (.ref b2), .val (.int ((p1 &&& (2147483647 : Int32)) % (19 : Int32))), .unset] [])) _
    refine XS.iloadN X59.here hx rfl (hb hby at_145) rfl ?_
    show Steps p.tables e below (T59.setTop (mkF m 146 #[.val (.int p1), .val (.ref b2), .val (.int ((p1 &&& (2147483647 : Int32)) % (19 : Int32))), .unset] [(.int ((p1 &&& (2147483647 : Int32)) % (19 : Int32)))])) _
    refine XS.iconst X59.here hx rfl (hb hby at_146) ?_
    show Steps p.tables e below (T59.setTop (mkF m 147 #[.val (.int p1), .val (.ref b2), .val (.int ((p1 &&& (2147483647 : Int32)) % (19 : Int32))), .unset] [(.int (2 : Int32)), (.int ((p1 &&& (2147483647 : Int32)) % (19 : Int32)))])) _
    refine XS.icmpNo X59.here hx rfl (hb hby at_147) rfl (feq hc147).1 ?_
    show Steps p.tables e below (T59.setTop (mkF m 150 #[.val (.int p1), .val (.ref b2), .val (.int ((p1 &&& (2147483647 : Int32)) % (19 : Int32))), .unset] [])) _
    refine XS.iloadN X59.here hx rfl (hb hby at_150) rfl ?_
    show Steps p.tables e below (T59.setTop (mkF m 151 #[.val (.int p1), .val (.ref b2), .val (.int ((p1 &&& (2147483647 : Int32)) % (19 : Int32))), .unset] [(.int ((p1 &&& (2147483647 : Int32)) % (19 : Int32)))])) _
    refine XS.iconst X59.here hx rfl (hb hby at_151) ?_
    show Steps p.tables e below (T59.setTop (mkF m 152 #[.val (.int p1), .val (.ref b2), .val (.int ((p1 &&& (2147483647 : Int32)) % (19 : Int32))), .unset] [(.int (3 : Int32)), (.int ((p1 &&& (2147483647 : Int32)) % (19 : Int32)))])) _
    refine XS.icmpYes X59.here hx rfl (pc0 := 152) (pc' := 159) rfl (hb hby at_152) rfl (feq hc152).2 (by decide) (by decide) ?_
    show Steps p.tables e below (T59.setTop (mkF m 159 #[.val (.int p1), .val (.ref b2), .val (.int ((p1 &&& (2147483647 : Int32)) % (19 : Int32))), .unset] [])) _
    refine XS.iconst X59.here hx rfl (hb hby at_159) ?_
    show Steps p.tables e below (T59.setTop (mkF m 160 #[.val (.int p1), .val (.ref b2), .val (.int ((p1 &&& (2147483647 : Int32)) % (19 : Int32))), .unset] [(.int (0 : Int32))])) _
    refine XS.istoreN X59.here hx rfl (hb hby at_160) rfl (l' := #[.val (.int p1), .val (.ref b2), .val (.int ((p1 &&& (2147483647 : Int32)) % (19 : Int32))), .val (.int (0 : Int32))]) rfl ?_
    show Steps p.tables e below (T59.setTop (mkF m 161 #[.val (.int p1), .val (.ref b2), .val (.int ((p1 &&& (2147483647 : Int32)) % (19 : Int32))), .val (.int (0 : Int32))] [])) _
    refine XS.aloadN X59.here hx rfl (hb hby at_161) rfl rfl ?_
    show Steps p.tables e below (T59.setTop (mkF m 162 #[.val (.int p1), .val (.ref b2), .val (.int ((p1 &&& (2147483647 : Int32)) % (19 : Int32))), .val (.int (0 : Int32))] [(.ref b2)])) _
    refine XS.iloadN X59.here hx rfl (hb hby at_162) rfl ?_
    show Steps p.tables e below (T59.setTop (mkF m 163 #[.val (.int p1), .val (.ref b2), .val (.int ((p1 &&& (2147483647 : Int32)) % (19 : Int32))), .val (.int (0 : Int32))] [(.int ((p1 &&& (2147483647 : Int32)) % (19 : Int32))), (.ref b2)])) _
    refine X59.aaload hx (j := ((p1 &&& (2147483647 : Int32)) % (19 : Int32))) (v := (.ref w60)) (by rw [e59]; exact Ar_b2.1) (State.isArrayOf_alike hZ.alike Ar_b2.2.1) rfl Ar_b2.2.2 hin163 hat163 (g := (mkF m 163 #[.val (.int p1), .val (.ref b2), .val (.int ((p1 &&& (2147483647 : Int32)) % (19 : Int32))), .val (.int (0 : Int32))] [(.int ((p1 &&& (2147483647 : Int32)) % (19 : Int32))), (.ref b2)])) rfl rfl (hb hby at_163) _ ?_
    show Steps p.tables e below (T59.setTop (mkF m 164 #[.val (.int p1), .val (.ref b2), .val (.int ((p1 &&& (2147483647 : Int32)) % (19 : Int32))), .val (.int (0 : Int32))] [(.ref w60)])) _
    refine st61.trans ?_
    show Steps p.tables e below (T61.setTop (mkF m 167 #[.val (.int p1), .val (.ref b2), .val (.int ((p1 &&& (2147483647 : Int32)) % (19 : Int32))), .val (.int (0 : Int32))] [(.int (0 : Int32))])) _
    refine XS.iloadN X61.here hx rfl (hb hby at_167) rfl ?_
    show Steps p.tables e below (T61.setTop (mkF m 168 #[.val (.int p1), .val (.ref b2), .val (.int ((p1 &&& (2147483647 : Int32)) % (19 : Int32))), .val (.int (0 : Int32))] [(.int (0 : Int32)), (.int (0 : Int32))])) _
    refine XS.icmpNo X61.here hx rfl (hb hby at_168) rfl (teq (rfl : (0 : Int32) = (0 : Int32))).2 ?_
    show Steps p.tables e below (T61.setTop (mkF m 171 #[.val (.int p1), .val (.ref b2), .val (.int ((p1 &&& (2147483647 : Int32)) % (19 : Int32))), .val (.int (0 : Int32))] [])) _
    refine XS.iconst X61.here hx rfl (hb hby at_171) ?_
    show Steps p.tables e below (T61.setTop (mkF m 172 #[.val (.int p1), .val (.ref b2), .val (.int ((p1 &&& (2147483647 : Int32)) % (19 : Int32))), .val (.int (0 : Int32))] [(.int (1 : Int32))])) _
    refine XS.goto X61.here hx rfl (pc0 := 172) (pc' := 176) rfl (hb hby at_172) (by decide) (by decide) ?_
    show Steps p.tables e below (T61.setTop (mkF m 176 #[.val (.int p1), .val (.ref b2), .val (.int ((p1 &&& (2147483647 : Int32)) % (19 : Int32))), .val (.int (0 : Int32))] [(.int (1 : Int32))])) _
    exact retN X61 hx (t := .boolean) Bd.returns (by simp) (hb hby at_176) hr
  · show Q0 Z p1 w3 w6 w9 w12 w15 w18 w21 w24 w27 w30 w33 w36 w39 w42 w45 w48 w51 w54 w57 w60 h0 n0 _ T61.heap _
    exact ⟨rfl, N61⟩
theorem rm0 (l : Launch) (Z : State) (a0 : Array Value) (hw : ∀ d ∈ tables_1, d.before a0 Z = true) (ws : List Jvm.Cond) (p1 : Int32) (w3 : Addr) (w6 : Addr) (w9 : Addr) (w12 : Addr) (w15 : Addr) (w18 : Addr) (w21 : Addr) (w24 : Addr) (w27 : Addr) (w30 : Addr) (w33 : Addr) (w36 : Addr) (w39 : Addr) (w42 : Addr) (w45 : Addr) (w48 : Addr) (w51 : Addr) (w54 : Addr) (w57 : Addr) (w60 : Addr) (h0 : Heap) (n0 : Nat) (Z0 : n0 ≤ h0.size) (S_SYMBOL : Sta Z h0 "com/example/nuthatch/nuthatch/formula/Kind" "SYMBOL" "Lcom/example/nuthatch/nuthatch/formula/Kind;" (.ref w3)) (E_w3 : Exa Z h0 w3 "com/example/nuthatch/nuthatch/formula/Kind") (S_ROW : Sta Z h0 "com/example/nuthatch/nuthatch/formula/Kind" "ROW" "Lcom/example/nuthatch/nuthatch/formula/Kind;" (.ref w6)) (E_w6 : Exa Z h0 w6 "com/example/nuthatch/nuthatch/formula/Kind") (S_INFIX : Sta Z h0 "com/example/nuthatch/nuthatch/formula/Kind" "INFIX" "Lcom/example/nuthatch/nuthatch/formula/Kind;" (.ref w9)) (E_w9 : Exa Z h0 w9 "com/example/nuthatch/nuthatch/formula/Kind") (S_PREFIX : Sta Z h0 "com/example/nuthatch/nuthatch/formula/Kind" "PREFIX" "Lcom/example/nuthatch/nuthatch/formula/Kind;" (.ref w12)) (E_w12 : Exa Z h0 w12 "com/example/nuthatch/nuthatch/formula/Kind") (S_JUXTAPOSITION : Sta Z h0 "com/example/nuthatch/nuthatch/formula/Kind" "JUXTAPOSITION" "Lcom/example/nuthatch/nuthatch/formula/Kind;" (.ref w15)) (E_w15 : Exa Z h0 w15 "com/example/nuthatch/nuthatch/formula/Kind") (S_SUPERSCRIPT : Sta Z h0 "com/example/nuthatch/nuthatch/formula/Kind" "SUPERSCRIPT" "Lcom/example/nuthatch/nuthatch/formula/Kind;" (.ref w18)) (E_w18 : Exa Z h0 w18 "com/example/nuthatch/nuthatch/formula/Kind") (S_SUBSCRIPT : Sta Z h0 "com/example/nuthatch/nuthatch/formula/Kind" "SUBSCRIPT" "Lcom/example/nuthatch/nuthatch/formula/Kind;" (.ref w21)) (E_w21 : Exa Z h0 w21 "com/example/nuthatch/nuthatch/formula/Kind") (S_SUBSCRIPT_SUPERSCRIPT : Sta Z h0 "com/example/nuthatch/nuthatch/formula/Kind" "SUBSCRIPT_SUPERSCRIPT" "Lcom/example/nuthatch/nuthatch/formula/Kind;" (.ref w24)) (E_w24 : Exa Z h0 w24 "com/example/nuthatch/nuthatch/formula/Kind") (S_FRACTION : Sta Z h0 "com/example/nuthatch/nuthatch/formula/Kind" "FRACTION" "Lcom/example/nuthatch/nuthatch/formula/Kind;" (.ref w27)) (E_w27 : Exa Z h0 w27 "com/example/nuthatch/nuthatch/formula/Kind") (S_ATOP : Sta Z h0 "com/example/nuthatch/nuthatch/formula/Kind" "ATOP" "Lcom/example/nuthatch/nuthatch/formula/Kind;" (.ref w30)) (E_w30 : Exa Z h0 w30 "com/example/nuthatch/nuthatch/formula/Kind") (S_ROOT : Sta Z h0 "com/example/nuthatch/nuthatch/formula/Kind" "ROOT" "Lcom/example/nuthatch/nuthatch/formula/Kind;" (.ref w33)) (E_w33 : Exa Z h0 w33 "com/example/nuthatch/nuthatch/formula/Kind") (S_INDEXED_ROOT : Sta Z h0 "com/example/nuthatch/nuthatch/formula/Kind" "INDEXED_ROOT" "Lcom/example/nuthatch/nuthatch/formula/Kind;" (.ref w36)) (E_w36 : Exa Z h0 w36 "com/example/nuthatch/nuthatch/formula/Kind") (S_FENCE : Sta Z h0 "com/example/nuthatch/nuthatch/formula/Kind" "FENCE" "Lcom/example/nuthatch/nuthatch/formula/Kind;" (.ref w39)) (E_w39 : Exa Z h0 w39 "com/example/nuthatch/nuthatch/formula/Kind") (S_ACCENT : Sta Z h0 "com/example/nuthatch/nuthatch/formula/Kind" "ACCENT" "Lcom/example/nuthatch/nuthatch/formula/Kind;" (.ref w42)) (E_w42 : Exa Z h0 w42 "com/example/nuthatch/nuthatch/formula/Kind") (S_OVER : Sta Z h0 "com/example/nuthatch/nuthatch/formula/Kind" "OVER" "Lcom/example/nuthatch/nuthatch/formula/Kind;" (.ref w45)) (E_w45 : Exa Z h0 w45 "com/example/nuthatch/nuthatch/formula/Kind") (S_UNDER : Sta Z h0 "com/example/nuthatch/nuthatch/formula/Kind" "UNDER" "Lcom/example/nuthatch/nuthatch/formula/Kind;" (.ref w48)) (E_w48 : Exa Z h0 w48 "com/example/nuthatch/nuthatch/formula/Kind") (S_UNDER_OVER : Sta Z h0 "com/example/nuthatch/nuthatch/formula/Kind" "UNDER_OVER" "Lcom/example/nuthatch/nuthatch/formula/Kind;" (.ref w51)) (E_w51 : Exa Z h0 w51 "com/example/nuthatch/nuthatch/formula/Kind") (S_TABLE : Sta Z h0 "com/example/nuthatch/nuthatch/formula/Kind" "TABLE" "Lcom/example/nuthatch/nuthatch/formula/Kind;" (.ref w54)) (E_w54 : Exa Z h0 w54 "com/example/nuthatch/nuthatch/formula/Kind") (S_TABLE_ROW : Sta Z h0 "com/example/nuthatch/nuthatch/formula/Kind" "TABLE_ROW" "Lcom/example/nuthatch/nuthatch/formula/Kind;" (.ref w57)) (E_w57 : Exa Z h0 w57 "com/example/nuthatch/nuthatch/formula/Kind") (E : Exa Z h0 w60 "com/example/nuthatch/nuthatch/formula/Kind") (H : (((p1 &&& (2147483647 : Int32)) % (19 : Int32)) = 0 ∧ w60 = w3) ∨ (¬ ((p1 &&& (2147483647 : Int32)) % (19 : Int32)) = 0 ∧ ((p1 &&& (2147483647 : Int32)) % (19 : Int32)) = 2 ∧ ¬ w60 = w3 ∧ w60 = w9) ∨ (¬ ((p1 &&& (2147483647 : Int32)) % (19 : Int32)) = 0 ∧ ¬ ((p1 &&& (2147483647 : Int32)) % (19 : Int32)) = 2 ∧ ((p1 &&& (2147483647 : Int32)) % (19 : Int32)) = 3 ∧ ¬ w60 = w3 ∧ ¬ w60 = w9 ∧ w60 = w12) ∨ (¬ ((p1 &&& (2147483647 : Int32)) % (19 : Int32)) = 0 ∧ ¬ ((p1 &&& (2147483647 : Int32)) % (19 : Int32)) = 2 ∧ ¬ ((p1 &&& (2147483647 : Int32)) % (19 : Int32)) = 3 ∧ ¬ w60 = w3 ∧ ¬ w60 = w9 ∧ ¬ w60 = w12)) (hn : ¬ (((p1 &&& (2147483647 : Int32)) % (19 : Int32)) < 0)) (hl : ((p1 &&& (2147483647 : Int32)) % (19 : Int32)) < 19) (hv : ([(.ref w3), (.ref w6), (.ref w9), (.ref w12), (.ref w15), (.ref w18), (.ref w21), (.ref w24), (.ref w27), (.ref w30), (.ref w33), (.ref w36), (.ref w39), (.ref w42), (.ref w45), (.ref w48), (.ref w51), (.ref w54), (.ref w57)] : List Value).getD ((p1 &&& (2147483647 : Int32)) % (19 : Int32)).toNatClampNeg .null = .ref w60) :
    MetFree l x (head1 (Jvm.Cond.code x code maxLocals ret :: ws) room_1) (fun a U => a = #[(.int p1)] ∧ Z.Warmed39 U.vm ∧ U.heap = h0) (fun _ _ _ _ _ => True) (fun _ U o U' => ∃ v L, o = .returned v ∧ Q0 Z p1 w3 w6 w9 w12 w15 w18 w21 w24 w27 w30 w33 w36 w39 w42 w45 w48 w51 w54 w57 w60 h0 n0 v U'.heap L ∧ FrameEnd U o U' L room_1.cells room_1.slots) := by
  rcases H with ⟨k1, q1⟩ | ⟨k1, k2, q1, q2⟩ | ⟨k1, k2, k3, q1, q2, q3⟩ | ⟨k1, k2, k3, q1, q2, q3⟩
  · exact rm0_tf l Z a0 hw ws p1 w3 w6 w9 w12 w15 w18 w21 w24 w27 w30 w33 w36 w39 w42 w45 w48 w51 w54 w57 w60 h0 n0 Z0 q1 S_SYMBOL E_w3 S_ROW E_w6 S_INFIX E_w9 S_PREFIX E_w12 S_JUXTAPOSITION E_w15 S_SUPERSCRIPT E_w18 S_SUBSCRIPT E_w21 S_SUBSCRIPT_SUPERSCRIPT E_w24 S_FRACTION E_w27 S_ATOP E_w30 S_ROOT E_w33 S_INDEXED_ROOT E_w36 S_FENCE E_w39 S_ACCENT E_w42 S_OVER E_w45 S_UNDER E_w48 S_UNDER_OVER E_w51 S_TABLE E_w54 S_TABLE_ROW E_w57 E k1 hn hl hv
  · exact rm0_ftf l Z a0 hw ws p1 w3 w6 w9 w12 w15 w18 w21 w24 w27 w30 w33 w36 w39 w42 w45 w48 w51 w54 w57 w60 h0 n0 Z0 q1 q2 S_SYMBOL E_w3 S_ROW E_w6 S_INFIX E_w9 S_PREFIX E_w12 S_JUXTAPOSITION E_w15 S_SUPERSCRIPT E_w18 S_SUBSCRIPT E_w21 S_SUBSCRIPT_SUPERSCRIPT E_w24 S_FRACTION E_w27 S_ATOP E_w30 S_ROOT E_w33 S_INDEXED_ROOT E_w36 S_FENCE E_w39 S_ACCENT E_w42 S_OVER E_w45 S_UNDER E_w48 S_UNDER_OVER E_w51 S_TABLE E_w54 S_TABLE_ROW E_w57 E k1 k2 hn hl hv
  · exact rm0_ffff l Z a0 hw ws p1 w3 w6 w9 w12 w15 w18 w21 w24 w27 w30 w33 w36 w39 w42 w45 w48 w51 w54 w57 w60 h0 n0 Z0 q1 q2 q3 S_SYMBOL E_w3 S_ROW E_w6 S_INFIX E_w9 S_PREFIX E_w12 S_JUXTAPOSITION E_w15 S_SUPERSCRIPT E_w18 S_SUBSCRIPT E_w21 S_SUBSCRIPT_SUPERSCRIPT E_w24 S_FRACTION E_w27 S_ATOP E_w30 S_ROOT E_w33 S_INDEXED_ROOT E_w36 S_FENCE E_w39 S_ACCENT E_w42 S_OVER E_w45 S_UNDER E_w48 S_UNDER_OVER E_w51 S_TABLE E_w54 S_TABLE_ROW E_w57 E k1 k2 k3 hn hl hv
  · exact rm0_fftf l Z a0 hw ws p1 w3 w6 w9 w12 w15 w18 w21 w24 w27 w30 w33 w36 w39 w42 w45 w48 w51 w54 w57 w60 h0 n0 Z0 q1 q2 q3 S_SYMBOL E_w3 S_ROW E_w6 S_INFIX E_w9 S_PREFIX E_w12 S_JUXTAPOSITION E_w15 S_SUPERSCRIPT E_w18 S_SUBSCRIPT E_w21 S_SUBSCRIPT_SUPERSCRIPT E_w24 S_FRACTION E_w27 S_ATOP E_w30 S_ROOT E_w33 S_INDEXED_ROOT E_w36 S_FENCE E_w39 S_ACCENT E_w42 S_OVER E_w45 S_UNDER E_w48 S_UNDER_OVER E_w51 S_TABLE E_w54 S_TABLE_ROW E_w57 E k1 k2 k3 hn hl hv
theorem own_19 (x : Int32) : ((x &&& (2147483647 : Int32)) % (19 : Int32)) = 0 ∨ ((x &&& (2147483647 : Int32)) % (19 : Int32)) = 1 ∨ ((x &&& (2147483647 : Int32)) % (19 : Int32)) = 2 ∨ ((x &&& (2147483647 : Int32)) % (19 : Int32)) = 3 ∨ ((x &&& (2147483647 : Int32)) % (19 : Int32)) = 4 ∨ ((x &&& (2147483647 : Int32)) % (19 : Int32)) = 5 ∨ ((x &&& (2147483647 : Int32)) % (19 : Int32)) = 6 ∨ ((x &&& (2147483647 : Int32)) % (19 : Int32)) = 7 ∨ ((x &&& (2147483647 : Int32)) % (19 : Int32)) = 8 ∨ ((x &&& (2147483647 : Int32)) % (19 : Int32)) = 9 ∨ ((x &&& (2147483647 : Int32)) % (19 : Int32)) = 10 ∨ ((x &&& (2147483647 : Int32)) % (19 : Int32)) = 11 ∨ ((x &&& (2147483647 : Int32)) % (19 : Int32)) = 12 ∨ ((x &&& (2147483647 : Int32)) % (19 : Int32)) = 13 ∨ ((x &&& (2147483647 : Int32)) % (19 : Int32)) = 14 ∨ ((x &&& (2147483647 : Int32)) % (19 : Int32)) = 15 ∨ ((x &&& (2147483647 : Int32)) % (19 : Int32)) = 16 ∨ ((x &&& (2147483647 : Int32)) % (19 : Int32)) = 17 ∨ ((x &&& (2147483647 : Int32)) % (19 : Int32)) = 18 := by
  have h := own_rem x 19 19 rfl
  generalize ((x &&& (2147483647 : Int32)) % (19 : Int32)) = y at h
  have : y.toInt = 0 ∨ y.toInt = 1 ∨ y.toInt = 2 ∨ y.toInt = 3 ∨ y.toInt = 4 ∨ y.toInt = 5 ∨ y.toInt = 6 ∨ y.toInt = 7 ∨ y.toInt = 8 ∨ y.toInt = 9 ∨ y.toInt = 10 ∨ y.toInt = 11 ∨ y.toInt = 12 ∨ y.toInt = 13 ∨ y.toInt = 14 ∨ y.toInt = 15 ∨ y.toInt = 16 ∨ y.toInt = 17 ∨ y.toInt = 18 := by omega
  rcases this with q | q | q | q | q | q | q | q | q | q | q | q | q | q | q | q | q | q | q
  · exact Or.inl (own_i32 q)
  · exact Or.inr (Or.inl (own_i32 q))
  · exact Or.inr (Or.inr (Or.inl (own_i32 q)))
  · exact Or.inr (Or.inr (Or.inr (Or.inl (own_i32 q))))
  · exact Or.inr (Or.inr (Or.inr (Or.inr (Or.inl (own_i32 q)))))
  · exact Or.inr (Or.inr (Or.inr (Or.inr (Or.inr (Or.inl (own_i32 q))))))
  · exact Or.inr (Or.inr (Or.inr (Or.inr (Or.inr (Or.inr (Or.inl (own_i32 q)))))))
  · exact Or.inr (Or.inr (Or.inr (Or.inr (Or.inr (Or.inr (Or.inr (Or.inl (own_i32 q))))))))
  · exact Or.inr (Or.inr (Or.inr (Or.inr (Or.inr (Or.inr (Or.inr (Or.inr (Or.inl (own_i32 q)))))))))
  · exact Or.inr (Or.inr (Or.inr (Or.inr (Or.inr (Or.inr (Or.inr (Or.inr (Or.inr (Or.inl (own_i32 q))))))))))
  · exact Or.inr (Or.inr (Or.inr (Or.inr (Or.inr (Or.inr (Or.inr (Or.inr (Or.inr (Or.inr (Or.inl (own_i32 q)))))))))))
  · exact Or.inr (Or.inr (Or.inr (Or.inr (Or.inr (Or.inr (Or.inr (Or.inr (Or.inr (Or.inr (Or.inr (Or.inl (own_i32 q))))))))))))
  · exact Or.inr (Or.inr (Or.inr (Or.inr (Or.inr (Or.inr (Or.inr (Or.inr (Or.inr (Or.inr (Or.inr (Or.inr (Or.inl (own_i32 q)))))))))))))
  · exact Or.inr (Or.inr (Or.inr (Or.inr (Or.inr (Or.inr (Or.inr (Or.inr (Or.inr (Or.inr (Or.inr (Or.inr (Or.inr (Or.inl (own_i32 q))))))))))))))
  · exact Or.inr (Or.inr (Or.inr (Or.inr (Or.inr (Or.inr (Or.inr (Or.inr (Or.inr (Or.inr (Or.inr (Or.inr (Or.inr (Or.inr (Or.inl (own_i32 q)))))))))))))))
  · exact Or.inr (Or.inr (Or.inr (Or.inr (Or.inr (Or.inr (Or.inr (Or.inr (Or.inr (Or.inr (Or.inr (Or.inr (Or.inr (Or.inr (Or.inr (Or.inl (own_i32 q))))))))))))))))
  · exact Or.inr (Or.inr (Or.inr (Or.inr (Or.inr (Or.inr (Or.inr (Or.inr (Or.inr (Or.inr (Or.inr (Or.inr (Or.inr (Or.inr (Or.inr (Or.inr (Or.inl (own_i32 q)))))))))))))))))
  · exact Or.inr (Or.inr (Or.inr (Or.inr (Or.inr (Or.inr (Or.inr (Or.inr (Or.inr (Or.inr (Or.inr (Or.inr (Or.inr (Or.inr (Or.inr (Or.inr (Or.inr (Or.inl (own_i32 q))))))))))))))))))
  · exact Or.inr (Or.inr (Or.inr (Or.inr (Or.inr (Or.inr (Or.inr (Or.inr (Or.inr (Or.inr (Or.inr (Or.inr (Or.inr (Or.inr (Or.inr (Or.inr (Or.inr (Or.inr (own_i32 q))))))))))))))))))
set_option maxRecDepth 65536 in
set_option maxHeartbeats 40000000 in
theorem comes_1 {Post : Tables → Env → Array Value → State → Outcome → State → Prop} (hpost : ∀ tb e args s v u, (limb_1_1.after args s (.returned v) u = true ∧ limb_1_2.after args s (.returned v) u = true ∧ True) → FrameEnd s (.returned v) u (Jvm.fieldLocs frame_1_writes args s ++ Jvm.arrayLocs frame_1_arrays args s ++ Jvm.staticLocs frame_1_statics s) 16 128 → Post tb e args s (.returned v) u) :
    ArmFor flags0 classFile x code maxLocals ret World_1 tables_1 room_1 Calls_1 rest_1 Pre_1 Post := by
  intro l hfl _ _ p e ha hc hk s m args below hf hA hF happ hP
  obtain ⟨hcalls, hrest, hpre⟩ := hP
  obtain ⟨-, -, -, hnamed, -, -, -, hat⟩ := (Spec.applies_iff hf).mp happ
  obtain ⟨hg, hn⟩ := and_e (Cond.before_iff.mp (show (Jvm.Cond.and given_1 narrow_1).before args s = true from hpre))
  obtain ⟨g62, g63⟩ := and_e hg
  obtain ⟨w0, rfl⟩ : ∃ w0 : Value, args = #[w0] := by
    have hs : args.size = 1 := by simpa [Cond.value, given_1] using g62
    obtain ⟨L⟩ := args
    match L, hs with
    | [w0], _ => exact ⟨w0, rfl⟩
  have hw := fun d (hd : d ∈ tables_1) => atoms_spec (ws := Jvm.Cond.code x code maxLocals ret :: tables_1) hat d (List.mem_cons_of_mem _ hd)
  have hfit : Fit s := fun {y c} hc i hi => by
    obtain ⟨ha, rfl⟩ := Array.getElem?_eq_some_iff.mp hc
    have q := List.all_eq_true.mp ((Array.all_eq_true_iff_forall_mem.mp hF) _ (Array.getElem_mem ha)) i (List.mem_range.mpr hi)
    simpa [Array.getElem?_eq_getElem hi] using q
  obtain ⟨i0, ei0⟩ := is_v g63
  obtain rfl : w0 = (.int i0) := Option.some.inj ei0
  obtain ⟨n1, hn⟩ := and_e hn
  obtain ⟨n2, hn⟩ := and_e hn
  obtain ⟨n3, hn⟩ := and_e hn
  obtain ⟨n4, hn⟩ := and_e hn
  obtain ⟨n5, hn⟩ := and_e hn
  obtain ⟨n6, hn⟩ := and_e hn
  obtain ⟨n7, hn⟩ := and_e hn
  obtain ⟨n8, hn⟩ := and_e hn
  obtain ⟨n9, hn⟩ := and_e hn
  obtain ⟨n10, hn⟩ := and_e hn
  obtain ⟨n11, hn⟩ := and_e hn
  obtain ⟨n12, hn⟩ := and_e hn
  obtain ⟨n13, hn⟩ := and_e hn
  obtain ⟨n14, hn⟩ := and_e hn
  obtain ⟨n15, hn⟩ := and_e hn
  obtain ⟨n16, hn⟩ := and_e hn
  obtain ⟨n17, hn⟩ := and_e hn
  obtain ⟨n18, hn⟩ := and_e hn
  obtain ⟨n19, hn⟩ := and_e hn
  obtain ⟨n20, hn⟩ := and_e hn
  obtain ⟨n21, hn⟩ := and_e hn
  obtain ⟨n22, hn⟩ := and_e hn
  obtain ⟨n23, hn⟩ := and_e hn
  obtain ⟨n24, hn⟩ := and_e hn
  obtain ⟨n25, hn⟩ := and_e hn
  obtain ⟨n26, hn⟩ := and_e hn
  obtain ⟨n27, hn⟩ := and_e hn
  obtain ⟨n28, hn⟩ := and_e hn
  obtain ⟨n29, hn⟩ := and_e hn
  obtain ⟨n30, hn⟩ := and_e hn
  obtain ⟨n31, hn⟩ := and_e hn
  obtain ⟨n32, hn⟩ := and_e hn
  obtain ⟨n33, hn⟩ := and_e hn
  obtain ⟨n34, hn⟩ := and_e hn
  obtain ⟨n35, hn⟩ := and_e hn
  obtain ⟨n36, hn⟩ := and_e hn
  obtain ⟨n37, n38⟩ := and_e hn
  obtain ⟨a_SYMBOL, v_SYMBOL, S_SYMBOL, E_SYMBOL⟩ := own_st n1 (hw _ (List.mem_of_getElem? (i := 3) rfl)) (hw _ (List.mem_of_getElem? (i := 4) rfl))
  obtain ⟨a_ROW, v_ROW, S_ROW, E_ROW⟩ := own_st n2 (hw _ (List.mem_of_getElem? (i := 3) rfl)) (hw _ (List.mem_of_getElem? (i := 7) rfl))
  obtain ⟨a_INFIX, v_INFIX, S_INFIX, E_INFIX⟩ := own_st n3 (hw _ (List.mem_of_getElem? (i := 3) rfl)) (hw _ (List.mem_of_getElem? (i := 9) rfl))
  obtain ⟨a_PREFIX, v_PREFIX, S_PREFIX, E_PREFIX⟩ := own_st n4 (hw _ (List.mem_of_getElem? (i := 3) rfl)) (hw _ (List.mem_of_getElem? (i := 11) rfl))
  obtain ⟨a_JUXTAPOSITION, v_JUXTAPOSITION, S_JUXTAPOSITION, E_JUXTAPOSITION⟩ := own_st n5 (hw _ (List.mem_of_getElem? (i := 3) rfl)) (hw _ (List.mem_of_getElem? (i := 13) rfl))
  obtain ⟨a_SUPERSCRIPT, v_SUPERSCRIPT, S_SUPERSCRIPT, E_SUPERSCRIPT⟩ := own_st n6 (hw _ (List.mem_of_getElem? (i := 3) rfl)) (hw _ (List.mem_of_getElem? (i := 15) rfl))
  obtain ⟨a_SUBSCRIPT, v_SUBSCRIPT, S_SUBSCRIPT, E_SUBSCRIPT⟩ := own_st n7 (hw _ (List.mem_of_getElem? (i := 3) rfl)) (hw _ (List.mem_of_getElem? (i := 17) rfl))
  obtain ⟨a_SUBSCRIPT_SUPERSCRIPT, v_SUBSCRIPT_SUPERSCRIPT, S_SUBSCRIPT_SUPERSCRIPT, E_SUBSCRIPT_SUPERSCRIPT⟩ := own_st n8 (hw _ (List.mem_of_getElem? (i := 3) rfl)) (hw _ (List.mem_of_getElem? (i := 19) rfl))
  obtain ⟨a_FRACTION, v_FRACTION, S_FRACTION, E_FRACTION⟩ := own_st n9 (hw _ (List.mem_of_getElem? (i := 3) rfl)) (hw _ (List.mem_of_getElem? (i := 21) rfl))
  obtain ⟨a_ATOP, v_ATOP, S_ATOP, E_ATOP⟩ := own_st n10 (hw _ (List.mem_of_getElem? (i := 3) rfl)) (hw _ (List.mem_of_getElem? (i := 23) rfl))
  obtain ⟨a_ROOT, v_ROOT, S_ROOT, E_ROOT⟩ := own_st n11 (hw _ (List.mem_of_getElem? (i := 3) rfl)) (hw _ (List.mem_of_getElem? (i := 25) rfl))
  obtain ⟨a_INDEXED_ROOT, v_INDEXED_ROOT, S_INDEXED_ROOT, E_INDEXED_ROOT⟩ := own_st n12 (hw _ (List.mem_of_getElem? (i := 3) rfl)) (hw _ (List.mem_of_getElem? (i := 27) rfl))
  obtain ⟨a_FENCE, v_FENCE, S_FENCE, E_FENCE⟩ := own_st n13 (hw _ (List.mem_of_getElem? (i := 3) rfl)) (hw _ (List.mem_of_getElem? (i := 29) rfl))
  obtain ⟨a_ACCENT, v_ACCENT, S_ACCENT, E_ACCENT⟩ := own_st n14 (hw _ (List.mem_of_getElem? (i := 3) rfl)) (hw _ (List.mem_of_getElem? (i := 31) rfl))
  obtain ⟨a_OVER, v_OVER, S_OVER, E_OVER⟩ := own_st n15 (hw _ (List.mem_of_getElem? (i := 3) rfl)) (hw _ (List.mem_of_getElem? (i := 33) rfl))
  obtain ⟨a_UNDER, v_UNDER, S_UNDER, E_UNDER⟩ := own_st n16 (hw _ (List.mem_of_getElem? (i := 3) rfl)) (hw _ (List.mem_of_getElem? (i := 35) rfl))
  obtain ⟨a_UNDER_OVER, v_UNDER_OVER, S_UNDER_OVER, E_UNDER_OVER⟩ := own_st n17 (hw _ (List.mem_of_getElem? (i := 3) rfl)) (hw _ (List.mem_of_getElem? (i := 37) rfl))
  obtain ⟨a_TABLE, v_TABLE, S_TABLE, E_TABLE⟩ := own_st n18 (hw _ (List.mem_of_getElem? (i := 3) rfl)) (hw _ (List.mem_of_getElem? (i := 39) rfl))
  obtain ⟨a_TABLE_ROW, v_TABLE_ROW, S_TABLE_ROW, E_TABLE_ROW⟩ := own_st n19 (hw _ (List.mem_of_getElem? (i := 3) rfl)) (hw _ (List.mem_of_getElem? (i := 41) rfl))
  have F_PREFIX := own_fld v_PREFIX n20
  have F_SYMBOL := own_fld v_SYMBOL n21
  have F_INFIX := own_fld v_INFIX n22
  have F_UNDER := own_fld v_UNDER n23
  have F_SUPERSCRIPT := own_fld v_SUPERSCRIPT n24
  have F_TABLE := own_fld v_TABLE n25
  have F_SUBSCRIPT_SUPERSCRIPT := own_fld v_SUBSCRIPT_SUPERSCRIPT n26
  have F_INDEXED_ROOT := own_fld v_INDEXED_ROOT n27
  have F_ROOT := own_fld v_ROOT n28
  have F_FRACTION := own_fld v_FRACTION n29
  have F_ROW := own_fld v_ROW n30
  have F_OVER := own_fld v_OVER n31
  have F_TABLE_ROW := own_fld v_TABLE_ROW n32
  have F_SUBSCRIPT := own_fld v_SUBSCRIPT n33
  have F_UNDER_OVER := own_fld v_UNDER_OVER n34
  have F_JUXTAPOSITION := own_fld v_JUXTAPOSITION n35
  have F_ATOP := own_fld v_ATOP n36
  have F_FENCE := own_fld v_FENCE n37
  have F_ACCENT := own_fld v_ACCENT n38
  obtain ⟨b, E, H, hn1, hl1, hv1⟩ : ∃ b, Exa s s.heap b "com/example/nuthatch/nuthatch/formula/Kind" ∧ ((((i0 &&& (2147483647 : Int32)) % (19 : Int32)) = 0 ∧ b = a_SYMBOL) ∨ (¬ ((i0 &&& (2147483647 : Int32)) % (19 : Int32)) = 0 ∧ ((i0 &&& (2147483647 : Int32)) % (19 : Int32)) = 2 ∧ ¬ b = a_SYMBOL ∧ b = a_INFIX) ∨ (¬ ((i0 &&& (2147483647 : Int32)) % (19 : Int32)) = 0 ∧ ¬ ((i0 &&& (2147483647 : Int32)) % (19 : Int32)) = 2 ∧ ((i0 &&& (2147483647 : Int32)) % (19 : Int32)) = 3 ∧ ¬ b = a_SYMBOL ∧ ¬ b = a_INFIX ∧ b = a_PREFIX) ∨ (¬ ((i0 &&& (2147483647 : Int32)) % (19 : Int32)) = 0 ∧ ¬ ((i0 &&& (2147483647 : Int32)) % (19 : Int32)) = 2 ∧ ¬ ((i0 &&& (2147483647 : Int32)) % (19 : Int32)) = 3 ∧ ¬ b = a_SYMBOL ∧ ¬ b = a_INFIX ∧ ¬ b = a_PREFIX)) ∧ (¬ (((i0 &&& (2147483647 : Int32)) % (19 : Int32)) < 0)) ∧ (((i0 &&& (2147483647 : Int32)) % (19 : Int32)) < 19) ∧ ([(.ref a_SYMBOL), (.ref a_ROW), (.ref a_INFIX), (.ref a_PREFIX), (.ref a_JUXTAPOSITION), (.ref a_SUPERSCRIPT), (.ref a_SUBSCRIPT), (.ref a_SUBSCRIPT_SUPERSCRIPT), (.ref a_FRACTION), (.ref a_ATOP), (.ref a_ROOT), (.ref a_INDEXED_ROOT), (.ref a_FENCE), (.ref a_ACCENT), (.ref a_OVER), (.ref a_UNDER), (.ref a_UNDER_OVER), (.ref a_TABLE), (.ref a_TABLE_ROW)] : List Value).getD ((i0 &&& (2147483647 : Int32)) % (19 : Int32)).toNatClampNeg .null = .ref b := by
    rcases own_19 i0 with k | k | k | k | k | k | k | k | k | k | k | k | k | k | k | k | k | k | k
    · exact ⟨a_SYMBOL, E_SYMBOL, Or.inl ⟨k, rfl⟩, by rw [k]; decide, by rw [k]; decide, by rw [k]; rfl⟩
    · exact ⟨a_ROW, E_ROW, Or.inr (Or.inr (Or.inr ⟨by rw [k]; decide, by rw [k]; decide, by rw [k]; decide, (own_ne F_ROW F_SYMBOL (by decide)), (own_ne F_ROW F_INFIX (by decide)), (own_ne F_ROW F_PREFIX (by decide))⟩)), by rw [k]; decide, by rw [k]; decide, by rw [k]; rfl⟩
    · exact ⟨a_INFIX, E_INFIX, Or.inr (Or.inl ⟨by rw [k]; decide, k, (own_ne F_INFIX F_SYMBOL (by decide)), rfl⟩), by rw [k]; decide, by rw [k]; decide, by rw [k]; rfl⟩
    · exact ⟨a_PREFIX, E_PREFIX, Or.inr (Or.inr (Or.inl ⟨by rw [k]; decide, by rw [k]; decide, k, (own_ne F_PREFIX F_SYMBOL (by decide)), (own_ne F_PREFIX F_INFIX (by decide)), rfl⟩)), by rw [k]; decide, by rw [k]; decide, by rw [k]; rfl⟩
    · exact ⟨a_JUXTAPOSITION, E_JUXTAPOSITION, Or.inr (Or.inr (Or.inr ⟨by rw [k]; decide, by rw [k]; decide, by rw [k]; decide, (own_ne F_JUXTAPOSITION F_SYMBOL (by decide)), (own_ne F_JUXTAPOSITION F_INFIX (by decide)), (own_ne F_JUXTAPOSITION F_PREFIX (by decide))⟩)), by rw [k]; decide, by rw [k]; decide, by rw [k]; rfl⟩
    · exact ⟨a_SUPERSCRIPT, E_SUPERSCRIPT, Or.inr (Or.inr (Or.inr ⟨by rw [k]; decide, by rw [k]; decide, by rw [k]; decide, (own_ne F_SUPERSCRIPT F_SYMBOL (by decide)), (own_ne F_SUPERSCRIPT F_INFIX (by decide)), (own_ne F_SUPERSCRIPT F_PREFIX (by decide))⟩)), by rw [k]; decide, by rw [k]; decide, by rw [k]; rfl⟩
    · exact ⟨a_SUBSCRIPT, E_SUBSCRIPT, Or.inr (Or.inr (Or.inr ⟨by rw [k]; decide, by rw [k]; decide, by rw [k]; decide, (own_ne F_SUBSCRIPT F_SYMBOL (by decide)), (own_ne F_SUBSCRIPT F_INFIX (by decide)), (own_ne F_SUBSCRIPT F_PREFIX (by decide))⟩)), by rw [k]; decide, by rw [k]; decide, by rw [k]; rfl⟩
    · exact ⟨a_SUBSCRIPT_SUPERSCRIPT, E_SUBSCRIPT_SUPERSCRIPT, Or.inr (Or.inr (Or.inr ⟨by rw [k]; decide, by rw [k]; decide, by rw [k]; decide, (own_ne F_SUBSCRIPT_SUPERSCRIPT F_SYMBOL (by decide)), (own_ne F_SUBSCRIPT_SUPERSCRIPT F_INFIX (by decide)), (own_ne F_SUBSCRIPT_SUPERSCRIPT F_PREFIX (by decide))⟩)), by rw [k]; decide, by rw [k]; decide, by rw [k]; rfl⟩
    · exact ⟨a_FRACTION, E_FRACTION, Or.inr (Or.inr (Or.inr ⟨by rw [k]; decide, by rw [k]; decide, by rw [k]; decide, (own_ne F_FRACTION F_SYMBOL (by decide)), (own_ne F_FRACTION F_INFIX (by decide)), (own_ne F_FRACTION F_PREFIX (by decide))⟩)), by rw [k]; decide, by rw [k]; decide, by rw [k]; rfl⟩
    · exact ⟨a_ATOP, E_ATOP, Or.inr (Or.inr (Or.inr ⟨by rw [k]; decide, by rw [k]; decide, by rw [k]; decide, (own_ne F_ATOP F_SYMBOL (by decide)), (own_ne F_ATOP F_INFIX (by decide)), (own_ne F_ATOP F_PREFIX (by decide))⟩)), by rw [k]; decide, by rw [k]; decide, by rw [k]; rfl⟩
    · exact ⟨a_ROOT, E_ROOT, Or.inr (Or.inr (Or.inr ⟨by rw [k]; decide, by rw [k]; decide, by rw [k]; decide, (own_ne F_ROOT F_SYMBOL (by decide)), (own_ne F_ROOT F_INFIX (by decide)), (own_ne F_ROOT F_PREFIX (by decide))⟩)), by rw [k]; decide, by rw [k]; decide, by rw [k]; rfl⟩
    · exact ⟨a_INDEXED_ROOT, E_INDEXED_ROOT, Or.inr (Or.inr (Or.inr ⟨by rw [k]; decide, by rw [k]; decide, by rw [k]; decide, (own_ne F_INDEXED_ROOT F_SYMBOL (by decide)), (own_ne F_INDEXED_ROOT F_INFIX (by decide)), (own_ne F_INDEXED_ROOT F_PREFIX (by decide))⟩)), by rw [k]; decide, by rw [k]; decide, by rw [k]; rfl⟩
    · exact ⟨a_FENCE, E_FENCE, Or.inr (Or.inr (Or.inr ⟨by rw [k]; decide, by rw [k]; decide, by rw [k]; decide, (own_ne F_FENCE F_SYMBOL (by decide)), (own_ne F_FENCE F_INFIX (by decide)), (own_ne F_FENCE F_PREFIX (by decide))⟩)), by rw [k]; decide, by rw [k]; decide, by rw [k]; rfl⟩
    · exact ⟨a_ACCENT, E_ACCENT, Or.inr (Or.inr (Or.inr ⟨by rw [k]; decide, by rw [k]; decide, by rw [k]; decide, (own_ne F_ACCENT F_SYMBOL (by decide)), (own_ne F_ACCENT F_INFIX (by decide)), (own_ne F_ACCENT F_PREFIX (by decide))⟩)), by rw [k]; decide, by rw [k]; decide, by rw [k]; rfl⟩
    · exact ⟨a_OVER, E_OVER, Or.inr (Or.inr (Or.inr ⟨by rw [k]; decide, by rw [k]; decide, by rw [k]; decide, (own_ne F_OVER F_SYMBOL (by decide)), (own_ne F_OVER F_INFIX (by decide)), (own_ne F_OVER F_PREFIX (by decide))⟩)), by rw [k]; decide, by rw [k]; decide, by rw [k]; rfl⟩
    · exact ⟨a_UNDER, E_UNDER, Or.inr (Or.inr (Or.inr ⟨by rw [k]; decide, by rw [k]; decide, by rw [k]; decide, (own_ne F_UNDER F_SYMBOL (by decide)), (own_ne F_UNDER F_INFIX (by decide)), (own_ne F_UNDER F_PREFIX (by decide))⟩)), by rw [k]; decide, by rw [k]; decide, by rw [k]; rfl⟩
    · exact ⟨a_UNDER_OVER, E_UNDER_OVER, Or.inr (Or.inr (Or.inr ⟨by rw [k]; decide, by rw [k]; decide, by rw [k]; decide, (own_ne F_UNDER_OVER F_SYMBOL (by decide)), (own_ne F_UNDER_OVER F_INFIX (by decide)), (own_ne F_UNDER_OVER F_PREFIX (by decide))⟩)), by rw [k]; decide, by rw [k]; decide, by rw [k]; rfl⟩
    · exact ⟨a_TABLE, E_TABLE, Or.inr (Or.inr (Or.inr ⟨by rw [k]; decide, by rw [k]; decide, by rw [k]; decide, (own_ne F_TABLE F_SYMBOL (by decide)), (own_ne F_TABLE F_INFIX (by decide)), (own_ne F_TABLE F_PREFIX (by decide))⟩)), by rw [k]; decide, by rw [k]; decide, by rw [k]; rfl⟩
    · exact ⟨a_TABLE_ROW, E_TABLE_ROW, Or.inr (Or.inr (Or.inr ⟨by rw [k]; decide, by rw [k]; decide, by rw [k]; decide, (own_ne F_TABLE_ROW F_SYMBOL (by decide)), (own_ne F_TABLE_ROW F_INFIX (by decide)), (own_ne F_TABLE_ROW F_PREFIX (by decide))⟩)), by rw [k]; decide, by rw [k]; decide, by rw [k]; rfl⟩
  obtain ⟨n, o, h1, h2, h3, _, L, rfl, ⟨rfl, N⟩, hq⟩ := rm0 l s _ hw tables_1 i0 a_SYMBOL a_ROW a_INFIX a_PREFIX a_JUXTAPOSITION a_SUPERSCRIPT a_SUBSCRIPT a_SUBSCRIPT_SUPERSCRIPT a_FRACTION a_ATOP a_ROOT a_INDEXED_ROOT a_FENCE a_ACCENT a_OVER a_UNDER a_UNDER_OVER a_TABLE a_TABLE_ROW b s.heap s.heap.size (Nat.le_refl _) S_SYMBOL E_SYMBOL S_ROW E_ROW S_INFIX E_INFIX S_PREFIX E_PREFIX S_JUXTAPOSITION E_JUXTAPOSITION S_SUPERSCRIPT E_SUPERSCRIPT S_SUBSCRIPT E_SUBSCRIPT S_SUBSCRIPT_SUPERSCRIPT E_SUBSCRIPT_SUPERSCRIPT S_FRACTION E_FRACTION S_ATOP E_ATOP S_ROOT E_ROOT S_INDEXED_ROOT E_INDEXED_ROOT S_FENCE E_FENCE S_ACCENT E_ACCENT S_OVER E_OVER S_UNDER E_UNDER S_UNDER_OVER E_UNDER_OVER S_TABLE E_TABLE S_TABLE_ROW E_TABLE_ROW E H hn1 hl1 hv1 p e ha hc hk s m _ below hf ((Spec.applies_iff_loose hf).mp happ).1 ⟨rfl, State.Warmed39.refl s, rfl⟩ trivial
  refine ⟨n, _, h1, h2, h3, hpost _ _ _ _ _ _ ⟨Cond.after_iff.mpr rfl, Cond.after_iff.mpr (eq_i res_at (Term.int_eval (1)) rfl), trivial⟩ ⟨hq.1, hq.2.1, (hq.2.2.sift fun y hy => Or.inr (N y hy)).mono (by decide) (by decide)⟩⟩
theorem main_1_1 : Claimed_1_1 := comes_1 fun _ _ _ _ _ _ h hF => ⟨h.1, hF⟩
theorem main_1_2 : Claimed_1_2 := comes_1 fun _ _ _ _ _ _ h hF => ⟨h.2.1, hF⟩
end Jvm.Pilot.@@N@@
namespace Jvm.Pilot.@@N@@
open Jvm Jvm.ClassFile Sem Op Lib Jvm.Free Jvm.Stand Jvm.Pilot.@@N@@.Jvm.D
/-! MADE BY PROGRAM (witnessworld.py) out of the Statement's table words and the real class files: 13 classes; the members and pool entries that the words name. The judged class is class 1, her method 1. -/
namespace start1
open Jvm.ClassFile
def u (s : String) : CpInfo := .utf8 (stringToUtf16 s)
/-- a pool by its gaps: so many unusable entries, then the entry; so many at the end -/
def gap : Nat → List CpInfo → List CpInfo
  | 0, r => r
  | n + 1, r => .unusable :: gap n r
def poolList (es : List (Nat × CpInfo)) (last : Nat) : List CpInfo := es.foldr (fun e r => gap e.1 (e.2 :: r)) (gap last [])
def pool (es : List (Nat × CpInfo)) (last : Nat) : Array CpInfo := ⟨poolList es last⟩
def fileOf (pool : Array CpInfo) (this : Nat) (attrs : Array Attribute := #[]) (ms : Array MethodInfo := #[]) (fl : Nat := 33) (sup : Nat := 0) (ifs : Array Nat := #[]) (fds : Array FieldInfo := #[]) : ClassFile where
  minorVersion := 0
  majorVersion := 65
  constantPool := pool
  accessFlags := fl
  thisClass := this
  superClass := sup
  interfaces := ifs
  fields := fds
  methods := ms
  attributes := attrs
def plain (name : String) (sup : Option ClassId) : Class where
  name := name
  kind := .ordinary
  loader := none
  accessFlags := 33
  super := sup
  interfaces := #[]
  cf := none
  fields := #[]
  methods := #[]
  instanceTypes := #[]
  staticTypes := #[]
  resolved := #[]
  callSites := []
  init := .initialized
  statics := none
  mirror := none

def pool0 : Array CpInfo := pool [(5, u "<init>"), (0, u "()V"), (1, .class_ 10), (1, u "java/lang/Object")] 113

def k0m0 : Method := { name := "<init>", desc := "()V", sig := { parameters := [], returnType := none }, accessFlags := 1, code := none }
/-- java/lang/Object -/
def k0 : Class := { plain "java/lang/Object" none with
  accessFlags := 33
  interfaces := #[]
  cf := some (fileOf pool0 8 #[] #[{ accessFlags := 1, nameIndex := 5, descriptorIndex := 6, attributes := #[] }] 33 0 #[] #[])
  fields := #[]
  methods := #[k0m0]
  instanceTypes := #[]
  staticTypes := #[]
  resolved := Array.replicate 124 none
  statics := none }

def pool1 : Array CpInfo := pool [(2, .class_ 4), (1, u "java/lang/Object"), (0, u "<init>"), (0, u "()V"), (0, .class_ 8), (0, u "com/example/nuthatch/nuthatch/formula/Kind"), (0, .fieldref 7 10), (0, .nameAndType 11 12), (0, u "SYMBOL"), (0, u "Lcom/example/nuthatch/nuthatch/formula/Kind;"), (0, .fieldref 7 14), (0, .nameAndType 15 12), (0, u "ROW"), (0, .fieldref 7 17), (0, .nameAndType 18 12), (0, u "INFIX"), (0, .fieldref 7 20), (0, .nameAndType 21 12), (0, u "PREFIX"), (0, .fieldref 7 23), (0, .nameAndType 24 12), (0, u "JUXTAPOSITION"), (0, .fieldref 7 26), (0, .nameAndType 27 12), (0, u "SUPERSCRIPT"), (0, .fieldref 7 29), (0, .nameAndType 30 12), (0, u "SUBSCRIPT"), (0, .fieldref 7 32), (0, .nameAndType 33 12), (0, u "SUBSCRIPT_SUPERSCRIPT"), (0, .fieldref 7 35), (0, .nameAndType 36 12), (0, u "FRACTION"), (0, .fieldref 7 38), (0, .nameAndType 39 12), (0, u "ATOP"), (0, .fieldref 7 41), (0, .nameAndType 42 12), (0, u "ROOT"), (0, .fieldref 7 44), (0, .nameAndType 45 12), (0, u "INDEXED_ROOT"), (0, .fieldref 7 47), (0, .nameAndType 48 12), (0, u "FENCE"), (0, .fieldref 7 50), (0, .nameAndType 51 12), (0, u "ACCENT"), (0, .fieldref 7 53), (0, .nameAndType 54 12), (0, u "OVER"), (0, .fieldref 7 56), (0, .nameAndType 57 12), (0, u "UNDER"), (0, .fieldref 7 59), (0, .nameAndType 60 12), (0, u "UNDER_OVER"), (0, .fieldref 7 62), (0, .nameAndType 63 12), (0, u "TABLE"), (0, .fieldref 7 65), (0, .nameAndType 66 12), (0, u "TABLE_ROW"), (0, .integer 2147483647), (0, .methodref 7 69), (0, .nameAndType 70 71), (0, u "hasSymbol"), (0, u "()Z"), (0, .class_ 73), (0, u "com/example/nuthatch/nuthatch/formula/KindHasSymbolPinLaw"), (2, u "law"), (0, u "(I)Z")] 5

def k1m0 : Method := { name := "<init>", desc := "()V", sig := { parameters := [], returnType := none }, accessFlags := 1, code := none }
def k1c1 : Code := { maxStack := 4, maxLocals := 4, code := code, exceptionTable := #[], attributes := #[] }
def k1m1 : Method := { name := "law", desc := "(I)Z", sig := { parameters := [.int], returnType := some .boolean }, accessFlags := 9, code := some k1c1 }
/-- com/example/nuthatch/nuthatch/formula/KindHasSymbolPinLaw -/
def k1 : Class := { plain "com/example/nuthatch/nuthatch/formula/KindHasSymbolPinLaw" (some 0) with
  accessFlags := 49
  interfaces := #[]
  cf := some (fileOf pool1 72 #[] #[{ accessFlags := 1, nameIndex := 5, descriptorIndex := 6, attributes := #[] }, { accessFlags := 9, nameIndex := 76, descriptorIndex := 77, attributes := #[] }] 49 2 #[] #[])
  fields := #[]
  methods := #[k1m0, k1m1]
  instanceTypes := #[]
  staticTypes := #[]
  resolved := Array.replicate 83 none
  statics := none }

def pool2 : Array CpInfo := pool [(1, .class_ 2), (0, u "java/lang/constant/Constable"), (0, .class_ 4), (0, u "java/lang/Object")] 6

/-- java/lang/constant/Constable -/
def k2 : Class := { plain "java/lang/constant/Constable" (some 0) with
  accessFlags := 1537
  interfaces := #[]
  cf := some (fileOf pool2 1 #[] #[] 1537 3 #[] #[])
  fields := #[]
  methods := #[]
  instanceTypes := #[]
  staticTypes := #[]
  resolved := Array.replicate 11 none
  statics := none }

def pool3 : Array CpInfo := pool [(1, .class_ 2), (0, u "java/lang/Comparable"), (0, .class_ 4), (0, u "java/lang/Object")] 7

/-- java/lang/Comparable -/
def k3 : Class := { plain "java/lang/Comparable" (some 0) with
  accessFlags := 1537
  interfaces := #[]
  cf := some (fileOf pool3 1 #[] #[] 1537 3 #[] #[])
  fields := #[]
  methods := #[]
  instanceTypes := #[]
  staticTypes := #[]
  resolved := Array.replicate 12 none
  statics := none }

def pool4 : Array CpInfo := pool [(1, .class_ 2), (0, u "java/io/Serializable"), (0, .class_ 4), (0, u "java/lang/Object")] 2

/-- java/io/Serializable -/
def k4 : Class := { plain "java/io/Serializable" (some 0) with
  accessFlags := 1537
  interfaces := #[]
  cf := some (fileOf pool4 1 #[] #[] 1537 3 #[] #[])
  fields := #[]
  methods := #[]
  instanceTypes := #[]
  staticTypes := #[]
  resolved := Array.replicate 7 none
  statics := none }

def pool5 : Array CpInfo := pool [(2, .class_ 4), (1, u "java/lang/Enum"), (0, u "name"), (0, u "Ljava/lang/String;"), (2, u "ordinal"), (0, u "I"), (1, .class_ 14), (1, u "java/lang/Object"), (4, u "hash"), (86, .class_ 108), (1, u "java/lang/Enum$EnumDesc"), (2, .class_ 112), (0, u "java/lang/constant/Constable"), (0, .class_ 114), (0, u "java/lang/Comparable"), (0, .class_ 116), (0, u "java/io/Serializable")] 87

/-- java/lang/Enum -/
def k5 : Class := { plain "java/lang/Enum" (some 0) with
  accessFlags := 1057
  interfaces := #[2, 3, 4]
  cf := some (fileOf pool5 2 #[.nestMembers #[106]] #[] 1057 12 #[111, 113, 115] #[{ accessFlags := 18, nameIndex := 5, descriptorIndex := 6, attributes := #[] }, { accessFlags := 18, nameIndex := 9, descriptorIndex := 10, attributes := #[] }, { accessFlags := 2, nameIndex := 19, descriptorIndex := 10, attributes := #[] }])
  fields := #[{ name := "name", type := (.object "java/lang/String"), accessFlags := 18, slot := 0, constantValue := 0 }, { name := "ordinal", type := .int, accessFlags := 18, slot := 1, constantValue := 0 }, { name := "hash", type := .int, accessFlags := 2, slot := 2, constantValue := 0 }]
  methods := #[]
  instanceTypes := #[(.object "java/lang/String"), .int, .int]
  staticTypes := #[]
  resolved := Array.replicate 204 none
  statics := none }

def pool6 : Array CpInfo := pool [(1, .class_ 2), (0, u "com/example/nuthatch/nuthatch/formula/Kind"), (0, .fieldref 1 4), (0, .nameAndType 5 6), (0, u "SYMBOL"), (0, u "Lcom/example/nuthatch/nuthatch/formula/Kind;"), (2, u "ROW"), (0, .fieldref 1 11), (0, .nameAndType 12 6), (0, u "INFIX"), (0, .fieldref 1 14), (0, .nameAndType 15 6), (0, u "PREFIX"), (2, u "JUXTAPOSITION"), (2, u "SUPERSCRIPT"), (2, u "SUBSCRIPT"), (2, u "SUBSCRIPT_SUPERSCRIPT"), (2, u "FRACTION"), (2, u "ATOP"), (2, u "ROOT"), (2, u "INDEXED_ROOT"), (2, u "FENCE"), (2, u "ACCENT"), (2, u "OVER"), (2, u "UNDER"), (2, u "UNDER_OVER"), (2, u "TABLE"), (2, u "TABLE_ROW"), (2, u "$VALUES"), (0, u "[Lcom/example/nuthatch/nuthatch/formula/Kind;"), (6, .class_ 73), (1, u "java/lang/Enum"), (8, u "label"), (0, u "Ljava/lang/String;"), (2, u "arity"), (0, u "I"), (72, u "hasSymbol"), (0, u "()Z")] 9

def k6c0 : Code := { maxStack := 2, maxLocals := 1, code := prog_20_method_6_code, exceptionTable := #[], attributes := #[] }
def k6m0 : Method := { name := "hasSymbol", desc := "()Z", sig := { parameters := [], returnType := some .boolean }, accessFlags := 1, code := some k6c0 }
/-- com/example/nuthatch/nuthatch/formula/Kind -/
def k6 : Class := { plain "com/example/nuthatch/nuthatch/formula/Kind" (some 5) with
  accessFlags := 16433
  interfaces := #[]
  cf := some (fileOf pool6 1 #[] #[{ accessFlags := 1, nameIndex := 160, descriptorIndex := 161, attributes := #[] }] 16433 71 #[] #[{ accessFlags := 16409, nameIndex := 5, descriptorIndex := 6, attributes := #[] }, { accessFlags := 16409, nameIndex := 9, descriptorIndex := 6, attributes := #[] }, { accessFlags := 16409, nameIndex := 12, descriptorIndex := 6, attributes := #[] }, { accessFlags := 16409, nameIndex := 15, descriptorIndex := 6, attributes := #[] }, { accessFlags := 16409, nameIndex := 18, descriptorIndex := 6, attributes := #[] }, { accessFlags := 16409, nameIndex := 21, descriptorIndex := 6, attributes := #[] }, { accessFlags := 16409, nameIndex := 24, descriptorIndex := 6, attributes := #[] }, { accessFlags := 16409, nameIndex := 27, descriptorIndex := 6, attributes := #[] }, { accessFlags := 16409, nameIndex := 30, descriptorIndex := 6, attributes := #[] }, { accessFlags := 16409, nameIndex := 33, descriptorIndex := 6, attributes := #[] }, { accessFlags := 16409, nameIndex := 36, descriptorIndex := 6, attributes := #[] }, { accessFlags := 16409, nameIndex := 39, descriptorIndex := 6, attributes := #[] }, { accessFlags := 16409, nameIndex := 42, descriptorIndex := 6, attributes := #[] }, { accessFlags := 16409, nameIndex := 45, descriptorIndex := 6, attributes := #[] }, { accessFlags := 16409, nameIndex := 48, descriptorIndex := 6, attributes := #[] }, { accessFlags := 16409, nameIndex := 51, descriptorIndex := 6, attributes := #[] }, { accessFlags := 16409, nameIndex := 54, descriptorIndex := 6, attributes := #[] }, { accessFlags := 16409, nameIndex := 57, descriptorIndex := 6, attributes := #[] }, { accessFlags := 16409, nameIndex := 60, descriptorIndex := 6, attributes := #[] }, { accessFlags := 18, nameIndex := 82, descriptorIndex := 83, attributes := #[] }, { accessFlags := 18, nameIndex := 86, descriptorIndex := 87, attributes := #[] }, { accessFlags := 4122, nameIndex := 63, descriptorIndex := 64, attributes := #[] }])
  fields := #[{ name := "SYMBOL", type := (.object "com/example/nuthatch/nuthatch/formula/Kind"), accessFlags := 16409, slot := 0, constantValue := 0 }, { name := "ROW", type := (.object "com/example/nuthatch/nuthatch/formula/Kind"), accessFlags := 16409, slot := 1, constantValue := 0 }, { name := "INFIX", type := (.object "com/example/nuthatch/nuthatch/formula/Kind"), accessFlags := 16409, slot := 2, constantValue := 0 }, { name := "PREFIX", type := (.object "com/example/nuthatch/nuthatch/formula/Kind"), accessFlags := 16409, slot := 3, constantValue := 0 }, { name := "JUXTAPOSITION", type := (.object "com/example/nuthatch/nuthatch/formula/Kind"), accessFlags := 16409, slot := 4, constantValue := 0 }, { name := "SUPERSCRIPT", type := (.object "com/example/nuthatch/nuthatch/formula/Kind"), accessFlags := 16409, slot := 5, constantValue := 0 }, { name := "SUBSCRIPT", type := (.object "com/example/nuthatch/nuthatch/formula/Kind"), accessFlags := 16409, slot := 6, constantValue := 0 }, { name := "SUBSCRIPT_SUPERSCRIPT", type := (.object "com/example/nuthatch/nuthatch/formula/Kind"), accessFlags := 16409, slot := 7, constantValue := 0 }, { name := "FRACTION", type := (.object "com/example/nuthatch/nuthatch/formula/Kind"), accessFlags := 16409, slot := 8, constantValue := 0 }, { name := "ATOP", type := (.object "com/example/nuthatch/nuthatch/formula/Kind"), accessFlags := 16409, slot := 9, constantValue := 0 }, { name := "ROOT", type := (.object "com/example/nuthatch/nuthatch/formula/Kind"), accessFlags := 16409, slot := 10, constantValue := 0 }, { name := "INDEXED_ROOT", type := (.object "com/example/nuthatch/nuthatch/formula/Kind"), accessFlags := 16409, slot := 11, constantValue := 0 }, { name := "FENCE", type := (.object "com/example/nuthatch/nuthatch/formula/Kind"), accessFlags := 16409, slot := 12, constantValue := 0 }, { name := "ACCENT", type := (.object "com/example/nuthatch/nuthatch/formula/Kind"), accessFlags := 16409, slot := 13, constantValue := 0 }, { name := "OVER", type := (.object "com/example/nuthatch/nuthatch/formula/Kind"), accessFlags := 16409, slot := 14, constantValue := 0 }, { name := "UNDER", type := (.object "com/example/nuthatch/nuthatch/formula/Kind"), accessFlags := 16409, slot := 15, constantValue := 0 }, { name := "UNDER_OVER", type := (.object "com/example/nuthatch/nuthatch/formula/Kind"), accessFlags := 16409, slot := 16, constantValue := 0 }, { name := "TABLE", type := (.object "com/example/nuthatch/nuthatch/formula/Kind"), accessFlags := 16409, slot := 17, constantValue := 0 }, { name := "TABLE_ROW", type := (.object "com/example/nuthatch/nuthatch/formula/Kind"), accessFlags := 16409, slot := 18, constantValue := 0 }, { name := "label", type := (.object "java/lang/String"), accessFlags := 18, slot := 3, constantValue := 0 }, { name := "arity", type := .int, accessFlags := 18, slot := 4, constantValue := 0 }, { name := "$VALUES", type := (.array (.object "com/example/nuthatch/nuthatch/formula/Kind")), accessFlags := 4122, slot := 19, constantValue := 0 }]
  methods := #[k6m0]
  instanceTypes := #[(.object "java/lang/String"), .int, .int, (.object "java/lang/String"), .int]
  staticTypes := #[(.object "com/example/nuthatch/nuthatch/formula/Kind"), (.object "com/example/nuthatch/nuthatch/formula/Kind"), (.object "com/example/nuthatch/nuthatch/formula/Kind"), (.object "com/example/nuthatch/nuthatch/formula/Kind"), (.object "com/example/nuthatch/nuthatch/formula/Kind"), (.object "com/example/nuthatch/nuthatch/formula/Kind"), (.object "com/example/nuthatch/nuthatch/formula/Kind"), (.object "com/example/nuthatch/nuthatch/formula/Kind"), (.object "com/example/nuthatch/nuthatch/formula/Kind"), (.object "com/example/nuthatch/nuthatch/formula/Kind"), (.object "com/example/nuthatch/nuthatch/formula/Kind"), (.object "com/example/nuthatch/nuthatch/formula/Kind"), (.object "com/example/nuthatch/nuthatch/formula/Kind"), (.object "com/example/nuthatch/nuthatch/formula/Kind"), (.object "com/example/nuthatch/nuthatch/formula/Kind"), (.object "com/example/nuthatch/nuthatch/formula/Kind"), (.object "com/example/nuthatch/nuthatch/formula/Kind"), (.object "com/example/nuthatch/nuthatch/formula/Kind"), (.object "com/example/nuthatch/nuthatch/formula/Kind"), (.array (.object "com/example/nuthatch/nuthatch/formula/Kind"))]
  resolved := Array.replicate 171 none
  statics := some 0 }

def pool7 : Array CpInfo := pool [(1, u "java/lang/Cloneable"), (0, .class_ 1), (0, u "java/lang/Object"), (0, .class_ 3)] 3

/-- java/lang/Cloneable -/
def k7 : Class := { plain "java/lang/Cloneable" (some 0) with
  accessFlags := 1537
  interfaces := #[]
  cf := some (fileOf pool7 2 #[] #[] 1537 4 #[] #[])
  fields := #[]
  methods := #[]
  instanceTypes := #[]
  staticTypes := #[]
  resolved := Array.replicate 8 none
  statics := none }

/-- the primitive byte -/
def k8 : Class := { plain "byte" none with kind := .primitive 'B', accessFlags := 0x411 }
/-- [B -/
def k9 : Class := { plain "[B" (some 0) with kind := .array 8 .byte, interfaces := #[7, 4], accessFlags := 1041 }

/-- the primitive int -/
def k10 : Class := { plain "int" none with kind := .primitive 'I', accessFlags := 0x411 }
/-- [I -/
def k11 : Class := { plain "[I" (some 0) with kind := .array 10 .int, interfaces := #[7, 4], accessFlags := 1041 }

/-- [Lcom/example/nuthatch/nuthatch/formula/Kind; -/
def k12 : Class := { plain "[Lcom/example/nuthatch/nuthatch/formula/Kind;" (some 0) with kind := .array 6 (.object "com/example/nuthatch/nuthatch/formula/Kind"), interfaces := #[7, 4], accessFlags := 1041 }

def heap : Heap := #[{ cls := 6, slots := #[.ref 1, .ref 2, .ref 3, .ref 4, .ref 5, .ref 6, .ref 7, .ref 8, .ref 9, .ref 10, .ref 11, .ref 12, .ref 13, .ref 14, .ref 15, .ref 16, .ref 17, .ref 18, .ref 19, .null], vm := .statics 6 },
  { cls := 6, slots := #[.null, .int 0, .int 0, .null, .int 0], vm := .none },
  { cls := 6, slots := #[.null, .int 1, .int 0, .null, .int 0], vm := .none },
  { cls := 6, slots := #[.null, .int 2, .int 0, .null, .int 0], vm := .none },
  { cls := 6, slots := #[.null, .int 3, .int 0, .null, .int 0], vm := .none },
  { cls := 6, slots := #[.null, .int 4, .int 0, .null, .int 0], vm := .none },
  { cls := 6, slots := #[.null, .int 5, .int 0, .null, .int 0], vm := .none },
  { cls := 6, slots := #[.null, .int 6, .int 0, .null, .int 0], vm := .none },
  { cls := 6, slots := #[.null, .int 7, .int 0, .null, .int 0], vm := .none },
  { cls := 6, slots := #[.null, .int 8, .int 0, .null, .int 0], vm := .none },
  { cls := 6, slots := #[.null, .int 9, .int 0, .null, .int 0], vm := .none },
  { cls := 6, slots := #[.null, .int 10, .int 0, .null, .int 0], vm := .none },
  { cls := 6, slots := #[.null, .int 11, .int 0, .null, .int 0], vm := .none },
  { cls := 6, slots := #[.null, .int 12, .int 0, .null, .int 0], vm := .none },
  { cls := 6, slots := #[.null, .int 13, .int 0, .null, .int 0], vm := .none },
  { cls := 6, slots := #[.null, .int 14, .int 0, .null, .int 0], vm := .none },
  { cls := 6, slots := #[.null, .int 15, .int 0, .null, .int 0], vm := .none },
  { cls := 6, slots := #[.null, .int 16, .int 0, .null, .int 0], vm := .none },
  { cls := 6, slots := #[.null, .int 17, .int 0, .null, .int 0], vm := .none },
  { cls := 6, slots := #[.null, .int 18, .int 0, .null, .int 0], vm := .none }]
def classes : Array Class := #[k0, k1, k2, k3, k4, k5, k6, k7, k8, k9, k10, k11, k12]
def interned : List (Array UInt16 × Addr) := []
def slotsUsed : Nat := 115
def theMethod : MethodId := ⟨1, 1⟩
def args0 : Array Value := #[.int 5]
def aboutOver (below : List Frame) : State where
  vm := { classes := classes, interned := interned.toArray }
  heap := heap
  slotsUsed := slotsUsed
  threads := #[{ frames := .invoking theMethod args0 :: below }]
def below0 : List Frame := [.native { method := ⟨0, 0⟩, args := #[] }]
def about1 : State := aboutOver below0
def p0 : Program := .bare "" "" ""
def e0 : Env := launch0.env 0 0 0
theorem w_frames : about1.frames = Frame.invoking theMethod args0 :: below0 := rfl
set_option maxRecDepth 65536 in
theorem w_args : argsFit about1.vm theMethod args0 = true := by decide +kernel
set_option maxRecDepth 65536 in
theorem w_heap : heapFits about1 = true := by decide +kernel
set_option maxRecDepth 65536 in
theorem w_runnable : about1.curStatus? = some .runnable := by decide +kernel
set_option maxRecDepth 65536 in
theorem w_alone : about1.alone = true := by decide +kernel
set_option maxRecDepth 65536 in
theorem w_named : about1.methodNamed? x = some theMethod := by decide +kernel
set_option maxRecDepth 65536 in
theorem w_hears : about1.hears theMethod below0 = true := by decide +kernel
set_option maxRecDepth 65536 in
theorem w_ripe : about1.ripe theMethod args0 below0 = true := by decide +kernel
theorem w_running : about1.status = .running := rfl
set_option maxRecDepth 65536 in
theorem w_room : about1.hasRoom e0.platform room_1 = true :=
  launch0.hasRoom_least _ room_1 (by decide +kernel) (by decide +kernel) (by decide +kernel) (by decide +kernel) (by decide +kernel) (by decide +kernel)
theorem allAtoms_all (ts : List Jvm.Cond) (a : Array Jvm.Value) (st : Jvm.State) : (allAtoms ts).before a st = ts.all (fun c => c.before a st) := by
  induction ts with
  | nil => rfl
  | cons c t ih =>
    show (Jvm.Cond.and c (allAtoms t)).before a st = _
    rw [Jvm.Cond.before_and, ih, List.all_cons]
def words1 : List Jvm.Cond := Jvm.Cond.code x code maxLocals ret :: tables_1
/-- a 'code' word, met by the world's own term for the bytes: nothing is compared byte by byte -/
theorem code_word {y : MethodName} {bytes : ByteArray} {mx : Nat} {rt : Option FieldType} {a : Array Value} {s : State} {m : MethodId} {meth : Method} {c : Code} (h1 : s.methodNamed? y = some m) (h2 : s.vm.method? m = some meth) (h3 : meth.code = some c) (h4 : c.code = bytes)
    (h5 : (c.maxLocals == mx && c.exceptionTable.isEmpty && decide (c.maxStack ≤ mostOperands) && decide (meth.sig.returnType = rt) && !meth.locks && decide (parseMethodDescriptor y.desc = some meth.sig)) = true) : (Jvm.Cond.code y bytes mx rt).before a s = true := by
  simp only [Bool.and_eq_true, beq_iff_eq, Bool.not_eq_true', decide_eq_true_eq] at h5
  obtain ⟨⟨⟨⟨⟨g1, g2⟩, g3⟩, g4⟩, g5⟩, g6⟩ := h5
  simp [Cond.before, Cond.holds, Cond.value, h1, h2, h3, h4, g1, g2, g3, g4, g5, g6]
def isCode : Jvm.Cond → Bool
  | .code _ _ _ _ => true
  | _ => false
theorem all_split {L : List Jvm.Cond} {P : Jvm.Cond → Bool} (h1 : L.all (fun c => isCode c || P c) = true) (h2 : ∀ c ∈ L.filter isCode, P c = true) : L.all P = true := by
  refine List.all_eq_true.mpr fun c hc => ?_
  have h := List.all_eq_true.mp h1 c hc
  rcases Bool.eq_false_or_eq_true (isCode c) with hi | hi
  · exact h2 c (List.mem_filter.mpr ⟨hc, hi⟩)
  · simpa [hi] using h
set_option maxRecDepth 65536 in
theorem w_c0 : (Jvm.Cond.code x code maxLocals ret).before args0 about1 = true := code_word (m := ⟨1, 1⟩) (meth := k1m1) (c := k1c1) (by decide +kernel) rfl rfl rfl (by decide +kernel)
set_option maxRecDepth 65536 in
theorem w_c1 : (Jvm.Cond.code ({ cls := "com/example/nuthatch/nuthatch/formula/Kind", name := "hasSymbol", desc := "()Z" } : Jvm.MethodName) prog_20_method_6_code (1 : Nat) (Option.some Jvm.ClassFile.FieldType.boolean)).before args0 about1 = true := code_word (m := ⟨6, 0⟩) (meth := k6m0) (c := k6c0) (by decide +kernel) rfl rfl rfl (by decide +kernel)
def codes1 : List Jvm.Cond := [Jvm.Cond.code x code maxLocals ret, Jvm.Cond.code ({ cls := "com/example/nuthatch/nuthatch/formula/Kind", name := "hasSymbol", desc := "()Z" } : Jvm.MethodName) prog_20_method_6_code (1 : Nat) (Option.some Jvm.ClassFile.FieldType.boolean)]
set_option maxRecDepth 65536 in
theorem codes_eq : words1.filter isCode = codes1 := rfl
theorem w_codes : ∀ c ∈ words1.filter isCode, c.before args0 about1 = true := by
  rw [codes_eq]
  intro c hc
  simp only [codes1, List.mem_cons, List.not_mem_nil, or_false] at hc
  rcases hc with rfl | rfl
  · exact w_c0
  · exact w_c1
set_option maxRecDepth 65536 in
theorem w_t1 : (words1.take 24).all (fun c => isCode c || c.before args0 about1) = true := by decide +kernel
set_option maxRecDepth 65536 in
theorem w_t2 : ((words1.drop 24).take 24).all (fun c => isCode c || c.before args0 about1) = true := by decide +kernel
set_option maxRecDepth 65536 in
theorem w_t3 : ((words1.drop 24).drop 24).all (fun c => isCode c || c.before args0 about1) = true := by decide +kernel
theorem w_tables : (allAtoms (Jvm.Cond.code x code maxLocals ret :: tables_1)).before args0 about1 = true := by
  rw [allAtoms_all]
  show words1.all (fun c => c.before args0 about1) = true
  refine all_split ?_ w_codes
  rw [← List.take_append_drop 24 words1, List.all_append, w_t1, ← List.take_append_drop 24 (words1.drop 24), List.all_append, w_t2, w_t3]
  rfl
set_option maxRecDepth 65536 in
theorem w_case : (Jvm.Cond.and given_1 narrow_1).before args0 about1 = true := by decide +kernel
theorem w_applies : (headSpec (Jvm.Cond.code x code maxLocals ret :: tables_1) room_1).applies x e0.platform about1 = true :=
  (Spec.applies_iff w_frames).mpr ⟨w_running, w_runnable, w_alone, w_named, w_hears, w_ripe, w_room, w_tables⟩
theorem atStart : AtStart classFile x code maxLocals ret World_1 tables_1 room_1 Calls_1 rest_1 Pre_1 launch0 p0 e0 about1 theMethod args0 below0 :=
  ⟨lists_1, trivial, launch0.admits_env _ _ _, launch0.least_env, fairChoices_fair.cas, fairChoices_fair.clock, w_frames, w_args, w_heap, w_applies, trivial, trivial, w_case⟩
end start1
theorem witness_1 : WitnessClaimed_1 := ⟨start1.p0, start1.e0, start1.about1, start1.theMethod, start1.args0, start1.below0, start1.atStart⟩
end Jvm.Pilot.@@N@@
