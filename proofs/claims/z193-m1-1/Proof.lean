import JvmDerived
import JvmDerived.Pilot.@@N@@Statement
import JvmDerived.Pilot.@@N@@Code
set_option linter.unusedVariables false
set_option linter.unusedSimpArgs false
namespace Jvm.RoadKit
open Sem ClassFile Op Lib Jvm.Stand Jvm.Free Jvm.LawKit
section New
variable {p : Program} {l : Launch} {e : Env} {R : Room} {s : State} {m : MethodId} {args : Array Value} {below : List Frame} {meth : Method} {c : Code} {T : State} {locs : List Loc} {cells slots : Nat}
theorem retI (X : Stand p l e R s m args below meth c T locs cells slots) (hx : p.tables.exec = Jvm.exec) {pc : Nat} {Ls : Array Slot} {z : Int32} {rest : List Value} (hret : meth.sig.returnType = some .int) (hd : decode c.code pc = .ok (.ireturn, 1)) {fs : List Frame}
    (hl : ∀ (f : JFrame) (acts : List Action), f.method = m → f.locked = none → f.entered = [] → (doReturn e (T.setTop f) acts (some (.int z))).1 = T.setFrames fs) : Steps p.tables e below (T.setTop (mkF m pc Ls (.int z :: rest))) (T.setFrames fs) := by
  have hm' : T.vm.method? m = some meth := X.method'
  have hn : narrow .int (.int z) = .int z := rfl
  show Steps p.tables e below (T.setTop { method := m, pc := pc, locals := Ls, stack := _ :: rest, locked := none }) _
  jvm_step X.here [X.here.top, hx, hd, hm', hret, hn]
  first | (intro acts; rw [hl _ acts rfl rfl rfl]) | rw [hl _ _ rfl rfl rfl]
  exact Steps.refl _
end New
end Jvm.RoadKit
namespace Jvm.Pilot.@@N@@
open Jvm Jvm.ClassFile Sem Op Lib Jvm.Free Jvm.Stand Jvm.LawKit Jvm.RoadKit Bundle Jvm.Pilot.@@N@@.Jvm.D

theorem own_fld {s : State} {args : Array Value} {t : Term} {a : Addr} {C n d : String} {k : Int32} (ht : t.eval args s none [] s = some (.ref a)) (h : (Jvm.Cond.eq (.field t C n d) (.int k)).value args s none s [] = some true) : Fld s s.heap a C n d (.int k) := by
  refine Fld.start ?_
  have e := fld_at (C := C) (n := n) (dd := d) ht
  obtain ⟨x, y, h1, h2, h3, h4⟩ := cmp_v (Or.inl h)
  obtain rfl : y = .int k := (Option.some.inj (h2.symm.trans (Term.int_eval k)))
  obtain ⟨z, rfl⟩ := h4
  rw [← e, h1]
  simp only [Cond.value, h1, h2] at h
  simpa using h
theorem own_st {s : State} {args : Array Value} {C n d K : String} (h : (Jvm.Cond.exactly (.static C n d) K).value args s none s [] = some true) (hi : (Jvm.Cond.initialized C).before args s = true) (hl : (Jvm.Cond.laysStatic C n d).before args s = true) :
    ∃ a, (Term.static C n d).eval args s none [] s = some (.ref a) ∧ Sta s s.heap C n d (.ref a) ∧ Exa s s.heap a K := by
  obtain ⟨a, ev⟩ := exa_v h
  exact ⟨a, ev, Sta.start ev (Or.inr ⟨hi, hl⟩), Exa.start ev h⟩

theorem own_stk {Z : State} {h h' : Heap} {C n d : String} {v : Value} (F : Sta Z h C n d v) (K : Keep h h' []) : Sta Z h' C n d v := by
  obtain ⟨cf, i, k, f, st, cell, h1, h2, h3, h4, h5, r⟩ := F
  exact ⟨cf, i, k, f, st, cell, h1, h2, h3, h4, K.2.1 _ _ h5 List.not_mem_nil, r⟩

theorem own_eqr {s : State} {args : Array Value} {a b : Term} {u : Addr} (h : (Jvm.Cond.eq a b).value args s none s [] = some true) (hb : b.eval args s none [] s = some (.ref u)) : a.eval args s none [] s = some (.ref u) := by
  obtain ⟨x, y, h1, h2, h3, h4⟩ := cmp_v (Or.inl h)
  obtain rfl : y = .ref u := Option.some.inj (h2.symm.trans hb)
  have q := gotT (eq_R h1 h2 h4.2 h4.1) h
  rw [h1, q]
theorem own_vals {s : State} {args : Array Value} {t : Term} {ST : String} {a u0 u1 u2 u3 u4 u5 : Addr} (hf : Fit s) (ev : t.eval args s none [] s = some (.ref a))
    (h1 : (Jvm.Cond.arrayOf t (.object ST)).value args s none s [] = some true) (h3 : (Jvm.Cond.eq (.length t) (.int 6)).value args s none s [] = some true)
    (e0 : (Term.elem t (.int 0)).eval args s none [] s = some (.ref u0)) (e1 : (Term.elem t (.int 1)).eval args s none [] s = some (.ref u1)) (e2 : (Term.elem t (.int 2)).eval args s none [] s = some (.ref u2))
    (e3 : (Term.elem t (.int 3)).eval args s none [] s = some (.ref u3)) (e4 : (Term.elem t (.int 4)).eval args s none [] s = some (.ref u4)) (e5 : (Term.elem t (.int 5)).eval args s none [] s = some (.ref u5)) :
    ∃ k, Arv s s.heap a k (.object ST) (6 : Int32) [.ref u0, .ref u1, .ref u2, .ref u3, .ref u4, .ref u5] .null := by
  obtain ⟨cl, A⟩ := Arr.start ev h1
  obtain ⟨x, y, q1, q2, q3, q4⟩ := cmp_v (Or.inl h3)
  obtain rfl : y = .int 6 := Option.some.inj (q2.symm.trans (Term.int_eval 6))
  obtain ⟨z, rfl⟩ := q4
  have hz : z = 6 := by
    simp only [Cond.value, q1, q2] at h3
    simpa using h3
  have ha : s.arrayAt? a = some cl := IntBox.arrayAt_of A.1 A.2.1 A.2.2
  have hs : cl.slots.size < 2 ^ 31 ∧ cl.slots.size.toInt32 = z := by
    simp only [Term.eval, Option.bind_eq_bind] at q1
    simp only [ev, Option.bind_some, ha] at q1
    split at q1
    · rename_i hlt
      exact ⟨hlt, by simpa using q1⟩
    · cases q1
  have H : HasL cl 0 [.ref u0, .ref u1, .ref u2, .ref u3, .ref u4, .ref u5] := ⟨(elem_in e0 ev (Term.int_eval 0) A.1).2, (elem_in e1 ev (Term.int_eval 1) A.1).2, (elem_in e2 ev (Term.int_eval 2) A.1).2, (elem_in e3 ev (Term.int_eval 3) A.1).2, (elem_in e4 ev (Term.int_eval 4) A.1).2, (elem_in e5 ev (Term.int_eval 5) A.1).2, trivial⟩
  exact ⟨cl.cls, Arv.start hf A hs.1 (hs.2.trans hz) (by decide) rfl H⟩
def own_exp (k : Int32) (u0 u1 u2 u3 u4 u5 : Addr) : Addr := if k = 400 then u0 else if k = 401 then u1 else if k = 404 then u2 else if k = 409 then u3 else if k = 500 then u4 else if k = 503 then u5 else if k < 500 then u0 else u4
def Q1 (h0 : Heap) (n0 : Nat) (v : Option Value) (h : Heap) (L : List Loc) : Prop := ∃ k : Int32, v = some (.int k) ∧ Fr n0 L ∧ h = h0
def Q2 (r : Addr) (h0 : Heap) (n0 : Nat) (v : Option Value) (h : Heap) (L : List Loc) : Prop := v = some (.ref r) ∧ Fr n0 L ∧ Keep h0 h []
def Q3 (Z : State) (kA : ClassId) (vs : List Value) (h0 : Heap) (n0 : Nat) (v : Option Value) (h : Heap) (L : List Loc) : Prop := ∃ b : Addr, v = some (.ref b) ∧ Fr n0 L ∧ Keep h0 h [] ∧ Arv Z h b kA (.object "com/example/wepwawet/wepwawet/server/Status") (6 : Int32) vs .null
def Q4 (r : Addr) (h0 : Heap) (n0 : Nat) (v : Option Value) (h : Heap) (L : List Loc) : Prop := v = some (.ref r) ∧ Fr n0 L ∧ h = h0
theorem d1_0 : decode method_3_code 0 = .ok (.iload_n 0, 1) := by decide +kernel
theorem d1_1 : decode method_3_code 1 = .ok (.bipush 7, 2) := by decide +kernel
theorem d1_3 : decode method_3_code 3 = .ok (.iand, 1) := by decide +kernel
theorem d1_4 : decode method_3_code 4 = .ok (.istore_n 2, 1) := by decide +kernel
theorem d1_5 : decode method_3_code 5 = .ok (.iload_n 2, 1) := by decide +kernel
theorem d1_6 : decode method_3_code 6 = .ok (.ifCond .ne 7, 3) := by decide +kernel
theorem d1_9 : decode method_3_code 9 = .ok (.sipush 400, 3) := by decide +kernel
theorem d1_12 : decode method_3_code 12 = .ok (.ireturn, 1) := by decide +kernel
theorem pn_1 : plainName "com/example/wepwawet/wepwawet/server/StatusForHttpCodePinLaw" = true := by first | (simp [plainName, overriddenIn]; done) | decide +kernel
theorem ef_1 (m : MethodId) (x0 : Int32) (x1 : Int32) : entryFrame m #[(.int x0), (.int x1)] 3 = mkF m 0 #[.val (.int x0), .val (.int x1), .unset] [] := by first | (simp [entryFrame, mkF, argsToLocals, Value.category]; done) | rfl
set_option maxRecDepth 65536 in
set_option maxHeartbeats 40000000 in
theorem rm1_f (l : Launch) (Z : State) (a0 : Array Value) (hw : ∀ d ∈ tables_1, d.before a0 Z = true) (ws : List Jvm.Cond) (p1 : Int32) (p2 : Int32) (h0 : Heap) (n0 : Nat) (Z0 : n0 ≤ h0.size) (hc6 : (p1 &&& (7 : Int32)) = (0 : Int32)) :
    MetFree l (⟨"com/example/wepwawet/wepwawet/server/StatusForHttpCodePinLaw", "pick", "(II)I"⟩ : MethodName) (head1 (Jvm.Cond.code (⟨"com/example/wepwawet/wepwawet/server/StatusForHttpCodePinLaw", "pick", "(II)I"⟩ : MethodName) method_3_code 3 (some .int) :: ws) ({ frames := 0, cells := 0, slots := 0, locals := 0 } : Room)) (fun a U => a = #[(.int p1), (.int p2)] ∧ Z.Warmed39 U.vm ∧ U.heap = h0) (fun _ _ _ _ _ => True) (fun _ U o U' => ∃ v L, o = .returned v ∧ Q1 h0 n0 v U'.heap L ∧ FrameEnd U o U' L ({ frames := 0, cells := 0, slots := 0, locals := 0 } : Room).cells ({ frames := 0, cells := 0, slots := 0, locals := 0 } : Room).slots) := by
  refine MetFree.of_bodySF (plainFor_of_name pn_1) hisR ?_
  intro p e s m args below meth c s₁ Bd hml0 hP hK
  obtain ⟨rfl, hZ, hh⟩ := hP
  have hx := Bd.exec
  have hby := Bd.bytes
  have hml : c.maxLocals = 3 := hml0
  have hown : s.vm.findClass "com/example/wepwawet/wepwawet/server/StatusForHttpCodePinLaw" = some m.cls := findClass_of_methodNamed Bd.named
  have hnm := (name_of_methodNamed Bd.named Bd.method).1
  have X0 : Stand p l e ({ frames := 0, cells := 0, slots := 0, locals := 0 } : Room) s m #[(.int p1), (.int p2)] below meth c s₁ [] 0 0 := Stand.of_body Bd
  have e0 : s₁.heap = h0 := by rw [← hh, Bd.state]; rfl
  have N0 := Fr.nil n0
  have pre0 : ∀ t, Steps p.tables e below (s₁.setTop (mkF m 0 #[.val (.int p1), .val (.int p2), .unset] [])) t → Steps p.tables e below (s₁.setTop (entryFrame m #[(.int p1), (.int p2)] 3)) t := fun t k => castTop (ef_1 m p1 p2) k

  obtain ⟨fs, hr, hrun, hended, hW, hsame⟩ := X0.leave (v := some (.int (400 : Int32))) (fun h => by rw [Bd.returns] at h; cases h)
  refine ⟨_, _, pre0 _ ?_, hrun, hended, _, _, rfl, ?_, ⟨_, rfl⟩, hW, hsame.mono (by decide) (by decide)⟩
  · show Steps p.tables e below (s₁.setTop (mkF m 0 #[.val (.int p1), .val (.int p2), .unset] [])) _
    refine XS.iloadN X0.here hx rfl (hb hby d1_0) rfl ?_
    show Steps p.tables e below (s₁.setTop (mkF m 1 #[.val (.int p1), .val (.int p2), .unset] [(.int p1)])) _
    refine XS.bipush X0.here hx rfl (hb hby d1_1) ?_
    show Steps p.tables e below (s₁.setTop (mkF m 3 #[.val (.int p1), .val (.int p2), .unset] [(.int (7 : Int32)), (.int p1)])) _
    refine XS.iand X0.here hx rfl (hb hby d1_3) rfl ?_
    show Steps p.tables e below (s₁.setTop (mkF m 4 #[.val (.int p1), .val (.int p2), .unset] [(.int (p1 &&& (7 : Int32)))])) _
    refine XS.istoreN X0.here hx rfl (hb hby d1_4) rfl (l' := #[.val (.int p1), .val (.int p2), .val (.int (p1 &&& (7 : Int32)))]) rfl ?_
    show Steps p.tables e below (s₁.setTop (mkF m 5 #[.val (.int p1), .val (.int p2), .val (.int (p1 &&& (7 : Int32)))] [])) _
    refine XS.iloadN X0.here hx rfl (hb hby d1_5) rfl ?_
    show Steps p.tables e below (s₁.setTop (mkF m 6 #[.val (.int p1), .val (.int p2), .val (.int (p1 &&& (7 : Int32)))] [(.int (p1 &&& (7 : Int32)))])) _
    refine XS.ifNo X0.here hx rfl (hb hby d1_6) rfl ((if0 _ _).trans (teq hc6).2) ?_
    show Steps p.tables e below (s₁.setTop (mkF m 9 #[.val (.int p1), .val (.int p2), .val (.int (p1 &&& (7 : Int32)))] [])) _
    refine XS.sipush X0.here hx rfl (hb hby d1_9) ?_
    show Steps p.tables e below (s₁.setTop (mkF m 12 #[.val (.int p1), .val (.int p2), .val (.int (p1 &&& (7 : Int32)))] [(.int (400 : Int32))])) _
    exact retI X0 hx Bd.returns (hb hby d1_12) hr
  · show Q1 h0 n0 _ s₁.heap _
    rw [e0]
    exact ⟨_, rfl, N0, rfl⟩
theorem d1_13 : decode method_3_code 13 = .ok (.iload_n 2, 1) := by decide +kernel
theorem d1_14 : decode method_3_code 14 = .ok (.iconst 1, 1) := by decide +kernel
theorem d1_15 : decode method_3_code 15 = .ok (.if_icmp .ne 7, 3) := by decide +kernel
theorem d1_18 : decode method_3_code 18 = .ok (.sipush 401, 3) := by decide +kernel
theorem d1_21 : decode method_3_code 21 = .ok (.ireturn, 1) := by decide +kernel
set_option maxRecDepth 65536 in
set_option maxHeartbeats 40000000 in
theorem rm1_tf (l : Launch) (Z : State) (a0 : Array Value) (hw : ∀ d ∈ tables_1, d.before a0 Z = true) (ws : List Jvm.Cond) (p1 : Int32) (p2 : Int32) (h0 : Heap) (n0 : Nat) (Z0 : n0 ≤ h0.size) (hc6 : ¬ ((p1 &&& (7 : Int32)) = (0 : Int32))) (hc15 : (p1 &&& (7 : Int32)) = (1 : Int32)) :
    MetFree l (⟨"com/example/wepwawet/wepwawet/server/StatusForHttpCodePinLaw", "pick", "(II)I"⟩ : MethodName) (head1 (Jvm.Cond.code (⟨"com/example/wepwawet/wepwawet/server/StatusForHttpCodePinLaw", "pick", "(II)I"⟩ : MethodName) method_3_code 3 (some .int) :: ws) ({ frames := 0, cells := 0, slots := 0, locals := 0 } : Room)) (fun a U => a = #[(.int p1), (.int p2)] ∧ Z.Warmed39 U.vm ∧ U.heap = h0) (fun _ _ _ _ _ => True) (fun _ U o U' => ∃ v L, o = .returned v ∧ Q1 h0 n0 v U'.heap L ∧ FrameEnd U o U' L ({ frames := 0, cells := 0, slots := 0, locals := 0 } : Room).cells ({ frames := 0, cells := 0, slots := 0, locals := 0 } : Room).slots) := by
  refine MetFree.of_bodySF (plainFor_of_name pn_1) hisR ?_
  intro p e s m args below meth c s₁ Bd hml0 hP hK
  obtain ⟨rfl, hZ, hh⟩ := hP
  have hx := Bd.exec
  have hby := Bd.bytes
  have hml : c.maxLocals = 3 := hml0
  have hown : s.vm.findClass "com/example/wepwawet/wepwawet/server/StatusForHttpCodePinLaw" = some m.cls := findClass_of_methodNamed Bd.named
  have hnm := (name_of_methodNamed Bd.named Bd.method).1
  have X0 : Stand p l e ({ frames := 0, cells := 0, slots := 0, locals := 0 } : Room) s m #[(.int p1), (.int p2)] below meth c s₁ [] 0 0 := Stand.of_body Bd
  have e0 : s₁.heap = h0 := by rw [← hh, Bd.state]; rfl
  have N0 := Fr.nil n0
  have pre0 : ∀ t, Steps p.tables e below (s₁.setTop (mkF m 0 #[.val (.int p1), .val (.int p2), .unset] [])) t → Steps p.tables e below (s₁.setTop (entryFrame m #[(.int p1), (.int p2)] 3)) t := fun t k => castTop (ef_1 m p1 p2) k

  obtain ⟨fs, hr, hrun, hended, hW, hsame⟩ := X0.leave (v := some (.int (401 : Int32))) (fun h => by rw [Bd.returns] at h; cases h)
  refine ⟨_, _, pre0 _ ?_, hrun, hended, _, _, rfl, ?_, ⟨_, rfl⟩, hW, hsame.mono (by decide) (by decide)⟩
  · show Steps p.tables e below (s₁.setTop (mkF m 0 #[.val (.int p1), .val (.int p2), .unset] [])) _
    refine XS.iloadN X0.here hx rfl (hb hby d1_0) rfl ?_
    show Steps p.tables e below (s₁.setTop (mkF m 1 #[.val (.int p1), .val (.int p2), .unset] [(.int p1)])) _
    refine XS.bipush X0.here hx rfl (hb hby d1_1) ?_
    show Steps p.tables e below (s₁.setTop (mkF m 3 #[.val (.int p1), .val (.int p2), .unset] [(.int (7 : Int32)), (.int p1)])) _
    refine XS.iand X0.here hx rfl (hb hby d1_3) rfl ?_
    show Steps p.tables e below (s₁.setTop (mkF m 4 #[.val (.int p1), .val (.int p2), .unset] [(.int (p1 &&& (7 : Int32)))])) _
    refine XS.istoreN X0.here hx rfl (hb hby d1_4) rfl (l' := #[.val (.int p1), .val (.int p2), .val (.int (p1 &&& (7 : Int32)))]) rfl ?_
    show Steps p.tables e below (s₁.setTop (mkF m 5 #[.val (.int p1), .val (.int p2), .val (.int (p1 &&& (7 : Int32)))] [])) _
    refine XS.iloadN X0.here hx rfl (hb hby d1_5) rfl ?_
    show Steps p.tables e below (s₁.setTop (mkF m 6 #[.val (.int p1), .val (.int p2), .val (.int (p1 &&& (7 : Int32)))] [(.int (p1 &&& (7 : Int32)))])) _
    refine XS.ifYes X0.here hx rfl (pc0 := 6) (pc' := 13) rfl (hb hby d1_6) rfl ((if0 _ _).trans (feq hc6).2) (by decide) (by decide) ?_
    show Steps p.tables e below (s₁.setTop (mkF m 13 #[.val (.int p1), .val (.int p2), .val (.int (p1 &&& (7 : Int32)))] [])) _
    refine XS.iloadN X0.here hx rfl (hb hby d1_13) rfl ?_
    show Steps p.tables e below (s₁.setTop (mkF m 14 #[.val (.int p1), .val (.int p2), .val (.int (p1 &&& (7 : Int32)))] [(.int (p1 &&& (7 : Int32)))])) _
    refine XS.iconst X0.here hx rfl (hb hby d1_14) ?_
    show Steps p.tables e below (s₁.setTop (mkF m 15 #[.val (.int p1), .val (.int p2), .val (.int (p1 &&& (7 : Int32)))] [(.int (1 : Int32)), (.int (p1 &&& (7 : Int32)))])) _
    refine XS.icmpNo X0.here hx rfl (hb hby d1_15) rfl (teq hc15).2 ?_
    show Steps p.tables e below (s₁.setTop (mkF m 18 #[.val (.int p1), .val (.int p2), .val (.int (p1 &&& (7 : Int32)))] [])) _
    refine XS.sipush X0.here hx rfl (hb hby d1_18) ?_
    show Steps p.tables e below (s₁.setTop (mkF m 21 #[.val (.int p1), .val (.int p2), .val (.int (p1 &&& (7 : Int32)))] [(.int (401 : Int32))])) _
    exact retI X0 hx Bd.returns (hb hby d1_21) hr
  · show Q1 h0 n0 _ s₁.heap _
    rw [e0]
    exact ⟨_, rfl, N0, rfl⟩
theorem d1_22 : decode method_3_code 22 = .ok (.iload_n 2, 1) := by decide +kernel
theorem d1_23 : decode method_3_code 23 = .ok (.iconst 2, 1) := by decide +kernel
theorem d1_24 : decode method_3_code 24 = .ok (.if_icmp .ne 7, 3) := by decide +kernel
theorem d1_27 : decode method_3_code 27 = .ok (.sipush 404, 3) := by decide +kernel
theorem d1_30 : decode method_3_code 30 = .ok (.ireturn, 1) := by decide +kernel
set_option maxRecDepth 65536 in
set_option maxHeartbeats 40000000 in
theorem rm1_ttf (l : Launch) (Z : State) (a0 : Array Value) (hw : ∀ d ∈ tables_1, d.before a0 Z = true) (ws : List Jvm.Cond) (p1 : Int32) (p2 : Int32) (h0 : Heap) (n0 : Nat) (Z0 : n0 ≤ h0.size) (hc6 : ¬ ((p1 &&& (7 : Int32)) = (0 : Int32))) (hc15 : ¬ ((p1 &&& (7 : Int32)) = (1 : Int32))) (hc24 : (p1 &&& (7 : Int32)) = (2 : Int32)) :
    MetFree l (⟨"com/example/wepwawet/wepwawet/server/StatusForHttpCodePinLaw", "pick", "(II)I"⟩ : MethodName) (head1 (Jvm.Cond.code (⟨"com/example/wepwawet/wepwawet/server/StatusForHttpCodePinLaw", "pick", "(II)I"⟩ : MethodName) method_3_code 3 (some .int) :: ws) ({ frames := 0, cells := 0, slots := 0, locals := 0 } : Room)) (fun a U => a = #[(.int p1), (.int p2)] ∧ Z.Warmed39 U.vm ∧ U.heap = h0) (fun _ _ _ _ _ => True) (fun _ U o U' => ∃ v L, o = .returned v ∧ Q1 h0 n0 v U'.heap L ∧ FrameEnd U o U' L ({ frames := 0, cells := 0, slots := 0, locals := 0 } : Room).cells ({ frames := 0, cells := 0, slots := 0, locals := 0 } : Room).slots) := by
  refine MetFree.of_bodySF (plainFor_of_name pn_1) hisR ?_
  intro p e s m args below meth c s₁ Bd hml0 hP hK
  obtain ⟨rfl, hZ, hh⟩ := hP
  have hx := Bd.exec
  have hby := Bd.bytes
  have hml : c.maxLocals = 3 := hml0
  have hown : s.vm.findClass "com/example/wepwawet/wepwawet/server/StatusForHttpCodePinLaw" = some m.cls := findClass_of_methodNamed Bd.named
  have hnm := (name_of_methodNamed Bd.named Bd.method).1
  have X0 : Stand p l e ({ frames := 0, cells := 0, slots := 0, locals := 0 } : Room) s m #[(.int p1), (.int p2)] below meth c s₁ [] 0 0 := Stand.of_body Bd
  have e0 : s₁.heap = h0 := by rw [← hh, Bd.state]; rfl
  have N0 := Fr.nil n0
  have pre0 : ∀ t, Steps p.tables e below (s₁.setTop (mkF m 0 #[.val (.int p1), .val (.int p2), .unset] [])) t → Steps p.tables e below (s₁.setTop (entryFrame m #[(.int p1), (.int p2)] 3)) t := fun t k => castTop (ef_1 m p1 p2) k

  obtain ⟨fs, hr, hrun, hended, hW, hsame⟩ := X0.leave (v := some (.int (404 : Int32))) (fun h => by rw [Bd.returns] at h; cases h)
  refine ⟨_, _, pre0 _ ?_, hrun, hended, _, _, rfl, ?_, ⟨_, rfl⟩, hW, hsame.mono (by decide) (by decide)⟩
  · show Steps p.tables e below (s₁.setTop (mkF m 0 #[.val (.int p1), .val (.int p2), .unset] [])) _
    refine XS.iloadN X0.here hx rfl (hb hby d1_0) rfl ?_
    show Steps p.tables e below (s₁.setTop (mkF m 1 #[.val (.int p1), .val (.int p2), .unset] [(.int p1)])) _
    refine XS.bipush X0.here hx rfl (hb hby d1_1) ?_
    show Steps p.tables e below (s₁.setTop (mkF m 3 #[.val (.int p1), .val (.int p2), .unset] [(.int (7 : Int32)), (.int p1)])) _
    refine XS.iand X0.here hx rfl (hb hby d1_3) rfl ?_
    show Steps p.tables e below (s₁.setTop (mkF m 4 #[.val (.int p1), .val (.int p2), .unset] [(.int (p1 &&& (7 : Int32)))])) _
    refine XS.istoreN X0.here hx rfl (hb hby d1_4) rfl (l' := #[.val (.int p1), .val (.int p2), .val (.int (p1 &&& (7 : Int32)))]) rfl ?_
    show Steps p.tables e below (s₁.setTop (mkF m 5 #[.val (.int p1), .val (.int p2), .val (.int (p1 &&& (7 : Int32)))] [])) _
    refine XS.iloadN X0.here hx rfl (hb hby d1_5) rfl ?_
    show Steps p.tables e below (s₁.setTop (mkF m 6 #[.val (.int p1), .val (.int p2), .val (.int (p1 &&& (7 : Int32)))] [(.int (p1 &&& (7 : Int32)))])) _
    refine XS.ifYes X0.here hx rfl (pc0 := 6) (pc' := 13) rfl (hb hby d1_6) rfl ((if0 _ _).trans (feq hc6).2) (by decide) (by decide) ?_
    show Steps p.tables e below (s₁.setTop (mkF m 13 #[.val (.int p1), .val (.int p2), .val (.int (p1 &&& (7 : Int32)))] [])) _
    refine XS.iloadN X0.here hx rfl (hb hby d1_13) rfl ?_
    show Steps p.tables e below (s₁.setTop (mkF m 14 #[.val (.int p1), .val (.int p2), .val (.int (p1 &&& (7 : Int32)))] [(.int (p1 &&& (7 : Int32)))])) _
    refine XS.iconst X0.here hx rfl (hb hby d1_14) ?_
    show Steps p.tables e below (s₁.setTop (mkF m 15 #[.val (.int p1), .val (.int p2), .val (.int (p1 &&& (7 : Int32)))] [(.int (1 : Int32)), (.int (p1 &&& (7 : Int32)))])) _
    refine XS.icmpYes X0.here hx rfl (pc0 := 15) (pc' := 22) rfl (hb hby d1_15) rfl (feq hc15).2 (by decide) (by decide) ?_
    show Steps p.tables e below (s₁.setTop (mkF m 22 #[.val (.int p1), .val (.int p2), .val (.int (p1 &&& (7 : Int32)))] [])) _
    refine XS.iloadN X0.here hx rfl (hb hby d1_22) rfl ?_
    show Steps p.tables e below (s₁.setTop (mkF m 23 #[.val (.int p1), .val (.int p2), .val (.int (p1 &&& (7 : Int32)))] [(.int (p1 &&& (7 : Int32)))])) _
    refine XS.iconst X0.here hx rfl (hb hby d1_23) ?_
    show Steps p.tables e below (s₁.setTop (mkF m 24 #[.val (.int p1), .val (.int p2), .val (.int (p1 &&& (7 : Int32)))] [(.int (2 : Int32)), (.int (p1 &&& (7 : Int32)))])) _
    refine XS.icmpNo X0.here hx rfl (hb hby d1_24) rfl (teq hc24).2 ?_
    show Steps p.tables e below (s₁.setTop (mkF m 27 #[.val (.int p1), .val (.int p2), .val (.int (p1 &&& (7 : Int32)))] [])) _
    refine XS.sipush X0.here hx rfl (hb hby d1_27) ?_
    show Steps p.tables e below (s₁.setTop (mkF m 30 #[.val (.int p1), .val (.int p2), .val (.int (p1 &&& (7 : Int32)))] [(.int (404 : Int32))])) _
    exact retI X0 hx Bd.returns (hb hby d1_30) hr
  · show Q1 h0 n0 _ s₁.heap _
    rw [e0]
    exact ⟨_, rfl, N0, rfl⟩
theorem d1_31 : decode method_3_code 31 = .ok (.iload_n 2, 1) := by decide +kernel
theorem d1_32 : decode method_3_code 32 = .ok (.iconst 3, 1) := by decide +kernel
theorem d1_33 : decode method_3_code 33 = .ok (.if_icmp .ne 7, 3) := by decide +kernel
theorem d1_36 : decode method_3_code 36 = .ok (.sipush 409, 3) := by decide +kernel
theorem d1_39 : decode method_3_code 39 = .ok (.ireturn, 1) := by decide +kernel
set_option maxRecDepth 65536 in
set_option maxHeartbeats 40000000 in
theorem rm1_tttf (l : Launch) (Z : State) (a0 : Array Value) (hw : ∀ d ∈ tables_1, d.before a0 Z = true) (ws : List Jvm.Cond) (p1 : Int32) (p2 : Int32) (h0 : Heap) (n0 : Nat) (Z0 : n0 ≤ h0.size) (hc6 : ¬ ((p1 &&& (7 : Int32)) = (0 : Int32))) (hc15 : ¬ ((p1 &&& (7 : Int32)) = (1 : Int32))) (hc24 : ¬ ((p1 &&& (7 : Int32)) = (2 : Int32))) (hc33 : (p1 &&& (7 : Int32)) = (3 : Int32)) :
    MetFree l (⟨"com/example/wepwawet/wepwawet/server/StatusForHttpCodePinLaw", "pick", "(II)I"⟩ : MethodName) (head1 (Jvm.Cond.code (⟨"com/example/wepwawet/wepwawet/server/StatusForHttpCodePinLaw", "pick", "(II)I"⟩ : MethodName) method_3_code 3 (some .int) :: ws) ({ frames := 0, cells := 0, slots := 0, locals := 0 } : Room)) (fun a U => a = #[(.int p1), (.int p2)] ∧ Z.Warmed39 U.vm ∧ U.heap = h0) (fun _ _ _ _ _ => True) (fun _ U o U' => ∃ v L, o = .returned v ∧ Q1 h0 n0 v U'.heap L ∧ FrameEnd U o U' L ({ frames := 0, cells := 0, slots := 0, locals := 0 } : Room).cells ({ frames := 0, cells := 0, slots := 0, locals := 0 } : Room).slots) := by
  refine MetFree.of_bodySF (plainFor_of_name pn_1) hisR ?_
  intro p e s m args below meth c s₁ Bd hml0 hP hK
  obtain ⟨rfl, hZ, hh⟩ := hP
  have hx := Bd.exec
  have hby := Bd.bytes
  have hml : c.maxLocals = 3 := hml0
  have hown : s.vm.findClass "com/example/wepwawet/wepwawet/server/StatusForHttpCodePinLaw" = some m.cls := findClass_of_methodNamed Bd.named
  have hnm := (name_of_methodNamed Bd.named Bd.method).1
  have X0 : Stand p l e ({ frames := 0, cells := 0, slots := 0, locals := 0 } : Room) s m #[(.int p1), (.int p2)] below meth c s₁ [] 0 0 := Stand.of_body Bd
  have e0 : s₁.heap = h0 := by rw [← hh, Bd.state]; rfl
  have N0 := Fr.nil n0
  have pre0 : ∀ t, Steps p.tables e below (s₁.setTop (mkF m 0 #[.val (.int p1), .val (.int p2), .unset] [])) t → Steps p.tables e below (s₁.setTop (entryFrame m #[(.int p1), (.int p2)] 3)) t := fun t k => castTop (ef_1 m p1 p2) k

  obtain ⟨fs, hr, hrun, hended, hW, hsame⟩ := X0.leave (v := some (.int (409 : Int32))) (fun h => by rw [Bd.returns] at h; cases h)
  refine ⟨_, _, pre0 _ ?_, hrun, hended, _, _, rfl, ?_, ⟨_, rfl⟩, hW, hsame.mono (by decide) (by decide)⟩
  · show Steps p.tables e below (s₁.setTop (mkF m 0 #[.val (.int p1), .val (.int p2), .unset] [])) _
    refine XS.iloadN X0.here hx rfl (hb hby d1_0) rfl ?_
    show Steps p.tables e below (s₁.setTop (mkF m 1 #[.val (.int p1), .val (.int p2), .unset] [(.int p1)])) _
    refine XS.bipush X0.here hx rfl (hb hby d1_1) ?_
    show Steps p.tables e below (s₁.setTop (mkF m 3 #[.val (.int p1), .val (.int p2), .unset] [(.int (7 : Int32)), (.int p1)])) _
    refine XS.iand X0.here hx rfl (hb hby d1_3) rfl ?_
    show Steps p.tables e below (s₁.setTop (mkF m 4 #[.val (.int p1), .val (.int p2), .unset] [(.int (p1 &&& (7 : Int32)))])) _
    refine XS.istoreN X0.here hx rfl (hb hby d1_4) rfl (l' := #[.val (.int p1), .val (.int p2), .val (.int (p1 &&& (7 : Int32)))]) rfl ?_
    show Steps p.tables e below (s₁.setTop (mkF m 5 #[.val (.int p1), .val (.int p2), .val (.int (p1 &&& (7 : Int32)))] [])) _
    refine XS.iloadN X0.here hx rfl (hb hby d1_5) rfl ?_
    show Steps p.tables e below (s₁.setTop (mkF m 6 #[.val (.int p1), .val (.int p2), .val (.int (p1 &&& (7 : Int32)))] [(.int (p1 &&& (7 : Int32)))])) _
    refine XS.ifYes X0.here hx rfl (pc0 := 6) (pc' := 13) rfl (hb hby d1_6) rfl ((if0 _ _).trans (feq hc6).2) (by decide) (by decide) ?_
    show Steps p.tables e below (s₁.setTop (mkF m 13 #[.val (.int p1), .val (.int p2), .val (.int (p1 &&& (7 : Int32)))] [])) _
    refine XS.iloadN X0.here hx rfl (hb hby d1_13) rfl ?_
    show Steps p.tables e below (s₁.setTop (mkF m 14 #[.val (.int p1), .val (.int p2), .val (.int (p1 &&& (7 : Int32)))] [(.int (p1 &&& (7 : Int32)))])) _
    refine XS.iconst X0.here hx rfl (hb hby d1_14) ?_
    show Steps p.tables e below (s₁.setTop (mkF m 15 #[.val (.int p1), .val (.int p2), .val (.int (p1 &&& (7 : Int32)))] [(.int (1 : Int32)), (.int (p1 &&& (7 : Int32)))])) _
    refine XS.icmpYes X0.here hx rfl (pc0 := 15) (pc' := 22) rfl (hb hby d1_15) rfl (feq hc15).2 (by decide) (by decide) ?_
    show Steps p.tables e below (s₁.setTop (mkF m 22 #[.val (.int p1), .val (.int p2), .val (.int (p1 &&& (7 : Int32)))] [])) _
    refine XS.iloadN X0.here hx rfl (hb hby d1_22) rfl ?_
    show Steps p.tables e below (s₁.setTop (mkF m 23 #[.val (.int p1), .val (.int p2), .val (.int (p1 &&& (7 : Int32)))] [(.int (p1 &&& (7 : Int32)))])) _
    refine XS.iconst X0.here hx rfl (hb hby d1_23) ?_
    show Steps p.tables e below (s₁.setTop (mkF m 24 #[.val (.int p1), .val (.int p2), .val (.int (p1 &&& (7 : Int32)))] [(.int (2 : Int32)), (.int (p1 &&& (7 : Int32)))])) _
    refine XS.icmpYes X0.here hx rfl (pc0 := 24) (pc' := 31) rfl (hb hby d1_24) rfl (feq hc24).2 (by decide) (by decide) ?_
    show Steps p.tables e below (s₁.setTop (mkF m 31 #[.val (.int p1), .val (.int p2), .val (.int (p1 &&& (7 : Int32)))] [])) _
    refine XS.iloadN X0.here hx rfl (hb hby d1_31) rfl ?_
    show Steps p.tables e below (s₁.setTop (mkF m 32 #[.val (.int p1), .val (.int p2), .val (.int (p1 &&& (7 : Int32)))] [(.int (p1 &&& (7 : Int32)))])) _
    refine XS.iconst X0.here hx rfl (hb hby d1_32) ?_
    show Steps p.tables e below (s₁.setTop (mkF m 33 #[.val (.int p1), .val (.int p2), .val (.int (p1 &&& (7 : Int32)))] [(.int (3 : Int32)), (.int (p1 &&& (7 : Int32)))])) _
    refine XS.icmpNo X0.here hx rfl (hb hby d1_33) rfl (teq hc33).2 ?_
    show Steps p.tables e below (s₁.setTop (mkF m 36 #[.val (.int p1), .val (.int p2), .val (.int (p1 &&& (7 : Int32)))] [])) _
    refine XS.sipush X0.here hx rfl (hb hby d1_36) ?_
    show Steps p.tables e below (s₁.setTop (mkF m 39 #[.val (.int p1), .val (.int p2), .val (.int (p1 &&& (7 : Int32)))] [(.int (409 : Int32))])) _
    exact retI X0 hx Bd.returns (hb hby d1_39) hr
  · show Q1 h0 n0 _ s₁.heap _
    rw [e0]
    exact ⟨_, rfl, N0, rfl⟩
theorem d1_40 : decode method_3_code 40 = .ok (.iload_n 2, 1) := by decide +kernel
theorem d1_41 : decode method_3_code 41 = .ok (.iconst 4, 1) := by decide +kernel
theorem d1_42 : decode method_3_code 42 = .ok (.if_icmp .ne 7, 3) := by decide +kernel
theorem d1_45 : decode method_3_code 45 = .ok (.sipush 500, 3) := by decide +kernel
theorem d1_48 : decode method_3_code 48 = .ok (.ireturn, 1) := by decide +kernel
set_option maxRecDepth 65536 in
set_option maxHeartbeats 40000000 in
theorem rm1_ttttf (l : Launch) (Z : State) (a0 : Array Value) (hw : ∀ d ∈ tables_1, d.before a0 Z = true) (ws : List Jvm.Cond) (p1 : Int32) (p2 : Int32) (h0 : Heap) (n0 : Nat) (Z0 : n0 ≤ h0.size) (hc6 : ¬ ((p1 &&& (7 : Int32)) = (0 : Int32))) (hc15 : ¬ ((p1 &&& (7 : Int32)) = (1 : Int32))) (hc24 : ¬ ((p1 &&& (7 : Int32)) = (2 : Int32))) (hc33 : ¬ ((p1 &&& (7 : Int32)) = (3 : Int32))) (hc42 : (p1 &&& (7 : Int32)) = (4 : Int32)) :
    MetFree l (⟨"com/example/wepwawet/wepwawet/server/StatusForHttpCodePinLaw", "pick", "(II)I"⟩ : MethodName) (head1 (Jvm.Cond.code (⟨"com/example/wepwawet/wepwawet/server/StatusForHttpCodePinLaw", "pick", "(II)I"⟩ : MethodName) method_3_code 3 (some .int) :: ws) ({ frames := 0, cells := 0, slots := 0, locals := 0 } : Room)) (fun a U => a = #[(.int p1), (.int p2)] ∧ Z.Warmed39 U.vm ∧ U.heap = h0) (fun _ _ _ _ _ => True) (fun _ U o U' => ∃ v L, o = .returned v ∧ Q1 h0 n0 v U'.heap L ∧ FrameEnd U o U' L ({ frames := 0, cells := 0, slots := 0, locals := 0 } : Room).cells ({ frames := 0, cells := 0, slots := 0, locals := 0 } : Room).slots) := by
  refine MetFree.of_bodySF (plainFor_of_name pn_1) hisR ?_
  intro p e s m args below meth c s₁ Bd hml0 hP hK
  obtain ⟨rfl, hZ, hh⟩ := hP
  have hx := Bd.exec
  have hby := Bd.bytes
  have hml : c.maxLocals = 3 := hml0
  have hown : s.vm.findClass "com/example/wepwawet/wepwawet/server/StatusForHttpCodePinLaw" = some m.cls := findClass_of_methodNamed Bd.named
  have hnm := (name_of_methodNamed Bd.named Bd.method).1
  have X0 : Stand p l e ({ frames := 0, cells := 0, slots := 0, locals := 0 } : Room) s m #[(.int p1), (.int p2)] below meth c s₁ [] 0 0 := Stand.of_body Bd
  have e0 : s₁.heap = h0 := by rw [← hh, Bd.state]; rfl
  have N0 := Fr.nil n0
  have pre0 : ∀ t, Steps p.tables e below (s₁.setTop (mkF m 0 #[.val (.int p1), .val (.int p2), .unset] [])) t → Steps p.tables e below (s₁.setTop (entryFrame m #[(.int p1), (.int p2)] 3)) t := fun t k => castTop (ef_1 m p1 p2) k

  obtain ⟨fs, hr, hrun, hended, hW, hsame⟩ := X0.leave (v := some (.int (500 : Int32))) (fun h => by rw [Bd.returns] at h; cases h)
  refine ⟨_, _, pre0 _ ?_, hrun, hended, _, _, rfl, ?_, ⟨_, rfl⟩, hW, hsame.mono (by decide) (by decide)⟩
  · show Steps p.tables e below (s₁.setTop (mkF m 0 #[.val (.int p1), .val (.int p2), .unset] [])) _
    refine XS.iloadN X0.here hx rfl (hb hby d1_0) rfl ?_
    show Steps p.tables e below (s₁.setTop (mkF m 1 #[.val (.int p1), .val (.int p2), .unset] [(.int p1)])) _
    refine XS.bipush X0.here hx rfl (hb hby d1_1) ?_
    show Steps p.tables e below (s₁.setTop (mkF m 3 #[.val (.int p1), .val (.int p2), .unset] [(.int (7 : Int32)), (.int p1)])) _
    refine XS.iand X0.here hx rfl (hb hby d1_3) rfl ?_
    show Steps p.tables e below (s₁.setTop (mkF m 4 #[.val (.int p1), .val (.int p2), .unset] [(.int (p1 &&& (7 : Int32)))])) _
    refine XS.istoreN X0.here hx rfl (hb hby d1_4) rfl (l' := #[.val (.int p1), .val (.int p2), .val (.int (p1 &&& (7 : Int32)))]) rfl ?_
    show Steps p.tables e below (s₁.setTop (mkF m 5 #[.val (.int p1), .val (.int p2), .val (.int (p1 &&& (7 : Int32)))] [])) _
    refine XS.iloadN X0.here hx rfl (hb hby d1_5) rfl ?_
    show Steps p.tables e below (s₁.setTop (mkF m 6 #[.val (.int p1), .val (.int p2), .val (.int (p1 &&& (7 : Int32)))] [(.int (p1 &&& (7 : Int32)))])) _
    refine XS.ifYes X0.here hx rfl (pc0 := 6) (pc' := 13) rfl (hb hby d1_6) rfl ((if0 _ _).trans (feq hc6).2) (by decide) (by decide) ?_
    show Steps p.tables e below (s₁.setTop (mkF m 13 #[.val (.int p1), .val (.int p2), .val (.int (p1 &&& (7 : Int32)))] [])) _
    refine XS.iloadN X0.here hx rfl (hb hby d1_13) rfl ?_
    show Steps p.tables e below (s₁.setTop (mkF m 14 #[.val (.int p1), .val (.int p2), .val (.int (p1 &&& (7 : Int32)))] [(.int (p1 &&& (7 : Int32)))])) _
    refine XS.iconst X0.here hx rfl (hb hby d1_14) ?_
    show Steps p.tables e below (s₁.setTop (mkF m 15 #[.val (.int p1), .val (.int p2), .val (.int (p1 &&& (7 : Int32)))] [(.int (1 : Int32)), (.int (p1 &&& (7 : Int32)))])) _
    refine XS.icmpYes X0.here hx rfl (pc0 := 15) (pc' := 22) rfl (hb hby d1_15) rfl (feq hc15).2 (by decide) (by decide) ?_
    show Steps p.tables e below (s₁.setTop (mkF m 22 #[.val (.int p1), .val (.int p2), .val (.int (p1 &&& (7 : Int32)))] [])) _
    refine XS.iloadN X0.here hx rfl (hb hby d1_22) rfl ?_
    show Steps p.tables e below (s₁.setTop (mkF m 23 #[.val (.int p1), .val (.int p2), .val (.int (p1 &&& (7 : Int32)))] [(.int (p1 &&& (7 : Int32)))])) _
    refine XS.iconst X0.here hx rfl (hb hby d1_23) ?_
    show Steps p.tables e below (s₁.setTop (mkF m 24 #[.val (.int p1), .val (.int p2), .val (.int (p1 &&& (7 : Int32)))] [(.int (2 : Int32)), (.int (p1 &&& (7 : Int32)))])) _
    refine XS.icmpYes X0.here hx rfl (pc0 := 24) (pc' := 31) rfl (hb hby d1_24) rfl (feq hc24).2 (by decide) (by decide) ?_
    show Steps p.tables e below (s₁.setTop (mkF m 31 #[.val (.int p1), .val (.int p2), .val (.int (p1 &&& (7 : Int32)))] [])) _
    refine XS.iloadN X0.here hx rfl (hb hby d1_31) rfl ?_
    show Steps p.tables e below (s₁.setTop (mkF m 32 #[.val (.int p1), .val (.int p2), .val (.int (p1 &&& (7 : Int32)))] [(.int (p1 &&& (7 : Int32)))])) _
    refine XS.iconst X0.here hx rfl (hb hby d1_32) ?_
    show Steps p.tables e below (s₁.setTop (mkF m 33 #[.val (.int p1), .val (.int p2), .val (.int (p1 &&& (7 : Int32)))] [(.int (3 : Int32)), (.int (p1 &&& (7 : Int32)))])) _
    refine XS.icmpYes X0.here hx rfl (pc0 := 33) (pc' := 40) rfl (hb hby d1_33) rfl (feq hc33).2 (by decide) (by decide) ?_
    show Steps p.tables e below (s₁.setTop (mkF m 40 #[.val (.int p1), .val (.int p2), .val (.int (p1 &&& (7 : Int32)))] [])) _
    refine XS.iloadN X0.here hx rfl (hb hby d1_40) rfl ?_
    show Steps p.tables e below (s₁.setTop (mkF m 41 #[.val (.int p1), .val (.int p2), .val (.int (p1 &&& (7 : Int32)))] [(.int (p1 &&& (7 : Int32)))])) _
    refine XS.iconst X0.here hx rfl (hb hby d1_41) ?_
    show Steps p.tables e below (s₁.setTop (mkF m 42 #[.val (.int p1), .val (.int p2), .val (.int (p1 &&& (7 : Int32)))] [(.int (4 : Int32)), (.int (p1 &&& (7 : Int32)))])) _
    refine XS.icmpNo X0.here hx rfl (hb hby d1_42) rfl (teq hc42).2 ?_
    show Steps p.tables e below (s₁.setTop (mkF m 45 #[.val (.int p1), .val (.int p2), .val (.int (p1 &&& (7 : Int32)))] [])) _
    refine XS.sipush X0.here hx rfl (hb hby d1_45) ?_
    show Steps p.tables e below (s₁.setTop (mkF m 48 #[.val (.int p1), .val (.int p2), .val (.int (p1 &&& (7 : Int32)))] [(.int (500 : Int32))])) _
    exact retI X0 hx Bd.returns (hb hby d1_48) hr
  · show Q1 h0 n0 _ s₁.heap _
    rw [e0]
    exact ⟨_, rfl, N0, rfl⟩
theorem d1_49 : decode method_3_code 49 = .ok (.iload_n 2, 1) := by decide +kernel
theorem d1_50 : decode method_3_code 50 = .ok (.iconst 5, 1) := by decide +kernel
theorem d1_51 : decode method_3_code 51 = .ok (.if_icmp .ne 7, 3) := by decide +kernel
theorem d1_54 : decode method_3_code 54 = .ok (.sipush 503, 3) := by decide +kernel
theorem d1_57 : decode method_3_code 57 = .ok (.ireturn, 1) := by decide +kernel
set_option maxRecDepth 65536 in
set_option maxHeartbeats 40000000 in
theorem rm1_tttttf (l : Launch) (Z : State) (a0 : Array Value) (hw : ∀ d ∈ tables_1, d.before a0 Z = true) (ws : List Jvm.Cond) (p1 : Int32) (p2 : Int32) (h0 : Heap) (n0 : Nat) (Z0 : n0 ≤ h0.size) (hc6 : ¬ ((p1 &&& (7 : Int32)) = (0 : Int32))) (hc15 : ¬ ((p1 &&& (7 : Int32)) = (1 : Int32))) (hc24 : ¬ ((p1 &&& (7 : Int32)) = (2 : Int32))) (hc33 : ¬ ((p1 &&& (7 : Int32)) = (3 : Int32))) (hc42 : ¬ ((p1 &&& (7 : Int32)) = (4 : Int32))) (hc51 : (p1 &&& (7 : Int32)) = (5 : Int32)) :
    MetFree l (⟨"com/example/wepwawet/wepwawet/server/StatusForHttpCodePinLaw", "pick", "(II)I"⟩ : MethodName) (head1 (Jvm.Cond.code (⟨"com/example/wepwawet/wepwawet/server/StatusForHttpCodePinLaw", "pick", "(II)I"⟩ : MethodName) method_3_code 3 (some .int) :: ws) ({ frames := 0, cells := 0, slots := 0, locals := 0 } : Room)) (fun a U => a = #[(.int p1), (.int p2)] ∧ Z.Warmed39 U.vm ∧ U.heap = h0) (fun _ _ _ _ _ => True) (fun _ U o U' => ∃ v L, o = .returned v ∧ Q1 h0 n0 v U'.heap L ∧ FrameEnd U o U' L ({ frames := 0, cells := 0, slots := 0, locals := 0 } : Room).cells ({ frames := 0, cells := 0, slots := 0, locals := 0 } : Room).slots) := by
  refine MetFree.of_bodySF (plainFor_of_name pn_1) hisR ?_
  intro p e s m args below meth c s₁ Bd hml0 hP hK
  obtain ⟨rfl, hZ, hh⟩ := hP
  have hx := Bd.exec
  have hby := Bd.bytes
  have hml : c.maxLocals = 3 := hml0
  have hown : s.vm.findClass "com/example/wepwawet/wepwawet/server/StatusForHttpCodePinLaw" = some m.cls := findClass_of_methodNamed Bd.named
  have hnm := (name_of_methodNamed Bd.named Bd.method).1
  have X0 : Stand p l e ({ frames := 0, cells := 0, slots := 0, locals := 0 } : Room) s m #[(.int p1), (.int p2)] below meth c s₁ [] 0 0 := Stand.of_body Bd
  have e0 : s₁.heap = h0 := by rw [← hh, Bd.state]; rfl
  have N0 := Fr.nil n0
  have pre0 : ∀ t, Steps p.tables e below (s₁.setTop (mkF m 0 #[.val (.int p1), .val (.int p2), .unset] [])) t → Steps p.tables e below (s₁.setTop (entryFrame m #[(.int p1), (.int p2)] 3)) t := fun t k => castTop (ef_1 m p1 p2) k

  obtain ⟨fs, hr, hrun, hended, hW, hsame⟩ := X0.leave (v := some (.int (503 : Int32))) (fun h => by rw [Bd.returns] at h; cases h)
  refine ⟨_, _, pre0 _ ?_, hrun, hended, _, _, rfl, ?_, ⟨_, rfl⟩, hW, hsame.mono (by decide) (by decide)⟩
  · show Steps p.tables e below (s₁.setTop (mkF m 0 #[.val (.int p1), .val (.int p2), .unset] [])) _
    refine XS.iloadN X0.here hx rfl (hb hby d1_0) rfl ?_
    show Steps p.tables e below (s₁.setTop (mkF m 1 #[.val (.int p1), .val (.int p2), .unset] [(.int p1)])) _
    refine XS.bipush X0.here hx rfl (hb hby d1_1) ?_
    show Steps p.tables e below (s₁.setTop (mkF m 3 #[.val (.int p1), .val (.int p2), .unset] [(.int (7 : Int32)), (.int p1)])) _
    refine XS.iand X0.here hx rfl (hb hby d1_3) rfl ?_
    show Steps p.tables e below (s₁.setTop (mkF m 4 #[.val (.int p1), .val (.int p2), .unset] [(.int (p1 &&& (7 : Int32)))])) _
    refine XS.istoreN X0.here hx rfl (hb hby d1_4) rfl (l' := #[.val (.int p1), .val (.int p2), .val (.int (p1 &&& (7 : Int32)))]) rfl ?_
    show Steps p.tables e below (s₁.setTop (mkF m 5 #[.val (.int p1), .val (.int p2), .val (.int (p1 &&& (7 : Int32)))] [])) _
    refine XS.iloadN X0.here hx rfl (hb hby d1_5) rfl ?_
    show Steps p.tables e below (s₁.setTop (mkF m 6 #[.val (.int p1), .val (.int p2), .val (.int (p1 &&& (7 : Int32)))] [(.int (p1 &&& (7 : Int32)))])) _
    refine XS.ifYes X0.here hx rfl (pc0 := 6) (pc' := 13) rfl (hb hby d1_6) rfl ((if0 _ _).trans (feq hc6).2) (by decide) (by decide) ?_
    show Steps p.tables e below (s₁.setTop (mkF m 13 #[.val (.int p1), .val (.int p2), .val (.int (p1 &&& (7 : Int32)))] [])) _
    refine XS.iloadN X0.here hx rfl (hb hby d1_13) rfl ?_
    show Steps p.tables e below (s₁.setTop (mkF m 14 #[.val (.int p1), .val (.int p2), .val (.int (p1 &&& (7 : Int32)))] [(.int (p1 &&& (7 : Int32)))])) _
    refine XS.iconst X0.here hx rfl (hb hby d1_14) ?_
    show Steps p.tables e below (s₁.setTop (mkF m 15 #[.val (.int p1), .val (.int p2), .val (.int (p1 &&& (7 : Int32)))] [(.int (1 : Int32)), (.int (p1 &&& (7 : Int32)))])) _
    refine XS.icmpYes X0.here hx rfl (pc0 := 15) (pc' := 22) rfl (hb hby d1_15) rfl (feq hc15).2 (by decide) (by decide) ?_
    show Steps p.tables e below (s₁.setTop (mkF m 22 #[.val (.int p1), .val (.int p2), .val (.int (p1 &&& (7 : Int32)))] [])) _
    refine XS.iloadN X0.here hx rfl (hb hby d1_22) rfl ?_
    show Steps p.tables e below (s₁.setTop (mkF m 23 #[.val (.int p1), .val (.int p2), .val (.int (p1 &&& (7 : Int32)))] [(.int (p1 &&& (7 : Int32)))])) _
    refine XS.iconst X0.here hx rfl (hb hby d1_23) ?_
    show Steps p.tables e below (s₁.setTop (mkF m 24 #[.val (.int p1), .val (.int p2), .val (.int (p1 &&& (7 : Int32)))] [(.int (2 : Int32)), (.int (p1 &&& (7 : Int32)))])) _
    refine XS.icmpYes X0.here hx rfl (pc0 := 24) (pc' := 31) rfl (hb hby d1_24) rfl (feq hc24).2 (by decide) (by decide) ?_
    show Steps p.tables e below (s₁.setTop (mkF m 31 #[.val (.int p1), .val (.int p2), .val (.int (p1 &&& (7 : Int32)))] [])) _
    refine XS.iloadN X0.here hx rfl (hb hby d1_31) rfl ?_
    show Steps p.tables e below (s₁.setTop (mkF m 32 #[.val (.int p1), .val (.int p2), .val (.int (p1 &&& (7 : Int32)))] [(.int (p1 &&& (7 : Int32)))])) _
    refine XS.iconst X0.here hx rfl (hb hby d1_32) ?_
    show Steps p.tables e below (s₁.setTop (mkF m 33 #[.val (.int p1), .val (.int p2), .val (.int (p1 &&& (7 : Int32)))] [(.int (3 : Int32)), (.int (p1 &&& (7 : Int32)))])) _
    refine XS.icmpYes X0.here hx rfl (pc0 := 33) (pc' := 40) rfl (hb hby d1_33) rfl (feq hc33).2 (by decide) (by decide) ?_
    show Steps p.tables e below (s₁.setTop (mkF m 40 #[.val (.int p1), .val (.int p2), .val (.int (p1 &&& (7 : Int32)))] [])) _
    refine XS.iloadN X0.here hx rfl (hb hby d1_40) rfl ?_
    show Steps p.tables e below (s₁.setTop (mkF m 41 #[.val (.int p1), .val (.int p2), .val (.int (p1 &&& (7 : Int32)))] [(.int (p1 &&& (7 : Int32)))])) _
    refine XS.iconst X0.here hx rfl (hb hby d1_41) ?_
    show Steps p.tables e below (s₁.setTop (mkF m 42 #[.val (.int p1), .val (.int p2), .val (.int (p1 &&& (7 : Int32)))] [(.int (4 : Int32)), (.int (p1 &&& (7 : Int32)))])) _
    refine XS.icmpYes X0.here hx rfl (pc0 := 42) (pc' := 49) rfl (hb hby d1_42) rfl (feq hc42).2 (by decide) (by decide) ?_
    show Steps p.tables e below (s₁.setTop (mkF m 49 #[.val (.int p1), .val (.int p2), .val (.int (p1 &&& (7 : Int32)))] [])) _
    refine XS.iloadN X0.here hx rfl (hb hby d1_49) rfl ?_
    show Steps p.tables e below (s₁.setTop (mkF m 50 #[.val (.int p1), .val (.int p2), .val (.int (p1 &&& (7 : Int32)))] [(.int (p1 &&& (7 : Int32)))])) _
    refine XS.iconst X0.here hx rfl (hb hby d1_50) ?_
    show Steps p.tables e below (s₁.setTop (mkF m 51 #[.val (.int p1), .val (.int p2), .val (.int (p1 &&& (7 : Int32)))] [(.int (5 : Int32)), (.int (p1 &&& (7 : Int32)))])) _
    refine XS.icmpNo X0.here hx rfl (hb hby d1_51) rfl (teq hc51).2 ?_
    show Steps p.tables e below (s₁.setTop (mkF m 54 #[.val (.int p1), .val (.int p2), .val (.int (p1 &&& (7 : Int32)))] [])) _
    refine XS.sipush X0.here hx rfl (hb hby d1_54) ?_
    show Steps p.tables e below (s₁.setTop (mkF m 57 #[.val (.int p1), .val (.int p2), .val (.int (p1 &&& (7 : Int32)))] [(.int (503 : Int32))])) _
    exact retI X0 hx Bd.returns (hb hby d1_57) hr
  · show Q1 h0 n0 _ s₁.heap _
    rw [e0]
    exact ⟨_, rfl, N0, rfl⟩
theorem d1_58 : decode method_3_code 58 = .ok (.iload_n 2, 1) := by decide +kernel
theorem d1_59 : decode method_3_code 59 = .ok (.bipush 6, 2) := by decide +kernel
theorem d1_61 : decode method_3_code 61 = .ok (.if_icmp .ne 5, 3) := by decide +kernel
theorem d1_64 : decode method_3_code 64 = .ok (.iload_n 1, 1) := by decide +kernel
theorem d1_65 : decode method_3_code 65 = .ok (.ireturn, 1) := by decide +kernel
set_option maxRecDepth 65536 in
set_option maxHeartbeats 40000000 in
theorem rm1_ttttttf (l : Launch) (Z : State) (a0 : Array Value) (hw : ∀ d ∈ tables_1, d.before a0 Z = true) (ws : List Jvm.Cond) (p1 : Int32) (p2 : Int32) (h0 : Heap) (n0 : Nat) (Z0 : n0 ≤ h0.size) (hc6 : ¬ ((p1 &&& (7 : Int32)) = (0 : Int32))) (hc15 : ¬ ((p1 &&& (7 : Int32)) = (1 : Int32))) (hc24 : ¬ ((p1 &&& (7 : Int32)) = (2 : Int32))) (hc33 : ¬ ((p1 &&& (7 : Int32)) = (3 : Int32))) (hc42 : ¬ ((p1 &&& (7 : Int32)) = (4 : Int32))) (hc51 : ¬ ((p1 &&& (7 : Int32)) = (5 : Int32))) (hc61 : (p1 &&& (7 : Int32)) = (6 : Int32)) :
    MetFree l (⟨"com/example/wepwawet/wepwawet/server/StatusForHttpCodePinLaw", "pick", "(II)I"⟩ : MethodName) (head1 (Jvm.Cond.code (⟨"com/example/wepwawet/wepwawet/server/StatusForHttpCodePinLaw", "pick", "(II)I"⟩ : MethodName) method_3_code 3 (some .int) :: ws) ({ frames := 0, cells := 0, slots := 0, locals := 0 } : Room)) (fun a U => a = #[(.int p1), (.int p2)] ∧ Z.Warmed39 U.vm ∧ U.heap = h0) (fun _ _ _ _ _ => True) (fun _ U o U' => ∃ v L, o = .returned v ∧ Q1 h0 n0 v U'.heap L ∧ FrameEnd U o U' L ({ frames := 0, cells := 0, slots := 0, locals := 0 } : Room).cells ({ frames := 0, cells := 0, slots := 0, locals := 0 } : Room).slots) := by
  refine MetFree.of_bodySF (plainFor_of_name pn_1) hisR ?_
  intro p e s m args below meth c s₁ Bd hml0 hP hK
  obtain ⟨rfl, hZ, hh⟩ := hP
  have hx := Bd.exec
  have hby := Bd.bytes
  have hml : c.maxLocals = 3 := hml0
  have hown : s.vm.findClass "com/example/wepwawet/wepwawet/server/StatusForHttpCodePinLaw" = some m.cls := findClass_of_methodNamed Bd.named
  have hnm := (name_of_methodNamed Bd.named Bd.method).1
  have X0 : Stand p l e ({ frames := 0, cells := 0, slots := 0, locals := 0 } : Room) s m #[(.int p1), (.int p2)] below meth c s₁ [] 0 0 := Stand.of_body Bd
  have e0 : s₁.heap = h0 := by rw [← hh, Bd.state]; rfl
  have N0 := Fr.nil n0
  have pre0 : ∀ t, Steps p.tables e below (s₁.setTop (mkF m 0 #[.val (.int p1), .val (.int p2), .unset] [])) t → Steps p.tables e below (s₁.setTop (entryFrame m #[(.int p1), (.int p2)] 3)) t := fun t k => castTop (ef_1 m p1 p2) k

  obtain ⟨fs, hr, hrun, hended, hW, hsame⟩ := X0.leave (v := some (.int p2)) (fun h => by rw [Bd.returns] at h; cases h)
  refine ⟨_, _, pre0 _ ?_, hrun, hended, _, _, rfl, ?_, ⟨_, rfl⟩, hW, hsame.mono (by decide) (by decide)⟩
  · show Steps p.tables e below (s₁.setTop (mkF m 0 #[.val (.int p1), .val (.int p2), .unset] [])) _
    refine XS.iloadN X0.here hx rfl (hb hby d1_0) rfl ?_
    show Steps p.tables e below (s₁.setTop (mkF m 1 #[.val (.int p1), .val (.int p2), .unset] [(.int p1)])) _
    refine XS.bipush X0.here hx rfl (hb hby d1_1) ?_
    show Steps p.tables e below (s₁.setTop (mkF m 3 #[.val (.int p1), .val (.int p2), .unset] [(.int (7 : Int32)), (.int p1)])) _
    refine XS.iand X0.here hx rfl (hb hby d1_3) rfl ?_
    show Steps p.tables e below (s₁.setTop (mkF m 4 #[.val (.int p1), .val (.int p2), .unset] [(.int (p1 &&& (7 : Int32)))])) _
    refine XS.istoreN X0.here hx rfl (hb hby d1_4) rfl (l' := #[.val (.int p1), .val (.int p2), .val (.int (p1 &&& (7 : Int32)))]) rfl ?_
    show Steps p.tables e below (s₁.setTop (mkF m 5 #[.val (.int p1), .val (.int p2), .val (.int (p1 &&& (7 : Int32)))] [])) _
    refine XS.iloadN X0.here hx rfl (hb hby d1_5) rfl ?_
    show Steps p.tables e below (s₁.setTop (mkF m 6 #[.val (.int p1), .val (.int p2), .val (.int (p1 &&& (7 : Int32)))] [(.int (p1 &&& (7 : Int32)))])) _
    refine XS.ifYes X0.here hx rfl (pc0 := 6) (pc' := 13) rfl (hb hby d1_6) rfl ((if0 _ _).trans (feq hc6).2) (by decide) (by decide) ?_
    show Steps p.tables e below (s₁.setTop (mkF m 13 #[.val (.int p1), .val (.int p2), .val (.int (p1 &&& (7 : Int32)))] [])) _
    refine XS.iloadN X0.here hx rfl (hb hby d1_13) rfl ?_
    show Steps p.tables e below (s₁.setTop (mkF m 14 #[.val (.int p1), .val (.int p2), .val (.int (p1 &&& (7 : Int32)))] [(.int (p1 &&& (7 : Int32)))])) _
    refine XS.iconst X0.here hx rfl (hb hby d1_14) ?_
    show Steps p.tables e below (s₁.setTop (mkF m 15 #[.val (.int p1), .val (.int p2), .val (.int (p1 &&& (7 : Int32)))] [(.int (1 : Int32)), (.int (p1 &&& (7 : Int32)))])) _
    refine XS.icmpYes X0.here hx rfl (pc0 := 15) (pc' := 22) rfl (hb hby d1_15) rfl (feq hc15).2 (by decide) (by decide) ?_
    show Steps p.tables e below (s₁.setTop (mkF m 22 #[.val (.int p1), .val (.int p2), .val (.int (p1 &&& (7 : Int32)))] [])) _
    refine XS.iloadN X0.here hx rfl (hb hby d1_22) rfl ?_
    show Steps p.tables e below (s₁.setTop (mkF m 23 #[.val (.int p1), .val (.int p2), .val (.int (p1 &&& (7 : Int32)))] [(.int (p1 &&& (7 : Int32)))])) _
    refine XS.iconst X0.here hx rfl (hb hby d1_23) ?_
    show Steps p.tables e below (s₁.setTop (mkF m 24 #[.val (.int p1), .val (.int p2), .val (.int (p1 &&& (7 : Int32)))] [(.int (2 : Int32)), (.int (p1 &&& (7 : Int32)))])) _
    refine XS.icmpYes X0.here hx rfl (pc0 := 24) (pc' := 31) rfl (hb hby d1_24) rfl (feq hc24).2 (by decide) (by decide) ?_
    show Steps p.tables e below (s₁.setTop (mkF m 31 #[.val (.int p1), .val (.int p2), .val (.int (p1 &&& (7 : Int32)))] [])) _
    refine XS.iloadN X0.here hx rfl (hb hby d1_31) rfl ?_
    show Steps p.tables e below (s₁.setTop (mkF m 32 #[.val (.int p1), .val (.int p2), .val (.int (p1 &&& (7 : Int32)))] [(.int (p1 &&& (7 : Int32)))])) _
    refine XS.iconst X0.here hx rfl (hb hby d1_32) ?_
    show Steps p.tables e below (s₁.setTop (mkF m 33 #[.val (.int p1), .val (.int p2), .val (.int (p1 &&& (7 : Int32)))] [(.int (3 : Int32)), (.int (p1 &&& (7 : Int32)))])) _
    refine XS.icmpYes X0.here hx rfl (pc0 := 33) (pc' := 40) rfl (hb hby d1_33) rfl (feq hc33).2 (by decide) (by decide) ?_
    show Steps p.tables e below (s₁.setTop (mkF m 40 #[.val (.int p1), .val (.int p2), .val (.int (p1 &&& (7 : Int32)))] [])) _
    refine XS.iloadN X0.here hx rfl (hb hby d1_40) rfl ?_
    show Steps p.tables e below (s₁.setTop (mkF m 41 #[.val (.int p1), .val (.int p2), .val (.int (p1 &&& (7 : Int32)))] [(.int (p1 &&& (7 : Int32)))])) _
    refine XS.iconst X0.here hx rfl (hb hby d1_41) ?_
    show Steps p.tables e below (s₁.setTop (mkF m 42 #[.val (.int p1), .val (.int p2), .val (.int (p1 &&& (7 : Int32)))] [(.int (4 : Int32)), (.int (p1 &&& (7 : Int32)))])) _
    refine XS.icmpYes X0.here hx rfl (pc0 := 42) (pc' := 49) rfl (hb hby d1_42) rfl (feq hc42).2 (by decide) (by decide) ?_
    show Steps p.tables e below (s₁.setTop (mkF m 49 #[.val (.int p1), .val (.int p2), .val (.int (p1 &&& (7 : Int32)))] [])) _
    refine XS.iloadN X0.here hx rfl (hb hby d1_49) rfl ?_
    show Steps p.tables e below (s₁.setTop (mkF m 50 #[.val (.int p1), .val (.int p2), .val (.int (p1 &&& (7 : Int32)))] [(.int (p1 &&& (7 : Int32)))])) _
    refine XS.iconst X0.here hx rfl (hb hby d1_50) ?_
    show Steps p.tables e below (s₁.setTop (mkF m 51 #[.val (.int p1), .val (.int p2), .val (.int (p1 &&& (7 : Int32)))] [(.int (5 : Int32)), (.int (p1 &&& (7 : Int32)))])) _
    refine XS.icmpYes X0.here hx rfl (pc0 := 51) (pc' := 58) rfl (hb hby d1_51) rfl (feq hc51).2 (by decide) (by decide) ?_
    show Steps p.tables e below (s₁.setTop (mkF m 58 #[.val (.int p1), .val (.int p2), .val (.int (p1 &&& (7 : Int32)))] [])) _
    refine XS.iloadN X0.here hx rfl (hb hby d1_58) rfl ?_
    show Steps p.tables e below (s₁.setTop (mkF m 59 #[.val (.int p1), .val (.int p2), .val (.int (p1 &&& (7 : Int32)))] [(.int (p1 &&& (7 : Int32)))])) _
    refine XS.bipush X0.here hx rfl (hb hby d1_59) ?_
    show Steps p.tables e below (s₁.setTop (mkF m 61 #[.val (.int p1), .val (.int p2), .val (.int (p1 &&& (7 : Int32)))] [(.int (6 : Int32)), (.int (p1 &&& (7 : Int32)))])) _
    refine XS.icmpNo X0.here hx rfl (hb hby d1_61) rfl (teq hc61).2 ?_
    show Steps p.tables e below (s₁.setTop (mkF m 64 #[.val (.int p1), .val (.int p2), .val (.int (p1 &&& (7 : Int32)))] [])) _
    refine XS.iloadN X0.here hx rfl (hb hby d1_64) rfl ?_
    show Steps p.tables e below (s₁.setTop (mkF m 65 #[.val (.int p1), .val (.int p2), .val (.int (p1 &&& (7 : Int32)))] [(.int p2)])) _
    exact retI X0 hx Bd.returns (hb hby d1_65) hr
  · show Q1 h0 n0 _ s₁.heap _
    rw [e0]
    exact ⟨_, rfl, N0, rfl⟩
theorem d1_66 : decode method_3_code 66 = .ok (.sipush 390, 3) := by decide +kernel
theorem d1_69 : decode method_3_code 69 = .ok (.iload_n 1, 1) := by decide +kernel
theorem d1_70 : decode method_3_code 70 = .ok (.ldc 28, 2) := by decide +kernel
theorem d1_72 : decode method_3_code 72 = .ok (.iand, 1) := by decide +kernel
theorem d1_73 : decode method_3_code 73 = .ok (.sipush 130, 3) := by decide +kernel
theorem d1_76 : decode method_3_code 76 = .ok (.irem, 1) := by decide +kernel
theorem d1_77 : decode method_3_code 77 = .ok (.iadd, 1) := by decide +kernel
theorem d1_78 : decode method_3_code 78 = .ok (.ireturn, 1) := by decide +kernel
set_option maxRecDepth 65536 in
set_option maxHeartbeats 40000000 in
theorem rm1_ttttttt (l : Launch) (Z : State) (a0 : Array Value) (hw : ∀ d ∈ tables_1, d.before a0 Z = true) (ws : List Jvm.Cond) (p1 : Int32) (p2 : Int32) (h0 : Heap) (n0 : Nat) (Z0 : n0 ≤ h0.size) (hc6 : ¬ ((p1 &&& (7 : Int32)) = (0 : Int32))) (hc15 : ¬ ((p1 &&& (7 : Int32)) = (1 : Int32))) (hc24 : ¬ ((p1 &&& (7 : Int32)) = (2 : Int32))) (hc33 : ¬ ((p1 &&& (7 : Int32)) = (3 : Int32))) (hc42 : ¬ ((p1 &&& (7 : Int32)) = (4 : Int32))) (hc51 : ¬ ((p1 &&& (7 : Int32)) = (5 : Int32))) (hc61 : ¬ ((p1 &&& (7 : Int32)) = (6 : Int32))) :
    MetFree l (⟨"com/example/wepwawet/wepwawet/server/StatusForHttpCodePinLaw", "pick", "(II)I"⟩ : MethodName) (head1 (Jvm.Cond.code (⟨"com/example/wepwawet/wepwawet/server/StatusForHttpCodePinLaw", "pick", "(II)I"⟩ : MethodName) method_3_code 3 (some .int) :: ws) ({ frames := 0, cells := 0, slots := 0, locals := 0 } : Room)) (fun a U => a = #[(.int p1), (.int p2)] ∧ Z.Warmed39 U.vm ∧ U.heap = h0) (fun _ _ _ _ _ => True) (fun _ U o U' => ∃ v L, o = .returned v ∧ Q1 h0 n0 v U'.heap L ∧ FrameEnd U o U' L ({ frames := 0, cells := 0, slots := 0, locals := 0 } : Room).cells ({ frames := 0, cells := 0, slots := 0, locals := 0 } : Room).slots) := by
  refine MetFree.of_bodySF (plainFor_of_name pn_1) hisR ?_
  intro p e s m args below meth c s₁ Bd hml0 hP hK
  obtain ⟨rfl, hZ, hh⟩ := hP
  have hx := Bd.exec
  have hby := Bd.bytes
  have hml : c.maxLocals = 3 := hml0
  have hown : s.vm.findClass "com/example/wepwawet/wepwawet/server/StatusForHttpCodePinLaw" = some m.cls := findClass_of_methodNamed Bd.named
  have hnm := (name_of_methodNamed Bd.named Bd.method).1
  have X0 : Stand p l e ({ frames := 0, cells := 0, slots := 0, locals := 0 } : Room) s m #[(.int p1), (.int p2)] below meth c s₁ [] 0 0 := Stand.of_body Bd
  have e0 : s₁.heap = h0 := by rw [← hh, Bd.state]; rfl
  have N0 := Fr.nil n0
  have pre0 : ∀ t, Steps p.tables e below (s₁.setTop (mkF m 0 #[.val (.int p1), .val (.int p2), .unset] [])) t → Steps p.tables e below (s₁.setTop (entryFrame m #[(.int p1), (.int p2)] 3)) t := fun t k => castTop (ef_1 m p1 p2) k

  obtain ⟨fs, hr, hrun, hended, hW, hsame⟩ := X0.leave (v := some (.int ((390 : Int32) + ((p2 &&& (2147483647 : Int32)) % (130 : Int32))))) (fun h => by rw [Bd.returns] at h; cases h)
  refine ⟨_, _, pre0 _ ?_, hrun, hended, _, _, rfl, ?_, ⟨_, rfl⟩, hW, hsame.mono (by decide) (by decide)⟩
  · show Steps p.tables e below (s₁.setTop (mkF m 0 #[.val (.int p1), .val (.int p2), .unset] [])) _
    refine XS.iloadN X0.here hx rfl (hb hby d1_0) rfl ?_
    show Steps p.tables e below (s₁.setTop (mkF m 1 #[.val (.int p1), .val (.int p2), .unset] [(.int p1)])) _
    refine XS.bipush X0.here hx rfl (hb hby d1_1) ?_
    show Steps p.tables e below (s₁.setTop (mkF m 3 #[.val (.int p1), .val (.int p2), .unset] [(.int (7 : Int32)), (.int p1)])) _
    refine XS.iand X0.here hx rfl (hb hby d1_3) rfl ?_
    show Steps p.tables e below (s₁.setTop (mkF m 4 #[.val (.int p1), .val (.int p2), .unset] [(.int (p1 &&& (7 : Int32)))])) _
    refine XS.istoreN X0.here hx rfl (hb hby d1_4) rfl (l' := #[.val (.int p1), .val (.int p2), .val (.int (p1 &&& (7 : Int32)))]) rfl ?_
    show Steps p.tables e below (s₁.setTop (mkF m 5 #[.val (.int p1), .val (.int p2), .val (.int (p1 &&& (7 : Int32)))] [])) _
    refine XS.iloadN X0.here hx rfl (hb hby d1_5) rfl ?_
    show Steps p.tables e below (s₁.setTop (mkF m 6 #[.val (.int p1), .val (.int p2), .val (.int (p1 &&& (7 : Int32)))] [(.int (p1 &&& (7 : Int32)))])) _
    refine XS.ifYes X0.here hx rfl (pc0 := 6) (pc' := 13) rfl (hb hby d1_6) rfl ((if0 _ _).trans (feq hc6).2) (by decide) (by decide) ?_
    show Steps p.tables e below (s₁.setTop (mkF m 13 #[.val (.int p1), .val (.int p2), .val (.int (p1 &&& (7 : Int32)))] [])) _
    refine XS.iloadN X0.here hx rfl (hb hby d1_13) rfl ?_
    show Steps p.tables e below (s₁.setTop (mkF m 14 #[.val (.int p1), .val (.int p2), .val (.int (p1 &&& (7 : Int32)))] [(.int (p1 &&& (7 : Int32)))])) _
    refine XS.iconst X0.here hx rfl (hb hby d1_14) ?_
    show Steps p.tables e below (s₁.setTop (mkF m 15 #[.val (.int p1), .val (.int p2), .val (.int (p1 &&& (7 : Int32)))] [(.int (1 : Int32)), (.int (p1 &&& (7 : Int32)))])) _
    refine XS.icmpYes X0.here hx rfl (pc0 := 15) (pc' := 22) rfl (hb hby d1_15) rfl (feq hc15).2 (by decide) (by decide) ?_
    show Steps p.tables e below (s₁.setTop (mkF m 22 #[.val (.int p1), .val (.int p2), .val (.int (p1 &&& (7 : Int32)))] [])) _
    refine XS.iloadN X0.here hx rfl (hb hby d1_22) rfl ?_
    show Steps p.tables e below (s₁.setTop (mkF m 23 #[.val (.int p1), .val (.int p2), .val (.int (p1 &&& (7 : Int32)))] [(.int (p1 &&& (7 : Int32)))])) _
    refine XS.iconst X0.here hx rfl (hb hby d1_23) ?_
    show Steps p.tables e below (s₁.setTop (mkF m 24 #[.val (.int p1), .val (.int p2), .val (.int (p1 &&& (7 : Int32)))] [(.int (2 : Int32)), (.int (p1 &&& (7 : Int32)))])) _
    refine XS.icmpYes X0.here hx rfl (pc0 := 24) (pc' := 31) rfl (hb hby d1_24) rfl (feq hc24).2 (by decide) (by decide) ?_
    show Steps p.tables e below (s₁.setTop (mkF m 31 #[.val (.int p1), .val (.int p2), .val (.int (p1 &&& (7 : Int32)))] [])) _
    refine XS.iloadN X0.here hx rfl (hb hby d1_31) rfl ?_
    show Steps p.tables e below (s₁.setTop (mkF m 32 #[.val (.int p1), .val (.int p2), .val (.int (p1 &&& (7 : Int32)))] [(.int (p1 &&& (7 : Int32)))])) _
    refine XS.iconst X0.here hx rfl (hb hby d1_32) ?_
    show Steps p.tables e below (s₁.setTop (mkF m 33 #[.val (.int p1), .val (.int p2), .val (.int (p1 &&& (7 : Int32)))] [(.int (3 : Int32)), (.int (p1 &&& (7 : Int32)))])) _
    refine XS.icmpYes X0.here hx rfl (pc0 := 33) (pc' := 40) rfl (hb hby d1_33) rfl (feq hc33).2 (by decide) (by decide) ?_
    show Steps p.tables e below (s₁.setTop (mkF m 40 #[.val (.int p1), .val (.int p2), .val (.int (p1 &&& (7 : Int32)))] [])) _
    refine XS.iloadN X0.here hx rfl (hb hby d1_40) rfl ?_
    show Steps p.tables e below (s₁.setTop (mkF m 41 #[.val (.int p1), .val (.int p2), .val (.int (p1 &&& (7 : Int32)))] [(.int (p1 &&& (7 : Int32)))])) _
    refine XS.iconst X0.here hx rfl (hb hby d1_41) ?_
    show Steps p.tables e below (s₁.setTop (mkF m 42 #[.val (.int p1), .val (.int p2), .val (.int (p1 &&& (7 : Int32)))] [(.int (4 : Int32)), (.int (p1 &&& (7 : Int32)))])) _
    refine XS.icmpYes X0.here hx rfl (pc0 := 42) (pc' := 49) rfl (hb hby d1_42) rfl (feq hc42).2 (by decide) (by decide) ?_
    show Steps p.tables e below (s₁.setTop (mkF m 49 #[.val (.int p1), .val (.int p2), .val (.int (p1 &&& (7 : Int32)))] [])) _
    refine XS.iloadN X0.here hx rfl (hb hby d1_49) rfl ?_
    show Steps p.tables e below (s₁.setTop (mkF m 50 #[.val (.int p1), .val (.int p2), .val (.int (p1 &&& (7 : Int32)))] [(.int (p1 &&& (7 : Int32)))])) _
    refine XS.iconst X0.here hx rfl (hb hby d1_50) ?_
    show Steps p.tables e below (s₁.setTop (mkF m 51 #[.val (.int p1), .val (.int p2), .val (.int (p1 &&& (7 : Int32)))] [(.int (5 : Int32)), (.int (p1 &&& (7 : Int32)))])) _
    refine XS.icmpYes X0.here hx rfl (pc0 := 51) (pc' := 58) rfl (hb hby d1_51) rfl (feq hc51).2 (by decide) (by decide) ?_
    show Steps p.tables e below (s₁.setTop (mkF m 58 #[.val (.int p1), .val (.int p2), .val (.int (p1 &&& (7 : Int32)))] [])) _
    refine XS.iloadN X0.here hx rfl (hb hby d1_58) rfl ?_
    show Steps p.tables e below (s₁.setTop (mkF m 59 #[.val (.int p1), .val (.int p2), .val (.int (p1 &&& (7 : Int32)))] [(.int (p1 &&& (7 : Int32)))])) _
    refine XS.bipush X0.here hx rfl (hb hby d1_59) ?_
    show Steps p.tables e below (s₁.setTop (mkF m 61 #[.val (.int p1), .val (.int p2), .val (.int (p1 &&& (7 : Int32)))] [(.int (6 : Int32)), (.int (p1 &&& (7 : Int32)))])) _
    refine XS.icmpYes X0.here hx rfl (pc0 := 61) (pc' := 66) rfl (hb hby d1_61) rfl (feq hc61).2 (by decide) (by decide) ?_
    show Steps p.tables e below (s₁.setTop (mkF m 66 #[.val (.int p1), .val (.int p2), .val (.int (p1 &&& (7 : Int32)))] [])) _
    refine XS.sipush X0.here hx rfl (hb hby d1_66) ?_
    show Steps p.tables e below (s₁.setTop (mkF m 69 #[.val (.int p1), .val (.int p2), .val (.int (p1 &&& (7 : Int32)))] [(.int (390 : Int32))])) _
    refine XS.iloadN X0.here hx rfl (hb hby d1_69) rfl ?_
    show Steps p.tables e below (s₁.setTop (mkF m 70 #[.val (.int p1), .val (.int p2), .val (.int (p1 &&& (7 : Int32)))] [(.int p2), (.int (390 : Int32))])) _
    refine X0.ldcInt hx hown (mvT hZ (hw _ (List.mem_of_getElem? (i := 38) rfl))) (g := (mkF m 70 #[.val (.int p1), .val (.int p2), .val (.int (p1 &&& (7 : Int32)))] [(.int p2), (.int (390 : Int32))])) rfl (hb hby d1_70) _ ?_
    show Steps p.tables e below (s₁.setTop (mkF m 72 #[.val (.int p1), .val (.int p2), .val (.int (p1 &&& (7 : Int32)))] [(.int (2147483647 : Int32)), (.int p2), (.int (390 : Int32))])) _
    refine XS.iand X0.here hx rfl (hb hby d1_72) rfl ?_
    show Steps p.tables e below (s₁.setTop (mkF m 73 #[.val (.int p1), .val (.int p2), .val (.int (p1 &&& (7 : Int32)))] [(.int (p2 &&& (2147483647 : Int32))), (.int (390 : Int32))])) _
    refine XS.sipush X0.here hx rfl (hb hby d1_73) ?_
    show Steps p.tables e below (s₁.setTop (mkF m 76 #[.val (.int p1), .val (.int p2), .val (.int (p1 &&& (7 : Int32)))] [(.int (130 : Int32)), (.int (p2 &&& (2147483647 : Int32))), (.int (390 : Int32))])) _
    refine iremM X0 hx rfl (hb hby d1_76) rfl (by decide) ?_
    show Steps p.tables e below (s₁.setTop (mkF m 77 #[.val (.int p1), .val (.int p2), .val (.int (p1 &&& (7 : Int32)))] [(.int ((p2 &&& (2147483647 : Int32)) % (130 : Int32))), (.int (390 : Int32))])) _
    refine XS.iadd X0.here hx rfl (hb hby d1_77) rfl ?_
    show Steps p.tables e below (s₁.setTop (mkF m 78 #[.val (.int p1), .val (.int p2), .val (.int (p1 &&& (7 : Int32)))] [(.int ((390 : Int32) + ((p2 &&& (2147483647 : Int32)) % (130 : Int32))))])) _
    exact retI X0 hx Bd.returns (hb hby d1_78) hr
  · show Q1 h0 n0 _ s₁.heap _
    rw [e0]
    exact ⟨_, rfl, N0, rfl⟩
theorem rm1 (l : Launch) (Z : State) (a0 : Array Value) (hw : ∀ d ∈ tables_1, d.before a0 Z = true) (ws : List Jvm.Cond) (p1 : Int32) (p2 : Int32) (h0 : Heap) (n0 : Nat) (Z0 : n0 ≤ h0.size) :
    MetFree l (⟨"com/example/wepwawet/wepwawet/server/StatusForHttpCodePinLaw", "pick", "(II)I"⟩ : MethodName) (head1 (Jvm.Cond.code (⟨"com/example/wepwawet/wepwawet/server/StatusForHttpCodePinLaw", "pick", "(II)I"⟩ : MethodName) method_3_code 3 (some .int) :: ws) ({ frames := 0, cells := 0, slots := 0, locals := 0 } : Room)) (fun a U => a = #[(.int p1), (.int p2)] ∧ Z.Warmed39 U.vm ∧ U.heap = h0) (fun _ _ _ _ _ => True) (fun _ U o U' => ∃ v L, o = .returned v ∧ Q1 h0 n0 v U'.heap L ∧ FrameEnd U o U' L ({ frames := 0, cells := 0, slots := 0, locals := 0 } : Room).cells ({ frames := 0, cells := 0, slots := 0, locals := 0 } : Room).slots) := by
  by_cases c0 : (p1 &&& (7 : Int32)) = 0
  · exact rm1_f l Z a0 hw ws p1 p2 h0 n0 Z0  c0
  by_cases c1 : (p1 &&& (7 : Int32)) = 1
  · exact rm1_tf l Z a0 hw ws p1 p2 h0 n0 Z0 c0 c1
  by_cases c2 : (p1 &&& (7 : Int32)) = 2
  · exact rm1_ttf l Z a0 hw ws p1 p2 h0 n0 Z0 c0 c1 c2
  by_cases c3 : (p1 &&& (7 : Int32)) = 3
  · exact rm1_tttf l Z a0 hw ws p1 p2 h0 n0 Z0 c0 c1 c2 c3
  by_cases c4 : (p1 &&& (7 : Int32)) = 4
  · exact rm1_ttttf l Z a0 hw ws p1 p2 h0 n0 Z0 c0 c1 c2 c3 c4
  by_cases c5 : (p1 &&& (7 : Int32)) = 5
  · exact rm1_tttttf l Z a0 hw ws p1 p2 h0 n0 Z0 c0 c1 c2 c3 c4 c5
  by_cases c6 : (p1 &&& (7 : Int32)) = 6
  · exact rm1_ttttttf l Z a0 hw ws p1 p2 h0 n0 Z0 c0 c1 c2 c3 c4 c5 c6
  exact rm1_ttttttt l Z a0 hw ws p1 p2 h0 n0 Z0 c0 c1 c2 c3 c4 c5 c6
theorem d4_0 : decode method_2_code 0 = .ok (.iload_n 0, 1) := by decide +kernel
theorem d4_1 : decode method_2_code 1 = .ok (.sipush 400, 3) := by decide +kernel
theorem d4_4 : decode method_2_code 4 = .ok (.if_icmp .ne 7, 3) := by decide +kernel
theorem d4_7 : decode method_2_code 7 = .ok (.getstatic 7, 3) := by decide +kernel
theorem d4_10 : decode method_2_code 10 = .ok (.areturn, 1) := by decide +kernel
theorem pn_4 : plainName "com/example/wepwawet/wepwawet/server/StatusForHttpCodePinLaw" = true := by first | (simp [plainName, overriddenIn]; done) | decide +kernel
theorem ef_4 (m : MethodId) (x0 : Int32) : entryFrame m #[(.int x0)] 1 = mkF m 0 #[.val (.int x0)] [] := by first | (simp [entryFrame, mkF, argsToLocals, Value.category]; done) | rfl
set_option maxRecDepth 65536 in
set_option maxHeartbeats 40000000 in
theorem rm4_f (l : Launch) (Z : State) (a0 : Array Value) (hw : ∀ d ∈ tables_1, d.before a0 Z = true) (ws : List Jvm.Cond) (p1 : Int32) (w2 : Addr) (h0 : Heap) (n0 : Nat) (Z0 : n0 ≤ h0.size) (S_INVALID_ARGUMENT : Sta Z h0 "com/example/wepwawet/wepwawet/server/Status" "INVALID_ARGUMENT" "Lcom/example/wepwawet/wepwawet/server/Status;" (.ref w2)) (hc4 : p1 = (400 : Int32)) :
    MetFree l (⟨"com/example/wepwawet/wepwawet/server/StatusForHttpCodePinLaw", "expected", "(I)Lcom/example/wepwawet/wepwawet/server/Status;"⟩ : MethodName) (head1 (Jvm.Cond.code (⟨"com/example/wepwawet/wepwawet/server/StatusForHttpCodePinLaw", "expected", "(I)Lcom/example/wepwawet/wepwawet/server/Status;"⟩ : MethodName) method_2_code 1 (some (.object "com/example/wepwawet/wepwawet/server/Status")) :: ws) ({ frames := 0, cells := 0, slots := 0, locals := 0 } : Room)) (fun a U => a = #[(.int p1)] ∧ Z.Warmed39 U.vm ∧ U.heap = h0) (fun _ _ _ _ _ => True) (fun _ U o U' => ∃ v L, o = .returned v ∧ Q4 w2 h0 n0 v U'.heap L ∧ FrameEnd U o U' L ({ frames := 0, cells := 0, slots := 0, locals := 0 } : Room).cells ({ frames := 0, cells := 0, slots := 0, locals := 0 } : Room).slots) := by
  refine MetFree.of_bodySF (plainFor_of_name pn_4) hisR ?_
  intro p e s m args below meth c s₁ Bd hml0 hP hK
  obtain ⟨rfl, hZ, hh⟩ := hP
  have hx := Bd.exec
  have hby := Bd.bytes
  have hml : c.maxLocals = 1 := hml0
  have hown : s.vm.findClass "com/example/wepwawet/wepwawet/server/StatusForHttpCodePinLaw" = some m.cls := findClass_of_methodNamed Bd.named
  have hnm := (name_of_methodNamed Bd.named Bd.method).1
  have X0 : Stand p l e ({ frames := 0, cells := 0, slots := 0, locals := 0 } : Room) s m #[(.int p1)] below meth c s₁ [] 0 0 := Stand.of_body Bd
  have e0 : s₁.heap = h0 := by rw [← hh, Bd.state]; rfl
  have N0 := Fr.nil n0
  have pre0 : ∀ t, Steps p.tables e below (s₁.setTop (mkF m 0 #[.val (.int p1)] [])) t → Steps p.tables e below (s₁.setTop (entryFrame m #[(.int p1)] 1)) t := fun t k => castTop (ef_4 m p1) k
  obtain ⟨T3, X3, e3, st3⟩ := getS2 X0 hx hZ hown (host := "") (Or.inl (hw _ (List.mem_of_getElem? (i := 34) rfl))) Via.refl e0 S_INVALID_ARGUMENT (g := (mkF m 7 #[.val (.int p1)] [])) rfl (hb hby d4_7)
  obtain ⟨fs, hr, hrun, hended, hW, hsame⟩ := X3.leave (v := some (.ref w2)) (fun h => by rw [Bd.returns] at h; cases h)
  refine ⟨_, _, pre0 _ ?_, hrun, hended, _, _, rfl, ?_, ⟨_, rfl⟩, hW, hsame.mono (by decide) (by decide)⟩
  · show Steps p.tables e below (s₁.setTop (mkF m 0 #[.val (.int p1)] [])) _
    refine XS.iloadN X0.here hx rfl (hb hby d4_0) rfl ?_
    show Steps p.tables e below (s₁.setTop (mkF m 1 #[.val (.int p1)] [(.int p1)])) _
    refine XS.sipush X0.here hx rfl (hb hby d4_1) ?_
    show Steps p.tables e below (s₁.setTop (mkF m 4 #[.val (.int p1)] [(.int (400 : Int32)), (.int p1)])) _
    refine XS.icmpNo X0.here hx rfl (hb hby d4_4) rfl (teq hc4).2 ?_
    show Steps p.tables e below (s₁.setTop (mkF m 7 #[.val (.int p1)] [])) _
    refine st3 _ ?_
    show Steps p.tables e below (T3.setTop (mkF m 10 #[.val (.int p1)] [(.ref w2)])) _
    jvm_step X3.here [X3.here.top, hx, (hb hby d4_10), X3.method', Bd.returns, Value.isRef, FieldType.isReference]
    first | (intro acts; rw [hr _ acts rfl rfl rfl]) | rw [hr _ _ rfl rfl rfl]
    exact Steps.refl _
  · show Q4 w2 h0 n0 _ T3.heap _
    rw [e3]
    exact ⟨rfl, N0, rfl⟩
theorem d4_11 : decode method_2_code 11 = .ok (.iload_n 0, 1) := by decide +kernel
theorem d4_12 : decode method_2_code 12 = .ok (.sipush 401, 3) := by decide +kernel
theorem d4_15 : decode method_2_code 15 = .ok (.if_icmp .ne 7, 3) := by decide +kernel
theorem d4_18 : decode method_2_code 18 = .ok (.getstatic 13, 3) := by decide +kernel
theorem d4_21 : decode method_2_code 21 = .ok (.areturn, 1) := by decide +kernel
set_option maxRecDepth 65536 in
set_option maxHeartbeats 40000000 in
theorem rm4_tf (l : Launch) (Z : State) (a0 : Array Value) (hw : ∀ d ∈ tables_1, d.before a0 Z = true) (ws : List Jvm.Cond) (p1 : Int32) (w2 : Addr) (h0 : Heap) (n0 : Nat) (Z0 : n0 ≤ h0.size) (S_UNAUTHENTICATED : Sta Z h0 "com/example/wepwawet/wepwawet/server/Status" "UNAUTHENTICATED" "Lcom/example/wepwawet/wepwawet/server/Status;" (.ref w2)) (hc4 : ¬ (p1 = (400 : Int32))) (hc15 : p1 = (401 : Int32)) :
    MetFree l (⟨"com/example/wepwawet/wepwawet/server/StatusForHttpCodePinLaw", "expected", "(I)Lcom/example/wepwawet/wepwawet/server/Status;"⟩ : MethodName) (head1 (Jvm.Cond.code (⟨"com/example/wepwawet/wepwawet/server/StatusForHttpCodePinLaw", "expected", "(I)Lcom/example/wepwawet/wepwawet/server/Status;"⟩ : MethodName) method_2_code 1 (some (.object "com/example/wepwawet/wepwawet/server/Status")) :: ws) ({ frames := 0, cells := 0, slots := 0, locals := 0 } : Room)) (fun a U => a = #[(.int p1)] ∧ Z.Warmed39 U.vm ∧ U.heap = h0) (fun _ _ _ _ _ => True) (fun _ U o U' => ∃ v L, o = .returned v ∧ Q4 w2 h0 n0 v U'.heap L ∧ FrameEnd U o U' L ({ frames := 0, cells := 0, slots := 0, locals := 0 } : Room).cells ({ frames := 0, cells := 0, slots := 0, locals := 0 } : Room).slots) := by
  refine MetFree.of_bodySF (plainFor_of_name pn_4) hisR ?_
  intro p e s m args below meth c s₁ Bd hml0 hP hK
  obtain ⟨rfl, hZ, hh⟩ := hP
  have hx := Bd.exec
  have hby := Bd.bytes
  have hml : c.maxLocals = 1 := hml0
  have hown : s.vm.findClass "com/example/wepwawet/wepwawet/server/StatusForHttpCodePinLaw" = some m.cls := findClass_of_methodNamed Bd.named
  have hnm := (name_of_methodNamed Bd.named Bd.method).1
  have X0 : Stand p l e ({ frames := 0, cells := 0, slots := 0, locals := 0 } : Room) s m #[(.int p1)] below meth c s₁ [] 0 0 := Stand.of_body Bd
  have e0 : s₁.heap = h0 := by rw [← hh, Bd.state]; rfl
  have N0 := Fr.nil n0
  have pre0 : ∀ t, Steps p.tables e below (s₁.setTop (mkF m 0 #[.val (.int p1)] [])) t → Steps p.tables e below (s₁.setTop (entryFrame m #[(.int p1)] 1)) t := fun t k => castTop (ef_4 m p1) k
  obtain ⟨T3, X3, e3, st3⟩ := getS2 X0 hx hZ hown (host := "") (Or.inl (hw _ (List.mem_of_getElem? (i := 40) rfl))) Via.refl e0 S_UNAUTHENTICATED (g := (mkF m 18 #[.val (.int p1)] [])) rfl (hb hby d4_18)
  obtain ⟨fs, hr, hrun, hended, hW, hsame⟩ := X3.leave (v := some (.ref w2)) (fun h => by rw [Bd.returns] at h; cases h)
  refine ⟨_, _, pre0 _ ?_, hrun, hended, _, _, rfl, ?_, ⟨_, rfl⟩, hW, hsame.mono (by decide) (by decide)⟩
  · show Steps p.tables e below (s₁.setTop (mkF m 0 #[.val (.int p1)] [])) _
    refine XS.iloadN X0.here hx rfl (hb hby d4_0) rfl ?_
    show Steps p.tables e below (s₁.setTop (mkF m 1 #[.val (.int p1)] [(.int p1)])) _
    refine XS.sipush X0.here hx rfl (hb hby d4_1) ?_
    show Steps p.tables e below (s₁.setTop (mkF m 4 #[.val (.int p1)] [(.int (400 : Int32)), (.int p1)])) _
    refine XS.icmpYes X0.here hx rfl (pc0 := 4) (pc' := 11) rfl (hb hby d4_4) rfl (feq hc4).2 (by decide) (by decide) ?_
    show Steps p.tables e below (s₁.setTop (mkF m 11 #[.val (.int p1)] [])) _
    refine XS.iloadN X0.here hx rfl (hb hby d4_11) rfl ?_
    show Steps p.tables e below (s₁.setTop (mkF m 12 #[.val (.int p1)] [(.int p1)])) _
    refine XS.sipush X0.here hx rfl (hb hby d4_12) ?_
    show Steps p.tables e below (s₁.setTop (mkF m 15 #[.val (.int p1)] [(.int (401 : Int32)), (.int p1)])) _
    refine XS.icmpNo X0.here hx rfl (hb hby d4_15) rfl (teq hc15).2 ?_
    show Steps p.tables e below (s₁.setTop (mkF m 18 #[.val (.int p1)] [])) _
    refine st3 _ ?_
    show Steps p.tables e below (T3.setTop (mkF m 21 #[.val (.int p1)] [(.ref w2)])) _
    jvm_step X3.here [X3.here.top, hx, (hb hby d4_21), X3.method', Bd.returns, Value.isRef, FieldType.isReference]
    first | (intro acts; rw [hr _ acts rfl rfl rfl]) | rw [hr _ _ rfl rfl rfl]
    exact Steps.refl _
  · show Q4 w2 h0 n0 _ T3.heap _
    rw [e3]
    exact ⟨rfl, N0, rfl⟩
theorem d4_22 : decode method_2_code 22 = .ok (.iload_n 0, 1) := by decide +kernel
theorem d4_23 : decode method_2_code 23 = .ok (.sipush 404, 3) := by decide +kernel
theorem d4_26 : decode method_2_code 26 = .ok (.if_icmp .ne 7, 3) := by decide +kernel
theorem d4_29 : decode method_2_code 29 = .ok (.getstatic 16, 3) := by decide +kernel
theorem d4_32 : decode method_2_code 32 = .ok (.areturn, 1) := by decide +kernel
set_option maxRecDepth 65536 in
set_option maxHeartbeats 40000000 in
theorem rm4_ttf (l : Launch) (Z : State) (a0 : Array Value) (hw : ∀ d ∈ tables_1, d.before a0 Z = true) (ws : List Jvm.Cond) (p1 : Int32) (w2 : Addr) (h0 : Heap) (n0 : Nat) (Z0 : n0 ≤ h0.size) (S_NOT_FOUND : Sta Z h0 "com/example/wepwawet/wepwawet/server/Status" "NOT_FOUND" "Lcom/example/wepwawet/wepwawet/server/Status;" (.ref w2)) (hc4 : ¬ (p1 = (400 : Int32))) (hc15 : ¬ (p1 = (401 : Int32))) (hc26 : p1 = (404 : Int32)) :
    MetFree l (⟨"com/example/wepwawet/wepwawet/server/StatusForHttpCodePinLaw", "expected", "(I)Lcom/example/wepwawet/wepwawet/server/Status;"⟩ : MethodName) (head1 (Jvm.Cond.code (⟨"com/example/wepwawet/wepwawet/server/StatusForHttpCodePinLaw", "expected", "(I)Lcom/example/wepwawet/wepwawet/server/Status;"⟩ : MethodName) method_2_code 1 (some (.object "com/example/wepwawet/wepwawet/server/Status")) :: ws) ({ frames := 0, cells := 0, slots := 0, locals := 0 } : Room)) (fun a U => a = #[(.int p1)] ∧ Z.Warmed39 U.vm ∧ U.heap = h0) (fun _ _ _ _ _ => True) (fun _ U o U' => ∃ v L, o = .returned v ∧ Q4 w2 h0 n0 v U'.heap L ∧ FrameEnd U o U' L ({ frames := 0, cells := 0, slots := 0, locals := 0 } : Room).cells ({ frames := 0, cells := 0, slots := 0, locals := 0 } : Room).slots) := by
  refine MetFree.of_bodySF (plainFor_of_name pn_4) hisR ?_
  intro p e s m args below meth c s₁ Bd hml0 hP hK
  obtain ⟨rfl, hZ, hh⟩ := hP
  have hx := Bd.exec
  have hby := Bd.bytes
  have hml : c.maxLocals = 1 := hml0
  have hown : s.vm.findClass "com/example/wepwawet/wepwawet/server/StatusForHttpCodePinLaw" = some m.cls := findClass_of_methodNamed Bd.named
  have hnm := (name_of_methodNamed Bd.named Bd.method).1
  have X0 : Stand p l e ({ frames := 0, cells := 0, slots := 0, locals := 0 } : Room) s m #[(.int p1)] below meth c s₁ [] 0 0 := Stand.of_body Bd
  have e0 : s₁.heap = h0 := by rw [← hh, Bd.state]; rfl
  have N0 := Fr.nil n0
  have pre0 : ∀ t, Steps p.tables e below (s₁.setTop (mkF m 0 #[.val (.int p1)] [])) t → Steps p.tables e below (s₁.setTop (entryFrame m #[(.int p1)] 1)) t := fun t k => castTop (ef_4 m p1) k
  obtain ⟨T3, X3, e3, st3⟩ := getS2 X0 hx hZ hown (host := "") (Or.inl (hw _ (List.mem_of_getElem? (i := 42) rfl))) Via.refl e0 S_NOT_FOUND (g := (mkF m 29 #[.val (.int p1)] [])) rfl (hb hby d4_29)
  obtain ⟨fs, hr, hrun, hended, hW, hsame⟩ := X3.leave (v := some (.ref w2)) (fun h => by rw [Bd.returns] at h; cases h)
  refine ⟨_, _, pre0 _ ?_, hrun, hended, _, _, rfl, ?_, ⟨_, rfl⟩, hW, hsame.mono (by decide) (by decide)⟩
  · show Steps p.tables e below (s₁.setTop (mkF m 0 #[.val (.int p1)] [])) _
    refine XS.iloadN X0.here hx rfl (hb hby d4_0) rfl ?_
    show Steps p.tables e below (s₁.setTop (mkF m 1 #[.val (.int p1)] [(.int p1)])) _
    refine XS.sipush X0.here hx rfl (hb hby d4_1) ?_
    show Steps p.tables e below (s₁.setTop (mkF m 4 #[.val (.int p1)] [(.int (400 : Int32)), (.int p1)])) _
    refine XS.icmpYes X0.here hx rfl (pc0 := 4) (pc' := 11) rfl (hb hby d4_4) rfl (feq hc4).2 (by decide) (by decide) ?_
    show Steps p.tables e below (s₁.setTop (mkF m 11 #[.val (.int p1)] [])) _
    refine XS.iloadN X0.here hx rfl (hb hby d4_11) rfl ?_
    show Steps p.tables e below (s₁.setTop (mkF m 12 #[.val (.int p1)] [(.int p1)])) _
    refine XS.sipush X0.here hx rfl (hb hby d4_12) ?_
    show Steps p.tables e below (s₁.setTop (mkF m 15 #[.val (.int p1)] [(.int (401 : Int32)), (.int p1)])) _
    refine XS.icmpYes X0.here hx rfl (pc0 := 15) (pc' := 22) rfl (hb hby d4_15) rfl (feq hc15).2 (by decide) (by decide) ?_
    show Steps p.tables e below (s₁.setTop (mkF m 22 #[.val (.int p1)] [])) _
    refine XS.iloadN X0.here hx rfl (hb hby d4_22) rfl ?_
    show Steps p.tables e below (s₁.setTop (mkF m 23 #[.val (.int p1)] [(.int p1)])) _
    refine XS.sipush X0.here hx rfl (hb hby d4_23) ?_
    show Steps p.tables e below (s₁.setTop (mkF m 26 #[.val (.int p1)] [(.int (404 : Int32)), (.int p1)])) _
    refine XS.icmpNo X0.here hx rfl (hb hby d4_26) rfl (teq hc26).2 ?_
    show Steps p.tables e below (s₁.setTop (mkF m 29 #[.val (.int p1)] [])) _
    refine st3 _ ?_
    show Steps p.tables e below (T3.setTop (mkF m 32 #[.val (.int p1)] [(.ref w2)])) _
    jvm_step X3.here [X3.here.top, hx, (hb hby d4_32), X3.method', Bd.returns, Value.isRef, FieldType.isReference]
    first | (intro acts; rw [hr _ acts rfl rfl rfl]) | rw [hr _ _ rfl rfl rfl]
    exact Steps.refl _
  · show Q4 w2 h0 n0 _ T3.heap _
    rw [e3]
    exact ⟨rfl, N0, rfl⟩
theorem d4_33 : decode method_2_code 33 = .ok (.iload_n 0, 1) := by decide +kernel
theorem d4_34 : decode method_2_code 34 = .ok (.sipush 409, 3) := by decide +kernel
theorem d4_37 : decode method_2_code 37 = .ok (.if_icmp .ne 7, 3) := by decide +kernel
theorem d4_40 : decode method_2_code 40 = .ok (.getstatic 19, 3) := by decide +kernel
theorem d4_43 : decode method_2_code 43 = .ok (.areturn, 1) := by decide +kernel
set_option maxRecDepth 65536 in
set_option maxHeartbeats 40000000 in
theorem rm4_tttf (l : Launch) (Z : State) (a0 : Array Value) (hw : ∀ d ∈ tables_1, d.before a0 Z = true) (ws : List Jvm.Cond) (p1 : Int32) (w2 : Addr) (h0 : Heap) (n0 : Nat) (Z0 : n0 ≤ h0.size) (S_ABORTED : Sta Z h0 "com/example/wepwawet/wepwawet/server/Status" "ABORTED" "Lcom/example/wepwawet/wepwawet/server/Status;" (.ref w2)) (hc4 : ¬ (p1 = (400 : Int32))) (hc15 : ¬ (p1 = (401 : Int32))) (hc26 : ¬ (p1 = (404 : Int32))) (hc37 : p1 = (409 : Int32)) :
    MetFree l (⟨"com/example/wepwawet/wepwawet/server/StatusForHttpCodePinLaw", "expected", "(I)Lcom/example/wepwawet/wepwawet/server/Status;"⟩ : MethodName) (head1 (Jvm.Cond.code (⟨"com/example/wepwawet/wepwawet/server/StatusForHttpCodePinLaw", "expected", "(I)Lcom/example/wepwawet/wepwawet/server/Status;"⟩ : MethodName) method_2_code 1 (some (.object "com/example/wepwawet/wepwawet/server/Status")) :: ws) ({ frames := 0, cells := 0, slots := 0, locals := 0 } : Room)) (fun a U => a = #[(.int p1)] ∧ Z.Warmed39 U.vm ∧ U.heap = h0) (fun _ _ _ _ _ => True) (fun _ U o U' => ∃ v L, o = .returned v ∧ Q4 w2 h0 n0 v U'.heap L ∧ FrameEnd U o U' L ({ frames := 0, cells := 0, slots := 0, locals := 0 } : Room).cells ({ frames := 0, cells := 0, slots := 0, locals := 0 } : Room).slots) := by
  refine MetFree.of_bodySF (plainFor_of_name pn_4) hisR ?_
  intro p e s m args below meth c s₁ Bd hml0 hP hK
  obtain ⟨rfl, hZ, hh⟩ := hP
  have hx := Bd.exec
  have hby := Bd.bytes
  have hml : c.maxLocals = 1 := hml0
  have hown : s.vm.findClass "com/example/wepwawet/wepwawet/server/StatusForHttpCodePinLaw" = some m.cls := findClass_of_methodNamed Bd.named
  have hnm := (name_of_methodNamed Bd.named Bd.method).1
  have X0 : Stand p l e ({ frames := 0, cells := 0, slots := 0, locals := 0 } : Room) s m #[(.int p1)] below meth c s₁ [] 0 0 := Stand.of_body Bd
  have e0 : s₁.heap = h0 := by rw [← hh, Bd.state]; rfl
  have N0 := Fr.nil n0
  have pre0 : ∀ t, Steps p.tables e below (s₁.setTop (mkF m 0 #[.val (.int p1)] [])) t → Steps p.tables e below (s₁.setTop (entryFrame m #[(.int p1)] 1)) t := fun t k => castTop (ef_4 m p1) k
  obtain ⟨T3, X3, e3, st3⟩ := getS2 X0 hx hZ hown (host := "") (Or.inl (hw _ (List.mem_of_getElem? (i := 39) rfl))) Via.refl e0 S_ABORTED (g := (mkF m 40 #[.val (.int p1)] [])) rfl (hb hby d4_40)
  obtain ⟨fs, hr, hrun, hended, hW, hsame⟩ := X3.leave (v := some (.ref w2)) (fun h => by rw [Bd.returns] at h; cases h)
  refine ⟨_, _, pre0 _ ?_, hrun, hended, _, _, rfl, ?_, ⟨_, rfl⟩, hW, hsame.mono (by decide) (by decide)⟩
  · show Steps p.tables e below (s₁.setTop (mkF m 0 #[.val (.int p1)] [])) _
    refine XS.iloadN X0.here hx rfl (hb hby d4_0) rfl ?_
    show Steps p.tables e below (s₁.setTop (mkF m 1 #[.val (.int p1)] [(.int p1)])) _
    refine XS.sipush X0.here hx rfl (hb hby d4_1) ?_
    show Steps p.tables e below (s₁.setTop (mkF m 4 #[.val (.int p1)] [(.int (400 : Int32)), (.int p1)])) _
    refine XS.icmpYes X0.here hx rfl (pc0 := 4) (pc' := 11) rfl (hb hby d4_4) rfl (feq hc4).2 (by decide) (by decide) ?_
    show Steps p.tables e below (s₁.setTop (mkF m 11 #[.val (.int p1)] [])) _
    refine XS.iloadN X0.here hx rfl (hb hby d4_11) rfl ?_
    show Steps p.tables e below (s₁.setTop (mkF m 12 #[.val (.int p1)] [(.int p1)])) _
    refine XS.sipush X0.here hx rfl (hb hby d4_12) ?_
    show Steps p.tables e below (s₁.setTop (mkF m 15 #[.val (.int p1)] [(.int (401 : Int32)), (.int p1)])) _
    refine XS.icmpYes X0.here hx rfl (pc0 := 15) (pc' := 22) rfl (hb hby d4_15) rfl (feq hc15).2 (by decide) (by decide) ?_
    show Steps p.tables e below (s₁.setTop (mkF m 22 #[.val (.int p1)] [])) _
    refine XS.iloadN X0.here hx rfl (hb hby d4_22) rfl ?_
    show Steps p.tables e below (s₁.setTop (mkF m 23 #[.val (.int p1)] [(.int p1)])) _
    refine XS.sipush X0.here hx rfl (hb hby d4_23) ?_
    show Steps p.tables e below (s₁.setTop (mkF m 26 #[.val (.int p1)] [(.int (404 : Int32)), (.int p1)])) _
    refine XS.icmpYes X0.here hx rfl (pc0 := 26) (pc' := 33) rfl (hb hby d4_26) rfl (feq hc26).2 (by decide) (by decide) ?_
    show Steps p.tables e below (s₁.setTop (mkF m 33 #[.val (.int p1)] [])) _
    refine XS.iloadN X0.here hx rfl (hb hby d4_33) rfl ?_
    show Steps p.tables e below (s₁.setTop (mkF m 34 #[.val (.int p1)] [(.int p1)])) _
    refine XS.sipush X0.here hx rfl (hb hby d4_34) ?_
    show Steps p.tables e below (s₁.setTop (mkF m 37 #[.val (.int p1)] [(.int (409 : Int32)), (.int p1)])) _
    refine XS.icmpNo X0.here hx rfl (hb hby d4_37) rfl (teq hc37).2 ?_
    show Steps p.tables e below (s₁.setTop (mkF m 40 #[.val (.int p1)] [])) _
    refine st3 _ ?_
    show Steps p.tables e below (T3.setTop (mkF m 43 #[.val (.int p1)] [(.ref w2)])) _
    jvm_step X3.here [X3.here.top, hx, (hb hby d4_43), X3.method', Bd.returns, Value.isRef, FieldType.isReference]
    first | (intro acts; rw [hr _ acts rfl rfl rfl]) | rw [hr _ _ rfl rfl rfl]
    exact Steps.refl _
  · show Q4 w2 h0 n0 _ T3.heap _
    rw [e3]
    exact ⟨rfl, N0, rfl⟩
theorem d4_44 : decode method_2_code 44 = .ok (.iload_n 0, 1) := by decide +kernel
theorem d4_45 : decode method_2_code 45 = .ok (.sipush 500, 3) := by decide +kernel
theorem d4_48 : decode method_2_code 48 = .ok (.if_icmp .ne 7, 3) := by decide +kernel
theorem d4_51 : decode method_2_code 51 = .ok (.getstatic 22, 3) := by decide +kernel
theorem d4_54 : decode method_2_code 54 = .ok (.areturn, 1) := by decide +kernel
set_option maxRecDepth 65536 in
set_option maxHeartbeats 40000000 in
theorem rm4_ttttf (l : Launch) (Z : State) (a0 : Array Value) (hw : ∀ d ∈ tables_1, d.before a0 Z = true) (ws : List Jvm.Cond) (p1 : Int32) (w2 : Addr) (h0 : Heap) (n0 : Nat) (Z0 : n0 ≤ h0.size) (S_INTERNAL : Sta Z h0 "com/example/wepwawet/wepwawet/server/Status" "INTERNAL" "Lcom/example/wepwawet/wepwawet/server/Status;" (.ref w2)) (hc4 : ¬ (p1 = (400 : Int32))) (hc15 : ¬ (p1 = (401 : Int32))) (hc26 : ¬ (p1 = (404 : Int32))) (hc37 : ¬ (p1 = (409 : Int32))) (hc48 : p1 = (500 : Int32)) :
    MetFree l (⟨"com/example/wepwawet/wepwawet/server/StatusForHttpCodePinLaw", "expected", "(I)Lcom/example/wepwawet/wepwawet/server/Status;"⟩ : MethodName) (head1 (Jvm.Cond.code (⟨"com/example/wepwawet/wepwawet/server/StatusForHttpCodePinLaw", "expected", "(I)Lcom/example/wepwawet/wepwawet/server/Status;"⟩ : MethodName) method_2_code 1 (some (.object "com/example/wepwawet/wepwawet/server/Status")) :: ws) ({ frames := 0, cells := 0, slots := 0, locals := 0 } : Room)) (fun a U => a = #[(.int p1)] ∧ Z.Warmed39 U.vm ∧ U.heap = h0) (fun _ _ _ _ _ => True) (fun _ U o U' => ∃ v L, o = .returned v ∧ Q4 w2 h0 n0 v U'.heap L ∧ FrameEnd U o U' L ({ frames := 0, cells := 0, slots := 0, locals := 0 } : Room).cells ({ frames := 0, cells := 0, slots := 0, locals := 0 } : Room).slots) := by
  refine MetFree.of_bodySF (plainFor_of_name pn_4) hisR ?_
  intro p e s m args below meth c s₁ Bd hml0 hP hK
  obtain ⟨rfl, hZ, hh⟩ := hP
  have hx := Bd.exec
  have hby := Bd.bytes
  have hml : c.maxLocals = 1 := hml0
  have hown : s.vm.findClass "com/example/wepwawet/wepwawet/server/StatusForHttpCodePinLaw" = some m.cls := findClass_of_methodNamed Bd.named
  have hnm := (name_of_methodNamed Bd.named Bd.method).1
  have X0 : Stand p l e ({ frames := 0, cells := 0, slots := 0, locals := 0 } : Room) s m #[(.int p1)] below meth c s₁ [] 0 0 := Stand.of_body Bd
  have e0 : s₁.heap = h0 := by rw [← hh, Bd.state]; rfl
  have N0 := Fr.nil n0
  have pre0 : ∀ t, Steps p.tables e below (s₁.setTop (mkF m 0 #[.val (.int p1)] [])) t → Steps p.tables e below (s₁.setTop (entryFrame m #[(.int p1)] 1)) t := fun t k => castTop (ef_4 m p1) k
  obtain ⟨T3, X3, e3, st3⟩ := getS2 X0 hx hZ hown (host := "") (Or.inl (hw _ (List.mem_of_getElem? (i := 36) rfl))) Via.refl e0 S_INTERNAL (g := (mkF m 51 #[.val (.int p1)] [])) rfl (hb hby d4_51)
  obtain ⟨fs, hr, hrun, hended, hW, hsame⟩ := X3.leave (v := some (.ref w2)) (fun h => by rw [Bd.returns] at h; cases h)
  refine ⟨_, _, pre0 _ ?_, hrun, hended, _, _, rfl, ?_, ⟨_, rfl⟩, hW, hsame.mono (by decide) (by decide)⟩
  · show Steps p.tables e below (s₁.setTop (mkF m 0 #[.val (.int p1)] [])) _
    refine XS.iloadN X0.here hx rfl (hb hby d4_0) rfl ?_
    show Steps p.tables e below (s₁.setTop (mkF m 1 #[.val (.int p1)] [(.int p1)])) _
    refine XS.sipush X0.here hx rfl (hb hby d4_1) ?_
    show Steps p.tables e below (s₁.setTop (mkF m 4 #[.val (.int p1)] [(.int (400 : Int32)), (.int p1)])) _
    refine XS.icmpYes X0.here hx rfl (pc0 := 4) (pc' := 11) rfl (hb hby d4_4) rfl (feq hc4).2 (by decide) (by decide) ?_
    show Steps p.tables e below (s₁.setTop (mkF m 11 #[.val (.int p1)] [])) _
    refine XS.iloadN X0.here hx rfl (hb hby d4_11) rfl ?_
    show Steps p.tables e below (s₁.setTop (mkF m 12 #[.val (.int p1)] [(.int p1)])) _
    refine XS.sipush X0.here hx rfl (hb hby d4_12) ?_
    show Steps p.tables e below (s₁.setTop (mkF m 15 #[.val (.int p1)] [(.int (401 : Int32)), (.int p1)])) _
    refine XS.icmpYes X0.here hx rfl (pc0 := 15) (pc' := 22) rfl (hb hby d4_15) rfl (feq hc15).2 (by decide) (by decide) ?_
    show Steps p.tables e below (s₁.setTop (mkF m 22 #[.val (.int p1)] [])) _
    refine XS.iloadN X0.here hx rfl (hb hby d4_22) rfl ?_
    show Steps p.tables e below (s₁.setTop (mkF m 23 #[.val (.int p1)] [(.int p1)])) _
    refine XS.sipush X0.here hx rfl (hb hby d4_23) ?_
    show Steps p.tables e below (s₁.setTop (mkF m 26 #[.val (.int p1)] [(.int (404 : Int32)), (.int p1)])) _
    refine XS.icmpYes X0.here hx rfl (pc0 := 26) (pc' := 33) rfl (hb hby d4_26) rfl (feq hc26).2 (by decide) (by decide) ?_
    show Steps p.tables e below (s₁.setTop (mkF m 33 #[.val (.int p1)] [])) _
    refine XS.iloadN X0.here hx rfl (hb hby d4_33) rfl ?_
    show Steps p.tables e below (s₁.setTop (mkF m 34 #[.val (.int p1)] [(.int p1)])) _
    refine XS.sipush X0.here hx rfl (hb hby d4_34) ?_
    show Steps p.tables e below (s₁.setTop (mkF m 37 #[.val (.int p1)] [(.int (409 : Int32)), (.int p1)])) _
    refine XS.icmpYes X0.here hx rfl (pc0 := 37) (pc' := 44) rfl (hb hby d4_37) rfl (feq hc37).2 (by decide) (by decide) ?_
    show Steps p.tables e below (s₁.setTop (mkF m 44 #[.val (.int p1)] [])) _
    refine XS.iloadN X0.here hx rfl (hb hby d4_44) rfl ?_
    show Steps p.tables e below (s₁.setTop (mkF m 45 #[.val (.int p1)] [(.int p1)])) _
    refine XS.sipush X0.here hx rfl (hb hby d4_45) ?_
    show Steps p.tables e below (s₁.setTop (mkF m 48 #[.val (.int p1)] [(.int (500 : Int32)), (.int p1)])) _
    refine XS.icmpNo X0.here hx rfl (hb hby d4_48) rfl (teq hc48).2 ?_
    show Steps p.tables e below (s₁.setTop (mkF m 51 #[.val (.int p1)] [])) _
    refine st3 _ ?_
    show Steps p.tables e below (T3.setTop (mkF m 54 #[.val (.int p1)] [(.ref w2)])) _
    jvm_step X3.here [X3.here.top, hx, (hb hby d4_54), X3.method', Bd.returns, Value.isRef, FieldType.isReference]
    first | (intro acts; rw [hr _ acts rfl rfl rfl]) | rw [hr _ _ rfl rfl rfl]
    exact Steps.refl _
  · show Q4 w2 h0 n0 _ T3.heap _
    rw [e3]
    exact ⟨rfl, N0, rfl⟩
theorem d4_55 : decode method_2_code 55 = .ok (.iload_n 0, 1) := by decide +kernel
theorem d4_56 : decode method_2_code 56 = .ok (.sipush 503, 3) := by decide +kernel
theorem d4_59 : decode method_2_code 59 = .ok (.if_icmp .ne 7, 3) := by decide +kernel
theorem d4_62 : decode method_2_code 62 = .ok (.getstatic 25, 3) := by decide +kernel
theorem d4_65 : decode method_2_code 65 = .ok (.areturn, 1) := by decide +kernel
set_option maxRecDepth 65536 in
set_option maxHeartbeats 40000000 in
theorem rm4_tttttf (l : Launch) (Z : State) (a0 : Array Value) (hw : ∀ d ∈ tables_1, d.before a0 Z = true) (ws : List Jvm.Cond) (p1 : Int32) (w2 : Addr) (h0 : Heap) (n0 : Nat) (Z0 : n0 ≤ h0.size) (S_UNAVAILABLE : Sta Z h0 "com/example/wepwawet/wepwawet/server/Status" "UNAVAILABLE" "Lcom/example/wepwawet/wepwawet/server/Status;" (.ref w2)) (hc4 : ¬ (p1 = (400 : Int32))) (hc15 : ¬ (p1 = (401 : Int32))) (hc26 : ¬ (p1 = (404 : Int32))) (hc37 : ¬ (p1 = (409 : Int32))) (hc48 : ¬ (p1 = (500 : Int32))) (hc59 : p1 = (503 : Int32)) :
    MetFree l (⟨"com/example/wepwawet/wepwawet/server/StatusForHttpCodePinLaw", "expected", "(I)Lcom/example/wepwawet/wepwawet/server/Status;"⟩ : MethodName) (head1 (Jvm.Cond.code (⟨"com/example/wepwawet/wepwawet/server/StatusForHttpCodePinLaw", "expected", "(I)Lcom/example/wepwawet/wepwawet/server/Status;"⟩ : MethodName) method_2_code 1 (some (.object "com/example/wepwawet/wepwawet/server/Status")) :: ws) ({ frames := 0, cells := 0, slots := 0, locals := 0 } : Room)) (fun a U => a = #[(.int p1)] ∧ Z.Warmed39 U.vm ∧ U.heap = h0) (fun _ _ _ _ _ => True) (fun _ U o U' => ∃ v L, o = .returned v ∧ Q4 w2 h0 n0 v U'.heap L ∧ FrameEnd U o U' L ({ frames := 0, cells := 0, slots := 0, locals := 0 } : Room).cells ({ frames := 0, cells := 0, slots := 0, locals := 0 } : Room).slots) := by
  refine MetFree.of_bodySF (plainFor_of_name pn_4) hisR ?_
  intro p e s m args below meth c s₁ Bd hml0 hP hK
  obtain ⟨rfl, hZ, hh⟩ := hP
  have hx := Bd.exec
  have hby := Bd.bytes
  have hml : c.maxLocals = 1 := hml0
  have hown : s.vm.findClass "com/example/wepwawet/wepwawet/server/StatusForHttpCodePinLaw" = some m.cls := findClass_of_methodNamed Bd.named
  have hnm := (name_of_methodNamed Bd.named Bd.method).1
  have X0 : Stand p l e ({ frames := 0, cells := 0, slots := 0, locals := 0 } : Room) s m #[(.int p1)] below meth c s₁ [] 0 0 := Stand.of_body Bd
  have e0 : s₁.heap = h0 := by rw [← hh, Bd.state]; rfl
  have N0 := Fr.nil n0
  have pre0 : ∀ t, Steps p.tables e below (s₁.setTop (mkF m 0 #[.val (.int p1)] [])) t → Steps p.tables e below (s₁.setTop (entryFrame m #[(.int p1)] 1)) t := fun t k => castTop (ef_4 m p1) k
  obtain ⟨T3, X3, e3, st3⟩ := getS2 X0 hx hZ hown (host := "") (Or.inl (hw _ (List.mem_of_getElem? (i := 37) rfl))) Via.refl e0 S_UNAVAILABLE (g := (mkF m 62 #[.val (.int p1)] [])) rfl (hb hby d4_62)
  obtain ⟨fs, hr, hrun, hended, hW, hsame⟩ := X3.leave (v := some (.ref w2)) (fun h => by rw [Bd.returns] at h; cases h)
  refine ⟨_, _, pre0 _ ?_, hrun, hended, _, _, rfl, ?_, ⟨_, rfl⟩, hW, hsame.mono (by decide) (by decide)⟩
  · show Steps p.tables e below (s₁.setTop (mkF m 0 #[.val (.int p1)] [])) _
    refine XS.iloadN X0.here hx rfl (hb hby d4_0) rfl ?_
    show Steps p.tables e below (s₁.setTop (mkF m 1 #[.val (.int p1)] [(.int p1)])) _
    refine XS.sipush X0.here hx rfl (hb hby d4_1) ?_
    show Steps p.tables e below (s₁.setTop (mkF m 4 #[.val (.int p1)] [(.int (400 : Int32)), (.int p1)])) _
    refine XS.icmpYes X0.here hx rfl (pc0 := 4) (pc' := 11) rfl (hb hby d4_4) rfl (feq hc4).2 (by decide) (by decide) ?_
    show Steps p.tables e below (s₁.setTop (mkF m 11 #[.val (.int p1)] [])) _
    refine XS.iloadN X0.here hx rfl (hb hby d4_11) rfl ?_
    show Steps p.tables e below (s₁.setTop (mkF m 12 #[.val (.int p1)] [(.int p1)])) _
    refine XS.sipush X0.here hx rfl (hb hby d4_12) ?_
    show Steps p.tables e below (s₁.setTop (mkF m 15 #[.val (.int p1)] [(.int (401 : Int32)), (.int p1)])) _
    refine XS.icmpYes X0.here hx rfl (pc0 := 15) (pc' := 22) rfl (hb hby d4_15) rfl (feq hc15).2 (by decide) (by decide) ?_
    show Steps p.tables e below (s₁.setTop (mkF m 22 #[.val (.int p1)] [])) _
    refine XS.iloadN X0.here hx rfl (hb hby d4_22) rfl ?_
    show Steps p.tables e below (s₁.setTop (mkF m 23 #[.val (.int p1)] [(.int p1)])) _
    refine XS.sipush X0.here hx rfl (hb hby d4_23) ?_
    show Steps p.tables e below (s₁.setTop (mkF m 26 #[.val (.int p1)] [(.int (404 : Int32)), (.int p1)])) _
    refine XS.icmpYes X0.here hx rfl (pc0 := 26) (pc' := 33) rfl (hb hby d4_26) rfl (feq hc26).2 (by decide) (by decide) ?_
    show Steps p.tables e below (s₁.setTop (mkF m 33 #[.val (.int p1)] [])) _
    refine XS.iloadN X0.here hx rfl (hb hby d4_33) rfl ?_
    show Steps p.tables e below (s₁.setTop (mkF m 34 #[.val (.int p1)] [(.int p1)])) _
    refine XS.sipush X0.here hx rfl (hb hby d4_34) ?_
    show Steps p.tables e below (s₁.setTop (mkF m 37 #[.val (.int p1)] [(.int (409 : Int32)), (.int p1)])) _
    refine XS.icmpYes X0.here hx rfl (pc0 := 37) (pc' := 44) rfl (hb hby d4_37) rfl (feq hc37).2 (by decide) (by decide) ?_
    show Steps p.tables e below (s₁.setTop (mkF m 44 #[.val (.int p1)] [])) _
    refine XS.iloadN X0.here hx rfl (hb hby d4_44) rfl ?_
    show Steps p.tables e below (s₁.setTop (mkF m 45 #[.val (.int p1)] [(.int p1)])) _
    refine XS.sipush X0.here hx rfl (hb hby d4_45) ?_
    show Steps p.tables e below (s₁.setTop (mkF m 48 #[.val (.int p1)] [(.int (500 : Int32)), (.int p1)])) _
    refine XS.icmpYes X0.here hx rfl (pc0 := 48) (pc' := 55) rfl (hb hby d4_48) rfl (feq hc48).2 (by decide) (by decide) ?_
    show Steps p.tables e below (s₁.setTop (mkF m 55 #[.val (.int p1)] [])) _
    refine XS.iloadN X0.here hx rfl (hb hby d4_55) rfl ?_
    show Steps p.tables e below (s₁.setTop (mkF m 56 #[.val (.int p1)] [(.int p1)])) _
    refine XS.sipush X0.here hx rfl (hb hby d4_56) ?_
    show Steps p.tables e below (s₁.setTop (mkF m 59 #[.val (.int p1)] [(.int (503 : Int32)), (.int p1)])) _
    refine XS.icmpNo X0.here hx rfl (hb hby d4_59) rfl (teq hc59).2 ?_
    show Steps p.tables e below (s₁.setTop (mkF m 62 #[.val (.int p1)] [])) _
    refine st3 _ ?_
    show Steps p.tables e below (T3.setTop (mkF m 65 #[.val (.int p1)] [(.ref w2)])) _
    jvm_step X3.here [X3.here.top, hx, (hb hby d4_65), X3.method', Bd.returns, Value.isRef, FieldType.isReference]
    first | (intro acts; rw [hr _ acts rfl rfl rfl]) | rw [hr _ _ rfl rfl rfl]
    exact Steps.refl _
  · show Q4 w2 h0 n0 _ T3.heap _
    rw [e3]
    exact ⟨rfl, N0, rfl⟩
theorem d4_66 : decode method_2_code 66 = .ok (.iload_n 0, 1) := by decide +kernel
theorem d4_67 : decode method_2_code 67 = .ok (.sipush 500, 3) := by decide +kernel
theorem d4_70 : decode method_2_code 70 = .ok (.if_icmp .ge 7, 3) := by decide +kernel
theorem d4_73 : decode method_2_code 73 = .ok (.getstatic 7, 3) := by decide +kernel
theorem d4_76 : decode method_2_code 76 = .ok (.areturn, 1) := by decide +kernel
set_option maxRecDepth 65536 in
set_option maxHeartbeats 40000000 in
theorem rm4_ttttttf (l : Launch) (Z : State) (a0 : Array Value) (hw : ∀ d ∈ tables_1, d.before a0 Z = true) (ws : List Jvm.Cond) (p1 : Int32) (w2 : Addr) (h0 : Heap) (n0 : Nat) (Z0 : n0 ≤ h0.size) (S_INVALID_ARGUMENT : Sta Z h0 "com/example/wepwawet/wepwawet/server/Status" "INVALID_ARGUMENT" "Lcom/example/wepwawet/wepwawet/server/Status;" (.ref w2)) (hc4 : ¬ (p1 = (400 : Int32))) (hc15 : ¬ (p1 = (401 : Int32))) (hc26 : ¬ (p1 = (404 : Int32))) (hc37 : ¬ (p1 = (409 : Int32))) (hc48 : ¬ (p1 = (500 : Int32))) (hc59 : ¬ (p1 = (503 : Int32))) (hc70 : p1 < (500 : Int32)) :
    MetFree l (⟨"com/example/wepwawet/wepwawet/server/StatusForHttpCodePinLaw", "expected", "(I)Lcom/example/wepwawet/wepwawet/server/Status;"⟩ : MethodName) (head1 (Jvm.Cond.code (⟨"com/example/wepwawet/wepwawet/server/StatusForHttpCodePinLaw", "expected", "(I)Lcom/example/wepwawet/wepwawet/server/Status;"⟩ : MethodName) method_2_code 1 (some (.object "com/example/wepwawet/wepwawet/server/Status")) :: ws) ({ frames := 0, cells := 0, slots := 0, locals := 0 } : Room)) (fun a U => a = #[(.int p1)] ∧ Z.Warmed39 U.vm ∧ U.heap = h0) (fun _ _ _ _ _ => True) (fun _ U o U' => ∃ v L, o = .returned v ∧ Q4 w2 h0 n0 v U'.heap L ∧ FrameEnd U o U' L ({ frames := 0, cells := 0, slots := 0, locals := 0 } : Room).cells ({ frames := 0, cells := 0, slots := 0, locals := 0 } : Room).slots) := by
  refine MetFree.of_bodySF (plainFor_of_name pn_4) hisR ?_
  intro p e s m args below meth c s₁ Bd hml0 hP hK
  obtain ⟨rfl, hZ, hh⟩ := hP
  have hx := Bd.exec
  have hby := Bd.bytes
  have hml : c.maxLocals = 1 := hml0
  have hown : s.vm.findClass "com/example/wepwawet/wepwawet/server/StatusForHttpCodePinLaw" = some m.cls := findClass_of_methodNamed Bd.named
  have hnm := (name_of_methodNamed Bd.named Bd.method).1
  have X0 : Stand p l e ({ frames := 0, cells := 0, slots := 0, locals := 0 } : Room) s m #[(.int p1)] below meth c s₁ [] 0 0 := Stand.of_body Bd
  have e0 : s₁.heap = h0 := by rw [← hh, Bd.state]; rfl
  have N0 := Fr.nil n0
  have pre0 : ∀ t, Steps p.tables e below (s₁.setTop (mkF m 0 #[.val (.int p1)] [])) t → Steps p.tables e below (s₁.setTop (entryFrame m #[(.int p1)] 1)) t := fun t k => castTop (ef_4 m p1) k
  obtain ⟨T3, X3, e3, st3⟩ := getS2 X0 hx hZ hown (host := "") (Or.inl (hw _ (List.mem_of_getElem? (i := 34) rfl))) Via.refl e0 S_INVALID_ARGUMENT (g := (mkF m 73 #[.val (.int p1)] [])) rfl (hb hby d4_73)
  obtain ⟨fs, hr, hrun, hended, hW, hsame⟩ := X3.leave (v := some (.ref w2)) (fun h => by rw [Bd.returns] at h; cases h)
  refine ⟨_, _, pre0 _ ?_, hrun, hended, _, _, rfl, ?_, ⟨_, rfl⟩, hW, hsame.mono (by decide) (by decide)⟩
  · show Steps p.tables e below (s₁.setTop (mkF m 0 #[.val (.int p1)] [])) _
    refine XS.iloadN X0.here hx rfl (hb hby d4_0) rfl ?_
    show Steps p.tables e below (s₁.setTop (mkF m 1 #[.val (.int p1)] [(.int p1)])) _
    refine XS.sipush X0.here hx rfl (hb hby d4_1) ?_
    show Steps p.tables e below (s₁.setTop (mkF m 4 #[.val (.int p1)] [(.int (400 : Int32)), (.int p1)])) _
    refine XS.icmpYes X0.here hx rfl (pc0 := 4) (pc' := 11) rfl (hb hby d4_4) rfl (feq hc4).2 (by decide) (by decide) ?_
    show Steps p.tables e below (s₁.setTop (mkF m 11 #[.val (.int p1)] [])) _
    refine XS.iloadN X0.here hx rfl (hb hby d4_11) rfl ?_
    show Steps p.tables e below (s₁.setTop (mkF m 12 #[.val (.int p1)] [(.int p1)])) _
    refine XS.sipush X0.here hx rfl (hb hby d4_12) ?_
    show Steps p.tables e below (s₁.setTop (mkF m 15 #[.val (.int p1)] [(.int (401 : Int32)), (.int p1)])) _
    refine XS.icmpYes X0.here hx rfl (pc0 := 15) (pc' := 22) rfl (hb hby d4_15) rfl (feq hc15).2 (by decide) (by decide) ?_
    show Steps p.tables e below (s₁.setTop (mkF m 22 #[.val (.int p1)] [])) _
    refine XS.iloadN X0.here hx rfl (hb hby d4_22) rfl ?_
    show Steps p.tables e below (s₁.setTop (mkF m 23 #[.val (.int p1)] [(.int p1)])) _
    refine XS.sipush X0.here hx rfl (hb hby d4_23) ?_
    show Steps p.tables e below (s₁.setTop (mkF m 26 #[.val (.int p1)] [(.int (404 : Int32)), (.int p1)])) _
    refine XS.icmpYes X0.here hx rfl (pc0 := 26) (pc' := 33) rfl (hb hby d4_26) rfl (feq hc26).2 (by decide) (by decide) ?_
    show Steps p.tables e below (s₁.setTop (mkF m 33 #[.val (.int p1)] [])) _
    refine XS.iloadN X0.here hx rfl (hb hby d4_33) rfl ?_
    show Steps p.tables e below (s₁.setTop (mkF m 34 #[.val (.int p1)] [(.int p1)])) _
    refine XS.sipush X0.here hx rfl (hb hby d4_34) ?_
    show Steps p.tables e below (s₁.setTop (mkF m 37 #[.val (.int p1)] [(.int (409 : Int32)), (.int p1)])) _
    refine XS.icmpYes X0.here hx rfl (pc0 := 37) (pc' := 44) rfl (hb hby d4_37) rfl (feq hc37).2 (by decide) (by decide) ?_
    show Steps p.tables e below (s₁.setTop (mkF m 44 #[.val (.int p1)] [])) _
    refine XS.iloadN X0.here hx rfl (hb hby d4_44) rfl ?_
    show Steps p.tables e below (s₁.setTop (mkF m 45 #[.val (.int p1)] [(.int p1)])) _
    refine XS.sipush X0.here hx rfl (hb hby d4_45) ?_
    show Steps p.tables e below (s₁.setTop (mkF m 48 #[.val (.int p1)] [(.int (500 : Int32)), (.int p1)])) _
    refine XS.icmpYes X0.here hx rfl (pc0 := 48) (pc' := 55) rfl (hb hby d4_48) rfl (feq hc48).2 (by decide) (by decide) ?_
    show Steps p.tables e below (s₁.setTop (mkF m 55 #[.val (.int p1)] [])) _
    refine XS.iloadN X0.here hx rfl (hb hby d4_55) rfl ?_
    show Steps p.tables e below (s₁.setTop (mkF m 56 #[.val (.int p1)] [(.int p1)])) _
    refine XS.sipush X0.here hx rfl (hb hby d4_56) ?_
    show Steps p.tables e below (s₁.setTop (mkF m 59 #[.val (.int p1)] [(.int (503 : Int32)), (.int p1)])) _
    refine XS.icmpYes X0.here hx rfl (pc0 := 59) (pc' := 66) rfl (hb hby d4_59) rfl (feq hc59).2 (by decide) (by decide) ?_
    show Steps p.tables e below (s₁.setTop (mkF m 66 #[.val (.int p1)] [])) _
    refine XS.iloadN X0.here hx rfl (hb hby d4_66) rfl ?_
    show Steps p.tables e below (s₁.setTop (mkF m 67 #[.val (.int p1)] [(.int p1)])) _
    refine XS.sipush X0.here hx rfl (hb hby d4_67) ?_
    show Steps p.tables e below (s₁.setTop (mkF m 70 #[.val (.int p1)] [(.int (500 : Int32)), (.int p1)])) _
    refine XS.icmpNo X0.here hx rfl (hb hby d4_70) rfl (tlt hc70).2.1 ?_
    show Steps p.tables e below (s₁.setTop (mkF m 73 #[.val (.int p1)] [])) _
    refine st3 _ ?_
    show Steps p.tables e below (T3.setTop (mkF m 76 #[.val (.int p1)] [(.ref w2)])) _
    jvm_step X3.here [X3.here.top, hx, (hb hby d4_76), X3.method', Bd.returns, Value.isRef, FieldType.isReference]
    first | (intro acts; rw [hr _ acts rfl rfl rfl]) | rw [hr _ _ rfl rfl rfl]
    exact Steps.refl _
  · show Q4 w2 h0 n0 _ T3.heap _
    rw [e3]
    exact ⟨rfl, N0, rfl⟩
theorem d4_77 : decode method_2_code 77 = .ok (.getstatic 22, 3) := by decide +kernel
theorem d4_80 : decode method_2_code 80 = .ok (.areturn, 1) := by decide +kernel
set_option maxRecDepth 65536 in
set_option maxHeartbeats 40000000 in
theorem rm4_ttttttt (l : Launch) (Z : State) (a0 : Array Value) (hw : ∀ d ∈ tables_1, d.before a0 Z = true) (ws : List Jvm.Cond) (p1 : Int32) (w2 : Addr) (h0 : Heap) (n0 : Nat) (Z0 : n0 ≤ h0.size) (S_INTERNAL : Sta Z h0 "com/example/wepwawet/wepwawet/server/Status" "INTERNAL" "Lcom/example/wepwawet/wepwawet/server/Status;" (.ref w2)) (hc4 : ¬ (p1 = (400 : Int32))) (hc15 : ¬ (p1 = (401 : Int32))) (hc26 : ¬ (p1 = (404 : Int32))) (hc37 : ¬ (p1 = (409 : Int32))) (hc48 : ¬ (p1 = (500 : Int32))) (hc59 : ¬ (p1 = (503 : Int32))) (hc70 : ¬ (p1 < (500 : Int32))) :
    MetFree l (⟨"com/example/wepwawet/wepwawet/server/StatusForHttpCodePinLaw", "expected", "(I)Lcom/example/wepwawet/wepwawet/server/Status;"⟩ : MethodName) (head1 (Jvm.Cond.code (⟨"com/example/wepwawet/wepwawet/server/StatusForHttpCodePinLaw", "expected", "(I)Lcom/example/wepwawet/wepwawet/server/Status;"⟩ : MethodName) method_2_code 1 (some (.object "com/example/wepwawet/wepwawet/server/Status")) :: ws) ({ frames := 0, cells := 0, slots := 0, locals := 0 } : Room)) (fun a U => a = #[(.int p1)] ∧ Z.Warmed39 U.vm ∧ U.heap = h0) (fun _ _ _ _ _ => True) (fun _ U o U' => ∃ v L, o = .returned v ∧ Q4 w2 h0 n0 v U'.heap L ∧ FrameEnd U o U' L ({ frames := 0, cells := 0, slots := 0, locals := 0 } : Room).cells ({ frames := 0, cells := 0, slots := 0, locals := 0 } : Room).slots) := by
  refine MetFree.of_bodySF (plainFor_of_name pn_4) hisR ?_
  intro p e s m args below meth c s₁ Bd hml0 hP hK
  obtain ⟨rfl, hZ, hh⟩ := hP
  have hx := Bd.exec
  have hby := Bd.bytes
  have hml : c.maxLocals = 1 := hml0
  have hown : s.vm.findClass "com/example/wepwawet/wepwawet/server/StatusForHttpCodePinLaw" = some m.cls := findClass_of_methodNamed Bd.named
  have hnm := (name_of_methodNamed Bd.named Bd.method).1
  have X0 : Stand p l e ({ frames := 0, cells := 0, slots := 0, locals := 0 } : Room) s m #[(.int p1)] below meth c s₁ [] 0 0 := Stand.of_body Bd
  have e0 : s₁.heap = h0 := by rw [← hh, Bd.state]; rfl
  have N0 := Fr.nil n0
  have pre0 : ∀ t, Steps p.tables e below (s₁.setTop (mkF m 0 #[.val (.int p1)] [])) t → Steps p.tables e below (s₁.setTop (entryFrame m #[(.int p1)] 1)) t := fun t k => castTop (ef_4 m p1) k
  obtain ⟨T3, X3, e3, st3⟩ := getS2 X0 hx hZ hown (host := "") (Or.inl (hw _ (List.mem_of_getElem? (i := 36) rfl))) Via.refl e0 S_INTERNAL (g := (mkF m 77 #[.val (.int p1)] [])) rfl (hb hby d4_77)
  obtain ⟨fs, hr, hrun, hended, hW, hsame⟩ := X3.leave (v := some (.ref w2)) (fun h => by rw [Bd.returns] at h; cases h)
  refine ⟨_, _, pre0 _ ?_, hrun, hended, _, _, rfl, ?_, ⟨_, rfl⟩, hW, hsame.mono (by decide) (by decide)⟩
  · show Steps p.tables e below (s₁.setTop (mkF m 0 #[.val (.int p1)] [])) _
    refine XS.iloadN X0.here hx rfl (hb hby d4_0) rfl ?_
    show Steps p.tables e below (s₁.setTop (mkF m 1 #[.val (.int p1)] [(.int p1)])) _
    refine XS.sipush X0.here hx rfl (hb hby d4_1) ?_
    show Steps p.tables e below (s₁.setTop (mkF m 4 #[.val (.int p1)] [(.int (400 : Int32)), (.int p1)])) _
    refine XS.icmpYes X0.here hx rfl (pc0 := 4) (pc' := 11) rfl (hb hby d4_4) rfl (feq hc4).2 (by decide) (by decide) ?_
    show Steps p.tables e below (s₁.setTop (mkF m 11 #[.val (.int p1)] [])) _
    refine XS.iloadN X0.here hx rfl (hb hby d4_11) rfl ?_
    show Steps p.tables e below (s₁.setTop (mkF m 12 #[.val (.int p1)] [(.int p1)])) _
    refine XS.sipush X0.here hx rfl (hb hby d4_12) ?_
    show Steps p.tables e below (s₁.setTop (mkF m 15 #[.val (.int p1)] [(.int (401 : Int32)), (.int p1)])) _
    refine XS.icmpYes X0.here hx rfl (pc0 := 15) (pc' := 22) rfl (hb hby d4_15) rfl (feq hc15).2 (by decide) (by decide) ?_
    show Steps p.tables e below (s₁.setTop (mkF m 22 #[.val (.int p1)] [])) _
    refine XS.iloadN X0.here hx rfl (hb hby d4_22) rfl ?_
    show Steps p.tables e below (s₁.setTop (mkF m 23 #[.val (.int p1)] [(.int p1)])) _
    refine XS.sipush X0.here hx rfl (hb hby d4_23) ?_
    show Steps p.tables e below (s₁.setTop (mkF m 26 #[.val (.int p1)] [(.int (404 : Int32)), (.int p1)])) _
    refine XS.icmpYes X0.here hx rfl (pc0 := 26) (pc' := 33) rfl (hb hby d4_26) rfl (feq hc26).2 (by decide) (by decide) ?_
    show Steps p.tables e below (s₁.setTop (mkF m 33 #[.val (.int p1)] [])) _
    refine XS.iloadN X0.here hx rfl (hb hby d4_33) rfl ?_
    show Steps p.tables e below (s₁.setTop (mkF m 34 #[.val (.int p1)] [(.int p1)])) _
    refine XS.sipush X0.here hx rfl (hb hby d4_34) ?_
    show Steps p.tables e below (s₁.setTop (mkF m 37 #[.val (.int p1)] [(.int (409 : Int32)), (.int p1)])) _
    refine XS.icmpYes X0.here hx rfl (pc0 := 37) (pc' := 44) rfl (hb hby d4_37) rfl (feq hc37).2 (by decide) (by decide) ?_
    show Steps p.tables e below (s₁.setTop (mkF m 44 #[.val (.int p1)] [])) _
    refine XS.iloadN X0.here hx rfl (hb hby d4_44) rfl ?_
    show Steps p.tables e below (s₁.setTop (mkF m 45 #[.val (.int p1)] [(.int p1)])) _
    refine XS.sipush X0.here hx rfl (hb hby d4_45) ?_
    show Steps p.tables e below (s₁.setTop (mkF m 48 #[.val (.int p1)] [(.int (500 : Int32)), (.int p1)])) _
    refine XS.icmpYes X0.here hx rfl (pc0 := 48) (pc' := 55) rfl (hb hby d4_48) rfl (feq hc48).2 (by decide) (by decide) ?_
    show Steps p.tables e below (s₁.setTop (mkF m 55 #[.val (.int p1)] [])) _
    refine XS.iloadN X0.here hx rfl (hb hby d4_55) rfl ?_
    show Steps p.tables e below (s₁.setTop (mkF m 56 #[.val (.int p1)] [(.int p1)])) _
    refine XS.sipush X0.here hx rfl (hb hby d4_56) ?_
    show Steps p.tables e below (s₁.setTop (mkF m 59 #[.val (.int p1)] [(.int (503 : Int32)), (.int p1)])) _
    refine XS.icmpYes X0.here hx rfl (pc0 := 59) (pc' := 66) rfl (hb hby d4_59) rfl (feq hc59).2 (by decide) (by decide) ?_
    show Steps p.tables e below (s₁.setTop (mkF m 66 #[.val (.int p1)] [])) _
    refine XS.iloadN X0.here hx rfl (hb hby d4_66) rfl ?_
    show Steps p.tables e below (s₁.setTop (mkF m 67 #[.val (.int p1)] [(.int p1)])) _
    refine XS.sipush X0.here hx rfl (hb hby d4_67) ?_
    show Steps p.tables e below (s₁.setTop (mkF m 70 #[.val (.int p1)] [(.int (500 : Int32)), (.int p1)])) _
    refine XS.icmpYes X0.here hx rfl (pc0 := 70) (pc' := 77) rfl (hb hby d4_70) rfl (flt hc70).2.1 (by decide) (by decide) ?_
    show Steps p.tables e below (s₁.setTop (mkF m 77 #[.val (.int p1)] [])) _
    refine st3 _ ?_
    show Steps p.tables e below (T3.setTop (mkF m 80 #[.val (.int p1)] [(.ref w2)])) _
    jvm_step X3.here [X3.here.top, hx, (hb hby d4_80), X3.method', Bd.returns, Value.isRef, FieldType.isReference]
    first | (intro acts; rw [hr _ acts rfl rfl rfl]) | rw [hr _ _ rfl rfl rfl]
    exact Steps.refl _
  · show Q4 w2 h0 n0 _ T3.heap _
    rw [e3]
    exact ⟨rfl, N0, rfl⟩
theorem rm4 (l : Launch) (Z : State) (a0 : Array Value) (hw : ∀ d ∈ tables_1, d.before a0 Z = true) (ws : List Jvm.Cond) (p1 : Int32) (u0 u1 u2 u3 u4 u5 : Addr) (h0 : Heap) (n0 : Nat) (Z0 : n0 ≤ h0.size) (S0 : Sta Z h0 "com/example/wepwawet/wepwawet/server/Status" "INVALID_ARGUMENT" "Lcom/example/wepwawet/wepwawet/server/Status;" (.ref u0)) (S1 : Sta Z h0 "com/example/wepwawet/wepwawet/server/Status" "UNAUTHENTICATED" "Lcom/example/wepwawet/wepwawet/server/Status;" (.ref u1)) (S2 : Sta Z h0 "com/example/wepwawet/wepwawet/server/Status" "NOT_FOUND" "Lcom/example/wepwawet/wepwawet/server/Status;" (.ref u2)) (S3 : Sta Z h0 "com/example/wepwawet/wepwawet/server/Status" "ABORTED" "Lcom/example/wepwawet/wepwawet/server/Status;" (.ref u3)) (S4 : Sta Z h0 "com/example/wepwawet/wepwawet/server/Status" "INTERNAL" "Lcom/example/wepwawet/wepwawet/server/Status;" (.ref u4)) (S5 : Sta Z h0 "com/example/wepwawet/wepwawet/server/Status" "UNAVAILABLE" "Lcom/example/wepwawet/wepwawet/server/Status;" (.ref u5)) :
    MetFree l (⟨"com/example/wepwawet/wepwawet/server/StatusForHttpCodePinLaw", "expected", "(I)Lcom/example/wepwawet/wepwawet/server/Status;"⟩ : MethodName) (head1 (Jvm.Cond.code (⟨"com/example/wepwawet/wepwawet/server/StatusForHttpCodePinLaw", "expected", "(I)Lcom/example/wepwawet/wepwawet/server/Status;"⟩ : MethodName) method_2_code 1 (some (.object "com/example/wepwawet/wepwawet/server/Status")) :: ws) ({ frames := 0, cells := 0, slots := 0, locals := 0 } : Room)) (fun a U => a = #[(.int p1)] ∧ Z.Warmed39 U.vm ∧ U.heap = h0) (fun _ _ _ _ _ => True) (fun _ U o U' => ∃ v L, o = .returned v ∧ Q4 (own_exp p1 u0 u1 u2 u3 u4 u5) h0 n0 v U'.heap L ∧ FrameEnd U o U' L ({ frames := 0, cells := 0, slots := 0, locals := 0 } : Room).cells ({ frames := 0, cells := 0, slots := 0, locals := 0 } : Room).slots) := by
  by_cases c0 : p1 = (400 : Int32)
  · rw [show own_exp p1 u0 u1 u2 u3 u4 u5 = u0 by simp [own_exp, c0]]
    exact rm4_f l Z a0 hw ws p1 u0 h0 n0 Z0 S0  c0
  by_cases c1 : p1 = (401 : Int32)
  · rw [show own_exp p1 u0 u1 u2 u3 u4 u5 = u1 by simp [own_exp, c1]]
    exact rm4_tf l Z a0 hw ws p1 u1 h0 n0 Z0 S1 c0 c1
  by_cases c2 : p1 = (404 : Int32)
  · rw [show own_exp p1 u0 u1 u2 u3 u4 u5 = u2 by simp [own_exp, c2]]
    exact rm4_ttf l Z a0 hw ws p1 u2 h0 n0 Z0 S2 c0 c1 c2
  by_cases c3 : p1 = (409 : Int32)
  · rw [show own_exp p1 u0 u1 u2 u3 u4 u5 = u3 by simp [own_exp, c3]]
    exact rm4_tttf l Z a0 hw ws p1 u3 h0 n0 Z0 S3 c0 c1 c2 c3
  by_cases c4 : p1 = (500 : Int32)
  · rw [show own_exp p1 u0 u1 u2 u3 u4 u5 = u4 by simp [own_exp, c4]]
    exact rm4_ttttf l Z a0 hw ws p1 u4 h0 n0 Z0 S4 c0 c1 c2 c3 c4
  by_cases c5 : p1 = (503 : Int32)
  · rw [show own_exp p1 u0 u1 u2 u3 u4 u5 = u5 by simp [own_exp, c5]]
    exact rm4_tttttf l Z a0 hw ws p1 u5 h0 n0 Z0 S5 c0 c1 c2 c3 c4 c5
  by_cases c6 : p1 < (500 : Int32)
  · rw [show own_exp p1 u0 u1 u2 u3 u4 u5 = u0 by simp [own_exp, c0, c1, c2, c3, c4, c5, c6]]
    exact rm4_ttttttf l Z a0 hw ws p1 u0 h0 n0 Z0 S0 c0 c1 c2 c3 c4 c5 c6
  rw [show own_exp p1 u0 u1 u2 u3 u4 u5 = u4 by simp [own_exp, c0, c1, c2, c3, c4, c5, c6]]
  exact rm4_ttttttt l Z a0 hw ws p1 u4 h0 n0 Z0 S4 c0 c1 c2 c3 c4 c5 c6
theorem d3_0 : decode prog_29_method_1_code 0 = .ok (.getstatic 22, 3) := by decide +kernel
theorem d3_3 : decode prog_29_method_1_code 3 = .ok (.invokevirtual 26, 3) := by decide +kernel
theorem d3_6 : decode prog_29_method_1_code 6 = .ok (.checkcast 27, 3) := by decide +kernel
theorem d3_9 : decode prog_29_method_1_code 9 = .ok (.areturn, 1) := by decide +kernel
theorem pn_3 : plainName "com/example/wepwawet/wepwawet/server/Status" = true := by first | (simp [plainName, overriddenIn]; done) | decide +kernel
theorem pd_3_3 : parseMethodDescriptor "()Ljava/lang/Object;" = some ⟨[], some (.object "java/lang/Object")⟩ := by decide +kernel
theorem ef_3 (m : MethodId)  : entryFrame m #[] 0 = mkF m 0 #[] [] := by first | (simp [entryFrame, mkF, argsToLocals, Value.category]; done) | rfl
set_option maxRecDepth 65536 in
set_option maxHeartbeats 40000000 in
theorem rm3 (l : Launch) (Z : State) (a0 : Array Value) (hw : ∀ d ∈ tables_1, d.before a0 Z = true) (ws : List Jvm.Cond) (w1 : Addr) (kA : ClassId) (vs : List Value) (h0 : Heap) (n0 : Nat) (Z0 : n0 ≤ h0.size) (S1 : Sta Z h0 "com/example/wepwawet/wepwawet/server/Status" "$VALUES" "[Lcom/example/wepwawet/wepwawet/server/Status;" (.ref w1)) (E1 : Exa Z h0 w1 "[Lcom/example/wepwawet/wepwawet/server/Status;") (V1 : Arv Z h0 w1 kA (.object "com/example/wepwawet/wepwawet/server/Status") (6 : Int32) vs .null) :
    MetFree l (⟨"com/example/wepwawet/wepwawet/server/Status", "values", "()[Lcom/example/wepwawet/wepwawet/server/Status;"⟩ : MethodName) (head1 (Jvm.Cond.code (⟨"com/example/wepwawet/wepwawet/server/Status", "values", "()[Lcom/example/wepwawet/wepwawet/server/Status;"⟩ : MethodName) prog_29_method_1_code 0 (some (.array (.object "com/example/wepwawet/wepwawet/server/Status"))) :: ws) ({ frames := 1, cells := 1, slots := 6, locals := 14 } : Room)) (fun a U => a = #[] ∧ Z.Warmed39 U.vm ∧ U.heap = h0) (fun _ _ _ _ _ => True) (fun _ U o U' => ∃ v L, o = .returned v ∧ Q3 Z kA vs h0 n0 v U'.heap L ∧ FrameEnd U o U' L ({ frames := 1, cells := 1, slots := 6, locals := 14 } : Room).cells ({ frames := 1, cells := 1, slots := 6, locals := 14 } : Room).slots) := by
  refine MetFree.of_bodySF (plainFor_of_name pn_3) hisR ?_
  intro p e s m args below meth c s₁ Bd hml0 hP hK
  obtain ⟨rfl, hZ, hh⟩ := hP
  have hx := Bd.exec
  have hby := Bd.bytes
  have hml : c.maxLocals = 0 := hml0
  have hown : s.vm.findClass "com/example/wepwawet/wepwawet/server/Status" = some m.cls := findClass_of_methodNamed Bd.named
  have X0 : Stand p l e ({ frames := 1, cells := 1, slots := 6, locals := 14 } : Room) s m #[] below meth c s₁ [] 0 0 := Stand.of_body Bd
  have e0 : s₁.heap = h0 := by rw [← hh, Bd.state]; rfl
  have N0 := Fr.nil n0
  have pre0 : ∀ t, Steps p.tables e below (s₁.setTop (mkF m 0 #[] [])) t → Steps p.tables e below (s₁.setTop (entryFrame m #[] 0)) t := fun t k => castTop (ef_3 m) k
  obtain ⟨T2, X2, e2, st2⟩ := getS2 X0 hx hZ hown (host := "") (Or.inl (hw _ (List.mem_of_getElem? (i := 11) rfl))) Via.refl e0 S1 (g := (mkF m 0 #[] [])) rfl (hb hby d3_0)
  obtain ⟨T3, h3, X3, e3, E3, V3, C3, st3⟩ := cloneH X2 hx hZ hown (hw _ (List.mem_of_getElem? (i := 13) rfl)) (hw _ (List.mem_of_getElem? (i := 14) rfl)) (hw _ (List.mem_of_getElem? (i := 18) rfl)) (hw _ (List.mem_of_getElem? (i := 16) rfl)) (hw _ (List.mem_of_getElem? (i := 17) rfl)) (hw _ (List.mem_of_getElem? (i := 19) rfl)) e2 V1.arh E1 (g := (mkF m 3 #[] [(.ref w1)])) rfl (by rw [hml]; rfl) (rest := []) rfl (hb hby d3_3) (by decide) (W := 0) (cap := 6) (by show 2 * 0 + _ ≤ _; exact Nat.le_of_eq rfl) (by decide) (by decide) (by decide) (by decide)
  obtain ⟨b3, g3⟩ : ∃ z, z = h0.size := ⟨_, rfl⟩
  rw [← g3] at V3 C3 st3
  obtain ⟨T4, X4, e4, st4⟩ := castY X3 hx hZ hown (hw _ (List.mem_of_getElem? (i := 27) rfl)) e3 (Ins.self C3) (g := (mkF m 6 #[] [(.ref b3)])) rfl rfl (hb hby d3_6)
  obtain ⟨fs, hr, hrun, hended, hW, hsame⟩ := X4.leave (v := some (.ref b3)) (fun h => by rw [Bd.returns] at h; cases h)
  refine ⟨_, _, pre0 _ ?_, hrun, hended, _, _, rfl, ?_, ⟨_, rfl⟩, hW, hsame.mono (by decide) (by decide)⟩
  · show Steps p.tables e below (s₁.setTop (mkF m 0 #[] [])) _
    refine st2 _ ?_
    show Steps p.tables e below (T2.setTop (mkF m 3 #[] [(.ref w1)])) _
    refine st3 _ ?_
    show Steps p.tables e below (T3.setTop (mkF m 6 #[] [(.ref b3)])) _
    refine st4 _ ?_
    show Steps p.tables e below (T4.setTop (mkF m 9 #[] [(.ref b3)])) _
    jvm_step X4.here [X4.here.top, hx, (hb hby d3_9), X4.method', Bd.returns, Value.isRef, FieldType.isReference]
    first | (intro acts; rw [hr _ acts rfl rfl rfl]) | rw [hr _ _ rfl rfl rfl]
    exact Steps.refl _
  · show Q3 Z kA vs h0 n0 _ T4.heap _
    rw [e4]
    exact ⟨b3, rfl, N0, (Keep.refl h0 []).ext E3, V3⟩
theorem d2_0 : decode prog_29_method_5_code 0 = .ok (.invokestatic 45, 3) := by decide +kernel
theorem d2_3 : decode prog_29_method_5_code 3 = .ok (.astore_n 1, 1) := by decide +kernel
theorem d2_4 : decode prog_29_method_5_code 4 = .ok (.aload_n 1, 1) := by decide +kernel
theorem d2_5 : decode prog_29_method_5_code 5 = .ok (.arraylength, 1) := by decide +kernel
theorem d2_6 : decode prog_29_method_5_code 6 = .ok (.istore_n 2, 1) := by decide +kernel
theorem d2_7 : decode prog_29_method_5_code 7 = .ok (.iconst 0, 1) := by decide +kernel
theorem d2_8 : decode prog_29_method_5_code 8 = .ok (.istore_n 3, 1) := by decide +kernel
theorem d2_9 : decode prog_29_method_5_code 9 = .ok (.iload_n 3, 1) := by decide +kernel
theorem d2_10 : decode prog_29_method_5_code 10 = .ok (.iload_n 2, 1) := by decide +kernel
theorem d2_11 : decode prog_29_method_5_code 11 = .ok (.if_icmp .ge 26, 3) := by decide +kernel
theorem d2_14 : decode prog_29_method_5_code 14 = .ok (.aload_n 1, 1) := by decide +kernel
theorem d2_15 : decode prog_29_method_5_code 15 = .ok (.iload_n 3, 1) := by decide +kernel
theorem d2_16 : decode prog_29_method_5_code 16 = .ok (.aaload, 1) := by decide +kernel
theorem d2_17 : decode prog_29_method_5_code 17 = .ok (.astore 4, 2) := by decide +kernel
theorem d2_19 : decode prog_29_method_5_code 19 = .ok (.aload 4, 2) := by decide +kernel
theorem d2_21 : decode prog_29_method_5_code 21 = .ok (.getfield 41, 3) := by decide +kernel
theorem d2_24 : decode prog_29_method_5_code 24 = .ok (.iload_n 0, 1) := by decide +kernel
theorem d2_25 : decode prog_29_method_5_code 25 = .ok (.if_icmp .ne 6, 3) := by decide +kernel
theorem d2_28 : decode prog_29_method_5_code 28 = .ok (.aload 4, 2) := by decide +kernel
theorem d2_30 : decode prog_29_method_5_code 30 = .ok (.areturn, 1) := by decide +kernel
theorem pn_2 : plainName "com/example/wepwawet/wepwawet/server/Status" = true := by first | (simp [plainName, overriddenIn]; done) | decide +kernel
theorem pd_2_2 : parseMethodDescriptor "()[Lcom/example/wepwawet/wepwawet/server/Status;" = some ⟨[], some (.array (.object "com/example/wepwawet/wepwawet/server/Status"))⟩ := by decide +kernel
theorem ef_2 (m : MethodId) (x0 : Int32) : entryFrame m #[(.int x0)] 5 = mkF m 0 #[.val (.int x0), .unset, .unset, .unset, .unset] [] := by first | (simp [entryFrame, mkF, argsToLocals, Value.category]; done) | rfl
set_option maxRecDepth 65536 in
set_option maxHeartbeats 40000000 in
theorem rm2_ff (l : Launch) (Z : State) (a0 : Array Value) (hw : ∀ d ∈ tables_1, d.before a0 Z = true) (ws : List Jvm.Cond) (p1 : Int32) (u0 : Addr) (u1 : Addr) (u2 : Addr) (u3 : Addr) (u4 : Addr) (u5 : Addr) (w3 : Int32) (wV : Addr) (kA : ClassId) (h0 : Heap) (n0 : Nat) (Z0 : n0 ≤ h0.size) (S_V : Sta Z h0 "com/example/wepwawet/wepwawet/server/Status" "$VALUES" "[Lcom/example/wepwawet/wepwawet/server/Status;" (.ref wV)) (E_V : Exa Z h0 wV "[Lcom/example/wepwawet/wepwawet/server/Status;") (V_V : Arv Z h0 wV kA (.object "com/example/wepwawet/wepwawet/server/Status") (6 : Int32) [.ref u0, .ref u1, .ref u2, .ref u3, .ref u4, .ref u5] .null) (F_httpCode_u0 : Fld Z h0 u0 "com/example/wepwawet/wepwawet/server/Status" "httpCode" "I" (.int w3)) (hc25 : w3 = p1) :
    MetFree l (⟨"com/example/wepwawet/wepwawet/server/Status", "forHttpCode", "(I)Lcom/example/wepwawet/wepwawet/server/Status;"⟩ : MethodName) (head1 (Jvm.Cond.code (⟨"com/example/wepwawet/wepwawet/server/Status", "forHttpCode", "(I)Lcom/example/wepwawet/wepwawet/server/Status;"⟩ : MethodName) prog_29_method_5_code 5 (some (.object "com/example/wepwawet/wepwawet/server/Status")) :: ws) ({ frames := 2, cells := 1, slots := 6, locals := 25 } : Room)) (fun a U => a = #[(.int p1)] ∧ Z.Warmed39 U.vm ∧ U.heap = h0) (fun _ _ _ _ _ => True) (fun _ U o U' => ∃ v L, o = .returned v ∧ Q2 u0 h0 n0 v U'.heap L ∧ FrameEnd U o U' L ({ frames := 2, cells := 1, slots := 6, locals := 25 } : Room).cells ({ frames := 2, cells := 1, slots := 6, locals := 25 } : Room).slots) := by
  refine MetFree.of_bodySF (plainFor_of_name pn_2) hisR ?_
  intro p e s m args below meth c s₁ Bd hml0 hP hK
  obtain ⟨rfl, hZ, hh⟩ := hP
  have hx := Bd.exec
  have hby := Bd.bytes
  have hml : c.maxLocals = 5 := hml0
  have hown : s.vm.findClass "com/example/wepwawet/wepwawet/server/Status" = some m.cls := findClass_of_methodNamed Bd.named
  have hnm := (name_of_methodNamed Bd.named Bd.method).1
  have X0 : Stand p l e ({ frames := 2, cells := 1, slots := 6, locals := 25 } : Room) s m #[(.int p1)] below meth c s₁ [] 0 0 := Stand.of_body Bd
  have e0 : s₁.heap = h0 := by rw [← hh, Bd.state]; rfl
  have N0 := Fr.nil n0
  have pre0 : ∀ t, Steps p.tables e below (s₁.setTop (mkF m 0 #[.val (.int p1), .unset, .unset, .unset, .unset] [])) t → Steps p.tables e below (s₁.setTop (entryFrame m #[(.int p1)] 5)) t := fun t k => castTop (ef_2 m p1) k
  obtain ⟨_, _, ⟨T2, L2, k2, n2⟩, -, X2, ⟨Lc2, hQ2, l2, y2, z2⟩, st2⟩ := Jvm.LawKit.callS X0 hx (y := (⟨"com/example/wepwawet/wepwawet/server/Status", "values", "()[Lcom/example/wepwawet/wepwawet/server/Status;"⟩ : MethodName)) hown (mvT hZ (hw _ (List.mem_of_getElem? (i := 8) rfl))) (mvT hZ (hw _ (List.mem_of_getElem? (i := 9) rfl))) (mvT hZ (hw _ (List.mem_of_getElem? (i := 6) rfl))) (mvT hZ (hw _ (List.mem_of_getElem? (i := 10) rfl))) (by decide) (backOf (W := 0) (rm3 l Z a0 hw [] wV kA [.ref u0, .ref u1, .ref u2, .ref u3, .ref u4, .ref u5] h0 n0 Z0 S_V E_V V_V) hZ (hw _ (List.mem_of_getElem? (i := 10) rfl)) (hw _ (List.mem_of_getElem? (i := 6) rfl)) (by decide) (by decide)) (g := (mkF m 0 #[.val (.int p1), .unset, .unset, .unset, .unset] [])) rfl (by rw [hml]; rfl) (argsL := []) (rest := []) (lenOf pd_2_2 rfl) rfl (by show 2 * 0 + _ ≤ _; exact Nat.le_of_eq rfl) (hb hby d2_0) (fun _ _ => ⟨rfl, e0, (by decide : 0 + 1 ≤ _), (by decide : 0 + 6 ≤ _)⟩)
  dsimp only [Pt.U, Pt.locs, Pt.cells, Pt.slots] at X2 l2 y2 z2 st2 hQ2
  subst l2 y2 z2
  obtain ⟨bA, rfl, N2q, K2, V_bA⟩ := hQ2
  have N2 := Fr.app N0 N2q
  obtain ⟨cl_bA_5, Ar_bA, q_bA, S_bA, N_bA, H_bA, G_bA⟩ := V_bA
  have hin16 : ¬ ((0 : Int32) < 0 ∨ cl_bA_5.slots.size ≤ ((0 : Int32)).toNatClampNeg) := inb_of S_bA ⟨by decide, by decide⟩
  have hat16 : cl_bA_5.slots[((0 : Int32)).toNatClampNeg]? = some (.ref u0) := H_bA.at hin16 rfl
  obtain ⟨T4, X4, e4, st4⟩ := getF X2 hx hZ hown (host := "") (Or.inl (hw _ (List.mem_of_getElem? (i := 29) rfl))) Via.refl rfl (F_httpCode_u0.keep K2 List.not_mem_nil) (g := (mkF m 21 #[.val (.int p1), .val (.ref bA), .val (.int (6 : Int32)), .val (.int (0 : Int32)), .val (.ref u0)] [(.ref u0)])) rfl rfl (hb hby d2_21)
  obtain ⟨fs, hr, hrun, hended, hW, hsame⟩ := X4.leave (v := some (.ref u0)) (fun h => by rw [Bd.returns] at h; cases h)
  refine ⟨_, _, pre0 _ ?_, hrun, hended, _, _, rfl, ?_, ⟨_, rfl⟩, hW, hsame.mono (by decide) (by decide)⟩
  · show Steps p.tables e below (s₁.setTop (mkF m 0 #[.val (.int p1), .unset, .unset, .unset, .unset] [])) _
    refine st2 _ ?_
    show Steps p.tables e below (T2.setTop (mkF m 3 #[.val (.int p1), .unset, .unset, .unset, .unset] [(.ref bA)])) _
    refine XS.astoreN X2.here hx rfl (hb hby d2_3) rfl rfl (l' := #[.val (.int p1), .val (.ref bA), .unset, .unset, .unset]) rfl ?_
    show Steps p.tables e below (T2.setTop (mkF m 4 #[.val (.int p1), .val (.ref bA), .unset, .unset, .unset] [])) _
    refine XS.aloadN X2.here hx rfl (hb hby d2_4) rfl rfl ?_
    show Steps p.tables e below (T2.setTop (mkF m 5 #[.val (.int p1), .val (.ref bA), .unset, .unset, .unset] [(.ref bA)])) _
    refine X2.arraylength hx (by exact Ar_bA.1) (State.isArrayOf_alike hZ.alike Ar_bA.2.1) (g := (mkF m 5 #[.val (.int p1), .val (.ref bA), .unset, .unset, .unset] [(.ref bA)])) rfl rfl (hb hby d2_5) _ ?_
    rw [len_of S_bA N_bA]
    show Steps p.tables e below (T2.setTop (mkF m 6 #[.val (.int p1), .val (.ref bA), .unset, .unset, .unset] [(.int (6 : Int32))])) _
    refine XS.istoreN X2.here hx rfl (hb hby d2_6) rfl (l' := #[.val (.int p1), .val (.ref bA), .val (.int (6 : Int32)), .unset, .unset]) rfl ?_
    show Steps p.tables e below (T2.setTop (mkF m 7 #[.val (.int p1), .val (.ref bA), .val (.int (6 : Int32)), .unset, .unset] [])) _
    refine XS.iconst X2.here hx rfl (hb hby d2_7) ?_
    show Steps p.tables e below (T2.setTop (mkF m 8 #[.val (.int p1), .val (.ref bA), .val (.int (6 : Int32)), .unset, .unset] [(.int (0 : Int32))])) _
    refine XS.istoreN X2.here hx rfl (hb hby d2_8) rfl (l' := #[.val (.int p1), .val (.ref bA), .val (.int (6 : Int32)), .val (.int (0 : Int32)), .unset]) rfl ?_
    show Steps p.tables e below (T2.setTop (mkF m 9 #[.val (.int p1), .val (.ref bA), .val (.int (6 : Int32)), .val (.int (0 : Int32)), .unset] [])) _
    refine XS.iloadN X2.here hx rfl (hb hby d2_9) rfl ?_
    show Steps p.tables e below (T2.setTop (mkF m 10 #[.val (.int p1), .val (.ref bA), .val (.int (6 : Int32)), .val (.int (0 : Int32)), .unset] [(.int (0 : Int32))])) _
    refine XS.iloadN X2.here hx rfl (hb hby d2_10) rfl ?_
    show Steps p.tables e below (T2.setTop (mkF m 11 #[.val (.int p1), .val (.ref bA), .val (.int (6 : Int32)), .val (.int (0 : Int32)), .unset] [(.int (6 : Int32)), (.int (0 : Int32))])) _
    refine XS.icmpNo X2.here hx rfl (hb hby d2_11) rfl (tlt (by decide : (0 : Int32) < (6 : Int32))).2.1 ?_
    show Steps p.tables e below (T2.setTop (mkF m 14 #[.val (.int p1), .val (.ref bA), .val (.int (6 : Int32)), .val (.int (0 : Int32)), .unset] [])) _
    refine XS.aloadN X2.here hx rfl (hb hby d2_14) rfl rfl ?_
    show Steps p.tables e below (T2.setTop (mkF m 15 #[.val (.int p1), .val (.ref bA), .val (.int (6 : Int32)), .val (.int (0 : Int32)), .unset] [(.ref bA)])) _
    refine XS.iloadN X2.here hx rfl (hb hby d2_15) rfl ?_
    show Steps p.tables e below (T2.setTop (mkF m 16 #[.val (.int p1), .val (.ref bA), .val (.int (6 : Int32)), .val (.int (0 : Int32)), .unset] [(.int (0 : Int32)), (.ref bA)])) _
    refine X2.aaload hx (j := (0 : Int32)) (v := (.ref u0)) (by exact Ar_bA.1) (State.isArrayOf_alike hZ.alike Ar_bA.2.1) rfl Ar_bA.2.2 hin16 hat16 (g := (mkF m 16 #[.val (.int p1), .val (.ref bA), .val (.int (6 : Int32)), .val (.int (0 : Int32)), .unset] [(.int (0 : Int32)), (.ref bA)])) rfl rfl (hb hby d2_16) _ ?_
    show Steps p.tables e below (T2.setTop (mkF m 17 #[.val (.int p1), .val (.ref bA), .val (.int (6 : Int32)), .val (.int (0 : Int32)), .unset] [(.ref u0)])) _
    refine XS.astore X2.here hx rfl (hb hby d2_17) rfl rfl (l' := #[.val (.int p1), .val (.ref bA), .val (.int (6 : Int32)), .val (.int (0 : Int32)), .val (.ref u0)]) rfl ?_
    show Steps p.tables e below (T2.setTop (mkF m 19 #[.val (.int p1), .val (.ref bA), .val (.int (6 : Int32)), .val (.int (0 : Int32)), .val (.ref u0)] [])) _
    refine XS.aload X2.here hx rfl (hb hby d2_19) rfl rfl ?_
    show Steps p.tables e below (T2.setTop (mkF m 21 #[.val (.int p1), .val (.ref bA), .val (.int (6 : Int32)), .val (.int (0 : Int32)), .val (.ref u0)] [(.ref u0)])) _
    refine st4 _ ?_
    show Steps p.tables e below (T4.setTop (mkF m 24 #[.val (.int p1), .val (.ref bA), .val (.int (6 : Int32)), .val (.int (0 : Int32)), .val (.ref u0)] [(.int w3)])) _
    refine XS.iloadN X4.here hx rfl (hb hby d2_24) rfl ?_
    show Steps p.tables e below (T4.setTop (mkF m 25 #[.val (.int p1), .val (.ref bA), .val (.int (6 : Int32)), .val (.int (0 : Int32)), .val (.ref u0)] [(.int p1), (.int w3)])) _
    refine XS.icmpNo X4.here hx rfl (hb hby d2_25) rfl (teq hc25).2 ?_
    show Steps p.tables e below (T4.setTop (mkF m 28 #[.val (.int p1), .val (.ref bA), .val (.int (6 : Int32)), .val (.int (0 : Int32)), .val (.ref u0)] [])) _
    refine XS.aload X4.here hx rfl (hb hby d2_28) rfl rfl ?_
    show Steps p.tables e below (T4.setTop (mkF m 30 #[.val (.int p1), .val (.ref bA), .val (.int (6 : Int32)), .val (.int (0 : Int32)), .val (.ref u0)] [(.ref u0)])) _
    jvm_step X4.here [X4.here.top, hx, (hb hby d2_30), X4.method', Bd.returns, Value.isRef, FieldType.isReference]
    first | (intro acts; rw [hr _ acts rfl rfl rfl]) | rw [hr _ _ rfl rfl rfl]
    exact Steps.refl _
  · show Q2 u0 h0 n0 _ T4.heap _
    rw [e4]
    exact ⟨rfl, N2, K2⟩
theorem d2_31 : decode prog_29_method_5_code 31 = .ok (.iinc 3 1, 3) := by decide +kernel
theorem d2_34 : decode prog_29_method_5_code 34 = .ok (.goto (-25), 3) := by decide +kernel
set_option maxRecDepth 65536 in
set_option maxHeartbeats 40000000 in
theorem rm2_ftff (l : Launch) (Z : State) (a0 : Array Value) (hw : ∀ d ∈ tables_1, d.before a0 Z = true) (ws : List Jvm.Cond) (p1 : Int32) (u0 : Addr) (u1 : Addr) (u2 : Addr) (u3 : Addr) (u4 : Addr) (u5 : Addr) (w3 : Int32) (w5 : Int32) (wV : Addr) (kA : ClassId) (h0 : Heap) (n0 : Nat) (Z0 : n0 ≤ h0.size) (S_V : Sta Z h0 "com/example/wepwawet/wepwawet/server/Status" "$VALUES" "[Lcom/example/wepwawet/wepwawet/server/Status;" (.ref wV)) (E_V : Exa Z h0 wV "[Lcom/example/wepwawet/wepwawet/server/Status;") (V_V : Arv Z h0 wV kA (.object "com/example/wepwawet/wepwawet/server/Status") (6 : Int32) [.ref u0, .ref u1, .ref u2, .ref u3, .ref u4, .ref u5] .null) (F_httpCode_u0 : Fld Z h0 u0 "com/example/wepwawet/wepwawet/server/Status" "httpCode" "I" (.int w3)) (F_httpCode_u1 : Fld Z h0 u1 "com/example/wepwawet/wepwawet/server/Status" "httpCode" "I" (.int w5)) (hc25 : ¬ (w3 = p1)) (hc25_2 : w5 = p1) :
    MetFree l (⟨"com/example/wepwawet/wepwawet/server/Status", "forHttpCode", "(I)Lcom/example/wepwawet/wepwawet/server/Status;"⟩ : MethodName) (head1 (Jvm.Cond.code (⟨"com/example/wepwawet/wepwawet/server/Status", "forHttpCode", "(I)Lcom/example/wepwawet/wepwawet/server/Status;"⟩ : MethodName) prog_29_method_5_code 5 (some (.object "com/example/wepwawet/wepwawet/server/Status")) :: ws) ({ frames := 2, cells := 1, slots := 6, locals := 25 } : Room)) (fun a U => a = #[(.int p1)] ∧ Z.Warmed39 U.vm ∧ U.heap = h0) (fun _ _ _ _ _ => True) (fun _ U o U' => ∃ v L, o = .returned v ∧ Q2 u1 h0 n0 v U'.heap L ∧ FrameEnd U o U' L ({ frames := 2, cells := 1, slots := 6, locals := 25 } : Room).cells ({ frames := 2, cells := 1, slots := 6, locals := 25 } : Room).slots) := by
  refine MetFree.of_bodySF (plainFor_of_name pn_2) hisR ?_
  intro p e s m args below meth c s₁ Bd hml0 hP hK
  obtain ⟨rfl, hZ, hh⟩ := hP
  have hx := Bd.exec
  have hby := Bd.bytes
  have hml : c.maxLocals = 5 := hml0
  have hown : s.vm.findClass "com/example/wepwawet/wepwawet/server/Status" = some m.cls := findClass_of_methodNamed Bd.named
  have hnm := (name_of_methodNamed Bd.named Bd.method).1
  have X0 : Stand p l e ({ frames := 2, cells := 1, slots := 6, locals := 25 } : Room) s m #[(.int p1)] below meth c s₁ [] 0 0 := Stand.of_body Bd
  have e0 : s₁.heap = h0 := by rw [← hh, Bd.state]; rfl
  have N0 := Fr.nil n0
  have pre0 : ∀ t, Steps p.tables e below (s₁.setTop (mkF m 0 #[.val (.int p1), .unset, .unset, .unset, .unset] [])) t → Steps p.tables e below (s₁.setTop (entryFrame m #[(.int p1)] 5)) t := fun t k => castTop (ef_2 m p1) k
  obtain ⟨_, _, ⟨T2, L2, k2, n2⟩, -, X2, ⟨Lc2, hQ2, l2, y2, z2⟩, st2⟩ := Jvm.LawKit.callS X0 hx (y := (⟨"com/example/wepwawet/wepwawet/server/Status", "values", "()[Lcom/example/wepwawet/wepwawet/server/Status;"⟩ : MethodName)) hown (mvT hZ (hw _ (List.mem_of_getElem? (i := 8) rfl))) (mvT hZ (hw _ (List.mem_of_getElem? (i := 9) rfl))) (mvT hZ (hw _ (List.mem_of_getElem? (i := 6) rfl))) (mvT hZ (hw _ (List.mem_of_getElem? (i := 10) rfl))) (by decide) (backOf (W := 0) (rm3 l Z a0 hw [] wV kA [.ref u0, .ref u1, .ref u2, .ref u3, .ref u4, .ref u5] h0 n0 Z0 S_V E_V V_V) hZ (hw _ (List.mem_of_getElem? (i := 10) rfl)) (hw _ (List.mem_of_getElem? (i := 6) rfl)) (by decide) (by decide)) (g := (mkF m 0 #[.val (.int p1), .unset, .unset, .unset, .unset] [])) rfl (by rw [hml]; rfl) (argsL := []) (rest := []) (lenOf pd_2_2 rfl) rfl (by show 2 * 0 + _ ≤ _; exact Nat.le_of_eq rfl) (hb hby d2_0) (fun _ _ => ⟨rfl, e0, (by decide : 0 + 1 ≤ _), (by decide : 0 + 6 ≤ _)⟩)
  dsimp only [Pt.U, Pt.locs, Pt.cells, Pt.slots] at X2 l2 y2 z2 st2 hQ2
  subst l2 y2 z2
  obtain ⟨bA, rfl, N2q, K2, V_bA⟩ := hQ2
  have N2 := Fr.app N0 N2q
  obtain ⟨cl_bA_5, Ar_bA, q_bA, S_bA, N_bA, H_bA, G_bA⟩ := V_bA
  have hin16 : ¬ ((0 : Int32) < 0 ∨ cl_bA_5.slots.size ≤ ((0 : Int32)).toNatClampNeg) := inb_of S_bA ⟨by decide, by decide⟩
  have hat16 : cl_bA_5.slots[((0 : Int32)).toNatClampNeg]? = some (.ref u0) := H_bA.at hin16 rfl
  obtain ⟨T4, X4, e4, st4⟩ := getF X2 hx hZ hown (host := "") (Or.inl (hw _ (List.mem_of_getElem? (i := 29) rfl))) Via.refl rfl (F_httpCode_u0.keep K2 List.not_mem_nil) (g := (mkF m 21 #[.val (.int p1), .val (.ref bA), .val (.int (6 : Int32)), .val (.int (0 : Int32)), .val (.ref u0)] [(.ref u0)])) rfl rfl (hb hby d2_21)
  have hin16_2 : ¬ ((1 : Int32) < 0 ∨ cl_bA_5.slots.size ≤ ((1 : Int32)).toNatClampNeg) := inb_of S_bA ⟨by decide, by decide⟩
  have hat16_2 : cl_bA_5.slots[((1 : Int32)).toNatClampNeg]? = some (.ref u1) := H_bA.at hin16_2 rfl
  obtain ⟨T6, X6, e6, st6⟩ := getF X4 hx hZ hown (host := "") (Or.inl (hw _ (List.mem_of_getElem? (i := 29) rfl))) Via.refl e4 (F_httpCode_u1.keep K2 List.not_mem_nil) (g := (mkF m 21 #[.val (.int p1), .val (.ref bA), .val (.int (6 : Int32)), .val (.int (1 : Int32)), .val (.ref u1)] [(.ref u1)])) rfl rfl (hb hby d2_21)
  obtain ⟨fs, hr, hrun, hended, hW, hsame⟩ := X6.leave (v := some (.ref u1)) (fun h => by rw [Bd.returns] at h; cases h)
  refine ⟨_, _, pre0 _ ?_, hrun, hended, _, _, rfl, ?_, ⟨_, rfl⟩, hW, hsame.mono (by decide) (by decide)⟩
  · show Steps p.tables e below (s₁.setTop (mkF m 0 #[.val (.int p1), .unset, .unset, .unset, .unset] [])) _
    refine st2 _ ?_
    show Steps p.tables e below (T2.setTop (mkF m 3 #[.val (.int p1), .unset, .unset, .unset, .unset] [(.ref bA)])) _
    refine XS.astoreN X2.here hx rfl (hb hby d2_3) rfl rfl (l' := #[.val (.int p1), .val (.ref bA), .unset, .unset, .unset]) rfl ?_
    show Steps p.tables e below (T2.setTop (mkF m 4 #[.val (.int p1), .val (.ref bA), .unset, .unset, .unset] [])) _
    refine XS.aloadN X2.here hx rfl (hb hby d2_4) rfl rfl ?_
    show Steps p.tables e below (T2.setTop (mkF m 5 #[.val (.int p1), .val (.ref bA), .unset, .unset, .unset] [(.ref bA)])) _
    refine X2.arraylength hx (by exact Ar_bA.1) (State.isArrayOf_alike hZ.alike Ar_bA.2.1) (g := (mkF m 5 #[.val (.int p1), .val (.ref bA), .unset, .unset, .unset] [(.ref bA)])) rfl rfl (hb hby d2_5) _ ?_
    rw [len_of S_bA N_bA]
    show Steps p.tables e below (T2.setTop (mkF m 6 #[.val (.int p1), .val (.ref bA), .unset, .unset, .unset] [(.int (6 : Int32))])) _
    refine XS.istoreN X2.here hx rfl (hb hby d2_6) rfl (l' := #[.val (.int p1), .val (.ref bA), .val (.int (6 : Int32)), .unset, .unset]) rfl ?_
    show Steps p.tables e below (T2.setTop (mkF m 7 #[.val (.int p1), .val (.ref bA), .val (.int (6 : Int32)), .unset, .unset] [])) _
    refine XS.iconst X2.here hx rfl (hb hby d2_7) ?_
    show Steps p.tables e below (T2.setTop (mkF m 8 #[.val (.int p1), .val (.ref bA), .val (.int (6 : Int32)), .unset, .unset] [(.int (0 : Int32))])) _
    refine XS.istoreN X2.here hx rfl (hb hby d2_8) rfl (l' := #[.val (.int p1), .val (.ref bA), .val (.int (6 : Int32)), .val (.int (0 : Int32)), .unset]) rfl ?_
    show Steps p.tables e below (T2.setTop (mkF m 9 #[.val (.int p1), .val (.ref bA), .val (.int (6 : Int32)), .val (.int (0 : Int32)), .unset] [])) _
    refine XS.iloadN X2.here hx rfl (hb hby d2_9) rfl ?_
    show Steps p.tables e below (T2.setTop (mkF m 10 #[.val (.int p1), .val (.ref bA), .val (.int (6 : Int32)), .val (.int (0 : Int32)), .unset] [(.int (0 : Int32))])) _
    refine XS.iloadN X2.here hx rfl (hb hby d2_10) rfl ?_
    show Steps p.tables e below (T2.setTop (mkF m 11 #[.val (.int p1), .val (.ref bA), .val (.int (6 : Int32)), .val (.int (0 : Int32)), .unset] [(.int (6 : Int32)), (.int (0 : Int32))])) _
    refine XS.icmpNo X2.here hx rfl (hb hby d2_11) rfl (tlt (by decide : (0 : Int32) < (6 : Int32))).2.1 ?_
    show Steps p.tables e below (T2.setTop (mkF m 14 #[.val (.int p1), .val (.ref bA), .val (.int (6 : Int32)), .val (.int (0 : Int32)), .unset] [])) _
    refine XS.aloadN X2.here hx rfl (hb hby d2_14) rfl rfl ?_
    show Steps p.tables e below (T2.setTop (mkF m 15 #[.val (.int p1), .val (.ref bA), .val (.int (6 : Int32)), .val (.int (0 : Int32)), .unset] [(.ref bA)])) _
    refine XS.iloadN X2.here hx rfl (hb hby d2_15) rfl ?_
    show Steps p.tables e below (T2.setTop (mkF m 16 #[.val (.int p1), .val (.ref bA), .val (.int (6 : Int32)), .val (.int (0 : Int32)), .unset] [(.int (0 : Int32)), (.ref bA)])) _
    refine X2.aaload hx (j := (0 : Int32)) (v := (.ref u0)) (by exact Ar_bA.1) (State.isArrayOf_alike hZ.alike Ar_bA.2.1) rfl Ar_bA.2.2 hin16 hat16 (g := (mkF m 16 #[.val (.int p1), .val (.ref bA), .val (.int (6 : Int32)), .val (.int (0 : Int32)), .unset] [(.int (0 : Int32)), (.ref bA)])) rfl rfl (hb hby d2_16) _ ?_
    show Steps p.tables e below (T2.setTop (mkF m 17 #[.val (.int p1), .val (.ref bA), .val (.int (6 : Int32)), .val (.int (0 : Int32)), .unset] [(.ref u0)])) _
    refine XS.astore X2.here hx rfl (hb hby d2_17) rfl rfl (l' := #[.val (.int p1), .val (.ref bA), .val (.int (6 : Int32)), .val (.int (0 : Int32)), .val (.ref u0)]) rfl ?_
    show Steps p.tables e below (T2.setTop (mkF m 19 #[.val (.int p1), .val (.ref bA), .val (.int (6 : Int32)), .val (.int (0 : Int32)), .val (.ref u0)] [])) _
    refine XS.aload X2.here hx rfl (hb hby d2_19) rfl rfl ?_
    show Steps p.tables e below (T2.setTop (mkF m 21 #[.val (.int p1), .val (.ref bA), .val (.int (6 : Int32)), .val (.int (0 : Int32)), .val (.ref u0)] [(.ref u0)])) _
    refine st4 _ ?_
    show Steps p.tables e below (T4.setTop (mkF m 24 #[.val (.int p1), .val (.ref bA), .val (.int (6 : Int32)), .val (.int (0 : Int32)), .val (.ref u0)] [(.int w3)])) _
    refine XS.iloadN X4.here hx rfl (hb hby d2_24) rfl ?_
    show Steps p.tables e below (T4.setTop (mkF m 25 #[.val (.int p1), .val (.ref bA), .val (.int (6 : Int32)), .val (.int (0 : Int32)), .val (.ref u0)] [(.int p1), (.int w3)])) _
    refine XS.icmpYes X4.here hx rfl (pc0 := 25) (pc' := 31) rfl (hb hby d2_25) rfl (feq hc25).2 (by decide) (by decide) ?_
    show Steps p.tables e below (T4.setTop (mkF m 31 #[.val (.int p1), .val (.ref bA), .val (.int (6 : Int32)), .val (.int (0 : Int32)), .val (.ref u0)] [])) _
    refine XS.iinc X4.here hx rfl (hb hby d2_31) rfl (l' := #[.val (.int p1), .val (.ref bA), .val (.int (6 : Int32)), .val (.int (1 : Int32)), .val (.ref u0)]) rfl ?_
    show Steps p.tables e below (T4.setTop (mkF m 34 #[.val (.int p1), .val (.ref bA), .val (.int (6 : Int32)), .val (.int (1 : Int32)), .val (.ref u0)] [])) _
    refine XS.goto X4.here hx rfl (pc0 := 34) (pc' := 9) rfl (hb hby d2_34) (by decide) (by decide) ?_
    show Steps p.tables e below (T4.setTop (mkF m 9 #[.val (.int p1), .val (.ref bA), .val (.int (6 : Int32)), .val (.int (1 : Int32)), .val (.ref u0)] [])) _
    refine XS.iloadN X4.here hx rfl (hb hby d2_9) rfl ?_
    show Steps p.tables e below (T4.setTop (mkF m 10 #[.val (.int p1), .val (.ref bA), .val (.int (6 : Int32)), .val (.int (1 : Int32)), .val (.ref u0)] [(.int (1 : Int32))])) _
    refine XS.iloadN X4.here hx rfl (hb hby d2_10) rfl ?_
    show Steps p.tables e below (T4.setTop (mkF m 11 #[.val (.int p1), .val (.ref bA), .val (.int (6 : Int32)), .val (.int (1 : Int32)), .val (.ref u0)] [(.int (6 : Int32)), (.int (1 : Int32))])) _
    refine XS.icmpNo X4.here hx rfl (hb hby d2_11) rfl (tlt (by decide : (1 : Int32) < (6 : Int32))).2.1 ?_
    show Steps p.tables e below (T4.setTop (mkF m 14 #[.val (.int p1), .val (.ref bA), .val (.int (6 : Int32)), .val (.int (1 : Int32)), .val (.ref u0)] [])) _
    refine XS.aloadN X4.here hx rfl (hb hby d2_14) rfl rfl ?_
    show Steps p.tables e below (T4.setTop (mkF m 15 #[.val (.int p1), .val (.ref bA), .val (.int (6 : Int32)), .val (.int (1 : Int32)), .val (.ref u0)] [(.ref bA)])) _
    refine XS.iloadN X4.here hx rfl (hb hby d2_15) rfl ?_
    show Steps p.tables e below (T4.setTop (mkF m 16 #[.val (.int p1), .val (.ref bA), .val (.int (6 : Int32)), .val (.int (1 : Int32)), .val (.ref u0)] [(.int (1 : Int32)), (.ref bA)])) _
    refine X4.aaload hx (j := (1 : Int32)) (v := (.ref u1)) (by rw [e4]; exact Ar_bA.1) (State.isArrayOf_alike hZ.alike Ar_bA.2.1) rfl Ar_bA.2.2 hin16_2 hat16_2 (g := (mkF m 16 #[.val (.int p1), .val (.ref bA), .val (.int (6 : Int32)), .val (.int (1 : Int32)), .val (.ref u0)] [(.int (1 : Int32)), (.ref bA)])) rfl rfl (hb hby d2_16) _ ?_
    show Steps p.tables e below (T4.setTop (mkF m 17 #[.val (.int p1), .val (.ref bA), .val (.int (6 : Int32)), .val (.int (1 : Int32)), .val (.ref u0)] [(.ref u1)])) _
    refine XS.astore X4.here hx rfl (hb hby d2_17) rfl rfl (l' := #[.val (.int p1), .val (.ref bA), .val (.int (6 : Int32)), .val (.int (1 : Int32)), .val (.ref u1)]) rfl ?_
    show Steps p.tables e below (T4.setTop (mkF m 19 #[.val (.int p1), .val (.ref bA), .val (.int (6 : Int32)), .val (.int (1 : Int32)), .val (.ref u1)] [])) _
    refine XS.aload X4.here hx rfl (hb hby d2_19) rfl rfl ?_
    show Steps p.tables e below (T4.setTop (mkF m 21 #[.val (.int p1), .val (.ref bA), .val (.int (6 : Int32)), .val (.int (1 : Int32)), .val (.ref u1)] [(.ref u1)])) _
    refine st6 _ ?_
    show Steps p.tables e below (T6.setTop (mkF m 24 #[.val (.int p1), .val (.ref bA), .val (.int (6 : Int32)), .val (.int (1 : Int32)), .val (.ref u1)] [(.int w5)])) _
    refine XS.iloadN X6.here hx rfl (hb hby d2_24) rfl ?_
    show Steps p.tables e below (T6.setTop (mkF m 25 #[.val (.int p1), .val (.ref bA), .val (.int (6 : Int32)), .val (.int (1 : Int32)), .val (.ref u1)] [(.int p1), (.int w5)])) _
    refine XS.icmpNo X6.here hx rfl (hb hby d2_25) rfl (teq hc25_2).2 ?_
    show Steps p.tables e below (T6.setTop (mkF m 28 #[.val (.int p1), .val (.ref bA), .val (.int (6 : Int32)), .val (.int (1 : Int32)), .val (.ref u1)] [])) _
    refine XS.aload X6.here hx rfl (hb hby d2_28) rfl rfl ?_
    show Steps p.tables e below (T6.setTop (mkF m 30 #[.val (.int p1), .val (.ref bA), .val (.int (6 : Int32)), .val (.int (1 : Int32)), .val (.ref u1)] [(.ref u1)])) _
    jvm_step X6.here [X6.here.top, hx, (hb hby d2_30), X6.method', Bd.returns, Value.isRef, FieldType.isReference]
    first | (intro acts; rw [hr _ acts rfl rfl rfl]) | rw [hr _ _ rfl rfl rfl]
    exact Steps.refl _
  · show Q2 u1 h0 n0 _ T6.heap _
    rw [e6]
    exact ⟨rfl, N2, K2⟩
set_option maxRecDepth 65536 in
set_option maxHeartbeats 40000000 in
theorem rm2_ftftff (l : Launch) (Z : State) (a0 : Array Value) (hw : ∀ d ∈ tables_1, d.before a0 Z = true) (ws : List Jvm.Cond) (p1 : Int32) (u0 : Addr) (u1 : Addr) (u2 : Addr) (u3 : Addr) (u4 : Addr) (u5 : Addr) (w3 : Int32) (w5 : Int32) (w7 : Int32) (wV : Addr) (kA : ClassId) (h0 : Heap) (n0 : Nat) (Z0 : n0 ≤ h0.size) (S_V : Sta Z h0 "com/example/wepwawet/wepwawet/server/Status" "$VALUES" "[Lcom/example/wepwawet/wepwawet/server/Status;" (.ref wV)) (E_V : Exa Z h0 wV "[Lcom/example/wepwawet/wepwawet/server/Status;") (V_V : Arv Z h0 wV kA (.object "com/example/wepwawet/wepwawet/server/Status") (6 : Int32) [.ref u0, .ref u1, .ref u2, .ref u3, .ref u4, .ref u5] .null) (F_httpCode_u0 : Fld Z h0 u0 "com/example/wepwawet/wepwawet/server/Status" "httpCode" "I" (.int w3)) (F_httpCode_u1 : Fld Z h0 u1 "com/example/wepwawet/wepwawet/server/Status" "httpCode" "I" (.int w5)) (F_httpCode_u2 : Fld Z h0 u2 "com/example/wepwawet/wepwawet/server/Status" "httpCode" "I" (.int w7)) (hc25 : ¬ (w3 = p1)) (hc25_2 : ¬ (w5 = p1)) (hc25_3 : w7 = p1) :
    MetFree l (⟨"com/example/wepwawet/wepwawet/server/Status", "forHttpCode", "(I)Lcom/example/wepwawet/wepwawet/server/Status;"⟩ : MethodName) (head1 (Jvm.Cond.code (⟨"com/example/wepwawet/wepwawet/server/Status", "forHttpCode", "(I)Lcom/example/wepwawet/wepwawet/server/Status;"⟩ : MethodName) prog_29_method_5_code 5 (some (.object "com/example/wepwawet/wepwawet/server/Status")) :: ws) ({ frames := 2, cells := 1, slots := 6, locals := 25 } : Room)) (fun a U => a = #[(.int p1)] ∧ Z.Warmed39 U.vm ∧ U.heap = h0) (fun _ _ _ _ _ => True) (fun _ U o U' => ∃ v L, o = .returned v ∧ Q2 u2 h0 n0 v U'.heap L ∧ FrameEnd U o U' L ({ frames := 2, cells := 1, slots := 6, locals := 25 } : Room).cells ({ frames := 2, cells := 1, slots := 6, locals := 25 } : Room).slots) := by
  refine MetFree.of_bodySF (plainFor_of_name pn_2) hisR ?_
  intro p e s m args below meth c s₁ Bd hml0 hP hK
  obtain ⟨rfl, hZ, hh⟩ := hP
  have hx := Bd.exec
  have hby := Bd.bytes
  have hml : c.maxLocals = 5 := hml0
  have hown : s.vm.findClass "com/example/wepwawet/wepwawet/server/Status" = some m.cls := findClass_of_methodNamed Bd.named
  have hnm := (name_of_methodNamed Bd.named Bd.method).1
  have X0 : Stand p l e ({ frames := 2, cells := 1, slots := 6, locals := 25 } : Room) s m #[(.int p1)] below meth c s₁ [] 0 0 := Stand.of_body Bd
  have e0 : s₁.heap = h0 := by rw [← hh, Bd.state]; rfl
  have N0 := Fr.nil n0
  have pre0 : ∀ t, Steps p.tables e below (s₁.setTop (mkF m 0 #[.val (.int p1), .unset, .unset, .unset, .unset] [])) t → Steps p.tables e below (s₁.setTop (entryFrame m #[(.int p1)] 5)) t := fun t k => castTop (ef_2 m p1) k
  obtain ⟨_, _, ⟨T2, L2, k2, n2⟩, -, X2, ⟨Lc2, hQ2, l2, y2, z2⟩, st2⟩ := Jvm.LawKit.callS X0 hx (y := (⟨"com/example/wepwawet/wepwawet/server/Status", "values", "()[Lcom/example/wepwawet/wepwawet/server/Status;"⟩ : MethodName)) hown (mvT hZ (hw _ (List.mem_of_getElem? (i := 8) rfl))) (mvT hZ (hw _ (List.mem_of_getElem? (i := 9) rfl))) (mvT hZ (hw _ (List.mem_of_getElem? (i := 6) rfl))) (mvT hZ (hw _ (List.mem_of_getElem? (i := 10) rfl))) (by decide) (backOf (W := 0) (rm3 l Z a0 hw [] wV kA [.ref u0, .ref u1, .ref u2, .ref u3, .ref u4, .ref u5] h0 n0 Z0 S_V E_V V_V) hZ (hw _ (List.mem_of_getElem? (i := 10) rfl)) (hw _ (List.mem_of_getElem? (i := 6) rfl)) (by decide) (by decide)) (g := (mkF m 0 #[.val (.int p1), .unset, .unset, .unset, .unset] [])) rfl (by rw [hml]; rfl) (argsL := []) (rest := []) (lenOf pd_2_2 rfl) rfl (by show 2 * 0 + _ ≤ _; exact Nat.le_of_eq rfl) (hb hby d2_0) (fun _ _ => ⟨rfl, e0, (by decide : 0 + 1 ≤ _), (by decide : 0 + 6 ≤ _)⟩)
  dsimp only [Pt.U, Pt.locs, Pt.cells, Pt.slots] at X2 l2 y2 z2 st2 hQ2
  subst l2 y2 z2
  obtain ⟨bA, rfl, N2q, K2, V_bA⟩ := hQ2
  have N2 := Fr.app N0 N2q
  obtain ⟨cl_bA_5, Ar_bA, q_bA, S_bA, N_bA, H_bA, G_bA⟩ := V_bA
  have hin16 : ¬ ((0 : Int32) < 0 ∨ cl_bA_5.slots.size ≤ ((0 : Int32)).toNatClampNeg) := inb_of S_bA ⟨by decide, by decide⟩
  have hat16 : cl_bA_5.slots[((0 : Int32)).toNatClampNeg]? = some (.ref u0) := H_bA.at hin16 rfl
  obtain ⟨T4, X4, e4, st4⟩ := getF X2 hx hZ hown (host := "") (Or.inl (hw _ (List.mem_of_getElem? (i := 29) rfl))) Via.refl rfl (F_httpCode_u0.keep K2 List.not_mem_nil) (g := (mkF m 21 #[.val (.int p1), .val (.ref bA), .val (.int (6 : Int32)), .val (.int (0 : Int32)), .val (.ref u0)] [(.ref u0)])) rfl rfl (hb hby d2_21)
  have hin16_2 : ¬ ((1 : Int32) < 0 ∨ cl_bA_5.slots.size ≤ ((1 : Int32)).toNatClampNeg) := inb_of S_bA ⟨by decide, by decide⟩
  have hat16_2 : cl_bA_5.slots[((1 : Int32)).toNatClampNeg]? = some (.ref u1) := H_bA.at hin16_2 rfl
  obtain ⟨T6, X6, e6, st6⟩ := getF X4 hx hZ hown (host := "") (Or.inl (hw _ (List.mem_of_getElem? (i := 29) rfl))) Via.refl e4 (F_httpCode_u1.keep K2 List.not_mem_nil) (g := (mkF m 21 #[.val (.int p1), .val (.ref bA), .val (.int (6 : Int32)), .val (.int (1 : Int32)), .val (.ref u1)] [(.ref u1)])) rfl rfl (hb hby d2_21)
  have hin16_3 : ¬ ((2 : Int32) < 0 ∨ cl_bA_5.slots.size ≤ ((2 : Int32)).toNatClampNeg) := inb_of S_bA ⟨by decide, by decide⟩
  have hat16_3 : cl_bA_5.slots[((2 : Int32)).toNatClampNeg]? = some (.ref u2) := H_bA.at hin16_3 rfl
  obtain ⟨T8, X8, e8, st8⟩ := getF X6 hx hZ hown (host := "") (Or.inl (hw _ (List.mem_of_getElem? (i := 29) rfl))) Via.refl e6 (F_httpCode_u2.keep K2 List.not_mem_nil) (g := (mkF m 21 #[.val (.int p1), .val (.ref bA), .val (.int (6 : Int32)), .val (.int (2 : Int32)), .val (.ref u2)] [(.ref u2)])) rfl rfl (hb hby d2_21)
  obtain ⟨fs, hr, hrun, hended, hW, hsame⟩ := X8.leave (v := some (.ref u2)) (fun h => by rw [Bd.returns] at h; cases h)
  refine ⟨_, _, pre0 _ ?_, hrun, hended, _, _, rfl, ?_, ⟨_, rfl⟩, hW, hsame.mono (by decide) (by decide)⟩
  · show Steps p.tables e below (s₁.setTop (mkF m 0 #[.val (.int p1), .unset, .unset, .unset, .unset] [])) _
    refine st2 _ ?_
    show Steps p.tables e below (T2.setTop (mkF m 3 #[.val (.int p1), .unset, .unset, .unset, .unset] [(.ref bA)])) _
    refine XS.astoreN X2.here hx rfl (hb hby d2_3) rfl rfl (l' := #[.val (.int p1), .val (.ref bA), .unset, .unset, .unset]) rfl ?_
    show Steps p.tables e below (T2.setTop (mkF m 4 #[.val (.int p1), .val (.ref bA), .unset, .unset, .unset] [])) _
    refine XS.aloadN X2.here hx rfl (hb hby d2_4) rfl rfl ?_
    show Steps p.tables e below (T2.setTop (mkF m 5 #[.val (.int p1), .val (.ref bA), .unset, .unset, .unset] [(.ref bA)])) _
    refine X2.arraylength hx (by exact Ar_bA.1) (State.isArrayOf_alike hZ.alike Ar_bA.2.1) (g := (mkF m 5 #[.val (.int p1), .val (.ref bA), .unset, .unset, .unset] [(.ref bA)])) rfl rfl (hb hby d2_5) _ ?_
    rw [len_of S_bA N_bA]
    show Steps p.tables e below (T2.setTop (mkF m 6 #[.val (.int p1), .val (.ref bA), .unset, .unset, .unset] [(.int (6 : Int32))])) _
    refine XS.istoreN X2.here hx rfl (hb hby d2_6) rfl (l' := #[.val (.int p1), .val (.ref bA), .val (.int (6 : Int32)), .unset, .unset]) rfl ?_
    show Steps p.tables e below (T2.setTop (mkF m 7 #[.val (.int p1), .val (.ref bA), .val (.int (6 : Int32)), .unset, .unset] [])) _
    refine XS.iconst X2.here hx rfl (hb hby d2_7) ?_
    show Steps p.tables e below (T2.setTop (mkF m 8 #[.val (.int p1), .val (.ref bA), .val (.int (6 : Int32)), .unset, .unset] [(.int (0 : Int32))])) _
    refine XS.istoreN X2.here hx rfl (hb hby d2_8) rfl (l' := #[.val (.int p1), .val (.ref bA), .val (.int (6 : Int32)), .val (.int (0 : Int32)), .unset]) rfl ?_
    show Steps p.tables e below (T2.setTop (mkF m 9 #[.val (.int p1), .val (.ref bA), .val (.int (6 : Int32)), .val (.int (0 : Int32)), .unset] [])) _
    refine XS.iloadN X2.here hx rfl (hb hby d2_9) rfl ?_
    show Steps p.tables e below (T2.setTop (mkF m 10 #[.val (.int p1), .val (.ref bA), .val (.int (6 : Int32)), .val (.int (0 : Int32)), .unset] [(.int (0 : Int32))])) _
    refine XS.iloadN X2.here hx rfl (hb hby d2_10) rfl ?_
    show Steps p.tables e below (T2.setTop (mkF m 11 #[.val (.int p1), .val (.ref bA), .val (.int (6 : Int32)), .val (.int (0 : Int32)), .unset] [(.int (6 : Int32)), (.int (0 : Int32))])) _
    refine XS.icmpNo X2.here hx rfl (hb hby d2_11) rfl (tlt (by decide : (0 : Int32) < (6 : Int32))).2.1 ?_
    show Steps p.tables e below (T2.setTop (mkF m 14 #[.val (.int p1), .val (.ref bA), .val (.int (6 : Int32)), .val (.int (0 : Int32)), .unset] [])) _
    refine XS.aloadN X2.here hx rfl (hb hby d2_14) rfl rfl ?_
    show Steps p.tables e below (T2.setTop (mkF m 15 #[.val (.int p1), .val (.ref bA), .val (.int (6 : Int32)), .val (.int (0 : Int32)), .unset] [(.ref bA)])) _
    refine XS.iloadN X2.here hx rfl (hb hby d2_15) rfl ?_
    show Steps p.tables e below (T2.setTop (mkF m 16 #[.val (.int p1), .val (.ref bA), .val (.int (6 : Int32)), .val (.int (0 : Int32)), .unset] [(.int (0 : Int32)), (.ref bA)])) _
    refine X2.aaload hx (j := (0 : Int32)) (v := (.ref u0)) (by exact Ar_bA.1) (State.isArrayOf_alike hZ.alike Ar_bA.2.1) rfl Ar_bA.2.2 hin16 hat16 (g := (mkF m 16 #[.val (.int p1), .val (.ref bA), .val (.int (6 : Int32)), .val (.int (0 : Int32)), .unset] [(.int (0 : Int32)), (.ref bA)])) rfl rfl (hb hby d2_16) _ ?_
    show Steps p.tables e below (T2.setTop (mkF m 17 #[.val (.int p1), .val (.ref bA), .val (.int (6 : Int32)), .val (.int (0 : Int32)), .unset] [(.ref u0)])) _
    refine XS.astore X2.here hx rfl (hb hby d2_17) rfl rfl (l' := #[.val (.int p1), .val (.ref bA), .val (.int (6 : Int32)), .val (.int (0 : Int32)), .val (.ref u0)]) rfl ?_
    show Steps p.tables e below (T2.setTop (mkF m 19 #[.val (.int p1), .val (.ref bA), .val (.int (6 : Int32)), .val (.int (0 : Int32)), .val (.ref u0)] [])) _
    refine XS.aload X2.here hx rfl (hb hby d2_19) rfl rfl ?_
    show Steps p.tables e below (T2.setTop (mkF m 21 #[.val (.int p1), .val (.ref bA), .val (.int (6 : Int32)), .val (.int (0 : Int32)), .val (.ref u0)] [(.ref u0)])) _
    refine st4 _ ?_
    show Steps p.tables e below (T4.setTop (mkF m 24 #[.val (.int p1), .val (.ref bA), .val (.int (6 : Int32)), .val (.int (0 : Int32)), .val (.ref u0)] [(.int w3)])) _
    refine XS.iloadN X4.here hx rfl (hb hby d2_24) rfl ?_
    show Steps p.tables e below (T4.setTop (mkF m 25 #[.val (.int p1), .val (.ref bA), .val (.int (6 : Int32)), .val (.int (0 : Int32)), .val (.ref u0)] [(.int p1), (.int w3)])) _
    refine XS.icmpYes X4.here hx rfl (pc0 := 25) (pc' := 31) rfl (hb hby d2_25) rfl (feq hc25).2 (by decide) (by decide) ?_
    show Steps p.tables e below (T4.setTop (mkF m 31 #[.val (.int p1), .val (.ref bA), .val (.int (6 : Int32)), .val (.int (0 : Int32)), .val (.ref u0)] [])) _
    refine XS.iinc X4.here hx rfl (hb hby d2_31) rfl (l' := #[.val (.int p1), .val (.ref bA), .val (.int (6 : Int32)), .val (.int (1 : Int32)), .val (.ref u0)]) rfl ?_
    show Steps p.tables e below (T4.setTop (mkF m 34 #[.val (.int p1), .val (.ref bA), .val (.int (6 : Int32)), .val (.int (1 : Int32)), .val (.ref u0)] [])) _
    refine XS.goto X4.here hx rfl (pc0 := 34) (pc' := 9) rfl (hb hby d2_34) (by decide) (by decide) ?_
    show Steps p.tables e below (T4.setTop (mkF m 9 #[.val (.int p1), .val (.ref bA), .val (.int (6 : Int32)), .val (.int (1 : Int32)), .val (.ref u0)] [])) _
    refine XS.iloadN X4.here hx rfl (hb hby d2_9) rfl ?_
    show Steps p.tables e below (T4.setTop (mkF m 10 #[.val (.int p1), .val (.ref bA), .val (.int (6 : Int32)), .val (.int (1 : Int32)), .val (.ref u0)] [(.int (1 : Int32))])) _
    refine XS.iloadN X4.here hx rfl (hb hby d2_10) rfl ?_
    show Steps p.tables e below (T4.setTop (mkF m 11 #[.val (.int p1), .val (.ref bA), .val (.int (6 : Int32)), .val (.int (1 : Int32)), .val (.ref u0)] [(.int (6 : Int32)), (.int (1 : Int32))])) _
    refine XS.icmpNo X4.here hx rfl (hb hby d2_11) rfl (tlt (by decide : (1 : Int32) < (6 : Int32))).2.1 ?_
    show Steps p.tables e below (T4.setTop (mkF m 14 #[.val (.int p1), .val (.ref bA), .val (.int (6 : Int32)), .val (.int (1 : Int32)), .val (.ref u0)] [])) _
    refine XS.aloadN X4.here hx rfl (hb hby d2_14) rfl rfl ?_
    show Steps p.tables e below (T4.setTop (mkF m 15 #[.val (.int p1), .val (.ref bA), .val (.int (6 : Int32)), .val (.int (1 : Int32)), .val (.ref u0)] [(.ref bA)])) _
    refine XS.iloadN X4.here hx rfl (hb hby d2_15) rfl ?_
    show Steps p.tables e below (T4.setTop (mkF m 16 #[.val (.int p1), .val (.ref bA), .val (.int (6 : Int32)), .val (.int (1 : Int32)), .val (.ref u0)] [(.int (1 : Int32)), (.ref bA)])) _
    refine X4.aaload hx (j := (1 : Int32)) (v := (.ref u1)) (by rw [e4]; exact Ar_bA.1) (State.isArrayOf_alike hZ.alike Ar_bA.2.1) rfl Ar_bA.2.2 hin16_2 hat16_2 (g := (mkF m 16 #[.val (.int p1), .val (.ref bA), .val (.int (6 : Int32)), .val (.int (1 : Int32)), .val (.ref u0)] [(.int (1 : Int32)), (.ref bA)])) rfl rfl (hb hby d2_16) _ ?_
    show Steps p.tables e below (T4.setTop (mkF m 17 #[.val (.int p1), .val (.ref bA), .val (.int (6 : Int32)), .val (.int (1 : Int32)), .val (.ref u0)] [(.ref u1)])) _
    refine XS.astore X4.here hx rfl (hb hby d2_17) rfl rfl (l' := #[.val (.int p1), .val (.ref bA), .val (.int (6 : Int32)), .val (.int (1 : Int32)), .val (.ref u1)]) rfl ?_
    show Steps p.tables e below (T4.setTop (mkF m 19 #[.val (.int p1), .val (.ref bA), .val (.int (6 : Int32)), .val (.int (1 : Int32)), .val (.ref u1)] [])) _
    refine XS.aload X4.here hx rfl (hb hby d2_19) rfl rfl ?_
    show Steps p.tables e below (T4.setTop (mkF m 21 #[.val (.int p1), .val (.ref bA), .val (.int (6 : Int32)), .val (.int (1 : Int32)), .val (.ref u1)] [(.ref u1)])) _
    refine st6 _ ?_
    show Steps p.tables e below (T6.setTop (mkF m 24 #[.val (.int p1), .val (.ref bA), .val (.int (6 : Int32)), .val (.int (1 : Int32)), .val (.ref u1)] [(.int w5)])) _
    refine XS.iloadN X6.here hx rfl (hb hby d2_24) rfl ?_
    show Steps p.tables e below (T6.setTop (mkF m 25 #[.val (.int p1), .val (.ref bA), .val (.int (6 : Int32)), .val (.int (1 : Int32)), .val (.ref u1)] [(.int p1), (.int w5)])) _
    refine XS.icmpYes X6.here hx rfl (pc0 := 25) (pc' := 31) rfl (hb hby d2_25) rfl (feq hc25_2).2 (by decide) (by decide) ?_
    show Steps p.tables e below (T6.setTop (mkF m 31 #[.val (.int p1), .val (.ref bA), .val (.int (6 : Int32)), .val (.int (1 : Int32)), .val (.ref u1)] [])) _
    refine XS.iinc X6.here hx rfl (hb hby d2_31) rfl (l' := #[.val (.int p1), .val (.ref bA), .val (.int (6 : Int32)), .val (.int (2 : Int32)), .val (.ref u1)]) rfl ?_
    show Steps p.tables e below (T6.setTop (mkF m 34 #[.val (.int p1), .val (.ref bA), .val (.int (6 : Int32)), .val (.int (2 : Int32)), .val (.ref u1)] [])) _
    refine XS.goto X6.here hx rfl (pc0 := 34) (pc' := 9) rfl (hb hby d2_34) (by decide) (by decide) ?_
    show Steps p.tables e below (T6.setTop (mkF m 9 #[.val (.int p1), .val (.ref bA), .val (.int (6 : Int32)), .val (.int (2 : Int32)), .val (.ref u1)] [])) _
    refine XS.iloadN X6.here hx rfl (hb hby d2_9) rfl ?_
    show Steps p.tables e below (T6.setTop (mkF m 10 #[.val (.int p1), .val (.ref bA), .val (.int (6 : Int32)), .val (.int (2 : Int32)), .val (.ref u1)] [(.int (2 : Int32))])) _
    refine XS.iloadN X6.here hx rfl (hb hby d2_10) rfl ?_
    show Steps p.tables e below (T6.setTop (mkF m 11 #[.val (.int p1), .val (.ref bA), .val (.int (6 : Int32)), .val (.int (2 : Int32)), .val (.ref u1)] [(.int (6 : Int32)), (.int (2 : Int32))])) _
    refine XS.icmpNo X6.here hx rfl (hb hby d2_11) rfl (tlt (by decide : (2 : Int32) < (6 : Int32))).2.1 ?_
    show Steps p.tables e below (T6.setTop (mkF m 14 #[.val (.int p1), .val (.ref bA), .val (.int (6 : Int32)), .val (.int (2 : Int32)), .val (.ref u1)] [])) _
    refine XS.aloadN X6.here hx rfl (hb hby d2_14) rfl rfl ?_
    show Steps p.tables e below (T6.setTop (mkF m 15 #[.val (.int p1), .val (.ref bA), .val (.int (6 : Int32)), .val (.int (2 : Int32)), .val (.ref u1)] [(.ref bA)])) _
    refine XS.iloadN X6.here hx rfl (hb hby d2_15) rfl ?_
    show Steps p.tables e below (T6.setTop (mkF m 16 #[.val (.int p1), .val (.ref bA), .val (.int (6 : Int32)), .val (.int (2 : Int32)), .val (.ref u1)] [(.int (2 : Int32)), (.ref bA)])) _
    refine X6.aaload hx (j := (2 : Int32)) (v := (.ref u2)) (by rw [e6]; exact Ar_bA.1) (State.isArrayOf_alike hZ.alike Ar_bA.2.1) rfl Ar_bA.2.2 hin16_3 hat16_3 (g := (mkF m 16 #[.val (.int p1), .val (.ref bA), .val (.int (6 : Int32)), .val (.int (2 : Int32)), .val (.ref u1)] [(.int (2 : Int32)), (.ref bA)])) rfl rfl (hb hby d2_16) _ ?_
    show Steps p.tables e below (T6.setTop (mkF m 17 #[.val (.int p1), .val (.ref bA), .val (.int (6 : Int32)), .val (.int (2 : Int32)), .val (.ref u1)] [(.ref u2)])) _
    refine XS.astore X6.here hx rfl (hb hby d2_17) rfl rfl (l' := #[.val (.int p1), .val (.ref bA), .val (.int (6 : Int32)), .val (.int (2 : Int32)), .val (.ref u2)]) rfl ?_
    show Steps p.tables e below (T6.setTop (mkF m 19 #[.val (.int p1), .val (.ref bA), .val (.int (6 : Int32)), .val (.int (2 : Int32)), .val (.ref u2)] [])) _
    refine XS.aload X6.here hx rfl (hb hby d2_19) rfl rfl ?_
    show Steps p.tables e below (T6.setTop (mkF m 21 #[.val (.int p1), .val (.ref bA), .val (.int (6 : Int32)), .val (.int (2 : Int32)), .val (.ref u2)] [(.ref u2)])) _
    refine st8 _ ?_
    show Steps p.tables e below (T8.setTop (mkF m 24 #[.val (.int p1), .val (.ref bA), .val (.int (6 : Int32)), .val (.int (2 : Int32)), .val (.ref u2)] [(.int w7)])) _
    refine XS.iloadN X8.here hx rfl (hb hby d2_24) rfl ?_
    show Steps p.tables e below (T8.setTop (mkF m 25 #[.val (.int p1), .val (.ref bA), .val (.int (6 : Int32)), .val (.int (2 : Int32)), .val (.ref u2)] [(.int p1), (.int w7)])) _
    refine XS.icmpNo X8.here hx rfl (hb hby d2_25) rfl (teq hc25_3).2 ?_
    show Steps p.tables e below (T8.setTop (mkF m 28 #[.val (.int p1), .val (.ref bA), .val (.int (6 : Int32)), .val (.int (2 : Int32)), .val (.ref u2)] [])) _
    refine XS.aload X8.here hx rfl (hb hby d2_28) rfl rfl ?_
    show Steps p.tables e below (T8.setTop (mkF m 30 #[.val (.int p1), .val (.ref bA), .val (.int (6 : Int32)), .val (.int (2 : Int32)), .val (.ref u2)] [(.ref u2)])) _
    jvm_step X8.here [X8.here.top, hx, (hb hby d2_30), X8.method', Bd.returns, Value.isRef, FieldType.isReference]
    first | (intro acts; rw [hr _ acts rfl rfl rfl]) | rw [hr _ _ rfl rfl rfl]
    exact Steps.refl _
  · show Q2 u2 h0 n0 _ T8.heap _
    rw [e8]
    exact ⟨rfl, N2, K2⟩
set_option maxRecDepth 65536 in
set_option maxHeartbeats 40000000 in
theorem rm2_ftftftff (l : Launch) (Z : State) (a0 : Array Value) (hw : ∀ d ∈ tables_1, d.before a0 Z = true) (ws : List Jvm.Cond) (p1 : Int32) (u0 : Addr) (u1 : Addr) (u2 : Addr) (u3 : Addr) (u4 : Addr) (u5 : Addr) (w3 : Int32) (w5 : Int32) (w7 : Int32) (w9 : Int32) (wV : Addr) (kA : ClassId) (h0 : Heap) (n0 : Nat) (Z0 : n0 ≤ h0.size) (S_V : Sta Z h0 "com/example/wepwawet/wepwawet/server/Status" "$VALUES" "[Lcom/example/wepwawet/wepwawet/server/Status;" (.ref wV)) (E_V : Exa Z h0 wV "[Lcom/example/wepwawet/wepwawet/server/Status;") (V_V : Arv Z h0 wV kA (.object "com/example/wepwawet/wepwawet/server/Status") (6 : Int32) [.ref u0, .ref u1, .ref u2, .ref u3, .ref u4, .ref u5] .null) (F_httpCode_u0 : Fld Z h0 u0 "com/example/wepwawet/wepwawet/server/Status" "httpCode" "I" (.int w3)) (F_httpCode_u1 : Fld Z h0 u1 "com/example/wepwawet/wepwawet/server/Status" "httpCode" "I" (.int w5)) (F_httpCode_u2 : Fld Z h0 u2 "com/example/wepwawet/wepwawet/server/Status" "httpCode" "I" (.int w7)) (F_httpCode_u3 : Fld Z h0 u3 "com/example/wepwawet/wepwawet/server/Status" "httpCode" "I" (.int w9)) (hc25 : ¬ (w3 = p1)) (hc25_2 : ¬ (w5 = p1)) (hc25_3 : ¬ (w7 = p1)) (hc25_4 : w9 = p1) :
    MetFree l (⟨"com/example/wepwawet/wepwawet/server/Status", "forHttpCode", "(I)Lcom/example/wepwawet/wepwawet/server/Status;"⟩ : MethodName) (head1 (Jvm.Cond.code (⟨"com/example/wepwawet/wepwawet/server/Status", "forHttpCode", "(I)Lcom/example/wepwawet/wepwawet/server/Status;"⟩ : MethodName) prog_29_method_5_code 5 (some (.object "com/example/wepwawet/wepwawet/server/Status")) :: ws) ({ frames := 2, cells := 1, slots := 6, locals := 25 } : Room)) (fun a U => a = #[(.int p1)] ∧ Z.Warmed39 U.vm ∧ U.heap = h0) (fun _ _ _ _ _ => True) (fun _ U o U' => ∃ v L, o = .returned v ∧ Q2 u3 h0 n0 v U'.heap L ∧ FrameEnd U o U' L ({ frames := 2, cells := 1, slots := 6, locals := 25 } : Room).cells ({ frames := 2, cells := 1, slots := 6, locals := 25 } : Room).slots) := by
  refine MetFree.of_bodySF (plainFor_of_name pn_2) hisR ?_
  intro p e s m args below meth c s₁ Bd hml0 hP hK
  obtain ⟨rfl, hZ, hh⟩ := hP
  have hx := Bd.exec
  have hby := Bd.bytes
  have hml : c.maxLocals = 5 := hml0
  have hown : s.vm.findClass "com/example/wepwawet/wepwawet/server/Status" = some m.cls := findClass_of_methodNamed Bd.named
  have hnm := (name_of_methodNamed Bd.named Bd.method).1
  have X0 : Stand p l e ({ frames := 2, cells := 1, slots := 6, locals := 25 } : Room) s m #[(.int p1)] below meth c s₁ [] 0 0 := Stand.of_body Bd
  have e0 : s₁.heap = h0 := by rw [← hh, Bd.state]; rfl
  have N0 := Fr.nil n0
  have pre0 : ∀ t, Steps p.tables e below (s₁.setTop (mkF m 0 #[.val (.int p1), .unset, .unset, .unset, .unset] [])) t → Steps p.tables e below (s₁.setTop (entryFrame m #[(.int p1)] 5)) t := fun t k => castTop (ef_2 m p1) k
  obtain ⟨_, _, ⟨T2, L2, k2, n2⟩, -, X2, ⟨Lc2, hQ2, l2, y2, z2⟩, st2⟩ := Jvm.LawKit.callS X0 hx (y := (⟨"com/example/wepwawet/wepwawet/server/Status", "values", "()[Lcom/example/wepwawet/wepwawet/server/Status;"⟩ : MethodName)) hown (mvT hZ (hw _ (List.mem_of_getElem? (i := 8) rfl))) (mvT hZ (hw _ (List.mem_of_getElem? (i := 9) rfl))) (mvT hZ (hw _ (List.mem_of_getElem? (i := 6) rfl))) (mvT hZ (hw _ (List.mem_of_getElem? (i := 10) rfl))) (by decide) (backOf (W := 0) (rm3 l Z a0 hw [] wV kA [.ref u0, .ref u1, .ref u2, .ref u3, .ref u4, .ref u5] h0 n0 Z0 S_V E_V V_V) hZ (hw _ (List.mem_of_getElem? (i := 10) rfl)) (hw _ (List.mem_of_getElem? (i := 6) rfl)) (by decide) (by decide)) (g := (mkF m 0 #[.val (.int p1), .unset, .unset, .unset, .unset] [])) rfl (by rw [hml]; rfl) (argsL := []) (rest := []) (lenOf pd_2_2 rfl) rfl (by show 2 * 0 + _ ≤ _; exact Nat.le_of_eq rfl) (hb hby d2_0) (fun _ _ => ⟨rfl, e0, (by decide : 0 + 1 ≤ _), (by decide : 0 + 6 ≤ _)⟩)
  dsimp only [Pt.U, Pt.locs, Pt.cells, Pt.slots] at X2 l2 y2 z2 st2 hQ2
  subst l2 y2 z2
  obtain ⟨bA, rfl, N2q, K2, V_bA⟩ := hQ2
  have N2 := Fr.app N0 N2q
  obtain ⟨cl_bA_5, Ar_bA, q_bA, S_bA, N_bA, H_bA, G_bA⟩ := V_bA
  have hin16 : ¬ ((0 : Int32) < 0 ∨ cl_bA_5.slots.size ≤ ((0 : Int32)).toNatClampNeg) := inb_of S_bA ⟨by decide, by decide⟩
  have hat16 : cl_bA_5.slots[((0 : Int32)).toNatClampNeg]? = some (.ref u0) := H_bA.at hin16 rfl
  obtain ⟨T4, X4, e4, st4⟩ := getF X2 hx hZ hown (host := "") (Or.inl (hw _ (List.mem_of_getElem? (i := 29) rfl))) Via.refl rfl (F_httpCode_u0.keep K2 List.not_mem_nil) (g := (mkF m 21 #[.val (.int p1), .val (.ref bA), .val (.int (6 : Int32)), .val (.int (0 : Int32)), .val (.ref u0)] [(.ref u0)])) rfl rfl (hb hby d2_21)
  have hin16_2 : ¬ ((1 : Int32) < 0 ∨ cl_bA_5.slots.size ≤ ((1 : Int32)).toNatClampNeg) := inb_of S_bA ⟨by decide, by decide⟩
  have hat16_2 : cl_bA_5.slots[((1 : Int32)).toNatClampNeg]? = some (.ref u1) := H_bA.at hin16_2 rfl
  obtain ⟨T6, X6, e6, st6⟩ := getF X4 hx hZ hown (host := "") (Or.inl (hw _ (List.mem_of_getElem? (i := 29) rfl))) Via.refl e4 (F_httpCode_u1.keep K2 List.not_mem_nil) (g := (mkF m 21 #[.val (.int p1), .val (.ref bA), .val (.int (6 : Int32)), .val (.int (1 : Int32)), .val (.ref u1)] [(.ref u1)])) rfl rfl (hb hby d2_21)
  have hin16_3 : ¬ ((2 : Int32) < 0 ∨ cl_bA_5.slots.size ≤ ((2 : Int32)).toNatClampNeg) := inb_of S_bA ⟨by decide, by decide⟩
  have hat16_3 : cl_bA_5.slots[((2 : Int32)).toNatClampNeg]? = some (.ref u2) := H_bA.at hin16_3 rfl
  obtain ⟨T8, X8, e8, st8⟩ := getF X6 hx hZ hown (host := "") (Or.inl (hw _ (List.mem_of_getElem? (i := 29) rfl))) Via.refl e6 (F_httpCode_u2.keep K2 List.not_mem_nil) (g := (mkF m 21 #[.val (.int p1), .val (.ref bA), .val (.int (6 : Int32)), .val (.int (2 : Int32)), .val (.ref u2)] [(.ref u2)])) rfl rfl (hb hby d2_21)
  have hin16_4 : ¬ ((3 : Int32) < 0 ∨ cl_bA_5.slots.size ≤ ((3 : Int32)).toNatClampNeg) := inb_of S_bA ⟨by decide, by decide⟩
  have hat16_4 : cl_bA_5.slots[((3 : Int32)).toNatClampNeg]? = some (.ref u3) := H_bA.at hin16_4 rfl
  obtain ⟨T10, X10, e10, st10⟩ := getF X8 hx hZ hown (host := "") (Or.inl (hw _ (List.mem_of_getElem? (i := 29) rfl))) Via.refl e8 (F_httpCode_u3.keep K2 List.not_mem_nil) (g := (mkF m 21 #[.val (.int p1), .val (.ref bA), .val (.int (6 : Int32)), .val (.int (3 : Int32)), .val (.ref u3)] [(.ref u3)])) rfl rfl (hb hby d2_21)
  obtain ⟨fs, hr, hrun, hended, hW, hsame⟩ := X10.leave (v := some (.ref u3)) (fun h => by rw [Bd.returns] at h; cases h)
  refine ⟨_, _, pre0 _ ?_, hrun, hended, _, _, rfl, ?_, ⟨_, rfl⟩, hW, hsame.mono (by decide) (by decide)⟩
  · show Steps p.tables e below (s₁.setTop (mkF m 0 #[.val (.int p1), .unset, .unset, .unset, .unset] [])) _
    refine st2 _ ?_
    show Steps p.tables e below (T2.setTop (mkF m 3 #[.val (.int p1), .unset, .unset, .unset, .unset] [(.ref bA)])) _
    refine XS.astoreN X2.here hx rfl (hb hby d2_3) rfl rfl (l' := #[.val (.int p1), .val (.ref bA), .unset, .unset, .unset]) rfl ?_
    show Steps p.tables e below (T2.setTop (mkF m 4 #[.val (.int p1), .val (.ref bA), .unset, .unset, .unset] [])) _
    refine XS.aloadN X2.here hx rfl (hb hby d2_4) rfl rfl ?_
    show Steps p.tables e below (T2.setTop (mkF m 5 #[.val (.int p1), .val (.ref bA), .unset, .unset, .unset] [(.ref bA)])) _
    refine X2.arraylength hx (by exact Ar_bA.1) (State.isArrayOf_alike hZ.alike Ar_bA.2.1) (g := (mkF m 5 #[.val (.int p1), .val (.ref bA), .unset, .unset, .unset] [(.ref bA)])) rfl rfl (hb hby d2_5) _ ?_
    rw [len_of S_bA N_bA]
    show Steps p.tables e below (T2.setTop (mkF m 6 #[.val (.int p1), .val (.ref bA), .unset, .unset, .unset] [(.int (6 : Int32))])) _
    refine XS.istoreN X2.here hx rfl (hb hby d2_6) rfl (l' := #[.val (.int p1), .val (.ref bA), .val (.int (6 : Int32)), .unset, .unset]) rfl ?_
    show Steps p.tables e below (T2.setTop (mkF m 7 #[.val (.int p1), .val (.ref bA), .val (.int (6 : Int32)), .unset, .unset] [])) _
    refine XS.iconst X2.here hx rfl (hb hby d2_7) ?_
    show Steps p.tables e below (T2.setTop (mkF m 8 #[.val (.int p1), .val (.ref bA), .val (.int (6 : Int32)), .unset, .unset] [(.int (0 : Int32))])) _
    refine XS.istoreN X2.here hx rfl (hb hby d2_8) rfl (l' := #[.val (.int p1), .val (.ref bA), .val (.int (6 : Int32)), .val (.int (0 : Int32)), .unset]) rfl ?_
    show Steps p.tables e below (T2.setTop (mkF m 9 #[.val (.int p1), .val (.ref bA), .val (.int (6 : Int32)), .val (.int (0 : Int32)), .unset] [])) _
    refine XS.iloadN X2.here hx rfl (hb hby d2_9) rfl ?_
    show Steps p.tables e below (T2.setTop (mkF m 10 #[.val (.int p1), .val (.ref bA), .val (.int (6 : Int32)), .val (.int (0 : Int32)), .unset] [(.int (0 : Int32))])) _
    refine XS.iloadN X2.here hx rfl (hb hby d2_10) rfl ?_
    show Steps p.tables e below (T2.setTop (mkF m 11 #[.val (.int p1), .val (.ref bA), .val (.int (6 : Int32)), .val (.int (0 : Int32)), .unset] [(.int (6 : Int32)), (.int (0 : Int32))])) _
    refine XS.icmpNo X2.here hx rfl (hb hby d2_11) rfl (tlt (by decide : (0 : Int32) < (6 : Int32))).2.1 ?_
    show Steps p.tables e below (T2.setTop (mkF m 14 #[.val (.int p1), .val (.ref bA), .val (.int (6 : Int32)), .val (.int (0 : Int32)), .unset] [])) _
    refine XS.aloadN X2.here hx rfl (hb hby d2_14) rfl rfl ?_
    show Steps p.tables e below (T2.setTop (mkF m 15 #[.val (.int p1), .val (.ref bA), .val (.int (6 : Int32)), .val (.int (0 : Int32)), .unset] [(.ref bA)])) _
    refine XS.iloadN X2.here hx rfl (hb hby d2_15) rfl ?_
    show Steps p.tables e below (T2.setTop (mkF m 16 #[.val (.int p1), .val (.ref bA), .val (.int (6 : Int32)), .val (.int (0 : Int32)), .unset] [(.int (0 : Int32)), (.ref bA)])) _
    refine X2.aaload hx (j := (0 : Int32)) (v := (.ref u0)) (by exact Ar_bA.1) (State.isArrayOf_alike hZ.alike Ar_bA.2.1) rfl Ar_bA.2.2 hin16 hat16 (g := (mkF m 16 #[.val (.int p1), .val (.ref bA), .val (.int (6 : Int32)), .val (.int (0 : Int32)), .unset] [(.int (0 : Int32)), (.ref bA)])) rfl rfl (hb hby d2_16) _ ?_
    show Steps p.tables e below (T2.setTop (mkF m 17 #[.val (.int p1), .val (.ref bA), .val (.int (6 : Int32)), .val (.int (0 : Int32)), .unset] [(.ref u0)])) _
    refine XS.astore X2.here hx rfl (hb hby d2_17) rfl rfl (l' := #[.val (.int p1), .val (.ref bA), .val (.int (6 : Int32)), .val (.int (0 : Int32)), .val (.ref u0)]) rfl ?_
    show Steps p.tables e below (T2.setTop (mkF m 19 #[.val (.int p1), .val (.ref bA), .val (.int (6 : Int32)), .val (.int (0 : Int32)), .val (.ref u0)] [])) _
    refine XS.aload X2.here hx rfl (hb hby d2_19) rfl rfl ?_
    show Steps p.tables e below (T2.setTop (mkF m 21 #[.val (.int p1), .val (.ref bA), .val (.int (6 : Int32)), .val (.int (0 : Int32)), .val (.ref u0)] [(.ref u0)])) _
    refine st4 _ ?_
    show Steps p.tables e below (T4.setTop (mkF m 24 #[.val (.int p1), .val (.ref bA), .val (.int (6 : Int32)), .val (.int (0 : Int32)), .val (.ref u0)] [(.int w3)])) _
    refine XS.iloadN X4.here hx rfl (hb hby d2_24) rfl ?_
    show Steps p.tables e below (T4.setTop (mkF m 25 #[.val (.int p1), .val (.ref bA), .val (.int (6 : Int32)), .val (.int (0 : Int32)), .val (.ref u0)] [(.int p1), (.int w3)])) _
    refine XS.icmpYes X4.here hx rfl (pc0 := 25) (pc' := 31) rfl (hb hby d2_25) rfl (feq hc25).2 (by decide) (by decide) ?_
    show Steps p.tables e below (T4.setTop (mkF m 31 #[.val (.int p1), .val (.ref bA), .val (.int (6 : Int32)), .val (.int (0 : Int32)), .val (.ref u0)] [])) _
    refine XS.iinc X4.here hx rfl (hb hby d2_31) rfl (l' := #[.val (.int p1), .val (.ref bA), .val (.int (6 : Int32)), .val (.int (1 : Int32)), .val (.ref u0)]) rfl ?_
    show Steps p.tables e below (T4.setTop (mkF m 34 #[.val (.int p1), .val (.ref bA), .val (.int (6 : Int32)), .val (.int (1 : Int32)), .val (.ref u0)] [])) _
    refine XS.goto X4.here hx rfl (pc0 := 34) (pc' := 9) rfl (hb hby d2_34) (by decide) (by decide) ?_
    show Steps p.tables e below (T4.setTop (mkF m 9 #[.val (.int p1), .val (.ref bA), .val (.int (6 : Int32)), .val (.int (1 : Int32)), .val (.ref u0)] [])) _
    refine XS.iloadN X4.here hx rfl (hb hby d2_9) rfl ?_
    show Steps p.tables e below (T4.setTop (mkF m 10 #[.val (.int p1), .val (.ref bA), .val (.int (6 : Int32)), .val (.int (1 : Int32)), .val (.ref u0)] [(.int (1 : Int32))])) _
    refine XS.iloadN X4.here hx rfl (hb hby d2_10) rfl ?_
    show Steps p.tables e below (T4.setTop (mkF m 11 #[.val (.int p1), .val (.ref bA), .val (.int (6 : Int32)), .val (.int (1 : Int32)), .val (.ref u0)] [(.int (6 : Int32)), (.int (1 : Int32))])) _
    refine XS.icmpNo X4.here hx rfl (hb hby d2_11) rfl (tlt (by decide : (1 : Int32) < (6 : Int32))).2.1 ?_
    show Steps p.tables e below (T4.setTop (mkF m 14 #[.val (.int p1), .val (.ref bA), .val (.int (6 : Int32)), .val (.int (1 : Int32)), .val (.ref u0)] [])) _
    refine XS.aloadN X4.here hx rfl (hb hby d2_14) rfl rfl ?_
    show Steps p.tables e below (T4.setTop (mkF m 15 #[.val (.int p1), .val (.ref bA), .val (.int (6 : Int32)), .val (.int (1 : Int32)), .val (.ref u0)] [(.ref bA)])) _
    refine XS.iloadN X4.here hx rfl (hb hby d2_15) rfl ?_
    show Steps p.tables e below (T4.setTop (mkF m 16 #[.val (.int p1), .val (.ref bA), .val (.int (6 : Int32)), .val (.int (1 : Int32)), .val (.ref u0)] [(.int (1 : Int32)), (.ref bA)])) _
    refine X4.aaload hx (j := (1 : Int32)) (v := (.ref u1)) (by rw [e4]; exact Ar_bA.1) (State.isArrayOf_alike hZ.alike Ar_bA.2.1) rfl Ar_bA.2.2 hin16_2 hat16_2 (g := (mkF m 16 #[.val (.int p1), .val (.ref bA), .val (.int (6 : Int32)), .val (.int (1 : Int32)), .val (.ref u0)] [(.int (1 : Int32)), (.ref bA)])) rfl rfl (hb hby d2_16) _ ?_
    show Steps p.tables e below (T4.setTop (mkF m 17 #[.val (.int p1), .val (.ref bA), .val (.int (6 : Int32)), .val (.int (1 : Int32)), .val (.ref u0)] [(.ref u1)])) _
    refine XS.astore X4.here hx rfl (hb hby d2_17) rfl rfl (l' := #[.val (.int p1), .val (.ref bA), .val (.int (6 : Int32)), .val (.int (1 : Int32)), .val (.ref u1)]) rfl ?_
    show Steps p.tables e below (T4.setTop (mkF m 19 #[.val (.int p1), .val (.ref bA), .val (.int (6 : Int32)), .val (.int (1 : Int32)), .val (.ref u1)] [])) _
    refine XS.aload X4.here hx rfl (hb hby d2_19) rfl rfl ?_
    show Steps p.tables e below (T4.setTop (mkF m 21 #[.val (.int p1), .val (.ref bA), .val (.int (6 : Int32)), .val (.int (1 : Int32)), .val (.ref u1)] [(.ref u1)])) _
    refine st6 _ ?_
    show Steps p.tables e below (T6.setTop (mkF m 24 #[.val (.int p1), .val (.ref bA), .val (.int (6 : Int32)), .val (.int (1 : Int32)), .val (.ref u1)] [(.int w5)])) _
    refine XS.iloadN X6.here hx rfl (hb hby d2_24) rfl ?_
    show Steps p.tables e below (T6.setTop (mkF m 25 #[.val (.int p1), .val (.ref bA), .val (.int (6 : Int32)), .val (.int (1 : Int32)), .val (.ref u1)] [(.int p1), (.int w5)])) _
    refine XS.icmpYes X6.here hx rfl (pc0 := 25) (pc' := 31) rfl (hb hby d2_25) rfl (feq hc25_2).2 (by decide) (by decide) ?_
    show Steps p.tables e below (T6.setTop (mkF m 31 #[.val (.int p1), .val (.ref bA), .val (.int (6 : Int32)), .val (.int (1 : Int32)), .val (.ref u1)] [])) _
    refine XS.iinc X6.here hx rfl (hb hby d2_31) rfl (l' := #[.val (.int p1), .val (.ref bA), .val (.int (6 : Int32)), .val (.int (2 : Int32)), .val (.ref u1)]) rfl ?_
    show Steps p.tables e below (T6.setTop (mkF m 34 #[.val (.int p1), .val (.ref bA), .val (.int (6 : Int32)), .val (.int (2 : Int32)), .val (.ref u1)] [])) _
    refine XS.goto X6.here hx rfl (pc0 := 34) (pc' := 9) rfl (hb hby d2_34) (by decide) (by decide) ?_
    show Steps p.tables e below (T6.setTop (mkF m 9 #[.val (.int p1), .val (.ref bA), .val (.int (6 : Int32)), .val (.int (2 : Int32)), .val (.ref u1)] [])) _
    refine XS.iloadN X6.here hx rfl (hb hby d2_9) rfl ?_
    show Steps p.tables e below (T6.setTop (mkF m 10 #[.val (.int p1), .val (.ref bA), .val (.int (6 : Int32)), .val (.int (2 : Int32)), .val (.ref u1)] [(.int (2 : Int32))])) _
    refine XS.iloadN X6.here hx rfl (hb hby d2_10) rfl ?_
    show Steps p.tables e below (T6.setTop (mkF m 11 #[.val (.int p1), .val (.ref bA), .val (.int (6 : Int32)), .val (.int (2 : Int32)), .val (.ref u1)] [(.int (6 : Int32)), (.int (2 : Int32))])) _
    refine XS.icmpNo X6.here hx rfl (hb hby d2_11) rfl (tlt (by decide : (2 : Int32) < (6 : Int32))).2.1 ?_
    show Steps p.tables e below (T6.setTop (mkF m 14 #[.val (.int p1), .val (.ref bA), .val (.int (6 : Int32)), .val (.int (2 : Int32)), .val (.ref u1)] [])) _
    refine XS.aloadN X6.here hx rfl (hb hby d2_14) rfl rfl ?_
    show Steps p.tables e below (T6.setTop (mkF m 15 #[.val (.int p1), .val (.ref bA), .val (.int (6 : Int32)), .val (.int (2 : Int32)), .val (.ref u1)] [(.ref bA)])) _
    refine XS.iloadN X6.here hx rfl (hb hby d2_15) rfl ?_
    show Steps p.tables e below (T6.setTop (mkF m 16 #[.val (.int p1), .val (.ref bA), .val (.int (6 : Int32)), .val (.int (2 : Int32)), .val (.ref u1)] [(.int (2 : Int32)), (.ref bA)])) _
    refine X6.aaload hx (j := (2 : Int32)) (v := (.ref u2)) (by rw [e6]; exact Ar_bA.1) (State.isArrayOf_alike hZ.alike Ar_bA.2.1) rfl Ar_bA.2.2 hin16_3 hat16_3 (g := (mkF m 16 #[.val (.int p1), .val (.ref bA), .val (.int (6 : Int32)), .val (.int (2 : Int32)), .val (.ref u1)] [(.int (2 : Int32)), (.ref bA)])) rfl rfl (hb hby d2_16) _ ?_
    show Steps p.tables e below (T6.setTop (mkF m 17 #[.val (.int p1), .val (.ref bA), .val (.int (6 : Int32)), .val (.int (2 : Int32)), .val (.ref u1)] [(.ref u2)])) _
    refine XS.astore X6.here hx rfl (hb hby d2_17) rfl rfl (l' := #[.val (.int p1), .val (.ref bA), .val (.int (6 : Int32)), .val (.int (2 : Int32)), .val (.ref u2)]) rfl ?_
    show Steps p.tables e below (T6.setTop (mkF m 19 #[.val (.int p1), .val (.ref bA), .val (.int (6 : Int32)), .val (.int (2 : Int32)), .val (.ref u2)] [])) _
    refine XS.aload X6.here hx rfl (hb hby d2_19) rfl rfl ?_
    show Steps p.tables e below (T6.setTop (mkF m 21 #[.val (.int p1), .val (.ref bA), .val (.int (6 : Int32)), .val (.int (2 : Int32)), .val (.ref u2)] [(.ref u2)])) _
    refine st8 _ ?_
    show Steps p.tables e below (T8.setTop (mkF m 24 #[.val (.int p1), .val (.ref bA), .val (.int (6 : Int32)), .val (.int (2 : Int32)), .val (.ref u2)] [(.int w7)])) _
    refine XS.iloadN X8.here hx rfl (hb hby d2_24) rfl ?_
    show Steps p.tables e below (T8.setTop (mkF m 25 #[.val (.int p1), .val (.ref bA), .val (.int (6 : Int32)), .val (.int (2 : Int32)), .val (.ref u2)] [(.int p1), (.int w7)])) _
    refine XS.icmpYes X8.here hx rfl (pc0 := 25) (pc' := 31) rfl (hb hby d2_25) rfl (feq hc25_3).2 (by decide) (by decide) ?_
    show Steps p.tables e below (T8.setTop (mkF m 31 #[.val (.int p1), .val (.ref bA), .val (.int (6 : Int32)), .val (.int (2 : Int32)), .val (.ref u2)] [])) _
    refine XS.iinc X8.here hx rfl (hb hby d2_31) rfl (l' := #[.val (.int p1), .val (.ref bA), .val (.int (6 : Int32)), .val (.int (3 : Int32)), .val (.ref u2)]) rfl ?_
    show Steps p.tables e below (T8.setTop (mkF m 34 #[.val (.int p1), .val (.ref bA), .val (.int (6 : Int32)), .val (.int (3 : Int32)), .val (.ref u2)] [])) _
    refine XS.goto X8.here hx rfl (pc0 := 34) (pc' := 9) rfl (hb hby d2_34) (by decide) (by decide) ?_
    show Steps p.tables e below (T8.setTop (mkF m 9 #[.val (.int p1), .val (.ref bA), .val (.int (6 : Int32)), .val (.int (3 : Int32)), .val (.ref u2)] [])) _
    refine XS.iloadN X8.here hx rfl (hb hby d2_9) rfl ?_
    show Steps p.tables e below (T8.setTop (mkF m 10 #[.val (.int p1), .val (.ref bA), .val (.int (6 : Int32)), .val (.int (3 : Int32)), .val (.ref u2)] [(.int (3 : Int32))])) _
    refine XS.iloadN X8.here hx rfl (hb hby d2_10) rfl ?_
    show Steps p.tables e below (T8.setTop (mkF m 11 #[.val (.int p1), .val (.ref bA), .val (.int (6 : Int32)), .val (.int (3 : Int32)), .val (.ref u2)] [(.int (6 : Int32)), (.int (3 : Int32))])) _
    refine XS.icmpNo X8.here hx rfl (hb hby d2_11) rfl (tlt (by decide : (3 : Int32) < (6 : Int32))).2.1 ?_
    show Steps p.tables e below (T8.setTop (mkF m 14 #[.val (.int p1), .val (.ref bA), .val (.int (6 : Int32)), .val (.int (3 : Int32)), .val (.ref u2)] [])) _
    refine XS.aloadN X8.here hx rfl (hb hby d2_14) rfl rfl ?_
    show Steps p.tables e below (T8.setTop (mkF m 15 #[.val (.int p1), .val (.ref bA), .val (.int (6 : Int32)), .val (.int (3 : Int32)), .val (.ref u2)] [(.ref bA)])) _
    refine XS.iloadN X8.here hx rfl (hb hby d2_15) rfl ?_
    show Steps p.tables e below (T8.setTop (mkF m 16 #[.val (.int p1), .val (.ref bA), .val (.int (6 : Int32)), .val (.int (3 : Int32)), .val (.ref u2)] [(.int (3 : Int32)), (.ref bA)])) _
    refine X8.aaload hx (j := (3 : Int32)) (v := (.ref u3)) (by rw [e8]; exact Ar_bA.1) (State.isArrayOf_alike hZ.alike Ar_bA.2.1) rfl Ar_bA.2.2 hin16_4 hat16_4 (g := (mkF m 16 #[.val (.int p1), .val (.ref bA), .val (.int (6 : Int32)), .val (.int (3 : Int32)), .val (.ref u2)] [(.int (3 : Int32)), (.ref bA)])) rfl rfl (hb hby d2_16) _ ?_
    show Steps p.tables e below (T8.setTop (mkF m 17 #[.val (.int p1), .val (.ref bA), .val (.int (6 : Int32)), .val (.int (3 : Int32)), .val (.ref u2)] [(.ref u3)])) _
    refine XS.astore X8.here hx rfl (hb hby d2_17) rfl rfl (l' := #[.val (.int p1), .val (.ref bA), .val (.int (6 : Int32)), .val (.int (3 : Int32)), .val (.ref u3)]) rfl ?_
    show Steps p.tables e below (T8.setTop (mkF m 19 #[.val (.int p1), .val (.ref bA), .val (.int (6 : Int32)), .val (.int (3 : Int32)), .val (.ref u3)] [])) _
    refine XS.aload X8.here hx rfl (hb hby d2_19) rfl rfl ?_
    show Steps p.tables e below (T8.setTop (mkF m 21 #[.val (.int p1), .val (.ref bA), .val (.int (6 : Int32)), .val (.int (3 : Int32)), .val (.ref u3)] [(.ref u3)])) _
    refine st10 _ ?_
    show Steps p.tables e below (T10.setTop (mkF m 24 #[.val (.int p1), .val (.ref bA), .val (.int (6 : Int32)), .val (.int (3 : Int32)), .val (.ref u3)] [(.int w9)])) _
    refine XS.iloadN X10.here hx rfl (hb hby d2_24) rfl ?_
    show Steps p.tables e below (T10.setTop (mkF m 25 #[.val (.int p1), .val (.ref bA), .val (.int (6 : Int32)), .val (.int (3 : Int32)), .val (.ref u3)] [(.int p1), (.int w9)])) _
    refine XS.icmpNo X10.here hx rfl (hb hby d2_25) rfl (teq hc25_4).2 ?_
    show Steps p.tables e below (T10.setTop (mkF m 28 #[.val (.int p1), .val (.ref bA), .val (.int (6 : Int32)), .val (.int (3 : Int32)), .val (.ref u3)] [])) _
    refine XS.aload X10.here hx rfl (hb hby d2_28) rfl rfl ?_
    show Steps p.tables e below (T10.setTop (mkF m 30 #[.val (.int p1), .val (.ref bA), .val (.int (6 : Int32)), .val (.int (3 : Int32)), .val (.ref u3)] [(.ref u3)])) _
    jvm_step X10.here [X10.here.top, hx, (hb hby d2_30), X10.method', Bd.returns, Value.isRef, FieldType.isReference]
    first | (intro acts; rw [hr _ acts rfl rfl rfl]) | rw [hr _ _ rfl rfl rfl]
    exact Steps.refl _
  · show Q2 u3 h0 n0 _ T10.heap _
    rw [e10]
    exact ⟨rfl, N2, K2⟩
set_option maxRecDepth 65536 in
set_option maxHeartbeats 40000000 in
theorem rm2_ftftftftff (l : Launch) (Z : State) (a0 : Array Value) (hw : ∀ d ∈ tables_1, d.before a0 Z = true) (ws : List Jvm.Cond) (p1 : Int32) (u0 : Addr) (u1 : Addr) (u2 : Addr) (u3 : Addr) (u4 : Addr) (u5 : Addr) (w3 : Int32) (w5 : Int32) (w7 : Int32) (w9 : Int32) (w11 : Int32) (wV : Addr) (kA : ClassId) (h0 : Heap) (n0 : Nat) (Z0 : n0 ≤ h0.size) (S_V : Sta Z h0 "com/example/wepwawet/wepwawet/server/Status" "$VALUES" "[Lcom/example/wepwawet/wepwawet/server/Status;" (.ref wV)) (E_V : Exa Z h0 wV "[Lcom/example/wepwawet/wepwawet/server/Status;") (V_V : Arv Z h0 wV kA (.object "com/example/wepwawet/wepwawet/server/Status") (6 : Int32) [.ref u0, .ref u1, .ref u2, .ref u3, .ref u4, .ref u5] .null) (F_httpCode_u0 : Fld Z h0 u0 "com/example/wepwawet/wepwawet/server/Status" "httpCode" "I" (.int w3)) (F_httpCode_u1 : Fld Z h0 u1 "com/example/wepwawet/wepwawet/server/Status" "httpCode" "I" (.int w5)) (F_httpCode_u2 : Fld Z h0 u2 "com/example/wepwawet/wepwawet/server/Status" "httpCode" "I" (.int w7)) (F_httpCode_u3 : Fld Z h0 u3 "com/example/wepwawet/wepwawet/server/Status" "httpCode" "I" (.int w9)) (F_httpCode_u4 : Fld Z h0 u4 "com/example/wepwawet/wepwawet/server/Status" "httpCode" "I" (.int w11)) (hc25 : ¬ (w3 = p1)) (hc25_2 : ¬ (w5 = p1)) (hc25_3 : ¬ (w7 = p1)) (hc25_4 : ¬ (w9 = p1)) (hc25_5 : w11 = p1) :
    MetFree l (⟨"com/example/wepwawet/wepwawet/server/Status", "forHttpCode", "(I)Lcom/example/wepwawet/wepwawet/server/Status;"⟩ : MethodName) (head1 (Jvm.Cond.code (⟨"com/example/wepwawet/wepwawet/server/Status", "forHttpCode", "(I)Lcom/example/wepwawet/wepwawet/server/Status;"⟩ : MethodName) prog_29_method_5_code 5 (some (.object "com/example/wepwawet/wepwawet/server/Status")) :: ws) ({ frames := 2, cells := 1, slots := 6, locals := 25 } : Room)) (fun a U => a = #[(.int p1)] ∧ Z.Warmed39 U.vm ∧ U.heap = h0) (fun _ _ _ _ _ => True) (fun _ U o U' => ∃ v L, o = .returned v ∧ Q2 u4 h0 n0 v U'.heap L ∧ FrameEnd U o U' L ({ frames := 2, cells := 1, slots := 6, locals := 25 } : Room).cells ({ frames := 2, cells := 1, slots := 6, locals := 25 } : Room).slots) := by
  refine MetFree.of_bodySF (plainFor_of_name pn_2) hisR ?_
  intro p e s m args below meth c s₁ Bd hml0 hP hK
  obtain ⟨rfl, hZ, hh⟩ := hP
  have hx := Bd.exec
  have hby := Bd.bytes
  have hml : c.maxLocals = 5 := hml0
  have hown : s.vm.findClass "com/example/wepwawet/wepwawet/server/Status" = some m.cls := findClass_of_methodNamed Bd.named
  have hnm := (name_of_methodNamed Bd.named Bd.method).1
  have X0 : Stand p l e ({ frames := 2, cells := 1, slots := 6, locals := 25 } : Room) s m #[(.int p1)] below meth c s₁ [] 0 0 := Stand.of_body Bd
  have e0 : s₁.heap = h0 := by rw [← hh, Bd.state]; rfl
  have N0 := Fr.nil n0
  have pre0 : ∀ t, Steps p.tables e below (s₁.setTop (mkF m 0 #[.val (.int p1), .unset, .unset, .unset, .unset] [])) t → Steps p.tables e below (s₁.setTop (entryFrame m #[(.int p1)] 5)) t := fun t k => castTop (ef_2 m p1) k
  obtain ⟨_, _, ⟨T2, L2, k2, n2⟩, -, X2, ⟨Lc2, hQ2, l2, y2, z2⟩, st2⟩ := Jvm.LawKit.callS X0 hx (y := (⟨"com/example/wepwawet/wepwawet/server/Status", "values", "()[Lcom/example/wepwawet/wepwawet/server/Status;"⟩ : MethodName)) hown (mvT hZ (hw _ (List.mem_of_getElem? (i := 8) rfl))) (mvT hZ (hw _ (List.mem_of_getElem? (i := 9) rfl))) (mvT hZ (hw _ (List.mem_of_getElem? (i := 6) rfl))) (mvT hZ (hw _ (List.mem_of_getElem? (i := 10) rfl))) (by decide) (backOf (W := 0) (rm3 l Z a0 hw [] wV kA [.ref u0, .ref u1, .ref u2, .ref u3, .ref u4, .ref u5] h0 n0 Z0 S_V E_V V_V) hZ (hw _ (List.mem_of_getElem? (i := 10) rfl)) (hw _ (List.mem_of_getElem? (i := 6) rfl)) (by decide) (by decide)) (g := (mkF m 0 #[.val (.int p1), .unset, .unset, .unset, .unset] [])) rfl (by rw [hml]; rfl) (argsL := []) (rest := []) (lenOf pd_2_2 rfl) rfl (by show 2 * 0 + _ ≤ _; exact Nat.le_of_eq rfl) (hb hby d2_0) (fun _ _ => ⟨rfl, e0, (by decide : 0 + 1 ≤ _), (by decide : 0 + 6 ≤ _)⟩)
  dsimp only [Pt.U, Pt.locs, Pt.cells, Pt.slots] at X2 l2 y2 z2 st2 hQ2
  subst l2 y2 z2
  obtain ⟨bA, rfl, N2q, K2, V_bA⟩ := hQ2
  have N2 := Fr.app N0 N2q
  obtain ⟨cl_bA_5, Ar_bA, q_bA, S_bA, N_bA, H_bA, G_bA⟩ := V_bA
  have hin16 : ¬ ((0 : Int32) < 0 ∨ cl_bA_5.slots.size ≤ ((0 : Int32)).toNatClampNeg) := inb_of S_bA ⟨by decide, by decide⟩
  have hat16 : cl_bA_5.slots[((0 : Int32)).toNatClampNeg]? = some (.ref u0) := H_bA.at hin16 rfl
  obtain ⟨T4, X4, e4, st4⟩ := getF X2 hx hZ hown (host := "") (Or.inl (hw _ (List.mem_of_getElem? (i := 29) rfl))) Via.refl rfl (F_httpCode_u0.keep K2 List.not_mem_nil) (g := (mkF m 21 #[.val (.int p1), .val (.ref bA), .val (.int (6 : Int32)), .val (.int (0 : Int32)), .val (.ref u0)] [(.ref u0)])) rfl rfl (hb hby d2_21)
  have hin16_2 : ¬ ((1 : Int32) < 0 ∨ cl_bA_5.slots.size ≤ ((1 : Int32)).toNatClampNeg) := inb_of S_bA ⟨by decide, by decide⟩
  have hat16_2 : cl_bA_5.slots[((1 : Int32)).toNatClampNeg]? = some (.ref u1) := H_bA.at hin16_2 rfl
  obtain ⟨T6, X6, e6, st6⟩ := getF X4 hx hZ hown (host := "") (Or.inl (hw _ (List.mem_of_getElem? (i := 29) rfl))) Via.refl e4 (F_httpCode_u1.keep K2 List.not_mem_nil) (g := (mkF m 21 #[.val (.int p1), .val (.ref bA), .val (.int (6 : Int32)), .val (.int (1 : Int32)), .val (.ref u1)] [(.ref u1)])) rfl rfl (hb hby d2_21)
  have hin16_3 : ¬ ((2 : Int32) < 0 ∨ cl_bA_5.slots.size ≤ ((2 : Int32)).toNatClampNeg) := inb_of S_bA ⟨by decide, by decide⟩
  have hat16_3 : cl_bA_5.slots[((2 : Int32)).toNatClampNeg]? = some (.ref u2) := H_bA.at hin16_3 rfl
  obtain ⟨T8, X8, e8, st8⟩ := getF X6 hx hZ hown (host := "") (Or.inl (hw _ (List.mem_of_getElem? (i := 29) rfl))) Via.refl e6 (F_httpCode_u2.keep K2 List.not_mem_nil) (g := (mkF m 21 #[.val (.int p1), .val (.ref bA), .val (.int (6 : Int32)), .val (.int (2 : Int32)), .val (.ref u2)] [(.ref u2)])) rfl rfl (hb hby d2_21)
  have hin16_4 : ¬ ((3 : Int32) < 0 ∨ cl_bA_5.slots.size ≤ ((3 : Int32)).toNatClampNeg) := inb_of S_bA ⟨by decide, by decide⟩
  have hat16_4 : cl_bA_5.slots[((3 : Int32)).toNatClampNeg]? = some (.ref u3) := H_bA.at hin16_4 rfl
  obtain ⟨T10, X10, e10, st10⟩ := getF X8 hx hZ hown (host := "") (Or.inl (hw _ (List.mem_of_getElem? (i := 29) rfl))) Via.refl e8 (F_httpCode_u3.keep K2 List.not_mem_nil) (g := (mkF m 21 #[.val (.int p1), .val (.ref bA), .val (.int (6 : Int32)), .val (.int (3 : Int32)), .val (.ref u3)] [(.ref u3)])) rfl rfl (hb hby d2_21)
  have hin16_5 : ¬ ((4 : Int32) < 0 ∨ cl_bA_5.slots.size ≤ ((4 : Int32)).toNatClampNeg) := inb_of S_bA ⟨by decide, by decide⟩
  have hat16_5 : cl_bA_5.slots[((4 : Int32)).toNatClampNeg]? = some (.ref u4) := H_bA.at hin16_5 rfl
  obtain ⟨T12, X12, e12, st12⟩ := getF X10 hx hZ hown (host := "") (Or.inl (hw _ (List.mem_of_getElem? (i := 29) rfl))) Via.refl e10 (F_httpCode_u4.keep K2 List.not_mem_nil) (g := (mkF m 21 #[.val (.int p1), .val (.ref bA), .val (.int (6 : Int32)), .val (.int (4 : Int32)), .val (.ref u4)] [(.ref u4)])) rfl rfl (hb hby d2_21)
  obtain ⟨fs, hr, hrun, hended, hW, hsame⟩ := X12.leave (v := some (.ref u4)) (fun h => by rw [Bd.returns] at h; cases h)
  refine ⟨_, _, pre0 _ ?_, hrun, hended, _, _, rfl, ?_, ⟨_, rfl⟩, hW, hsame.mono (by decide) (by decide)⟩
  · show Steps p.tables e below (s₁.setTop (mkF m 0 #[.val (.int p1), .unset, .unset, .unset, .unset] [])) _
    refine st2 _ ?_
    show Steps p.tables e below (T2.setTop (mkF m 3 #[.val (.int p1), .unset, .unset, .unset, .unset] [(.ref bA)])) _
    refine XS.astoreN X2.here hx rfl (hb hby d2_3) rfl rfl (l' := #[.val (.int p1), .val (.ref bA), .unset, .unset, .unset]) rfl ?_
    show Steps p.tables e below (T2.setTop (mkF m 4 #[.val (.int p1), .val (.ref bA), .unset, .unset, .unset] [])) _
    refine XS.aloadN X2.here hx rfl (hb hby d2_4) rfl rfl ?_
    show Steps p.tables e below (T2.setTop (mkF m 5 #[.val (.int p1), .val (.ref bA), .unset, .unset, .unset] [(.ref bA)])) _
    refine X2.arraylength hx (by exact Ar_bA.1) (State.isArrayOf_alike hZ.alike Ar_bA.2.1) (g := (mkF m 5 #[.val (.int p1), .val (.ref bA), .unset, .unset, .unset] [(.ref bA)])) rfl rfl (hb hby d2_5) _ ?_
    rw [len_of S_bA N_bA]
    show Steps p.tables e below (T2.setTop (mkF m 6 #[.val (.int p1), .val (.ref bA), .unset, .unset, .unset] [(.int (6 : Int32))])) _
    refine XS.istoreN X2.here hx rfl (hb hby d2_6) rfl (l' := #[.val (.int p1), .val (.ref bA), .val (.int (6 : Int32)), .unset, .unset]) rfl ?_
    show Steps p.tables e below (T2.setTop (mkF m 7 #[.val (.int p1), .val (.ref bA), .val (.int (6 : Int32)), .unset, .unset] [])) _
    refine XS.iconst X2.here hx rfl (hb hby d2_7) ?_
    show Steps p.tables e below (T2.setTop (mkF m 8 #[.val (.int p1), .val (.ref bA), .val (.int (6 : Int32)), .unset, .unset] [(.int (0 : Int32))])) _
    refine XS.istoreN X2.here hx rfl (hb hby d2_8) rfl (l' := #[.val (.int p1), .val (.ref bA), .val (.int (6 : Int32)), .val (.int (0 : Int32)), .unset]) rfl ?_
    show Steps p.tables e below (T2.setTop (mkF m 9 #[.val (.int p1), .val (.ref bA), .val (.int (6 : Int32)), .val (.int (0 : Int32)), .unset] [])) _
    refine XS.iloadN X2.here hx rfl (hb hby d2_9) rfl ?_
    show Steps p.tables e below (T2.setTop (mkF m 10 #[.val (.int p1), .val (.ref bA), .val (.int (6 : Int32)), .val (.int (0 : Int32)), .unset] [(.int (0 : Int32))])) _
    refine XS.iloadN X2.here hx rfl (hb hby d2_10) rfl ?_
    show Steps p.tables e below (T2.setTop (mkF m 11 #[.val (.int p1), .val (.ref bA), .val (.int (6 : Int32)), .val (.int (0 : Int32)), .unset] [(.int (6 : Int32)), (.int (0 : Int32))])) _
    refine XS.icmpNo X2.here hx rfl (hb hby d2_11) rfl (tlt (by decide : (0 : Int32) < (6 : Int32))).2.1 ?_
    show Steps p.tables e below (T2.setTop (mkF m 14 #[.val (.int p1), .val (.ref bA), .val (.int (6 : Int32)), .val (.int (0 : Int32)), .unset] [])) _
    refine XS.aloadN X2.here hx rfl (hb hby d2_14) rfl rfl ?_
    show Steps p.tables e below (T2.setTop (mkF m 15 #[.val (.int p1), .val (.ref bA), .val (.int (6 : Int32)), .val (.int (0 : Int32)), .unset] [(.ref bA)])) _
    refine XS.iloadN X2.here hx rfl (hb hby d2_15) rfl ?_
    show Steps p.tables e below (T2.setTop (mkF m 16 #[.val (.int p1), .val (.ref bA), .val (.int (6 : Int32)), .val (.int (0 : Int32)), .unset] [(.int (0 : Int32)), (.ref bA)])) _
    refine X2.aaload hx (j := (0 : Int32)) (v := (.ref u0)) (by exact Ar_bA.1) (State.isArrayOf_alike hZ.alike Ar_bA.2.1) rfl Ar_bA.2.2 hin16 hat16 (g := (mkF m 16 #[.val (.int p1), .val (.ref bA), .val (.int (6 : Int32)), .val (.int (0 : Int32)), .unset] [(.int (0 : Int32)), (.ref bA)])) rfl rfl (hb hby d2_16) _ ?_
    show Steps p.tables e below (T2.setTop (mkF m 17 #[.val (.int p1), .val (.ref bA), .val (.int (6 : Int32)), .val (.int (0 : Int32)), .unset] [(.ref u0)])) _
    refine XS.astore X2.here hx rfl (hb hby d2_17) rfl rfl (l' := #[.val (.int p1), .val (.ref bA), .val (.int (6 : Int32)), .val (.int (0 : Int32)), .val (.ref u0)]) rfl ?_
    show Steps p.tables e below (T2.setTop (mkF m 19 #[.val (.int p1), .val (.ref bA), .val (.int (6 : Int32)), .val (.int (0 : Int32)), .val (.ref u0)] [])) _
    refine XS.aload X2.here hx rfl (hb hby d2_19) rfl rfl ?_
    show Steps p.tables e below (T2.setTop (mkF m 21 #[.val (.int p1), .val (.ref bA), .val (.int (6 : Int32)), .val (.int (0 : Int32)), .val (.ref u0)] [(.ref u0)])) _
    refine st4 _ ?_
    show Steps p.tables e below (T4.setTop (mkF m 24 #[.val (.int p1), .val (.ref bA), .val (.int (6 : Int32)), .val (.int (0 : Int32)), .val (.ref u0)] [(.int w3)])) _
    refine XS.iloadN X4.here hx rfl (hb hby d2_24) rfl ?_
    show Steps p.tables e below (T4.setTop (mkF m 25 #[.val (.int p1), .val (.ref bA), .val (.int (6 : Int32)), .val (.int (0 : Int32)), .val (.ref u0)] [(.int p1), (.int w3)])) _
    refine XS.icmpYes X4.here hx rfl (pc0 := 25) (pc' := 31) rfl (hb hby d2_25) rfl (feq hc25).2 (by decide) (by decide) ?_
    show Steps p.tables e below (T4.setTop (mkF m 31 #[.val (.int p1), .val (.ref bA), .val (.int (6 : Int32)), .val (.int (0 : Int32)), .val (.ref u0)] [])) _
    refine XS.iinc X4.here hx rfl (hb hby d2_31) rfl (l' := #[.val (.int p1), .val (.ref bA), .val (.int (6 : Int32)), .val (.int (1 : Int32)), .val (.ref u0)]) rfl ?_
    show Steps p.tables e below (T4.setTop (mkF m 34 #[.val (.int p1), .val (.ref bA), .val (.int (6 : Int32)), .val (.int (1 : Int32)), .val (.ref u0)] [])) _
    refine XS.goto X4.here hx rfl (pc0 := 34) (pc' := 9) rfl (hb hby d2_34) (by decide) (by decide) ?_
    show Steps p.tables e below (T4.setTop (mkF m 9 #[.val (.int p1), .val (.ref bA), .val (.int (6 : Int32)), .val (.int (1 : Int32)), .val (.ref u0)] [])) _
    refine XS.iloadN X4.here hx rfl (hb hby d2_9) rfl ?_
    show Steps p.tables e below (T4.setTop (mkF m 10 #[.val (.int p1), .val (.ref bA), .val (.int (6 : Int32)), .val (.int (1 : Int32)), .val (.ref u0)] [(.int (1 : Int32))])) _
    refine XS.iloadN X4.here hx rfl (hb hby d2_10) rfl ?_
    show Steps p.tables e below (T4.setTop (mkF m 11 #[.val (.int p1), .val (.ref bA), .val (.int (6 : Int32)), .val (.int (1 : Int32)), .val (.ref u0)] [(.int (6 : Int32)), (.int (1 : Int32))])) _
    refine XS.icmpNo X4.here hx rfl (hb hby d2_11) rfl (tlt (by decide : (1 : Int32) < (6 : Int32))).2.1 ?_
    show Steps p.tables e below (T4.setTop (mkF m 14 #[.val (.int p1), .val (.ref bA), .val (.int (6 : Int32)), .val (.int (1 : Int32)), .val (.ref u0)] [])) _
    refine XS.aloadN X4.here hx rfl (hb hby d2_14) rfl rfl ?_
    show Steps p.tables e below (T4.setTop (mkF m 15 #[.val (.int p1), .val (.ref bA), .val (.int (6 : Int32)), .val (.int (1 : Int32)), .val (.ref u0)] [(.ref bA)])) _
    refine XS.iloadN X4.here hx rfl (hb hby d2_15) rfl ?_
    show Steps p.tables e below (T4.setTop (mkF m 16 #[.val (.int p1), .val (.ref bA), .val (.int (6 : Int32)), .val (.int (1 : Int32)), .val (.ref u0)] [(.int (1 : Int32)), (.ref bA)])) _
    refine X4.aaload hx (j := (1 : Int32)) (v := (.ref u1)) (by rw [e4]; exact Ar_bA.1) (State.isArrayOf_alike hZ.alike Ar_bA.2.1) rfl Ar_bA.2.2 hin16_2 hat16_2 (g := (mkF m 16 #[.val (.int p1), .val (.ref bA), .val (.int (6 : Int32)), .val (.int (1 : Int32)), .val (.ref u0)] [(.int (1 : Int32)), (.ref bA)])) rfl rfl (hb hby d2_16) _ ?_
    show Steps p.tables e below (T4.setTop (mkF m 17 #[.val (.int p1), .val (.ref bA), .val (.int (6 : Int32)), .val (.int (1 : Int32)), .val (.ref u0)] [(.ref u1)])) _
    refine XS.astore X4.here hx rfl (hb hby d2_17) rfl rfl (l' := #[.val (.int p1), .val (.ref bA), .val (.int (6 : Int32)), .val (.int (1 : Int32)), .val (.ref u1)]) rfl ?_
    show Steps p.tables e below (T4.setTop (mkF m 19 #[.val (.int p1), .val (.ref bA), .val (.int (6 : Int32)), .val (.int (1 : Int32)), .val (.ref u1)] [])) _
    refine XS.aload X4.here hx rfl (hb hby d2_19) rfl rfl ?_
    show Steps p.tables e below (T4.setTop (mkF m 21 #[.val (.int p1), .val (.ref bA), .val (.int (6 : Int32)), .val (.int (1 : Int32)), .val (.ref u1)] [(.ref u1)])) _
    refine st6 _ ?_
    show Steps p.tables e below (T6.setTop (mkF m 24 #[.val (.int p1), .val (.ref bA), .val (.int (6 : Int32)), .val (.int (1 : Int32)), .val (.ref u1)] [(.int w5)])) _
    refine XS.iloadN X6.here hx rfl (hb hby d2_24) rfl ?_
    show Steps p.tables e below (T6.setTop (mkF m 25 #[.val (.int p1), .val (.ref bA), .val (.int (6 : Int32)), .val (.int (1 : Int32)), .val (.ref u1)] [(.int p1), (.int w5)])) _
    refine XS.icmpYes X6.here hx rfl (pc0 := 25) (pc' := 31) rfl (hb hby d2_25) rfl (feq hc25_2).2 (by decide) (by decide) ?_
    show Steps p.tables e below (T6.setTop (mkF m 31 #[.val (.int p1), .val (.ref bA), .val (.int (6 : Int32)), .val (.int (1 : Int32)), .val (.ref u1)] [])) _
    refine XS.iinc X6.here hx rfl (hb hby d2_31) rfl (l' := #[.val (.int p1), .val (.ref bA), .val (.int (6 : Int32)), .val (.int (2 : Int32)), .val (.ref u1)]) rfl ?_
    show Steps p.tables e below (T6.setTop (mkF m 34 #[.val (.int p1), .val (.ref bA), .val (.int (6 : Int32)), .val (.int (2 : Int32)), .val (.ref u1)] [])) _
    refine XS.goto X6.here hx rfl (pc0 := 34) (pc' := 9) rfl (hb hby d2_34) (by decide) (by decide) ?_
    show Steps p.tables e below (T6.setTop (mkF m 9 #[.val (.int p1), .val (.ref bA), .val (.int (6 : Int32)), .val (.int (2 : Int32)), .val (.ref u1)] [])) _
    refine XS.iloadN X6.here hx rfl (hb hby d2_9) rfl ?_
    show Steps p.tables e below (T6.setTop (mkF m 10 #[.val (.int p1), .val (.ref bA), .val (.int (6 : Int32)), .val (.int (2 : Int32)), .val (.ref u1)] [(.int (2 : Int32))])) _
    refine XS.iloadN X6.here hx rfl (hb hby d2_10) rfl ?_
    show Steps p.tables e below (T6.setTop (mkF m 11 #[.val (.int p1), .val (.ref bA), .val (.int (6 : Int32)), .val (.int (2 : Int32)), .val (.ref u1)] [(.int (6 : Int32)), (.int (2 : Int32))])) _
    refine XS.icmpNo X6.here hx rfl (hb hby d2_11) rfl (tlt (by decide : (2 : Int32) < (6 : Int32))).2.1 ?_
    show Steps p.tables e below (T6.setTop (mkF m 14 #[.val (.int p1), .val (.ref bA), .val (.int (6 : Int32)), .val (.int (2 : Int32)), .val (.ref u1)] [])) _
    refine XS.aloadN X6.here hx rfl (hb hby d2_14) rfl rfl ?_
    show Steps p.tables e below (T6.setTop (mkF m 15 #[.val (.int p1), .val (.ref bA), .val (.int (6 : Int32)), .val (.int (2 : Int32)), .val (.ref u1)] [(.ref bA)])) _
    refine XS.iloadN X6.here hx rfl (hb hby d2_15) rfl ?_
    show Steps p.tables e below (T6.setTop (mkF m 16 #[.val (.int p1), .val (.ref bA), .val (.int (6 : Int32)), .val (.int (2 : Int32)), .val (.ref u1)] [(.int (2 : Int32)), (.ref bA)])) _
    refine X6.aaload hx (j := (2 : Int32)) (v := (.ref u2)) (by rw [e6]; exact Ar_bA.1) (State.isArrayOf_alike hZ.alike Ar_bA.2.1) rfl Ar_bA.2.2 hin16_3 hat16_3 (g := (mkF m 16 #[.val (.int p1), .val (.ref bA), .val (.int (6 : Int32)), .val (.int (2 : Int32)), .val (.ref u1)] [(.int (2 : Int32)), (.ref bA)])) rfl rfl (hb hby d2_16) _ ?_
    show Steps p.tables e below (T6.setTop (mkF m 17 #[.val (.int p1), .val (.ref bA), .val (.int (6 : Int32)), .val (.int (2 : Int32)), .val (.ref u1)] [(.ref u2)])) _
    refine XS.astore X6.here hx rfl (hb hby d2_17) rfl rfl (l' := #[.val (.int p1), .val (.ref bA), .val (.int (6 : Int32)), .val (.int (2 : Int32)), .val (.ref u2)]) rfl ?_
    show Steps p.tables e below (T6.setTop (mkF m 19 #[.val (.int p1), .val (.ref bA), .val (.int (6 : Int32)), .val (.int (2 : Int32)), .val (.ref u2)] [])) _
    refine XS.aload X6.here hx rfl (hb hby d2_19) rfl rfl ?_
    show Steps p.tables e below (T6.setTop (mkF m 21 #[.val (.int p1), .val (.ref bA), .val (.int (6 : Int32)), .val (.int (2 : Int32)), .val (.ref u2)] [(.ref u2)])) _
    refine st8 _ ?_
    show Steps p.tables e below (T8.setTop (mkF m 24 #[.val (.int p1), .val (.ref bA), .val (.int (6 : Int32)), .val (.int (2 : Int32)), .val (.ref u2)] [(.int w7)])) _
    refine XS.iloadN X8.here hx rfl (hb hby d2_24) rfl ?_
    show Steps p.tables e below (T8.setTop (mkF m 25 #[.val (.int p1), .val (.ref bA), .val (.int (6 : Int32)), .val (.int (2 : Int32)), .val (.ref u2)] [(.int p1), (.int w7)])) _
    refine XS.icmpYes X8.here hx rfl (pc0 := 25) (pc' := 31) rfl (hb hby d2_25) rfl (feq hc25_3).2 (by decide) (by decide) ?_
    show Steps p.tables e below (T8.setTop (mkF m 31 #[.val (.int p1), .val (.ref bA), .val (.int (6 : Int32)), .val (.int (2 : Int32)), .val (.ref u2)] [])) _
    refine XS.iinc X8.here hx rfl (hb hby d2_31) rfl (l' := #[.val (.int p1), .val (.ref bA), .val (.int (6 : Int32)), .val (.int (3 : Int32)), .val (.ref u2)]) rfl ?_
    show Steps p.tables e below (T8.setTop (mkF m 34 #[.val (.int p1), .val (.ref bA), .val (.int (6 : Int32)), .val (.int (3 : Int32)), .val (.ref u2)] [])) _
    refine XS.goto X8.here hx rfl (pc0 := 34) (pc' := 9) rfl (hb hby d2_34) (by decide) (by decide) ?_
    show Steps p.tables e below (T8.setTop (mkF m 9 #[.val (.int p1), .val (.ref bA), .val (.int (6 : Int32)), .val (.int (3 : Int32)), .val (.ref u2)] [])) _
    refine XS.iloadN X8.here hx rfl (hb hby d2_9) rfl ?_
    show Steps p.tables e below (T8.setTop (mkF m 10 #[.val (.int p1), .val (.ref bA), .val (.int (6 : Int32)), .val (.int (3 : Int32)), .val (.ref u2)] [(.int (3 : Int32))])) _
    refine XS.iloadN X8.here hx rfl (hb hby d2_10) rfl ?_
    show Steps p.tables e below (T8.setTop (mkF m 11 #[.val (.int p1), .val (.ref bA), .val (.int (6 : Int32)), .val (.int (3 : Int32)), .val (.ref u2)] [(.int (6 : Int32)), (.int (3 : Int32))])) _
    refine XS.icmpNo X8.here hx rfl (hb hby d2_11) rfl (tlt (by decide : (3 : Int32) < (6 : Int32))).2.1 ?_
    show Steps p.tables e below (T8.setTop (mkF m 14 #[.val (.int p1), .val (.ref bA), .val (.int (6 : Int32)), .val (.int (3 : Int32)), .val (.ref u2)] [])) _
    refine XS.aloadN X8.here hx rfl (hb hby d2_14) rfl rfl ?_
    show Steps p.tables e below (T8.setTop (mkF m 15 #[.val (.int p1), .val (.ref bA), .val (.int (6 : Int32)), .val (.int (3 : Int32)), .val (.ref u2)] [(.ref bA)])) _
    refine XS.iloadN X8.here hx rfl (hb hby d2_15) rfl ?_
    show Steps p.tables e below (T8.setTop (mkF m 16 #[.val (.int p1), .val (.ref bA), .val (.int (6 : Int32)), .val (.int (3 : Int32)), .val (.ref u2)] [(.int (3 : Int32)), (.ref bA)])) _
    refine X8.aaload hx (j := (3 : Int32)) (v := (.ref u3)) (by rw [e8]; exact Ar_bA.1) (State.isArrayOf_alike hZ.alike Ar_bA.2.1) rfl Ar_bA.2.2 hin16_4 hat16_4 (g := (mkF m 16 #[.val (.int p1), .val (.ref bA), .val (.int (6 : Int32)), .val (.int (3 : Int32)), .val (.ref u2)] [(.int (3 : Int32)), (.ref bA)])) rfl rfl (hb hby d2_16) _ ?_
    show Steps p.tables e below (T8.setTop (mkF m 17 #[.val (.int p1), .val (.ref bA), .val (.int (6 : Int32)), .val (.int (3 : Int32)), .val (.ref u2)] [(.ref u3)])) _
    refine XS.astore X8.here hx rfl (hb hby d2_17) rfl rfl (l' := #[.val (.int p1), .val (.ref bA), .val (.int (6 : Int32)), .val (.int (3 : Int32)), .val (.ref u3)]) rfl ?_
    show Steps p.tables e below (T8.setTop (mkF m 19 #[.val (.int p1), .val (.ref bA), .val (.int (6 : Int32)), .val (.int (3 : Int32)), .val (.ref u3)] [])) _
    refine XS.aload X8.here hx rfl (hb hby d2_19) rfl rfl ?_
    show Steps p.tables e below (T8.setTop (mkF m 21 #[.val (.int p1), .val (.ref bA), .val (.int (6 : Int32)), .val (.int (3 : Int32)), .val (.ref u3)] [(.ref u3)])) _
    refine st10 _ ?_
    show Steps p.tables e below (T10.setTop (mkF m 24 #[.val (.int p1), .val (.ref bA), .val (.int (6 : Int32)), .val (.int (3 : Int32)), .val (.ref u3)] [(.int w9)])) _
    refine XS.iloadN X10.here hx rfl (hb hby d2_24) rfl ?_
    show Steps p.tables e below (T10.setTop (mkF m 25 #[.val (.int p1), .val (.ref bA), .val (.int (6 : Int32)), .val (.int (3 : Int32)), .val (.ref u3)] [(.int p1), (.int w9)])) _
    refine XS.icmpYes X10.here hx rfl (pc0 := 25) (pc' := 31) rfl (hb hby d2_25) rfl (feq hc25_4).2 (by decide) (by decide) ?_
    show Steps p.tables e below (T10.setTop (mkF m 31 #[.val (.int p1), .val (.ref bA), .val (.int (6 : Int32)), .val (.int (3 : Int32)), .val (.ref u3)] [])) _
    refine XS.iinc X10.here hx rfl (hb hby d2_31) rfl (l' := #[.val (.int p1), .val (.ref bA), .val (.int (6 : Int32)), .val (.int (4 : Int32)), .val (.ref u3)]) rfl ?_
    show Steps p.tables e below (T10.setTop (mkF m 34 #[.val (.int p1), .val (.ref bA), .val (.int (6 : Int32)), .val (.int (4 : Int32)), .val (.ref u3)] [])) _
    refine XS.goto X10.here hx rfl (pc0 := 34) (pc' := 9) rfl (hb hby d2_34) (by decide) (by decide) ?_
    show Steps p.tables e below (T10.setTop (mkF m 9 #[.val (.int p1), .val (.ref bA), .val (.int (6 : Int32)), .val (.int (4 : Int32)), .val (.ref u3)] [])) _
    refine XS.iloadN X10.here hx rfl (hb hby d2_9) rfl ?_
    show Steps p.tables e below (T10.setTop (mkF m 10 #[.val (.int p1), .val (.ref bA), .val (.int (6 : Int32)), .val (.int (4 : Int32)), .val (.ref u3)] [(.int (4 : Int32))])) _
    refine XS.iloadN X10.here hx rfl (hb hby d2_10) rfl ?_
    show Steps p.tables e below (T10.setTop (mkF m 11 #[.val (.int p1), .val (.ref bA), .val (.int (6 : Int32)), .val (.int (4 : Int32)), .val (.ref u3)] [(.int (6 : Int32)), (.int (4 : Int32))])) _
    refine XS.icmpNo X10.here hx rfl (hb hby d2_11) rfl (tlt (by decide : (4 : Int32) < (6 : Int32))).2.1 ?_
    show Steps p.tables e below (T10.setTop (mkF m 14 #[.val (.int p1), .val (.ref bA), .val (.int (6 : Int32)), .val (.int (4 : Int32)), .val (.ref u3)] [])) _
    refine XS.aloadN X10.here hx rfl (hb hby d2_14) rfl rfl ?_
    show Steps p.tables e below (T10.setTop (mkF m 15 #[.val (.int p1), .val (.ref bA), .val (.int (6 : Int32)), .val (.int (4 : Int32)), .val (.ref u3)] [(.ref bA)])) _
    refine XS.iloadN X10.here hx rfl (hb hby d2_15) rfl ?_
    show Steps p.tables e below (T10.setTop (mkF m 16 #[.val (.int p1), .val (.ref bA), .val (.int (6 : Int32)), .val (.int (4 : Int32)), .val (.ref u3)] [(.int (4 : Int32)), (.ref bA)])) _
    refine X10.aaload hx (j := (4 : Int32)) (v := (.ref u4)) (by rw [e10]; exact Ar_bA.1) (State.isArrayOf_alike hZ.alike Ar_bA.2.1) rfl Ar_bA.2.2 hin16_5 hat16_5 (g := (mkF m 16 #[.val (.int p1), .val (.ref bA), .val (.int (6 : Int32)), .val (.int (4 : Int32)), .val (.ref u3)] [(.int (4 : Int32)), (.ref bA)])) rfl rfl (hb hby d2_16) _ ?_
    show Steps p.tables e below (T10.setTop (mkF m 17 #[.val (.int p1), .val (.ref bA), .val (.int (6 : Int32)), .val (.int (4 : Int32)), .val (.ref u3)] [(.ref u4)])) _
    refine XS.astore X10.here hx rfl (hb hby d2_17) rfl rfl (l' := #[.val (.int p1), .val (.ref bA), .val (.int (6 : Int32)), .val (.int (4 : Int32)), .val (.ref u4)]) rfl ?_
    show Steps p.tables e below (T10.setTop (mkF m 19 #[.val (.int p1), .val (.ref bA), .val (.int (6 : Int32)), .val (.int (4 : Int32)), .val (.ref u4)] [])) _
    refine XS.aload X10.here hx rfl (hb hby d2_19) rfl rfl ?_
    show Steps p.tables e below (T10.setTop (mkF m 21 #[.val (.int p1), .val (.ref bA), .val (.int (6 : Int32)), .val (.int (4 : Int32)), .val (.ref u4)] [(.ref u4)])) _
    refine st12 _ ?_
    show Steps p.tables e below (T12.setTop (mkF m 24 #[.val (.int p1), .val (.ref bA), .val (.int (6 : Int32)), .val (.int (4 : Int32)), .val (.ref u4)] [(.int w11)])) _
    refine XS.iloadN X12.here hx rfl (hb hby d2_24) rfl ?_
    show Steps p.tables e below (T12.setTop (mkF m 25 #[.val (.int p1), .val (.ref bA), .val (.int (6 : Int32)), .val (.int (4 : Int32)), .val (.ref u4)] [(.int p1), (.int w11)])) _
    refine XS.icmpNo X12.here hx rfl (hb hby d2_25) rfl (teq hc25_5).2 ?_
    show Steps p.tables e below (T12.setTop (mkF m 28 #[.val (.int p1), .val (.ref bA), .val (.int (6 : Int32)), .val (.int (4 : Int32)), .val (.ref u4)] [])) _
    refine XS.aload X12.here hx rfl (hb hby d2_28) rfl rfl ?_
    show Steps p.tables e below (T12.setTop (mkF m 30 #[.val (.int p1), .val (.ref bA), .val (.int (6 : Int32)), .val (.int (4 : Int32)), .val (.ref u4)] [(.ref u4)])) _
    jvm_step X12.here [X12.here.top, hx, (hb hby d2_30), X12.method', Bd.returns, Value.isRef, FieldType.isReference]
    first | (intro acts; rw [hr _ acts rfl rfl rfl]) | rw [hr _ _ rfl rfl rfl]
    exact Steps.refl _
  · show Q2 u4 h0 n0 _ T12.heap _
    rw [e12]
    exact ⟨rfl, N2, K2⟩
set_option maxRecDepth 65536 in
set_option maxHeartbeats 40000000 in
theorem rm2_ftftftftftff (l : Launch) (Z : State) (a0 : Array Value) (hw : ∀ d ∈ tables_1, d.before a0 Z = true) (ws : List Jvm.Cond) (p1 : Int32) (u0 : Addr) (u1 : Addr) (u2 : Addr) (u3 : Addr) (u4 : Addr) (u5 : Addr) (w3 : Int32) (w5 : Int32) (w7 : Int32) (w9 : Int32) (w11 : Int32) (w13 : Int32) (wV : Addr) (kA : ClassId) (h0 : Heap) (n0 : Nat) (Z0 : n0 ≤ h0.size) (S_V : Sta Z h0 "com/example/wepwawet/wepwawet/server/Status" "$VALUES" "[Lcom/example/wepwawet/wepwawet/server/Status;" (.ref wV)) (E_V : Exa Z h0 wV "[Lcom/example/wepwawet/wepwawet/server/Status;") (V_V : Arv Z h0 wV kA (.object "com/example/wepwawet/wepwawet/server/Status") (6 : Int32) [.ref u0, .ref u1, .ref u2, .ref u3, .ref u4, .ref u5] .null) (F_httpCode_u0 : Fld Z h0 u0 "com/example/wepwawet/wepwawet/server/Status" "httpCode" "I" (.int w3)) (F_httpCode_u1 : Fld Z h0 u1 "com/example/wepwawet/wepwawet/server/Status" "httpCode" "I" (.int w5)) (F_httpCode_u2 : Fld Z h0 u2 "com/example/wepwawet/wepwawet/server/Status" "httpCode" "I" (.int w7)) (F_httpCode_u3 : Fld Z h0 u3 "com/example/wepwawet/wepwawet/server/Status" "httpCode" "I" (.int w9)) (F_httpCode_u4 : Fld Z h0 u4 "com/example/wepwawet/wepwawet/server/Status" "httpCode" "I" (.int w11)) (F_httpCode_u5 : Fld Z h0 u5 "com/example/wepwawet/wepwawet/server/Status" "httpCode" "I" (.int w13)) (hc25 : ¬ (w3 = p1)) (hc25_2 : ¬ (w5 = p1)) (hc25_3 : ¬ (w7 = p1)) (hc25_4 : ¬ (w9 = p1)) (hc25_5 : ¬ (w11 = p1)) (hc25_6 : w13 = p1) :
    MetFree l (⟨"com/example/wepwawet/wepwawet/server/Status", "forHttpCode", "(I)Lcom/example/wepwawet/wepwawet/server/Status;"⟩ : MethodName) (head1 (Jvm.Cond.code (⟨"com/example/wepwawet/wepwawet/server/Status", "forHttpCode", "(I)Lcom/example/wepwawet/wepwawet/server/Status;"⟩ : MethodName) prog_29_method_5_code 5 (some (.object "com/example/wepwawet/wepwawet/server/Status")) :: ws) ({ frames := 2, cells := 1, slots := 6, locals := 25 } : Room)) (fun a U => a = #[(.int p1)] ∧ Z.Warmed39 U.vm ∧ U.heap = h0) (fun _ _ _ _ _ => True) (fun _ U o U' => ∃ v L, o = .returned v ∧ Q2 u5 h0 n0 v U'.heap L ∧ FrameEnd U o U' L ({ frames := 2, cells := 1, slots := 6, locals := 25 } : Room).cells ({ frames := 2, cells := 1, slots := 6, locals := 25 } : Room).slots) := by
  refine MetFree.of_bodySF (plainFor_of_name pn_2) hisR ?_
  intro p e s m args below meth c s₁ Bd hml0 hP hK
  obtain ⟨rfl, hZ, hh⟩ := hP
  have hx := Bd.exec
  have hby := Bd.bytes
  have hml : c.maxLocals = 5 := hml0
  have hown : s.vm.findClass "com/example/wepwawet/wepwawet/server/Status" = some m.cls := findClass_of_methodNamed Bd.named
  have hnm := (name_of_methodNamed Bd.named Bd.method).1
  have X0 : Stand p l e ({ frames := 2, cells := 1, slots := 6, locals := 25 } : Room) s m #[(.int p1)] below meth c s₁ [] 0 0 := Stand.of_body Bd
  have e0 : s₁.heap = h0 := by rw [← hh, Bd.state]; rfl
  have N0 := Fr.nil n0
  have pre0 : ∀ t, Steps p.tables e below (s₁.setTop (mkF m 0 #[.val (.int p1), .unset, .unset, .unset, .unset] [])) t → Steps p.tables e below (s₁.setTop (entryFrame m #[(.int p1)] 5)) t := fun t k => castTop (ef_2 m p1) k
  obtain ⟨_, _, ⟨T2, L2, k2, n2⟩, -, X2, ⟨Lc2, hQ2, l2, y2, z2⟩, st2⟩ := Jvm.LawKit.callS X0 hx (y := (⟨"com/example/wepwawet/wepwawet/server/Status", "values", "()[Lcom/example/wepwawet/wepwawet/server/Status;"⟩ : MethodName)) hown (mvT hZ (hw _ (List.mem_of_getElem? (i := 8) rfl))) (mvT hZ (hw _ (List.mem_of_getElem? (i := 9) rfl))) (mvT hZ (hw _ (List.mem_of_getElem? (i := 6) rfl))) (mvT hZ (hw _ (List.mem_of_getElem? (i := 10) rfl))) (by decide) (backOf (W := 0) (rm3 l Z a0 hw [] wV kA [.ref u0, .ref u1, .ref u2, .ref u3, .ref u4, .ref u5] h0 n0 Z0 S_V E_V V_V) hZ (hw _ (List.mem_of_getElem? (i := 10) rfl)) (hw _ (List.mem_of_getElem? (i := 6) rfl)) (by decide) (by decide)) (g := (mkF m 0 #[.val (.int p1), .unset, .unset, .unset, .unset] [])) rfl (by rw [hml]; rfl) (argsL := []) (rest := []) (lenOf pd_2_2 rfl) rfl (by show 2 * 0 + _ ≤ _; exact Nat.le_of_eq rfl) (hb hby d2_0) (fun _ _ => ⟨rfl, e0, (by decide : 0 + 1 ≤ _), (by decide : 0 + 6 ≤ _)⟩)
  dsimp only [Pt.U, Pt.locs, Pt.cells, Pt.slots] at X2 l2 y2 z2 st2 hQ2
  subst l2 y2 z2
  obtain ⟨bA, rfl, N2q, K2, V_bA⟩ := hQ2
  have N2 := Fr.app N0 N2q
  obtain ⟨cl_bA_5, Ar_bA, q_bA, S_bA, N_bA, H_bA, G_bA⟩ := V_bA
  have hin16 : ¬ ((0 : Int32) < 0 ∨ cl_bA_5.slots.size ≤ ((0 : Int32)).toNatClampNeg) := inb_of S_bA ⟨by decide, by decide⟩
  have hat16 : cl_bA_5.slots[((0 : Int32)).toNatClampNeg]? = some (.ref u0) := H_bA.at hin16 rfl
  obtain ⟨T4, X4, e4, st4⟩ := getF X2 hx hZ hown (host := "") (Or.inl (hw _ (List.mem_of_getElem? (i := 29) rfl))) Via.refl rfl (F_httpCode_u0.keep K2 List.not_mem_nil) (g := (mkF m 21 #[.val (.int p1), .val (.ref bA), .val (.int (6 : Int32)), .val (.int (0 : Int32)), .val (.ref u0)] [(.ref u0)])) rfl rfl (hb hby d2_21)
  have hin16_2 : ¬ ((1 : Int32) < 0 ∨ cl_bA_5.slots.size ≤ ((1 : Int32)).toNatClampNeg) := inb_of S_bA ⟨by decide, by decide⟩
  have hat16_2 : cl_bA_5.slots[((1 : Int32)).toNatClampNeg]? = some (.ref u1) := H_bA.at hin16_2 rfl
  obtain ⟨T6, X6, e6, st6⟩ := getF X4 hx hZ hown (host := "") (Or.inl (hw _ (List.mem_of_getElem? (i := 29) rfl))) Via.refl e4 (F_httpCode_u1.keep K2 List.not_mem_nil) (g := (mkF m 21 #[.val (.int p1), .val (.ref bA), .val (.int (6 : Int32)), .val (.int (1 : Int32)), .val (.ref u1)] [(.ref u1)])) rfl rfl (hb hby d2_21)
  have hin16_3 : ¬ ((2 : Int32) < 0 ∨ cl_bA_5.slots.size ≤ ((2 : Int32)).toNatClampNeg) := inb_of S_bA ⟨by decide, by decide⟩
  have hat16_3 : cl_bA_5.slots[((2 : Int32)).toNatClampNeg]? = some (.ref u2) := H_bA.at hin16_3 rfl
  obtain ⟨T8, X8, e8, st8⟩ := getF X6 hx hZ hown (host := "") (Or.inl (hw _ (List.mem_of_getElem? (i := 29) rfl))) Via.refl e6 (F_httpCode_u2.keep K2 List.not_mem_nil) (g := (mkF m 21 #[.val (.int p1), .val (.ref bA), .val (.int (6 : Int32)), .val (.int (2 : Int32)), .val (.ref u2)] [(.ref u2)])) rfl rfl (hb hby d2_21)
  have hin16_4 : ¬ ((3 : Int32) < 0 ∨ cl_bA_5.slots.size ≤ ((3 : Int32)).toNatClampNeg) := inb_of S_bA ⟨by decide, by decide⟩
  have hat16_4 : cl_bA_5.slots[((3 : Int32)).toNatClampNeg]? = some (.ref u3) := H_bA.at hin16_4 rfl
  obtain ⟨T10, X10, e10, st10⟩ := getF X8 hx hZ hown (host := "") (Or.inl (hw _ (List.mem_of_getElem? (i := 29) rfl))) Via.refl e8 (F_httpCode_u3.keep K2 List.not_mem_nil) (g := (mkF m 21 #[.val (.int p1), .val (.ref bA), .val (.int (6 : Int32)), .val (.int (3 : Int32)), .val (.ref u3)] [(.ref u3)])) rfl rfl (hb hby d2_21)
  have hin16_5 : ¬ ((4 : Int32) < 0 ∨ cl_bA_5.slots.size ≤ ((4 : Int32)).toNatClampNeg) := inb_of S_bA ⟨by decide, by decide⟩
  have hat16_5 : cl_bA_5.slots[((4 : Int32)).toNatClampNeg]? = some (.ref u4) := H_bA.at hin16_5 rfl
  obtain ⟨T12, X12, e12, st12⟩ := getF X10 hx hZ hown (host := "") (Or.inl (hw _ (List.mem_of_getElem? (i := 29) rfl))) Via.refl e10 (F_httpCode_u4.keep K2 List.not_mem_nil) (g := (mkF m 21 #[.val (.int p1), .val (.ref bA), .val (.int (6 : Int32)), .val (.int (4 : Int32)), .val (.ref u4)] [(.ref u4)])) rfl rfl (hb hby d2_21)
  have hin16_6 : ¬ ((5 : Int32) < 0 ∨ cl_bA_5.slots.size ≤ ((5 : Int32)).toNatClampNeg) := inb_of S_bA ⟨by decide, by decide⟩
  have hat16_6 : cl_bA_5.slots[((5 : Int32)).toNatClampNeg]? = some (.ref u5) := H_bA.at hin16_6 rfl
  obtain ⟨T14, X14, e14, st14⟩ := getF X12 hx hZ hown (host := "") (Or.inl (hw _ (List.mem_of_getElem? (i := 29) rfl))) Via.refl e12 (F_httpCode_u5.keep K2 List.not_mem_nil) (g := (mkF m 21 #[.val (.int p1), .val (.ref bA), .val (.int (6 : Int32)), .val (.int (5 : Int32)), .val (.ref u5)] [(.ref u5)])) rfl rfl (hb hby d2_21)
  obtain ⟨fs, hr, hrun, hended, hW, hsame⟩ := X14.leave (v := some (.ref u5)) (fun h => by rw [Bd.returns] at h; cases h)
  refine ⟨_, _, pre0 _ ?_, hrun, hended, _, _, rfl, ?_, ⟨_, rfl⟩, hW, hsame.mono (by decide) (by decide)⟩
  · show Steps p.tables e below (s₁.setTop (mkF m 0 #[.val (.int p1), .unset, .unset, .unset, .unset] [])) _
    refine st2 _ ?_
    show Steps p.tables e below (T2.setTop (mkF m 3 #[.val (.int p1), .unset, .unset, .unset, .unset] [(.ref bA)])) _
    refine XS.astoreN X2.here hx rfl (hb hby d2_3) rfl rfl (l' := #[.val (.int p1), .val (.ref bA), .unset, .unset, .unset]) rfl ?_
    show Steps p.tables e below (T2.setTop (mkF m 4 #[.val (.int p1), .val (.ref bA), .unset, .unset, .unset] [])) _
    refine XS.aloadN X2.here hx rfl (hb hby d2_4) rfl rfl ?_
    show Steps p.tables e below (T2.setTop (mkF m 5 #[.val (.int p1), .val (.ref bA), .unset, .unset, .unset] [(.ref bA)])) _
    refine X2.arraylength hx (by exact Ar_bA.1) (State.isArrayOf_alike hZ.alike Ar_bA.2.1) (g := (mkF m 5 #[.val (.int p1), .val (.ref bA), .unset, .unset, .unset] [(.ref bA)])) rfl rfl (hb hby d2_5) _ ?_
    rw [len_of S_bA N_bA]
    show Steps p.tables e below (T2.setTop (mkF m 6 #[.val (.int p1), .val (.ref bA), .unset, .unset, .unset] [(.int (6 : Int32))])) _
    refine XS.istoreN X2.here hx rfl (hb hby d2_6) rfl (l' := #[.val (.int p1), .val (.ref bA), .val (.int (6 : Int32)), .unset, .unset]) rfl ?_
    show Steps p.tables e below (T2.setTop (mkF m 7 #[.val (.int p1), .val (.ref bA), .val (.int (6 : Int32)), .unset, .unset] [])) _
    refine XS.iconst X2.here hx rfl (hb hby d2_7) ?_
    show Steps p.tables e below (T2.setTop (mkF m 8 #[.val (.int p1), .val (.ref bA), .val (.int (6 : Int32)), .unset, .unset] [(.int (0 : Int32))])) _
    refine XS.istoreN X2.here hx rfl (hb hby d2_8) rfl (l' := #[.val (.int p1), .val (.ref bA), .val (.int (6 : Int32)), .val (.int (0 : Int32)), .unset]) rfl ?_
    show Steps p.tables e below (T2.setTop (mkF m 9 #[.val (.int p1), .val (.ref bA), .val (.int (6 : Int32)), .val (.int (0 : Int32)), .unset] [])) _
    refine XS.iloadN X2.here hx rfl (hb hby d2_9) rfl ?_
    show Steps p.tables e below (T2.setTop (mkF m 10 #[.val (.int p1), .val (.ref bA), .val (.int (6 : Int32)), .val (.int (0 : Int32)), .unset] [(.int (0 : Int32))])) _
    refine XS.iloadN X2.here hx rfl (hb hby d2_10) rfl ?_
    show Steps p.tables e below (T2.setTop (mkF m 11 #[.val (.int p1), .val (.ref bA), .val (.int (6 : Int32)), .val (.int (0 : Int32)), .unset] [(.int (6 : Int32)), (.int (0 : Int32))])) _
    refine XS.icmpNo X2.here hx rfl (hb hby d2_11) rfl (tlt (by decide : (0 : Int32) < (6 : Int32))).2.1 ?_
    show Steps p.tables e below (T2.setTop (mkF m 14 #[.val (.int p1), .val (.ref bA), .val (.int (6 : Int32)), .val (.int (0 : Int32)), .unset] [])) _
    refine XS.aloadN X2.here hx rfl (hb hby d2_14) rfl rfl ?_
    show Steps p.tables e below (T2.setTop (mkF m 15 #[.val (.int p1), .val (.ref bA), .val (.int (6 : Int32)), .val (.int (0 : Int32)), .unset] [(.ref bA)])) _
    refine XS.iloadN X2.here hx rfl (hb hby d2_15) rfl ?_
    show Steps p.tables e below (T2.setTop (mkF m 16 #[.val (.int p1), .val (.ref bA), .val (.int (6 : Int32)), .val (.int (0 : Int32)), .unset] [(.int (0 : Int32)), (.ref bA)])) _
    refine X2.aaload hx (j := (0 : Int32)) (v := (.ref u0)) (by exact Ar_bA.1) (State.isArrayOf_alike hZ.alike Ar_bA.2.1) rfl Ar_bA.2.2 hin16 hat16 (g := (mkF m 16 #[.val (.int p1), .val (.ref bA), .val (.int (6 : Int32)), .val (.int (0 : Int32)), .unset] [(.int (0 : Int32)), (.ref bA)])) rfl rfl (hb hby d2_16) _ ?_
    show Steps p.tables e below (T2.setTop (mkF m 17 #[.val (.int p1), .val (.ref bA), .val (.int (6 : Int32)), .val (.int (0 : Int32)), .unset] [(.ref u0)])) _
    refine XS.astore X2.here hx rfl (hb hby d2_17) rfl rfl (l' := #[.val (.int p1), .val (.ref bA), .val (.int (6 : Int32)), .val (.int (0 : Int32)), .val (.ref u0)]) rfl ?_
    show Steps p.tables e below (T2.setTop (mkF m 19 #[.val (.int p1), .val (.ref bA), .val (.int (6 : Int32)), .val (.int (0 : Int32)), .val (.ref u0)] [])) _
    refine XS.aload X2.here hx rfl (hb hby d2_19) rfl rfl ?_
    show Steps p.tables e below (T2.setTop (mkF m 21 #[.val (.int p1), .val (.ref bA), .val (.int (6 : Int32)), .val (.int (0 : Int32)), .val (.ref u0)] [(.ref u0)])) _
    refine st4 _ ?_
    show Steps p.tables e below (T4.setTop (mkF m 24 #[.val (.int p1), .val (.ref bA), .val (.int (6 : Int32)), .val (.int (0 : Int32)), .val (.ref u0)] [(.int w3)])) _
    refine XS.iloadN X4.here hx rfl (hb hby d2_24) rfl ?_
    show Steps p.tables e below (T4.setTop (mkF m 25 #[.val (.int p1), .val (.ref bA), .val (.int (6 : Int32)), .val (.int (0 : Int32)), .val (.ref u0)] [(.int p1), (.int w3)])) _
    refine XS.icmpYes X4.here hx rfl (pc0 := 25) (pc' := 31) rfl (hb hby d2_25) rfl (feq hc25).2 (by decide) (by decide) ?_
    show Steps p.tables e below (T4.setTop (mkF m 31 #[.val (.int p1), .val (.ref bA), .val (.int (6 : Int32)), .val (.int (0 : Int32)), .val (.ref u0)] [])) _
    refine XS.iinc X4.here hx rfl (hb hby d2_31) rfl (l' := #[.val (.int p1), .val (.ref bA), .val (.int (6 : Int32)), .val (.int (1 : Int32)), .val (.ref u0)]) rfl ?_
    show Steps p.tables e below (T4.setTop (mkF m 34 #[.val (.int p1), .val (.ref bA), .val (.int (6 : Int32)), .val (.int (1 : Int32)), .val (.ref u0)] [])) _
    refine XS.goto X4.here hx rfl (pc0 := 34) (pc' := 9) rfl (hb hby d2_34) (by decide) (by decide) ?_
    show Steps p.tables e below (T4.setTop (mkF m 9 #[.val (.int p1), .val (.ref bA), .val (.int (6 : Int32)), .val (.int (1 : Int32)), .val (.ref u0)] [])) _
    refine XS.iloadN X4.here hx rfl (hb hby d2_9) rfl ?_
    show Steps p.tables e below (T4.setTop (mkF m 10 #[.val (.int p1), .val (.ref bA), .val (.int (6 : Int32)), .val (.int (1 : Int32)), .val (.ref u0)] [(.int (1 : Int32))])) _
    refine XS.iloadN X4.here hx rfl (hb hby d2_10) rfl ?_
    show Steps p.tables e below (T4.setTop (mkF m 11 #[.val (.int p1), .val (.ref bA), .val (.int (6 : Int32)), .val (.int (1 : Int32)), .val (.ref u0)] [(.int (6 : Int32)), (.int (1 : Int32))])) _
    refine XS.icmpNo X4.here hx rfl (hb hby d2_11) rfl (tlt (by decide : (1 : Int32) < (6 : Int32))).2.1 ?_
    show Steps p.tables e below (T4.setTop (mkF m 14 #[.val (.int p1), .val (.ref bA), .val (.int (6 : Int32)), .val (.int (1 : Int32)), .val (.ref u0)] [])) _
    refine XS.aloadN X4.here hx rfl (hb hby d2_14) rfl rfl ?_
    show Steps p.tables e below (T4.setTop (mkF m 15 #[.val (.int p1), .val (.ref bA), .val (.int (6 : Int32)), .val (.int (1 : Int32)), .val (.ref u0)] [(.ref bA)])) _
    refine XS.iloadN X4.here hx rfl (hb hby d2_15) rfl ?_
    show Steps p.tables e below (T4.setTop (mkF m 16 #[.val (.int p1), .val (.ref bA), .val (.int (6 : Int32)), .val (.int (1 : Int32)), .val (.ref u0)] [(.int (1 : Int32)), (.ref bA)])) _
    refine X4.aaload hx (j := (1 : Int32)) (v := (.ref u1)) (by rw [e4]; exact Ar_bA.1) (State.isArrayOf_alike hZ.alike Ar_bA.2.1) rfl Ar_bA.2.2 hin16_2 hat16_2 (g := (mkF m 16 #[.val (.int p1), .val (.ref bA), .val (.int (6 : Int32)), .val (.int (1 : Int32)), .val (.ref u0)] [(.int (1 : Int32)), (.ref bA)])) rfl rfl (hb hby d2_16) _ ?_
    show Steps p.tables e below (T4.setTop (mkF m 17 #[.val (.int p1), .val (.ref bA), .val (.int (6 : Int32)), .val (.int (1 : Int32)), .val (.ref u0)] [(.ref u1)])) _
    refine XS.astore X4.here hx rfl (hb hby d2_17) rfl rfl (l' := #[.val (.int p1), .val (.ref bA), .val (.int (6 : Int32)), .val (.int (1 : Int32)), .val (.ref u1)]) rfl ?_
    show Steps p.tables e below (T4.setTop (mkF m 19 #[.val (.int p1), .val (.ref bA), .val (.int (6 : Int32)), .val (.int (1 : Int32)), .val (.ref u1)] [])) _
    refine XS.aload X4.here hx rfl (hb hby d2_19) rfl rfl ?_
    show Steps p.tables e below (T4.setTop (mkF m 21 #[.val (.int p1), .val (.ref bA), .val (.int (6 : Int32)), .val (.int (1 : Int32)), .val (.ref u1)] [(.ref u1)])) _
    refine st6 _ ?_
    show Steps p.tables e below (T6.setTop (mkF m 24 #[.val (.int p1), .val (.ref bA), .val (.int (6 : Int32)), .val (.int (1 : Int32)), .val (.ref u1)] [(.int w5)])) _
    refine XS.iloadN X6.here hx rfl (hb hby d2_24) rfl ?_
    show Steps p.tables e below (T6.setTop (mkF m 25 #[.val (.int p1), .val (.ref bA), .val (.int (6 : Int32)), .val (.int (1 : Int32)), .val (.ref u1)] [(.int p1), (.int w5)])) _
    refine XS.icmpYes X6.here hx rfl (pc0 := 25) (pc' := 31) rfl (hb hby d2_25) rfl (feq hc25_2).2 (by decide) (by decide) ?_
    show Steps p.tables e below (T6.setTop (mkF m 31 #[.val (.int p1), .val (.ref bA), .val (.int (6 : Int32)), .val (.int (1 : Int32)), .val (.ref u1)] [])) _
    refine XS.iinc X6.here hx rfl (hb hby d2_31) rfl (l' := #[.val (.int p1), .val (.ref bA), .val (.int (6 : Int32)), .val (.int (2 : Int32)), .val (.ref u1)]) rfl ?_
    show Steps p.tables e below (T6.setTop (mkF m 34 #[.val (.int p1), .val (.ref bA), .val (.int (6 : Int32)), .val (.int (2 : Int32)), .val (.ref u1)] [])) _
    refine XS.goto X6.here hx rfl (pc0 := 34) (pc' := 9) rfl (hb hby d2_34) (by decide) (by decide) ?_
    show Steps p.tables e below (T6.setTop (mkF m 9 #[.val (.int p1), .val (.ref bA), .val (.int (6 : Int32)), .val (.int (2 : Int32)), .val (.ref u1)] [])) _
    refine XS.iloadN X6.here hx rfl (hb hby d2_9) rfl ?_
    show Steps p.tables e below (T6.setTop (mkF m 10 #[.val (.int p1), .val (.ref bA), .val (.int (6 : Int32)), .val (.int (2 : Int32)), .val (.ref u1)] [(.int (2 : Int32))])) _
    refine XS.iloadN X6.here hx rfl (hb hby d2_10) rfl ?_
    show Steps p.tables e below (T6.setTop (mkF m 11 #[.val (.int p1), .val (.ref bA), .val (.int (6 : Int32)), .val (.int (2 : Int32)), .val (.ref u1)] [(.int (6 : Int32)), (.int (2 : Int32))])) _
    refine XS.icmpNo X6.here hx rfl (hb hby d2_11) rfl (tlt (by decide : (2 : Int32) < (6 : Int32))).2.1 ?_
    show Steps p.tables e below (T6.setTop (mkF m 14 #[.val (.int p1), .val (.ref bA), .val (.int (6 : Int32)), .val (.int (2 : Int32)), .val (.ref u1)] [])) _
    refine XS.aloadN X6.here hx rfl (hb hby d2_14) rfl rfl ?_
    show Steps p.tables e below (T6.setTop (mkF m 15 #[.val (.int p1), .val (.ref bA), .val (.int (6 : Int32)), .val (.int (2 : Int32)), .val (.ref u1)] [(.ref bA)])) _
    refine XS.iloadN X6.here hx rfl (hb hby d2_15) rfl ?_
    show Steps p.tables e below (T6.setTop (mkF m 16 #[.val (.int p1), .val (.ref bA), .val (.int (6 : Int32)), .val (.int (2 : Int32)), .val (.ref u1)] [(.int (2 : Int32)), (.ref bA)])) _
    refine X6.aaload hx (j := (2 : Int32)) (v := (.ref u2)) (by rw [e6]; exact Ar_bA.1) (State.isArrayOf_alike hZ.alike Ar_bA.2.1) rfl Ar_bA.2.2 hin16_3 hat16_3 (g := (mkF m 16 #[.val (.int p1), .val (.ref bA), .val (.int (6 : Int32)), .val (.int (2 : Int32)), .val (.ref u1)] [(.int (2 : Int32)), (.ref bA)])) rfl rfl (hb hby d2_16) _ ?_
    show Steps p.tables e below (T6.setTop (mkF m 17 #[.val (.int p1), .val (.ref bA), .val (.int (6 : Int32)), .val (.int (2 : Int32)), .val (.ref u1)] [(.ref u2)])) _
    refine XS.astore X6.here hx rfl (hb hby d2_17) rfl rfl (l' := #[.val (.int p1), .val (.ref bA), .val (.int (6 : Int32)), .val (.int (2 : Int32)), .val (.ref u2)]) rfl ?_
    show Steps p.tables e below (T6.setTop (mkF m 19 #[.val (.int p1), .val (.ref bA), .val (.int (6 : Int32)), .val (.int (2 : Int32)), .val (.ref u2)] [])) _
    refine XS.aload X6.here hx rfl (hb hby d2_19) rfl rfl ?_
    show Steps p.tables e below (T6.setTop (mkF m 21 #[.val (.int p1), .val (.ref bA), .val (.int (6 : Int32)), .val (.int (2 : Int32)), .val (.ref u2)] [(.ref u2)])) _
    refine st8 _ ?_
    show Steps p.tables e below (T8.setTop (mkF m 24 #[.val (.int p1), .val (.ref bA), .val (.int (6 : Int32)), .val (.int (2 : Int32)), .val (.ref u2)] [(.int w7)])) _
    refine XS.iloadN X8.here hx rfl (hb hby d2_24) rfl ?_
    show Steps p.tables e below (T8.setTop (mkF m 25 #[.val (.int p1), .val (.ref bA), .val (.int (6 : Int32)), .val (.int (2 : Int32)), .val (.ref u2)] [(.int p1), (.int w7)])) _
    refine XS.icmpYes X8.here hx rfl (pc0 := 25) (pc' := 31) rfl (hb hby d2_25) rfl (feq hc25_3).2 (by decide) (by decide) ?_
    show Steps p.tables e below (T8.setTop (mkF m 31 #[.val (.int p1), .val (.ref bA), .val (.int (6 : Int32)), .val (.int (2 : Int32)), .val (.ref u2)] [])) _
    refine XS.iinc X8.here hx rfl (hb hby d2_31) rfl (l' := #[.val (.int p1), .val (.ref bA), .val (.int (6 : Int32)), .val (.int (3 : Int32)), .val (.ref u2)]) rfl ?_
    show Steps p.tables e below (T8.setTop (mkF m 34 #[.val (.int p1), .val (.ref bA), .val (.int (6 : Int32)), .val (.int (3 : Int32)), .val (.ref u2)] [])) _
    refine XS.goto X8.here hx rfl (pc0 := 34) (pc' := 9) rfl (hb hby d2_34) (by decide) (by decide) ?_
    show Steps p.tables e below (T8.setTop (mkF m 9 #[.val (.int p1), .val (.ref bA), .val (.int (6 : Int32)), .val (.int (3 : Int32)), .val (.ref u2)] [])) _
    refine XS.iloadN X8.here hx rfl (hb hby d2_9) rfl ?_
    show Steps p.tables e below (T8.setTop (mkF m 10 #[.val (.int p1), .val (.ref bA), .val (.int (6 : Int32)), .val (.int (3 : Int32)), .val (.ref u2)] [(.int (3 : Int32))])) _
    refine XS.iloadN X8.here hx rfl (hb hby d2_10) rfl ?_
    show Steps p.tables e below (T8.setTop (mkF m 11 #[.val (.int p1), .val (.ref bA), .val (.int (6 : Int32)), .val (.int (3 : Int32)), .val (.ref u2)] [(.int (6 : Int32)), (.int (3 : Int32))])) _
    refine XS.icmpNo X8.here hx rfl (hb hby d2_11) rfl (tlt (by decide : (3 : Int32) < (6 : Int32))).2.1 ?_
    show Steps p.tables e below (T8.setTop (mkF m 14 #[.val (.int p1), .val (.ref bA), .val (.int (6 : Int32)), .val (.int (3 : Int32)), .val (.ref u2)] [])) _
    refine XS.aloadN X8.here hx rfl (hb hby d2_14) rfl rfl ?_
    show Steps p.tables e below (T8.setTop (mkF m 15 #[.val (.int p1), .val (.ref bA), .val (.int (6 : Int32)), .val (.int (3 : Int32)), .val (.ref u2)] [(.ref bA)])) _
    refine XS.iloadN X8.here hx rfl (hb hby d2_15) rfl ?_
    show Steps p.tables e below (T8.setTop (mkF m 16 #[.val (.int p1), .val (.ref bA), .val (.int (6 : Int32)), .val (.int (3 : Int32)), .val (.ref u2)] [(.int (3 : Int32)), (.ref bA)])) _
    refine X8.aaload hx (j := (3 : Int32)) (v := (.ref u3)) (by rw [e8]; exact Ar_bA.1) (State.isArrayOf_alike hZ.alike Ar_bA.2.1) rfl Ar_bA.2.2 hin16_4 hat16_4 (g := (mkF m 16 #[.val (.int p1), .val (.ref bA), .val (.int (6 : Int32)), .val (.int (3 : Int32)), .val (.ref u2)] [(.int (3 : Int32)), (.ref bA)])) rfl rfl (hb hby d2_16) _ ?_
    show Steps p.tables e below (T8.setTop (mkF m 17 #[.val (.int p1), .val (.ref bA), .val (.int (6 : Int32)), .val (.int (3 : Int32)), .val (.ref u2)] [(.ref u3)])) _
    refine XS.astore X8.here hx rfl (hb hby d2_17) rfl rfl (l' := #[.val (.int p1), .val (.ref bA), .val (.int (6 : Int32)), .val (.int (3 : Int32)), .val (.ref u3)]) rfl ?_
    show Steps p.tables e below (T8.setTop (mkF m 19 #[.val (.int p1), .val (.ref bA), .val (.int (6 : Int32)), .val (.int (3 : Int32)), .val (.ref u3)] [])) _
    refine XS.aload X8.here hx rfl (hb hby d2_19) rfl rfl ?_
    show Steps p.tables e below (T8.setTop (mkF m 21 #[.val (.int p1), .val (.ref bA), .val (.int (6 : Int32)), .val (.int (3 : Int32)), .val (.ref u3)] [(.ref u3)])) _
    refine st10 _ ?_
    show Steps p.tables e below (T10.setTop (mkF m 24 #[.val (.int p1), .val (.ref bA), .val (.int (6 : Int32)), .val (.int (3 : Int32)), .val (.ref u3)] [(.int w9)])) _
    refine XS.iloadN X10.here hx rfl (hb hby d2_24) rfl ?_
    show Steps p.tables e below (T10.setTop (mkF m 25 #[.val (.int p1), .val (.ref bA), .val (.int (6 : Int32)), .val (.int (3 : Int32)), .val (.ref u3)] [(.int p1), (.int w9)])) _
    refine XS.icmpYes X10.here hx rfl (pc0 := 25) (pc' := 31) rfl (hb hby d2_25) rfl (feq hc25_4).2 (by decide) (by decide) ?_
    show Steps p.tables e below (T10.setTop (mkF m 31 #[.val (.int p1), .val (.ref bA), .val (.int (6 : Int32)), .val (.int (3 : Int32)), .val (.ref u3)] [])) _
    refine XS.iinc X10.here hx rfl (hb hby d2_31) rfl (l' := #[.val (.int p1), .val (.ref bA), .val (.int (6 : Int32)), .val (.int (4 : Int32)), .val (.ref u3)]) rfl ?_
    show Steps p.tables e below (T10.setTop (mkF m 34 #[.val (.int p1), .val (.ref bA), .val (.int (6 : Int32)), .val (.int (4 : Int32)), .val (.ref u3)] [])) _
    refine XS.goto X10.here hx rfl (pc0 := 34) (pc' := 9) rfl (hb hby d2_34) (by decide) (by decide) ?_
    show Steps p.tables e below (T10.setTop (mkF m 9 #[.val (.int p1), .val (.ref bA), .val (.int (6 : Int32)), .val (.int (4 : Int32)), .val (.ref u3)] [])) _
    refine XS.iloadN X10.here hx rfl (hb hby d2_9) rfl ?_
    show Steps p.tables e below (T10.setTop (mkF m 10 #[.val (.int p1), .val (.ref bA), .val (.int (6 : Int32)), .val (.int (4 : Int32)), .val (.ref u3)] [(.int (4 : Int32))])) _
    refine XS.iloadN X10.here hx rfl (hb hby d2_10) rfl ?_
    show Steps p.tables e below (T10.setTop (mkF m 11 #[.val (.int p1), .val (.ref bA), .val (.int (6 : Int32)), .val (.int (4 : Int32)), .val (.ref u3)] [(.int (6 : Int32)), (.int (4 : Int32))])) _
    refine XS.icmpNo X10.here hx rfl (hb hby d2_11) rfl (tlt (by decide : (4 : Int32) < (6 : Int32))).2.1 ?_
    show Steps p.tables e below (T10.setTop (mkF m 14 #[.val (.int p1), .val (.ref bA), .val (.int (6 : Int32)), .val (.int (4 : Int32)), .val (.ref u3)] [])) _
    refine XS.aloadN X10.here hx rfl (hb hby d2_14) rfl rfl ?_
    show Steps p.tables e below (T10.setTop (mkF m 15 #[.val (.int p1), .val (.ref bA), .val (.int (6 : Int32)), .val (.int (4 : Int32)), .val (.ref u3)] [(.ref bA)])) _
    refine XS.iloadN X10.here hx rfl (hb hby d2_15) rfl ?_
    show Steps p.tables e below (T10.setTop (mkF m 16 #[.val (.int p1), .val (.ref bA), .val (.int (6 : Int32)), .val (.int (4 : Int32)), .val (.ref u3)] [(.int (4 : Int32)), (.ref bA)])) _
    refine X10.aaload hx (j := (4 : Int32)) (v := (.ref u4)) (by rw [e10]; exact Ar_bA.1) (State.isArrayOf_alike hZ.alike Ar_bA.2.1) rfl Ar_bA.2.2 hin16_5 hat16_5 (g := (mkF m 16 #[.val (.int p1), .val (.ref bA), .val (.int (6 : Int32)), .val (.int (4 : Int32)), .val (.ref u3)] [(.int (4 : Int32)), (.ref bA)])) rfl rfl (hb hby d2_16) _ ?_
    show Steps p.tables e below (T10.setTop (mkF m 17 #[.val (.int p1), .val (.ref bA), .val (.int (6 : Int32)), .val (.int (4 : Int32)), .val (.ref u3)] [(.ref u4)])) _
    refine XS.astore X10.here hx rfl (hb hby d2_17) rfl rfl (l' := #[.val (.int p1), .val (.ref bA), .val (.int (6 : Int32)), .val (.int (4 : Int32)), .val (.ref u4)]) rfl ?_
    show Steps p.tables e below (T10.setTop (mkF m 19 #[.val (.int p1), .val (.ref bA), .val (.int (6 : Int32)), .val (.int (4 : Int32)), .val (.ref u4)] [])) _
    refine XS.aload X10.here hx rfl (hb hby d2_19) rfl rfl ?_
    show Steps p.tables e below (T10.setTop (mkF m 21 #[.val (.int p1), .val (.ref bA), .val (.int (6 : Int32)), .val (.int (4 : Int32)), .val (.ref u4)] [(.ref u4)])) _
    refine st12 _ ?_
    show Steps p.tables e below (T12.setTop (mkF m 24 #[.val (.int p1), .val (.ref bA), .val (.int (6 : Int32)), .val (.int (4 : Int32)), .val (.ref u4)] [(.int w11)])) _
    refine XS.iloadN X12.here hx rfl (hb hby d2_24) rfl ?_
    show Steps p.tables e below (T12.setTop (mkF m 25 #[.val (.int p1), .val (.ref bA), .val (.int (6 : Int32)), .val (.int (4 : Int32)), .val (.ref u4)] [(.int p1), (.int w11)])) _
    refine XS.icmpYes X12.here hx rfl (pc0 := 25) (pc' := 31) rfl (hb hby d2_25) rfl (feq hc25_5).2 (by decide) (by decide) ?_
    show Steps p.tables e below (T12.setTop (mkF m 31 #[.val (.int p1), .val (.ref bA), .val (.int (6 : Int32)), .val (.int (4 : Int32)), .val (.ref u4)] [])) _
    refine XS.iinc X12.here hx rfl (hb hby d2_31) rfl (l' := #[.val (.int p1), .val (.ref bA), .val (.int (6 : Int32)), .val (.int (5 : Int32)), .val (.ref u4)]) rfl ?_
    show Steps p.tables e below (T12.setTop (mkF m 34 #[.val (.int p1), .val (.ref bA), .val (.int (6 : Int32)), .val (.int (5 : Int32)), .val (.ref u4)] [])) _
    refine XS.goto X12.here hx rfl (pc0 := 34) (pc' := 9) rfl (hb hby d2_34) (by decide) (by decide) ?_
    show Steps p.tables e below (T12.setTop (mkF m 9 #[.val (.int p1), .val (.ref bA), .val (.int (6 : Int32)), .val (.int (5 : Int32)), .val (.ref u4)] [])) _
    refine XS.iloadN X12.here hx rfl (hb hby d2_9) rfl ?_
    show Steps p.tables e below (T12.setTop (mkF m 10 #[.val (.int p1), .val (.ref bA), .val (.int (6 : Int32)), .val (.int (5 : Int32)), .val (.ref u4)] [(.int (5 : Int32))])) _
    refine XS.iloadN X12.here hx rfl (hb hby d2_10) rfl ?_
    show Steps p.tables e below (T12.setTop (mkF m 11 #[.val (.int p1), .val (.ref bA), .val (.int (6 : Int32)), .val (.int (5 : Int32)), .val (.ref u4)] [(.int (6 : Int32)), (.int (5 : Int32))])) _
    refine XS.icmpNo X12.here hx rfl (hb hby d2_11) rfl (tlt (by decide : (5 : Int32) < (6 : Int32))).2.1 ?_
    show Steps p.tables e below (T12.setTop (mkF m 14 #[.val (.int p1), .val (.ref bA), .val (.int (6 : Int32)), .val (.int (5 : Int32)), .val (.ref u4)] [])) _
    refine XS.aloadN X12.here hx rfl (hb hby d2_14) rfl rfl ?_
    show Steps p.tables e below (T12.setTop (mkF m 15 #[.val (.int p1), .val (.ref bA), .val (.int (6 : Int32)), .val (.int (5 : Int32)), .val (.ref u4)] [(.ref bA)])) _
    refine XS.iloadN X12.here hx rfl (hb hby d2_15) rfl ?_
    show Steps p.tables e below (T12.setTop (mkF m 16 #[.val (.int p1), .val (.ref bA), .val (.int (6 : Int32)), .val (.int (5 : Int32)), .val (.ref u4)] [(.int (5 : Int32)), (.ref bA)])) _
    refine X12.aaload hx (j := (5 : Int32)) (v := (.ref u5)) (by rw [e12]; exact Ar_bA.1) (State.isArrayOf_alike hZ.alike Ar_bA.2.1) rfl Ar_bA.2.2 hin16_6 hat16_6 (g := (mkF m 16 #[.val (.int p1), .val (.ref bA), .val (.int (6 : Int32)), .val (.int (5 : Int32)), .val (.ref u4)] [(.int (5 : Int32)), (.ref bA)])) rfl rfl (hb hby d2_16) _ ?_
    show Steps p.tables e below (T12.setTop (mkF m 17 #[.val (.int p1), .val (.ref bA), .val (.int (6 : Int32)), .val (.int (5 : Int32)), .val (.ref u4)] [(.ref u5)])) _
    refine XS.astore X12.here hx rfl (hb hby d2_17) rfl rfl (l' := #[.val (.int p1), .val (.ref bA), .val (.int (6 : Int32)), .val (.int (5 : Int32)), .val (.ref u5)]) rfl ?_
    show Steps p.tables e below (T12.setTop (mkF m 19 #[.val (.int p1), .val (.ref bA), .val (.int (6 : Int32)), .val (.int (5 : Int32)), .val (.ref u5)] [])) _
    refine XS.aload X12.here hx rfl (hb hby d2_19) rfl rfl ?_
    show Steps p.tables e below (T12.setTop (mkF m 21 #[.val (.int p1), .val (.ref bA), .val (.int (6 : Int32)), .val (.int (5 : Int32)), .val (.ref u5)] [(.ref u5)])) _
    refine st14 _ ?_
    show Steps p.tables e below (T14.setTop (mkF m 24 #[.val (.int p1), .val (.ref bA), .val (.int (6 : Int32)), .val (.int (5 : Int32)), .val (.ref u5)] [(.int w13)])) _
    refine XS.iloadN X14.here hx rfl (hb hby d2_24) rfl ?_
    show Steps p.tables e below (T14.setTop (mkF m 25 #[.val (.int p1), .val (.ref bA), .val (.int (6 : Int32)), .val (.int (5 : Int32)), .val (.ref u5)] [(.int p1), (.int w13)])) _
    refine XS.icmpNo X14.here hx rfl (hb hby d2_25) rfl (teq hc25_6).2 ?_
    show Steps p.tables e below (T14.setTop (mkF m 28 #[.val (.int p1), .val (.ref bA), .val (.int (6 : Int32)), .val (.int (5 : Int32)), .val (.ref u5)] [])) _
    refine XS.aload X14.here hx rfl (hb hby d2_28) rfl rfl ?_
    show Steps p.tables e below (T14.setTop (mkF m 30 #[.val (.int p1), .val (.ref bA), .val (.int (6 : Int32)), .val (.int (5 : Int32)), .val (.ref u5)] [(.ref u5)])) _
    jvm_step X14.here [X14.here.top, hx, (hb hby d2_30), X14.method', Bd.returns, Value.isRef, FieldType.isReference]
    first | (intro acts; rw [hr _ acts rfl rfl rfl]) | rw [hr _ _ rfl rfl rfl]
    exact Steps.refl _
  · show Q2 u5 h0 n0 _ T14.heap _
    rw [e14]
    exact ⟨rfl, N2, K2⟩
theorem d2_37 : decode prog_29_method_5_code 37 = .ok (.iload_n 0, 1) := by decide +kernel
theorem d2_38 : decode prog_29_method_5_code 38 = .ok (.sipush 500, 3) := by decide +kernel
theorem d2_41 : decode prog_29_method_5_code 41 = .ok (.if_icmp .ge 9, 3) := by decide +kernel
theorem d2_44 : decode prog_29_method_5_code 44 = .ok (.getstatic 3, 3) := by decide +kernel
theorem d2_47 : decode prog_29_method_5_code 47 = .ok (.goto 6, 3) := by decide +kernel
theorem d2_53 : decode prog_29_method_5_code 53 = .ok (.areturn, 1) := by decide +kernel
set_option maxRecDepth 65536 in
set_option maxHeartbeats 40000000 in
theorem rm2_ftftftftftfttf (l : Launch) (Z : State) (a0 : Array Value) (hw : ∀ d ∈ tables_1, d.before a0 Z = true) (ws : List Jvm.Cond) (p1 : Int32) (u0 : Addr) (u1 : Addr) (u2 : Addr) (u3 : Addr) (u4 : Addr) (u5 : Addr) (w3 : Int32) (w5 : Int32) (w7 : Int32) (w9 : Int32) (w11 : Int32) (w13 : Int32) (w15 : Addr) (wV : Addr) (kA : ClassId) (h0 : Heap) (n0 : Nat) (Z0 : n0 ≤ h0.size) (S_V : Sta Z h0 "com/example/wepwawet/wepwawet/server/Status" "$VALUES" "[Lcom/example/wepwawet/wepwawet/server/Status;" (.ref wV)) (E_V : Exa Z h0 wV "[Lcom/example/wepwawet/wepwawet/server/Status;") (V_V : Arv Z h0 wV kA (.object "com/example/wepwawet/wepwawet/server/Status") (6 : Int32) [.ref u0, .ref u1, .ref u2, .ref u3, .ref u4, .ref u5] .null) (F_httpCode_u0 : Fld Z h0 u0 "com/example/wepwawet/wepwawet/server/Status" "httpCode" "I" (.int w3)) (F_httpCode_u1 : Fld Z h0 u1 "com/example/wepwawet/wepwawet/server/Status" "httpCode" "I" (.int w5)) (F_httpCode_u2 : Fld Z h0 u2 "com/example/wepwawet/wepwawet/server/Status" "httpCode" "I" (.int w7)) (F_httpCode_u3 : Fld Z h0 u3 "com/example/wepwawet/wepwawet/server/Status" "httpCode" "I" (.int w9)) (F_httpCode_u4 : Fld Z h0 u4 "com/example/wepwawet/wepwawet/server/Status" "httpCode" "I" (.int w11)) (F_httpCode_u5 : Fld Z h0 u5 "com/example/wepwawet/wepwawet/server/Status" "httpCode" "I" (.int w13)) (S_INVALID_ARGUMENT : Sta Z h0 "com/example/wepwawet/wepwawet/server/Status" "INVALID_ARGUMENT" "Lcom/example/wepwawet/wepwawet/server/Status;" (.ref w15)) (hc25 : ¬ (w3 = p1)) (hc25_2 : ¬ (w5 = p1)) (hc25_3 : ¬ (w7 = p1)) (hc25_4 : ¬ (w9 = p1)) (hc25_5 : ¬ (w11 = p1)) (hc25_6 : ¬ (w13 = p1)) (hc41 : p1 < (500 : Int32)) :
    MetFree l (⟨"com/example/wepwawet/wepwawet/server/Status", "forHttpCode", "(I)Lcom/example/wepwawet/wepwawet/server/Status;"⟩ : MethodName) (head1 (Jvm.Cond.code (⟨"com/example/wepwawet/wepwawet/server/Status", "forHttpCode", "(I)Lcom/example/wepwawet/wepwawet/server/Status;"⟩ : MethodName) prog_29_method_5_code 5 (some (.object "com/example/wepwawet/wepwawet/server/Status")) :: ws) ({ frames := 2, cells := 1, slots := 6, locals := 25 } : Room)) (fun a U => a = #[(.int p1)] ∧ Z.Warmed39 U.vm ∧ U.heap = h0) (fun _ _ _ _ _ => True) (fun _ U o U' => ∃ v L, o = .returned v ∧ Q2 w15 h0 n0 v U'.heap L ∧ FrameEnd U o U' L ({ frames := 2, cells := 1, slots := 6, locals := 25 } : Room).cells ({ frames := 2, cells := 1, slots := 6, locals := 25 } : Room).slots) := by
  refine MetFree.of_bodySF (plainFor_of_name pn_2) hisR ?_
  intro p e s m args below meth c s₁ Bd hml0 hP hK
  obtain ⟨rfl, hZ, hh⟩ := hP
  have hx := Bd.exec
  have hby := Bd.bytes
  have hml : c.maxLocals = 5 := hml0
  have hown : s.vm.findClass "com/example/wepwawet/wepwawet/server/Status" = some m.cls := findClass_of_methodNamed Bd.named
  have hnm := (name_of_methodNamed Bd.named Bd.method).1
  have X0 : Stand p l e ({ frames := 2, cells := 1, slots := 6, locals := 25 } : Room) s m #[(.int p1)] below meth c s₁ [] 0 0 := Stand.of_body Bd
  have e0 : s₁.heap = h0 := by rw [← hh, Bd.state]; rfl
  have N0 := Fr.nil n0
  have pre0 : ∀ t, Steps p.tables e below (s₁.setTop (mkF m 0 #[.val (.int p1), .unset, .unset, .unset, .unset] [])) t → Steps p.tables e below (s₁.setTop (entryFrame m #[(.int p1)] 5)) t := fun t k => castTop (ef_2 m p1) k
  obtain ⟨_, _, ⟨T2, L2, k2, n2⟩, -, X2, ⟨Lc2, hQ2, l2, y2, z2⟩, st2⟩ := Jvm.LawKit.callS X0 hx (y := (⟨"com/example/wepwawet/wepwawet/server/Status", "values", "()[Lcom/example/wepwawet/wepwawet/server/Status;"⟩ : MethodName)) hown (mvT hZ (hw _ (List.mem_of_getElem? (i := 8) rfl))) (mvT hZ (hw _ (List.mem_of_getElem? (i := 9) rfl))) (mvT hZ (hw _ (List.mem_of_getElem? (i := 6) rfl))) (mvT hZ (hw _ (List.mem_of_getElem? (i := 10) rfl))) (by decide) (backOf (W := 0) (rm3 l Z a0 hw [] wV kA [.ref u0, .ref u1, .ref u2, .ref u3, .ref u4, .ref u5] h0 n0 Z0 S_V E_V V_V) hZ (hw _ (List.mem_of_getElem? (i := 10) rfl)) (hw _ (List.mem_of_getElem? (i := 6) rfl)) (by decide) (by decide)) (g := (mkF m 0 #[.val (.int p1), .unset, .unset, .unset, .unset] [])) rfl (by rw [hml]; rfl) (argsL := []) (rest := []) (lenOf pd_2_2 rfl) rfl (by show 2 * 0 + _ ≤ _; exact Nat.le_of_eq rfl) (hb hby d2_0) (fun _ _ => ⟨rfl, e0, (by decide : 0 + 1 ≤ _), (by decide : 0 + 6 ≤ _)⟩)
  dsimp only [Pt.U, Pt.locs, Pt.cells, Pt.slots] at X2 l2 y2 z2 st2 hQ2
  subst l2 y2 z2
  obtain ⟨bA, rfl, N2q, K2, V_bA⟩ := hQ2
  have N2 := Fr.app N0 N2q
  obtain ⟨cl_bA_5, Ar_bA, q_bA, S_bA, N_bA, H_bA, G_bA⟩ := V_bA
  have hin16 : ¬ ((0 : Int32) < 0 ∨ cl_bA_5.slots.size ≤ ((0 : Int32)).toNatClampNeg) := inb_of S_bA ⟨by decide, by decide⟩
  have hat16 : cl_bA_5.slots[((0 : Int32)).toNatClampNeg]? = some (.ref u0) := H_bA.at hin16 rfl
  obtain ⟨T4, X4, e4, st4⟩ := getF X2 hx hZ hown (host := "") (Or.inl (hw _ (List.mem_of_getElem? (i := 29) rfl))) Via.refl rfl (F_httpCode_u0.keep K2 List.not_mem_nil) (g := (mkF m 21 #[.val (.int p1), .val (.ref bA), .val (.int (6 : Int32)), .val (.int (0 : Int32)), .val (.ref u0)] [(.ref u0)])) rfl rfl (hb hby d2_21)
  have hin16_2 : ¬ ((1 : Int32) < 0 ∨ cl_bA_5.slots.size ≤ ((1 : Int32)).toNatClampNeg) := inb_of S_bA ⟨by decide, by decide⟩
  have hat16_2 : cl_bA_5.slots[((1 : Int32)).toNatClampNeg]? = some (.ref u1) := H_bA.at hin16_2 rfl
  obtain ⟨T6, X6, e6, st6⟩ := getF X4 hx hZ hown (host := "") (Or.inl (hw _ (List.mem_of_getElem? (i := 29) rfl))) Via.refl e4 (F_httpCode_u1.keep K2 List.not_mem_nil) (g := (mkF m 21 #[.val (.int p1), .val (.ref bA), .val (.int (6 : Int32)), .val (.int (1 : Int32)), .val (.ref u1)] [(.ref u1)])) rfl rfl (hb hby d2_21)
  have hin16_3 : ¬ ((2 : Int32) < 0 ∨ cl_bA_5.slots.size ≤ ((2 : Int32)).toNatClampNeg) := inb_of S_bA ⟨by decide, by decide⟩
  have hat16_3 : cl_bA_5.slots[((2 : Int32)).toNatClampNeg]? = some (.ref u2) := H_bA.at hin16_3 rfl
  obtain ⟨T8, X8, e8, st8⟩ := getF X6 hx hZ hown (host := "") (Or.inl (hw _ (List.mem_of_getElem? (i := 29) rfl))) Via.refl e6 (F_httpCode_u2.keep K2 List.not_mem_nil) (g := (mkF m 21 #[.val (.int p1), .val (.ref bA), .val (.int (6 : Int32)), .val (.int (2 : Int32)), .val (.ref u2)] [(.ref u2)])) rfl rfl (hb hby d2_21)
  have hin16_4 : ¬ ((3 : Int32) < 0 ∨ cl_bA_5.slots.size ≤ ((3 : Int32)).toNatClampNeg) := inb_of S_bA ⟨by decide, by decide⟩
  have hat16_4 : cl_bA_5.slots[((3 : Int32)).toNatClampNeg]? = some (.ref u3) := H_bA.at hin16_4 rfl
  obtain ⟨T10, X10, e10, st10⟩ := getF X8 hx hZ hown (host := "") (Or.inl (hw _ (List.mem_of_getElem? (i := 29) rfl))) Via.refl e8 (F_httpCode_u3.keep K2 List.not_mem_nil) (g := (mkF m 21 #[.val (.int p1), .val (.ref bA), .val (.int (6 : Int32)), .val (.int (3 : Int32)), .val (.ref u3)] [(.ref u3)])) rfl rfl (hb hby d2_21)
  have hin16_5 : ¬ ((4 : Int32) < 0 ∨ cl_bA_5.slots.size ≤ ((4 : Int32)).toNatClampNeg) := inb_of S_bA ⟨by decide, by decide⟩
  have hat16_5 : cl_bA_5.slots[((4 : Int32)).toNatClampNeg]? = some (.ref u4) := H_bA.at hin16_5 rfl
  obtain ⟨T12, X12, e12, st12⟩ := getF X10 hx hZ hown (host := "") (Or.inl (hw _ (List.mem_of_getElem? (i := 29) rfl))) Via.refl e10 (F_httpCode_u4.keep K2 List.not_mem_nil) (g := (mkF m 21 #[.val (.int p1), .val (.ref bA), .val (.int (6 : Int32)), .val (.int (4 : Int32)), .val (.ref u4)] [(.ref u4)])) rfl rfl (hb hby d2_21)
  have hin16_6 : ¬ ((5 : Int32) < 0 ∨ cl_bA_5.slots.size ≤ ((5 : Int32)).toNatClampNeg) := inb_of S_bA ⟨by decide, by decide⟩
  have hat16_6 : cl_bA_5.slots[((5 : Int32)).toNatClampNeg]? = some (.ref u5) := H_bA.at hin16_6 rfl
  obtain ⟨T14, X14, e14, st14⟩ := getF X12 hx hZ hown (host := "") (Or.inl (hw _ (List.mem_of_getElem? (i := 29) rfl))) Via.refl e12 (F_httpCode_u5.keep K2 List.not_mem_nil) (g := (mkF m 21 #[.val (.int p1), .val (.ref bA), .val (.int (6 : Int32)), .val (.int (5 : Int32)), .val (.ref u5)] [(.ref u5)])) rfl rfl (hb hby d2_21)
  obtain ⟨T16, X16, e16, st16⟩ := getS2 X14 hx hZ hown (host := "") (Or.inl (hw _ (List.mem_of_getElem? (i := 35) rfl))) Via.refl e14 (own_stk S_INVALID_ARGUMENT K2) (g := (mkF m 44 #[.val (.int p1), .val (.ref bA), .val (.int (6 : Int32)), .val (.int (6 : Int32)), .val (.ref u5)] [])) rfl (hb hby d2_44)
  obtain ⟨fs, hr, hrun, hended, hW, hsame⟩ := X16.leave (v := some (.ref w15)) (fun h => by rw [Bd.returns] at h; cases h)
  refine ⟨_, _, pre0 _ ?_, hrun, hended, _, _, rfl, ?_, ⟨_, rfl⟩, hW, hsame.mono (by decide) (by decide)⟩
  · show Steps p.tables e below (s₁.setTop (mkF m 0 #[.val (.int p1), .unset, .unset, .unset, .unset] [])) _
    refine st2 _ ?_
    show Steps p.tables e below (T2.setTop (mkF m 3 #[.val (.int p1), .unset, .unset, .unset, .unset] [(.ref bA)])) _
    refine XS.astoreN X2.here hx rfl (hb hby d2_3) rfl rfl (l' := #[.val (.int p1), .val (.ref bA), .unset, .unset, .unset]) rfl ?_
    show Steps p.tables e below (T2.setTop (mkF m 4 #[.val (.int p1), .val (.ref bA), .unset, .unset, .unset] [])) _
    refine XS.aloadN X2.here hx rfl (hb hby d2_4) rfl rfl ?_
    show Steps p.tables e below (T2.setTop (mkF m 5 #[.val (.int p1), .val (.ref bA), .unset, .unset, .unset] [(.ref bA)])) _
    refine X2.arraylength hx (by exact Ar_bA.1) (State.isArrayOf_alike hZ.alike Ar_bA.2.1) (g := (mkF m 5 #[.val (.int p1), .val (.ref bA), .unset, .unset, .unset] [(.ref bA)])) rfl rfl (hb hby d2_5) _ ?_
    rw [len_of S_bA N_bA]
    show Steps p.tables e below (T2.setTop (mkF m 6 #[.val (.int p1), .val (.ref bA), .unset, .unset, .unset] [(.int (6 : Int32))])) _
    refine XS.istoreN X2.here hx rfl (hb hby d2_6) rfl (l' := #[.val (.int p1), .val (.ref bA), .val (.int (6 : Int32)), .unset, .unset]) rfl ?_
    show Steps p.tables e below (T2.setTop (mkF m 7 #[.val (.int p1), .val (.ref bA), .val (.int (6 : Int32)), .unset, .unset] [])) _
    refine XS.iconst X2.here hx rfl (hb hby d2_7) ?_
    show Steps p.tables e below (T2.setTop (mkF m 8 #[.val (.int p1), .val (.ref bA), .val (.int (6 : Int32)), .unset, .unset] [(.int (0 : Int32))])) _
    refine XS.istoreN X2.here hx rfl (hb hby d2_8) rfl (l' := #[.val (.int p1), .val (.ref bA), .val (.int (6 : Int32)), .val (.int (0 : Int32)), .unset]) rfl ?_
    show Steps p.tables e below (T2.setTop (mkF m 9 #[.val (.int p1), .val (.ref bA), .val (.int (6 : Int32)), .val (.int (0 : Int32)), .unset] [])) _
    refine XS.iloadN X2.here hx rfl (hb hby d2_9) rfl ?_
    show Steps p.tables e below (T2.setTop (mkF m 10 #[.val (.int p1), .val (.ref bA), .val (.int (6 : Int32)), .val (.int (0 : Int32)), .unset] [(.int (0 : Int32))])) _
    refine XS.iloadN X2.here hx rfl (hb hby d2_10) rfl ?_
    show Steps p.tables e below (T2.setTop (mkF m 11 #[.val (.int p1), .val (.ref bA), .val (.int (6 : Int32)), .val (.int (0 : Int32)), .unset] [(.int (6 : Int32)), (.int (0 : Int32))])) _
    refine XS.icmpNo X2.here hx rfl (hb hby d2_11) rfl (tlt (by decide : (0 : Int32) < (6 : Int32))).2.1 ?_
    show Steps p.tables e below (T2.setTop (mkF m 14 #[.val (.int p1), .val (.ref bA), .val (.int (6 : Int32)), .val (.int (0 : Int32)), .unset] [])) _
    refine XS.aloadN X2.here hx rfl (hb hby d2_14) rfl rfl ?_
    show Steps p.tables e below (T2.setTop (mkF m 15 #[.val (.int p1), .val (.ref bA), .val (.int (6 : Int32)), .val (.int (0 : Int32)), .unset] [(.ref bA)])) _
    refine XS.iloadN X2.here hx rfl (hb hby d2_15) rfl ?_
    show Steps p.tables e below (T2.setTop (mkF m 16 #[.val (.int p1), .val (.ref bA), .val (.int (6 : Int32)), .val (.int (0 : Int32)), .unset] [(.int (0 : Int32)), (.ref bA)])) _
    refine X2.aaload hx (j := (0 : Int32)) (v := (.ref u0)) (by exact Ar_bA.1) (State.isArrayOf_alike hZ.alike Ar_bA.2.1) rfl Ar_bA.2.2 hin16 hat16 (g := (mkF m 16 #[.val (.int p1), .val (.ref bA), .val (.int (6 : Int32)), .val (.int (0 : Int32)), .unset] [(.int (0 : Int32)), (.ref bA)])) rfl rfl (hb hby d2_16) _ ?_
    show Steps p.tables e below (T2.setTop (mkF m 17 #[.val (.int p1), .val (.ref bA), .val (.int (6 : Int32)), .val (.int (0 : Int32)), .unset] [(.ref u0)])) _
    refine XS.astore X2.here hx rfl (hb hby d2_17) rfl rfl (l' := #[.val (.int p1), .val (.ref bA), .val (.int (6 : Int32)), .val (.int (0 : Int32)), .val (.ref u0)]) rfl ?_
    show Steps p.tables e below (T2.setTop (mkF m 19 #[.val (.int p1), .val (.ref bA), .val (.int (6 : Int32)), .val (.int (0 : Int32)), .val (.ref u0)] [])) _
    refine XS.aload X2.here hx rfl (hb hby d2_19) rfl rfl ?_
    show Steps p.tables e below (T2.setTop (mkF m 21 #[.val (.int p1), .val (.ref bA), .val (.int (6 : Int32)), .val (.int (0 : Int32)), .val (.ref u0)] [(.ref u0)])) _
    refine st4 _ ?_
    show Steps p.tables e below (T4.setTop (mkF m 24 #[.val (.int p1), .val (.ref bA), .val (.int (6 : Int32)), .val (.int (0 : Int32)), .val (.ref u0)] [(.int w3)])) _
    refine XS.iloadN X4.here hx rfl (hb hby d2_24) rfl ?_
    show Steps p.tables e below (T4.setTop (mkF m 25 #[.val (.int p1), .val (.ref bA), .val (.int (6 : Int32)), .val (.int (0 : Int32)), .val (.ref u0)] [(.int p1), (.int w3)])) _
    refine XS.icmpYes X4.here hx rfl (pc0 := 25) (pc' := 31) rfl (hb hby d2_25) rfl (feq hc25).2 (by decide) (by decide) ?_
    show Steps p.tables e below (T4.setTop (mkF m 31 #[.val (.int p1), .val (.ref bA), .val (.int (6 : Int32)), .val (.int (0 : Int32)), .val (.ref u0)] [])) _
    refine XS.iinc X4.here hx rfl (hb hby d2_31) rfl (l' := #[.val (.int p1), .val (.ref bA), .val (.int (6 : Int32)), .val (.int (1 : Int32)), .val (.ref u0)]) rfl ?_
    show Steps p.tables e below (T4.setTop (mkF m 34 #[.val (.int p1), .val (.ref bA), .val (.int (6 : Int32)), .val (.int (1 : Int32)), .val (.ref u0)] [])) _
    refine XS.goto X4.here hx rfl (pc0 := 34) (pc' := 9) rfl (hb hby d2_34) (by decide) (by decide) ?_
    show Steps p.tables e below (T4.setTop (mkF m 9 #[.val (.int p1), .val (.ref bA), .val (.int (6 : Int32)), .val (.int (1 : Int32)), .val (.ref u0)] [])) _
    refine XS.iloadN X4.here hx rfl (hb hby d2_9) rfl ?_
    show Steps p.tables e below (T4.setTop (mkF m 10 #[.val (.int p1), .val (.ref bA), .val (.int (6 : Int32)), .val (.int (1 : Int32)), .val (.ref u0)] [(.int (1 : Int32))])) _
    refine XS.iloadN X4.here hx rfl (hb hby d2_10) rfl ?_
    show Steps p.tables e below (T4.setTop (mkF m 11 #[.val (.int p1), .val (.ref bA), .val (.int (6 : Int32)), .val (.int (1 : Int32)), .val (.ref u0)] [(.int (6 : Int32)), (.int (1 : Int32))])) _
    refine XS.icmpNo X4.here hx rfl (hb hby d2_11) rfl (tlt (by decide : (1 : Int32) < (6 : Int32))).2.1 ?_
    show Steps p.tables e below (T4.setTop (mkF m 14 #[.val (.int p1), .val (.ref bA), .val (.int (6 : Int32)), .val (.int (1 : Int32)), .val (.ref u0)] [])) _
    refine XS.aloadN X4.here hx rfl (hb hby d2_14) rfl rfl ?_
    show Steps p.tables e below (T4.setTop (mkF m 15 #[.val (.int p1), .val (.ref bA), .val (.int (6 : Int32)), .val (.int (1 : Int32)), .val (.ref u0)] [(.ref bA)])) _
    refine XS.iloadN X4.here hx rfl (hb hby d2_15) rfl ?_
    show Steps p.tables e below (T4.setTop (mkF m 16 #[.val (.int p1), .val (.ref bA), .val (.int (6 : Int32)), .val (.int (1 : Int32)), .val (.ref u0)] [(.int (1 : Int32)), (.ref bA)])) _
    refine X4.aaload hx (j := (1 : Int32)) (v := (.ref u1)) (by rw [e4]; exact Ar_bA.1) (State.isArrayOf_alike hZ.alike Ar_bA.2.1) rfl Ar_bA.2.2 hin16_2 hat16_2 (g := (mkF m 16 #[.val (.int p1), .val (.ref bA), .val (.int (6 : Int32)), .val (.int (1 : Int32)), .val (.ref u0)] [(.int (1 : Int32)), (.ref bA)])) rfl rfl (hb hby d2_16) _ ?_
    show Steps p.tables e below (T4.setTop (mkF m 17 #[.val (.int p1), .val (.ref bA), .val (.int (6 : Int32)), .val (.int (1 : Int32)), .val (.ref u0)] [(.ref u1)])) _
    refine XS.astore X4.here hx rfl (hb hby d2_17) rfl rfl (l' := #[.val (.int p1), .val (.ref bA), .val (.int (6 : Int32)), .val (.int (1 : Int32)), .val (.ref u1)]) rfl ?_
    show Steps p.tables e below (T4.setTop (mkF m 19 #[.val (.int p1), .val (.ref bA), .val (.int (6 : Int32)), .val (.int (1 : Int32)), .val (.ref u1)] [])) _
    refine XS.aload X4.here hx rfl (hb hby d2_19) rfl rfl ?_
    show Steps p.tables e below (T4.setTop (mkF m 21 #[.val (.int p1), .val (.ref bA), .val (.int (6 : Int32)), .val (.int (1 : Int32)), .val (.ref u1)] [(.ref u1)])) _
    refine st6 _ ?_
    show Steps p.tables e below (T6.setTop (mkF m 24 #[.val (.int p1), .val (.ref bA), .val (.int (6 : Int32)), .val (.int (1 : Int32)), .val (.ref u1)] [(.int w5)])) _
    refine XS.iloadN X6.here hx rfl (hb hby d2_24) rfl ?_
    show Steps p.tables e below (T6.setTop (mkF m 25 #[.val (.int p1), .val (.ref bA), .val (.int (6 : Int32)), .val (.int (1 : Int32)), .val (.ref u1)] [(.int p1), (.int w5)])) _
    refine XS.icmpYes X6.here hx rfl (pc0 := 25) (pc' := 31) rfl (hb hby d2_25) rfl (feq hc25_2).2 (by decide) (by decide) ?_
    show Steps p.tables e below (T6.setTop (mkF m 31 #[.val (.int p1), .val (.ref bA), .val (.int (6 : Int32)), .val (.int (1 : Int32)), .val (.ref u1)] [])) _
    refine XS.iinc X6.here hx rfl (hb hby d2_31) rfl (l' := #[.val (.int p1), .val (.ref bA), .val (.int (6 : Int32)), .val (.int (2 : Int32)), .val (.ref u1)]) rfl ?_
    show Steps p.tables e below (T6.setTop (mkF m 34 #[.val (.int p1), .val (.ref bA), .val (.int (6 : Int32)), .val (.int (2 : Int32)), .val (.ref u1)] [])) _
    refine XS.goto X6.here hx rfl (pc0 := 34) (pc' := 9) rfl (hb hby d2_34) (by decide) (by decide) ?_
    show Steps p.tables e below (T6.setTop (mkF m 9 #[.val (.int p1), .val (.ref bA), .val (.int (6 : Int32)), .val (.int (2 : Int32)), .val (.ref u1)] [])) _
    refine XS.iloadN X6.here hx rfl (hb hby d2_9) rfl ?_
    show Steps p.tables e below (T6.setTop (mkF m 10 #[.val (.int p1), .val (.ref bA), .val (.int (6 : Int32)), .val (.int (2 : Int32)), .val (.ref u1)] [(.int (2 : Int32))])) _
    refine XS.iloadN X6.here hx rfl (hb hby d2_10) rfl ?_
    show Steps p.tables e below (T6.setTop (mkF m 11 #[.val (.int p1), .val (.ref bA), .val (.int (6 : Int32)), .val (.int (2 : Int32)), .val (.ref u1)] [(.int (6 : Int32)), (.int (2 : Int32))])) _
    refine XS.icmpNo X6.here hx rfl (hb hby d2_11) rfl (tlt (by decide : (2 : Int32) < (6 : Int32))).2.1 ?_
    show Steps p.tables e below (T6.setTop (mkF m 14 #[.val (.int p1), .val (.ref bA), .val (.int (6 : Int32)), .val (.int (2 : Int32)), .val (.ref u1)] [])) _
    refine XS.aloadN X6.here hx rfl (hb hby d2_14) rfl rfl ?_
    show Steps p.tables e below (T6.setTop (mkF m 15 #[.val (.int p1), .val (.ref bA), .val (.int (6 : Int32)), .val (.int (2 : Int32)), .val (.ref u1)] [(.ref bA)])) _
    refine XS.iloadN X6.here hx rfl (hb hby d2_15) rfl ?_
    show Steps p.tables e below (T6.setTop (mkF m 16 #[.val (.int p1), .val (.ref bA), .val (.int (6 : Int32)), .val (.int (2 : Int32)), .val (.ref u1)] [(.int (2 : Int32)), (.ref bA)])) _
    refine X6.aaload hx (j := (2 : Int32)) (v := (.ref u2)) (by rw [e6]; exact Ar_bA.1) (State.isArrayOf_alike hZ.alike Ar_bA.2.1) rfl Ar_bA.2.2 hin16_3 hat16_3 (g := (mkF m 16 #[.val (.int p1), .val (.ref bA), .val (.int (6 : Int32)), .val (.int (2 : Int32)), .val (.ref u1)] [(.int (2 : Int32)), (.ref bA)])) rfl rfl (hb hby d2_16) _ ?_
    show Steps p.tables e below (T6.setTop (mkF m 17 #[.val (.int p1), .val (.ref bA), .val (.int (6 : Int32)), .val (.int (2 : Int32)), .val (.ref u1)] [(.ref u2)])) _
    refine XS.astore X6.here hx rfl (hb hby d2_17) rfl rfl (l' := #[.val (.int p1), .val (.ref bA), .val (.int (6 : Int32)), .val (.int (2 : Int32)), .val (.ref u2)]) rfl ?_
    show Steps p.tables e below (T6.setTop (mkF m 19 #[.val (.int p1), .val (.ref bA), .val (.int (6 : Int32)), .val (.int (2 : Int32)), .val (.ref u2)] [])) _
    refine XS.aload X6.here hx rfl (hb hby d2_19) rfl rfl ?_
    show Steps p.tables e below (T6.setTop (mkF m 21 #[.val (.int p1), .val (.ref bA), .val (.int (6 : Int32)), .val (.int (2 : Int32)), .val (.ref u2)] [(.ref u2)])) _
    refine st8 _ ?_
    show Steps p.tables e below (T8.setTop (mkF m 24 #[.val (.int p1), .val (.ref bA), .val (.int (6 : Int32)), .val (.int (2 : Int32)), .val (.ref u2)] [(.int w7)])) _
    refine XS.iloadN X8.here hx rfl (hb hby d2_24) rfl ?_
    show Steps p.tables e below (T8.setTop (mkF m 25 #[.val (.int p1), .val (.ref bA), .val (.int (6 : Int32)), .val (.int (2 : Int32)), .val (.ref u2)] [(.int p1), (.int w7)])) _
    refine XS.icmpYes X8.here hx rfl (pc0 := 25) (pc' := 31) rfl (hb hby d2_25) rfl (feq hc25_3).2 (by decide) (by decide) ?_
    show Steps p.tables e below (T8.setTop (mkF m 31 #[.val (.int p1), .val (.ref bA), .val (.int (6 : Int32)), .val (.int (2 : Int32)), .val (.ref u2)] [])) _
    refine XS.iinc X8.here hx rfl (hb hby d2_31) rfl (l' := #[.val (.int p1), .val (.ref bA), .val (.int (6 : Int32)), .val (.int (3 : Int32)), .val (.ref u2)]) rfl ?_
    show Steps p.tables e below (T8.setTop (mkF m 34 #[.val (.int p1), .val (.ref bA), .val (.int (6 : Int32)), .val (.int (3 : Int32)), .val (.ref u2)] [])) _
    refine XS.goto X8.here hx rfl (pc0 := 34) (pc' := 9) rfl (hb hby d2_34) (by decide) (by decide) ?_
    show Steps p.tables e below (T8.setTop (mkF m 9 #[.val (.int p1), .val (.ref bA), .val (.int (6 : Int32)), .val (.int (3 : Int32)), .val (.ref u2)] [])) _
    refine XS.iloadN X8.here hx rfl (hb hby d2_9) rfl ?_
    show Steps p.tables e below (T8.setTop (mkF m 10 #[.val (.int p1), .val (.ref bA), .val (.int (6 : Int32)), .val (.int (3 : Int32)), .val (.ref u2)] [(.int (3 : Int32))])) _
    refine XS.iloadN X8.here hx rfl (hb hby d2_10) rfl ?_
    show Steps p.tables e below (T8.setTop (mkF m 11 #[.val (.int p1), .val (.ref bA), .val (.int (6 : Int32)), .val (.int (3 : Int32)), .val (.ref u2)] [(.int (6 : Int32)), (.int (3 : Int32))])) _
    refine XS.icmpNo X8.here hx rfl (hb hby d2_11) rfl (tlt (by decide : (3 : Int32) < (6 : Int32))).2.1 ?_
    show Steps p.tables e below (T8.setTop (mkF m 14 #[.val (.int p1), .val (.ref bA), .val (.int (6 : Int32)), .val (.int (3 : Int32)), .val (.ref u2)] [])) _
    refine XS.aloadN X8.here hx rfl (hb hby d2_14) rfl rfl ?_
    show Steps p.tables e below (T8.setTop (mkF m 15 #[.val (.int p1), .val (.ref bA), .val (.int (6 : Int32)), .val (.int (3 : Int32)), .val (.ref u2)] [(.ref bA)])) _
    refine XS.iloadN X8.here hx rfl (hb hby d2_15) rfl ?_
    show Steps p.tables e below (T8.setTop (mkF m 16 #[.val (.int p1), .val (.ref bA), .val (.int (6 : Int32)), .val (.int (3 : Int32)), .val (.ref u2)] [(.int (3 : Int32)), (.ref bA)])) _
    refine X8.aaload hx (j := (3 : Int32)) (v := (.ref u3)) (by rw [e8]; exact Ar_bA.1) (State.isArrayOf_alike hZ.alike Ar_bA.2.1) rfl Ar_bA.2.2 hin16_4 hat16_4 (g := (mkF m 16 #[.val (.int p1), .val (.ref bA), .val (.int (6 : Int32)), .val (.int (3 : Int32)), .val (.ref u2)] [(.int (3 : Int32)), (.ref bA)])) rfl rfl (hb hby d2_16) _ ?_
    show Steps p.tables e below (T8.setTop (mkF m 17 #[.val (.int p1), .val (.ref bA), .val (.int (6 : Int32)), .val (.int (3 : Int32)), .val (.ref u2)] [(.ref u3)])) _
    refine XS.astore X8.here hx rfl (hb hby d2_17) rfl rfl (l' := #[.val (.int p1), .val (.ref bA), .val (.int (6 : Int32)), .val (.int (3 : Int32)), .val (.ref u3)]) rfl ?_
    show Steps p.tables e below (T8.setTop (mkF m 19 #[.val (.int p1), .val (.ref bA), .val (.int (6 : Int32)), .val (.int (3 : Int32)), .val (.ref u3)] [])) _
    refine XS.aload X8.here hx rfl (hb hby d2_19) rfl rfl ?_
    show Steps p.tables e below (T8.setTop (mkF m 21 #[.val (.int p1), .val (.ref bA), .val (.int (6 : Int32)), .val (.int (3 : Int32)), .val (.ref u3)] [(.ref u3)])) _
    refine st10 _ ?_
    show Steps p.tables e below (T10.setTop (mkF m 24 #[.val (.int p1), .val (.ref bA), .val (.int (6 : Int32)), .val (.int (3 : Int32)), .val (.ref u3)] [(.int w9)])) _
    refine XS.iloadN X10.here hx rfl (hb hby d2_24) rfl ?_
    show Steps p.tables e below (T10.setTop (mkF m 25 #[.val (.int p1), .val (.ref bA), .val (.int (6 : Int32)), .val (.int (3 : Int32)), .val (.ref u3)] [(.int p1), (.int w9)])) _
    refine XS.icmpYes X10.here hx rfl (pc0 := 25) (pc' := 31) rfl (hb hby d2_25) rfl (feq hc25_4).2 (by decide) (by decide) ?_
    show Steps p.tables e below (T10.setTop (mkF m 31 #[.val (.int p1), .val (.ref bA), .val (.int (6 : Int32)), .val (.int (3 : Int32)), .val (.ref u3)] [])) _
    refine XS.iinc X10.here hx rfl (hb hby d2_31) rfl (l' := #[.val (.int p1), .val (.ref bA), .val (.int (6 : Int32)), .val (.int (4 : Int32)), .val (.ref u3)]) rfl ?_
    show Steps p.tables e below (T10.setTop (mkF m 34 #[.val (.int p1), .val (.ref bA), .val (.int (6 : Int32)), .val (.int (4 : Int32)), .val (.ref u3)] [])) _
    refine XS.goto X10.here hx rfl (pc0 := 34) (pc' := 9) rfl (hb hby d2_34) (by decide) (by decide) ?_
    show Steps p.tables e below (T10.setTop (mkF m 9 #[.val (.int p1), .val (.ref bA), .val (.int (6 : Int32)), .val (.int (4 : Int32)), .val (.ref u3)] [])) _
    refine XS.iloadN X10.here hx rfl (hb hby d2_9) rfl ?_
    show Steps p.tables e below (T10.setTop (mkF m 10 #[.val (.int p1), .val (.ref bA), .val (.int (6 : Int32)), .val (.int (4 : Int32)), .val (.ref u3)] [(.int (4 : Int32))])) _
    refine XS.iloadN X10.here hx rfl (hb hby d2_10) rfl ?_
    show Steps p.tables e below (T10.setTop (mkF m 11 #[.val (.int p1), .val (.ref bA), .val (.int (6 : Int32)), .val (.int (4 : Int32)), .val (.ref u3)] [(.int (6 : Int32)), (.int (4 : Int32))])) _
    refine XS.icmpNo X10.here hx rfl (hb hby d2_11) rfl (tlt (by decide : (4 : Int32) < (6 : Int32))).2.1 ?_
    show Steps p.tables e below (T10.setTop (mkF m 14 #[.val (.int p1), .val (.ref bA), .val (.int (6 : Int32)), .val (.int (4 : Int32)), .val (.ref u3)] [])) _
    refine XS.aloadN X10.here hx rfl (hb hby d2_14) rfl rfl ?_
    show Steps p.tables e below (T10.setTop (mkF m 15 #[.val (.int p1), .val (.ref bA), .val (.int (6 : Int32)), .val (.int (4 : Int32)), .val (.ref u3)] [(.ref bA)])) _
    refine XS.iloadN X10.here hx rfl (hb hby d2_15) rfl ?_
    show Steps p.tables e below (T10.setTop (mkF m 16 #[.val (.int p1), .val (.ref bA), .val (.int (6 : Int32)), .val (.int (4 : Int32)), .val (.ref u3)] [(.int (4 : Int32)), (.ref bA)])) _
    refine X10.aaload hx (j := (4 : Int32)) (v := (.ref u4)) (by rw [e10]; exact Ar_bA.1) (State.isArrayOf_alike hZ.alike Ar_bA.2.1) rfl Ar_bA.2.2 hin16_5 hat16_5 (g := (mkF m 16 #[.val (.int p1), .val (.ref bA), .val (.int (6 : Int32)), .val (.int (4 : Int32)), .val (.ref u3)] [(.int (4 : Int32)), (.ref bA)])) rfl rfl (hb hby d2_16) _ ?_
    show Steps p.tables e below (T10.setTop (mkF m 17 #[.val (.int p1), .val (.ref bA), .val (.int (6 : Int32)), .val (.int (4 : Int32)), .val (.ref u3)] [(.ref u4)])) _
    refine XS.astore X10.here hx rfl (hb hby d2_17) rfl rfl (l' := #[.val (.int p1), .val (.ref bA), .val (.int (6 : Int32)), .val (.int (4 : Int32)), .val (.ref u4)]) rfl ?_
    show Steps p.tables e below (T10.setTop (mkF m 19 #[.val (.int p1), .val (.ref bA), .val (.int (6 : Int32)), .val (.int (4 : Int32)), .val (.ref u4)] [])) _
    refine XS.aload X10.here hx rfl (hb hby d2_19) rfl rfl ?_
    show Steps p.tables e below (T10.setTop (mkF m 21 #[.val (.int p1), .val (.ref bA), .val (.int (6 : Int32)), .val (.int (4 : Int32)), .val (.ref u4)] [(.ref u4)])) _
    refine st12 _ ?_
    show Steps p.tables e below (T12.setTop (mkF m 24 #[.val (.int p1), .val (.ref bA), .val (.int (6 : Int32)), .val (.int (4 : Int32)), .val (.ref u4)] [(.int w11)])) _
    refine XS.iloadN X12.here hx rfl (hb hby d2_24) rfl ?_
    show Steps p.tables e below (T12.setTop (mkF m 25 #[.val (.int p1), .val (.ref bA), .val (.int (6 : Int32)), .val (.int (4 : Int32)), .val (.ref u4)] [(.int p1), (.int w11)])) _
    refine XS.icmpYes X12.here hx rfl (pc0 := 25) (pc' := 31) rfl (hb hby d2_25) rfl (feq hc25_5).2 (by decide) (by decide) ?_
    show Steps p.tables e below (T12.setTop (mkF m 31 #[.val (.int p1), .val (.ref bA), .val (.int (6 : Int32)), .val (.int (4 : Int32)), .val (.ref u4)] [])) _
    refine XS.iinc X12.here hx rfl (hb hby d2_31) rfl (l' := #[.val (.int p1), .val (.ref bA), .val (.int (6 : Int32)), .val (.int (5 : Int32)), .val (.ref u4)]) rfl ?_
    show Steps p.tables e below (T12.setTop (mkF m 34 #[.val (.int p1), .val (.ref bA), .val (.int (6 : Int32)), .val (.int (5 : Int32)), .val (.ref u4)] [])) _
    refine XS.goto X12.here hx rfl (pc0 := 34) (pc' := 9) rfl (hb hby d2_34) (by decide) (by decide) ?_
    show Steps p.tables e below (T12.setTop (mkF m 9 #[.val (.int p1), .val (.ref bA), .val (.int (6 : Int32)), .val (.int (5 : Int32)), .val (.ref u4)] [])) _
    refine XS.iloadN X12.here hx rfl (hb hby d2_9) rfl ?_
    show Steps p.tables e below (T12.setTop (mkF m 10 #[.val (.int p1), .val (.ref bA), .val (.int (6 : Int32)), .val (.int (5 : Int32)), .val (.ref u4)] [(.int (5 : Int32))])) _
    refine XS.iloadN X12.here hx rfl (hb hby d2_10) rfl ?_
    show Steps p.tables e below (T12.setTop (mkF m 11 #[.val (.int p1), .val (.ref bA), .val (.int (6 : Int32)), .val (.int (5 : Int32)), .val (.ref u4)] [(.int (6 : Int32)), (.int (5 : Int32))])) _
    refine XS.icmpNo X12.here hx rfl (hb hby d2_11) rfl (tlt (by decide : (5 : Int32) < (6 : Int32))).2.1 ?_
    show Steps p.tables e below (T12.setTop (mkF m 14 #[.val (.int p1), .val (.ref bA), .val (.int (6 : Int32)), .val (.int (5 : Int32)), .val (.ref u4)] [])) _
    refine XS.aloadN X12.here hx rfl (hb hby d2_14) rfl rfl ?_
    show Steps p.tables e below (T12.setTop (mkF m 15 #[.val (.int p1), .val (.ref bA), .val (.int (6 : Int32)), .val (.int (5 : Int32)), .val (.ref u4)] [(.ref bA)])) _
    refine XS.iloadN X12.here hx rfl (hb hby d2_15) rfl ?_
    show Steps p.tables e below (T12.setTop (mkF m 16 #[.val (.int p1), .val (.ref bA), .val (.int (6 : Int32)), .val (.int (5 : Int32)), .val (.ref u4)] [(.int (5 : Int32)), (.ref bA)])) _
    refine X12.aaload hx (j := (5 : Int32)) (v := (.ref u5)) (by rw [e12]; exact Ar_bA.1) (State.isArrayOf_alike hZ.alike Ar_bA.2.1) rfl Ar_bA.2.2 hin16_6 hat16_6 (g := (mkF m 16 #[.val (.int p1), .val (.ref bA), .val (.int (6 : Int32)), .val (.int (5 : Int32)), .val (.ref u4)] [(.int (5 : Int32)), (.ref bA)])) rfl rfl (hb hby d2_16) _ ?_
    show Steps p.tables e below (T12.setTop (mkF m 17 #[.val (.int p1), .val (.ref bA), .val (.int (6 : Int32)), .val (.int (5 : Int32)), .val (.ref u4)] [(.ref u5)])) _
    refine XS.astore X12.here hx rfl (hb hby d2_17) rfl rfl (l' := #[.val (.int p1), .val (.ref bA), .val (.int (6 : Int32)), .val (.int (5 : Int32)), .val (.ref u5)]) rfl ?_
    show Steps p.tables e below (T12.setTop (mkF m 19 #[.val (.int p1), .val (.ref bA), .val (.int (6 : Int32)), .val (.int (5 : Int32)), .val (.ref u5)] [])) _
    refine XS.aload X12.here hx rfl (hb hby d2_19) rfl rfl ?_
    show Steps p.tables e below (T12.setTop (mkF m 21 #[.val (.int p1), .val (.ref bA), .val (.int (6 : Int32)), .val (.int (5 : Int32)), .val (.ref u5)] [(.ref u5)])) _
    refine st14 _ ?_
    show Steps p.tables e below (T14.setTop (mkF m 24 #[.val (.int p1), .val (.ref bA), .val (.int (6 : Int32)), .val (.int (5 : Int32)), .val (.ref u5)] [(.int w13)])) _
    refine XS.iloadN X14.here hx rfl (hb hby d2_24) rfl ?_
    show Steps p.tables e below (T14.setTop (mkF m 25 #[.val (.int p1), .val (.ref bA), .val (.int (6 : Int32)), .val (.int (5 : Int32)), .val (.ref u5)] [(.int p1), (.int w13)])) _
    refine XS.icmpYes X14.here hx rfl (pc0 := 25) (pc' := 31) rfl (hb hby d2_25) rfl (feq hc25_6).2 (by decide) (by decide) ?_
    show Steps p.tables e below (T14.setTop (mkF m 31 #[.val (.int p1), .val (.ref bA), .val (.int (6 : Int32)), .val (.int (5 : Int32)), .val (.ref u5)] [])) _
    refine XS.iinc X14.here hx rfl (hb hby d2_31) rfl (l' := #[.val (.int p1), .val (.ref bA), .val (.int (6 : Int32)), .val (.int (6 : Int32)), .val (.ref u5)]) rfl ?_
    show Steps p.tables e below (T14.setTop (mkF m 34 #[.val (.int p1), .val (.ref bA), .val (.int (6 : Int32)), .val (.int (6 : Int32)), .val (.ref u5)] [])) _
    refine XS.goto X14.here hx rfl (pc0 := 34) (pc' := 9) rfl (hb hby d2_34) (by decide) (by decide) ?_
    show Steps p.tables e below (T14.setTop (mkF m 9 #[.val (.int p1), .val (.ref bA), .val (.int (6 : Int32)), .val (.int (6 : Int32)), .val (.ref u5)] [])) _
    refine XS.iloadN X14.here hx rfl (hb hby d2_9) rfl ?_
    show Steps p.tables e below (T14.setTop (mkF m 10 #[.val (.int p1), .val (.ref bA), .val (.int (6 : Int32)), .val (.int (6 : Int32)), .val (.ref u5)] [(.int (6 : Int32))])) _
    refine XS.iloadN X14.here hx rfl (hb hby d2_10) rfl ?_
    show Steps p.tables e below (T14.setTop (mkF m 11 #[.val (.int p1), .val (.ref bA), .val (.int (6 : Int32)), .val (.int (6 : Int32)), .val (.ref u5)] [(.int (6 : Int32)), (.int (6 : Int32))])) _
    refine XS.icmpYes X14.here hx rfl (pc0 := 11) (pc' := 37) rfl (hb hby d2_11) rfl (flt (by decide : ¬ ((6 : Int32) < (6 : Int32)))).2.1 (by decide) (by decide) ?_
    show Steps p.tables e below (T14.setTop (mkF m 37 #[.val (.int p1), .val (.ref bA), .val (.int (6 : Int32)), .val (.int (6 : Int32)), .val (.ref u5)] [])) _
    refine XS.iloadN X14.here hx rfl (hb hby d2_37) rfl ?_
    show Steps p.tables e below (T14.setTop (mkF m 38 #[.val (.int p1), .val (.ref bA), .val (.int (6 : Int32)), .val (.int (6 : Int32)), .val (.ref u5)] [(.int p1)])) _
    refine XS.sipush X14.here hx rfl (hb hby d2_38) ?_
    show Steps p.tables e below (T14.setTop (mkF m 41 #[.val (.int p1), .val (.ref bA), .val (.int (6 : Int32)), .val (.int (6 : Int32)), .val (.ref u5)] [(.int (500 : Int32)), (.int p1)])) _
    refine XS.icmpNo X14.here hx rfl (hb hby d2_41) rfl (tlt hc41).2.1 ?_
    show Steps p.tables e below (T14.setTop (mkF m 44 #[.val (.int p1), .val (.ref bA), .val (.int (6 : Int32)), .val (.int (6 : Int32)), .val (.ref u5)] [])) _
    refine st16 _ ?_
    show Steps p.tables e below (T16.setTop (mkF m 47 #[.val (.int p1), .val (.ref bA), .val (.int (6 : Int32)), .val (.int (6 : Int32)), .val (.ref u5)] [(.ref w15)])) _
    refine XS.goto X16.here hx rfl (pc0 := 47) (pc' := 53) rfl (hb hby d2_47) (by decide) (by decide) ?_
    show Steps p.tables e below (T16.setTop (mkF m 53 #[.val (.int p1), .val (.ref bA), .val (.int (6 : Int32)), .val (.int (6 : Int32)), .val (.ref u5)] [(.ref w15)])) _
    jvm_step X16.here [X16.here.top, hx, (hb hby d2_53), X16.method', Bd.returns, Value.isRef, FieldType.isReference]
    first | (intro acts; rw [hr _ acts rfl rfl rfl]) | rw [hr _ _ rfl rfl rfl]
    exact Steps.refl _
  · show Q2 w15 h0 n0 _ T16.heap _
    rw [e16]
    exact ⟨rfl, N2, K2⟩
theorem d2_50 : decode prog_29_method_5_code 50 = .ok (.getstatic 16, 3) := by decide +kernel
set_option maxRecDepth 65536 in
set_option maxHeartbeats 40000000 in
theorem rm2_ftftftftftfttt (l : Launch) (Z : State) (a0 : Array Value) (hw : ∀ d ∈ tables_1, d.before a0 Z = true) (ws : List Jvm.Cond) (p1 : Int32) (u0 : Addr) (u1 : Addr) (u2 : Addr) (u3 : Addr) (u4 : Addr) (u5 : Addr) (w3 : Int32) (w5 : Int32) (w7 : Int32) (w9 : Int32) (w11 : Int32) (w13 : Int32) (w15 : Addr) (wV : Addr) (kA : ClassId) (h0 : Heap) (n0 : Nat) (Z0 : n0 ≤ h0.size) (S_V : Sta Z h0 "com/example/wepwawet/wepwawet/server/Status" "$VALUES" "[Lcom/example/wepwawet/wepwawet/server/Status;" (.ref wV)) (E_V : Exa Z h0 wV "[Lcom/example/wepwawet/wepwawet/server/Status;") (V_V : Arv Z h0 wV kA (.object "com/example/wepwawet/wepwawet/server/Status") (6 : Int32) [.ref u0, .ref u1, .ref u2, .ref u3, .ref u4, .ref u5] .null) (F_httpCode_u0 : Fld Z h0 u0 "com/example/wepwawet/wepwawet/server/Status" "httpCode" "I" (.int w3)) (F_httpCode_u1 : Fld Z h0 u1 "com/example/wepwawet/wepwawet/server/Status" "httpCode" "I" (.int w5)) (F_httpCode_u2 : Fld Z h0 u2 "com/example/wepwawet/wepwawet/server/Status" "httpCode" "I" (.int w7)) (F_httpCode_u3 : Fld Z h0 u3 "com/example/wepwawet/wepwawet/server/Status" "httpCode" "I" (.int w9)) (F_httpCode_u4 : Fld Z h0 u4 "com/example/wepwawet/wepwawet/server/Status" "httpCode" "I" (.int w11)) (F_httpCode_u5 : Fld Z h0 u5 "com/example/wepwawet/wepwawet/server/Status" "httpCode" "I" (.int w13)) (S_INTERNAL : Sta Z h0 "com/example/wepwawet/wepwawet/server/Status" "INTERNAL" "Lcom/example/wepwawet/wepwawet/server/Status;" (.ref w15)) (hc25 : ¬ (w3 = p1)) (hc25_2 : ¬ (w5 = p1)) (hc25_3 : ¬ (w7 = p1)) (hc25_4 : ¬ (w9 = p1)) (hc25_5 : ¬ (w11 = p1)) (hc25_6 : ¬ (w13 = p1)) (hc41 : ¬ (p1 < (500 : Int32))) :
    MetFree l (⟨"com/example/wepwawet/wepwawet/server/Status", "forHttpCode", "(I)Lcom/example/wepwawet/wepwawet/server/Status;"⟩ : MethodName) (head1 (Jvm.Cond.code (⟨"com/example/wepwawet/wepwawet/server/Status", "forHttpCode", "(I)Lcom/example/wepwawet/wepwawet/server/Status;"⟩ : MethodName) prog_29_method_5_code 5 (some (.object "com/example/wepwawet/wepwawet/server/Status")) :: ws) ({ frames := 2, cells := 1, slots := 6, locals := 25 } : Room)) (fun a U => a = #[(.int p1)] ∧ Z.Warmed39 U.vm ∧ U.heap = h0) (fun _ _ _ _ _ => True) (fun _ U o U' => ∃ v L, o = .returned v ∧ Q2 w15 h0 n0 v U'.heap L ∧ FrameEnd U o U' L ({ frames := 2, cells := 1, slots := 6, locals := 25 } : Room).cells ({ frames := 2, cells := 1, slots := 6, locals := 25 } : Room).slots) := by
  refine MetFree.of_bodySF (plainFor_of_name pn_2) hisR ?_
  intro p e s m args below meth c s₁ Bd hml0 hP hK
  obtain ⟨rfl, hZ, hh⟩ := hP
  have hx := Bd.exec
  have hby := Bd.bytes
  have hml : c.maxLocals = 5 := hml0
  have hown : s.vm.findClass "com/example/wepwawet/wepwawet/server/Status" = some m.cls := findClass_of_methodNamed Bd.named
  have hnm := (name_of_methodNamed Bd.named Bd.method).1
  have X0 : Stand p l e ({ frames := 2, cells := 1, slots := 6, locals := 25 } : Room) s m #[(.int p1)] below meth c s₁ [] 0 0 := Stand.of_body Bd
  have e0 : s₁.heap = h0 := by rw [← hh, Bd.state]; rfl
  have N0 := Fr.nil n0
  have pre0 : ∀ t, Steps p.tables e below (s₁.setTop (mkF m 0 #[.val (.int p1), .unset, .unset, .unset, .unset] [])) t → Steps p.tables e below (s₁.setTop (entryFrame m #[(.int p1)] 5)) t := fun t k => castTop (ef_2 m p1) k
  obtain ⟨_, _, ⟨T2, L2, k2, n2⟩, -, X2, ⟨Lc2, hQ2, l2, y2, z2⟩, st2⟩ := Jvm.LawKit.callS X0 hx (y := (⟨"com/example/wepwawet/wepwawet/server/Status", "values", "()[Lcom/example/wepwawet/wepwawet/server/Status;"⟩ : MethodName)) hown (mvT hZ (hw _ (List.mem_of_getElem? (i := 8) rfl))) (mvT hZ (hw _ (List.mem_of_getElem? (i := 9) rfl))) (mvT hZ (hw _ (List.mem_of_getElem? (i := 6) rfl))) (mvT hZ (hw _ (List.mem_of_getElem? (i := 10) rfl))) (by decide) (backOf (W := 0) (rm3 l Z a0 hw [] wV kA [.ref u0, .ref u1, .ref u2, .ref u3, .ref u4, .ref u5] h0 n0 Z0 S_V E_V V_V) hZ (hw _ (List.mem_of_getElem? (i := 10) rfl)) (hw _ (List.mem_of_getElem? (i := 6) rfl)) (by decide) (by decide)) (g := (mkF m 0 #[.val (.int p1), .unset, .unset, .unset, .unset] [])) rfl (by rw [hml]; rfl) (argsL := []) (rest := []) (lenOf pd_2_2 rfl) rfl (by show 2 * 0 + _ ≤ _; exact Nat.le_of_eq rfl) (hb hby d2_0) (fun _ _ => ⟨rfl, e0, (by decide : 0 + 1 ≤ _), (by decide : 0 + 6 ≤ _)⟩)
  dsimp only [Pt.U, Pt.locs, Pt.cells, Pt.slots] at X2 l2 y2 z2 st2 hQ2
  subst l2 y2 z2
  obtain ⟨bA, rfl, N2q, K2, V_bA⟩ := hQ2
  have N2 := Fr.app N0 N2q
  obtain ⟨cl_bA_5, Ar_bA, q_bA, S_bA, N_bA, H_bA, G_bA⟩ := V_bA
  have hin16 : ¬ ((0 : Int32) < 0 ∨ cl_bA_5.slots.size ≤ ((0 : Int32)).toNatClampNeg) := inb_of S_bA ⟨by decide, by decide⟩
  have hat16 : cl_bA_5.slots[((0 : Int32)).toNatClampNeg]? = some (.ref u0) := H_bA.at hin16 rfl
  obtain ⟨T4, X4, e4, st4⟩ := getF X2 hx hZ hown (host := "") (Or.inl (hw _ (List.mem_of_getElem? (i := 29) rfl))) Via.refl rfl (F_httpCode_u0.keep K2 List.not_mem_nil) (g := (mkF m 21 #[.val (.int p1), .val (.ref bA), .val (.int (6 : Int32)), .val (.int (0 : Int32)), .val (.ref u0)] [(.ref u0)])) rfl rfl (hb hby d2_21)
  have hin16_2 : ¬ ((1 : Int32) < 0 ∨ cl_bA_5.slots.size ≤ ((1 : Int32)).toNatClampNeg) := inb_of S_bA ⟨by decide, by decide⟩
  have hat16_2 : cl_bA_5.slots[((1 : Int32)).toNatClampNeg]? = some (.ref u1) := H_bA.at hin16_2 rfl
  obtain ⟨T6, X6, e6, st6⟩ := getF X4 hx hZ hown (host := "") (Or.inl (hw _ (List.mem_of_getElem? (i := 29) rfl))) Via.refl e4 (F_httpCode_u1.keep K2 List.not_mem_nil) (g := (mkF m 21 #[.val (.int p1), .val (.ref bA), .val (.int (6 : Int32)), .val (.int (1 : Int32)), .val (.ref u1)] [(.ref u1)])) rfl rfl (hb hby d2_21)
  have hin16_3 : ¬ ((2 : Int32) < 0 ∨ cl_bA_5.slots.size ≤ ((2 : Int32)).toNatClampNeg) := inb_of S_bA ⟨by decide, by decide⟩
  have hat16_3 : cl_bA_5.slots[((2 : Int32)).toNatClampNeg]? = some (.ref u2) := H_bA.at hin16_3 rfl
  obtain ⟨T8, X8, e8, st8⟩ := getF X6 hx hZ hown (host := "") (Or.inl (hw _ (List.mem_of_getElem? (i := 29) rfl))) Via.refl e6 (F_httpCode_u2.keep K2 List.not_mem_nil) (g := (mkF m 21 #[.val (.int p1), .val (.ref bA), .val (.int (6 : Int32)), .val (.int (2 : Int32)), .val (.ref u2)] [(.ref u2)])) rfl rfl (hb hby d2_21)
  have hin16_4 : ¬ ((3 : Int32) < 0 ∨ cl_bA_5.slots.size ≤ ((3 : Int32)).toNatClampNeg) := inb_of S_bA ⟨by decide, by decide⟩
  have hat16_4 : cl_bA_5.slots[((3 : Int32)).toNatClampNeg]? = some (.ref u3) := H_bA.at hin16_4 rfl
  obtain ⟨T10, X10, e10, st10⟩ := getF X8 hx hZ hown (host := "") (Or.inl (hw _ (List.mem_of_getElem? (i := 29) rfl))) Via.refl e8 (F_httpCode_u3.keep K2 List.not_mem_nil) (g := (mkF m 21 #[.val (.int p1), .val (.ref bA), .val (.int (6 : Int32)), .val (.int (3 : Int32)), .val (.ref u3)] [(.ref u3)])) rfl rfl (hb hby d2_21)
  have hin16_5 : ¬ ((4 : Int32) < 0 ∨ cl_bA_5.slots.size ≤ ((4 : Int32)).toNatClampNeg) := inb_of S_bA ⟨by decide, by decide⟩
  have hat16_5 : cl_bA_5.slots[((4 : Int32)).toNatClampNeg]? = some (.ref u4) := H_bA.at hin16_5 rfl
  obtain ⟨T12, X12, e12, st12⟩ := getF X10 hx hZ hown (host := "") (Or.inl (hw _ (List.mem_of_getElem? (i := 29) rfl))) Via.refl e10 (F_httpCode_u4.keep K2 List.not_mem_nil) (g := (mkF m 21 #[.val (.int p1), .val (.ref bA), .val (.int (6 : Int32)), .val (.int (4 : Int32)), .val (.ref u4)] [(.ref u4)])) rfl rfl (hb hby d2_21)
  have hin16_6 : ¬ ((5 : Int32) < 0 ∨ cl_bA_5.slots.size ≤ ((5 : Int32)).toNatClampNeg) := inb_of S_bA ⟨by decide, by decide⟩
  have hat16_6 : cl_bA_5.slots[((5 : Int32)).toNatClampNeg]? = some (.ref u5) := H_bA.at hin16_6 rfl
  obtain ⟨T14, X14, e14, st14⟩ := getF X12 hx hZ hown (host := "") (Or.inl (hw _ (List.mem_of_getElem? (i := 29) rfl))) Via.refl e12 (F_httpCode_u5.keep K2 List.not_mem_nil) (g := (mkF m 21 #[.val (.int p1), .val (.ref bA), .val (.int (6 : Int32)), .val (.int (5 : Int32)), .val (.ref u5)] [(.ref u5)])) rfl rfl (hb hby d2_21)
  obtain ⟨T16, X16, e16, st16⟩ := getS2 X14 hx hZ hown (host := "") (Or.inl (hw _ (List.mem_of_getElem? (i := 41) rfl))) Via.refl e14 (own_stk S_INTERNAL K2) (g := (mkF m 50 #[.val (.int p1), .val (.ref bA), .val (.int (6 : Int32)), .val (.int (6 : Int32)), .val (.ref u5)] [])) rfl (hb hby d2_50)
  obtain ⟨fs, hr, hrun, hended, hW, hsame⟩ := X16.leave (v := some (.ref w15)) (fun h => by rw [Bd.returns] at h; cases h)
  refine ⟨_, _, pre0 _ ?_, hrun, hended, _, _, rfl, ?_, ⟨_, rfl⟩, hW, hsame.mono (by decide) (by decide)⟩
  · show Steps p.tables e below (s₁.setTop (mkF m 0 #[.val (.int p1), .unset, .unset, .unset, .unset] [])) _
    refine st2 _ ?_
    show Steps p.tables e below (T2.setTop (mkF m 3 #[.val (.int p1), .unset, .unset, .unset, .unset] [(.ref bA)])) _
    refine XS.astoreN X2.here hx rfl (hb hby d2_3) rfl rfl (l' := #[.val (.int p1), .val (.ref bA), .unset, .unset, .unset]) rfl ?_
    show Steps p.tables e below (T2.setTop (mkF m 4 #[.val (.int p1), .val (.ref bA), .unset, .unset, .unset] [])) _
    refine XS.aloadN X2.here hx rfl (hb hby d2_4) rfl rfl ?_
    show Steps p.tables e below (T2.setTop (mkF m 5 #[.val (.int p1), .val (.ref bA), .unset, .unset, .unset] [(.ref bA)])) _
    refine X2.arraylength hx (by exact Ar_bA.1) (State.isArrayOf_alike hZ.alike Ar_bA.2.1) (g := (mkF m 5 #[.val (.int p1), .val (.ref bA), .unset, .unset, .unset] [(.ref bA)])) rfl rfl (hb hby d2_5) _ ?_
    rw [len_of S_bA N_bA]
    show Steps p.tables e below (T2.setTop (mkF m 6 #[.val (.int p1), .val (.ref bA), .unset, .unset, .unset] [(.int (6 : Int32))])) _
    refine XS.istoreN X2.here hx rfl (hb hby d2_6) rfl (l' := #[.val (.int p1), .val (.ref bA), .val (.int (6 : Int32)), .unset, .unset]) rfl ?_
    show Steps p.tables e below (T2.setTop (mkF m 7 #[.val (.int p1), .val (.ref bA), .val (.int (6 : Int32)), .unset, .unset] [])) _
    refine XS.iconst X2.here hx rfl (hb hby d2_7) ?_
    show Steps p.tables e below (T2.setTop (mkF m 8 #[.val (.int p1), .val (.ref bA), .val (.int (6 : Int32)), .unset, .unset] [(.int (0 : Int32))])) _
    refine XS.istoreN X2.here hx rfl (hb hby d2_8) rfl (l' := #[.val (.int p1), .val (.ref bA), .val (.int (6 : Int32)), .val (.int (0 : Int32)), .unset]) rfl ?_
    show Steps p.tables e below (T2.setTop (mkF m 9 #[.val (.int p1), .val (.ref bA), .val (.int (6 : Int32)), .val (.int (0 : Int32)), .unset] [])) _
    refine XS.iloadN X2.here hx rfl (hb hby d2_9) rfl ?_
    show Steps p.tables e below (T2.setTop (mkF m 10 #[.val (.int p1), .val (.ref bA), .val (.int (6 : Int32)), .val (.int (0 : Int32)), .unset] [(.int (0 : Int32))])) _
    refine XS.iloadN X2.here hx rfl (hb hby d2_10) rfl ?_
    show Steps p.tables e below (T2.setTop (mkF m 11 #[.val (.int p1), .val (.ref bA), .val (.int (6 : Int32)), .val (.int (0 : Int32)), .unset] [(.int (6 : Int32)), (.int (0 : Int32))])) _
    refine XS.icmpNo X2.here hx rfl (hb hby d2_11) rfl (tlt (by decide : (0 : Int32) < (6 : Int32))).2.1 ?_
    show Steps p.tables e below (T2.setTop (mkF m 14 #[.val (.int p1), .val (.ref bA), .val (.int (6 : Int32)), .val (.int (0 : Int32)), .unset] [])) _
    refine XS.aloadN X2.here hx rfl (hb hby d2_14) rfl rfl ?_
    show Steps p.tables e below (T2.setTop (mkF m 15 #[.val (.int p1), .val (.ref bA), .val (.int (6 : Int32)), .val (.int (0 : Int32)), .unset] [(.ref bA)])) _
    refine XS.iloadN X2.here hx rfl (hb hby d2_15) rfl ?_
    show Steps p.tables e below (T2.setTop (mkF m 16 #[.val (.int p1), .val (.ref bA), .val (.int (6 : Int32)), .val (.int (0 : Int32)), .unset] [(.int (0 : Int32)), (.ref bA)])) _
    refine X2.aaload hx (j := (0 : Int32)) (v := (.ref u0)) (by exact Ar_bA.1) (State.isArrayOf_alike hZ.alike Ar_bA.2.1) rfl Ar_bA.2.2 hin16 hat16 (g := (mkF m 16 #[.val (.int p1), .val (.ref bA), .val (.int (6 : Int32)), .val (.int (0 : Int32)), .unset] [(.int (0 : Int32)), (.ref bA)])) rfl rfl (hb hby d2_16) _ ?_
    show Steps p.tables e below (T2.setTop (mkF m 17 #[.val (.int p1), .val (.ref bA), .val (.int (6 : Int32)), .val (.int (0 : Int32)), .unset] [(.ref u0)])) _
    refine XS.astore X2.here hx rfl (hb hby d2_17) rfl rfl (l' := #[.val (.int p1), .val (.ref bA), .val (.int (6 : Int32)), .val (.int (0 : Int32)), .val (.ref u0)]) rfl ?_
    show Steps p.tables e below (T2.setTop (mkF m 19 #[.val (.int p1), .val (.ref bA), .val (.int (6 : Int32)), .val (.int (0 : Int32)), .val (.ref u0)] [])) _
    refine XS.aload X2.here hx rfl (hb hby d2_19) rfl rfl ?_
    show Steps p.tables e below (T2.setTop (mkF m 21 #[.val (.int p1), .val (.ref bA), .val (.int (6 : Int32)), .val (.int (0 : Int32)), .val (.ref u0)] [(.ref u0)])) _
    refine st4 _ ?_
    show Steps p.tables e below (T4.setTop (mkF m 24 #[.val (.int p1), .val (.ref bA), .val (.int (6 : Int32)), .val (.int (0 : Int32)), .val (.ref u0)] [(.int w3)])) _
    refine XS.iloadN X4.here hx rfl (hb hby d2_24) rfl ?_
    show Steps p.tables e below (T4.setTop (mkF m 25 #[.val (.int p1), .val (.ref bA), .val (.int (6 : Int32)), .val (.int (0 : Int32)), .val (.ref u0)] [(.int p1), (.int w3)])) _
    refine XS.icmpYes X4.here hx rfl (pc0 := 25) (pc' := 31) rfl (hb hby d2_25) rfl (feq hc25).2 (by decide) (by decide) ?_
    show Steps p.tables e below (T4.setTop (mkF m 31 #[.val (.int p1), .val (.ref bA), .val (.int (6 : Int32)), .val (.int (0 : Int32)), .val (.ref u0)] [])) _
    refine XS.iinc X4.here hx rfl (hb hby d2_31) rfl (l' := #[.val (.int p1), .val (.ref bA), .val (.int (6 : Int32)), .val (.int (1 : Int32)), .val (.ref u0)]) rfl ?_
    show Steps p.tables e below (T4.setTop (mkF m 34 #[.val (.int p1), .val (.ref bA), .val (.int (6 : Int32)), .val (.int (1 : Int32)), .val (.ref u0)] [])) _
    refine XS.goto X4.here hx rfl (pc0 := 34) (pc' := 9) rfl (hb hby d2_34) (by decide) (by decide) ?_
    show Steps p.tables e below (T4.setTop (mkF m 9 #[.val (.int p1), .val (.ref bA), .val (.int (6 : Int32)), .val (.int (1 : Int32)), .val (.ref u0)] [])) _
    refine XS.iloadN X4.here hx rfl (hb hby d2_9) rfl ?_
    show Steps p.tables e below (T4.setTop (mkF m 10 #[.val (.int p1), .val (.ref bA), .val (.int (6 : Int32)), .val (.int (1 : Int32)), .val (.ref u0)] [(.int (1 : Int32))])) _
    refine XS.iloadN X4.here hx rfl (hb hby d2_10) rfl ?_
    show Steps p.tables e below (T4.setTop (mkF m 11 #[.val (.int p1), .val (.ref bA), .val (.int (6 : Int32)), .val (.int (1 : Int32)), .val (.ref u0)] [(.int (6 : Int32)), (.int (1 : Int32))])) _
    refine XS.icmpNo X4.here hx rfl (hb hby d2_11) rfl (tlt (by decide : (1 : Int32) < (6 : Int32))).2.1 ?_
    show Steps p.tables e below (T4.setTop (mkF m 14 #[.val (.int p1), .val (.ref bA), .val (.int (6 : Int32)), .val (.int (1 : Int32)), .val (.ref u0)] [])) _
    refine XS.aloadN X4.here hx rfl (hb hby d2_14) rfl rfl ?_
    show Steps p.tables e below (T4.setTop (mkF m 15 #[.val (.int p1), .val (.ref bA), .val (.int (6 : Int32)), .val (.int (1 : Int32)), .val (.ref u0)] [(.ref bA)])) _
    refine XS.iloadN X4.here hx rfl (hb hby d2_15) rfl ?_
    show Steps p.tables e below (T4.setTop (mkF m 16 #[.val (.int p1), .val (.ref bA), .val (.int (6 : Int32)), .val (.int (1 : Int32)), .val (.ref u0)] [(.int (1 : Int32)), (.ref bA)])) _
    refine X4.aaload hx (j := (1 : Int32)) (v := (.ref u1)) (by rw [e4]; exact Ar_bA.1) (State.isArrayOf_alike hZ.alike Ar_bA.2.1) rfl Ar_bA.2.2 hin16_2 hat16_2 (g := (mkF m 16 #[.val (.int p1), .val (.ref bA), .val (.int (6 : Int32)), .val (.int (1 : Int32)), .val (.ref u0)] [(.int (1 : Int32)), (.ref bA)])) rfl rfl (hb hby d2_16) _ ?_
    show Steps p.tables e below (T4.setTop (mkF m 17 #[.val (.int p1), .val (.ref bA), .val (.int (6 : Int32)), .val (.int (1 : Int32)), .val (.ref u0)] [(.ref u1)])) _
    refine XS.astore X4.here hx rfl (hb hby d2_17) rfl rfl (l' := #[.val (.int p1), .val (.ref bA), .val (.int (6 : Int32)), .val (.int (1 : Int32)), .val (.ref u1)]) rfl ?_
    show Steps p.tables e below (T4.setTop (mkF m 19 #[.val (.int p1), .val (.ref bA), .val (.int (6 : Int32)), .val (.int (1 : Int32)), .val (.ref u1)] [])) _
    refine XS.aload X4.here hx rfl (hb hby d2_19) rfl rfl ?_
    show Steps p.tables e below (T4.setTop (mkF m 21 #[.val (.int p1), .val (.ref bA), .val (.int (6 : Int32)), .val (.int (1 : Int32)), .val (.ref u1)] [(.ref u1)])) _
    refine st6 _ ?_
    show Steps p.tables e below (T6.setTop (mkF m 24 #[.val (.int p1), .val (.ref bA), .val (.int (6 : Int32)), .val (.int (1 : Int32)), .val (.ref u1)] [(.int w5)])) _
    refine XS.iloadN X6.here hx rfl (hb hby d2_24) rfl ?_
    show Steps p.tables e below (T6.setTop (mkF m 25 #[.val (.int p1), .val (.ref bA), .val (.int (6 : Int32)), .val (.int (1 : Int32)), .val (.ref u1)] [(.int p1), (.int w5)])) _
    refine XS.icmpYes X6.here hx rfl (pc0 := 25) (pc' := 31) rfl (hb hby d2_25) rfl (feq hc25_2).2 (by decide) (by decide) ?_
    show Steps p.tables e below (T6.setTop (mkF m 31 #[.val (.int p1), .val (.ref bA), .val (.int (6 : Int32)), .val (.int (1 : Int32)), .val (.ref u1)] [])) _
    refine XS.iinc X6.here hx rfl (hb hby d2_31) rfl (l' := #[.val (.int p1), .val (.ref bA), .val (.int (6 : Int32)), .val (.int (2 : Int32)), .val (.ref u1)]) rfl ?_
    show Steps p.tables e below (T6.setTop (mkF m 34 #[.val (.int p1), .val (.ref bA), .val (.int (6 : Int32)), .val (.int (2 : Int32)), .val (.ref u1)] [])) _
    refine XS.goto X6.here hx rfl (pc0 := 34) (pc' := 9) rfl (hb hby d2_34) (by decide) (by decide) ?_
    show Steps p.tables e below (T6.setTop (mkF m 9 #[.val (.int p1), .val (.ref bA), .val (.int (6 : Int32)), .val (.int (2 : Int32)), .val (.ref u1)] [])) _
    refine XS.iloadN X6.here hx rfl (hb hby d2_9) rfl ?_
    show Steps p.tables e below (T6.setTop (mkF m 10 #[.val (.int p1), .val (.ref bA), .val (.int (6 : Int32)), .val (.int (2 : Int32)), .val (.ref u1)] [(.int (2 : Int32))])) _
    refine XS.iloadN X6.here hx rfl (hb hby d2_10) rfl ?_
    show Steps p.tables e below (T6.setTop (mkF m 11 #[.val (.int p1), .val (.ref bA), .val (.int (6 : Int32)), .val (.int (2 : Int32)), .val (.ref u1)] [(.int (6 : Int32)), (.int (2 : Int32))])) _
    refine XS.icmpNo X6.here hx rfl (hb hby d2_11) rfl (tlt (by decide : (2 : Int32) < (6 : Int32))).2.1 ?_
    show Steps p.tables e below (T6.setTop (mkF m 14 #[.val (.int p1), .val (.ref bA), .val (.int (6 : Int32)), .val (.int (2 : Int32)), .val (.ref u1)] [])) _
    refine XS.aloadN X6.here hx rfl (hb hby d2_14) rfl rfl ?_
    show Steps p.tables e below (T6.setTop (mkF m 15 #[.val (.int p1), .val (.ref bA), .val (.int (6 : Int32)), .val (.int (2 : Int32)), .val (.ref u1)] [(.ref bA)])) _
    refine XS.iloadN X6.here hx rfl (hb hby d2_15) rfl ?_
    show Steps p.tables e below (T6.setTop (mkF m 16 #[.val (.int p1), .val (.ref bA), .val (.int (6 : Int32)), .val (.int (2 : Int32)), .val (.ref u1)] [(.int (2 : Int32)), (.ref bA)])) _
    refine X6.aaload hx (j := (2 : Int32)) (v := (.ref u2)) (by rw [e6]; exact Ar_bA.1) (State.isArrayOf_alike hZ.alike Ar_bA.2.1) rfl Ar_bA.2.2 hin16_3 hat16_3 (g := (mkF m 16 #[.val (.int p1), .val (.ref bA), .val (.int (6 : Int32)), .val (.int (2 : Int32)), .val (.ref u1)] [(.int (2 : Int32)), (.ref bA)])) rfl rfl (hb hby d2_16) _ ?_
    show Steps p.tables e below (T6.setTop (mkF m 17 #[.val (.int p1), .val (.ref bA), .val (.int (6 : Int32)), .val (.int (2 : Int32)), .val (.ref u1)] [(.ref u2)])) _
    refine XS.astore X6.here hx rfl (hb hby d2_17) rfl rfl (l' := #[.val (.int p1), .val (.ref bA), .val (.int (6 : Int32)), .val (.int (2 : Int32)), .val (.ref u2)]) rfl ?_
    show Steps p.tables e below (T6.setTop (mkF m 19 #[.val (.int p1), .val (.ref bA), .val (.int (6 : Int32)), .val (.int (2 : Int32)), .val (.ref u2)] [])) _
    refine XS.aload X6.here hx rfl (hb hby d2_19) rfl rfl ?_
    show Steps p.tables e below (T6.setTop (mkF m 21 #[.val (.int p1), .val (.ref bA), .val (.int (6 : Int32)), .val (.int (2 : Int32)), .val (.ref u2)] [(.ref u2)])) _
    refine st8 _ ?_
    show Steps p.tables e below (T8.setTop (mkF m 24 #[.val (.int p1), .val (.ref bA), .val (.int (6 : Int32)), .val (.int (2 : Int32)), .val (.ref u2)] [(.int w7)])) _
    refine XS.iloadN X8.here hx rfl (hb hby d2_24) rfl ?_
    show Steps p.tables e below (T8.setTop (mkF m 25 #[.val (.int p1), .val (.ref bA), .val (.int (6 : Int32)), .val (.int (2 : Int32)), .val (.ref u2)] [(.int p1), (.int w7)])) _
    refine XS.icmpYes X8.here hx rfl (pc0 := 25) (pc' := 31) rfl (hb hby d2_25) rfl (feq hc25_3).2 (by decide) (by decide) ?_
    show Steps p.tables e below (T8.setTop (mkF m 31 #[.val (.int p1), .val (.ref bA), .val (.int (6 : Int32)), .val (.int (2 : Int32)), .val (.ref u2)] [])) _
    refine XS.iinc X8.here hx rfl (hb hby d2_31) rfl (l' := #[.val (.int p1), .val (.ref bA), .val (.int (6 : Int32)), .val (.int (3 : Int32)), .val (.ref u2)]) rfl ?_
    show Steps p.tables e below (T8.setTop (mkF m 34 #[.val (.int p1), .val (.ref bA), .val (.int (6 : Int32)), .val (.int (3 : Int32)), .val (.ref u2)] [])) _
    refine XS.goto X8.here hx rfl (pc0 := 34) (pc' := 9) rfl (hb hby d2_34) (by decide) (by decide) ?_
    show Steps p.tables e below (T8.setTop (mkF m 9 #[.val (.int p1), .val (.ref bA), .val (.int (6 : Int32)), .val (.int (3 : Int32)), .val (.ref u2)] [])) _
    refine XS.iloadN X8.here hx rfl (hb hby d2_9) rfl ?_
    show Steps p.tables e below (T8.setTop (mkF m 10 #[.val (.int p1), .val (.ref bA), .val (.int (6 : Int32)), .val (.int (3 : Int32)), .val (.ref u2)] [(.int (3 : Int32))])) _
    refine XS.iloadN X8.here hx rfl (hb hby d2_10) rfl ?_
    show Steps p.tables e below (T8.setTop (mkF m 11 #[.val (.int p1), .val (.ref bA), .val (.int (6 : Int32)), .val (.int (3 : Int32)), .val (.ref u2)] [(.int (6 : Int32)), (.int (3 : Int32))])) _
    refine XS.icmpNo X8.here hx rfl (hb hby d2_11) rfl (tlt (by decide : (3 : Int32) < (6 : Int32))).2.1 ?_
    show Steps p.tables e below (T8.setTop (mkF m 14 #[.val (.int p1), .val (.ref bA), .val (.int (6 : Int32)), .val (.int (3 : Int32)), .val (.ref u2)] [])) _
    refine XS.aloadN X8.here hx rfl (hb hby d2_14) rfl rfl ?_
    show Steps p.tables e below (T8.setTop (mkF m 15 #[.val (.int p1), .val (.ref bA), .val (.int (6 : Int32)), .val (.int (3 : Int32)), .val (.ref u2)] [(.ref bA)])) _
    refine XS.iloadN X8.here hx rfl (hb hby d2_15) rfl ?_
    show Steps p.tables e below (T8.setTop (mkF m 16 #[.val (.int p1), .val (.ref bA), .val (.int (6 : Int32)), .val (.int (3 : Int32)), .val (.ref u2)] [(.int (3 : Int32)), (.ref bA)])) _
    refine X8.aaload hx (j := (3 : Int32)) (v := (.ref u3)) (by rw [e8]; exact Ar_bA.1) (State.isArrayOf_alike hZ.alike Ar_bA.2.1) rfl Ar_bA.2.2 hin16_4 hat16_4 (g := (mkF m 16 #[.val (.int p1), .val (.ref bA), .val (.int (6 : Int32)), .val (.int (3 : Int32)), .val (.ref u2)] [(.int (3 : Int32)), (.ref bA)])) rfl rfl (hb hby d2_16) _ ?_
    show Steps p.tables e below (T8.setTop (mkF m 17 #[.val (.int p1), .val (.ref bA), .val (.int (6 : Int32)), .val (.int (3 : Int32)), .val (.ref u2)] [(.ref u3)])) _
    refine XS.astore X8.here hx rfl (hb hby d2_17) rfl rfl (l' := #[.val (.int p1), .val (.ref bA), .val (.int (6 : Int32)), .val (.int (3 : Int32)), .val (.ref u3)]) rfl ?_
    show Steps p.tables e below (T8.setTop (mkF m 19 #[.val (.int p1), .val (.ref bA), .val (.int (6 : Int32)), .val (.int (3 : Int32)), .val (.ref u3)] [])) _
    refine XS.aload X8.here hx rfl (hb hby d2_19) rfl rfl ?_
    show Steps p.tables e below (T8.setTop (mkF m 21 #[.val (.int p1), .val (.ref bA), .val (.int (6 : Int32)), .val (.int (3 : Int32)), .val (.ref u3)] [(.ref u3)])) _
    refine st10 _ ?_
    show Steps p.tables e below (T10.setTop (mkF m 24 #[.val (.int p1), .val (.ref bA), .val (.int (6 : Int32)), .val (.int (3 : Int32)), .val (.ref u3)] [(.int w9)])) _
    refine XS.iloadN X10.here hx rfl (hb hby d2_24) rfl ?_
    show Steps p.tables e below (T10.setTop (mkF m 25 #[.val (.int p1), .val (.ref bA), .val (.int (6 : Int32)), .val (.int (3 : Int32)), .val (.ref u3)] [(.int p1), (.int w9)])) _
    refine XS.icmpYes X10.here hx rfl (pc0 := 25) (pc' := 31) rfl (hb hby d2_25) rfl (feq hc25_4).2 (by decide) (by decide) ?_
    show Steps p.tables e below (T10.setTop (mkF m 31 #[.val (.int p1), .val (.ref bA), .val (.int (6 : Int32)), .val (.int (3 : Int32)), .val (.ref u3)] [])) _
    refine XS.iinc X10.here hx rfl (hb hby d2_31) rfl (l' := #[.val (.int p1), .val (.ref bA), .val (.int (6 : Int32)), .val (.int (4 : Int32)), .val (.ref u3)]) rfl ?_
    show Steps p.tables e below (T10.setTop (mkF m 34 #[.val (.int p1), .val (.ref bA), .val (.int (6 : Int32)), .val (.int (4 : Int32)), .val (.ref u3)] [])) _
    refine XS.goto X10.here hx rfl (pc0 := 34) (pc' := 9) rfl (hb hby d2_34) (by decide) (by decide) ?_
    show Steps p.tables e below (T10.setTop (mkF m 9 #[.val (.int p1), .val (.ref bA), .val (.int (6 : Int32)), .val (.int (4 : Int32)), .val (.ref u3)] [])) _
    refine XS.iloadN X10.here hx rfl (hb hby d2_9) rfl ?_
    show Steps p.tables e below (T10.setTop (mkF m 10 #[.val (.int p1), .val (.ref bA), .val (.int (6 : Int32)), .val (.int (4 : Int32)), .val (.ref u3)] [(.int (4 : Int32))])) _
    refine XS.iloadN X10.here hx rfl (hb hby d2_10) rfl ?_
    show Steps p.tables e below (T10.setTop (mkF m 11 #[.val (.int p1), .val (.ref bA), .val (.int (6 : Int32)), .val (.int (4 : Int32)), .val (.ref u3)] [(.int (6 : Int32)), (.int (4 : Int32))])) _
    refine XS.icmpNo X10.here hx rfl (hb hby d2_11) rfl (tlt (by decide : (4 : Int32) < (6 : Int32))).2.1 ?_
    show Steps p.tables e below (T10.setTop (mkF m 14 #[.val (.int p1), .val (.ref bA), .val (.int (6 : Int32)), .val (.int (4 : Int32)), .val (.ref u3)] [])) _
    refine XS.aloadN X10.here hx rfl (hb hby d2_14) rfl rfl ?_
    show Steps p.tables e below (T10.setTop (mkF m 15 #[.val (.int p1), .val (.ref bA), .val (.int (6 : Int32)), .val (.int (4 : Int32)), .val (.ref u3)] [(.ref bA)])) _
    refine XS.iloadN X10.here hx rfl (hb hby d2_15) rfl ?_
    show Steps p.tables e below (T10.setTop (mkF m 16 #[.val (.int p1), .val (.ref bA), .val (.int (6 : Int32)), .val (.int (4 : Int32)), .val (.ref u3)] [(.int (4 : Int32)), (.ref bA)])) _
    refine X10.aaload hx (j := (4 : Int32)) (v := (.ref u4)) (by rw [e10]; exact Ar_bA.1) (State.isArrayOf_alike hZ.alike Ar_bA.2.1) rfl Ar_bA.2.2 hin16_5 hat16_5 (g := (mkF m 16 #[.val (.int p1), .val (.ref bA), .val (.int (6 : Int32)), .val (.int (4 : Int32)), .val (.ref u3)] [(.int (4 : Int32)), (.ref bA)])) rfl rfl (hb hby d2_16) _ ?_
    show Steps p.tables e below (T10.setTop (mkF m 17 #[.val (.int p1), .val (.ref bA), .val (.int (6 : Int32)), .val (.int (4 : Int32)), .val (.ref u3)] [(.ref u4)])) _
    refine XS.astore X10.here hx rfl (hb hby d2_17) rfl rfl (l' := #[.val (.int p1), .val (.ref bA), .val (.int (6 : Int32)), .val (.int (4 : Int32)), .val (.ref u4)]) rfl ?_
    show Steps p.tables e below (T10.setTop (mkF m 19 #[.val (.int p1), .val (.ref bA), .val (.int (6 : Int32)), .val (.int (4 : Int32)), .val (.ref u4)] [])) _
    refine XS.aload X10.here hx rfl (hb hby d2_19) rfl rfl ?_
    show Steps p.tables e below (T10.setTop (mkF m 21 #[.val (.int p1), .val (.ref bA), .val (.int (6 : Int32)), .val (.int (4 : Int32)), .val (.ref u4)] [(.ref u4)])) _
    refine st12 _ ?_
    show Steps p.tables e below (T12.setTop (mkF m 24 #[.val (.int p1), .val (.ref bA), .val (.int (6 : Int32)), .val (.int (4 : Int32)), .val (.ref u4)] [(.int w11)])) _
    refine XS.iloadN X12.here hx rfl (hb hby d2_24) rfl ?_
    show Steps p.tables e below (T12.setTop (mkF m 25 #[.val (.int p1), .val (.ref bA), .val (.int (6 : Int32)), .val (.int (4 : Int32)), .val (.ref u4)] [(.int p1), (.int w11)])) _
    refine XS.icmpYes X12.here hx rfl (pc0 := 25) (pc' := 31) rfl (hb hby d2_25) rfl (feq hc25_5).2 (by decide) (by decide) ?_
    show Steps p.tables e below (T12.setTop (mkF m 31 #[.val (.int p1), .val (.ref bA), .val (.int (6 : Int32)), .val (.int (4 : Int32)), .val (.ref u4)] [])) _
    refine XS.iinc X12.here hx rfl (hb hby d2_31) rfl (l' := #[.val (.int p1), .val (.ref bA), .val (.int (6 : Int32)), .val (.int (5 : Int32)), .val (.ref u4)]) rfl ?_
    show Steps p.tables e below (T12.setTop (mkF m 34 #[.val (.int p1), .val (.ref bA), .val (.int (6 : Int32)), .val (.int (5 : Int32)), .val (.ref u4)] [])) _
    refine XS.goto X12.here hx rfl (pc0 := 34) (pc' := 9) rfl (hb hby d2_34) (by decide) (by decide) ?_
    show Steps p.tables e below (T12.setTop (mkF m 9 #[.val (.int p1), .val (.ref bA), .val (.int (6 : Int32)), .val (.int (5 : Int32)), .val (.ref u4)] [])) _
    refine XS.iloadN X12.here hx rfl (hb hby d2_9) rfl ?_
    show Steps p.tables e below (T12.setTop (mkF m 10 #[.val (.int p1), .val (.ref bA), .val (.int (6 : Int32)), .val (.int (5 : Int32)), .val (.ref u4)] [(.int (5 : Int32))])) _
    refine XS.iloadN X12.here hx rfl (hb hby d2_10) rfl ?_
    show Steps p.tables e below (T12.setTop (mkF m 11 #[.val (.int p1), .val (.ref bA), .val (.int (6 : Int32)), .val (.int (5 : Int32)), .val (.ref u4)] [(.int (6 : Int32)), (.int (5 : Int32))])) _
    refine XS.icmpNo X12.here hx rfl (hb hby d2_11) rfl (tlt (by decide : (5 : Int32) < (6 : Int32))).2.1 ?_
    show Steps p.tables e below (T12.setTop (mkF m 14 #[.val (.int p1), .val (.ref bA), .val (.int (6 : Int32)), .val (.int (5 : Int32)), .val (.ref u4)] [])) _
    refine XS.aloadN X12.here hx rfl (hb hby d2_14) rfl rfl ?_
    show Steps p.tables e below (T12.setTop (mkF m 15 #[.val (.int p1), .val (.ref bA), .val (.int (6 : Int32)), .val (.int (5 : Int32)), .val (.ref u4)] [(.ref bA)])) _
    refine XS.iloadN X12.here hx rfl (hb hby d2_15) rfl ?_
    show Steps p.tables e below (T12.setTop (mkF m 16 #[.val (.int p1), .val (.ref bA), .val (.int (6 : Int32)), .val (.int (5 : Int32)), .val (.ref u4)] [(.int (5 : Int32)), (.ref bA)])) _
    refine X12.aaload hx (j := (5 : Int32)) (v := (.ref u5)) (by rw [e12]; exact Ar_bA.1) (State.isArrayOf_alike hZ.alike Ar_bA.2.1) rfl Ar_bA.2.2 hin16_6 hat16_6 (g := (mkF m 16 #[.val (.int p1), .val (.ref bA), .val (.int (6 : Int32)), .val (.int (5 : Int32)), .val (.ref u4)] [(.int (5 : Int32)), (.ref bA)])) rfl rfl (hb hby d2_16) _ ?_
    show Steps p.tables e below (T12.setTop (mkF m 17 #[.val (.int p1), .val (.ref bA), .val (.int (6 : Int32)), .val (.int (5 : Int32)), .val (.ref u4)] [(.ref u5)])) _
    refine XS.astore X12.here hx rfl (hb hby d2_17) rfl rfl (l' := #[.val (.int p1), .val (.ref bA), .val (.int (6 : Int32)), .val (.int (5 : Int32)), .val (.ref u5)]) rfl ?_
    show Steps p.tables e below (T12.setTop (mkF m 19 #[.val (.int p1), .val (.ref bA), .val (.int (6 : Int32)), .val (.int (5 : Int32)), .val (.ref u5)] [])) _
    refine XS.aload X12.here hx rfl (hb hby d2_19) rfl rfl ?_
    show Steps p.tables e below (T12.setTop (mkF m 21 #[.val (.int p1), .val (.ref bA), .val (.int (6 : Int32)), .val (.int (5 : Int32)), .val (.ref u5)] [(.ref u5)])) _
    refine st14 _ ?_
    show Steps p.tables e below (T14.setTop (mkF m 24 #[.val (.int p1), .val (.ref bA), .val (.int (6 : Int32)), .val (.int (5 : Int32)), .val (.ref u5)] [(.int w13)])) _
    refine XS.iloadN X14.here hx rfl (hb hby d2_24) rfl ?_
    show Steps p.tables e below (T14.setTop (mkF m 25 #[.val (.int p1), .val (.ref bA), .val (.int (6 : Int32)), .val (.int (5 : Int32)), .val (.ref u5)] [(.int p1), (.int w13)])) _
    refine XS.icmpYes X14.here hx rfl (pc0 := 25) (pc' := 31) rfl (hb hby d2_25) rfl (feq hc25_6).2 (by decide) (by decide) ?_
    show Steps p.tables e below (T14.setTop (mkF m 31 #[.val (.int p1), .val (.ref bA), .val (.int (6 : Int32)), .val (.int (5 : Int32)), .val (.ref u5)] [])) _
    refine XS.iinc X14.here hx rfl (hb hby d2_31) rfl (l' := #[.val (.int p1), .val (.ref bA), .val (.int (6 : Int32)), .val (.int (6 : Int32)), .val (.ref u5)]) rfl ?_
    show Steps p.tables e below (T14.setTop (mkF m 34 #[.val (.int p1), .val (.ref bA), .val (.int (6 : Int32)), .val (.int (6 : Int32)), .val (.ref u5)] [])) _
    refine XS.goto X14.here hx rfl (pc0 := 34) (pc' := 9) rfl (hb hby d2_34) (by decide) (by decide) ?_
    show Steps p.tables e below (T14.setTop (mkF m 9 #[.val (.int p1), .val (.ref bA), .val (.int (6 : Int32)), .val (.int (6 : Int32)), .val (.ref u5)] [])) _
    refine XS.iloadN X14.here hx rfl (hb hby d2_9) rfl ?_
    show Steps p.tables e below (T14.setTop (mkF m 10 #[.val (.int p1), .val (.ref bA), .val (.int (6 : Int32)), .val (.int (6 : Int32)), .val (.ref u5)] [(.int (6 : Int32))])) _
    refine XS.iloadN X14.here hx rfl (hb hby d2_10) rfl ?_
    show Steps p.tables e below (T14.setTop (mkF m 11 #[.val (.int p1), .val (.ref bA), .val (.int (6 : Int32)), .val (.int (6 : Int32)), .val (.ref u5)] [(.int (6 : Int32)), (.int (6 : Int32))])) _
    refine XS.icmpYes X14.here hx rfl (pc0 := 11) (pc' := 37) rfl (hb hby d2_11) rfl (flt (by decide : ¬ ((6 : Int32) < (6 : Int32)))).2.1 (by decide) (by decide) ?_
    show Steps p.tables e below (T14.setTop (mkF m 37 #[.val (.int p1), .val (.ref bA), .val (.int (6 : Int32)), .val (.int (6 : Int32)), .val (.ref u5)] [])) _
    refine XS.iloadN X14.here hx rfl (hb hby d2_37) rfl ?_
    show Steps p.tables e below (T14.setTop (mkF m 38 #[.val (.int p1), .val (.ref bA), .val (.int (6 : Int32)), .val (.int (6 : Int32)), .val (.ref u5)] [(.int p1)])) _
    refine XS.sipush X14.here hx rfl (hb hby d2_38) ?_
    show Steps p.tables e below (T14.setTop (mkF m 41 #[.val (.int p1), .val (.ref bA), .val (.int (6 : Int32)), .val (.int (6 : Int32)), .val (.ref u5)] [(.int (500 : Int32)), (.int p1)])) _
    refine XS.icmpYes X14.here hx rfl (pc0 := 41) (pc' := 50) rfl (hb hby d2_41) rfl (flt hc41).2.1 (by decide) (by decide) ?_
    show Steps p.tables e below (T14.setTop (mkF m 50 #[.val (.int p1), .val (.ref bA), .val (.int (6 : Int32)), .val (.int (6 : Int32)), .val (.ref u5)] [])) _
    refine st16 _ ?_
    show Steps p.tables e below (T16.setTop (mkF m 53 #[.val (.int p1), .val (.ref bA), .val (.int (6 : Int32)), .val (.int (6 : Int32)), .val (.ref u5)] [(.ref w15)])) _
    jvm_step X16.here [X16.here.top, hx, (hb hby d2_53), X16.method', Bd.returns, Value.isRef, FieldType.isReference]
    first | (intro acts; rw [hr _ acts rfl rfl rfl]) | rw [hr _ _ rfl rfl rfl]
    exact Steps.refl _
  · show Q2 w15 h0 n0 _ T16.heap _
    rw [e16]
    exact ⟨rfl, N2, K2⟩
theorem rm2 (l : Launch) (Z : State) (a0 : Array Value) (hw : ∀ d ∈ tables_1, d.before a0 Z = true) (ws : List Jvm.Cond) (p1 : Int32) (u0 u1 u2 u3 u4 u5 : Addr) (wV : Addr) (kA : ClassId) (h0 : Heap) (n0 : Nat) (Z0 : n0 ≤ h0.size) (S_V : Sta Z h0 "com/example/wepwawet/wepwawet/server/Status" "$VALUES" "[Lcom/example/wepwawet/wepwawet/server/Status;" (.ref wV)) (E_V : Exa Z h0 wV "[Lcom/example/wepwawet/wepwawet/server/Status;") (V_V : Arv Z h0 wV kA (.object "com/example/wepwawet/wepwawet/server/Status") (6 : Int32) [.ref u0, .ref u1, .ref u2, .ref u3, .ref u4, .ref u5] .null) (F0 : Fld Z h0 u0 "com/example/wepwawet/wepwawet/server/Status" "httpCode" "I" (.int 400)) (F1 : Fld Z h0 u1 "com/example/wepwawet/wepwawet/server/Status" "httpCode" "I" (.int 401)) (F2 : Fld Z h0 u2 "com/example/wepwawet/wepwawet/server/Status" "httpCode" "I" (.int 404)) (F3 : Fld Z h0 u3 "com/example/wepwawet/wepwawet/server/Status" "httpCode" "I" (.int 409)) (F4 : Fld Z h0 u4 "com/example/wepwawet/wepwawet/server/Status" "httpCode" "I" (.int 500)) (F5 : Fld Z h0 u5 "com/example/wepwawet/wepwawet/server/Status" "httpCode" "I" (.int 503)) (S0 : Sta Z h0 "com/example/wepwawet/wepwawet/server/Status" "INVALID_ARGUMENT" "Lcom/example/wepwawet/wepwawet/server/Status;" (.ref u0)) (S4 : Sta Z h0 "com/example/wepwawet/wepwawet/server/Status" "INTERNAL" "Lcom/example/wepwawet/wepwawet/server/Status;" (.ref u4)) :
    MetFree l (⟨"com/example/wepwawet/wepwawet/server/Status", "forHttpCode", "(I)Lcom/example/wepwawet/wepwawet/server/Status;"⟩ : MethodName) (head1 (Jvm.Cond.code (⟨"com/example/wepwawet/wepwawet/server/Status", "forHttpCode", "(I)Lcom/example/wepwawet/wepwawet/server/Status;"⟩ : MethodName) prog_29_method_5_code 5 (some (.object "com/example/wepwawet/wepwawet/server/Status")) :: ws) ({ frames := 2, cells := 1, slots := 6, locals := 25 } : Room)) (fun a U => a = #[(.int p1)] ∧ Z.Warmed39 U.vm ∧ U.heap = h0) (fun _ _ _ _ _ => True) (fun _ U o U' => ∃ v L, o = .returned v ∧ Q2 (own_exp p1 u0 u1 u2 u3 u4 u5) h0 n0 v U'.heap L ∧ FrameEnd U o U' L ({ frames := 2, cells := 1, slots := 6, locals := 25 } : Room).cells ({ frames := 2, cells := 1, slots := 6, locals := 25 } : Room).slots) := by
  by_cases c0 : p1 = (400 : Int32)
  · rw [show own_exp p1 u0 u1 u2 u3 u4 u5 = u0 by simp [own_exp, c0]]
    exact rm2_ff l Z a0 hw ws p1 u0 u1 u2 u3 u4 u5 (400 : Int32) wV kA h0 n0 Z0 S_V E_V V_V F0  c0.symm
  by_cases c1 : p1 = (401 : Int32)
  · rw [show own_exp p1 u0 u1 u2 u3 u4 u5 = u1 by simp [own_exp, c1]]
    exact rm2_ftff l Z a0 hw ws p1 u0 u1 u2 u3 u4 u5 (400 : Int32) (401 : Int32) wV kA h0 n0 Z0 S_V E_V V_V F0 F1 (Ne.symm c0) c1.symm
  by_cases c2 : p1 = (404 : Int32)
  · rw [show own_exp p1 u0 u1 u2 u3 u4 u5 = u2 by simp [own_exp, c2]]
    exact rm2_ftftff l Z a0 hw ws p1 u0 u1 u2 u3 u4 u5 (400 : Int32) (401 : Int32) (404 : Int32) wV kA h0 n0 Z0 S_V E_V V_V F0 F1 F2 (Ne.symm c0) (Ne.symm c1) c2.symm
  by_cases c3 : p1 = (409 : Int32)
  · rw [show own_exp p1 u0 u1 u2 u3 u4 u5 = u3 by simp [own_exp, c3]]
    exact rm2_ftftftff l Z a0 hw ws p1 u0 u1 u2 u3 u4 u5 (400 : Int32) (401 : Int32) (404 : Int32) (409 : Int32) wV kA h0 n0 Z0 S_V E_V V_V F0 F1 F2 F3 (Ne.symm c0) (Ne.symm c1) (Ne.symm c2) c3.symm
  by_cases c4 : p1 = (500 : Int32)
  · rw [show own_exp p1 u0 u1 u2 u3 u4 u5 = u4 by simp [own_exp, c4]]
    exact rm2_ftftftftff l Z a0 hw ws p1 u0 u1 u2 u3 u4 u5 (400 : Int32) (401 : Int32) (404 : Int32) (409 : Int32) (500 : Int32) wV kA h0 n0 Z0 S_V E_V V_V F0 F1 F2 F3 F4 (Ne.symm c0) (Ne.symm c1) (Ne.symm c2) (Ne.symm c3) c4.symm
  by_cases c5 : p1 = (503 : Int32)
  · rw [show own_exp p1 u0 u1 u2 u3 u4 u5 = u5 by simp [own_exp, c5]]
    exact rm2_ftftftftftff l Z a0 hw ws p1 u0 u1 u2 u3 u4 u5 (400 : Int32) (401 : Int32) (404 : Int32) (409 : Int32) (500 : Int32) (503 : Int32) wV kA h0 n0 Z0 S_V E_V V_V F0 F1 F2 F3 F4 F5 (Ne.symm c0) (Ne.symm c1) (Ne.symm c2) (Ne.symm c3) (Ne.symm c4) c5.symm
  by_cases c6 : p1 < (500 : Int32)
  · rw [show own_exp p1 u0 u1 u2 u3 u4 u5 = u0 by simp [own_exp, c0, c1, c2, c3, c4, c5, c6]]
    exact rm2_ftftftftftfttf l Z a0 hw ws p1 u0 u1 u2 u3 u4 u5 (400 : Int32) (401 : Int32) (404 : Int32) (409 : Int32) (500 : Int32) (503 : Int32) u0 wV kA h0 n0 Z0 S_V E_V V_V F0 F1 F2 F3 F4 F5 S0 (Ne.symm c0) (Ne.symm c1) (Ne.symm c2) (Ne.symm c3) (Ne.symm c4) (Ne.symm c5) c6
  · rw [show own_exp p1 u0 u1 u2 u3 u4 u5 = u4 by simp [own_exp, c0, c1, c2, c3, c4, c5, c6]]
    exact rm2_ftftftftftfttt l Z a0 hw ws p1 u0 u1 u2 u3 u4 u5 (400 : Int32) (401 : Int32) (404 : Int32) (409 : Int32) (500 : Int32) (503 : Int32) u4 wV kA h0 n0 Z0 S_V E_V V_V F0 F1 F2 F3 F4 F5 S4 (Ne.symm c0) (Ne.symm c1) (Ne.symm c2) (Ne.symm c3) (Ne.symm c4) (Ne.symm c5) c6
theorem pn_0 : plainName "com/example/wepwawet/wepwawet/server/StatusForHttpCodePinLaw" = true := by first | (simp [plainName, overriddenIn]; done) | decide +kernel
theorem pd_0_0 : parseMethodDescriptor "(II)I" = some ⟨[.int, .int], some .int⟩ := by decide +kernel
theorem pd_0_1 : parseMethodDescriptor "(I)Lcom/example/wepwawet/wepwawet/server/Status;" = some ⟨[.int], some (.object "com/example/wepwawet/wepwawet/server/Status")⟩ := by decide +kernel
theorem ef_0 (m : MethodId) (x0 : Int32) (x1 : Int32) : entryFrame m #[(.int x0), (.int x1)] maxLocals = mkF m 0 #[.val (.int x0), .val (.int x1), .unset, .unset] [] := by first | (simp [entryFrame, mkF, argsToLocals, Value.category, maxLocals]; done) | rfl
def Q0 (Z : State) (p1 : Int32) (p2 : Int32) (h0 : Heap) (n0 : Nat) (v : Option Value) (h : Heap) (L : List Loc) : Prop := v = some (.int (1 : Int32)) ∧ Fr n0 L
set_option maxRecDepth 65536 in
set_option maxHeartbeats 40000000 in
theorem rm0 (l : Launch) (Z : State) (a0 : Array Value) (hw : ∀ d ∈ tables_1, d.before a0 Z = true) (ws : List Jvm.Cond) (p1 : Int32) (p2 : Int32) (u0 u1 u2 u3 u4 u5 : Addr) (wV : Addr) (kA : ClassId) (h0 : Heap) (n0 : Nat) (Z0 : n0 ≤ h0.size) (S_V : Sta Z h0 "com/example/wepwawet/wepwawet/server/Status" "$VALUES" "[Lcom/example/wepwawet/wepwawet/server/Status;" (.ref wV)) (E_V : Exa Z h0 wV "[Lcom/example/wepwawet/wepwawet/server/Status;") (V_V : Arv Z h0 wV kA (.object "com/example/wepwawet/wepwawet/server/Status") (6 : Int32) [.ref u0, .ref u1, .ref u2, .ref u3, .ref u4, .ref u5] .null) (F0 : Fld Z h0 u0 "com/example/wepwawet/wepwawet/server/Status" "httpCode" "I" (.int 400)) (F1 : Fld Z h0 u1 "com/example/wepwawet/wepwawet/server/Status" "httpCode" "I" (.int 401)) (F2 : Fld Z h0 u2 "com/example/wepwawet/wepwawet/server/Status" "httpCode" "I" (.int 404)) (F3 : Fld Z h0 u3 "com/example/wepwawet/wepwawet/server/Status" "httpCode" "I" (.int 409)) (F4 : Fld Z h0 u4 "com/example/wepwawet/wepwawet/server/Status" "httpCode" "I" (.int 500)) (F5 : Fld Z h0 u5 "com/example/wepwawet/wepwawet/server/Status" "httpCode" "I" (.int 503)) (S0 : Sta Z h0 "com/example/wepwawet/wepwawet/server/Status" "INVALID_ARGUMENT" "Lcom/example/wepwawet/wepwawet/server/Status;" (.ref u0)) (S1 : Sta Z h0 "com/example/wepwawet/wepwawet/server/Status" "UNAUTHENTICATED" "Lcom/example/wepwawet/wepwawet/server/Status;" (.ref u1)) (S2 : Sta Z h0 "com/example/wepwawet/wepwawet/server/Status" "NOT_FOUND" "Lcom/example/wepwawet/wepwawet/server/Status;" (.ref u2)) (S3 : Sta Z h0 "com/example/wepwawet/wepwawet/server/Status" "ABORTED" "Lcom/example/wepwawet/wepwawet/server/Status;" (.ref u3)) (S4 : Sta Z h0 "com/example/wepwawet/wepwawet/server/Status" "INTERNAL" "Lcom/example/wepwawet/wepwawet/server/Status;" (.ref u4)) (S5 : Sta Z h0 "com/example/wepwawet/wepwawet/server/Status" "UNAVAILABLE" "Lcom/example/wepwawet/wepwawet/server/Status;" (.ref u5)) :
    MetFree l x (head1 (Jvm.Cond.code x code maxLocals ret :: ws) room_1) (fun a U => a = #[(.int p1), (.int p2)] ∧ Z.Warmed39 U.vm ∧ U.heap = h0) (fun _ _ _ _ _ => True) (fun _ U o U' => ∃ v L, o = .returned v ∧ Q0 Z p1 p2 h0 n0 v U'.heap L ∧ FrameEnd U o U' L room_1.cells room_1.slots) := by
  refine MetFree.of_bodySF (plainFor_of_name pn_0) hisR ?_
  intro p e s m args below meth c s₁ Bd hml0 hP hK
  obtain ⟨rfl, hZ, hh⟩ := hP
  have hx := Bd.exec
  have hby := Bd.bytes
  have hml : c.maxLocals = 4 := hml0
  have hown : s.vm.findClass "com/example/wepwawet/wepwawet/server/StatusForHttpCodePinLaw" = some m.cls := findClass_of_methodNamed Bd.named
  have hnm := (name_of_methodNamed Bd.named Bd.method).1
  have X0 : Stand p l e room_1 s m #[(.int p1), (.int p2)] below meth c s₁ [] 0 0 := Stand.of_body Bd
  have e0 : s₁.heap = h0 := by rw [← hh, Bd.state]; rfl
  have N0 := Fr.nil n0
  have pre0 : ∀ t, Steps p.tables e below (s₁.setTop (mkF m 0 #[.val (.int p1), .val (.int p2), .unset, .unset] [])) t → Steps p.tables e below (s₁.setTop (entryFrame m #[(.int p1), (.int p2)] maxLocals)) t := fun t k => castTop (ef_0 m p1 p2) k
  obtain ⟨_, _, ⟨T3, L3, k3, n3⟩, -, X3, ⟨Lc3, hQ3, l3, y3, z3⟩, st3⟩ := Jvm.LawKit.callS X0 hx (y := (⟨"com/example/wepwawet/wepwawet/server/StatusForHttpCodePinLaw", "pick", "(II)I"⟩ : MethodName)) hown (mvT hZ (hw _ (List.mem_of_getElem? (i := 0) rfl))) (mvT hZ (hw _ (List.mem_of_getElem? (i := 1) rfl))) (mvT hZ (hw _ (List.mem_of_getElem? (i := 2) rfl))) (mvT hZ (hw _ (List.mem_of_getElem? (i := 3) rfl))) (by decide) (backOf (W := 0) (rm1 l Z a0 hw [] p1 p2 h0 n0 Z0) hZ (hw _ (List.mem_of_getElem? (i := 3) rfl)) (hw _ (List.mem_of_getElem? (i := 2) rfl)) (by decide) (by decide)) (g := (mkF m 2 #[.val (.int p1), .val (.int p2), .unset, .unset] [(.int p2), (.int p1)])) rfl (by rw [hml]; rfl) (argsL := [(.int p1), (.int p2)]) (rest := []) (lenOf pd_0_0 rfl) rfl (by show 2 * 0 + _ ≤ _; exact Nat.le_of_eq rfl) (hb hby at_2) (fun _ _ => ⟨rfl, e0, (by decide : 0 + 0 ≤ _), (by decide : 0 + 0 ≤ _)⟩)
  dsimp only [Pt.U, Pt.locs, Pt.cells, Pt.slots] at X3 l3 y3 z3 st3 hQ3
  subst l3 y3 z3
  obtain ⟨cc, rfl, N3q, e3q⟩ := hQ3
  have N3 := Fr.app N0 N3q
  obtain ⟨_, _, ⟨T4, L4, k4, n4⟩, -, X4, ⟨Lc4, hQ4, l4, y4, z4⟩, st4⟩ := Jvm.LawKit.callS X3 hx (y := (⟨"com/example/wepwawet/wepwawet/server/Status", "forHttpCode", "(I)Lcom/example/wepwawet/wepwawet/server/Status;"⟩ : MethodName)) hown (mvT hZ (hw _ (List.mem_of_getElem? (i := 4) rfl))) (mvT hZ (hw _ (List.mem_of_getElem? (i := 5) rfl))) (mvT hZ (hw _ (List.mem_of_getElem? (i := 6) rfl))) (mvT hZ (hw _ (List.mem_of_getElem? (i := 7) rfl))) (by decide) (backOf (W := 0) (rm2 l Z a0 hw [] cc u0 u1 u2 u3 u4 u5 wV kA h0 n0 Z0 S_V E_V V_V F0 F1 F2 F3 F4 F5 S0 S4) hZ (hw _ (List.mem_of_getElem? (i := 7) rfl)) (hw _ (List.mem_of_getElem? (i := 6) rfl)) (by decide) (by decide)) (g := (mkF m 7 #[.val (.int p1), .val (.int p2), .val (.int cc), .unset] [(.int cc)])) rfl (by rw [hml]; rfl) (argsL := [(.int cc)]) (rest := []) (lenOf pd_0_1 rfl) rfl (by show 2 * 0 + _ ≤ _; exact Nat.le_of_eq rfl) (hb hby at_7) (fun _ _ => ⟨rfl, e3q, (by decide : 0 + 1 ≤ _), (by decide : 0 + 6 ≤ _)⟩)
  dsimp only [Pt.U, Pt.locs, Pt.cells, Pt.slots] at X4 l4 y4 z4 st4 hQ4
  subst l4 y4 z4
  obtain ⟨rfl, N4q, K4⟩ := hQ4
  have N4 := Fr.app N3 N4q
  obtain ⟨_, _, ⟨T5, L5, k5, n5⟩, -, X5, ⟨Lc5, hQ5, l5, y5, z5⟩, st5⟩ := Jvm.LawKit.callS X4 hx (y := (⟨"com/example/wepwawet/wepwawet/server/StatusForHttpCodePinLaw", "expected", "(I)Lcom/example/wepwawet/wepwawet/server/Status;"⟩ : MethodName)) hown (mvT hZ (hw _ (List.mem_of_getElem? (i := 31) rfl))) (mvT hZ (hw _ (List.mem_of_getElem? (i := 32) rfl))) (mvT hZ (hw _ (List.mem_of_getElem? (i := 2) rfl))) (mvT hZ (hw _ (List.mem_of_getElem? (i := 33) rfl))) (by decide) (backOf (W := 1) (rm4 l Z a0 hw [] cc u0 u1 u2 u3 u4 u5 T4.heap n0 (Nat.le_trans Z0 K4.1) (own_stk S0 K4) (own_stk S1 K4) (own_stk S2 K4) (own_stk S3 K4) (own_stk S4 K4) (own_stk S5 K4)) hZ (hw _ (List.mem_of_getElem? (i := 33) rfl)) (hw _ (List.mem_of_getElem? (i := 2) rfl)) (by decide) (by decide)) (g := (mkF m 13 #[.val (.int p1), .val (.int p2), .val (.int cc), .val (.ref (own_exp cc u0 u1 u2 u3 u4 u5))] [(.int cc), (.ref (own_exp cc u0 u1 u2 u3 u4 u5))])) rfl (by rw [hml]; rfl) (argsL := [(.int cc)]) (rest := [(.ref (own_exp cc u0 u1 u2 u3 u4 u5))]) (lenOf pd_0_1 rfl) rfl (by show 2 * 0 + _ ≤ _; exact Nat.le_of_eq rfl) (hb hby at_13) (fun _ _ => ⟨rfl, rfl, (by decide : 1 + 0 ≤ _), (by decide : 6 + 0 ≤ _)⟩)
  dsimp only [Pt.U, Pt.locs, Pt.cells, Pt.slots] at X5 l5 y5 z5 st5 hQ5
  subst l5 y5 z5
  obtain ⟨rfl, N5q, e5q⟩ := hQ5
  have N5 := Fr.app N4 N5q
  obtain ⟨fs, hr, hrun, hended, hW, hsame⟩ := X5.leave (v := some (.int (1 : Int32))) (fun h => by rw [Bd.returns] at h; cases h)
  refine ⟨_, _, pre0 _ ?_, hrun, hended, _, _, rfl, ?_, ⟨_, rfl⟩, hW, hsame.mono (by decide) (by decide)⟩
  · show Steps p.tables e below (s₁.setTop (mkF m 0 #[.val (.int p1), .val (.int p2), .unset, .unset] [])) _
    refine XS.iloadN X0.here hx rfl (hb hby at_0) rfl ?_
    show Steps p.tables e below (s₁.setTop (mkF m 1 #[.val (.int p1), .val (.int p2), .unset, .unset] [(.int p1)])) _
    refine XS.iloadN X0.here hx rfl (hb hby at_1) rfl ?_
    show Steps p.tables e below (s₁.setTop (mkF m 2 #[.val (.int p1), .val (.int p2), .unset, .unset] [(.int p2), (.int p1)])) _
    refine st3 _ ?_
    show Steps p.tables e below (T3.setTop (mkF m 5 #[.val (.int p1), .val (.int p2), .unset, .unset] [(.int cc)])) _
    refine XS.istoreN X3.here hx rfl (hb hby at_5) rfl (l' := #[.val (.int p1), .val (.int p2), .val (.int cc), .unset]) rfl ?_
    show Steps p.tables e below (T3.setTop (mkF m 6 #[.val (.int p1), .val (.int p2), .val (.int cc), .unset] [])) _
    refine XS.iloadN X3.here hx rfl (hb hby at_6) rfl ?_
    show Steps p.tables e below (T3.setTop (mkF m 7 #[.val (.int p1), .val (.int p2), .val (.int cc), .unset] [(.int cc)])) _
    refine st4 _ ?_
    show Steps p.tables e below (T4.setTop (mkF m 10 #[.val (.int p1), .val (.int p2), .val (.int cc), .unset] [(.ref (own_exp cc u0 u1 u2 u3 u4 u5))])) _
    refine XS.astoreN X4.here hx rfl (hb hby at_10) rfl rfl (l' := #[.val (.int p1), .val (.int p2), .val (.int cc), .val (.ref (own_exp cc u0 u1 u2 u3 u4 u5))]) rfl ?_
    show Steps p.tables e below (T4.setTop (mkF m 11 #[.val (.int p1), .val (.int p2), .val (.int cc), .val (.ref (own_exp cc u0 u1 u2 u3 u4 u5))] [])) _
    refine XS.aloadN X4.here hx rfl (hb hby at_11) rfl rfl ?_
    show Steps p.tables e below (T4.setTop (mkF m 12 #[.val (.int p1), .val (.int p2), .val (.int cc), .val (.ref (own_exp cc u0 u1 u2 u3 u4 u5))] [(.ref (own_exp cc u0 u1 u2 u3 u4 u5))])) _
    refine XS.iloadN X4.here hx rfl (hb hby at_12) rfl ?_
    show Steps p.tables e below (T4.setTop (mkF m 13 #[.val (.int p1), .val (.int p2), .val (.int cc), .val (.ref (own_exp cc u0 u1 u2 u3 u4 u5))] [(.int cc), (.ref (own_exp cc u0 u1 u2 u3 u4 u5))])) _
    refine st5 _ ?_
    show Steps p.tables e below (T5.setTop (mkF m 16 #[.val (.int p1), .val (.int p2), .val (.int cc), .val (.ref (own_exp cc u0 u1 u2 u3 u4 u5))] [(.ref (own_exp cc u0 u1 u2 u3 u4 u5)), (.ref (own_exp cc u0 u1 u2 u3 u4 u5))])) _
    refine Jvm.RoadKit.acmp (g := (mkF m 16 #[.val (.int p1), .val (.int p2), .val (.int cc), .val (.ref (own_exp cc u0 u1 u2 u3 u4 u5))] [(.ref (own_exp cc u0 u1 u2 u3 u4 u5)), (.ref (own_exp cc u0 u1 u2 u3 u4 u5))])) X5 hx rfl rfl rfl (pc0 := 16) (pc' := 19) (same := true) rfl (hb hby at_16) rfl (decide_eq_true rfl) (by decide) (by decide) ?_
    show Steps p.tables e below (T5.setTop (mkF m 19 #[.val (.int p1), .val (.int p2), .val (.int cc), .val (.ref (own_exp cc u0 u1 u2 u3 u4 u5))] [])) _
    refine XS.iconst X5.here hx rfl (hb hby at_19) ?_
    show Steps p.tables e below (T5.setTop (mkF m 20 #[.val (.int p1), .val (.int p2), .val (.int cc), .val (.ref (own_exp cc u0 u1 u2 u3 u4 u5))] [(.int (1 : Int32))])) _
    refine XS.goto X5.here hx rfl (pc0 := 20) (pc' := 24) rfl (hb hby at_20) (by decide) (by decide) ?_
    show Steps p.tables e below (T5.setTop (mkF m 24 #[.val (.int p1), .val (.int p2), .val (.int cc), .val (.ref (own_exp cc u0 u1 u2 u3 u4 u5))] [(.int (1 : Int32))])) _
    exact retN X5 hx (t := .boolean) Bd.returns (by simp) (hb hby at_24) hr
  · show Q0 Z p1 p2 h0 n0 _ T5.heap _
    exact ⟨rfl, N5⟩
set_option maxRecDepth 65536 in
set_option maxHeartbeats 40000000 in
theorem comes_1 {Post : Tables → Env → Array Value → State → Outcome → State → Prop} (hpost : ∀ tb e args s v u, (limb_1_1.after args s (.returned v) u = true ∧ limb_1_2.after args s (.returned v) u = true ∧ True) → FrameEnd s (.returned v) u (Jvm.fieldLocs frame_1_writes args s ++ Jvm.arrayLocs frame_1_arrays args s ++ Jvm.staticLocs frame_1_statics s) 16 128 → Post tb e args s (.returned v) u) :
    ArmFor flags0 classFile x code maxLocals ret World_1 tables_1 room_1 Calls_1 rest_1 Pre_1 Post := by
  intro l hfl _ _ p e ha hc hk s m args below hf hA hF happ hP
  obtain ⟨hcalls, hrest, hpre⟩ := hP
  obtain ⟨-, -, -, hnamed, -, -, -, hat⟩ := (Spec.applies_iff hf).mp happ
  obtain ⟨hg, hn⟩ := and_e (Cond.before_iff.mp (show (Jvm.Cond.and given_1 narrow_1).before args s = true from hpre))
  obtain ⟨g6, g7⟩ := and_e hg
  obtain ⟨g8, g9⟩ := and_e g7
  obtain ⟨w0, w1, rfl⟩ : ∃ w0 w1 : Value, args = #[w0, w1] := by
    have hs : args.size = 2 := by simpa [Cond.value, given_1] using g6
    obtain ⟨L⟩ := args
    match L, hs with
    | [w0, w1], _ => exact ⟨w0, w1, rfl⟩
  have hw := fun d (hd : d ∈ tables_1) => atoms_spec (ws := Jvm.Cond.code x code maxLocals ret :: tables_1) hat d (List.mem_cons_of_mem _ hd)
  have hfit : Fit s := fun {y c} hc i hi => by
    obtain ⟨ha, rfl⟩ := Array.getElem?_eq_some_iff.mp hc
    have q := List.all_eq_true.mp ((Array.all_eq_true_iff_forall_mem.mp hF) _ (Array.getElem_mem ha)) i (List.mem_range.mpr hi)
    simpa [Array.getElem?_eq_getElem hi] using q
  obtain ⟨i0, ei0⟩ := is_v g8
  obtain rfl : w0 = (.int i0) := Option.some.inj ei0
  obtain ⟨i1, ei1⟩ := is_v g9
  obtain rfl : w1 = (.int i1) := Option.some.inj ei1
  obtain ⟨n1, hn⟩ := and_e hn
  obtain ⟨n2, hn⟩ := and_e hn
  obtain ⟨n3, hn⟩ := and_e hn
  obtain ⟨n4, hn⟩ := and_e hn
  obtain ⟨n5, hn⟩ := and_e hn
  obtain ⟨n6, hn⟩ := and_e hn
  obtain ⟨n7, hn⟩ := and_e hn
  obtain ⟨n8, hn⟩ := and_e hn
  obtain ⟨n9, hn⟩ := and_e hn
  obtain ⟨n10, hn⟩ := and_e hn
  obtain ⟨n11, hn⟩ := and_e hn
  obtain ⟨n12, hn⟩ := and_e hn
  obtain ⟨n13, hn⟩ := and_e hn
  obtain ⟨n14, hn⟩ := and_e hn
  obtain ⟨n15, hn⟩ := and_e hn
  obtain ⟨n16, hn⟩ := and_e hn
  obtain ⟨n17, hn⟩ := and_e hn
  obtain ⟨n18, hn⟩ := and_e hn
  obtain ⟨n19, hn⟩ := and_e hn
  obtain ⟨n20, n21⟩ := and_e hn
  obtain ⟨aV, vV, SV, EV⟩ := own_st n2 (hw _ (List.mem_of_getElem? (i := 6) rfl)) (hw _ (List.mem_of_getElem? (i := 12) rfl))
  obtain ⟨a0, v0, S0, E0⟩ := own_st n4 (hw _ (List.mem_of_getElem? (i := 6) rfl)) (hw _ (List.mem_of_getElem? (i := 20) rfl))
  have F0 := own_fld v0 n16
  obtain ⟨a1, v1, S1, E1⟩ := own_st n6 (hw _ (List.mem_of_getElem? (i := 6) rfl)) (hw _ (List.mem_of_getElem? (i := 21) rfl))
  have F1 := own_fld v1 n17
  obtain ⟨a2, v2, S2, E2⟩ := own_st n8 (hw _ (List.mem_of_getElem? (i := 6) rfl)) (hw _ (List.mem_of_getElem? (i := 22) rfl))
  have F2 := own_fld v2 n18
  obtain ⟨a3, v3, S3, E3⟩ := own_st n10 (hw _ (List.mem_of_getElem? (i := 6) rfl)) (hw _ (List.mem_of_getElem? (i := 23) rfl))
  have F3 := own_fld v3 n19
  obtain ⟨a4, v4, S4, E4⟩ := own_st n12 (hw _ (List.mem_of_getElem? (i := 6) rfl)) (hw _ (List.mem_of_getElem? (i := 24) rfl))
  have F4 := own_fld v4 n20
  obtain ⟨a5, v5, S5, E5⟩ := own_st n14 (hw _ (List.mem_of_getElem? (i := 6) rfl)) (hw _ (List.mem_of_getElem? (i := 25) rfl))
  have F5 := own_fld v5 n21
  obtain ⟨kA, VV⟩ := own_vals hfit vV n1 n3 (own_eqr n5 v0) (own_eqr n7 v1) (own_eqr n9 v2) (own_eqr n11 v3) (own_eqr n13 v4) (own_eqr n15 v5)
  obtain ⟨n, o, h1, h2, h3, _, L, rfl, ⟨rfl, N⟩, hq⟩ := rm0 l s _ hw tables_1 i0 i1 a0 a1 a2 a3 a4 a5 aV kA s.heap s.heap.size (Nat.le_refl _) SV EV VV F0 F1 F2 F3 F4 F5 S0 S1 S2 S3 S4 S5 p e ha hc hk s m _ below hf ((Spec.applies_iff_loose hf).mp happ).1 ⟨rfl, State.Warmed39.refl s, rfl⟩ trivial
  refine ⟨n, _, h1, h2, h3, hpost _ _ _ _ _ _ ⟨Cond.after_iff.mpr rfl, Cond.after_iff.mpr (eq_i res_at (Term.int_eval (1)) rfl), trivial⟩ ⟨hq.1, hq.2.1, (hq.2.2.sift fun y hy => Or.inr (N y hy)).mono (by decide) (by decide)⟩⟩
theorem main_1_1 : Claimed_1_1 := comes_1 fun _ _ _ _ _ _ h hF => ⟨h.1, hF⟩
theorem main_1_2 : Claimed_1_2 := comes_1 fun _ _ _ _ _ _ h hF => ⟨h.2.1, hF⟩
end Jvm.Pilot.@@N@@
namespace Jvm.Pilot.@@N@@
open Jvm Jvm.ClassFile Sem Op Lib Jvm.Free Jvm.Stand Jvm.Pilot.@@N@@.Jvm.D
/-! MADE BY PROGRAM (witnessworld.py) out of the Statement's table words and the real class files: 13 classes; the members and pool entries that the words name. The judged class is class 1, her method 3. -/
namespace start1
open Jvm.ClassFile
def u (s : String) : CpInfo := .utf8 (stringToUtf16 s)
/-- a pool by its gaps: so many unusable entries, then the entry; so many at the end -/
def gap : Nat → List CpInfo → List CpInfo
  | 0, r => r
  | n + 1, r => .unusable :: gap n r
def poolList (es : List (Nat × CpInfo)) (last : Nat) : List CpInfo := es.foldr (fun e r => gap e.1 (e.2 :: r)) (gap last [])
def pool (es : List (Nat × CpInfo)) (last : Nat) : Array CpInfo := ⟨poolList es last⟩
def fileOf (pool : Array CpInfo) (this : Nat) (attrs : Array Attribute := #[]) (ms : Array MethodInfo := #[]) (fl : Nat := 33) (sup : Nat := 0) (ifs : Array Nat := #[]) (fds : Array FieldInfo := #[]) : ClassFile where
  minorVersion := 0
  majorVersion := 65
  constantPool := pool
  accessFlags := fl
  thisClass := this
  superClass := sup
  interfaces := ifs
  fields := fds
  methods := ms
  attributes := attrs
def plain (name : String) (sup : Option ClassId) : Class where
  name := name
  kind := .ordinary
  loader := none
  accessFlags := 33
  super := sup
  interfaces := #[]
  cf := none
  fields := #[]
  methods := #[]
  instanceTypes := #[]
  staticTypes := #[]
  resolved := #[]
  callSites := []
  init := .initialized
  statics := none
  mirror := none

def pool0 : Array CpInfo := pool [(5, u "<init>"), (0, u "()V"), (1, .class_ 10), (1, u "java/lang/Object"), (85, u "clone"), (0, u "()Ljava/lang/Object;")] 26

def k0m0 : Method := { name := "<init>", desc := "()V", sig := { parameters := [], returnType := none }, accessFlags := 1, code := none }
def k0m1 : Method := { name := "clone", desc := "()Ljava/lang/Object;", sig := { parameters := [], returnType := some (.object "java/lang/Object") }, accessFlags := 260, code := none }
/-- java/lang/Object -/
def k0 : Class := { plain "java/lang/Object" none with
  accessFlags := 33
  interfaces := #[]
  cf := some (fileOf pool0 8 #[] #[{ accessFlags := 1, nameIndex := 5, descriptorIndex := 6, attributes := #[] }, { accessFlags := 260, nameIndex := 96, descriptorIndex := 97, attributes := #[] }] 33 0 #[] #[])
  fields := #[]
  methods := #[k0m0, k0m1]
  instanceTypes := #[]
  staticTypes := #[]
  resolved := Array.replicate 124 none
  statics := none }

def pool1 : Array CpInfo := pool [(2, .class_ 4), (1, u "java/lang/Object"), (0, u "<init>"), (0, u "()V"), (0, .fieldref 8 9), (0, .class_ 10), (0, .nameAndType 11 12), (0, u "com/example/wepwawet/wepwawet/server/Status"), (0, u "INVALID_ARGUMENT"), (0, u "Lcom/example/wepwawet/wepwawet/server/Status;"), (0, .fieldref 8 14), (0, .nameAndType 15 12), (0, u "UNAUTHENTICATED"), (0, .fieldref 8 17), (0, .nameAndType 18 12), (0, u "NOT_FOUND"), (0, .fieldref 8 20), (0, .nameAndType 21 12), (0, u "ABORTED"), (0, .fieldref 8 23), (0, .nameAndType 24 12), (0, u "INTERNAL"), (0, .fieldref 8 26), (0, .nameAndType 27 12), (0, u "UNAVAILABLE"), (0, .integer 2147483647), (0, .methodref 30 31), (0, .class_ 32), (0, .nameAndType 33 34), (0, u "com/example/wepwawet/wepwawet/server/StatusForHttpCodePinLaw"), (0, u "pick"), (0, u "(II)I"), (0, .methodref 8 36), (0, .nameAndType 37 38), (0, u "forHttpCode"), (0, u "(I)Lcom/example/wepwawet/wepwawet/server/Status;"), (0, .methodref 30 40), (0, .nameAndType 41 38), (0, u "expected"), (3, u "law"), (0, u "(II)Z")] 2

def k1m0 : Method := { name := "<init>", desc := "()V", sig := { parameters := [], returnType := none }, accessFlags := 2, code := none }
def k1c1 : Code := { maxStack := 2, maxLocals := 1, code := method_2_code, exceptionTable := #[], attributes := #[] }
def k1m1 : Method := { name := "expected", desc := "(I)Lcom/example/wepwawet/wepwawet/server/Status;", sig := { parameters := [.int], returnType := some (.object "com/example/wepwawet/wepwawet/server/Status") }, accessFlags := 10, code := some k1c1 }
def k1c2 : Code := { maxStack := 3, maxLocals := 3, code := method_3_code, exceptionTable := #[], attributes := #[] }
def k1m2 : Method := { name := "pick", desc := "(II)I", sig := { parameters := [.int, .int], returnType := some .int }, accessFlags := 10, code := some k1c2 }
def k1c3 : Code := { maxStack := 2, maxLocals := 4, code := code, exceptionTable := #[], attributes := #[] }
def k1m3 : Method := { name := "law", desc := "(II)Z", sig := { parameters := [.int, .int], returnType := some .boolean }, accessFlags := 9, code := some k1c3 }
/-- com/example/wepwawet/wepwawet/server/StatusForHttpCodePinLaw -/
def k1 : Class := { plain "com/example/wepwawet/wepwawet/server/StatusForHttpCodePinLaw" (some 0) with
  accessFlags := 49
  interfaces := #[]
  cf := some (fileOf pool1 30 #[] #[{ accessFlags := 2, nameIndex := 5, descriptorIndex := 6, attributes := #[] }, { accessFlags := 10, nameIndex := 41, descriptorIndex := 38, attributes := #[] }, { accessFlags := 10, nameIndex := 33, descriptorIndex := 34, attributes := #[] }, { accessFlags := 9, nameIndex := 45, descriptorIndex := 46, attributes := #[] }] 49 2 #[] #[])
  fields := #[]
  methods := #[k1m0, k1m1, k1m2, k1m3]
  instanceTypes := #[]
  staticTypes := #[]
  resolved := Array.replicate 49 none
  statics := none }

def pool2 : Array CpInfo := pool [(1, .class_ 2), (0, u "java/lang/constant/Constable"), (0, .class_ 4), (0, u "java/lang/Object")] 6

/-- java/lang/constant/Constable -/
def k2 : Class := { plain "java/lang/constant/Constable" (some 0) with
  accessFlags := 1537
  interfaces := #[]
  cf := some (fileOf pool2 1 #[] #[] 1537 3 #[] #[])
  fields := #[]
  methods := #[]
  instanceTypes := #[]
  staticTypes := #[]
  resolved := Array.replicate 11 none
  statics := none }

def pool3 : Array CpInfo := pool [(1, .class_ 2), (0, u "java/lang/Comparable"), (0, .class_ 4), (0, u "java/lang/Object")] 7

/-- java/lang/Comparable -/
def k3 : Class := { plain "java/lang/Comparable" (some 0) with
  accessFlags := 1537
  interfaces := #[]
  cf := some (fileOf pool3 1 #[] #[] 1537 3 #[] #[])
  fields := #[]
  methods := #[]
  instanceTypes := #[]
  staticTypes := #[]
  resolved := Array.replicate 12 none
  statics := none }

def pool4 : Array CpInfo := pool [(1, .class_ 2), (0, u "java/io/Serializable"), (0, .class_ 4), (0, u "java/lang/Object")] 2

/-- java/io/Serializable -/
def k4 : Class := { plain "java/io/Serializable" (some 0) with
  accessFlags := 1537
  interfaces := #[]
  cf := some (fileOf pool4 1 #[] #[] 1537 3 #[] #[])
  fields := #[]
  methods := #[]
  instanceTypes := #[]
  staticTypes := #[]
  resolved := Array.replicate 7 none
  statics := none }

def pool5 : Array CpInfo := pool [(2, .class_ 4), (1, u "java/lang/Enum"), (0, u "name"), (0, u "Ljava/lang/String;"), (2, u "ordinal"), (0, u "I"), (1, .class_ 14), (1, u "java/lang/Object"), (4, u "hash"), (86, .class_ 108), (1, u "java/lang/Enum$EnumDesc"), (2, .class_ 112), (0, u "java/lang/constant/Constable"), (0, .class_ 114), (0, u "java/lang/Comparable"), (0, .class_ 116), (0, u "java/io/Serializable")] 87

/-- java/lang/Enum -/
def k5 : Class := { plain "java/lang/Enum" (some 0) with
  accessFlags := 1057
  interfaces := #[2, 3, 4]
  cf := some (fileOf pool5 2 #[.nestMembers #[106]] #[] 1057 12 #[111, 113, 115] #[{ accessFlags := 18, nameIndex := 5, descriptorIndex := 6, attributes := #[] }, { accessFlags := 18, nameIndex := 9, descriptorIndex := 10, attributes := #[] }, { accessFlags := 2, nameIndex := 19, descriptorIndex := 10, attributes := #[] }])
  fields := #[{ name := "name", type := (.object "java/lang/String"), accessFlags := 18, slot := 0, constantValue := 0 }, { name := "ordinal", type := .int, accessFlags := 18, slot := 1, constantValue := 0 }, { name := "hash", type := .int, accessFlags := 2, slot := 2, constantValue := 0 }]
  methods := #[]
  instanceTypes := #[(.object "java/lang/String"), .int, .int]
  staticTypes := #[]
  resolved := Array.replicate 204 none
  statics := none }

def pool6 : Array CpInfo := pool [(1, .class_ 2), (0, u "com/example/wepwawet/wepwawet/server/Status"), (0, .fieldref 1 4), (0, .nameAndType 5 6), (0, u "INVALID_ARGUMENT"), (0, u "Lcom/example/wepwawet/wepwawet/server/Status;"), (2, u "UNAUTHENTICATED"), (2, u "NOT_FOUND"), (2, u "ABORTED"), (0, .fieldref 1 17), (0, .nameAndType 18 6), (0, u "INTERNAL"), (2, u "UNAVAILABLE"), (0, .fieldref 1 23), (0, .nameAndType 24 25), (0, u "$VALUES"), (0, u "[Lcom/example/wepwawet/wepwawet/server/Status;"), (0, .methodref 27 28), (0, .class_ 25), (0, .nameAndType 29 30), (0, u "clone"), (0, u "()Ljava/lang/Object;"), (1, .class_ 34), (1, u "java/lang/Enum"), (6, .fieldref 1 42), (0, .nameAndType 43 44), (0, u "httpCode"), (0, u "I"), (0, .methodref 1 46), (0, .nameAndType 47 48), (0, u "values"), (0, u "()[Lcom/example/wepwawet/wepwawet/server/Status;"), (12, u "FIRST_SERVER_ERROR"), (10, u "forHttpCode"), (0, u "(I)Lcom/example/wepwawet/wepwawet/server/Status;")] 6

def k6c0 : Code := { maxStack := 1, maxLocals := 0, code := prog_29_method_1_code, exceptionTable := #[], attributes := #[] }
def k6m0 : Method := { name := "values", desc := "()[Lcom/example/wepwawet/wepwawet/server/Status;", sig := { parameters := [], returnType := some (.array (.object "com/example/wepwawet/wepwawet/server/Status")) }, accessFlags := 9, code := some k6c0 }
def k6c1 : Code := { maxStack := 2, maxLocals := 5, code := prog_29_method_5_code, exceptionTable := #[], attributes := #[] }
def k6m1 : Method := { name := "forHttpCode", desc := "(I)Lcom/example/wepwawet/wepwawet/server/Status;", sig := { parameters := [.int], returnType := some (.object "com/example/wepwawet/wepwawet/server/Status") }, accessFlags := 8, code := some k6c1 }
/-- com/example/wepwawet/wepwawet/server/Status -/
def k6 : Class := { plain "com/example/wepwawet/wepwawet/server/Status" (some 5) with
  accessFlags := 16432
  interfaces := #[]
  cf := some (fileOf pool6 1 #[] #[{ accessFlags := 9, nameIndex := 47, descriptorIndex := 48, attributes := #[] }, { accessFlags := 8, nameIndex := 72, descriptorIndex := 73, attributes := #[] }] 16432 32 #[] #[{ accessFlags := 16409, nameIndex := 5, descriptorIndex := 6, attributes := #[] }, { accessFlags := 16409, nameIndex := 9, descriptorIndex := 6, attributes := #[] }, { accessFlags := 16409, nameIndex := 12, descriptorIndex := 6, attributes := #[] }, { accessFlags := 16409, nameIndex := 15, descriptorIndex := 6, attributes := #[] }, { accessFlags := 16409, nameIndex := 18, descriptorIndex := 6, attributes := #[] }, { accessFlags := 16409, nameIndex := 21, descriptorIndex := 6, attributes := #[] }, { accessFlags := 26, nameIndex := 61, descriptorIndex := 44, attributes := #[] }, { accessFlags := 18, nameIndex := 43, descriptorIndex := 44, attributes := #[] }, { accessFlags := 4122, nameIndex := 24, descriptorIndex := 25, attributes := #[] }])
  fields := #[{ name := "INVALID_ARGUMENT", type := (.object "com/example/wepwawet/wepwawet/server/Status"), accessFlags := 16409, slot := 0, constantValue := 0 }, { name := "UNAUTHENTICATED", type := (.object "com/example/wepwawet/wepwawet/server/Status"), accessFlags := 16409, slot := 1, constantValue := 0 }, { name := "NOT_FOUND", type := (.object "com/example/wepwawet/wepwawet/server/Status"), accessFlags := 16409, slot := 2, constantValue := 0 }, { name := "ABORTED", type := (.object "com/example/wepwawet/wepwawet/server/Status"), accessFlags := 16409, slot := 3, constantValue := 0 }, { name := "INTERNAL", type := (.object "com/example/wepwawet/wepwawet/server/Status"), accessFlags := 16409, slot := 4, constantValue := 0 }, { name := "UNAVAILABLE", type := (.object "com/example/wepwawet/wepwawet/server/Status"), accessFlags := 16409, slot := 5, constantValue := 0 }, { name := "FIRST_SERVER_ERROR", type := .int, accessFlags := 26, slot := 6, constantValue := 0 }, { name := "httpCode", type := .int, accessFlags := 18, slot := 3, constantValue := 0 }, { name := "$VALUES", type := (.array (.object "com/example/wepwawet/wepwawet/server/Status")), accessFlags := 4122, slot := 7, constantValue := 0 }]
  methods := #[k6m0, k6m1]
  instanceTypes := #[(.object "java/lang/String"), .int, .int, .int]
  staticTypes := #[(.object "com/example/wepwawet/wepwawet/server/Status"), (.object "com/example/wepwawet/wepwawet/server/Status"), (.object "com/example/wepwawet/wepwawet/server/Status"), (.object "com/example/wepwawet/wepwawet/server/Status"), (.object "com/example/wepwawet/wepwawet/server/Status"), (.object "com/example/wepwawet/wepwawet/server/Status"), .int, (.array (.object "com/example/wepwawet/wepwawet/server/Status"))]
  resolved := Array.replicate 80 none
  statics := some 0 }

def pool7 : Array CpInfo := pool [(1, .class_ 2), (0, u "java/lang/Cloneable"), (0, .class_ 4), (0, u "java/lang/Object")] 2

/-- java/lang/Cloneable -/
def k7 : Class := { plain "java/lang/Cloneable" (some 0) with
  accessFlags := 1537
  interfaces := #[]
  cf := some (fileOf pool7 1 #[] #[] 1537 3 #[] #[])
  fields := #[]
  methods := #[]
  instanceTypes := #[]
  staticTypes := #[]
  resolved := Array.replicate 7 none
  statics := none }

/-- the primitive byte -/
def k8 : Class := { plain "byte" none with kind := .primitive 'B', accessFlags := 0x411 }
/-- [B -/
def k9 : Class := { plain "[B" (some 0) with kind := .array 8 .byte, interfaces := #[7, 4], accessFlags := 1041 }

/-- the primitive int -/
def k10 : Class := { plain "int" none with kind := .primitive 'I', accessFlags := 0x411 }
/-- [I -/
def k11 : Class := { plain "[I" (some 0) with kind := .array 10 .int, interfaces := #[7, 4], accessFlags := 1041 }

/-- [Lcom/example/wepwawet/wepwawet/server/Status; -/
def k12 : Class := { plain "[Lcom/example/wepwawet/wepwawet/server/Status;" (some 0) with kind := .array 6 (.object "com/example/wepwawet/wepwawet/server/Status"), interfaces := #[7, 4], accessFlags := 1041 }

def heap : Heap := #[{ cls := 6, slots := #[.ref 2, .ref 3, .ref 4, .ref 5, .ref 6, .ref 7, .int 0, .ref 1], vm := .statics 6 },
  { cls := 12, slots := #[.ref 2, .ref 3, .ref 4, .ref 5, .ref 6, .ref 7], vm := .none },
  { cls := 6, slots := #[.null, .int 0, .int 0, .int 400], vm := .none },
  { cls := 6, slots := #[.null, .int 1, .int 0, .int 401], vm := .none },
  { cls := 6, slots := #[.null, .int 2, .int 0, .int 404], vm := .none },
  { cls := 6, slots := #[.null, .int 3, .int 0, .int 409], vm := .none },
  { cls := 6, slots := #[.null, .int 4, .int 0, .int 500], vm := .none },
  { cls := 6, slots := #[.null, .int 5, .int 0, .int 503], vm := .none }]
def classes : Array Class := #[k0, k1, k2, k3, k4, k5, k6, k7, k8, k9, k10, k11, k12]
def interned : List (Array UInt16 × Addr) := []
def slotsUsed : Nat := 38
def theMethod : MethodId := ⟨1, 3⟩
def args0 : Array Value := #[.int 3, .int 77]
def aboutOver (below : List Frame) : State where
  vm := { classes := classes, interned := interned.toArray }
  heap := heap
  slotsUsed := slotsUsed
  threads := #[{ frames := .invoking theMethod args0 :: below }]
def below0 : List Frame := [.native { method := ⟨0, 0⟩, args := #[] }]
def about1 : State := aboutOver below0
def p0 : Program := .bare "" "" ""
def e0 : Env := launch0.env 0 0 0
theorem w_frames : about1.frames = Frame.invoking theMethod args0 :: below0 := rfl
set_option maxRecDepth 65536 in
theorem w_args : argsFit about1.vm theMethod args0 = true := by decide +kernel
set_option maxRecDepth 65536 in
theorem w_heap : heapFits about1 = true := by decide +kernel
set_option maxRecDepth 65536 in
theorem w_runnable : about1.curStatus? = some .runnable := by decide +kernel
set_option maxRecDepth 65536 in
theorem w_alone : about1.alone = true := by decide +kernel
set_option maxRecDepth 65536 in
theorem w_named : about1.methodNamed? x = some theMethod := by decide +kernel
set_option maxRecDepth 65536 in
theorem w_hears : about1.hears theMethod below0 = true := by decide +kernel
set_option maxRecDepth 65536 in
theorem w_ripe : about1.ripe theMethod args0 below0 = true := by decide +kernel
theorem w_running : about1.status = .running := rfl
set_option maxRecDepth 65536 in
theorem w_room : about1.hasRoom e0.platform room_1 = true :=
  launch0.hasRoom_least _ room_1 (by decide +kernel) (by decide +kernel) (by decide +kernel) (by decide +kernel) (by decide +kernel) (by decide +kernel)
theorem allAtoms_all (ts : List Jvm.Cond) (a : Array Jvm.Value) (st : Jvm.State) : (allAtoms ts).before a st = ts.all (fun c => c.before a st) := by
  induction ts with
  | nil => rfl
  | cons c t ih =>
    show (Jvm.Cond.and c (allAtoms t)).before a st = _
    rw [Jvm.Cond.before_and, ih, List.all_cons]
def words1 : List Jvm.Cond := Jvm.Cond.code x code maxLocals ret :: tables_1
/-- a 'code' word, met by the world's own term for the bytes: nothing is compared byte by byte -/
theorem code_word {y : MethodName} {bytes : ByteArray} {mx : Nat} {rt : Option FieldType} {a : Array Value} {s : State} {m : MethodId} {meth : Method} {c : Code} (h1 : s.methodNamed? y = some m) (h2 : s.vm.method? m = some meth) (h3 : meth.code = some c) (h4 : c.code = bytes)
    (h5 : (c.maxLocals == mx && c.exceptionTable.isEmpty && decide (c.maxStack ≤ mostOperands) && decide (meth.sig.returnType = rt) && !meth.locks && decide (parseMethodDescriptor y.desc = some meth.sig)) = true) : (Jvm.Cond.code y bytes mx rt).before a s = true := by
  simp only [Bool.and_eq_true, beq_iff_eq, Bool.not_eq_true', decide_eq_true_eq] at h5
  obtain ⟨⟨⟨⟨⟨g1, g2⟩, g3⟩, g4⟩, g5⟩, g6⟩ := h5
  simp [Cond.before, Cond.holds, Cond.value, h1, h2, h3, h4, g1, g2, g3, g4, g5, g6]
def isCode : Jvm.Cond → Bool
  | .code _ _ _ _ => true
  | _ => false
theorem all_split {L : List Jvm.Cond} {P : Jvm.Cond → Bool} (h1 : L.all (fun c => isCode c || P c) = true) (h2 : ∀ c ∈ L.filter isCode, P c = true) : L.all P = true := by
  refine List.all_eq_true.mpr fun c hc => ?_
  have h := List.all_eq_true.mp h1 c hc
  rcases Bool.eq_false_or_eq_true (isCode c) with hi | hi
  · exact h2 c (List.mem_filter.mpr ⟨hc, hi⟩)
  · simpa [hi] using h
set_option maxRecDepth 65536 in
theorem w_c0 : (Jvm.Cond.code x code maxLocals ret).before args0 about1 = true := code_word (m := ⟨1, 3⟩) (meth := k1m3) (c := k1c3) (by decide +kernel) rfl rfl rfl (by decide +kernel)
set_option maxRecDepth 65536 in
theorem w_c1 : (Jvm.Cond.code ({ cls := "com/example/wepwawet/wepwawet/server/StatusForHttpCodePinLaw", name := "pick", desc := "(II)I" } : Jvm.MethodName) method_3_code (3 : Nat) (Option.some Jvm.ClassFile.FieldType.int)).before args0 about1 = true := code_word (m := ⟨1, 2⟩) (meth := k1m2) (c := k1c2) (by decide +kernel) rfl rfl rfl (by decide +kernel)
set_option maxRecDepth 65536 in
theorem w_c2 : (Jvm.Cond.code ({ cls := "com/example/wepwawet/wepwawet/server/Status", name := "forHttpCode", desc := "(I)Lcom/example/wepwawet/wepwawet/server/Status;" } : Jvm.MethodName) prog_29_method_5_code (5 : Nat) (Option.some (Jvm.ClassFile.FieldType.object "com/example/wepwawet/wepwawet/server/Status"))).before args0 about1 = true := code_word (m := ⟨6, 1⟩) (meth := k6m1) (c := k6c1) (by decide +kernel) rfl rfl rfl (by decide +kernel)
set_option maxRecDepth 65536 in
theorem w_c3 : (Jvm.Cond.code ({ cls := "com/example/wepwawet/wepwawet/server/Status", name := "values", desc := "()[Lcom/example/wepwawet/wepwawet/server/Status;" } : Jvm.MethodName) prog_29_method_1_code (0 : Nat) (Option.some (Jvm.ClassFile.FieldType.array (Jvm.ClassFile.FieldType.object "com/example/wepwawet/wepwawet/server/Status")))).before args0 about1 = true := code_word (m := ⟨6, 0⟩) (meth := k6m0) (c := k6c0) (by decide +kernel) rfl rfl rfl (by decide +kernel)
set_option maxRecDepth 65536 in
theorem w_c4 : (Jvm.Cond.code ({ cls := "com/example/wepwawet/wepwawet/server/StatusForHttpCodePinLaw", name := "expected", desc := "(I)Lcom/example/wepwawet/wepwawet/server/Status;" } : Jvm.MethodName) method_2_code (1 : Nat) (Option.some (Jvm.ClassFile.FieldType.object "com/example/wepwawet/wepwawet/server/Status"))).before args0 about1 = true := code_word (m := ⟨1, 1⟩) (meth := k1m1) (c := k1c1) (by decide +kernel) rfl rfl rfl (by decide +kernel)
def codes1 : List Jvm.Cond := [Jvm.Cond.code x code maxLocals ret, Jvm.Cond.code ({ cls := "com/example/wepwawet/wepwawet/server/StatusForHttpCodePinLaw", name := "pick", desc := "(II)I" } : Jvm.MethodName) method_3_code (3 : Nat) (Option.some Jvm.ClassFile.FieldType.int), Jvm.Cond.code ({ cls := "com/example/wepwawet/wepwawet/server/Status", name := "forHttpCode", desc := "(I)Lcom/example/wepwawet/wepwawet/server/Status;" } : Jvm.MethodName) prog_29_method_5_code (5 : Nat) (Option.some (Jvm.ClassFile.FieldType.object "com/example/wepwawet/wepwawet/server/Status")), Jvm.Cond.code ({ cls := "com/example/wepwawet/wepwawet/server/Status", name := "values", desc := "()[Lcom/example/wepwawet/wepwawet/server/Status;" } : Jvm.MethodName) prog_29_method_1_code (0 : Nat) (Option.some (Jvm.ClassFile.FieldType.array (Jvm.ClassFile.FieldType.object "com/example/wepwawet/wepwawet/server/Status"))), Jvm.Cond.code ({ cls := "com/example/wepwawet/wepwawet/server/StatusForHttpCodePinLaw", name := "expected", desc := "(I)Lcom/example/wepwawet/wepwawet/server/Status;" } : Jvm.MethodName) method_2_code (1 : Nat) (Option.some (Jvm.ClassFile.FieldType.object "com/example/wepwawet/wepwawet/server/Status"))]
set_option maxRecDepth 65536 in
theorem codes_eq : words1.filter isCode = codes1 := rfl
theorem w_codes : ∀ c ∈ words1.filter isCode, c.before args0 about1 = true := by
  rw [codes_eq]
  intro c hc
  simp only [codes1, List.mem_cons, List.not_mem_nil, or_false] at hc
  rcases hc with rfl | rfl | rfl | rfl | rfl
  · exact w_c0
  · exact w_c1
  · exact w_c2
  · exact w_c3
  · exact w_c4
set_option maxRecDepth 65536 in
theorem w_t1 : (words1.take 24).all (fun c => isCode c || c.before args0 about1) = true := by decide +kernel
set_option maxRecDepth 65536 in
theorem w_t2 : (words1.drop 24).all (fun c => isCode c || c.before args0 about1) = true := by decide +kernel
theorem w_tables : (allAtoms (Jvm.Cond.code x code maxLocals ret :: tables_1)).before args0 about1 = true := by
  rw [allAtoms_all]
  show words1.all (fun c => c.before args0 about1) = true
  refine all_split ?_ w_codes
  rw [← List.take_append_drop 24 words1, List.all_append, w_t1, w_t2]
  rfl
set_option maxRecDepth 65536 in
theorem w_case : (Jvm.Cond.and given_1 narrow_1).before args0 about1 = true := by decide +kernel
theorem w_applies : (headSpec (Jvm.Cond.code x code maxLocals ret :: tables_1) room_1).applies x e0.platform about1 = true :=
  (Spec.applies_iff w_frames).mpr ⟨w_running, w_runnable, w_alone, w_named, w_hears, w_ripe, w_room, w_tables⟩
theorem atStart : AtStart classFile x code maxLocals ret World_1 tables_1 room_1 Calls_1 rest_1 Pre_1 launch0 p0 e0 about1 theMethod args0 below0 :=
  ⟨lists_1, trivial, launch0.admits_env _ _ _, launch0.least_env, fairChoices_fair.cas, fairChoices_fair.clock, w_frames, w_args, w_heap, w_applies, trivial, trivial, w_case⟩
end start1
theorem witness_1 : WitnessClaimed_1 := ⟨start1.p0, start1.e0, start1.about1, start1.theMethod, start1.args0, start1.below0, start1.atStart⟩
end Jvm.Pilot.@@N@@
