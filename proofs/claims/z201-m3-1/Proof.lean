import JvmDerived
import JvmDerived.Pilot.@@N@@Statement
import JvmDerived.Pilot.@@N@@Code
set_option linter.unusedVariables false
set_option linter.unusedSimpArgs false
namespace Jvm.RoadKit
open Sem ClassFile Op Lib Jvm.Stand Jvm.Free Jvm.LawKit
section New
variable {p : Program} {l : Launch} {e : Env} {R : Room} {s : State} {m : MethodId} {args : Array Value} {below : List Frame} {meth : Method} {c : Code} {T : State} {locs : List Loc} {cells slots : Nat}
theorem retI (X : Stand p l e R s m args below meth c T locs cells slots) (hx : p.tables.exec = Jvm.exec) {pc : Nat} {Ls : Array Slot} {z : Int32} {rest : List Value} (hret : meth.sig.returnType = some .int) (hd : decode c.code pc = .ok (.ireturn, 1)) {fs : List Frame}
    (hl : ∀ (f : JFrame) (acts : List Action), f.method = m → f.locked = none → f.entered = [] → (doReturn e (T.setTop f) acts (some (.int z))).1 = T.setFrames fs) : Steps p.tables e below (T.setTop (mkF m pc Ls (.int z :: rest))) (T.setFrames fs) := by
  have hm' : T.vm.method? m = some meth := X.method'
  have hn : narrow .int (.int z) = .int z := rfl
  show Steps p.tables e below (T.setTop { method := m, pc := pc, locals := Ls, stack := _ :: rest, locked := none }) _
  jvm_step X.here [X.here.top, hx, hd, hm', hret, hn]
  first | (intro acts; rw [hl _ acts rfl rfl rfl]) | rw [hl _ _ rfl rfl rfl]
  exact Steps.refl _
end New
end Jvm.RoadKit
namespace Jvm.Pilot.@@N@@
open Jvm Jvm.ClassFile Sem Op Lib Jvm.Free Jvm.Stand Jvm.LawKit Jvm.RoadKit Bundle Jvm.Pilot.@@N@@.Jvm.D

theorem own_fld {s : State} {args : Array Value} {t : Term} {a : Addr} {C n d : String} {k : Int32} (ht : t.eval args s none [] s = some (.ref a)) (h : (Jvm.Cond.eq (.field t C n d) (.int k)).value args s none s [] = some true) : Fld s s.heap a C n d (.int k) := by
  refine Fld.start ?_
  have e := fld_at (C := C) (n := n) (dd := d) ht
  obtain ⟨x, y, h1, h2, h3, h4⟩ := cmp_v (Or.inl h)
  obtain rfl : y = .int k := (Option.some.inj (h2.symm.trans (Term.int_eval k)))
  obtain ⟨z, rfl⟩ := h4
  rw [← e, h1]
  simp only [Cond.value, h1, h2] at h
  simpa using h
theorem own_st {s : State} {args : Array Value} {C n d K : String} (h : (Jvm.Cond.exactly (.static C n d) K).value args s none s [] = some true) (hi : (Jvm.Cond.initialized C).before args s = true) (hl : (Jvm.Cond.laysStatic C n d).before args s = true) :
    ∃ a, (Term.static C n d).eval args s none [] s = some (.ref a) ∧ Sta s s.heap C n d (.ref a) ∧ Exa s s.heap a K := by
  obtain ⟨a, ev⟩ := exa_v h
  exact ⟨a, ev, Sta.start ev (Or.inr ⟨hi, hl⟩), Exa.start ev h⟩

theorem own_rem (x n : Int32) (d : Int) (hn : n.toInt = d) : ((x &&& (2147483647 : Int32)) % n).toInt = (x.toInt % 2147483648) % d := by
  have h1 := c_mask x 2147483647 31 (by decide) (by decide)
  have h2 : (x &&& (2147483647 : Int32)).toInt = x.toInt % 2147483648 := h1
  rw [(c_irem (x &&& (2147483647 : Int32)) n d hn).1 (by omega), h2]
theorem own_i32 {x y : Int32} (h : x.toInt = y.toInt) : x = y := Int32.toInt_inj.mp h

theorem own_stk {Z : State} {h h' : Heap} {C n d : String} {v : Value} (F : Sta Z h C n d v) (K : Keep h h' []) : Sta Z h' C n d v := by
  obtain ⟨cf, i, k, f, st, cell, h1, h2, h3, h4, h5, r⟩ := F
  exact ⟨cf, i, k, f, st, cell, h1, h2, h3, h4, K.2.1 _ _ h5 List.not_mem_nil, r⟩
theorem d1_0 : decode prog_51_method_5_code 0 = .ok (.iload_n 1, 1) := by decide +kernel
theorem d1_1 : decode prog_51_method_5_code 1 = .ok (.aload_n 0, 1) := by decide +kernel
theorem d1_2 : decode prog_51_method_5_code 2 = .ok (.getfield 90, 3) := by decide +kernel
theorem d1_5 : decode prog_51_method_5_code 5 = .ok (.if_icmp .lt 7, 3) := by decide +kernel
theorem d1_12 : decode prog_51_method_5_code 12 = .ok (.iconst 0, 1) := by decide +kernel
theorem d1_13 : decode prog_51_method_5_code 13 = .ok (.ireturn, 1) := by decide +kernel
theorem pn_1 : plainName "com/example/wyrd/wyrd/protocol/ApiKey" = true := by first | (simp [plainName, overriddenIn]; done) | decide +kernel
theorem ef_1 (m : MethodId) (x0 : Addr) (x1 : Int32) : entryFrame m #[(.ref x0), (.int x1)] 2 = mkF m 0 #[.val (.ref x0), .val (.int x1)] [] := by first | (simp [entryFrame, mkF, argsToLocals, Value.category]; done) | rfl
def Q1_t (Z : State) (a1 : Addr) (p2 : Int32) (w3 : Int32) (h0 : Heap) (n0 : Nat) (v : Option Value) (h : Heap) (L : List Loc) : Prop := v = some (.int (0 : Int32)) ∧ Fr n0 L ∧ h = h0
set_option maxRecDepth 65536 in
set_option maxHeartbeats 40000000 in
theorem rm1_t (l : Launch) (Z : State) (a0 : Array Value) (hw : ∀ d ∈ tables_1, d.before a0 Z = true) (ws : List Jvm.Cond) (a1 : Addr) (p2 : Int32) (w3 : Int32) (h0 : Heap) (n0 : Nat) (Z0 : n0 ≤ h0.size) (F_firstFlexibleVersion_a1 : Fld Z h0 a1 "com/example/wyrd/wyrd/protocol/ApiKey" "firstFlexibleVersion" "S" (.int w3)) (hc5 : p2 < w3) :
    MetFree l (⟨"com/example/wyrd/wyrd/protocol/ApiKey", "isFlexible", "(S)Z"⟩ : MethodName) (head1 (Jvm.Cond.code (⟨"com/example/wyrd/wyrd/protocol/ApiKey", "isFlexible", "(S)Z"⟩ : MethodName) prog_51_method_5_code 2 (some .boolean) :: ws) ({ frames := 0, cells := 0, slots := 0, locals := 0 } : Room)) (fun a U => a = #[(.ref a1), (.int p2)] ∧ Z.Warmed39 U.vm ∧ U.heap = h0) (fun _ _ _ _ _ => True) (fun _ U o U' => ∃ v L, o = .returned v ∧ Q1_t Z a1 p2 w3 h0 n0 v U'.heap L ∧ FrameEnd U o U' L ({ frames := 0, cells := 0, slots := 0, locals := 0 } : Room).cells ({ frames := 0, cells := 0, slots := 0, locals := 0 } : Room).slots) := by
  refine MetFree.of_bodySF (plainFor_of_name pn_1) hisR ?_
  intro p e s m args below meth c s₁ Bd hml0 hP hK
  obtain ⟨rfl, hZ, hh⟩ := hP
  have hx := Bd.exec
  have hby := Bd.bytes
  have hml : c.maxLocals = 2 := hml0
  have hown : s.vm.findClass "com/example/wyrd/wyrd/protocol/ApiKey" = some m.cls := findClass_of_methodNamed Bd.named
  have hnm := (name_of_methodNamed Bd.named Bd.method).1
  have X0 : Stand p l e ({ frames := 0, cells := 0, slots := 0, locals := 0 } : Room) s m #[(.ref a1), (.int p2)] below meth c s₁ [] 0 0 := Stand.of_body Bd
  have e0 : s₁.heap = h0 := by rw [← hh, Bd.state]; rfl
  have N0 := Fr.nil n0
  have pre0 : ∀ t, Steps p.tables e below (s₁.setTop (mkF m 0 #[.val (.ref a1), .val (.int p2)] [])) t → Steps p.tables e below (s₁.setTop (entryFrame m #[(.ref a1), (.int p2)] 2)) t := fun t k => castTop (ef_1 m a1 p2) k
  obtain ⟨T4, X4, e4, st4⟩ := getF X0 hx hZ hown (host := "") (Or.inl (hw _ (List.mem_of_getElem? (i := 53) rfl))) Via.refl e0 F_firstFlexibleVersion_a1 (g := (mkF m 2 #[.val (.ref a1), .val (.int p2)] [(.ref a1), (.int p2)])) rfl rfl (hb hby d1_2)
  obtain ⟨fs, hr, hrun, hended, hW, hsame⟩ := X4.leave (v := some (.int (0 : Int32))) (fun h => by rw [Bd.returns] at h; cases h)
  refine ⟨_, _, pre0 _ ?_, hrun, hended, _, _, rfl, ?_, ⟨_, rfl⟩, hW, hsame.mono (by decide) (by decide)⟩
  · show Steps p.tables e below (s₁.setTop (mkF m 0 #[.val (.ref a1), .val (.int p2)] [])) _
    refine XS.iloadN X0.here hx rfl (hb hby d1_0) rfl ?_
    show Steps p.tables e below (s₁.setTop (mkF m 1 #[.val (.ref a1), .val (.int p2)] [(.int p2)])) _
    refine XS.aloadN X0.here hx rfl (hb hby d1_1) rfl rfl ?_
    show Steps p.tables e below (s₁.setTop (mkF m 2 #[.val (.ref a1), .val (.int p2)] [(.ref a1), (.int p2)])) _
    refine st4 _ ?_
    show Steps p.tables e below (T4.setTop (mkF m 5 #[.val (.ref a1), .val (.int p2)] [(.int w3), (.int p2)])) _
    refine XS.icmpYes X4.here hx rfl (pc0 := 5) (pc' := 12) rfl (hb hby d1_5) rfl (tlt hc5).1 (by decide) (by decide) ?_
    show Steps p.tables e below (T4.setTop (mkF m 12 #[.val (.ref a1), .val (.int p2)] [])) _
    refine XS.iconst X4.here hx rfl (hb hby d1_12) ?_
    show Steps p.tables e below (T4.setTop (mkF m 13 #[.val (.ref a1), .val (.int p2)] [(.int (0 : Int32))])) _
    exact retN X4 hx (t := .boolean) Bd.returns (by simp) (hb hby d1_13) hr
  · show Q1_t Z a1 p2 w3 h0 n0 _ T4.heap _
    rw [e4]
    exact ⟨rfl, N0, rfl⟩
theorem d1_8 : decode prog_51_method_5_code 8 = .ok (.iconst 1, 1) := by decide +kernel
theorem d1_9 : decode prog_51_method_5_code 9 = .ok (.goto 4, 3) := by decide +kernel
def Q1_f (Z : State) (a1 : Addr) (p2 : Int32) (w3 : Int32) (h0 : Heap) (n0 : Nat) (v : Option Value) (h : Heap) (L : List Loc) : Prop := v = some (.int (1 : Int32)) ∧ Fr n0 L ∧ h = h0
set_option maxRecDepth 65536 in
set_option maxHeartbeats 40000000 in
theorem rm1_f (l : Launch) (Z : State) (a0 : Array Value) (hw : ∀ d ∈ tables_1, d.before a0 Z = true) (ws : List Jvm.Cond) (a1 : Addr) (p2 : Int32) (w3 : Int32) (h0 : Heap) (n0 : Nat) (Z0 : n0 ≤ h0.size) (F_firstFlexibleVersion_a1 : Fld Z h0 a1 "com/example/wyrd/wyrd/protocol/ApiKey" "firstFlexibleVersion" "S" (.int w3)) (hc5 : ¬ (p2 < w3)) :
    MetFree l (⟨"com/example/wyrd/wyrd/protocol/ApiKey", "isFlexible", "(S)Z"⟩ : MethodName) (head1 (Jvm.Cond.code (⟨"com/example/wyrd/wyrd/protocol/ApiKey", "isFlexible", "(S)Z"⟩ : MethodName) prog_51_method_5_code 2 (some .boolean) :: ws) ({ frames := 0, cells := 0, slots := 0, locals := 0 } : Room)) (fun a U => a = #[(.ref a1), (.int p2)] ∧ Z.Warmed39 U.vm ∧ U.heap = h0) (fun _ _ _ _ _ => True) (fun _ U o U' => ∃ v L, o = .returned v ∧ Q1_f Z a1 p2 w3 h0 n0 v U'.heap L ∧ FrameEnd U o U' L ({ frames := 0, cells := 0, slots := 0, locals := 0 } : Room).cells ({ frames := 0, cells := 0, slots := 0, locals := 0 } : Room).slots) := by
  refine MetFree.of_bodySF (plainFor_of_name pn_1) hisR ?_
  intro p e s m args below meth c s₁ Bd hml0 hP hK
  obtain ⟨rfl, hZ, hh⟩ := hP
  have hx := Bd.exec
  have hby := Bd.bytes
  have hml : c.maxLocals = 2 := hml0
  have hown : s.vm.findClass "com/example/wyrd/wyrd/protocol/ApiKey" = some m.cls := findClass_of_methodNamed Bd.named
  have hnm := (name_of_methodNamed Bd.named Bd.method).1
  have X0 : Stand p l e ({ frames := 0, cells := 0, slots := 0, locals := 0 } : Room) s m #[(.ref a1), (.int p2)] below meth c s₁ [] 0 0 := Stand.of_body Bd
  have e0 : s₁.heap = h0 := by rw [← hh, Bd.state]; rfl
  have N0 := Fr.nil n0
  have pre0 : ∀ t, Steps p.tables e below (s₁.setTop (mkF m 0 #[.val (.ref a1), .val (.int p2)] [])) t → Steps p.tables e below (s₁.setTop (entryFrame m #[(.ref a1), (.int p2)] 2)) t := fun t k => castTop (ef_1 m a1 p2) k
  obtain ⟨T4, X4, e4, st4⟩ := getF X0 hx hZ hown (host := "") (Or.inl (hw _ (List.mem_of_getElem? (i := 53) rfl))) Via.refl e0 F_firstFlexibleVersion_a1 (g := (mkF m 2 #[.val (.ref a1), .val (.int p2)] [(.ref a1), (.int p2)])) rfl rfl (hb hby d1_2)
  obtain ⟨fs, hr, hrun, hended, hW, hsame⟩ := X4.leave (v := some (.int (1 : Int32))) (fun h => by rw [Bd.returns] at h; cases h)
  refine ⟨_, _, pre0 _ ?_, hrun, hended, _, _, rfl, ?_, ⟨_, rfl⟩, hW, hsame.mono (by decide) (by decide)⟩
  · show Steps p.tables e below (s₁.setTop (mkF m 0 #[.val (.ref a1), .val (.int p2)] [])) _
    refine XS.iloadN X0.here hx rfl (hb hby d1_0) rfl ?_
    show Steps p.tables e below (s₁.setTop (mkF m 1 #[.val (.ref a1), .val (.int p2)] [(.int p2)])) _
    refine XS.aloadN X0.here hx rfl (hb hby d1_1) rfl rfl ?_
    show Steps p.tables e below (s₁.setTop (mkF m 2 #[.val (.ref a1), .val (.int p2)] [(.ref a1), (.int p2)])) _
    refine st4 _ ?_
    show Steps p.tables e below (T4.setTop (mkF m 5 #[.val (.ref a1), .val (.int p2)] [(.int w3), (.int p2)])) _
    refine XS.icmpNo X4.here hx rfl (hb hby d1_5) rfl (flt hc5).1 ?_
    show Steps p.tables e below (T4.setTop (mkF m 8 #[.val (.ref a1), .val (.int p2)] [])) _
    refine XS.iconst X4.here hx rfl (hb hby d1_8) ?_
    show Steps p.tables e below (T4.setTop (mkF m 9 #[.val (.ref a1), .val (.int p2)] [(.int (1 : Int32))])) _
    refine XS.goto X4.here hx rfl (pc0 := 9) (pc' := 13) rfl (hb hby d1_9) (by decide) (by decide) ?_
    show Steps p.tables e below (T4.setTop (mkF m 13 #[.val (.ref a1), .val (.int p2)] [(.int (1 : Int32))])) _
    exact retN X4 hx (t := .boolean) Bd.returns (by simp) (hb hby d1_13) hr
  · show Q1_f Z a1 p2 w3 h0 n0 _ T4.heap _
    rw [e4]
    exact ⟨rfl, N0, rfl⟩
theorem pn_0 : plainName "com/example/wyrd/wyrd/protocol/ApiKeyIsFlexiblePinLaw" = true := by first | (simp [plainName, overriddenIn]; done) | decide +kernel
theorem pd_0_0 : parseMethodDescriptor "(S)Z" = some ⟨[.short], some .boolean⟩ := by decide +kernel
theorem ef_0 (m : MethodId) (x0 : Int32) (x1 : Int32) : entryFrame m #[(.int x0), (.int x1)] maxLocals = mkF m 0 #[.val (.int x0), .val (.int x1), .unset, .unset, .unset, .unset, .unset] [] := by first | (simp [entryFrame, mkF, argsToLocals, Value.category, maxLocals]; done) | rfl
def Q0 (Z : State) (p1 : Int32) (p2 : Int32) (w4 : Addr) (w7 : Addr) (w10 : Addr) (w13 : Addr) (w16 : Addr) (w19 : Addr) (w22 : Addr) (w25 : Addr) (w28 : Addr) (w31 : Addr) (w34 : Addr) (w37 : Addr) (w40 : Addr) (w43 : Addr) (w46 : Addr) (w49 : Addr) (w52 : Addr) (w55 : Addr) (w58 : Addr) (w61 : Addr) (w64 : Addr) (w89 : Int32) (w90 : Addr) (h0 : Heap) (n0 : Nat) (v : Option Value) (h : Heap) (L : List Loc) : Prop := v = some (.int (1 : Int32)) ∧ Fr n0 L
set_option maxRecDepth 65536 in
set_option maxHeartbeats 40000000 in
theorem rm0_ff (l : Launch) (Z : State) (a0 : Array Value) (hw : ∀ d ∈ tables_1, d.before a0 Z = true) (ws : List Jvm.Cond) (p1 : Int32) (p2 : Int32) (w4 : Addr) (w7 : Addr) (w10 : Addr) (w13 : Addr) (w16 : Addr) (w19 : Addr) (w22 : Addr) (w25 : Addr) (w28 : Addr) (w31 : Addr) (w34 : Addr) (w37 : Addr) (w40 : Addr) (w43 : Addr) (w46 : Addr) (w49 : Addr) (w52 : Addr) (w55 : Addr) (w58 : Addr) (w61 : Addr) (w64 : Addr) (w89 : Int32) (w90 : Addr) (h0 : Heap) (n0 : Nat) (Z0 : n0 ≤ h0.size) (Fk : Fld Z h0 w90 "com/example/wyrd/wyrd/protocol/ApiKey" "firstFlexibleVersion" "S" (.int w89)) (S_PRODUCE : Sta Z h0 "com/example/wyrd/wyrd/protocol/ApiKey" "PRODUCE" "Lcom/example/wyrd/wyrd/protocol/ApiKey;" (.ref w4)) (E_w4 : Exa Z h0 w4 "com/example/wyrd/wyrd/protocol/ApiKey") (S_FETCH : Sta Z h0 "com/example/wyrd/wyrd/protocol/ApiKey" "FETCH" "Lcom/example/wyrd/wyrd/protocol/ApiKey;" (.ref w7)) (E_w7 : Exa Z h0 w7 "com/example/wyrd/wyrd/protocol/ApiKey") (S_LIST_OFFSETS : Sta Z h0 "com/example/wyrd/wyrd/protocol/ApiKey" "LIST_OFFSETS" "Lcom/example/wyrd/wyrd/protocol/ApiKey;" (.ref w10)) (E_w10 : Exa Z h0 w10 "com/example/wyrd/wyrd/protocol/ApiKey") (S_METADATA : Sta Z h0 "com/example/wyrd/wyrd/protocol/ApiKey" "METADATA" "Lcom/example/wyrd/wyrd/protocol/ApiKey;" (.ref w13)) (E_w13 : Exa Z h0 w13 "com/example/wyrd/wyrd/protocol/ApiKey") (S_OFFSET_COMMIT : Sta Z h0 "com/example/wyrd/wyrd/protocol/ApiKey" "OFFSET_COMMIT" "Lcom/example/wyrd/wyrd/protocol/ApiKey;" (.ref w16)) (E_w16 : Exa Z h0 w16 "com/example/wyrd/wyrd/protocol/ApiKey") (S_OFFSET_FETCH : Sta Z h0 "com/example/wyrd/wyrd/protocol/ApiKey" "OFFSET_FETCH" "Lcom/example/wyrd/wyrd/protocol/ApiKey;" (.ref w19)) (E_w19 : Exa Z h0 w19 "com/example/wyrd/wyrd/protocol/ApiKey") (S_FIND_COORDINATOR : Sta Z h0 "com/example/wyrd/wyrd/protocol/ApiKey" "FIND_COORDINATOR" "Lcom/example/wyrd/wyrd/protocol/ApiKey;" (.ref w22)) (E_w22 : Exa Z h0 w22 "com/example/wyrd/wyrd/protocol/ApiKey") (S_JOIN_GROUP : Sta Z h0 "com/example/wyrd/wyrd/protocol/ApiKey" "JOIN_GROUP" "Lcom/example/wyrd/wyrd/protocol/ApiKey;" (.ref w25)) (E_w25 : Exa Z h0 w25 "com/example/wyrd/wyrd/protocol/ApiKey") (S_HEARTBEAT : Sta Z h0 "com/example/wyrd/wyrd/protocol/ApiKey" "HEARTBEAT" "Lcom/example/wyrd/wyrd/protocol/ApiKey;" (.ref w28)) (E_w28 : Exa Z h0 w28 "com/example/wyrd/wyrd/protocol/ApiKey") (S_LEAVE_GROUP : Sta Z h0 "com/example/wyrd/wyrd/protocol/ApiKey" "LEAVE_GROUP" "Lcom/example/wyrd/wyrd/protocol/ApiKey;" (.ref w31)) (E_w31 : Exa Z h0 w31 "com/example/wyrd/wyrd/protocol/ApiKey") (S_SYNC_GROUP : Sta Z h0 "com/example/wyrd/wyrd/protocol/ApiKey" "SYNC_GROUP" "Lcom/example/wyrd/wyrd/protocol/ApiKey;" (.ref w34)) (E_w34 : Exa Z h0 w34 "com/example/wyrd/wyrd/protocol/ApiKey") (S_DESCRIBE_GROUPS : Sta Z h0 "com/example/wyrd/wyrd/protocol/ApiKey" "DESCRIBE_GROUPS" "Lcom/example/wyrd/wyrd/protocol/ApiKey;" (.ref w37)) (E_w37 : Exa Z h0 w37 "com/example/wyrd/wyrd/protocol/ApiKey") (S_LIST_GROUPS : Sta Z h0 "com/example/wyrd/wyrd/protocol/ApiKey" "LIST_GROUPS" "Lcom/example/wyrd/wyrd/protocol/ApiKey;" (.ref w40)) (E_w40 : Exa Z h0 w40 "com/example/wyrd/wyrd/protocol/ApiKey") (S_API_VERSIONS : Sta Z h0 "com/example/wyrd/wyrd/protocol/ApiKey" "API_VERSIONS" "Lcom/example/wyrd/wyrd/protocol/ApiKey;" (.ref w43)) (E_w43 : Exa Z h0 w43 "com/example/wyrd/wyrd/protocol/ApiKey") (S_CREATE_TOPICS : Sta Z h0 "com/example/wyrd/wyrd/protocol/ApiKey" "CREATE_TOPICS" "Lcom/example/wyrd/wyrd/protocol/ApiKey;" (.ref w46)) (E_w46 : Exa Z h0 w46 "com/example/wyrd/wyrd/protocol/ApiKey") (S_DELETE_TOPICS : Sta Z h0 "com/example/wyrd/wyrd/protocol/ApiKey" "DELETE_TOPICS" "Lcom/example/wyrd/wyrd/protocol/ApiKey;" (.ref w49)) (E_w49 : Exa Z h0 w49 "com/example/wyrd/wyrd/protocol/ApiKey") (S_INIT_PRODUCER_ID : Sta Z h0 "com/example/wyrd/wyrd/protocol/ApiKey" "INIT_PRODUCER_ID" "Lcom/example/wyrd/wyrd/protocol/ApiKey;" (.ref w52)) (E_w52 : Exa Z h0 w52 "com/example/wyrd/wyrd/protocol/ApiKey") (S_DESCRIBE_CONFIGS : Sta Z h0 "com/example/wyrd/wyrd/protocol/ApiKey" "DESCRIBE_CONFIGS" "Lcom/example/wyrd/wyrd/protocol/ApiKey;" (.ref w55)) (E_w55 : Exa Z h0 w55 "com/example/wyrd/wyrd/protocol/ApiKey") (S_ALTER_CONFIGS : Sta Z h0 "com/example/wyrd/wyrd/protocol/ApiKey" "ALTER_CONFIGS" "Lcom/example/wyrd/wyrd/protocol/ApiKey;" (.ref w58)) (E_w58 : Exa Z h0 w58 "com/example/wyrd/wyrd/protocol/ApiKey") (S_CREATE_PARTITIONS : Sta Z h0 "com/example/wyrd/wyrd/protocol/ApiKey" "CREATE_PARTITIONS" "Lcom/example/wyrd/wyrd/protocol/ApiKey;" (.ref w61)) (E_w61 : Exa Z h0 w61 "com/example/wyrd/wyrd/protocol/ApiKey") (S_INCREMENTAL_ALTER_CONFIGS : Sta Z h0 "com/example/wyrd/wyrd/protocol/ApiKey" "INCREMENTAL_ALTER_CONFIGS" "Lcom/example/wyrd/wyrd/protocol/ApiKey;" (.ref w64)) (E_w64 : Exa Z h0 w64 "com/example/wyrd/wyrd/protocol/ApiKey") (E_w90 : Exa Z h0 w90 "com/example/wyrd/wyrd/protocol/ApiKey") (hn276 : ¬ (((p1 &&& (2147483647 : Int32)) % (21 : Int32)) < 0)) (hl276 : ((p1 &&& (2147483647 : Int32)) % (21 : Int32)) < (21 : Int32)) (hv276 : ([(.int (9 : Int32)), (.int (12 : Int32)), (.int (6 : Int32)), (.int (9 : Int32)), (.int (8 : Int32)), (.int (6 : Int32)), (.int (3 : Int32)), (.int (6 : Int32)), (.int (4 : Int32)), (.int (4 : Int32)), (.int (4 : Int32)), (.int (5 : Int32)), (.int (3 : Int32)), (.int (3 : Int32)), (.int (5 : Int32)), (.int (4 : Int32)), (.int (2 : Int32)), (.int (4 : Int32)), (.int (2 : Int32)), (.int (2 : Int32)), (.int (1 : Int32))] : List Value).getD (((p1 &&& (2147483647 : Int32)) % (21 : Int32))).toNatClampNeg (.int (0 : Int32)) = (.int w89)) (hc277 : ¬ ((p2.toInt16.toInt32) < w89)) (hn290 : ¬ (((p1 &&& (2147483647 : Int32)) % (21 : Int32)) < 0)) (hl290 : ((p1 &&& (2147483647 : Int32)) % (21 : Int32)) < (21 : Int32)) (hv290 : ([(.ref w4), (.ref w7), (.ref w10), (.ref w13), (.ref w16), (.ref w19), (.ref w22), (.ref w25), (.ref w28), (.ref w31), (.ref w34), (.ref w37), (.ref w40), (.ref w43), (.ref w46), (.ref w49), (.ref w52), (.ref w55), (.ref w58), (.ref w61), (.ref w64)] : List Value).getD (((p1 &&& (2147483647 : Int32)) % (21 : Int32))).toNatClampNeg .null = (.ref w90)) :
    MetFree l x (head1 (Jvm.Cond.code x code maxLocals ret :: ws) room_1) (fun a U => a = #[(.int p1), (.int p2)] ∧ Z.Warmed39 U.vm ∧ U.heap = h0) (fun _ _ _ _ _ => True) (fun _ U o U' => ∃ v L, o = .returned v ∧ Q0 Z p1 p2 w4 w7 w10 w13 w16 w19 w22 w25 w28 w31 w34 w37 w40 w43 w46 w49 w52 w55 w58 w61 w64 w89 w90 h0 n0 v U'.heap L ∧ FrameEnd U o U' L room_1.cells room_1.slots) := by
  refine MetFree.of_bodySF (plainFor_of_name pn_0) hisR ?_
  intro p e s m args below meth c s₁ Bd hml0 hP hK
  obtain ⟨rfl, hZ, hh⟩ := hP
  have hx := Bd.exec
  have hby := Bd.bytes
  have hml : c.maxLocals = 7 := hml0
  have hown : s.vm.findClass "com/example/wyrd/wyrd/protocol/ApiKeyIsFlexiblePinLaw" = some m.cls := findClass_of_methodNamed Bd.named
  have hnm := (name_of_methodNamed Bd.named Bd.method).1
  have X0 : Stand p l e room_1 s m #[(.int p1), (.int p2)] below meth c s₁ [] 0 0 := Stand.of_body Bd
  have e0 : s₁.heap = h0 := by rw [← hh, Bd.state]; rfl
  have N0 := Fr.nil n0
  have pre0 : ∀ t, Steps p.tables e below (s₁.setTop (mkF m 0 #[.val (.int p1), .val (.int p2), .unset, .unset, .unset, .unset, .unset] [])) t → Steps p.tables e below (s₁.setTop (entryFrame m #[(.int p1), (.int p2)] maxLocals)) t := fun t k => castTop (ef_0 m p1 p2) k
  obtain ⟨T3, h3, k3, X3, e3, E3, A3, O3, st3⟩ := newR X0 hx hZ hown (hw _ (List.mem_of_getElem? (i := 0) rfl)) (hw _ (List.mem_of_getElem? (i := 1) rfl)) e0 (g := (mkF m 2 #[.val (.int p1), .val (.int p2), .unset, .unset, .unset, .unset, .unset] [(.int (21 : Int32))])) rfl (hb hby at_2) rfl (by decide) (cap := 21) (by decide) (by decide) (by decide) (by decide)
  obtain ⟨b3, g3⟩ : ∃ z, z = h0.size := ⟨_, rfl⟩
  rw [← g3] at A3 st3
  have V_b3 : Arv Z h3 b3 k3 (.object "com/example/wyrd/wyrd/protocol/ApiKey") (21 : Int32) [.null, .null, .null, .null, .null, .null, .null, .null, .null, .null, .null, .null, .null, .null, .null, .null, .null, .null, .null, .null, .null] .null := (Arv.new A3 (by decide)).pad (pad_rep [] .null 21)
  have g_b3 : n0 ≤ b3 := Nat.le_trans Z0 (Nat.le_of_eq g3.symm)
  have sz_b3 : h0.size ≤ b3 := (Nat.le_trans (Keep.refl h0 []).1 (Nat.le_of_eq g3.symm))
  have K3 : Keep h0 h3 [] := (Keep.refl h0 []).ext E3
  obtain ⟨T5, X5, e5, st5⟩ := getS2 X3 hx hZ hown (host := "") (Or.inl (hw _ (List.mem_of_getElem? (i := 2) rfl))) Via.refl e3 (own_stk S_PRODUCE K3) (g := (mkF m 7 #[.val (.int p1), .val (.int p2), .unset, .unset, .unset, .unset, .unset] [(.int (0 : Int32)), (.ref b3), (.ref b3)])) rfl (hb hby at_7)
  obtain ⟨cl_b3_10, Ar_b3, q_b3, S_b3, N_b3, H_b3, G_b3⟩ := V_b3
  have hin10 : ¬ ((0 : Int32) < 0 ∨ cl_b3_10.slots.size ≤ ((0 : Int32)).toNatClampNeg) := inb_of S_b3 ⟨by decide, by decide⟩
  obtain ⟨T6, h6, X6, e6, W6, st6⟩ := stR X5 hx hZ e5 Ar_b3 (j := (0 : Int32)) hin10 rfl (Sto.ofV Ar_b3 q_b3 O3 (Ins.self (E_w4.keep K3))) (g := (mkF m 10 #[.val (.int p1), .val (.int p2), .unset, .unset, .unset, .unset, .unset] [(.ref w4), (.int (0 : Int32)), (.ref b3), (.ref b3)])) rfl rfl (hb hby at_10)
  have V_b3_6 : Arv Z h6 b3 k3 (.object "com/example/wyrd/wyrd/protocol/ApiKey") (21 : Int32) [(.ref w4), .null, .null, .null, .null, .null, .null, .null, .null, .null, .null, .null, .null, .null, .null, .null, .null, .null, .null, .null, .null] .null := Arv.set Ar_b3 q_b3 S_b3 N_b3 H_b3 G_b3 rfl W6 0 rfl (Nat.le_of_ble_eq_true rfl)
  have N6 := Fr.snoc X6 N0 g_b3
  have K6 : Keep h0 h6 [] := K3.wr W6 (Or.inr sz_b3)
  obtain ⟨T8, X8, e8, st8⟩ := getS2 X6 hx hZ hown (host := "") (Or.inl (hw _ (List.mem_of_getElem? (i := 6) rfl))) Via.refl e6 (own_stk S_FETCH K6) (g := (mkF m 13 #[.val (.int p1), .val (.int p2), .unset, .unset, .unset, .unset, .unset] [(.int (1 : Int32)), (.ref b3), (.ref b3)])) rfl (hb hby at_13)
  obtain ⟨cl_b3_16, Ar_b3, q_b3, S_b3, N_b3, H_b3, G_b3⟩ := V_b3_6
  have hin16 : ¬ ((1 : Int32) < 0 ∨ cl_b3_16.slots.size ≤ ((1 : Int32)).toNatClampNeg) := inb_of S_b3 ⟨by decide, by decide⟩
  obtain ⟨T9, h9, X9, e9, W9, st9⟩ := stR X8 hx hZ e8 Ar_b3 (j := (1 : Int32)) hin16 rfl (Sto.ofV Ar_b3 q_b3 O3 (Ins.self (E_w7.keep K6))) (g := (mkF m 16 #[.val (.int p1), .val (.int p2), .unset, .unset, .unset, .unset, .unset] [(.ref w7), (.int (1 : Int32)), (.ref b3), (.ref b3)])) rfl rfl (hb hby at_16)
  have V_b3_9 : Arv Z h9 b3 k3 (.object "com/example/wyrd/wyrd/protocol/ApiKey") (21 : Int32) [(.ref w4), (.ref w7), .null, .null, .null, .null, .null, .null, .null, .null, .null, .null, .null, .null, .null, .null, .null, .null, .null, .null, .null] .null := Arv.set Ar_b3 q_b3 S_b3 N_b3 H_b3 G_b3 rfl W9 1 rfl (Nat.le_of_ble_eq_true rfl)
  have N9 := Fr.snoc X9 N6 g_b3
  have K9 : Keep h0 h9 [] := K6.wr W9 (Or.inr sz_b3)
  obtain ⟨T11, X11, e11, st11⟩ := getS2 X9 hx hZ hown (host := "") (Or.inl (hw _ (List.mem_of_getElem? (i := 8) rfl))) Via.refl e9 (own_stk S_LIST_OFFSETS K9) (g := (mkF m 19 #[.val (.int p1), .val (.int p2), .unset, .unset, .unset, .unset, .unset] [(.int (2 : Int32)), (.ref b3), (.ref b3)])) rfl (hb hby at_19)
  obtain ⟨cl_b3_22, Ar_b3, q_b3, S_b3, N_b3, H_b3, G_b3⟩ := V_b3_9
  have hin22 : ¬ ((2 : Int32) < 0 ∨ cl_b3_22.slots.size ≤ ((2 : Int32)).toNatClampNeg) := inb_of S_b3 ⟨by decide, by decide⟩
  obtain ⟨T12, h12, X12, e12, W12, st12⟩ := stR X11 hx hZ e11 Ar_b3 (j := (2 : Int32)) hin22 rfl (Sto.ofV Ar_b3 q_b3 O3 (Ins.self (E_w10.keep K9))) (g := (mkF m 22 #[.val (.int p1), .val (.int p2), .unset, .unset, .unset, .unset, .unset] [(.ref w10), (.int (2 : Int32)), (.ref b3), (.ref b3)])) rfl rfl (hb hby at_22)
  have V_b3_12 : Arv Z h12 b3 k3 (.object "com/example/wyrd/wyrd/protocol/ApiKey") (21 : Int32) [(.ref w4), (.ref w7), (.ref w10), .null, .null, .null, .null, .null, .null, .null, .null, .null, .null, .null, .null, .null, .null, .null, .null, .null, .null] .null := Arv.set Ar_b3 q_b3 S_b3 N_b3 H_b3 G_b3 rfl W12 2 rfl (Nat.le_of_ble_eq_true rfl)
  have N12 := Fr.snoc X12 N9 g_b3
  have K12 : Keep h0 h12 [] := K9.wr W12 (Or.inr sz_b3)
  obtain ⟨T14, X14, e14, st14⟩ := getS2 X12 hx hZ hown (host := "") (Or.inl (hw _ (List.mem_of_getElem? (i := 10) rfl))) Via.refl e12 (own_stk S_METADATA K12) (g := (mkF m 25 #[.val (.int p1), .val (.int p2), .unset, .unset, .unset, .unset, .unset] [(.int (3 : Int32)), (.ref b3), (.ref b3)])) rfl (hb hby at_25)
  obtain ⟨cl_b3_28, Ar_b3, q_b3, S_b3, N_b3, H_b3, G_b3⟩ := V_b3_12
  have hin28 : ¬ ((3 : Int32) < 0 ∨ cl_b3_28.slots.size ≤ ((3 : Int32)).toNatClampNeg) := inb_of S_b3 ⟨by decide, by decide⟩
  obtain ⟨T15, h15, X15, e15, W15, st15⟩ := stR X14 hx hZ e14 Ar_b3 (j := (3 : Int32)) hin28 rfl (Sto.ofV Ar_b3 q_b3 O3 (Ins.self (E_w13.keep K12))) (g := (mkF m 28 #[.val (.int p1), .val (.int p2), .unset, .unset, .unset, .unset, .unset] [(.ref w13), (.int (3 : Int32)), (.ref b3), (.ref b3)])) rfl rfl (hb hby at_28)
  have V_b3_15 : Arv Z h15 b3 k3 (.object "com/example/wyrd/wyrd/protocol/ApiKey") (21 : Int32) [(.ref w4), (.ref w7), (.ref w10), (.ref w13), .null, .null, .null, .null, .null, .null, .null, .null, .null, .null, .null, .null, .null, .null, .null, .null, .null] .null := Arv.set Ar_b3 q_b3 S_b3 N_b3 H_b3 G_b3 rfl W15 3 rfl (Nat.le_of_ble_eq_true rfl)
  have N15 := Fr.snoc X15 N12 g_b3
  have K15 : Keep h0 h15 [] := K12.wr W15 (Or.inr sz_b3)
  obtain ⟨T17, X17, e17, st17⟩ := getS2 X15 hx hZ hown (host := "") (Or.inl (hw _ (List.mem_of_getElem? (i := 12) rfl))) Via.refl e15 (own_stk S_OFFSET_COMMIT K15) (g := (mkF m 31 #[.val (.int p1), .val (.int p2), .unset, .unset, .unset, .unset, .unset] [(.int (4 : Int32)), (.ref b3), (.ref b3)])) rfl (hb hby at_31)
  obtain ⟨cl_b3_34, Ar_b3, q_b3, S_b3, N_b3, H_b3, G_b3⟩ := V_b3_15
  have hin34 : ¬ ((4 : Int32) < 0 ∨ cl_b3_34.slots.size ≤ ((4 : Int32)).toNatClampNeg) := inb_of S_b3 ⟨by decide, by decide⟩
  obtain ⟨T18, h18, X18, e18, W18, st18⟩ := stR X17 hx hZ e17 Ar_b3 (j := (4 : Int32)) hin34 rfl (Sto.ofV Ar_b3 q_b3 O3 (Ins.self (E_w16.keep K15))) (g := (mkF m 34 #[.val (.int p1), .val (.int p2), .unset, .unset, .unset, .unset, .unset] [(.ref w16), (.int (4 : Int32)), (.ref b3), (.ref b3)])) rfl rfl (hb hby at_34)
  have V_b3_18 : Arv Z h18 b3 k3 (.object "com/example/wyrd/wyrd/protocol/ApiKey") (21 : Int32) [(.ref w4), (.ref w7), (.ref w10), (.ref w13), (.ref w16), .null, .null, .null, .null, .null, .null, .null, .null, .null, .null, .null, .null, .null, .null, .null, .null] .null := Arv.set Ar_b3 q_b3 S_b3 N_b3 H_b3 G_b3 rfl W18 4 rfl (Nat.le_of_ble_eq_true rfl)
  have N18 := Fr.snoc X18 N15 g_b3
  have K18 : Keep h0 h18 [] := K15.wr W18 (Or.inr sz_b3)
  obtain ⟨T20, X20, e20, st20⟩ := getS2 X18 hx hZ hown (host := "") (Or.inl (hw _ (List.mem_of_getElem? (i := 14) rfl))) Via.refl e18 (own_stk S_OFFSET_FETCH K18) (g := (mkF m 37 #[.val (.int p1), .val (.int p2), .unset, .unset, .unset, .unset, .unset] [(.int (5 : Int32)), (.ref b3), (.ref b3)])) rfl (hb hby at_37)
  obtain ⟨cl_b3_40, Ar_b3, q_b3, S_b3, N_b3, H_b3, G_b3⟩ := V_b3_18
  have hin40 : ¬ ((5 : Int32) < 0 ∨ cl_b3_40.slots.size ≤ ((5 : Int32)).toNatClampNeg) := inb_of S_b3 ⟨by decide, by decide⟩
  obtain ⟨T21, h21, X21, e21, W21, st21⟩ := stR X20 hx hZ e20 Ar_b3 (j := (5 : Int32)) hin40 rfl (Sto.ofV Ar_b3 q_b3 O3 (Ins.self (E_w19.keep K18))) (g := (mkF m 40 #[.val (.int p1), .val (.int p2), .unset, .unset, .unset, .unset, .unset] [(.ref w19), (.int (5 : Int32)), (.ref b3), (.ref b3)])) rfl rfl (hb hby at_40)
  have V_b3_21 : Arv Z h21 b3 k3 (.object "com/example/wyrd/wyrd/protocol/ApiKey") (21 : Int32) [(.ref w4), (.ref w7), (.ref w10), (.ref w13), (.ref w16), (.ref w19), .null, .null, .null, .null, .null, .null, .null, .null, .null, .null, .null, .null, .null, .null, .null] .null := Arv.set Ar_b3 q_b3 S_b3 N_b3 H_b3 G_b3 rfl W21 5 rfl (Nat.le_of_ble_eq_true rfl)
  have N21 := Fr.snoc X21 N18 g_b3
  have K21 : Keep h0 h21 [] := K18.wr W21 (Or.inr sz_b3)
  obtain ⟨T23, X23, e23, st23⟩ := getS2 X21 hx hZ hown (host := "") (Or.inl (hw _ (List.mem_of_getElem? (i := 16) rfl))) Via.refl e21 (own_stk S_FIND_COORDINATOR K21) (g := (mkF m 44 #[.val (.int p1), .val (.int p2), .unset, .unset, .unset, .unset, .unset] [(.int (6 : Int32)), (.ref b3), (.ref b3)])) rfl (hb hby at_44)
  obtain ⟨cl_b3_47, Ar_b3, q_b3, S_b3, N_b3, H_b3, G_b3⟩ := V_b3_21
  have hin47 : ¬ ((6 : Int32) < 0 ∨ cl_b3_47.slots.size ≤ ((6 : Int32)).toNatClampNeg) := inb_of S_b3 ⟨by decide, by decide⟩
  obtain ⟨T24, h24, X24, e24, W24, st24⟩ := stR X23 hx hZ e23 Ar_b3 (j := (6 : Int32)) hin47 rfl (Sto.ofV Ar_b3 q_b3 O3 (Ins.self (E_w22.keep K21))) (g := (mkF m 47 #[.val (.int p1), .val (.int p2), .unset, .unset, .unset, .unset, .unset] [(.ref w22), (.int (6 : Int32)), (.ref b3), (.ref b3)])) rfl rfl (hb hby at_47)
  have V_b3_24 : Arv Z h24 b3 k3 (.object "com/example/wyrd/wyrd/protocol/ApiKey") (21 : Int32) [(.ref w4), (.ref w7), (.ref w10), (.ref w13), (.ref w16), (.ref w19), (.ref w22), .null, .null, .null, .null, .null, .null, .null, .null, .null, .null, .null, .null, .null, .null] .null := Arv.set Ar_b3 q_b3 S_b3 N_b3 H_b3 G_b3 rfl W24 6 rfl (Nat.le_of_ble_eq_true rfl)
  have N24 := Fr.snoc X24 N21 g_b3
  have K24 : Keep h0 h24 [] := K21.wr W24 (Or.inr sz_b3)
  obtain ⟨T26, X26, e26, st26⟩ := getS2 X24 hx hZ hown (host := "") (Or.inl (hw _ (List.mem_of_getElem? (i := 18) rfl))) Via.refl e24 (own_stk S_JOIN_GROUP K24) (g := (mkF m 51 #[.val (.int p1), .val (.int p2), .unset, .unset, .unset, .unset, .unset] [(.int (7 : Int32)), (.ref b3), (.ref b3)])) rfl (hb hby at_51)
  obtain ⟨cl_b3_54, Ar_b3, q_b3, S_b3, N_b3, H_b3, G_b3⟩ := V_b3_24
  have hin54 : ¬ ((7 : Int32) < 0 ∨ cl_b3_54.slots.size ≤ ((7 : Int32)).toNatClampNeg) := inb_of S_b3 ⟨by decide, by decide⟩
  obtain ⟨T27, h27, X27, e27, W27, st27⟩ := stR X26 hx hZ e26 Ar_b3 (j := (7 : Int32)) hin54 rfl (Sto.ofV Ar_b3 q_b3 O3 (Ins.self (E_w25.keep K24))) (g := (mkF m 54 #[.val (.int p1), .val (.int p2), .unset, .unset, .unset, .unset, .unset] [(.ref w25), (.int (7 : Int32)), (.ref b3), (.ref b3)])) rfl rfl (hb hby at_54)
  have V_b3_27 : Arv Z h27 b3 k3 (.object "com/example/wyrd/wyrd/protocol/ApiKey") (21 : Int32) [(.ref w4), (.ref w7), (.ref w10), (.ref w13), (.ref w16), (.ref w19), (.ref w22), (.ref w25), .null, .null, .null, .null, .null, .null, .null, .null, .null, .null, .null, .null, .null] .null := Arv.set Ar_b3 q_b3 S_b3 N_b3 H_b3 G_b3 rfl W27 7 rfl (Nat.le_of_ble_eq_true rfl)
  have N27 := Fr.snoc X27 N24 g_b3
  have K27 : Keep h0 h27 [] := K24.wr W27 (Or.inr sz_b3)
  obtain ⟨T29, X29, e29, st29⟩ := getS2 X27 hx hZ hown (host := "") (Or.inl (hw _ (List.mem_of_getElem? (i := 20) rfl))) Via.refl e27 (own_stk S_HEARTBEAT K27) (g := (mkF m 58 #[.val (.int p1), .val (.int p2), .unset, .unset, .unset, .unset, .unset] [(.int (8 : Int32)), (.ref b3), (.ref b3)])) rfl (hb hby at_58)
  obtain ⟨cl_b3_61, Ar_b3, q_b3, S_b3, N_b3, H_b3, G_b3⟩ := V_b3_27
  have hin61 : ¬ ((8 : Int32) < 0 ∨ cl_b3_61.slots.size ≤ ((8 : Int32)).toNatClampNeg) := inb_of S_b3 ⟨by decide, by decide⟩
  obtain ⟨T30, h30, X30, e30, W30, st30⟩ := stR X29 hx hZ e29 Ar_b3 (j := (8 : Int32)) hin61 rfl (Sto.ofV Ar_b3 q_b3 O3 (Ins.self (E_w28.keep K27))) (g := (mkF m 61 #[.val (.int p1), .val (.int p2), .unset, .unset, .unset, .unset, .unset] [(.ref w28), (.int (8 : Int32)), (.ref b3), (.ref b3)])) rfl rfl (hb hby at_61)
  have V_b3_30 : Arv Z h30 b3 k3 (.object "com/example/wyrd/wyrd/protocol/ApiKey") (21 : Int32) [(.ref w4), (.ref w7), (.ref w10), (.ref w13), (.ref w16), (.ref w19), (.ref w22), (.ref w25), (.ref w28), .null, .null, .null, .null, .null, .null, .null, .null, .null, .null, .null, .null] .null := Arv.set Ar_b3 q_b3 S_b3 N_b3 H_b3 G_b3 rfl W30 8 rfl (Nat.le_of_ble_eq_true rfl)
  have N30 := Fr.snoc X30 N27 g_b3
  have K30 : Keep h0 h30 [] := K27.wr W30 (Or.inr sz_b3)
  obtain ⟨T32, X32, e32, st32⟩ := getS2 X30 hx hZ hown (host := "") (Or.inl (hw _ (List.mem_of_getElem? (i := 22) rfl))) Via.refl e30 (own_stk S_LEAVE_GROUP K30) (g := (mkF m 65 #[.val (.int p1), .val (.int p2), .unset, .unset, .unset, .unset, .unset] [(.int (9 : Int32)), (.ref b3), (.ref b3)])) rfl (hb hby at_65)
  obtain ⟨cl_b3_68, Ar_b3, q_b3, S_b3, N_b3, H_b3, G_b3⟩ := V_b3_30
  have hin68 : ¬ ((9 : Int32) < 0 ∨ cl_b3_68.slots.size ≤ ((9 : Int32)).toNatClampNeg) := inb_of S_b3 ⟨by decide, by decide⟩
  obtain ⟨T33, h33, X33, e33, W33, st33⟩ := stR X32 hx hZ e32 Ar_b3 (j := (9 : Int32)) hin68 rfl (Sto.ofV Ar_b3 q_b3 O3 (Ins.self (E_w31.keep K30))) (g := (mkF m 68 #[.val (.int p1), .val (.int p2), .unset, .unset, .unset, .unset, .unset] [(.ref w31), (.int (9 : Int32)), (.ref b3), (.ref b3)])) rfl rfl (hb hby at_68)
  have V_b3_33 : Arv Z h33 b3 k3 (.object "com/example/wyrd/wyrd/protocol/ApiKey") (21 : Int32) [(.ref w4), (.ref w7), (.ref w10), (.ref w13), (.ref w16), (.ref w19), (.ref w22), (.ref w25), (.ref w28), (.ref w31), .null, .null, .null, .null, .null, .null, .null, .null, .null, .null, .null] .null := Arv.set Ar_b3 q_b3 S_b3 N_b3 H_b3 G_b3 rfl W33 9 rfl (Nat.le_of_ble_eq_true rfl)
  have N33 := Fr.snoc X33 N30 g_b3
  have K33 : Keep h0 h33 [] := K30.wr W33 (Or.inr sz_b3)
  obtain ⟨T35, X35, e35, st35⟩ := getS2 X33 hx hZ hown (host := "") (Or.inl (hw _ (List.mem_of_getElem? (i := 24) rfl))) Via.refl e33 (own_stk S_SYNC_GROUP K33) (g := (mkF m 72 #[.val (.int p1), .val (.int p2), .unset, .unset, .unset, .unset, .unset] [(.int (10 : Int32)), (.ref b3), (.ref b3)])) rfl (hb hby at_72)
  obtain ⟨cl_b3_75, Ar_b3, q_b3, S_b3, N_b3, H_b3, G_b3⟩ := V_b3_33
  have hin75 : ¬ ((10 : Int32) < 0 ∨ cl_b3_75.slots.size ≤ ((10 : Int32)).toNatClampNeg) := inb_of S_b3 ⟨by decide, by decide⟩
  obtain ⟨T36, h36, X36, e36, W36, st36⟩ := stR X35 hx hZ e35 Ar_b3 (j := (10 : Int32)) hin75 rfl (Sto.ofV Ar_b3 q_b3 O3 (Ins.self (E_w34.keep K33))) (g := (mkF m 75 #[.val (.int p1), .val (.int p2), .unset, .unset, .unset, .unset, .unset] [(.ref w34), (.int (10 : Int32)), (.ref b3), (.ref b3)])) rfl rfl (hb hby at_75)
  have V_b3_36 : Arv Z h36 b3 k3 (.object "com/example/wyrd/wyrd/protocol/ApiKey") (21 : Int32) [(.ref w4), (.ref w7), (.ref w10), (.ref w13), (.ref w16), (.ref w19), (.ref w22), (.ref w25), (.ref w28), (.ref w31), (.ref w34), .null, .null, .null, .null, .null, .null, .null, .null, .null, .null] .null := Arv.set Ar_b3 q_b3 S_b3 N_b3 H_b3 G_b3 rfl W36 10 rfl (Nat.le_of_ble_eq_true rfl)
  have N36 := Fr.snoc X36 N33 g_b3
  have K36 : Keep h0 h36 [] := K33.wr W36 (Or.inr sz_b3)
  obtain ⟨T38, X38, e38, st38⟩ := getS2 X36 hx hZ hown (host := "") (Or.inl (hw _ (List.mem_of_getElem? (i := 26) rfl))) Via.refl e36 (own_stk S_DESCRIBE_GROUPS K36) (g := (mkF m 79 #[.val (.int p1), .val (.int p2), .unset, .unset, .unset, .unset, .unset] [(.int (11 : Int32)), (.ref b3), (.ref b3)])) rfl (hb hby at_79)
  obtain ⟨cl_b3_82, Ar_b3, q_b3, S_b3, N_b3, H_b3, G_b3⟩ := V_b3_36
  have hin82 : ¬ ((11 : Int32) < 0 ∨ cl_b3_82.slots.size ≤ ((11 : Int32)).toNatClampNeg) := inb_of S_b3 ⟨by decide, by decide⟩
  obtain ⟨T39, h39, X39, e39, W39, st39⟩ := stR X38 hx hZ e38 Ar_b3 (j := (11 : Int32)) hin82 rfl (Sto.ofV Ar_b3 q_b3 O3 (Ins.self (E_w37.keep K36))) (g := (mkF m 82 #[.val (.int p1), .val (.int p2), .unset, .unset, .unset, .unset, .unset] [(.ref w37), (.int (11 : Int32)), (.ref b3), (.ref b3)])) rfl rfl (hb hby at_82)
  have V_b3_39 : Arv Z h39 b3 k3 (.object "com/example/wyrd/wyrd/protocol/ApiKey") (21 : Int32) [(.ref w4), (.ref w7), (.ref w10), (.ref w13), (.ref w16), (.ref w19), (.ref w22), (.ref w25), (.ref w28), (.ref w31), (.ref w34), (.ref w37), .null, .null, .null, .null, .null, .null, .null, .null, .null] .null := Arv.set Ar_b3 q_b3 S_b3 N_b3 H_b3 G_b3 rfl W39 11 rfl (Nat.le_of_ble_eq_true rfl)
  have N39 := Fr.snoc X39 N36 g_b3
  have K39 : Keep h0 h39 [] := K36.wr W39 (Or.inr sz_b3)
  obtain ⟨T41, X41, e41, st41⟩ := getS2 X39 hx hZ hown (host := "") (Or.inl (hw _ (List.mem_of_getElem? (i := 28) rfl))) Via.refl e39 (own_stk S_LIST_GROUPS K39) (g := (mkF m 86 #[.val (.int p1), .val (.int p2), .unset, .unset, .unset, .unset, .unset] [(.int (12 : Int32)), (.ref b3), (.ref b3)])) rfl (hb hby at_86)
  obtain ⟨cl_b3_89, Ar_b3, q_b3, S_b3, N_b3, H_b3, G_b3⟩ := V_b3_39
  have hin89 : ¬ ((12 : Int32) < 0 ∨ cl_b3_89.slots.size ≤ ((12 : Int32)).toNatClampNeg) := inb_of S_b3 ⟨by decide, by decide⟩
  obtain ⟨T42, h42, X42, e42, W42, st42⟩ := stR X41 hx hZ e41 Ar_b3 (j := (12 : Int32)) hin89 rfl (Sto.ofV Ar_b3 q_b3 O3 (Ins.self (E_w40.keep K39))) (g := (mkF m 89 #[.val (.int p1), .val (.int p2), .unset, .unset, .unset, .unset, .unset] [(.ref w40), (.int (12 : Int32)), (.ref b3), (.ref b3)])) rfl rfl (hb hby at_89)
  have V_b3_42 : Arv Z h42 b3 k3 (.object "com/example/wyrd/wyrd/protocol/ApiKey") (21 : Int32) [(.ref w4), (.ref w7), (.ref w10), (.ref w13), (.ref w16), (.ref w19), (.ref w22), (.ref w25), (.ref w28), (.ref w31), (.ref w34), (.ref w37), (.ref w40), .null, .null, .null, .null, .null, .null, .null, .null] .null := Arv.set Ar_b3 q_b3 S_b3 N_b3 H_b3 G_b3 rfl W42 12 rfl (Nat.le_of_ble_eq_true rfl)
  have N42 := Fr.snoc X42 N39 g_b3
  have K42 : Keep h0 h42 [] := K39.wr W42 (Or.inr sz_b3)
  obtain ⟨T44, X44, e44, st44⟩ := getS2 X42 hx hZ hown (host := "") (Or.inl (hw _ (List.mem_of_getElem? (i := 30) rfl))) Via.refl e42 (own_stk S_API_VERSIONS K42) (g := (mkF m 93 #[.val (.int p1), .val (.int p2), .unset, .unset, .unset, .unset, .unset] [(.int (13 : Int32)), (.ref b3), (.ref b3)])) rfl (hb hby at_93)
  obtain ⟨cl_b3_96, Ar_b3, q_b3, S_b3, N_b3, H_b3, G_b3⟩ := V_b3_42
  have hin96 : ¬ ((13 : Int32) < 0 ∨ cl_b3_96.slots.size ≤ ((13 : Int32)).toNatClampNeg) := inb_of S_b3 ⟨by decide, by decide⟩
  obtain ⟨T45, h45, X45, e45, W45, st45⟩ := stR X44 hx hZ e44 Ar_b3 (j := (13 : Int32)) hin96 rfl (Sto.ofV Ar_b3 q_b3 O3 (Ins.self (E_w43.keep K42))) (g := (mkF m 96 #[.val (.int p1), .val (.int p2), .unset, .unset, .unset, .unset, .unset] [(.ref w43), (.int (13 : Int32)), (.ref b3), (.ref b3)])) rfl rfl (hb hby at_96)
  have V_b3_45 : Arv Z h45 b3 k3 (.object "com/example/wyrd/wyrd/protocol/ApiKey") (21 : Int32) [(.ref w4), (.ref w7), (.ref w10), (.ref w13), (.ref w16), (.ref w19), (.ref w22), (.ref w25), (.ref w28), (.ref w31), (.ref w34), (.ref w37), (.ref w40), (.ref w43), .null, .null, .null, .null, .null, .null, .null] .null := Arv.set Ar_b3 q_b3 S_b3 N_b3 H_b3 G_b3 rfl W45 13 rfl (Nat.le_of_ble_eq_true rfl)
  have N45 := Fr.snoc X45 N42 g_b3
  have K45 : Keep h0 h45 [] := K42.wr W45 (Or.inr sz_b3)
  obtain ⟨T47, X47, e47, st47⟩ := getS2 X45 hx hZ hown (host := "") (Or.inl (hw _ (List.mem_of_getElem? (i := 32) rfl))) Via.refl e45 (own_stk S_CREATE_TOPICS K45) (g := (mkF m 100 #[.val (.int p1), .val (.int p2), .unset, .unset, .unset, .unset, .unset] [(.int (14 : Int32)), (.ref b3), (.ref b3)])) rfl (hb hby at_100)
  obtain ⟨cl_b3_103, Ar_b3, q_b3, S_b3, N_b3, H_b3, G_b3⟩ := V_b3_45
  have hin103 : ¬ ((14 : Int32) < 0 ∨ cl_b3_103.slots.size ≤ ((14 : Int32)).toNatClampNeg) := inb_of S_b3 ⟨by decide, by decide⟩
  obtain ⟨T48, h48, X48, e48, W48, st48⟩ := stR X47 hx hZ e47 Ar_b3 (j := (14 : Int32)) hin103 rfl (Sto.ofV Ar_b3 q_b3 O3 (Ins.self (E_w46.keep K45))) (g := (mkF m 103 #[.val (.int p1), .val (.int p2), .unset, .unset, .unset, .unset, .unset] [(.ref w46), (.int (14 : Int32)), (.ref b3), (.ref b3)])) rfl rfl (hb hby at_103)
  have V_b3_48 : Arv Z h48 b3 k3 (.object "com/example/wyrd/wyrd/protocol/ApiKey") (21 : Int32) [(.ref w4), (.ref w7), (.ref w10), (.ref w13), (.ref w16), (.ref w19), (.ref w22), (.ref w25), (.ref w28), (.ref w31), (.ref w34), (.ref w37), (.ref w40), (.ref w43), (.ref w46), .null, .null, .null, .null, .null, .null] .null := Arv.set Ar_b3 q_b3 S_b3 N_b3 H_b3 G_b3 rfl W48 14 rfl (Nat.le_of_ble_eq_true rfl)
  have N48 := Fr.snoc X48 N45 g_b3
  have K48 : Keep h0 h48 [] := K45.wr W48 (Or.inr sz_b3)
  obtain ⟨T50, X50, e50, st50⟩ := getS2 X48 hx hZ hown (host := "") (Or.inl (hw _ (List.mem_of_getElem? (i := 34) rfl))) Via.refl e48 (own_stk S_DELETE_TOPICS K48) (g := (mkF m 107 #[.val (.int p1), .val (.int p2), .unset, .unset, .unset, .unset, .unset] [(.int (15 : Int32)), (.ref b3), (.ref b3)])) rfl (hb hby at_107)
  obtain ⟨cl_b3_110, Ar_b3, q_b3, S_b3, N_b3, H_b3, G_b3⟩ := V_b3_48
  have hin110 : ¬ ((15 : Int32) < 0 ∨ cl_b3_110.slots.size ≤ ((15 : Int32)).toNatClampNeg) := inb_of S_b3 ⟨by decide, by decide⟩
  obtain ⟨T51, h51, X51, e51, W51, st51⟩ := stR X50 hx hZ e50 Ar_b3 (j := (15 : Int32)) hin110 rfl (Sto.ofV Ar_b3 q_b3 O3 (Ins.self (E_w49.keep K48))) (g := (mkF m 110 #[.val (.int p1), .val (.int p2), .unset, .unset, .unset, .unset, .unset] [(.ref w49), (.int (15 : Int32)), (.ref b3), (.ref b3)])) rfl rfl (hb hby at_110)
  have V_b3_51 : Arv Z h51 b3 k3 (.object "com/example/wyrd/wyrd/protocol/ApiKey") (21 : Int32) [(.ref w4), (.ref w7), (.ref w10), (.ref w13), (.ref w16), (.ref w19), (.ref w22), (.ref w25), (.ref w28), (.ref w31), (.ref w34), (.ref w37), (.ref w40), (.ref w43), (.ref w46), (.ref w49), .null, .null, .null, .null, .null] .null := Arv.set Ar_b3 q_b3 S_b3 N_b3 H_b3 G_b3 rfl W51 15 rfl (Nat.le_of_ble_eq_true rfl)
  have N51 := Fr.snoc X51 N48 g_b3
  have K51 : Keep h0 h51 [] := K48.wr W51 (Or.inr sz_b3)
  obtain ⟨T53, X53, e53, st53⟩ := getS2 X51 hx hZ hown (host := "") (Or.inl (hw _ (List.mem_of_getElem? (i := 36) rfl))) Via.refl e51 (own_stk S_INIT_PRODUCER_ID K51) (g := (mkF m 114 #[.val (.int p1), .val (.int p2), .unset, .unset, .unset, .unset, .unset] [(.int (16 : Int32)), (.ref b3), (.ref b3)])) rfl (hb hby at_114)
  obtain ⟨cl_b3_117, Ar_b3, q_b3, S_b3, N_b3, H_b3, G_b3⟩ := V_b3_51
  have hin117 : ¬ ((16 : Int32) < 0 ∨ cl_b3_117.slots.size ≤ ((16 : Int32)).toNatClampNeg) := inb_of S_b3 ⟨by decide, by decide⟩
  obtain ⟨T54, h54, X54, e54, W54, st54⟩ := stR X53 hx hZ e53 Ar_b3 (j := (16 : Int32)) hin117 rfl (Sto.ofV Ar_b3 q_b3 O3 (Ins.self (E_w52.keep K51))) (g := (mkF m 117 #[.val (.int p1), .val (.int p2), .unset, .unset, .unset, .unset, .unset] [(.ref w52), (.int (16 : Int32)), (.ref b3), (.ref b3)])) rfl rfl (hb hby at_117)
  have V_b3_54 : Arv Z h54 b3 k3 (.object "com/example/wyrd/wyrd/protocol/ApiKey") (21 : Int32) [(.ref w4), (.ref w7), (.ref w10), (.ref w13), (.ref w16), (.ref w19), (.ref w22), (.ref w25), (.ref w28), (.ref w31), (.ref w34), (.ref w37), (.ref w40), (.ref w43), (.ref w46), (.ref w49), (.ref w52), .null, .null, .null, .null] .null := Arv.set Ar_b3 q_b3 S_b3 N_b3 H_b3 G_b3 rfl W54 16 rfl (Nat.le_of_ble_eq_true rfl)
  have N54 := Fr.snoc X54 N51 g_b3
  have K54 : Keep h0 h54 [] := K51.wr W54 (Or.inr sz_b3)
  obtain ⟨T56, X56, e56, st56⟩ := getS2 X54 hx hZ hown (host := "") (Or.inl (hw _ (List.mem_of_getElem? (i := 38) rfl))) Via.refl e54 (own_stk S_DESCRIBE_CONFIGS K54) (g := (mkF m 121 #[.val (.int p1), .val (.int p2), .unset, .unset, .unset, .unset, .unset] [(.int (17 : Int32)), (.ref b3), (.ref b3)])) rfl (hb hby at_121)
  obtain ⟨cl_b3_124, Ar_b3, q_b3, S_b3, N_b3, H_b3, G_b3⟩ := V_b3_54
  have hin124 : ¬ ((17 : Int32) < 0 ∨ cl_b3_124.slots.size ≤ ((17 : Int32)).toNatClampNeg) := inb_of S_b3 ⟨by decide, by decide⟩
  obtain ⟨T57, h57, X57, e57, W57, st57⟩ := stR X56 hx hZ e56 Ar_b3 (j := (17 : Int32)) hin124 rfl (Sto.ofV Ar_b3 q_b3 O3 (Ins.self (E_w55.keep K54))) (g := (mkF m 124 #[.val (.int p1), .val (.int p2), .unset, .unset, .unset, .unset, .unset] [(.ref w55), (.int (17 : Int32)), (.ref b3), (.ref b3)])) rfl rfl (hb hby at_124)
  have V_b3_57 : Arv Z h57 b3 k3 (.object "com/example/wyrd/wyrd/protocol/ApiKey") (21 : Int32) [(.ref w4), (.ref w7), (.ref w10), (.ref w13), (.ref w16), (.ref w19), (.ref w22), (.ref w25), (.ref w28), (.ref w31), (.ref w34), (.ref w37), (.ref w40), (.ref w43), (.ref w46), (.ref w49), (.ref w52), (.ref w55), .null, .null, .null] .null := Arv.set Ar_b3 q_b3 S_b3 N_b3 H_b3 G_b3 rfl W57 17 rfl (Nat.le_of_ble_eq_true rfl)
  have N57 := Fr.snoc X57 N54 g_b3
  have K57 : Keep h0 h57 [] := K54.wr W57 (Or.inr sz_b3)
  obtain ⟨T59, X59, e59, st59⟩ := getS2 X57 hx hZ hown (host := "") (Or.inl (hw _ (List.mem_of_getElem? (i := 40) rfl))) Via.refl e57 (own_stk S_ALTER_CONFIGS K57) (g := (mkF m 128 #[.val (.int p1), .val (.int p2), .unset, .unset, .unset, .unset, .unset] [(.int (18 : Int32)), (.ref b3), (.ref b3)])) rfl (hb hby at_128)
  obtain ⟨cl_b3_131, Ar_b3, q_b3, S_b3, N_b3, H_b3, G_b3⟩ := V_b3_57
  have hin131 : ¬ ((18 : Int32) < 0 ∨ cl_b3_131.slots.size ≤ ((18 : Int32)).toNatClampNeg) := inb_of S_b3 ⟨by decide, by decide⟩
  obtain ⟨T60, h60, X60, e60, W60, st60⟩ := stR X59 hx hZ e59 Ar_b3 (j := (18 : Int32)) hin131 rfl (Sto.ofV Ar_b3 q_b3 O3 (Ins.self (E_w58.keep K57))) (g := (mkF m 131 #[.val (.int p1), .val (.int p2), .unset, .unset, .unset, .unset, .unset] [(.ref w58), (.int (18 : Int32)), (.ref b3), (.ref b3)])) rfl rfl (hb hby at_131)
  have V_b3_60 : Arv Z h60 b3 k3 (.object "com/example/wyrd/wyrd/protocol/ApiKey") (21 : Int32) [(.ref w4), (.ref w7), (.ref w10), (.ref w13), (.ref w16), (.ref w19), (.ref w22), (.ref w25), (.ref w28), (.ref w31), (.ref w34), (.ref w37), (.ref w40), (.ref w43), (.ref w46), (.ref w49), (.ref w52), (.ref w55), (.ref w58), .null, .null] .null := Arv.set Ar_b3 q_b3 S_b3 N_b3 H_b3 G_b3 rfl W60 18 rfl (Nat.le_of_ble_eq_true rfl)
  have N60 := Fr.snoc X60 N57 g_b3
  have K60 : Keep h0 h60 [] := K57.wr W60 (Or.inr sz_b3)
  obtain ⟨T62, X62, e62, st62⟩ := getS2 X60 hx hZ hown (host := "") (Or.inl (hw _ (List.mem_of_getElem? (i := 42) rfl))) Via.refl e60 (own_stk S_CREATE_PARTITIONS K60) (g := (mkF m 135 #[.val (.int p1), .val (.int p2), .unset, .unset, .unset, .unset, .unset] [(.int (19 : Int32)), (.ref b3), (.ref b3)])) rfl (hb hby at_135)
  obtain ⟨cl_b3_138, Ar_b3, q_b3, S_b3, N_b3, H_b3, G_b3⟩ := V_b3_60
  have hin138 : ¬ ((19 : Int32) < 0 ∨ cl_b3_138.slots.size ≤ ((19 : Int32)).toNatClampNeg) := inb_of S_b3 ⟨by decide, by decide⟩
  obtain ⟨T63, h63, X63, e63, W63, st63⟩ := stR X62 hx hZ e62 Ar_b3 (j := (19 : Int32)) hin138 rfl (Sto.ofV Ar_b3 q_b3 O3 (Ins.self (E_w61.keep K60))) (g := (mkF m 138 #[.val (.int p1), .val (.int p2), .unset, .unset, .unset, .unset, .unset] [(.ref w61), (.int (19 : Int32)), (.ref b3), (.ref b3)])) rfl rfl (hb hby at_138)
  have V_b3_63 : Arv Z h63 b3 k3 (.object "com/example/wyrd/wyrd/protocol/ApiKey") (21 : Int32) [(.ref w4), (.ref w7), (.ref w10), (.ref w13), (.ref w16), (.ref w19), (.ref w22), (.ref w25), (.ref w28), (.ref w31), (.ref w34), (.ref w37), (.ref w40), (.ref w43), (.ref w46), (.ref w49), (.ref w52), (.ref w55), (.ref w58), (.ref w61), .null] .null := Arv.set Ar_b3 q_b3 S_b3 N_b3 H_b3 G_b3 rfl W63 19 rfl (Nat.le_of_ble_eq_true rfl)
  have N63 := Fr.snoc X63 N60 g_b3
  have K63 : Keep h0 h63 [] := K60.wr W63 (Or.inr sz_b3)
  obtain ⟨T65, X65, e65, st65⟩ := getS2 X63 hx hZ hown (host := "") (Or.inl (hw _ (List.mem_of_getElem? (i := 44) rfl))) Via.refl e63 (own_stk S_INCREMENTAL_ALTER_CONFIGS K63) (g := (mkF m 142 #[.val (.int p1), .val (.int p2), .unset, .unset, .unset, .unset, .unset] [(.int (20 : Int32)), (.ref b3), (.ref b3)])) rfl (hb hby at_142)
  obtain ⟨cl_b3_145, Ar_b3, q_b3, S_b3, N_b3, H_b3, G_b3⟩ := V_b3_63
  have hin145 : ¬ ((20 : Int32) < 0 ∨ cl_b3_145.slots.size ≤ ((20 : Int32)).toNatClampNeg) := inb_of S_b3 ⟨by decide, by decide⟩
  obtain ⟨T66, h66, X66, e66, W66, st66⟩ := stR X65 hx hZ e65 Ar_b3 (j := (20 : Int32)) hin145 rfl (Sto.ofV Ar_b3 q_b3 O3 (Ins.self (E_w64.keep K63))) (g := (mkF m 145 #[.val (.int p1), .val (.int p2), .unset, .unset, .unset, .unset, .unset] [(.ref w64), (.int (20 : Int32)), (.ref b3), (.ref b3)])) rfl rfl (hb hby at_145)
  have V_b3_66 : Arv Z h66 b3 k3 (.object "com/example/wyrd/wyrd/protocol/ApiKey") (21 : Int32) [(.ref w4), (.ref w7), (.ref w10), (.ref w13), (.ref w16), (.ref w19), (.ref w22), (.ref w25), (.ref w28), (.ref w31), (.ref w34), (.ref w37), (.ref w40), (.ref w43), (.ref w46), (.ref w49), (.ref w52), (.ref w55), (.ref w58), (.ref w61), (.ref w64)] .null := Arv.set Ar_b3 q_b3 S_b3 N_b3 H_b3 G_b3 rfl W66 20 rfl (Nat.le_of_ble_eq_true rfl)
  have N66 := Fr.snoc X66 N63 g_b3
  have K66 : Keep h0 h66 [] := K63.wr W66 (Or.inr sz_b3)
  obtain ⟨T67, h67, k67, X67, e67, E67, A67, st67⟩ := newP X66 hx hZ (hw _ (List.mem_of_getElem? (i := 46) rfl)) e66 (g := (mkF m 149 #[.val (.int p1), .val (.int p2), .val (.ref b3), .unset, .unset, .unset, .unset] [(.int (21 : Int32))])) rfl (hb hby at_149) rfl (by decide) (cap := 21) (by decide) (by decide) (by decide) (by decide)
  obtain ⟨b67, g67⟩ : ∃ z, z = h66.size := ⟨_, rfl⟩
  rw [← g67] at A67 st67
  have V_b67 : Arv Z h67 b67 k67 .int (21 : Int32) [(.int (0 : Int32)), (.int (0 : Int32)), (.int (0 : Int32)), (.int (0 : Int32)), (.int (0 : Int32)), (.int (0 : Int32)), (.int (0 : Int32)), (.int (0 : Int32)), (.int (0 : Int32)), (.int (0 : Int32)), (.int (0 : Int32)), (.int (0 : Int32)), (.int (0 : Int32)), (.int (0 : Int32)), (.int (0 : Int32)), (.int (0 : Int32)), (.int (0 : Int32)), (.int (0 : Int32)), (.int (0 : Int32)), (.int (0 : Int32)), (.int (0 : Int32))] (.int (0 : Int32)) := (Arv.new A67 (by decide)).pad (pad_rep [] (.int (0 : Int32)) 21)
  have g_b67 : n0 ≤ b67 := Nat.le_trans (Nat.le_trans (Nat.le_trans (Nat.le_trans (Nat.le_trans (Nat.le_trans (Nat.le_trans (Nat.le_trans (Nat.le_trans (Nat.le_trans (Nat.le_trans (Nat.le_trans (Nat.le_trans (Nat.le_trans (Nat.le_trans (Nat.le_trans (Nat.le_trans (Nat.le_trans (Nat.le_trans (Nat.le_trans (Nat.le_trans (Nat.le_trans (Nat.le_trans Z0 E3.1) (Keep.of_wr W6).1) (Keep.of_wr W9).1) (Keep.of_wr W12).1) (Keep.of_wr W15).1) (Keep.of_wr W18).1) (Keep.of_wr W21).1) (Keep.of_wr W24).1) (Keep.of_wr W27).1) (Keep.of_wr W30).1) (Keep.of_wr W33).1) (Keep.of_wr W36).1) (Keep.of_wr W39).1) (Keep.of_wr W42).1) (Keep.of_wr W45).1) (Keep.of_wr W48).1) (Keep.of_wr W51).1) (Keep.of_wr W54).1) (Keep.of_wr W57).1) (Keep.of_wr W60).1) (Keep.of_wr W63).1) (Keep.of_wr W66).1) (Nat.le_of_eq g67.symm)
  have sz_b67 : h0.size ≤ b67 := (Nat.le_trans K66.1 (Nat.le_of_eq g67.symm))
  have K67 : Keep h0 h67 [] := K66.ext E67
  obtain ⟨cl_b67_155, Ar_b67, q_b67, S_b67, N_b67, H_b67, G_b67⟩ := V_b67
  have hin155 : ¬ ((0 : Int32) < 0 ∨ cl_b67_155.slots.size ≤ ((0 : Int32)).toNatClampNeg) := inb_of S_b67 ⟨by decide, by decide⟩
  obtain ⟨T68, h68, X68, e68, W68, st68⟩ := stI X67 hx hZ e67 Ar_b67 (j := (0 : Int32)) hin155 (g := (mkF m 155 #[.val (.int p1), .val (.int p2), .val (.ref b3), .unset, .unset, .unset, .unset] [(.int (9 : Int32)), (.int (0 : Int32)), (.ref b67), (.ref b67)])) rfl rfl (hb hby at_155)
  have V_b67_68 : Arv Z h68 b67 k67 .int (21 : Int32) [(.int (9 : Int32)), (.int (0 : Int32)), (.int (0 : Int32)), (.int (0 : Int32)), (.int (0 : Int32)), (.int (0 : Int32)), (.int (0 : Int32)), (.int (0 : Int32)), (.int (0 : Int32)), (.int (0 : Int32)), (.int (0 : Int32)), (.int (0 : Int32)), (.int (0 : Int32)), (.int (0 : Int32)), (.int (0 : Int32)), (.int (0 : Int32)), (.int (0 : Int32)), (.int (0 : Int32)), (.int (0 : Int32)), (.int (0 : Int32)), (.int (0 : Int32))] (.int (0 : Int32)) := Arv.set Ar_b67 q_b67 S_b67 N_b67 H_b67 G_b67 rfl W68 0 rfl (Nat.le_of_ble_eq_true rfl)
  have K68 : Keep h0 h68 [] := K67.wr W68 (Or.inr sz_b67)
  have N68 := Fr.snoc X68 N66 g_b67
  obtain ⟨cl_b67_160, Ar_b67, q_b67, S_b67, N_b67, H_b67, G_b67⟩ := V_b67_68
  have hin160 : ¬ ((1 : Int32) < 0 ∨ cl_b67_160.slots.size ≤ ((1 : Int32)).toNatClampNeg) := inb_of S_b67 ⟨by decide, by decide⟩
  obtain ⟨T69, h69, X69, e69, W69, st69⟩ := stI X68 hx hZ e68 Ar_b67 (j := (1 : Int32)) hin160 (g := (mkF m 160 #[.val (.int p1), .val (.int p2), .val (.ref b3), .unset, .unset, .unset, .unset] [(.int (12 : Int32)), (.int (1 : Int32)), (.ref b67), (.ref b67)])) rfl rfl (hb hby at_160)
  have V_b67_69 : Arv Z h69 b67 k67 .int (21 : Int32) [(.int (9 : Int32)), (.int (12 : Int32)), (.int (0 : Int32)), (.int (0 : Int32)), (.int (0 : Int32)), (.int (0 : Int32)), (.int (0 : Int32)), (.int (0 : Int32)), (.int (0 : Int32)), (.int (0 : Int32)), (.int (0 : Int32)), (.int (0 : Int32)), (.int (0 : Int32)), (.int (0 : Int32)), (.int (0 : Int32)), (.int (0 : Int32)), (.int (0 : Int32)), (.int (0 : Int32)), (.int (0 : Int32)), (.int (0 : Int32)), (.int (0 : Int32))] (.int (0 : Int32)) := Arv.set Ar_b67 q_b67 S_b67 N_b67 H_b67 G_b67 rfl W69 1 rfl (Nat.le_of_ble_eq_true rfl)
  have K69 : Keep h0 h69 [] := K68.wr W69 (Or.inr sz_b67)
  have N69 := Fr.snoc X69 N68 g_b67
  obtain ⟨cl_b67_165, Ar_b67, q_b67, S_b67, N_b67, H_b67, G_b67⟩ := V_b67_69
  have hin165 : ¬ ((2 : Int32) < 0 ∨ cl_b67_165.slots.size ≤ ((2 : Int32)).toNatClampNeg) := inb_of S_b67 ⟨by decide, by decide⟩
  obtain ⟨T70, h70, X70, e70, W70, st70⟩ := stI X69 hx hZ e69 Ar_b67 (j := (2 : Int32)) hin165 (g := (mkF m 165 #[.val (.int p1), .val (.int p2), .val (.ref b3), .unset, .unset, .unset, .unset] [(.int (6 : Int32)), (.int (2 : Int32)), (.ref b67), (.ref b67)])) rfl rfl (hb hby at_165)
  have V_b67_70 : Arv Z h70 b67 k67 .int (21 : Int32) [(.int (9 : Int32)), (.int (12 : Int32)), (.int (6 : Int32)), (.int (0 : Int32)), (.int (0 : Int32)), (.int (0 : Int32)), (.int (0 : Int32)), (.int (0 : Int32)), (.int (0 : Int32)), (.int (0 : Int32)), (.int (0 : Int32)), (.int (0 : Int32)), (.int (0 : Int32)), (.int (0 : Int32)), (.int (0 : Int32)), (.int (0 : Int32)), (.int (0 : Int32)), (.int (0 : Int32)), (.int (0 : Int32)), (.int (0 : Int32)), (.int (0 : Int32))] (.int (0 : Int32)) := Arv.set Ar_b67 q_b67 S_b67 N_b67 H_b67 G_b67 rfl W70 2 rfl (Nat.le_of_ble_eq_true rfl)
  have K70 : Keep h0 h70 [] := K69.wr W70 (Or.inr sz_b67)
  have N70 := Fr.snoc X70 N69 g_b67
  obtain ⟨cl_b67_170, Ar_b67, q_b67, S_b67, N_b67, H_b67, G_b67⟩ := V_b67_70
  have hin170 : ¬ ((3 : Int32) < 0 ∨ cl_b67_170.slots.size ≤ ((3 : Int32)).toNatClampNeg) := inb_of S_b67 ⟨by decide, by decide⟩
  obtain ⟨T71, h71, X71, e71, W71, st71⟩ := stI X70 hx hZ e70 Ar_b67 (j := (3 : Int32)) hin170 (g := (mkF m 170 #[.val (.int p1), .val (.int p2), .val (.ref b3), .unset, .unset, .unset, .unset] [(.int (9 : Int32)), (.int (3 : Int32)), (.ref b67), (.ref b67)])) rfl rfl (hb hby at_170)
  have V_b67_71 : Arv Z h71 b67 k67 .int (21 : Int32) [(.int (9 : Int32)), (.int (12 : Int32)), (.int (6 : Int32)), (.int (9 : Int32)), (.int (0 : Int32)), (.int (0 : Int32)), (.int (0 : Int32)), (.int (0 : Int32)), (.int (0 : Int32)), (.int (0 : Int32)), (.int (0 : Int32)), (.int (0 : Int32)), (.int (0 : Int32)), (.int (0 : Int32)), (.int (0 : Int32)), (.int (0 : Int32)), (.int (0 : Int32)), (.int (0 : Int32)), (.int (0 : Int32)), (.int (0 : Int32)), (.int (0 : Int32))] (.int (0 : Int32)) := Arv.set Ar_b67 q_b67 S_b67 N_b67 H_b67 G_b67 rfl W71 3 rfl (Nat.le_of_ble_eq_true rfl)
  have K71 : Keep h0 h71 [] := K70.wr W71 (Or.inr sz_b67)
  have N71 := Fr.snoc X71 N70 g_b67
  obtain ⟨cl_b67_175, Ar_b67, q_b67, S_b67, N_b67, H_b67, G_b67⟩ := V_b67_71
  have hin175 : ¬ ((4 : Int32) < 0 ∨ cl_b67_175.slots.size ≤ ((4 : Int32)).toNatClampNeg) := inb_of S_b67 ⟨by decide, by decide⟩
  obtain ⟨T72, h72, X72, e72, W72, st72⟩ := stI X71 hx hZ e71 Ar_b67 (j := (4 : Int32)) hin175 (g := (mkF m 175 #[.val (.int p1), .val (.int p2), .val (.ref b3), .unset, .unset, .unset, .unset] [(.int (8 : Int32)), (.int (4 : Int32)), (.ref b67), (.ref b67)])) rfl rfl (hb hby at_175)
  have V_b67_72 : Arv Z h72 b67 k67 .int (21 : Int32) [(.int (9 : Int32)), (.int (12 : Int32)), (.int (6 : Int32)), (.int (9 : Int32)), (.int (8 : Int32)), (.int (0 : Int32)), (.int (0 : Int32)), (.int (0 : Int32)), (.int (0 : Int32)), (.int (0 : Int32)), (.int (0 : Int32)), (.int (0 : Int32)), (.int (0 : Int32)), (.int (0 : Int32)), (.int (0 : Int32)), (.int (0 : Int32)), (.int (0 : Int32)), (.int (0 : Int32)), (.int (0 : Int32)), (.int (0 : Int32)), (.int (0 : Int32))] (.int (0 : Int32)) := Arv.set Ar_b67 q_b67 S_b67 N_b67 H_b67 G_b67 rfl W72 4 rfl (Nat.le_of_ble_eq_true rfl)
  have K72 : Keep h0 h72 [] := K71.wr W72 (Or.inr sz_b67)
  have N72 := Fr.snoc X72 N71 g_b67
  obtain ⟨cl_b67_180, Ar_b67, q_b67, S_b67, N_b67, H_b67, G_b67⟩ := V_b67_72
  have hin180 : ¬ ((5 : Int32) < 0 ∨ cl_b67_180.slots.size ≤ ((5 : Int32)).toNatClampNeg) := inb_of S_b67 ⟨by decide, by decide⟩
  obtain ⟨T73, h73, X73, e73, W73, st73⟩ := stI X72 hx hZ e72 Ar_b67 (j := (5 : Int32)) hin180 (g := (mkF m 180 #[.val (.int p1), .val (.int p2), .val (.ref b3), .unset, .unset, .unset, .unset] [(.int (6 : Int32)), (.int (5 : Int32)), (.ref b67), (.ref b67)])) rfl rfl (hb hby at_180)
  have V_b67_73 : Arv Z h73 b67 k67 .int (21 : Int32) [(.int (9 : Int32)), (.int (12 : Int32)), (.int (6 : Int32)), (.int (9 : Int32)), (.int (8 : Int32)), (.int (6 : Int32)), (.int (0 : Int32)), (.int (0 : Int32)), (.int (0 : Int32)), (.int (0 : Int32)), (.int (0 : Int32)), (.int (0 : Int32)), (.int (0 : Int32)), (.int (0 : Int32)), (.int (0 : Int32)), (.int (0 : Int32)), (.int (0 : Int32)), (.int (0 : Int32)), (.int (0 : Int32)), (.int (0 : Int32)), (.int (0 : Int32))] (.int (0 : Int32)) := Arv.set Ar_b67 q_b67 S_b67 N_b67 H_b67 G_b67 rfl W73 5 rfl (Nat.le_of_ble_eq_true rfl)
  have K73 : Keep h0 h73 [] := K72.wr W73 (Or.inr sz_b67)
  have N73 := Fr.snoc X73 N72 g_b67
  obtain ⟨cl_b67_185, Ar_b67, q_b67, S_b67, N_b67, H_b67, G_b67⟩ := V_b67_73
  have hin185 : ¬ ((6 : Int32) < 0 ∨ cl_b67_185.slots.size ≤ ((6 : Int32)).toNatClampNeg) := inb_of S_b67 ⟨by decide, by decide⟩
  obtain ⟨T74, h74, X74, e74, W74, st74⟩ := stI X73 hx hZ e73 Ar_b67 (j := (6 : Int32)) hin185 (g := (mkF m 185 #[.val (.int p1), .val (.int p2), .val (.ref b3), .unset, .unset, .unset, .unset] [(.int (3 : Int32)), (.int (6 : Int32)), (.ref b67), (.ref b67)])) rfl rfl (hb hby at_185)
  have V_b67_74 : Arv Z h74 b67 k67 .int (21 : Int32) [(.int (9 : Int32)), (.int (12 : Int32)), (.int (6 : Int32)), (.int (9 : Int32)), (.int (8 : Int32)), (.int (6 : Int32)), (.int (3 : Int32)), (.int (0 : Int32)), (.int (0 : Int32)), (.int (0 : Int32)), (.int (0 : Int32)), (.int (0 : Int32)), (.int (0 : Int32)), (.int (0 : Int32)), (.int (0 : Int32)), (.int (0 : Int32)), (.int (0 : Int32)), (.int (0 : Int32)), (.int (0 : Int32)), (.int (0 : Int32)), (.int (0 : Int32))] (.int (0 : Int32)) := Arv.set Ar_b67 q_b67 S_b67 N_b67 H_b67 G_b67 rfl W74 6 rfl (Nat.le_of_ble_eq_true rfl)
  have K74 : Keep h0 h74 [] := K73.wr W74 (Or.inr sz_b67)
  have N74 := Fr.snoc X74 N73 g_b67
  obtain ⟨cl_b67_191, Ar_b67, q_b67, S_b67, N_b67, H_b67, G_b67⟩ := V_b67_74
  have hin191 : ¬ ((7 : Int32) < 0 ∨ cl_b67_191.slots.size ≤ ((7 : Int32)).toNatClampNeg) := inb_of S_b67 ⟨by decide, by decide⟩
  obtain ⟨T75, h75, X75, e75, W75, st75⟩ := stI X74 hx hZ e74 Ar_b67 (j := (7 : Int32)) hin191 (g := (mkF m 191 #[.val (.int p1), .val (.int p2), .val (.ref b3), .unset, .unset, .unset, .unset] [(.int (6 : Int32)), (.int (7 : Int32)), (.ref b67), (.ref b67)])) rfl rfl (hb hby at_191)
  have V_b67_75 : Arv Z h75 b67 k67 .int (21 : Int32) [(.int (9 : Int32)), (.int (12 : Int32)), (.int (6 : Int32)), (.int (9 : Int32)), (.int (8 : Int32)), (.int (6 : Int32)), (.int (3 : Int32)), (.int (6 : Int32)), (.int (0 : Int32)), (.int (0 : Int32)), (.int (0 : Int32)), (.int (0 : Int32)), (.int (0 : Int32)), (.int (0 : Int32)), (.int (0 : Int32)), (.int (0 : Int32)), (.int (0 : Int32)), (.int (0 : Int32)), (.int (0 : Int32)), (.int (0 : Int32)), (.int (0 : Int32))] (.int (0 : Int32)) := Arv.set Ar_b67 q_b67 S_b67 N_b67 H_b67 G_b67 rfl W75 7 rfl (Nat.le_of_ble_eq_true rfl)
  have K75 : Keep h0 h75 [] := K74.wr W75 (Or.inr sz_b67)
  have N75 := Fr.snoc X75 N74 g_b67
  obtain ⟨cl_b67_196, Ar_b67, q_b67, S_b67, N_b67, H_b67, G_b67⟩ := V_b67_75
  have hin196 : ¬ ((8 : Int32) < 0 ∨ cl_b67_196.slots.size ≤ ((8 : Int32)).toNatClampNeg) := inb_of S_b67 ⟨by decide, by decide⟩
  obtain ⟨T76, h76, X76, e76, W76, st76⟩ := stI X75 hx hZ e75 Ar_b67 (j := (8 : Int32)) hin196 (g := (mkF m 196 #[.val (.int p1), .val (.int p2), .val (.ref b3), .unset, .unset, .unset, .unset] [(.int (4 : Int32)), (.int (8 : Int32)), (.ref b67), (.ref b67)])) rfl rfl (hb hby at_196)
  have V_b67_76 : Arv Z h76 b67 k67 .int (21 : Int32) [(.int (9 : Int32)), (.int (12 : Int32)), (.int (6 : Int32)), (.int (9 : Int32)), (.int (8 : Int32)), (.int (6 : Int32)), (.int (3 : Int32)), (.int (6 : Int32)), (.int (4 : Int32)), (.int (0 : Int32)), (.int (0 : Int32)), (.int (0 : Int32)), (.int (0 : Int32)), (.int (0 : Int32)), (.int (0 : Int32)), (.int (0 : Int32)), (.int (0 : Int32)), (.int (0 : Int32)), (.int (0 : Int32)), (.int (0 : Int32)), (.int (0 : Int32))] (.int (0 : Int32)) := Arv.set Ar_b67 q_b67 S_b67 N_b67 H_b67 G_b67 rfl W76 8 rfl (Nat.le_of_ble_eq_true rfl)
  have K76 : Keep h0 h76 [] := K75.wr W76 (Or.inr sz_b67)
  have N76 := Fr.snoc X76 N75 g_b67
  obtain ⟨cl_b67_201, Ar_b67, q_b67, S_b67, N_b67, H_b67, G_b67⟩ := V_b67_76
  have hin201 : ¬ ((9 : Int32) < 0 ∨ cl_b67_201.slots.size ≤ ((9 : Int32)).toNatClampNeg) := inb_of S_b67 ⟨by decide, by decide⟩
  obtain ⟨T77, h77, X77, e77, W77, st77⟩ := stI X76 hx hZ e76 Ar_b67 (j := (9 : Int32)) hin201 (g := (mkF m 201 #[.val (.int p1), .val (.int p2), .val (.ref b3), .unset, .unset, .unset, .unset] [(.int (4 : Int32)), (.int (9 : Int32)), (.ref b67), (.ref b67)])) rfl rfl (hb hby at_201)
  have V_b67_77 : Arv Z h77 b67 k67 .int (21 : Int32) [(.int (9 : Int32)), (.int (12 : Int32)), (.int (6 : Int32)), (.int (9 : Int32)), (.int (8 : Int32)), (.int (6 : Int32)), (.int (3 : Int32)), (.int (6 : Int32)), (.int (4 : Int32)), (.int (4 : Int32)), (.int (0 : Int32)), (.int (0 : Int32)), (.int (0 : Int32)), (.int (0 : Int32)), (.int (0 : Int32)), (.int (0 : Int32)), (.int (0 : Int32)), (.int (0 : Int32)), (.int (0 : Int32)), (.int (0 : Int32)), (.int (0 : Int32))] (.int (0 : Int32)) := Arv.set Ar_b67 q_b67 S_b67 N_b67 H_b67 G_b67 rfl W77 9 rfl (Nat.le_of_ble_eq_true rfl)
  have K77 : Keep h0 h77 [] := K76.wr W77 (Or.inr sz_b67)
  have N77 := Fr.snoc X77 N76 g_b67
  obtain ⟨cl_b67_206, Ar_b67, q_b67, S_b67, N_b67, H_b67, G_b67⟩ := V_b67_77
  have hin206 : ¬ ((10 : Int32) < 0 ∨ cl_b67_206.slots.size ≤ ((10 : Int32)).toNatClampNeg) := inb_of S_b67 ⟨by decide, by decide⟩
  obtain ⟨T78, h78, X78, e78, W78, st78⟩ := stI X77 hx hZ e77 Ar_b67 (j := (10 : Int32)) hin206 (g := (mkF m 206 #[.val (.int p1), .val (.int p2), .val (.ref b3), .unset, .unset, .unset, .unset] [(.int (4 : Int32)), (.int (10 : Int32)), (.ref b67), (.ref b67)])) rfl rfl (hb hby at_206)
  have V_b67_78 : Arv Z h78 b67 k67 .int (21 : Int32) [(.int (9 : Int32)), (.int (12 : Int32)), (.int (6 : Int32)), (.int (9 : Int32)), (.int (8 : Int32)), (.int (6 : Int32)), (.int (3 : Int32)), (.int (6 : Int32)), (.int (4 : Int32)), (.int (4 : Int32)), (.int (4 : Int32)), (.int (0 : Int32)), (.int (0 : Int32)), (.int (0 : Int32)), (.int (0 : Int32)), (.int (0 : Int32)), (.int (0 : Int32)), (.int (0 : Int32)), (.int (0 : Int32)), (.int (0 : Int32)), (.int (0 : Int32))] (.int (0 : Int32)) := Arv.set Ar_b67 q_b67 S_b67 N_b67 H_b67 G_b67 rfl W78 10 rfl (Nat.le_of_ble_eq_true rfl)
  have K78 : Keep h0 h78 [] := K77.wr W78 (Or.inr sz_b67)
  have N78 := Fr.snoc X78 N77 g_b67
  obtain ⟨cl_b67_211, Ar_b67, q_b67, S_b67, N_b67, H_b67, G_b67⟩ := V_b67_78
  have hin211 : ¬ ((11 : Int32) < 0 ∨ cl_b67_211.slots.size ≤ ((11 : Int32)).toNatClampNeg) := inb_of S_b67 ⟨by decide, by decide⟩
  obtain ⟨T79, h79, X79, e79, W79, st79⟩ := stI X78 hx hZ e78 Ar_b67 (j := (11 : Int32)) hin211 (g := (mkF m 211 #[.val (.int p1), .val (.int p2), .val (.ref b3), .unset, .unset, .unset, .unset] [(.int (5 : Int32)), (.int (11 : Int32)), (.ref b67), (.ref b67)])) rfl rfl (hb hby at_211)
  have V_b67_79 : Arv Z h79 b67 k67 .int (21 : Int32) [(.int (9 : Int32)), (.int (12 : Int32)), (.int (6 : Int32)), (.int (9 : Int32)), (.int (8 : Int32)), (.int (6 : Int32)), (.int (3 : Int32)), (.int (6 : Int32)), (.int (4 : Int32)), (.int (4 : Int32)), (.int (4 : Int32)), (.int (5 : Int32)), (.int (0 : Int32)), (.int (0 : Int32)), (.int (0 : Int32)), (.int (0 : Int32)), (.int (0 : Int32)), (.int (0 : Int32)), (.int (0 : Int32)), (.int (0 : Int32)), (.int (0 : Int32))] (.int (0 : Int32)) := Arv.set Ar_b67 q_b67 S_b67 N_b67 H_b67 G_b67 rfl W79 11 rfl (Nat.le_of_ble_eq_true rfl)
  have K79 : Keep h0 h79 [] := K78.wr W79 (Or.inr sz_b67)
  have N79 := Fr.snoc X79 N78 g_b67
  obtain ⟨cl_b67_216, Ar_b67, q_b67, S_b67, N_b67, H_b67, G_b67⟩ := V_b67_79
  have hin216 : ¬ ((12 : Int32) < 0 ∨ cl_b67_216.slots.size ≤ ((12 : Int32)).toNatClampNeg) := inb_of S_b67 ⟨by decide, by decide⟩
  obtain ⟨T80, h80, X80, e80, W80, st80⟩ := stI X79 hx hZ e79 Ar_b67 (j := (12 : Int32)) hin216 (g := (mkF m 216 #[.val (.int p1), .val (.int p2), .val (.ref b3), .unset, .unset, .unset, .unset] [(.int (3 : Int32)), (.int (12 : Int32)), (.ref b67), (.ref b67)])) rfl rfl (hb hby at_216)
  have V_b67_80 : Arv Z h80 b67 k67 .int (21 : Int32) [(.int (9 : Int32)), (.int (12 : Int32)), (.int (6 : Int32)), (.int (9 : Int32)), (.int (8 : Int32)), (.int (6 : Int32)), (.int (3 : Int32)), (.int (6 : Int32)), (.int (4 : Int32)), (.int (4 : Int32)), (.int (4 : Int32)), (.int (5 : Int32)), (.int (3 : Int32)), (.int (0 : Int32)), (.int (0 : Int32)), (.int (0 : Int32)), (.int (0 : Int32)), (.int (0 : Int32)), (.int (0 : Int32)), (.int (0 : Int32)), (.int (0 : Int32))] (.int (0 : Int32)) := Arv.set Ar_b67 q_b67 S_b67 N_b67 H_b67 G_b67 rfl W80 12 rfl (Nat.le_of_ble_eq_true rfl)
  have K80 : Keep h0 h80 [] := K79.wr W80 (Or.inr sz_b67)
  have N80 := Fr.snoc X80 N79 g_b67
  obtain ⟨cl_b67_221, Ar_b67, q_b67, S_b67, N_b67, H_b67, G_b67⟩ := V_b67_80
  have hin221 : ¬ ((13 : Int32) < 0 ∨ cl_b67_221.slots.size ≤ ((13 : Int32)).toNatClampNeg) := inb_of S_b67 ⟨by decide, by decide⟩
  obtain ⟨T81, h81, X81, e81, W81, st81⟩ := stI X80 hx hZ e80 Ar_b67 (j := (13 : Int32)) hin221 (g := (mkF m 221 #[.val (.int p1), .val (.int p2), .val (.ref b3), .unset, .unset, .unset, .unset] [(.int (3 : Int32)), (.int (13 : Int32)), (.ref b67), (.ref b67)])) rfl rfl (hb hby at_221)
  have V_b67_81 : Arv Z h81 b67 k67 .int (21 : Int32) [(.int (9 : Int32)), (.int (12 : Int32)), (.int (6 : Int32)), (.int (9 : Int32)), (.int (8 : Int32)), (.int (6 : Int32)), (.int (3 : Int32)), (.int (6 : Int32)), (.int (4 : Int32)), (.int (4 : Int32)), (.int (4 : Int32)), (.int (5 : Int32)), (.int (3 : Int32)), (.int (3 : Int32)), (.int (0 : Int32)), (.int (0 : Int32)), (.int (0 : Int32)), (.int (0 : Int32)), (.int (0 : Int32)), (.int (0 : Int32)), (.int (0 : Int32))] (.int (0 : Int32)) := Arv.set Ar_b67 q_b67 S_b67 N_b67 H_b67 G_b67 rfl W81 13 rfl (Nat.le_of_ble_eq_true rfl)
  have K81 : Keep h0 h81 [] := K80.wr W81 (Or.inr sz_b67)
  have N81 := Fr.snoc X81 N80 g_b67
  obtain ⟨cl_b67_226, Ar_b67, q_b67, S_b67, N_b67, H_b67, G_b67⟩ := V_b67_81
  have hin226 : ¬ ((14 : Int32) < 0 ∨ cl_b67_226.slots.size ≤ ((14 : Int32)).toNatClampNeg) := inb_of S_b67 ⟨by decide, by decide⟩
  obtain ⟨T82, h82, X82, e82, W82, st82⟩ := stI X81 hx hZ e81 Ar_b67 (j := (14 : Int32)) hin226 (g := (mkF m 226 #[.val (.int p1), .val (.int p2), .val (.ref b3), .unset, .unset, .unset, .unset] [(.int (5 : Int32)), (.int (14 : Int32)), (.ref b67), (.ref b67)])) rfl rfl (hb hby at_226)
  have V_b67_82 : Arv Z h82 b67 k67 .int (21 : Int32) [(.int (9 : Int32)), (.int (12 : Int32)), (.int (6 : Int32)), (.int (9 : Int32)), (.int (8 : Int32)), (.int (6 : Int32)), (.int (3 : Int32)), (.int (6 : Int32)), (.int (4 : Int32)), (.int (4 : Int32)), (.int (4 : Int32)), (.int (5 : Int32)), (.int (3 : Int32)), (.int (3 : Int32)), (.int (5 : Int32)), (.int (0 : Int32)), (.int (0 : Int32)), (.int (0 : Int32)), (.int (0 : Int32)), (.int (0 : Int32)), (.int (0 : Int32))] (.int (0 : Int32)) := Arv.set Ar_b67 q_b67 S_b67 N_b67 H_b67 G_b67 rfl W82 14 rfl (Nat.le_of_ble_eq_true rfl)
  have K82 : Keep h0 h82 [] := K81.wr W82 (Or.inr sz_b67)
  have N82 := Fr.snoc X82 N81 g_b67
  obtain ⟨cl_b67_231, Ar_b67, q_b67, S_b67, N_b67, H_b67, G_b67⟩ := V_b67_82
  have hin231 : ¬ ((15 : Int32) < 0 ∨ cl_b67_231.slots.size ≤ ((15 : Int32)).toNatClampNeg) := inb_of S_b67 ⟨by decide, by decide⟩
  obtain ⟨T83, h83, X83, e83, W83, st83⟩ := stI X82 hx hZ e82 Ar_b67 (j := (15 : Int32)) hin231 (g := (mkF m 231 #[.val (.int p1), .val (.int p2), .val (.ref b3), .unset, .unset, .unset, .unset] [(.int (4 : Int32)), (.int (15 : Int32)), (.ref b67), (.ref b67)])) rfl rfl (hb hby at_231)
  have V_b67_83 : Arv Z h83 b67 k67 .int (21 : Int32) [(.int (9 : Int32)), (.int (12 : Int32)), (.int (6 : Int32)), (.int (9 : Int32)), (.int (8 : Int32)), (.int (6 : Int32)), (.int (3 : Int32)), (.int (6 : Int32)), (.int (4 : Int32)), (.int (4 : Int32)), (.int (4 : Int32)), (.int (5 : Int32)), (.int (3 : Int32)), (.int (3 : Int32)), (.int (5 : Int32)), (.int (4 : Int32)), (.int (0 : Int32)), (.int (0 : Int32)), (.int (0 : Int32)), (.int (0 : Int32)), (.int (0 : Int32))] (.int (0 : Int32)) := Arv.set Ar_b67 q_b67 S_b67 N_b67 H_b67 G_b67 rfl W83 15 rfl (Nat.le_of_ble_eq_true rfl)
  have K83 : Keep h0 h83 [] := K82.wr W83 (Or.inr sz_b67)
  have N83 := Fr.snoc X83 N82 g_b67
  obtain ⟨cl_b67_236, Ar_b67, q_b67, S_b67, N_b67, H_b67, G_b67⟩ := V_b67_83
  have hin236 : ¬ ((16 : Int32) < 0 ∨ cl_b67_236.slots.size ≤ ((16 : Int32)).toNatClampNeg) := inb_of S_b67 ⟨by decide, by decide⟩
  obtain ⟨T84, h84, X84, e84, W84, st84⟩ := stI X83 hx hZ e83 Ar_b67 (j := (16 : Int32)) hin236 (g := (mkF m 236 #[.val (.int p1), .val (.int p2), .val (.ref b3), .unset, .unset, .unset, .unset] [(.int (2 : Int32)), (.int (16 : Int32)), (.ref b67), (.ref b67)])) rfl rfl (hb hby at_236)
  have V_b67_84 : Arv Z h84 b67 k67 .int (21 : Int32) [(.int (9 : Int32)), (.int (12 : Int32)), (.int (6 : Int32)), (.int (9 : Int32)), (.int (8 : Int32)), (.int (6 : Int32)), (.int (3 : Int32)), (.int (6 : Int32)), (.int (4 : Int32)), (.int (4 : Int32)), (.int (4 : Int32)), (.int (5 : Int32)), (.int (3 : Int32)), (.int (3 : Int32)), (.int (5 : Int32)), (.int (4 : Int32)), (.int (2 : Int32)), (.int (0 : Int32)), (.int (0 : Int32)), (.int (0 : Int32)), (.int (0 : Int32))] (.int (0 : Int32)) := Arv.set Ar_b67 q_b67 S_b67 N_b67 H_b67 G_b67 rfl W84 16 rfl (Nat.le_of_ble_eq_true rfl)
  have K84 : Keep h0 h84 [] := K83.wr W84 (Or.inr sz_b67)
  have N84 := Fr.snoc X84 N83 g_b67
  obtain ⟨cl_b67_241, Ar_b67, q_b67, S_b67, N_b67, H_b67, G_b67⟩ := V_b67_84
  have hin241 : ¬ ((17 : Int32) < 0 ∨ cl_b67_241.slots.size ≤ ((17 : Int32)).toNatClampNeg) := inb_of S_b67 ⟨by decide, by decide⟩
  obtain ⟨T85, h85, X85, e85, W85, st85⟩ := stI X84 hx hZ e84 Ar_b67 (j := (17 : Int32)) hin241 (g := (mkF m 241 #[.val (.int p1), .val (.int p2), .val (.ref b3), .unset, .unset, .unset, .unset] [(.int (4 : Int32)), (.int (17 : Int32)), (.ref b67), (.ref b67)])) rfl rfl (hb hby at_241)
  have V_b67_85 : Arv Z h85 b67 k67 .int (21 : Int32) [(.int (9 : Int32)), (.int (12 : Int32)), (.int (6 : Int32)), (.int (9 : Int32)), (.int (8 : Int32)), (.int (6 : Int32)), (.int (3 : Int32)), (.int (6 : Int32)), (.int (4 : Int32)), (.int (4 : Int32)), (.int (4 : Int32)), (.int (5 : Int32)), (.int (3 : Int32)), (.int (3 : Int32)), (.int (5 : Int32)), (.int (4 : Int32)), (.int (2 : Int32)), (.int (4 : Int32)), (.int (0 : Int32)), (.int (0 : Int32)), (.int (0 : Int32))] (.int (0 : Int32)) := Arv.set Ar_b67 q_b67 S_b67 N_b67 H_b67 G_b67 rfl W85 17 rfl (Nat.le_of_ble_eq_true rfl)
  have K85 : Keep h0 h85 [] := K84.wr W85 (Or.inr sz_b67)
  have N85 := Fr.snoc X85 N84 g_b67
  obtain ⟨cl_b67_246, Ar_b67, q_b67, S_b67, N_b67, H_b67, G_b67⟩ := V_b67_85
  have hin246 : ¬ ((18 : Int32) < 0 ∨ cl_b67_246.slots.size ≤ ((18 : Int32)).toNatClampNeg) := inb_of S_b67 ⟨by decide, by decide⟩
  obtain ⟨T86, h86, X86, e86, W86, st86⟩ := stI X85 hx hZ e85 Ar_b67 (j := (18 : Int32)) hin246 (g := (mkF m 246 #[.val (.int p1), .val (.int p2), .val (.ref b3), .unset, .unset, .unset, .unset] [(.int (2 : Int32)), (.int (18 : Int32)), (.ref b67), (.ref b67)])) rfl rfl (hb hby at_246)
  have V_b67_86 : Arv Z h86 b67 k67 .int (21 : Int32) [(.int (9 : Int32)), (.int (12 : Int32)), (.int (6 : Int32)), (.int (9 : Int32)), (.int (8 : Int32)), (.int (6 : Int32)), (.int (3 : Int32)), (.int (6 : Int32)), (.int (4 : Int32)), (.int (4 : Int32)), (.int (4 : Int32)), (.int (5 : Int32)), (.int (3 : Int32)), (.int (3 : Int32)), (.int (5 : Int32)), (.int (4 : Int32)), (.int (2 : Int32)), (.int (4 : Int32)), (.int (2 : Int32)), (.int (0 : Int32)), (.int (0 : Int32))] (.int (0 : Int32)) := Arv.set Ar_b67 q_b67 S_b67 N_b67 H_b67 G_b67 rfl W86 18 rfl (Nat.le_of_ble_eq_true rfl)
  have K86 : Keep h0 h86 [] := K85.wr W86 (Or.inr sz_b67)
  have N86 := Fr.snoc X86 N85 g_b67
  obtain ⟨cl_b67_251, Ar_b67, q_b67, S_b67, N_b67, H_b67, G_b67⟩ := V_b67_86
  have hin251 : ¬ ((19 : Int32) < 0 ∨ cl_b67_251.slots.size ≤ ((19 : Int32)).toNatClampNeg) := inb_of S_b67 ⟨by decide, by decide⟩
  obtain ⟨T87, h87, X87, e87, W87, st87⟩ := stI X86 hx hZ e86 Ar_b67 (j := (19 : Int32)) hin251 (g := (mkF m 251 #[.val (.int p1), .val (.int p2), .val (.ref b3), .unset, .unset, .unset, .unset] [(.int (2 : Int32)), (.int (19 : Int32)), (.ref b67), (.ref b67)])) rfl rfl (hb hby at_251)
  have V_b67_87 : Arv Z h87 b67 k67 .int (21 : Int32) [(.int (9 : Int32)), (.int (12 : Int32)), (.int (6 : Int32)), (.int (9 : Int32)), (.int (8 : Int32)), (.int (6 : Int32)), (.int (3 : Int32)), (.int (6 : Int32)), (.int (4 : Int32)), (.int (4 : Int32)), (.int (4 : Int32)), (.int (5 : Int32)), (.int (3 : Int32)), (.int (3 : Int32)), (.int (5 : Int32)), (.int (4 : Int32)), (.int (2 : Int32)), (.int (4 : Int32)), (.int (2 : Int32)), (.int (2 : Int32)), (.int (0 : Int32))] (.int (0 : Int32)) := Arv.set Ar_b67 q_b67 S_b67 N_b67 H_b67 G_b67 rfl W87 19 rfl (Nat.le_of_ble_eq_true rfl)
  have K87 : Keep h0 h87 [] := K86.wr W87 (Or.inr sz_b67)
  have N87 := Fr.snoc X87 N86 g_b67
  obtain ⟨cl_b67_256, Ar_b67, q_b67, S_b67, N_b67, H_b67, G_b67⟩ := V_b67_87
  have hin256 : ¬ ((20 : Int32) < 0 ∨ cl_b67_256.slots.size ≤ ((20 : Int32)).toNatClampNeg) := inb_of S_b67 ⟨by decide, by decide⟩
  obtain ⟨T88, h88, X88, e88, W88, st88⟩ := stI X87 hx hZ e87 Ar_b67 (j := (20 : Int32)) hin256 (g := (mkF m 256 #[.val (.int p1), .val (.int p2), .val (.ref b3), .unset, .unset, .unset, .unset] [(.int (1 : Int32)), (.int (20 : Int32)), (.ref b67), (.ref b67)])) rfl rfl (hb hby at_256)
  have V_b67_88 : Arv Z h88 b67 k67 .int (21 : Int32) [(.int (9 : Int32)), (.int (12 : Int32)), (.int (6 : Int32)), (.int (9 : Int32)), (.int (8 : Int32)), (.int (6 : Int32)), (.int (3 : Int32)), (.int (6 : Int32)), (.int (4 : Int32)), (.int (4 : Int32)), (.int (4 : Int32)), (.int (5 : Int32)), (.int (3 : Int32)), (.int (3 : Int32)), (.int (5 : Int32)), (.int (4 : Int32)), (.int (2 : Int32)), (.int (4 : Int32)), (.int (2 : Int32)), (.int (2 : Int32)), (.int (1 : Int32))] (.int (0 : Int32)) := Arv.set Ar_b67 q_b67 S_b67 N_b67 H_b67 G_b67 rfl W88 20 rfl (Nat.le_of_ble_eq_true rfl)
  have K88 : Keep h0 h88 [] := K87.wr W88 (Or.inr sz_b67)
  have N88 := Fr.snoc X88 N87 g_b67
  obtain ⟨cl_b67_276, Ar_b67, q_b67, S_b67, N_b67, H_b67, G_b67⟩ := V_b67_88
  have hin276 : ¬ (((p1 &&& (2147483647 : Int32)) % (21 : Int32)) < 0 ∨ cl_b67_276.slots.size ≤ (((p1 &&& (2147483647 : Int32)) % (21 : Int32))).toNatClampNeg) := inb_of S_b67 ⟨hn276, hl276⟩
  have hat276 : cl_b67_276.slots[(((p1 &&& (2147483647 : Int32)) % (21 : Int32))).toNatClampNeg]? = some (.int w89) := H_b67.at hin276 hv276
  obtain ⟨cl_b3_290, Ar_b3, q_b3, S_b3, N_b3, H_b3, G_b3⟩ := ((((((((((((((((((((((V_b3_66.ext E67).other W68 (Nat.ne_of_lt (Nat.lt_of_lt_of_le V_b3_66.lt (Nat.le_of_eq g67.symm)))).other W69 (Nat.ne_of_lt (Nat.lt_of_lt_of_le V_b3_66.lt (Nat.le_of_eq g67.symm)))).other W70 (Nat.ne_of_lt (Nat.lt_of_lt_of_le V_b3_66.lt (Nat.le_of_eq g67.symm)))).other W71 (Nat.ne_of_lt (Nat.lt_of_lt_of_le V_b3_66.lt (Nat.le_of_eq g67.symm)))).other W72 (Nat.ne_of_lt (Nat.lt_of_lt_of_le V_b3_66.lt (Nat.le_of_eq g67.symm)))).other W73 (Nat.ne_of_lt (Nat.lt_of_lt_of_le V_b3_66.lt (Nat.le_of_eq g67.symm)))).other W74 (Nat.ne_of_lt (Nat.lt_of_lt_of_le V_b3_66.lt (Nat.le_of_eq g67.symm)))).other W75 (Nat.ne_of_lt (Nat.lt_of_lt_of_le V_b3_66.lt (Nat.le_of_eq g67.symm)))).other W76 (Nat.ne_of_lt (Nat.lt_of_lt_of_le V_b3_66.lt (Nat.le_of_eq g67.symm)))).other W77 (Nat.ne_of_lt (Nat.lt_of_lt_of_le V_b3_66.lt (Nat.le_of_eq g67.symm)))).other W78 (Nat.ne_of_lt (Nat.lt_of_lt_of_le V_b3_66.lt (Nat.le_of_eq g67.symm)))).other W79 (Nat.ne_of_lt (Nat.lt_of_lt_of_le V_b3_66.lt (Nat.le_of_eq g67.symm)))).other W80 (Nat.ne_of_lt (Nat.lt_of_lt_of_le V_b3_66.lt (Nat.le_of_eq g67.symm)))).other W81 (Nat.ne_of_lt (Nat.lt_of_lt_of_le V_b3_66.lt (Nat.le_of_eq g67.symm)))).other W82 (Nat.ne_of_lt (Nat.lt_of_lt_of_le V_b3_66.lt (Nat.le_of_eq g67.symm)))).other W83 (Nat.ne_of_lt (Nat.lt_of_lt_of_le V_b3_66.lt (Nat.le_of_eq g67.symm)))).other W84 (Nat.ne_of_lt (Nat.lt_of_lt_of_le V_b3_66.lt (Nat.le_of_eq g67.symm)))).other W85 (Nat.ne_of_lt (Nat.lt_of_lt_of_le V_b3_66.lt (Nat.le_of_eq g67.symm)))).other W86 (Nat.ne_of_lt (Nat.lt_of_lt_of_le V_b3_66.lt (Nat.le_of_eq g67.symm)))).other W87 (Nat.ne_of_lt (Nat.lt_of_lt_of_le V_b3_66.lt (Nat.le_of_eq g67.symm)))).other W88 (Nat.ne_of_lt (Nat.lt_of_lt_of_le V_b3_66.lt (Nat.le_of_eq g67.symm))))
  have hin290 : ¬ (((p1 &&& (2147483647 : Int32)) % (21 : Int32)) < 0 ∨ cl_b3_290.slots.size ≤ (((p1 &&& (2147483647 : Int32)) % (21 : Int32))).toNatClampNeg) := inb_of S_b3 ⟨hn290, hl290⟩
  have hat290 : cl_b3_290.slots[(((p1 &&& (2147483647 : Int32)) % (21 : Int32))).toNatClampNeg]? = some (.ref w90) := H_b3.at hin290 hv290
  obtain ⟨LS, X88, N88⟩ : ∃ LS, Stand p l e room_1 s m #[(.int p1), (.int p2)] below meth c T88 LS 2 42 ∧ Fr n0 LS := ⟨_, X88, N88⟩
  obtain ⟨cq91, kq91, q91a, q91b, q91c⟩ := isOf hZ e88 (E_w90.keep K88)
  obtain ⟨_, _, ⟨T91, L91, k91, n91⟩, -, X91, ⟨Lc91, hQ91, l91, y91, z91⟩, st91⟩ := X88.virtualBack hx (y := (⟨"com/example/wyrd/wyrd/protocol/ApiKey", "isFlexible", "(S)Z"⟩ : MethodName)) (z := (⟨"com/example/wyrd/wyrd/protocol/ApiKey", "isFlexible", "(S)Z"⟩ : MethodName)) hown (mvT hZ (hw _ (List.mem_of_getElem? (i := 48) rfl))) (mvT hZ (hw _ (List.mem_of_getElem? (i := 49) rfl))) (notFace_of_selects (args := #[]) (mvT hZ (hw _ (List.mem_of_getElem? (i := 51) rfl)))) (mvT hZ (hw _ (List.mem_of_getElem? (i := 51) rfl))) (mvT hZ (hw _ (List.mem_of_getElem? (i := 50) rfl))) (by decide) (backOf (W := 0) (rm1_f l Z a0 hw [] w90 (p2.toInt16.toInt32) w89 h88 n0 (Nat.le_trans Z0 K88.1) (Fk.keep K88 List.not_mem_nil) hc277) hZ (hw _ (List.mem_of_getElem? (i := 52) rfl)) (hw _ (List.mem_of_getElem? (i := 3) rfl)) (by decide) (by decide)) q91a q91c (g := (mkF m 293 #[.val (.int p1), .val (.int p2), .val (.ref b3), .val (.ref b67), .val (.int ((p1 &&& (2147483647 : Int32)) % (21 : Int32))), .val (.int (p2.toInt16.toInt32)), .val (.int (1 : Int32))] [(.int (p2.toInt16.toInt32)), (.ref w90)])) rfl (by rw [hml]; rfl) (Steps.refl _) (argsL := [(.int (p2.toInt16.toInt32))]) (rest := []) (lenOf pd_0_0 rfl) rfl (by show 2 * 0 + _ ≤ _; exact Nat.le_of_eq rfl) (hb hby at_293) (fun _ _ => ⟨rfl, e88, (by decide : 2 + 0 ≤ _), (by decide : 42 + 0 ≤ _)⟩)
  dsimp only [Pt.U, Pt.locs, Pt.cells, Pt.slots] at X91 l91 y91 z91 st91 hQ91
  subst l91 y91 z91
  obtain ⟨rfl, N91q, eQq⟩ := hQ91
  have N91 := Fr.app N88 N91q
  obtain ⟨fs, hr, hrun, hended, hW, hsame⟩ := X91.leave (v := some (.int (1 : Int32))) (fun h => by rw [Bd.returns] at h; cases h)
  refine ⟨_, _, pre0 _ ?_, hrun, hended, _, _, rfl, ?_, ⟨_, rfl⟩, hW, hsame.mono (by decide) (by decide)⟩
  · show Steps p.tables e below (s₁.setTop (mkF m 0 #[.val (.int p1), .val (.int p2), .unset, .unset, .unset, .unset, .unset] [])) _
    refine XS.bipush X0.here hx rfl (hb hby at_0) ?_
    show Steps p.tables e below (s₁.setTop (mkF m 2 #[.val (.int p1), .val (.int p2), .unset, .unset, .unset, .unset, .unset] [(.int (21 : Int32))])) _
    refine st3 _ ?_
    show Steps p.tables e below (T3.setTop (mkF m 5 #[.val (.int p1), .val (.int p2), .unset, .unset, .unset, .unset, .unset] [(.ref b3)])) _
    refine XS.dup X3.here hx rfl (hb hby at_5) rfl rfl ?_
    show Steps p.tables e below (T3.setTop (mkF m 6 #[.val (.int p1), .val (.int p2), .unset, .unset, .unset, .unset, .unset] [(.ref b3), (.ref b3)])) _
    refine XS.iconst X3.here hx rfl (hb hby at_6) ?_
    show Steps p.tables e below (T3.setTop (mkF m 7 #[.val (.int p1), .val (.int p2), .unset, .unset, .unset, .unset, .unset] [(.int (0 : Int32)), (.ref b3), (.ref b3)])) _
    refine st5 _ ?_
    show Steps p.tables e below (T5.setTop (mkF m 10 #[.val (.int p1), .val (.int p2), .unset, .unset, .unset, .unset, .unset] [(.ref w4), (.int (0 : Int32)), (.ref b3), (.ref b3)])) _
    refine st6 _ ?_
    show Steps p.tables e below (T6.setTop (mkF m 11 #[.val (.int p1), .val (.int p2), .unset, .unset, .unset, .unset, .unset] [(.ref b3)])) _
    refine XS.dup X6.here hx rfl (hb hby at_11) rfl rfl ?_
    show Steps p.tables e below (T6.setTop (mkF m 12 #[.val (.int p1), .val (.int p2), .unset, .unset, .unset, .unset, .unset] [(.ref b3), (.ref b3)])) _
    refine XS.iconst X6.here hx rfl (hb hby at_12) ?_
    show Steps p.tables e below (T6.setTop (mkF m 13 #[.val (.int p1), .val (.int p2), .unset, .unset, .unset, .unset, .unset] [(.int (1 : Int32)), (.ref b3), (.ref b3)])) _
    refine st8 _ ?_
    show Steps p.tables e below (T8.setTop (mkF m 16 #[.val (.int p1), .val (.int p2), .unset, .unset, .unset, .unset, .unset] [(.ref w7), (.int (1 : Int32)), (.ref b3), (.ref b3)])) _
    refine st9 _ ?_
    show Steps p.tables e below (T9.setTop (mkF m 17 #[.val (.int p1), .val (.int p2), .unset, .unset, .unset, .unset, .unset] [(.ref b3)])) _
    refine XS.dup X9.here hx rfl (hb hby at_17) rfl rfl ?_
    show Steps p.tables e below (T9.setTop (mkF m 18 #[.val (.int p1), .val (.int p2), .unset, .unset, .unset, .unset, .unset] [(.ref b3), (.ref b3)])) _
    refine XS.iconst X9.here hx rfl (hb hby at_18) ?_
    show Steps p.tables e below (T9.setTop (mkF m 19 #[.val (.int p1), .val (.int p2), .unset, .unset, .unset, .unset, .unset] [(.int (2 : Int32)), (.ref b3), (.ref b3)])) _
    refine st11 _ ?_
    show Steps p.tables e below (T11.setTop (mkF m 22 #[.val (.int p1), .val (.int p2), .unset, .unset, .unset, .unset, .unset] [(.ref w10), (.int (2 : Int32)), (.ref b3), (.ref b3)])) _
    refine st12 _ ?_
    show Steps p.tables e below (T12.setTop (mkF m 23 #[.val (.int p1), .val (.int p2), .unset, .unset, .unset, .unset, .unset] [(.ref b3)])) _
    refine XS.dup X12.here hx rfl (hb hby at_23) rfl rfl ?_
    show Steps p.tables e below (T12.setTop (mkF m 24 #[.val (.int p1), .val (.int p2), .unset, .unset, .unset, .unset, .unset] [(.ref b3), (.ref b3)])) _
    refine XS.iconst X12.here hx rfl (hb hby at_24) ?_
    show Steps p.tables e below (T12.setTop (mkF m 25 #[.val (.int p1), .val (.int p2), .unset, .unset, .unset, .unset, .unset] [(.int (3 : Int32)), (.ref b3), (.ref b3)])) _
    refine st14 _ ?_
    show Steps p.tables e below (T14.setTop (mkF m 28 #[.val (.int p1), .val (.int p2), .unset, .unset, .unset, .unset, .unset] [(.ref w13), (.int (3 : Int32)), (.ref b3), (.ref b3)])) _
    refine st15 _ ?_
    show Steps p.tables e below (T15.setTop (mkF m 29 #[.val (.int p1), .val (.int p2), .unset, .unset, .unset, .unset, .unset] [(.ref b3)])) _
    refine XS.dup X15.here hx rfl (hb hby at_29) rfl rfl ?_
    show Steps p.tables e below (T15.setTop (mkF m 30 #[.val (.int p1), .val (.int p2), .unset, .unset, .unset, .unset, .unset] [(.ref b3), (.ref b3)])) _
    refine XS.iconst X15.here hx rfl (hb hby at_30) ?_
    show Steps p.tables e below (T15.setTop (mkF m 31 #[.val (.int p1), .val (.int p2), .unset, .unset, .unset, .unset, .unset] [(.int (4 : Int32)), (.ref b3), (.ref b3)])) _
    refine st17 _ ?_
    show Steps p.tables e below (T17.setTop (mkF m 34 #[.val (.int p1), .val (.int p2), .unset, .unset, .unset, .unset, .unset] [(.ref w16), (.int (4 : Int32)), (.ref b3), (.ref b3)])) _
    refine st18 _ ?_
    show Steps p.tables e below (T18.setTop (mkF m 35 #[.val (.int p1), .val (.int p2), .unset, .unset, .unset, .unset, .unset] [(.ref b3)])) _
    refine XS.dup X18.here hx rfl (hb hby at_35) rfl rfl ?_
    show Steps p.tables e below (T18.setTop (mkF m 36 #[.val (.int p1), .val (.int p2), .unset, .unset, .unset, .unset, .unset] [(.ref b3), (.ref b3)])) _
    refine XS.iconst X18.here hx rfl (hb hby at_36) ?_
    show Steps p.tables e below (T18.setTop (mkF m 37 #[.val (.int p1), .val (.int p2), .unset, .unset, .unset, .unset, .unset] [(.int (5 : Int32)), (.ref b3), (.ref b3)])) _
    refine st20 _ ?_
    show Steps p.tables e below (T20.setTop (mkF m 40 #[.val (.int p1), .val (.int p2), .unset, .unset, .unset, .unset, .unset] [(.ref w19), (.int (5 : Int32)), (.ref b3), (.ref b3)])) _
    refine st21 _ ?_
    show Steps p.tables e below (T21.setTop (mkF m 41 #[.val (.int p1), .val (.int p2), .unset, .unset, .unset, .unset, .unset] [(.ref b3)])) _
    refine XS.dup X21.here hx rfl (hb hby at_41) rfl rfl ?_
    show Steps p.tables e below (T21.setTop (mkF m 42 #[.val (.int p1), .val (.int p2), .unset, .unset, .unset, .unset, .unset] [(.ref b3), (.ref b3)])) _
    refine XS.bipush X21.here hx rfl (hb hby at_42) ?_
    show Steps p.tables e below (T21.setTop (mkF m 44 #[.val (.int p1), .val (.int p2), .unset, .unset, .unset, .unset, .unset] [(.int (6 : Int32)), (.ref b3), (.ref b3)])) _
    refine st23 _ ?_
    show Steps p.tables e below (T23.setTop (mkF m 47 #[.val (.int p1), .val (.int p2), .unset, .unset, .unset, .unset, .unset] [(.ref w22), (.int (6 : Int32)), (.ref b3), (.ref b3)])) _
    refine st24 _ ?_
    show Steps p.tables e below (T24.setTop (mkF m 48 #[.val (.int p1), .val (.int p2), .unset, .unset, .unset, .unset, .unset] [(.ref b3)])) _
    refine XS.dup X24.here hx rfl (hb hby at_48) rfl rfl ?_
    show Steps p.tables e below (T24.setTop (mkF m 49 #[.val (.int p1), .val (.int p2), .unset, .unset, .unset, .unset, .unset] [(.ref b3), (.ref b3)])) _
    refine XS.bipush X24.here hx rfl (hb hby at_49) ?_
    show Steps p.tables e below (T24.setTop (mkF m 51 #[.val (.int p1), .val (.int p2), .unset, .unset, .unset, .unset, .unset] [(.int (7 : Int32)), (.ref b3), (.ref b3)])) _
    refine st26 _ ?_
    show Steps p.tables e below (T26.setTop (mkF m 54 #[.val (.int p1), .val (.int p2), .unset, .unset, .unset, .unset, .unset] [(.ref w25), (.int (7 : Int32)), (.ref b3), (.ref b3)])) _
    refine st27 _ ?_
    show Steps p.tables e below (T27.setTop (mkF m 55 #[.val (.int p1), .val (.int p2), .unset, .unset, .unset, .unset, .unset] [(.ref b3)])) _
    refine XS.dup X27.here hx rfl (hb hby at_55) rfl rfl ?_
    show Steps p.tables e below (T27.setTop (mkF m 56 #[.val (.int p1), .val (.int p2), .unset, .unset, .unset, .unset, .unset] [(.ref b3), (.ref b3)])) _
    refine XS.bipush X27.here hx rfl (hb hby at_56) ?_
    show Steps p.tables e below (T27.setTop (mkF m 58 #[.val (.int p1), .val (.int p2), .unset, .unset, .unset, .unset, .unset] [(.int (8 : Int32)), (.ref b3), (.ref b3)])) _
    refine st29 _ ?_
    show Steps p.tables e below (T29.setTop (mkF m 61 #[.val (.int p1), .val (.int p2), .unset, .unset, .unset, .unset, .unset] [(.ref w28), (.int (8 : Int32)), (.ref b3), (.ref b3)])) _
    refine st30 _ ?_
    show Steps p.tables e below (T30.setTop (mkF m 62 #[.val (.int p1), .val (.int p2), .unset, .unset, .unset, .unset, .unset] [(.ref b3)])) _
    refine XS.dup X30.here hx rfl (hb hby at_62) rfl rfl ?_
    show Steps p.tables e below (T30.setTop (mkF m 63 #[.val (.int p1), .val (.int p2), .unset, .unset, .unset, .unset, .unset] [(.ref b3), (.ref b3)])) _
    refine XS.bipush X30.here hx rfl (hb hby at_63) ?_
    show Steps p.tables e below (T30.setTop (mkF m 65 #[.val (.int p1), .val (.int p2), .unset, .unset, .unset, .unset, .unset] [(.int (9 : Int32)), (.ref b3), (.ref b3)])) _
    refine st32 _ ?_
    show Steps p.tables e below (T32.setTop (mkF m 68 #[.val (.int p1), .val (.int p2), .unset, .unset, .unset, .unset, .unset] [(.ref w31), (.int (9 : Int32)), (.ref b3), (.ref b3)])) _
    refine st33 _ ?_
    show Steps p.tables e below (T33.setTop (mkF m 69 #[.val (.int p1), .val (.int p2), .unset, .unset, .unset, .unset, .unset] [(.ref b3)])) _
    refine XS.dup X33.here hx rfl (hb hby at_69) rfl rfl ?_
    show Steps p.tables e below (T33.setTop (mkF m 70 #[.val (.int p1), .val (.int p2), .unset, .unset, .unset, .unset, .unset] [(.ref b3), (.ref b3)])) _
    refine XS.bipush X33.here hx rfl (hb hby at_70) ?_
    show Steps p.tables e below (T33.setTop (mkF m 72 #[.val (.int p1), .val (.int p2), .unset, .unset, .unset, .unset, .unset] [(.int (10 : Int32)), (.ref b3), (.ref b3)])) _
    refine st35 _ ?_
    show Steps p.tables e below (T35.setTop (mkF m 75 #[.val (.int p1), .val (.int p2), .unset, .unset, .unset, .unset, .unset] [(.ref w34), (.int (10 : Int32)), (.ref b3), (.ref b3)])) _
    refine st36 _ ?_
    show Steps p.tables e below (T36.setTop (mkF m 76 #[.val (.int p1), .val (.int p2), .unset, .unset, .unset, .unset, .unset] [(.ref b3)])) _
    refine XS.dup X36.here hx rfl (hb hby at_76) rfl rfl ?_
    show Steps p.tables e below (T36.setTop (mkF m 77 #[.val (.int p1), .val (.int p2), .unset, .unset, .unset, .unset, .unset] [(.ref b3), (.ref b3)])) _
    refine XS.bipush X36.here hx rfl (hb hby at_77) ?_
    show Steps p.tables e below (T36.setTop (mkF m 79 #[.val (.int p1), .val (.int p2), .unset, .unset, .unset, .unset, .unset] [(.int (11 : Int32)), (.ref b3), (.ref b3)])) _
    refine st38 _ ?_
    show Steps p.tables e below (T38.setTop (mkF m 82 #[.val (.int p1), .val (.int p2), .unset, .unset, .unset, .unset, .unset] [(.ref w37), (.int (11 : Int32)), (.ref b3), (.ref b3)])) _
    refine st39 _ ?_
    show Steps p.tables e below (T39.setTop (mkF m 83 #[.val (.int p1), .val (.int p2), .unset, .unset, .unset, .unset, .unset] [(.ref b3)])) _
    refine XS.dup X39.here hx rfl (hb hby at_83) rfl rfl ?_
    show Steps p.tables e below (T39.setTop (mkF m 84 #[.val (.int p1), .val (.int p2), .unset, .unset, .unset, .unset, .unset] [(.ref b3), (.ref b3)])) _
    refine XS.bipush X39.here hx rfl (hb hby at_84) ?_
    show Steps p.tables e below (T39.setTop (mkF m 86 #[.val (.int p1), .val (.int p2), .unset, .unset, .unset, .unset, .unset] [(.int (12 : Int32)), (.ref b3), (.ref b3)])) _
    refine st41 _ ?_
    show Steps p.tables e below (T41.setTop (mkF m 89 #[.val (.int p1), .val (.int p2), .unset, .unset, .unset, .unset, .unset] [(.ref w40), (.int (12 : Int32)), (.ref b3), (.ref b3)])) _
    refine st42 _ ?_
    show Steps p.tables e below (T42.setTop (mkF m 90 #[.val (.int p1), .val (.int p2), .unset, .unset, .unset, .unset, .unset] [(.ref b3)])) _
    refine XS.dup X42.here hx rfl (hb hby at_90) rfl rfl ?_
    show Steps p.tables e below (T42.setTop (mkF m 91 #[.val (.int p1), .val (.int p2), .unset, .unset, .unset, .unset, .unset] [(.ref b3), (.ref b3)])) _
    refine XS.bipush X42.here hx rfl (hb hby at_91) ?_
    show Steps p.tables e below (T42.setTop (mkF m 93 #[.val (.int p1), .val (.int p2), .unset, .unset, .unset, .unset, .unset] [(.int (13 : Int32)), (.ref b3), (.ref b3)])) _
    refine st44 _ ?_
    show Steps p.tables e below (T44.setTop (mkF m 96 #[.val (.int p1), .val (.int p2), .unset, .unset, .unset, .unset, .unset] [(.ref w43), (.int (13 : Int32)), (.ref b3), (.ref b3)])) _
    refine st45 _ ?_
    show Steps p.tables e below (T45.setTop (mkF m 97 #[.val (.int p1), .val (.int p2), .unset, .unset, .unset, .unset, .unset] [(.ref b3)])) _
    refine XS.dup X45.here hx rfl (hb hby at_97) rfl rfl ?_
    show Steps p.tables e below (T45.setTop (mkF m 98 #[.val (.int p1), .val (.int p2), .unset, .unset, .unset, .unset, .unset] [(.ref b3), (.ref b3)])) _
    refine XS.bipush X45.here hx rfl (hb hby at_98) ?_
    show Steps p.tables e below (T45.setTop (mkF m 100 #[.val (.int p1), .val (.int p2), .unset, .unset, .unset, .unset, .unset] [(.int (14 : Int32)), (.ref b3), (.ref b3)])) _
    refine st47 _ ?_
    show Steps p.tables e below (T47.setTop (mkF m 103 #[.val (.int p1), .val (.int p2), .unset, .unset, .unset, .unset, .unset] [(.ref w46), (.int (14 : Int32)), (.ref b3), (.ref b3)])) _
    refine st48 _ ?_
    show Steps p.tables e below (T48.setTop (mkF m 104 #[.val (.int p1), .val (.int p2), .unset, .unset, .unset, .unset, .unset] [(.ref b3)])) _
    refine XS.dup X48.here hx rfl (hb hby at_104) rfl rfl ?_
    show Steps p.tables e below (T48.setTop (mkF m 105 #[.val (.int p1), .val (.int p2), .unset, .unset, .unset, .unset, .unset] [(.ref b3), (.ref b3)])) _
    refine XS.bipush X48.here hx rfl (hb hby at_105) ?_
    show Steps p.tables e below (T48.setTop (mkF m 107 #[.val (.int p1), .val (.int p2), .unset, .unset, .unset, .unset, .unset] [(.int (15 : Int32)), (.ref b3), (.ref b3)])) _
    refine st50 _ ?_
    show Steps p.tables e below (T50.setTop (mkF m 110 #[.val (.int p1), .val (.int p2), .unset, .unset, .unset, .unset, .unset] [(.ref w49), (.int (15 : Int32)), (.ref b3), (.ref b3)])) _
    refine st51 _ ?_
    show Steps p.tables e below (T51.setTop (mkF m 111 #[.val (.int p1), .val (.int p2), .unset, .unset, .unset, .unset, .unset] [(.ref b3)])) _
    refine XS.dup X51.here hx rfl (hb hby at_111) rfl rfl ?_
    show Steps p.tables e below (T51.setTop (mkF m 112 #[.val (.int p1), .val (.int p2), .unset, .unset, .unset, .unset, .unset] [(.ref b3), (.ref b3)])) _
    refine XS.bipush X51.here hx rfl (hb hby at_112) ?_
    show Steps p.tables e below (T51.setTop (mkF m 114 #[.val (.int p1), .val (.int p2), .unset, .unset, .unset, .unset, .unset] [(.int (16 : Int32)), (.ref b3), (.ref b3)])) _
    refine st53 _ ?_
    show Steps p.tables e below (T53.setTop (mkF m 117 #[.val (.int p1), .val (.int p2), .unset, .unset, .unset, .unset, .unset] [(.ref w52), (.int (16 : Int32)), (.ref b3), (.ref b3)])) _
    refine st54 _ ?_
    show Steps p.tables e below (T54.setTop (mkF m 118 #[.val (.int p1), .val (.int p2), .unset, .unset, .unset, .unset, .unset] [(.ref b3)])) _
    refine XS.dup X54.here hx rfl (hb hby at_118) rfl rfl ?_
    show Steps p.tables e below (T54.setTop (mkF m 119 #[.val (.int p1), .val (.int p2), .unset, .unset, .unset, .unset, .unset] [(.ref b3), (.ref b3)])) _
    refine XS.bipush X54.here hx rfl (hb hby at_119) ?_
    show Steps p.tables e below (T54.setTop (mkF m 121 #[.val (.int p1), .val (.int p2), .unset, .unset, .unset, .unset, .unset] [(.int (17 : Int32)), (.ref b3), (.ref b3)])) _
    refine st56 _ ?_
    show Steps p.tables e below (T56.setTop (mkF m 124 #[.val (.int p1), .val (.int p2), .unset, .unset, .unset, .unset, .unset] [(.ref w55), (.int (17 : Int32)), (.ref b3), (.ref b3)])) _
    refine st57 _ ?_
    show Steps p.tables e below (T57.setTop (mkF m 125 #[.val (.int p1), .val (.int p2), .unset, .unset, .unset, .unset, .unset] [(.ref b3)])) _
    refine XS.dup X57.here hx rfl (hb hby at_125) rfl rfl ?_
    show Steps p.tables e below (T57.setTop (mkF m 126 #[.val (.int p1), .val (.int p2), .unset, .unset, .unset, .unset, .unset] [(.ref b3), (.ref b3)])) _
    refine XS.bipush X57.here hx rfl (hb hby at_126) ?_
    show Steps p.tables e below (T57.setTop (mkF m 128 #[.val (.int p1), .val (.int p2), .unset, .unset, .unset, .unset, .unset] [(.int (18 : Int32)), (.ref b3), (.ref b3)])) _
    refine st59 _ ?_
    show Steps p.tables e below (T59.setTop (mkF m 131 #[.val (.int p1), .val (.int p2), .unset, .unset, .unset, .unset, .unset] [(.ref w58), (.int (18 : Int32)), (.ref b3), (.ref b3)])) _
    refine st60 _ ?_
    show Steps p.tables e below (T60.setTop (mkF m 132 #[.val (.int p1), .val (.int p2), .unset, .unset, .unset, .unset, .unset] [(.ref b3)])) _
    refine XS.dup X60.here hx rfl (hb hby at_132) rfl rfl ?_
    show Steps p.tables e below (T60.setTop (mkF m 133 #[.val (.int p1), .val (.int p2), .unset, .unset, .unset, .unset, .unset] [(.ref b3), (.ref b3)])) _
    refine XS.bipush X60.here hx rfl (hb hby at_133) ?_
    show Steps p.tables e below (T60.setTop (mkF m 135 #[.val (.int p1), .val (.int p2), .unset, .unset, .unset, .unset, .unset] [(.int (19 : Int32)), (.ref b3), (.ref b3)])) _
    refine st62 _ ?_
    show Steps p.tables e below (T62.setTop (mkF m 138 #[.val (.int p1), .val (.int p2), .unset, .unset, .unset, .unset, .unset] [(.ref w61), (.int (19 : Int32)), (.ref b3), (.ref b3)])) _
    refine st63 _ ?_
    show Steps p.tables e below (T63.setTop (mkF m 139 #[.val (.int p1), .val (.int p2), .unset, .unset, .unset, .unset, .unset] [(.ref b3)])) _
    refine XS.dup X63.here hx rfl (hb hby at_139) rfl rfl ?_
    show Steps p.tables e below (T63.setTop (mkF m 140 #[.val (.int p1), .val (.int p2), .unset, .unset, .unset, .unset, .unset] [(.ref b3), (.ref b3)])) _
    refine XS.bipush X63.here hx rfl (hb hby at_140) ?_
    show Steps p.tables e below (T63.setTop (mkF m 142 #[.val (.int p1), .val (.int p2), .unset, .unset, .unset, .unset, .unset] [(.int (20 : Int32)), (.ref b3), (.ref b3)])) _
    refine st65 _ ?_
    show Steps p.tables e below (T65.setTop (mkF m 145 #[.val (.int p1), .val (.int p2), .unset, .unset, .unset, .unset, .unset] [(.ref w64), (.int (20 : Int32)), (.ref b3), (.ref b3)])) _
    refine st66 _ ?_
    show Steps p.tables e below (T66.setTop (mkF m 146 #[.val (.int p1), .val (.int p2), .unset, .unset, .unset, .unset, .unset] [(.ref b3)])) _
    refine XS.astoreN X66.here hx rfl (hb hby at_146) rfl rfl (l' := #[.val (.int p1), .val (.int p2), .val (.ref b3), .unset, .unset, .unset, .unset]) rfl ?_
    show Steps p.tables e below (T66.setTop (mkF m 147 #[.val (.int p1), .val (.int p2), .val (.ref b3), .unset, .unset, .unset, .unset] [])) _
    refine XS.bipush X66.here hx rfl (hb hby at_147) ?_
    show Steps p.tables e below (T66.setTop (mkF m 149 #[.val (.int p1), .val (.int p2), .val (.ref b3), .unset, .unset, .unset, .unset] [(.int (21 : Int32))])) _
    refine st67 _ ?_
    show Steps p.tables e below (T67.setTop (mkF m 151 #[.val (.int p1), .val (.int p2), .val (.ref b3), .unset, .unset, .unset, .unset] [(.ref b67)])) _
    refine XS.dup X67.here hx rfl (hb hby at_151) rfl rfl ?_
    show Steps p.tables e below (T67.setTop (mkF m 152 #[.val (.int p1), .val (.int p2), .val (.ref b3), .unset, .unset, .unset, .unset] [(.ref b67), (.ref b67)])) _
    refine XS.iconst X67.here hx rfl (hb hby at_152) ?_
    show Steps p.tables e below (T67.setTop (mkF m 153 #[.val (.int p1), .val (.int p2), .val (.ref b3), .unset, .unset, .unset, .unset] [(.int (0 : Int32)), (.ref b67), (.ref b67)])) _
    refine XS.bipush X67.here hx rfl (hb hby at_153) ?_
    show Steps p.tables e below (T67.setTop (mkF m 155 #[.val (.int p1), .val (.int p2), .val (.ref b3), .unset, .unset, .unset, .unset] [(.int (9 : Int32)), (.int (0 : Int32)), (.ref b67), (.ref b67)])) _
    refine st68 _ ?_
    show Steps p.tables e below (T68.setTop (mkF m 156 #[.val (.int p1), .val (.int p2), .val (.ref b3), .unset, .unset, .unset, .unset] [(.ref b67)])) _
    refine XS.dup X68.here hx rfl (hb hby at_156) rfl rfl ?_
    show Steps p.tables e below (T68.setTop (mkF m 157 #[.val (.int p1), .val (.int p2), .val (.ref b3), .unset, .unset, .unset, .unset] [(.ref b67), (.ref b67)])) _
    refine XS.iconst X68.here hx rfl (hb hby at_157) ?_
    show Steps p.tables e below (T68.setTop (mkF m 158 #[.val (.int p1), .val (.int p2), .val (.ref b3), .unset, .unset, .unset, .unset] [(.int (1 : Int32)), (.ref b67), (.ref b67)])) _
    refine XS.bipush X68.here hx rfl (hb hby at_158) ?_
    show Steps p.tables e below (T68.setTop (mkF m 160 #[.val (.int p1), .val (.int p2), .val (.ref b3), .unset, .unset, .unset, .unset] [(.int (12 : Int32)), (.int (1 : Int32)), (.ref b67), (.ref b67)])) _
    refine st69 _ ?_
    show Steps p.tables e below (T69.setTop (mkF m 161 #[.val (.int p1), .val (.int p2), .val (.ref b3), .unset, .unset, .unset, .unset] [(.ref b67)])) _
    refine XS.dup X69.here hx rfl (hb hby at_161) rfl rfl ?_
    show Steps p.tables e below (T69.setTop (mkF m 162 #[.val (.int p1), .val (.int p2), .val (.ref b3), .unset, .unset, .unset, .unset] [(.ref b67), (.ref b67)])) _
    refine XS.iconst X69.here hx rfl (hb hby at_162) ?_
    show Steps p.tables e below (T69.setTop (mkF m 163 #[.val (.int p1), .val (.int p2), .val (.ref b3), .unset, .unset, .unset, .unset] [(.int (2 : Int32)), (.ref b67), (.ref b67)])) _
    refine XS.bipush X69.here hx rfl (hb hby at_163) ?_
    show Steps p.tables e below (T69.setTop (mkF m 165 #[.val (.int p1), .val (.int p2), .val (.ref b3), .unset, .unset, .unset, .unset] [(.int (6 : Int32)), (.int (2 : Int32)), (.ref b67), (.ref b67)])) _
    refine st70 _ ?_
    show Steps p.tables e below (T70.setTop (mkF m 166 #[.val (.int p1), .val (.int p2), .val (.ref b3), .unset, .unset, .unset, .unset] [(.ref b67)])) _
    refine XS.dup X70.here hx rfl (hb hby at_166) rfl rfl ?_
    show Steps p.tables e below (T70.setTop (mkF m 167 #[.val (.int p1), .val (.int p2), .val (.ref b3), .unset, .unset, .unset, .unset] [(.ref b67), (.ref b67)])) _
    refine XS.iconst X70.here hx rfl (hb hby at_167) ?_
    show Steps p.tables e below (T70.setTop (mkF m 168 #[.val (.int p1), .val (.int p2), .val (.ref b3), .unset, .unset, .unset, .unset] [(.int (3 : Int32)), (.ref b67), (.ref b67)])) _
    refine XS.bipush X70.here hx rfl (hb hby at_168) ?_
    show Steps p.tables e below (T70.setTop (mkF m 170 #[.val (.int p1), .val (.int p2), .val (.ref b3), .unset, .unset, .unset, .unset] [(.int (9 : Int32)), (.int (3 : Int32)), (.ref b67), (.ref b67)])) _
    refine st71 _ ?_
    show Steps p.tables e below (T71.setTop (mkF m 171 #[.val (.int p1), .val (.int p2), .val (.ref b3), .unset, .unset, .unset, .unset] [(.ref b67)])) _
    refine XS.dup X71.here hx rfl (hb hby at_171) rfl rfl ?_
    show Steps p.tables e below (T71.setTop (mkF m 172 #[.val (.int p1), .val (.int p2), .val (.ref b3), .unset, .unset, .unset, .unset] [(.ref b67), (.ref b67)])) _
    refine XS.iconst X71.here hx rfl (hb hby at_172) ?_
    show Steps p.tables e below (T71.setTop (mkF m 173 #[.val (.int p1), .val (.int p2), .val (.ref b3), .unset, .unset, .unset, .unset] [(.int (4 : Int32)), (.ref b67), (.ref b67)])) _
    refine XS.bipush X71.here hx rfl (hb hby at_173) ?_
    show Steps p.tables e below (T71.setTop (mkF m 175 #[.val (.int p1), .val (.int p2), .val (.ref b3), .unset, .unset, .unset, .unset] [(.int (8 : Int32)), (.int (4 : Int32)), (.ref b67), (.ref b67)])) _
    refine st72 _ ?_
    show Steps p.tables e below (T72.setTop (mkF m 176 #[.val (.int p1), .val (.int p2), .val (.ref b3), .unset, .unset, .unset, .unset] [(.ref b67)])) _
    refine XS.dup X72.here hx rfl (hb hby at_176) rfl rfl ?_
    show Steps p.tables e below (T72.setTop (mkF m 177 #[.val (.int p1), .val (.int p2), .val (.ref b3), .unset, .unset, .unset, .unset] [(.ref b67), (.ref b67)])) _
    refine XS.iconst X72.here hx rfl (hb hby at_177) ?_
    show Steps p.tables e below (T72.setTop (mkF m 178 #[.val (.int p1), .val (.int p2), .val (.ref b3), .unset, .unset, .unset, .unset] [(.int (5 : Int32)), (.ref b67), (.ref b67)])) _
    refine XS.bipush X72.here hx rfl (hb hby at_178) ?_
    show Steps p.tables e below (T72.setTop (mkF m 180 #[.val (.int p1), .val (.int p2), .val (.ref b3), .unset, .unset, .unset, .unset] [(.int (6 : Int32)), (.int (5 : Int32)), (.ref b67), (.ref b67)])) _
    refine st73 _ ?_
    show Steps p.tables e below (T73.setTop (mkF m 181 #[.val (.int p1), .val (.int p2), .val (.ref b3), .unset, .unset, .unset, .unset] [(.ref b67)])) _
    refine XS.dup X73.here hx rfl (hb hby at_181) rfl rfl ?_
    show Steps p.tables e below (T73.setTop (mkF m 182 #[.val (.int p1), .val (.int p2), .val (.ref b3), .unset, .unset, .unset, .unset] [(.ref b67), (.ref b67)])) _
    refine XS.bipush X73.here hx rfl (hb hby at_182) ?_
    show Steps p.tables e below (T73.setTop (mkF m 184 #[.val (.int p1), .val (.int p2), .val (.ref b3), .unset, .unset, .unset, .unset] [(.int (6 : Int32)), (.ref b67), (.ref b67)])) _
    refine XS.iconst X73.here hx rfl (hb hby at_184) ?_
    show Steps p.tables e below (T73.setTop (mkF m 185 #[.val (.int p1), .val (.int p2), .val (.ref b3), .unset, .unset, .unset, .unset] [(.int (3 : Int32)), (.int (6 : Int32)), (.ref b67), (.ref b67)])) _
    refine st74 _ ?_
    show Steps p.tables e below (T74.setTop (mkF m 186 #[.val (.int p1), .val (.int p2), .val (.ref b3), .unset, .unset, .unset, .unset] [(.ref b67)])) _
    refine XS.dup X74.here hx rfl (hb hby at_186) rfl rfl ?_
    show Steps p.tables e below (T74.setTop (mkF m 187 #[.val (.int p1), .val (.int p2), .val (.ref b3), .unset, .unset, .unset, .unset] [(.ref b67), (.ref b67)])) _
    refine XS.bipush X74.here hx rfl (hb hby at_187) ?_
    show Steps p.tables e below (T74.setTop (mkF m 189 #[.val (.int p1), .val (.int p2), .val (.ref b3), .unset, .unset, .unset, .unset] [(.int (7 : Int32)), (.ref b67), (.ref b67)])) _
    refine XS.bipush X74.here hx rfl (hb hby at_189) ?_
    show Steps p.tables e below (T74.setTop (mkF m 191 #[.val (.int p1), .val (.int p2), .val (.ref b3), .unset, .unset, .unset, .unset] [(.int (6 : Int32)), (.int (7 : Int32)), (.ref b67), (.ref b67)])) _
    refine st75 _ ?_
    show Steps p.tables e below (T75.setTop (mkF m 192 #[.val (.int p1), .val (.int p2), .val (.ref b3), .unset, .unset, .unset, .unset] [(.ref b67)])) _
    refine XS.dup X75.here hx rfl (hb hby at_192) rfl rfl ?_
    show Steps p.tables e below (T75.setTop (mkF m 193 #[.val (.int p1), .val (.int p2), .val (.ref b3), .unset, .unset, .unset, .unset] [(.ref b67), (.ref b67)])) _
    refine XS.bipush X75.here hx rfl (hb hby at_193) ?_
    show Steps p.tables e below (T75.setTop (mkF m 195 #[.val (.int p1), .val (.int p2), .val (.ref b3), .unset, .unset, .unset, .unset] [(.int (8 : Int32)), (.ref b67), (.ref b67)])) _
    refine XS.iconst X75.here hx rfl (hb hby at_195) ?_
    show Steps p.tables e below (T75.setTop (mkF m 196 #[.val (.int p1), .val (.int p2), .val (.ref b3), .unset, .unset, .unset, .unset] [(.int (4 : Int32)), (.int (8 : Int32)), (.ref b67), (.ref b67)])) _
    refine st76 _ ?_
    show Steps p.tables e below (T76.setTop (mkF m 197 #[.val (.int p1), .val (.int p2), .val (.ref b3), .unset, .unset, .unset, .unset] [(.ref b67)])) _
    refine XS.dup X76.here hx rfl (hb hby at_197) rfl rfl ?_
    show Steps p.tables e below (T76.setTop (mkF m 198 #[.val (.int p1), .val (.int p2), .val (.ref b3), .unset, .unset, .unset, .unset] [(.ref b67), (.ref b67)])) _
    refine XS.bipush X76.here hx rfl (hb hby at_198) ?_
    show Steps p.tables e below (T76.setTop (mkF m 200 #[.val (.int p1), .val (.int p2), .val (.ref b3), .unset, .unset, .unset, .unset] [(.int (9 : Int32)), (.ref b67), (.ref b67)])) _
    refine XS.iconst X76.here hx rfl (hb hby at_200) ?_
    show Steps p.tables e below (T76.setTop (mkF m 201 #[.val (.int p1), .val (.int p2), .val (.ref b3), .unset, .unset, .unset, .unset] [(.int (4 : Int32)), (.int (9 : Int32)), (.ref b67), (.ref b67)])) _
    refine st77 _ ?_
    show Steps p.tables e below (T77.setTop (mkF m 202 #[.val (.int p1), .val (.int p2), .val (.ref b3), .unset, .unset, .unset, .unset] [(.ref b67)])) _
    refine XS.dup X77.here hx rfl (hb hby at_202) rfl rfl ?_
    show Steps p.tables e below (T77.setTop (mkF m 203 #[.val (.int p1), .val (.int p2), .val (.ref b3), .unset, .unset, .unset, .unset] [(.ref b67), (.ref b67)])) _
    refine XS.bipush X77.here hx rfl (hb hby at_203) ?_
    show Steps p.tables e below (T77.setTop (mkF m 205 #[.val (.int p1), .val (.int p2), .val (.ref b3), .unset, .unset, .unset, .unset] [(.int (10 : Int32)), (.ref b67), (.ref b67)])) _
    refine XS.iconst X77.here hx rfl (hb hby at_205) ?_
    show Steps p.tables e below (T77.setTop (mkF m 206 #[.val (.int p1), .val (.int p2), .val (.ref b3), .unset, .unset, .unset, .unset] [(.int (4 : Int32)), (.int (10 : Int32)), (.ref b67), (.ref b67)])) _
    refine st78 _ ?_
    show Steps p.tables e below (T78.setTop (mkF m 207 #[.val (.int p1), .val (.int p2), .val (.ref b3), .unset, .unset, .unset, .unset] [(.ref b67)])) _
    refine XS.dup X78.here hx rfl (hb hby at_207) rfl rfl ?_
    show Steps p.tables e below (T78.setTop (mkF m 208 #[.val (.int p1), .val (.int p2), .val (.ref b3), .unset, .unset, .unset, .unset] [(.ref b67), (.ref b67)])) _
    refine XS.bipush X78.here hx rfl (hb hby at_208) ?_
    show Steps p.tables e below (T78.setTop (mkF m 210 #[.val (.int p1), .val (.int p2), .val (.ref b3), .unset, .unset, .unset, .unset] [(.int (11 : Int32)), (.ref b67), (.ref b67)])) _
    refine XS.iconst X78.here hx rfl (hb hby at_210) ?_
    show Steps p.tables e below (T78.setTop (mkF m 211 #[.val (.int p1), .val (.int p2), .val (.ref b3), .unset, .unset, .unset, .unset] [(.int (5 : Int32)), (.int (11 : Int32)), (.ref b67), (.ref b67)])) _
    refine st79 _ ?_
    show Steps p.tables e below (T79.setTop (mkF m 212 #[.val (.int p1), .val (.int p2), .val (.ref b3), .unset, .unset, .unset, .unset] [(.ref b67)])) _
    refine XS.dup X79.here hx rfl (hb hby at_212) rfl rfl ?_
    show Steps p.tables e below (T79.setTop (mkF m 213 #[.val (.int p1), .val (.int p2), .val (.ref b3), .unset, .unset, .unset, .unset] [(.ref b67), (.ref b67)])) _
    refine XS.bipush X79.here hx rfl (hb hby at_213) ?_
    show Steps p.tables e below (T79.setTop (mkF m 215 #[.val (.int p1), .val (.int p2), .val (.ref b3), .unset, .unset, .unset, .unset] [(.int (12 : Int32)), (.ref b67), (.ref b67)])) _
    refine XS.iconst X79.here hx rfl (hb hby at_215) ?_
    show Steps p.tables e below (T79.setTop (mkF m 216 #[.val (.int p1), .val (.int p2), .val (.ref b3), .unset, .unset, .unset, .unset] [(.int (3 : Int32)), (.int (12 : Int32)), (.ref b67), (.ref b67)])) _
    refine st80 _ ?_
    show Steps p.tables e below (T80.setTop (mkF m 217 #[.val (.int p1), .val (.int p2), .val (.ref b3), .unset, .unset, .unset, .unset] [(.ref b67)])) _
    refine XS.dup X80.here hx rfl (hb hby at_217) rfl rfl ?_
    show Steps p.tables e below (T80.setTop (mkF m 218 #[.val (.int p1), .val (.int p2), .val (.ref b3), .unset, .unset, .unset, .unset] [(.ref b67), (.ref b67)])) _
    refine XS.bipush X80.here hx rfl (hb hby at_218) ?_
    show Steps p.tables e below (T80.setTop (mkF m 220 #[.val (.int p1), .val (.int p2), .val (.ref b3), .unset, .unset, .unset, .unset] [(.int (13 : Int32)), (.ref b67), (.ref b67)])) _
    refine XS.iconst X80.here hx rfl (hb hby at_220) ?_
    show Steps p.tables e below (T80.setTop (mkF m 221 #[.val (.int p1), .val (.int p2), .val (.ref b3), .unset, .unset, .unset, .unset] [(.int (3 : Int32)), (.int (13 : Int32)), (.ref b67), (.ref b67)])) _
    refine st81 _ ?_
    show Steps p.tables e below (T81.setTop (mkF m 222 #[.val (.int p1), .val (.int p2), .val (.ref b3), .unset, .unset, .unset, .unset] [(.ref b67)])) _
    refine XS.dup X81.here hx rfl (hb hby at_222) rfl rfl ?_
    show Steps p.tables e below (T81.setTop (mkF m 223 #[.val (.int p1), .val (.int p2), .val (.ref b3), .unset, .unset, .unset, .unset] [(.ref b67), (.ref b67)])) _
    refine XS.bipush X81.here hx rfl (hb hby at_223) ?_
    show Steps p.tables e below (T81.setTop (mkF m 225 #[.val (.int p1), .val (.int p2), .val (.ref b3), .unset, .unset, .unset, .unset] [(.int (14 : Int32)), (.ref b67), (.ref b67)])) _
    refine XS.iconst X81.here hx rfl (hb hby at_225) ?_
    show Steps p.tables e below (T81.setTop (mkF m 226 #[.val (.int p1), .val (.int p2), .val (.ref b3), .unset, .unset, .unset, .unset] [(.int (5 : Int32)), (.int (14 : Int32)), (.ref b67), (.ref b67)])) _
    refine st82 _ ?_
    show Steps p.tables e below (T82.setTop (mkF m 227 #[.val (.int p1), .val (.int p2), .val (.ref b3), .unset, .unset, .unset, .unset] [(.ref b67)])) _
    refine XS.dup X82.here hx rfl (hb hby at_227) rfl rfl ?_
    show Steps p.tables e below (T82.setTop (mkF m 228 #[.val (.int p1), .val (.int p2), .val (.ref b3), .unset, .unset, .unset, .unset] [(.ref b67), (.ref b67)])) _
    refine XS.bipush X82.here hx rfl (hb hby at_228) ?_
    show Steps p.tables e below (T82.setTop (mkF m 230 #[.val (.int p1), .val (.int p2), .val (.ref b3), .unset, .unset, .unset, .unset] [(.int (15 : Int32)), (.ref b67), (.ref b67)])) _
    refine XS.iconst X82.here hx rfl (hb hby at_230) ?_
    show Steps p.tables e below (T82.setTop (mkF m 231 #[.val (.int p1), .val (.int p2), .val (.ref b3), .unset, .unset, .unset, .unset] [(.int (4 : Int32)), (.int (15 : Int32)), (.ref b67), (.ref b67)])) _
    refine st83 _ ?_
    show Steps p.tables e below (T83.setTop (mkF m 232 #[.val (.int p1), .val (.int p2), .val (.ref b3), .unset, .unset, .unset, .unset] [(.ref b67)])) _
    refine XS.dup X83.here hx rfl (hb hby at_232) rfl rfl ?_
    show Steps p.tables e below (T83.setTop (mkF m 233 #[.val (.int p1), .val (.int p2), .val (.ref b3), .unset, .unset, .unset, .unset] [(.ref b67), (.ref b67)])) _
    refine XS.bipush X83.here hx rfl (hb hby at_233) ?_
    show Steps p.tables e below (T83.setTop (mkF m 235 #[.val (.int p1), .val (.int p2), .val (.ref b3), .unset, .unset, .unset, .unset] [(.int (16 : Int32)), (.ref b67), (.ref b67)])) _
    refine XS.iconst X83.here hx rfl (hb hby at_235) ?_
    show Steps p.tables e below (T83.setTop (mkF m 236 #[.val (.int p1), .val (.int p2), .val (.ref b3), .unset, .unset, .unset, .unset] [(.int (2 : Int32)), (.int (16 : Int32)), (.ref b67), (.ref b67)])) _
    refine st84 _ ?_
    show Steps p.tables e below (T84.setTop (mkF m 237 #[.val (.int p1), .val (.int p2), .val (.ref b3), .unset, .unset, .unset, .unset] [(.ref b67)])) _
    refine XS.dup X84.here hx rfl (hb hby at_237) rfl rfl ?_
    show Steps p.tables e below (T84.setTop (mkF m 238 #[.val (.int p1), .val (.int p2), .val (.ref b3), .unset, .unset, .unset, .unset] [(.ref b67), (.ref b67)])) _
    refine XS.bipush X84.here hx rfl (hb hby at_238) ?_
    show Steps p.tables e below (T84.setTop (mkF m 240 #[.val (.int p1), .val (.int p2), .val (.ref b3), .unset, .unset, .unset, .unset] [(.int (17 : Int32)), (.ref b67), (.ref b67)])) _
    refine XS.iconst X84.here hx rfl (hb hby at_240) ?_
    show Steps p.tables e below (T84.setTop (mkF m 241 #[.val (.int p1), .val (.int p2), .val (.ref b3), .unset, .unset, .unset, .unset] [(.int (4 : Int32)), (.int (17 : Int32)), (.ref b67), (.ref b67)])) _
    refine st85 _ ?_
    show Steps p.tables e below (T85.setTop (mkF m 242 #[.val (.int p1), .val (.int p2), .val (.ref b3), .unset, .unset, .unset, .unset] [(.ref b67)])) _
    refine XS.dup X85.here hx rfl (hb hby at_242) rfl rfl ?_
    show Steps p.tables e below (T85.setTop (mkF m 243 #[.val (.int p1), .val (.int p2), .val (.ref b3), .unset, .unset, .unset, .unset] [(.ref b67), (.ref b67)])) _
    refine XS.bipush X85.here hx rfl (hb hby at_243) ?_
    show Steps p.tables e below (T85.setTop (mkF m 245 #[.val (.int p1), .val (.int p2), .val (.ref b3), .unset, .unset, .unset, .unset] [(.int (18 : Int32)), (.ref b67), (.ref b67)])) _
    refine XS.iconst X85.here hx rfl (hb hby at_245) ?_
    show Steps p.tables e below (T85.setTop (mkF m 246 #[.val (.int p1), .val (.int p2), .val (.ref b3), .unset, .unset, .unset, .unset] [(.int (2 : Int32)), (.int (18 : Int32)), (.ref b67), (.ref b67)])) _
    refine st86 _ ?_
    show Steps p.tables e below (T86.setTop (mkF m 247 #[.val (.int p1), .val (.int p2), .val (.ref b3), .unset, .unset, .unset, .unset] [(.ref b67)])) _
    refine XS.dup X86.here hx rfl (hb hby at_247) rfl rfl ?_
    show Steps p.tables e below (T86.setTop (mkF m 248 #[.val (.int p1), .val (.int p2), .val (.ref b3), .unset, .unset, .unset, .unset] [(.ref b67), (.ref b67)])) _
    refine XS.bipush X86.here hx rfl (hb hby at_248) ?_
    show Steps p.tables e below (T86.setTop (mkF m 250 #[.val (.int p1), .val (.int p2), .val (.ref b3), .unset, .unset, .unset, .unset] [(.int (19 : Int32)), (.ref b67), (.ref b67)])) _
    refine XS.iconst X86.here hx rfl (hb hby at_250) ?_
    show Steps p.tables e below (T86.setTop (mkF m 251 #[.val (.int p1), .val (.int p2), .val (.ref b3), .unset, .unset, .unset, .unset] [(.int (2 : Int32)), (.int (19 : Int32)), (.ref b67), (.ref b67)])) _
    refine st87 _ ?_
    show Steps p.tables e below (T87.setTop (mkF m 252 #[.val (.int p1), .val (.int p2), .val (.ref b3), .unset, .unset, .unset, .unset] [(.ref b67)])) _
    refine XS.dup X87.here hx rfl (hb hby at_252) rfl rfl ?_
    show Steps p.tables e below (T87.setTop (mkF m 253 #[.val (.int p1), .val (.int p2), .val (.ref b3), .unset, .unset, .unset, .unset] [(.ref b67), (.ref b67)])) _
    refine XS.bipush X87.here hx rfl (hb hby at_253) ?_
    show Steps p.tables e below (T87.setTop (mkF m 255 #[.val (.int p1), .val (.int p2), .val (.ref b3), .unset, .unset, .unset, .unset] [(.int (20 : Int32)), (.ref b67), (.ref b67)])) _
    refine XS.iconst X87.here hx rfl (hb hby at_255) ?_
    show Steps p.tables e below (T87.setTop (mkF m 256 #[.val (.int p1), .val (.int p2), .val (.ref b3), .unset, .unset, .unset, .unset] [(.int (1 : Int32)), (.int (20 : Int32)), (.ref b67), (.ref b67)])) _
    refine st88 _ ?_
    show Steps p.tables e below (T88.setTop (mkF m 257 #[.val (.int p1), .val (.int p2), .val (.ref b3), .unset, .unset, .unset, .unset] [(.ref b67)])) _
    refine XS.astoreN X88.here hx rfl (hb hby at_257) rfl rfl (l' := #[.val (.int p1), .val (.int p2), .val (.ref b3), .val (.ref b67), .unset, .unset, .unset]) rfl ?_
    show Steps p.tables e below (T88.setTop (mkF m 258 #[.val (.int p1), .val (.int p2), .val (.ref b3), .val (.ref b67), .unset, .unset, .unset] [])) _
    refine XS.iloadN X88.here hx rfl (hb hby at_258) rfl ?_
    show Steps p.tables e below (T88.setTop (mkF m 259 #[.val (.int p1), .val (.int p2), .val (.ref b3), .val (.ref b67), .unset, .unset, .unset] [(.int p1)])) _
    refine X88.ldcInt hx hown (mvT hZ (hw _ (List.mem_of_getElem? (i := 47) rfl))) (g := (mkF m 259 #[.val (.int p1), .val (.int p2), .val (.ref b3), .val (.ref b67), .unset, .unset, .unset] [(.int p1)])) rfl (hb hby at_259) _ ?_
    show Steps p.tables e below (T88.setTop (mkF m 261 #[.val (.int p1), .val (.int p2), .val (.ref b3), .val (.ref b67), .unset, .unset, .unset] [(.int (2147483647 : Int32)), (.int p1)])) _
    refine XS.iand X88.here hx rfl (hb hby at_261) rfl ?_
    show Steps p.tables e below (T88.setTop (mkF m 262 #[.val (.int p1), .val (.int p2), .val (.ref b3), .val (.ref b67), .unset, .unset, .unset] [(.int (p1 &&& (2147483647 : Int32)))])) _
    refine XS.bipush X88.here hx rfl (hb hby at_262) ?_
    show Steps p.tables e below (T88.setTop (mkF m 264 #[.val (.int p1), .val (.int p2), .val (.ref b3), .val (.ref b67), .unset, .unset, .unset] [(.int (21 : Int32)), (.int (p1 &&& (2147483647 : Int32)))])) _
    refine iremM X88 hx rfl (hb hby at_264) rfl (by decide) ?_
    show Steps p.tables e below (T88.setTop (mkF m 265 #[.val (.int p1), .val (.int p2), .val (.ref b3), .val (.ref b67), .unset, .unset, .unset] [(.int ((p1 &&& (2147483647 : Int32)) % (21 : Int32)))])) _
    refine XS.istore X88.here hx rfl (hb hby at_265) rfl (l' := #[.val (.int p1), .val (.int p2), .val (.ref b3), .val (.ref b67), .val (.int ((p1 &&& (2147483647 : Int32)) % (21 : Int32))), .unset, .unset]) rfl ?_
    show Steps p.tables e below (T88.setTop (mkF m 267 #[.val (.int p1), .val (.int p2), .val (.ref b3), .val (.ref b67), .val (.int ((p1 &&& (2147483647 : Int32)) % (21 : Int32))), .unset, .unset] [])) _
    refine XS.iloadN X88.here hx rfl (hb hby at_267) rfl ?_
    show Steps p.tables e below (T88.setTop (mkF m 268 #[.val (.int p1), .val (.int p2), .val (.ref b3), .val (.ref b67), .val (.int ((p1 &&& (2147483647 : Int32)) % (21 : Int32))), .unset, .unset] [(.int p2)])) _
    refine XS.i2s X88.here hx rfl (hb hby at_268) rfl ?_
    show Steps p.tables e below (T88.setTop (mkF m 269 #[.val (.int p1), .val (.int p2), .val (.ref b3), .val (.ref b67), .val (.int ((p1 &&& (2147483647 : Int32)) % (21 : Int32))), .unset, .unset] [(.int (p2.toInt16.toInt32))])) _
    refine XS.istore X88.here hx rfl (hb hby at_269) rfl (l' := #[.val (.int p1), .val (.int p2), .val (.ref b3), .val (.ref b67), .val (.int ((p1 &&& (2147483647 : Int32)) % (21 : Int32))), .val (.int (p2.toInt16.toInt32)), .unset]) rfl ?_
    show Steps p.tables e below (T88.setTop (mkF m 271 #[.val (.int p1), .val (.int p2), .val (.ref b3), .val (.ref b67), .val (.int ((p1 &&& (2147483647 : Int32)) % (21 : Int32))), .val (.int (p2.toInt16.toInt32)), .unset] [])) _
    refine XS.iload X88.here hx rfl (hb hby at_271) rfl ?_
    show Steps p.tables e below (T88.setTop (mkF m 273 #[.val (.int p1), .val (.int p2), .val (.ref b3), .val (.ref b67), .val (.int ((p1 &&& (2147483647 : Int32)) % (21 : Int32))), .val (.int (p2.toInt16.toInt32)), .unset] [(.int (p2.toInt16.toInt32))])) _
    refine XS.aloadN X88.here hx rfl (hb hby at_273) rfl rfl ?_
    show Steps p.tables e below (T88.setTop (mkF m 274 #[.val (.int p1), .val (.int p2), .val (.ref b3), .val (.ref b67), .val (.int ((p1 &&& (2147483647 : Int32)) % (21 : Int32))), .val (.int (p2.toInt16.toInt32)), .unset] [(.ref b67), (.int (p2.toInt16.toInt32))])) _
    refine XS.iload X88.here hx rfl (hb hby at_274) rfl ?_
    show Steps p.tables e below (T88.setTop (mkF m 276 #[.val (.int p1), .val (.int p2), .val (.ref b3), .val (.ref b67), .val (.int ((p1 &&& (2147483647 : Int32)) % (21 : Int32))), .val (.int (p2.toInt16.toInt32)), .unset] [(.int ((p1 &&& (2147483647 : Int32)) % (21 : Int32))), (.ref b67), (.int (p2.toInt16.toInt32))])) _
    refine X88.iaload hx (j := ((p1 &&& (2147483647 : Int32)) % (21 : Int32))) (v := (.int w89)) (by rw [e88]; exact Ar_b67.1) (State.isArrayOf_alike hZ.alike Ar_b67.2.1) Ar_b67.2.2 hin276 hat276 (g := (mkF m 276 #[.val (.int p1), .val (.int p2), .val (.ref b3), .val (.ref b67), .val (.int ((p1 &&& (2147483647 : Int32)) % (21 : Int32))), .val (.int (p2.toInt16.toInt32)), .unset] [(.int ((p1 &&& (2147483647 : Int32)) % (21 : Int32))), (.ref b67), (.int (p2.toInt16.toInt32))])) rfl rfl (hb hby at_276) _ ?_
    show Steps p.tables e below (T88.setTop (mkF m 277 #[.val (.int p1), .val (.int p2), .val (.ref b3), .val (.ref b67), .val (.int ((p1 &&& (2147483647 : Int32)) % (21 : Int32))), .val (.int (p2.toInt16.toInt32)), .unset] [(.int w89), (.int (p2.toInt16.toInt32))])) _
    refine XS.icmpNo X88.here hx rfl (hb hby at_277) rfl (flt hc277).1 ?_
    show Steps p.tables e below (T88.setTop (mkF m 280 #[.val (.int p1), .val (.int p2), .val (.ref b3), .val (.ref b67), .val (.int ((p1 &&& (2147483647 : Int32)) % (21 : Int32))), .val (.int (p2.toInt16.toInt32)), .unset] [])) _
    refine XS.iconst X88.here hx rfl (hb hby at_280) ?_
    show Steps p.tables e below (T88.setTop (mkF m 281 #[.val (.int p1), .val (.int p2), .val (.ref b3), .val (.ref b67), .val (.int ((p1 &&& (2147483647 : Int32)) % (21 : Int32))), .val (.int (p2.toInt16.toInt32)), .unset] [(.int (1 : Int32))])) _
    refine XS.goto X88.here hx rfl (pc0 := 281) (pc' := 285) rfl (hb hby at_281) (by decide) (by decide) ?_
    show Steps p.tables e below (T88.setTop (mkF m 285 #[.val (.int p1), .val (.int p2), .val (.ref b3), .val (.ref b67), .val (.int ((p1 &&& (2147483647 : Int32)) % (21 : Int32))), .val (.int (p2.toInt16.toInt32)), .unset] [(.int (1 : Int32))])) _
    refine XS.istore X88.here hx rfl (hb hby at_285) rfl (l' := #[.val (.int p1), .val (.int p2), .val (.ref b3), .val (.ref b67), .val (.int ((p1 &&& (2147483647 : Int32)) % (21 : Int32))), .val (.int (p2.toInt16.toInt32)), .val (.int (1 : Int32))]) rfl ?_
    show Steps p.tables e below (T88.setTop (mkF m 287 #[.val (.int p1), .val (.int p2), .val (.ref b3), .val (.ref b67), .val (.int ((p1 &&& (2147483647 : Int32)) % (21 : Int32))), .val (.int (p2.toInt16.toInt32)), .val (.int (1 : Int32))] [])) _
    refine XS.aloadN X88.here hx rfl (hb hby at_287) rfl rfl ?_
    show Steps p.tables e below (T88.setTop (mkF m 288 #[.val (.int p1), .val (.int p2), .val (.ref b3), .val (.ref b67), .val (.int ((p1 &&& (2147483647 : Int32)) % (21 : Int32))), .val (.int (p2.toInt16.toInt32)), .val (.int (1 : Int32))] [(.ref b3)])) _
    refine XS.iload X88.here hx rfl (hb hby at_288) rfl ?_
    show Steps p.tables e below (T88.setTop (mkF m 290 #[.val (.int p1), .val (.int p2), .val (.ref b3), .val (.ref b67), .val (.int ((p1 &&& (2147483647 : Int32)) % (21 : Int32))), .val (.int (p2.toInt16.toInt32)), .val (.int (1 : Int32))] [(.int ((p1 &&& (2147483647 : Int32)) % (21 : Int32))), (.ref b3)])) _
    refine X88.aaload hx (j := ((p1 &&& (2147483647 : Int32)) % (21 : Int32))) (v := (.ref w90)) (by rw [e88]; exact Ar_b3.1) (State.isArrayOf_alike hZ.alike Ar_b3.2.1) rfl Ar_b3.2.2 hin290 hat290 (g := (mkF m 290 #[.val (.int p1), .val (.int p2), .val (.ref b3), .val (.ref b67), .val (.int ((p1 &&& (2147483647 : Int32)) % (21 : Int32))), .val (.int (p2.toInt16.toInt32)), .val (.int (1 : Int32))] [(.int ((p1 &&& (2147483647 : Int32)) % (21 : Int32))), (.ref b3)])) rfl rfl (hb hby at_290) _ ?_
    show Steps p.tables e below (T88.setTop (mkF m 291 #[.val (.int p1), .val (.int p2), .val (.ref b3), .val (.ref b67), .val (.int ((p1 &&& (2147483647 : Int32)) % (21 : Int32))), .val (.int (p2.toInt16.toInt32)), .val (.int (1 : Int32))] [(.ref w90)])) _
    refine XS.iload X88.here hx rfl (hb hby at_291) rfl ?_
    show Steps p.tables e below (T88.setTop (mkF m 293 #[.val (.int p1), .val (.int p2), .val (.ref b3), .val (.ref b67), .val (.int ((p1 &&& (2147483647 : Int32)) % (21 : Int32))), .val (.int (p2.toInt16.toInt32)), .val (.int (1 : Int32))] [(.int (p2.toInt16.toInt32)), (.ref w90)])) _
    refine st91.trans ?_
    show Steps p.tables e below (T91.setTop (mkF m 296 #[.val (.int p1), .val (.int p2), .val (.ref b3), .val (.ref b67), .val (.int ((p1 &&& (2147483647 : Int32)) % (21 : Int32))), .val (.int (p2.toInt16.toInt32)), .val (.int (1 : Int32))] [(.int (1 : Int32))])) _
    refine XS.iload X91.here hx rfl (hb hby at_296) rfl ?_
    show Steps p.tables e below (T91.setTop (mkF m 298 #[.val (.int p1), .val (.int p2), .val (.ref b3), .val (.ref b67), .val (.int ((p1 &&& (2147483647 : Int32)) % (21 : Int32))), .val (.int (p2.toInt16.toInt32)), .val (.int (1 : Int32))] [(.int (1 : Int32)), (.int (1 : Int32))])) _
    refine XS.icmpNo X91.here hx rfl (hb hby at_298) rfl (teq (rfl : (1 : Int32) = (1 : Int32))).2 ?_
    show Steps p.tables e below (T91.setTop (mkF m 301 #[.val (.int p1), .val (.int p2), .val (.ref b3), .val (.ref b67), .val (.int ((p1 &&& (2147483647 : Int32)) % (21 : Int32))), .val (.int (p2.toInt16.toInt32)), .val (.int (1 : Int32))] [])) _
    refine XS.iconst X91.here hx rfl (hb hby at_301) ?_
    show Steps p.tables e below (T91.setTop (mkF m 302 #[.val (.int p1), .val (.int p2), .val (.ref b3), .val (.ref b67), .val (.int ((p1 &&& (2147483647 : Int32)) % (21 : Int32))), .val (.int (p2.toInt16.toInt32)), .val (.int (1 : Int32))] [(.int (1 : Int32))])) _
    refine XS.goto X91.here hx rfl (pc0 := 302) (pc' := 306) rfl (hb hby at_302) (by decide) (by decide) ?_
    show Steps p.tables e below (T91.setTop (mkF m 306 #[.val (.int p1), .val (.int p2), .val (.ref b3), .val (.ref b67), .val (.int ((p1 &&& (2147483647 : Int32)) % (21 : Int32))), .val (.int (p2.toInt16.toInt32)), .val (.int (1 : Int32))] [(.int (1 : Int32))])) _
    exact retN X91 hx (t := .boolean) Bd.returns (by simp) (hb hby at_306) hr
  · show Q0 Z p1 p2 w4 w7 w10 w13 w16 w19 w22 w25 w28 w31 w34 w37 w40 w43 w46 w49 w52 w55 w58 w61 w64 w89 w90 h0 n0 _ T91.heap _
    exact ⟨rfl, N91⟩
set_option maxRecDepth 65536 in
set_option maxHeartbeats 40000000 in
theorem rm0_tf (l : Launch) (Z : State) (a0 : Array Value) (hw : ∀ d ∈ tables_1, d.before a0 Z = true) (ws : List Jvm.Cond) (p1 : Int32) (p2 : Int32) (w4 : Addr) (w7 : Addr) (w10 : Addr) (w13 : Addr) (w16 : Addr) (w19 : Addr) (w22 : Addr) (w25 : Addr) (w28 : Addr) (w31 : Addr) (w34 : Addr) (w37 : Addr) (w40 : Addr) (w43 : Addr) (w46 : Addr) (w49 : Addr) (w52 : Addr) (w55 : Addr) (w58 : Addr) (w61 : Addr) (w64 : Addr) (w89 : Int32) (w90 : Addr) (h0 : Heap) (n0 : Nat) (Z0 : n0 ≤ h0.size) (Fk : Fld Z h0 w90 "com/example/wyrd/wyrd/protocol/ApiKey" "firstFlexibleVersion" "S" (.int w89)) (S_PRODUCE : Sta Z h0 "com/example/wyrd/wyrd/protocol/ApiKey" "PRODUCE" "Lcom/example/wyrd/wyrd/protocol/ApiKey;" (.ref w4)) (E_w4 : Exa Z h0 w4 "com/example/wyrd/wyrd/protocol/ApiKey") (S_FETCH : Sta Z h0 "com/example/wyrd/wyrd/protocol/ApiKey" "FETCH" "Lcom/example/wyrd/wyrd/protocol/ApiKey;" (.ref w7)) (E_w7 : Exa Z h0 w7 "com/example/wyrd/wyrd/protocol/ApiKey") (S_LIST_OFFSETS : Sta Z h0 "com/example/wyrd/wyrd/protocol/ApiKey" "LIST_OFFSETS" "Lcom/example/wyrd/wyrd/protocol/ApiKey;" (.ref w10)) (E_w10 : Exa Z h0 w10 "com/example/wyrd/wyrd/protocol/ApiKey") (S_METADATA : Sta Z h0 "com/example/wyrd/wyrd/protocol/ApiKey" "METADATA" "Lcom/example/wyrd/wyrd/protocol/ApiKey;" (.ref w13)) (E_w13 : Exa Z h0 w13 "com/example/wyrd/wyrd/protocol/ApiKey") (S_OFFSET_COMMIT : Sta Z h0 "com/example/wyrd/wyrd/protocol/ApiKey" "OFFSET_COMMIT" "Lcom/example/wyrd/wyrd/protocol/ApiKey;" (.ref w16)) (E_w16 : Exa Z h0 w16 "com/example/wyrd/wyrd/protocol/ApiKey") (S_OFFSET_FETCH : Sta Z h0 "com/example/wyrd/wyrd/protocol/ApiKey" "OFFSET_FETCH" "Lcom/example/wyrd/wyrd/protocol/ApiKey;" (.ref w19)) (E_w19 : Exa Z h0 w19 "com/example/wyrd/wyrd/protocol/ApiKey") (S_FIND_COORDINATOR : Sta Z h0 "com/example/wyrd/wyrd/protocol/ApiKey" "FIND_COORDINATOR" "Lcom/example/wyrd/wyrd/protocol/ApiKey;" (.ref w22)) (E_w22 : Exa Z h0 w22 "com/example/wyrd/wyrd/protocol/ApiKey") (S_JOIN_GROUP : Sta Z h0 "com/example/wyrd/wyrd/protocol/ApiKey" "JOIN_GROUP" "Lcom/example/wyrd/wyrd/protocol/ApiKey;" (.ref w25)) (E_w25 : Exa Z h0 w25 "com/example/wyrd/wyrd/protocol/ApiKey") (S_HEARTBEAT : Sta Z h0 "com/example/wyrd/wyrd/protocol/ApiKey" "HEARTBEAT" "Lcom/example/wyrd/wyrd/protocol/ApiKey;" (.ref w28)) (E_w28 : Exa Z h0 w28 "com/example/wyrd/wyrd/protocol/ApiKey") (S_LEAVE_GROUP : Sta Z h0 "com/example/wyrd/wyrd/protocol/ApiKey" "LEAVE_GROUP" "Lcom/example/wyrd/wyrd/protocol/ApiKey;" (.ref w31)) (E_w31 : Exa Z h0 w31 "com/example/wyrd/wyrd/protocol/ApiKey") (S_SYNC_GROUP : Sta Z h0 "com/example/wyrd/wyrd/protocol/ApiKey" "SYNC_GROUP" "Lcom/example/wyrd/wyrd/protocol/ApiKey;" (.ref w34)) (E_w34 : Exa Z h0 w34 "com/example/wyrd/wyrd/protocol/ApiKey") (S_DESCRIBE_GROUPS : Sta Z h0 "com/example/wyrd/wyrd/protocol/ApiKey" "DESCRIBE_GROUPS" "Lcom/example/wyrd/wyrd/protocol/ApiKey;" (.ref w37)) (E_w37 : Exa Z h0 w37 "com/example/wyrd/wyrd/protocol/ApiKey") (S_LIST_GROUPS : Sta Z h0 "com/example/wyrd/wyrd/protocol/ApiKey" "LIST_GROUPS" "Lcom/example/wyrd/wyrd/protocol/ApiKey;" (.ref w40)) (E_w40 : Exa Z h0 w40 "com/example/wyrd/wyrd/protocol/ApiKey") (S_API_VERSIONS : Sta Z h0 "com/example/wyrd/wyrd/protocol/ApiKey" "API_VERSIONS" "Lcom/example/wyrd/wyrd/protocol/ApiKey;" (.ref w43)) (E_w43 : Exa Z h0 w43 "com/example/wyrd/wyrd/protocol/ApiKey") (S_CREATE_TOPICS : Sta Z h0 "com/example/wyrd/wyrd/protocol/ApiKey" "CREATE_TOPICS" "Lcom/example/wyrd/wyrd/protocol/ApiKey;" (.ref w46)) (E_w46 : Exa Z h0 w46 "com/example/wyrd/wyrd/protocol/ApiKey") (S_DELETE_TOPICS : Sta Z h0 "com/example/wyrd/wyrd/protocol/ApiKey" "DELETE_TOPICS" "Lcom/example/wyrd/wyrd/protocol/ApiKey;" (.ref w49)) (E_w49 : Exa Z h0 w49 "com/example/wyrd/wyrd/protocol/ApiKey") (S_INIT_PRODUCER_ID : Sta Z h0 "com/example/wyrd/wyrd/protocol/ApiKey" "INIT_PRODUCER_ID" "Lcom/example/wyrd/wyrd/protocol/ApiKey;" (.ref w52)) (E_w52 : Exa Z h0 w52 "com/example/wyrd/wyrd/protocol/ApiKey") (S_DESCRIBE_CONFIGS : Sta Z h0 "com/example/wyrd/wyrd/protocol/ApiKey" "DESCRIBE_CONFIGS" "Lcom/example/wyrd/wyrd/protocol/ApiKey;" (.ref w55)) (E_w55 : Exa Z h0 w55 "com/example/wyrd/wyrd/protocol/ApiKey") (S_ALTER_CONFIGS : Sta Z h0 "com/example/wyrd/wyrd/protocol/ApiKey" "ALTER_CONFIGS" "Lcom/example/wyrd/wyrd/protocol/ApiKey;" (.ref w58)) (E_w58 : Exa Z h0 w58 "com/example/wyrd/wyrd/protocol/ApiKey") (S_CREATE_PARTITIONS : Sta Z h0 "com/example/wyrd/wyrd/protocol/ApiKey" "CREATE_PARTITIONS" "Lcom/example/wyrd/wyrd/protocol/ApiKey;" (.ref w61)) (E_w61 : Exa Z h0 w61 "com/example/wyrd/wyrd/protocol/ApiKey") (S_INCREMENTAL_ALTER_CONFIGS : Sta Z h0 "com/example/wyrd/wyrd/protocol/ApiKey" "INCREMENTAL_ALTER_CONFIGS" "Lcom/example/wyrd/wyrd/protocol/ApiKey;" (.ref w64)) (E_w64 : Exa Z h0 w64 "com/example/wyrd/wyrd/protocol/ApiKey") (E_w90 : Exa Z h0 w90 "com/example/wyrd/wyrd/protocol/ApiKey") (hn276 : ¬ (((p1 &&& (2147483647 : Int32)) % (21 : Int32)) < 0)) (hl276 : ((p1 &&& (2147483647 : Int32)) % (21 : Int32)) < (21 : Int32)) (hv276 : ([(.int (9 : Int32)), (.int (12 : Int32)), (.int (6 : Int32)), (.int (9 : Int32)), (.int (8 : Int32)), (.int (6 : Int32)), (.int (3 : Int32)), (.int (6 : Int32)), (.int (4 : Int32)), (.int (4 : Int32)), (.int (4 : Int32)), (.int (5 : Int32)), (.int (3 : Int32)), (.int (3 : Int32)), (.int (5 : Int32)), (.int (4 : Int32)), (.int (2 : Int32)), (.int (4 : Int32)), (.int (2 : Int32)), (.int (2 : Int32)), (.int (1 : Int32))] : List Value).getD (((p1 &&& (2147483647 : Int32)) % (21 : Int32))).toNatClampNeg (.int (0 : Int32)) = (.int w89)) (hc277 : (p2.toInt16.toInt32) < w89) (hn290 : ¬ (((p1 &&& (2147483647 : Int32)) % (21 : Int32)) < 0)) (hl290 : ((p1 &&& (2147483647 : Int32)) % (21 : Int32)) < (21 : Int32)) (hv290 : ([(.ref w4), (.ref w7), (.ref w10), (.ref w13), (.ref w16), (.ref w19), (.ref w22), (.ref w25), (.ref w28), (.ref w31), (.ref w34), (.ref w37), (.ref w40), (.ref w43), (.ref w46), (.ref w49), (.ref w52), (.ref w55), (.ref w58), (.ref w61), (.ref w64)] : List Value).getD (((p1 &&& (2147483647 : Int32)) % (21 : Int32))).toNatClampNeg .null = (.ref w90)) :
    MetFree l x (head1 (Jvm.Cond.code x code maxLocals ret :: ws) room_1) (fun a U => a = #[(.int p1), (.int p2)] ∧ Z.Warmed39 U.vm ∧ U.heap = h0) (fun _ _ _ _ _ => True) (fun _ U o U' => ∃ v L, o = .returned v ∧ Q0 Z p1 p2 w4 w7 w10 w13 w16 w19 w22 w25 w28 w31 w34 w37 w40 w43 w46 w49 w52 w55 w58 w61 w64 w89 w90 h0 n0 v U'.heap L ∧ FrameEnd U o U' L room_1.cells room_1.slots) := by
  refine MetFree.of_bodySF (plainFor_of_name pn_0) hisR ?_
  intro p e s m args below meth c s₁ Bd hml0 hP hK
  obtain ⟨rfl, hZ, hh⟩ := hP
  have hx := Bd.exec
  have hby := Bd.bytes
  have hml : c.maxLocals = 7 := hml0
  have hown : s.vm.findClass "com/example/wyrd/wyrd/protocol/ApiKeyIsFlexiblePinLaw" = some m.cls := findClass_of_methodNamed Bd.named
  have hnm := (name_of_methodNamed Bd.named Bd.method).1
  have X0 : Stand p l e room_1 s m #[(.int p1), (.int p2)] below meth c s₁ [] 0 0 := Stand.of_body Bd
  have e0 : s₁.heap = h0 := by rw [← hh, Bd.state]; rfl
  have N0 := Fr.nil n0
  have pre0 : ∀ t, Steps p.tables e below (s₁.setTop (mkF m 0 #[.val (.int p1), .val (.int p2), .unset, .unset, .unset, .unset, .unset] [])) t → Steps p.tables e below (s₁.setTop (entryFrame m #[(.int p1), (.int p2)] maxLocals)) t := fun t k => castTop (ef_0 m p1 p2) k
  obtain ⟨T3, h3, k3, X3, e3, E3, A3, O3, st3⟩ := newR X0 hx hZ hown (hw _ (List.mem_of_getElem? (i := 0) rfl)) (hw _ (List.mem_of_getElem? (i := 1) rfl)) e0 (g := (mkF m 2 #[.val (.int p1), .val (.int p2), .unset, .unset, .unset, .unset, .unset] [(.int (21 : Int32))])) rfl (hb hby at_2) rfl (by decide) (cap := 21) (by decide) (by decide) (by decide) (by decide)
  obtain ⟨b3, g3⟩ : ∃ z, z = h0.size := ⟨_, rfl⟩
  rw [← g3] at A3 st3
  have V_b3 : Arv Z h3 b3 k3 (.object "com/example/wyrd/wyrd/protocol/ApiKey") (21 : Int32) [.null, .null, .null, .null, .null, .null, .null, .null, .null, .null, .null, .null, .null, .null, .null, .null, .null, .null, .null, .null, .null] .null := (Arv.new A3 (by decide)).pad (pad_rep [] .null 21)
  have g_b3 : n0 ≤ b3 := Nat.le_trans Z0 (Nat.le_of_eq g3.symm)
  have sz_b3 : h0.size ≤ b3 := (Nat.le_trans (Keep.refl h0 []).1 (Nat.le_of_eq g3.symm))
  have K3 : Keep h0 h3 [] := (Keep.refl h0 []).ext E3
  obtain ⟨T5, X5, e5, st5⟩ := getS2 X3 hx hZ hown (host := "") (Or.inl (hw _ (List.mem_of_getElem? (i := 2) rfl))) Via.refl e3 (own_stk S_PRODUCE K3) (g := (mkF m 7 #[.val (.int p1), .val (.int p2), .unset, .unset, .unset, .unset, .unset] [(.int (0 : Int32)), (.ref b3), (.ref b3)])) rfl (hb hby at_7)
  obtain ⟨cl_b3_10, Ar_b3, q_b3, S_b3, N_b3, H_b3, G_b3⟩ := V_b3
  have hin10 : ¬ ((0 : Int32) < 0 ∨ cl_b3_10.slots.size ≤ ((0 : Int32)).toNatClampNeg) := inb_of S_b3 ⟨by decide, by decide⟩
  obtain ⟨T6, h6, X6, e6, W6, st6⟩ := stR X5 hx hZ e5 Ar_b3 (j := (0 : Int32)) hin10 rfl (Sto.ofV Ar_b3 q_b3 O3 (Ins.self (E_w4.keep K3))) (g := (mkF m 10 #[.val (.int p1), .val (.int p2), .unset, .unset, .unset, .unset, .unset] [(.ref w4), (.int (0 : Int32)), (.ref b3), (.ref b3)])) rfl rfl (hb hby at_10)
  have V_b3_6 : Arv Z h6 b3 k3 (.object "com/example/wyrd/wyrd/protocol/ApiKey") (21 : Int32) [(.ref w4), .null, .null, .null, .null, .null, .null, .null, .null, .null, .null, .null, .null, .null, .null, .null, .null, .null, .null, .null, .null] .null := Arv.set Ar_b3 q_b3 S_b3 N_b3 H_b3 G_b3 rfl W6 0 rfl (Nat.le_of_ble_eq_true rfl)
  have N6 := Fr.snoc X6 N0 g_b3
  have K6 : Keep h0 h6 [] := K3.wr W6 (Or.inr sz_b3)
  obtain ⟨T8, X8, e8, st8⟩ := getS2 X6 hx hZ hown (host := "") (Or.inl (hw _ (List.mem_of_getElem? (i := 6) rfl))) Via.refl e6 (own_stk S_FETCH K6) (g := (mkF m 13 #[.val (.int p1), .val (.int p2), .unset, .unset, .unset, .unset, .unset] [(.int (1 : Int32)), (.ref b3), (.ref b3)])) rfl (hb hby at_13)
  obtain ⟨cl_b3_16, Ar_b3, q_b3, S_b3, N_b3, H_b3, G_b3⟩ := V_b3_6
  have hin16 : ¬ ((1 : Int32) < 0 ∨ cl_b3_16.slots.size ≤ ((1 : Int32)).toNatClampNeg) := inb_of S_b3 ⟨by decide, by decide⟩
  obtain ⟨T9, h9, X9, e9, W9, st9⟩ := stR X8 hx hZ e8 Ar_b3 (j := (1 : Int32)) hin16 rfl (Sto.ofV Ar_b3 q_b3 O3 (Ins.self (E_w7.keep K6))) (g := (mkF m 16 #[.val (.int p1), .val (.int p2), .unset, .unset, .unset, .unset, .unset] [(.ref w7), (.int (1 : Int32)), (.ref b3), (.ref b3)])) rfl rfl (hb hby at_16)
  have V_b3_9 : Arv Z h9 b3 k3 (.object "com/example/wyrd/wyrd/protocol/ApiKey") (21 : Int32) [(.ref w4), (.ref w7), .null, .null, .null, .null, .null, .null, .null, .null, .null, .null, .null, .null, .null, .null, .null, .null, .null, .null, .null] .null := Arv.set Ar_b3 q_b3 S_b3 N_b3 H_b3 G_b3 rfl W9 1 rfl (Nat.le_of_ble_eq_true rfl)
  have N9 := Fr.snoc X9 N6 g_b3
  have K9 : Keep h0 h9 [] := K6.wr W9 (Or.inr sz_b3)
  obtain ⟨T11, X11, e11, st11⟩ := getS2 X9 hx hZ hown (host := "") (Or.inl (hw _ (List.mem_of_getElem? (i := 8) rfl))) Via.refl e9 (own_stk S_LIST_OFFSETS K9) (g := (mkF m 19 #[.val (.int p1), .val (.int p2), .unset, .unset, .unset, .unset, .unset] [(.int (2 : Int32)), (.ref b3), (.ref b3)])) rfl (hb hby at_19)
  obtain ⟨cl_b3_22, Ar_b3, q_b3, S_b3, N_b3, H_b3, G_b3⟩ := V_b3_9
  have hin22 : ¬ ((2 : Int32) < 0 ∨ cl_b3_22.slots.size ≤ ((2 : Int32)).toNatClampNeg) := inb_of S_b3 ⟨by decide, by decide⟩
  obtain ⟨T12, h12, X12, e12, W12, st12⟩ := stR X11 hx hZ e11 Ar_b3 (j := (2 : Int32)) hin22 rfl (Sto.ofV Ar_b3 q_b3 O3 (Ins.self (E_w10.keep K9))) (g := (mkF m 22 #[.val (.int p1), .val (.int p2), .unset, .unset, .unset, .unset, .unset] [(.ref w10), (.int (2 : Int32)), (.ref b3), (.ref b3)])) rfl rfl (hb hby at_22)
  have V_b3_12 : Arv Z h12 b3 k3 (.object "com/example/wyrd/wyrd/protocol/ApiKey") (21 : Int32) [(.ref w4), (.ref w7), (.ref w10), .null, .null, .null, .null, .null, .null, .null, .null, .null, .null, .null, .null, .null, .null, .null, .null, .null, .null] .null := Arv.set Ar_b3 q_b3 S_b3 N_b3 H_b3 G_b3 rfl W12 2 rfl (Nat.le_of_ble_eq_true rfl)
  have N12 := Fr.snoc X12 N9 g_b3
  have K12 : Keep h0 h12 [] := K9.wr W12 (Or.inr sz_b3)
  obtain ⟨T14, X14, e14, st14⟩ := getS2 X12 hx hZ hown (host := "") (Or.inl (hw _ (List.mem_of_getElem? (i := 10) rfl))) Via.refl e12 (own_stk S_METADATA K12) (g := (mkF m 25 #[.val (.int p1), .val (.int p2), .unset, .unset, .unset, .unset, .unset] [(.int (3 : Int32)), (.ref b3), (.ref b3)])) rfl (hb hby at_25)
  obtain ⟨cl_b3_28, Ar_b3, q_b3, S_b3, N_b3, H_b3, G_b3⟩ := V_b3_12
  have hin28 : ¬ ((3 : Int32) < 0 ∨ cl_b3_28.slots.size ≤ ((3 : Int32)).toNatClampNeg) := inb_of S_b3 ⟨by decide, by decide⟩
  obtain ⟨T15, h15, X15, e15, W15, st15⟩ := stR X14 hx hZ e14 Ar_b3 (j := (3 : Int32)) hin28 rfl (Sto.ofV Ar_b3 q_b3 O3 (Ins.self (E_w13.keep K12))) (g := (mkF m 28 #[.val (.int p1), .val (.int p2), .unset, .unset, .unset, .unset, .unset] [(.ref w13), (.int (3 : Int32)), (.ref b3), (.ref b3)])) rfl rfl (hb hby at_28)
  have V_b3_15 : Arv Z h15 b3 k3 (.object "com/example/wyrd/wyrd/protocol/ApiKey") (21 : Int32) [(.ref w4), (.ref w7), (.ref w10), (.ref w13), .null, .null, .null, .null, .null, .null, .null, .null, .null, .null, .null, .null, .null, .null, .null, .null, .null] .null := Arv.set Ar_b3 q_b3 S_b3 N_b3 H_b3 G_b3 rfl W15 3 rfl (Nat.le_of_ble_eq_true rfl)
  have N15 := Fr.snoc X15 N12 g_b3
  have K15 : Keep h0 h15 [] := K12.wr W15 (Or.inr sz_b3)
  obtain ⟨T17, X17, e17, st17⟩ := getS2 X15 hx hZ hown (host := "") (Or.inl (hw _ (List.mem_of_getElem? (i := 12) rfl))) Via.refl e15 (own_stk S_OFFSET_COMMIT K15) (g := (mkF m 31 #[.val (.int p1), .val (.int p2), .unset, .unset, .unset, .unset, .unset] [(.int (4 : Int32)), (.ref b3), (.ref b3)])) rfl (hb hby at_31)
  obtain ⟨cl_b3_34, Ar_b3, q_b3, S_b3, N_b3, H_b3, G_b3⟩ := V_b3_15
  have hin34 : ¬ ((4 : Int32) < 0 ∨ cl_b3_34.slots.size ≤ ((4 : Int32)).toNatClampNeg) := inb_of S_b3 ⟨by decide, by decide⟩
  obtain ⟨T18, h18, X18, e18, W18, st18⟩ := stR X17 hx hZ e17 Ar_b3 (j := (4 : Int32)) hin34 rfl (Sto.ofV Ar_b3 q_b3 O3 (Ins.self (E_w16.keep K15))) (g := (mkF m 34 #[.val (.int p1), .val (.int p2), .unset, .unset, .unset, .unset, .unset] [(.ref w16), (.int (4 : Int32)), (.ref b3), (.ref b3)])) rfl rfl (hb hby at_34)
  have V_b3_18 : Arv Z h18 b3 k3 (.object "com/example/wyrd/wyrd/protocol/ApiKey") (21 : Int32) [(.ref w4), (.ref w7), (.ref w10), (.ref w13), (.ref w16), .null, .null, .null, .null, .null, .null, .null, .null, .null, .null, .null, .null, .null, .null, .null, .null] .null := Arv.set Ar_b3 q_b3 S_b3 N_b3 H_b3 G_b3 rfl W18 4 rfl (Nat.le_of_ble_eq_true rfl)
  have N18 := Fr.snoc X18 N15 g_b3
  have K18 : Keep h0 h18 [] := K15.wr W18 (Or.inr sz_b3)
  obtain ⟨T20, X20, e20, st20⟩ := getS2 X18 hx hZ hown (host := "") (Or.inl (hw _ (List.mem_of_getElem? (i := 14) rfl))) Via.refl e18 (own_stk S_OFFSET_FETCH K18) (g := (mkF m 37 #[.val (.int p1), .val (.int p2), .unset, .unset, .unset, .unset, .unset] [(.int (5 : Int32)), (.ref b3), (.ref b3)])) rfl (hb hby at_37)
  obtain ⟨cl_b3_40, Ar_b3, q_b3, S_b3, N_b3, H_b3, G_b3⟩ := V_b3_18
  have hin40 : ¬ ((5 : Int32) < 0 ∨ cl_b3_40.slots.size ≤ ((5 : Int32)).toNatClampNeg) := inb_of S_b3 ⟨by decide, by decide⟩
  obtain ⟨T21, h21, X21, e21, W21, st21⟩ := stR X20 hx hZ e20 Ar_b3 (j := (5 : Int32)) hin40 rfl (Sto.ofV Ar_b3 q_b3 O3 (Ins.self (E_w19.keep K18))) (g := (mkF m 40 #[.val (.int p1), .val (.int p2), .unset, .unset, .unset, .unset, .unset] [(.ref w19), (.int (5 : Int32)), (.ref b3), (.ref b3)])) rfl rfl (hb hby at_40)
  have V_b3_21 : Arv Z h21 b3 k3 (.object "com/example/wyrd/wyrd/protocol/ApiKey") (21 : Int32) [(.ref w4), (.ref w7), (.ref w10), (.ref w13), (.ref w16), (.ref w19), .null, .null, .null, .null, .null, .null, .null, .null, .null, .null, .null, .null, .null, .null, .null] .null := Arv.set Ar_b3 q_b3 S_b3 N_b3 H_b3 G_b3 rfl W21 5 rfl (Nat.le_of_ble_eq_true rfl)
  have N21 := Fr.snoc X21 N18 g_b3
  have K21 : Keep h0 h21 [] := K18.wr W21 (Or.inr sz_b3)
  obtain ⟨T23, X23, e23, st23⟩ := getS2 X21 hx hZ hown (host := "") (Or.inl (hw _ (List.mem_of_getElem? (i := 16) rfl))) Via.refl e21 (own_stk S_FIND_COORDINATOR K21) (g := (mkF m 44 #[.val (.int p1), .val (.int p2), .unset, .unset, .unset, .unset, .unset] [(.int (6 : Int32)), (.ref b3), (.ref b3)])) rfl (hb hby at_44)
  obtain ⟨cl_b3_47, Ar_b3, q_b3, S_b3, N_b3, H_b3, G_b3⟩ := V_b3_21
  have hin47 : ¬ ((6 : Int32) < 0 ∨ cl_b3_47.slots.size ≤ ((6 : Int32)).toNatClampNeg) := inb_of S_b3 ⟨by decide, by decide⟩
  obtain ⟨T24, h24, X24, e24, W24, st24⟩ := stR X23 hx hZ e23 Ar_b3 (j := (6 : Int32)) hin47 rfl (Sto.ofV Ar_b3 q_b3 O3 (Ins.self (E_w22.keep K21))) (g := (mkF m 47 #[.val (.int p1), .val (.int p2), .unset, .unset, .unset, .unset, .unset] [(.ref w22), (.int (6 : Int32)), (.ref b3), (.ref b3)])) rfl rfl (hb hby at_47)
  have V_b3_24 : Arv Z h24 b3 k3 (.object "com/example/wyrd/wyrd/protocol/ApiKey") (21 : Int32) [(.ref w4), (.ref w7), (.ref w10), (.ref w13), (.ref w16), (.ref w19), (.ref w22), .null, .null, .null, .null, .null, .null, .null, .null, .null, .null, .null, .null, .null, .null] .null := Arv.set Ar_b3 q_b3 S_b3 N_b3 H_b3 G_b3 rfl W24 6 rfl (Nat.le_of_ble_eq_true rfl)
  have N24 := Fr.snoc X24 N21 g_b3
  have K24 : Keep h0 h24 [] := K21.wr W24 (Or.inr sz_b3)
  obtain ⟨T26, X26, e26, st26⟩ := getS2 X24 hx hZ hown (host := "") (Or.inl (hw _ (List.mem_of_getElem? (i := 18) rfl))) Via.refl e24 (own_stk S_JOIN_GROUP K24) (g := (mkF m 51 #[.val (.int p1), .val (.int p2), .unset, .unset, .unset, .unset, .unset] [(.int (7 : Int32)), (.ref b3), (.ref b3)])) rfl (hb hby at_51)
  obtain ⟨cl_b3_54, Ar_b3, q_b3, S_b3, N_b3, H_b3, G_b3⟩ := V_b3_24
  have hin54 : ¬ ((7 : Int32) < 0 ∨ cl_b3_54.slots.size ≤ ((7 : Int32)).toNatClampNeg) := inb_of S_b3 ⟨by decide, by decide⟩
  obtain ⟨T27, h27, X27, e27, W27, st27⟩ := stR X26 hx hZ e26 Ar_b3 (j := (7 : Int32)) hin54 rfl (Sto.ofV Ar_b3 q_b3 O3 (Ins.self (E_w25.keep K24))) (g := (mkF m 54 #[.val (.int p1), .val (.int p2), .unset, .unset, .unset, .unset, .unset] [(.ref w25), (.int (7 : Int32)), (.ref b3), (.ref b3)])) rfl rfl (hb hby at_54)
  have V_b3_27 : Arv Z h27 b3 k3 (.object "com/example/wyrd/wyrd/protocol/ApiKey") (21 : Int32) [(.ref w4), (.ref w7), (.ref w10), (.ref w13), (.ref w16), (.ref w19), (.ref w22), (.ref w25), .null, .null, .null, .null, .null, .null, .null, .null, .null, .null, .null, .null, .null] .null := Arv.set Ar_b3 q_b3 S_b3 N_b3 H_b3 G_b3 rfl W27 7 rfl (Nat.le_of_ble_eq_true rfl)
  have N27 := Fr.snoc X27 N24 g_b3
  have K27 : Keep h0 h27 [] := K24.wr W27 (Or.inr sz_b3)
  obtain ⟨T29, X29, e29, st29⟩ := getS2 X27 hx hZ hown (host := "") (Or.inl (hw _ (List.mem_of_getElem? (i := 20) rfl))) Via.refl e27 (own_stk S_HEARTBEAT K27) (g := (mkF m 58 #[.val (.int p1), .val (.int p2), .unset, .unset, .unset, .unset, .unset] [(.int (8 : Int32)), (.ref b3), (.ref b3)])) rfl (hb hby at_58)
  obtain ⟨cl_b3_61, Ar_b3, q_b3, S_b3, N_b3, H_b3, G_b3⟩ := V_b3_27
  have hin61 : ¬ ((8 : Int32) < 0 ∨ cl_b3_61.slots.size ≤ ((8 : Int32)).toNatClampNeg) := inb_of S_b3 ⟨by decide, by decide⟩
  obtain ⟨T30, h30, X30, e30, W30, st30⟩ := stR X29 hx hZ e29 Ar_b3 (j := (8 : Int32)) hin61 rfl (Sto.ofV Ar_b3 q_b3 O3 (Ins.self (E_w28.keep K27))) (g := (mkF m 61 #[.val (.int p1), .val (.int p2), .unset, .unset, .unset, .unset, .unset] [(.ref w28), (.int (8 : Int32)), (.ref b3), (.ref b3)])) rfl rfl (hb hby at_61)
  have V_b3_30 : Arv Z h30 b3 k3 (.object "com/example/wyrd/wyrd/protocol/ApiKey") (21 : Int32) [(.ref w4), (.ref w7), (.ref w10), (.ref w13), (.ref w16), (.ref w19), (.ref w22), (.ref w25), (.ref w28), .null, .null, .null, .null, .null, .null, .null, .null, .null, .null, .null, .null] .null := Arv.set Ar_b3 q_b3 S_b3 N_b3 H_b3 G_b3 rfl W30 8 rfl (Nat.le_of_ble_eq_true rfl)
  have N30 := Fr.snoc X30 N27 g_b3
  have K30 : Keep h0 h30 [] := K27.wr W30 (Or.inr sz_b3)
  obtain ⟨T32, X32, e32, st32⟩ := getS2 X30 hx hZ hown (host := "") (Or.inl (hw _ (List.mem_of_getElem? (i := 22) rfl))) Via.refl e30 (own_stk S_LEAVE_GROUP K30) (g := (mkF m 65 #[.val (.int p1), .val (.int p2), .unset, .unset, .unset, .unset, .unset] [(.int (9 : Int32)), (.ref b3), (.ref b3)])) rfl (hb hby at_65)
  obtain ⟨cl_b3_68, Ar_b3, q_b3, S_b3, N_b3, H_b3, G_b3⟩ := V_b3_30
  have hin68 : ¬ ((9 : Int32) < 0 ∨ cl_b3_68.slots.size ≤ ((9 : Int32)).toNatClampNeg) := inb_of S_b3 ⟨by decide, by decide⟩
  obtain ⟨T33, h33, X33, e33, W33, st33⟩ := stR X32 hx hZ e32 Ar_b3 (j := (9 : Int32)) hin68 rfl (Sto.ofV Ar_b3 q_b3 O3 (Ins.self (E_w31.keep K30))) (g := (mkF m 68 #[.val (.int p1), .val (.int p2), .unset, .unset, .unset, .unset, .unset] [(.ref w31), (.int (9 : Int32)), (.ref b3), (.ref b3)])) rfl rfl (hb hby at_68)
  have V_b3_33 : Arv Z h33 b3 k3 (.object "com/example/wyrd/wyrd/protocol/ApiKey") (21 : Int32) [(.ref w4), (.ref w7), (.ref w10), (.ref w13), (.ref w16), (.ref w19), (.ref w22), (.ref w25), (.ref w28), (.ref w31), .null, .null, .null, .null, .null, .null, .null, .null, .null, .null, .null] .null := Arv.set Ar_b3 q_b3 S_b3 N_b3 H_b3 G_b3 rfl W33 9 rfl (Nat.le_of_ble_eq_true rfl)
  have N33 := Fr.snoc X33 N30 g_b3
  have K33 : Keep h0 h33 [] := K30.wr W33 (Or.inr sz_b3)
  obtain ⟨T35, X35, e35, st35⟩ := getS2 X33 hx hZ hown (host := "") (Or.inl (hw _ (List.mem_of_getElem? (i := 24) rfl))) Via.refl e33 (own_stk S_SYNC_GROUP K33) (g := (mkF m 72 #[.val (.int p1), .val (.int p2), .unset, .unset, .unset, .unset, .unset] [(.int (10 : Int32)), (.ref b3), (.ref b3)])) rfl (hb hby at_72)
  obtain ⟨cl_b3_75, Ar_b3, q_b3, S_b3, N_b3, H_b3, G_b3⟩ := V_b3_33
  have hin75 : ¬ ((10 : Int32) < 0 ∨ cl_b3_75.slots.size ≤ ((10 : Int32)).toNatClampNeg) := inb_of S_b3 ⟨by decide, by decide⟩
  obtain ⟨T36, h36, X36, e36, W36, st36⟩ := stR X35 hx hZ e35 Ar_b3 (j := (10 : Int32)) hin75 rfl (Sto.ofV Ar_b3 q_b3 O3 (Ins.self (E_w34.keep K33))) (g := (mkF m 75 #[.val (.int p1), .val (.int p2), .unset, .unset, .unset, .unset, .unset] [(.ref w34), (.int (10 : Int32)), (.ref b3), (.ref b3)])) rfl rfl (hb hby at_75)
  have V_b3_36 : Arv Z h36 b3 k3 (.object "com/example/wyrd/wyrd/protocol/ApiKey") (21 : Int32) [(.ref w4), (.ref w7), (.ref w10), (.ref w13), (.ref w16), (.ref w19), (.ref w22), (.ref w25), (.ref w28), (.ref w31), (.ref w34), .null, .null, .null, .null, .null, .null, .null, .null, .null, .null] .null := Arv.set Ar_b3 q_b3 S_b3 N_b3 H_b3 G_b3 rfl W36 10 rfl (Nat.le_of_ble_eq_true rfl)
  have N36 := Fr.snoc X36 N33 g_b3
  have K36 : Keep h0 h36 [] := K33.wr W36 (Or.inr sz_b3)
  obtain ⟨T38, X38, e38, st38⟩ := getS2 X36 hx hZ hown (host := "") (Or.inl (hw _ (List.mem_of_getElem? (i := 26) rfl))) Via.refl e36 (own_stk S_DESCRIBE_GROUPS K36) (g := (mkF m 79 #[.val (.int p1), .val (.int p2), .unset, .unset, .unset, .unset, .unset] [(.int (11 : Int32)), (.ref b3), (.ref b3)])) rfl (hb hby at_79)
  obtain ⟨cl_b3_82, Ar_b3, q_b3, S_b3, N_b3, H_b3, G_b3⟩ := V_b3_36
  have hin82 : ¬ ((11 : Int32) < 0 ∨ cl_b3_82.slots.size ≤ ((11 : Int32)).toNatClampNeg) := inb_of S_b3 ⟨by decide, by decide⟩
  obtain ⟨T39, h39, X39, e39, W39, st39⟩ := stR X38 hx hZ e38 Ar_b3 (j := (11 : Int32)) hin82 rfl (Sto.ofV Ar_b3 q_b3 O3 (Ins.self (E_w37.keep K36))) (g := (mkF m 82 #[.val (.int p1), .val (.int p2), .unset, .unset, .unset, .unset, .unset] [(.ref w37), (.int (11 : Int32)), (.ref b3), (.ref b3)])) rfl rfl (hb hby at_82)
  have V_b3_39 : Arv Z h39 b3 k3 (.object "com/example/wyrd/wyrd/protocol/ApiKey") (21 : Int32) [(.ref w4), (.ref w7), (.ref w10), (.ref w13), (.ref w16), (.ref w19), (.ref w22), (.ref w25), (.ref w28), (.ref w31), (.ref w34), (.ref w37), .null, .null, .null, .null, .null, .null, .null, .null, .null] .null := Arv.set Ar_b3 q_b3 S_b3 N_b3 H_b3 G_b3 rfl W39 11 rfl (Nat.le_of_ble_eq_true rfl)
  have N39 := Fr.snoc X39 N36 g_b3
  have K39 : Keep h0 h39 [] := K36.wr W39 (Or.inr sz_b3)
  obtain ⟨T41, X41, e41, st41⟩ := getS2 X39 hx hZ hown (host := "") (Or.inl (hw _ (List.mem_of_getElem? (i := 28) rfl))) Via.refl e39 (own_stk S_LIST_GROUPS K39) (g := (mkF m 86 #[.val (.int p1), .val (.int p2), .unset, .unset, .unset, .unset, .unset] [(.int (12 : Int32)), (.ref b3), (.ref b3)])) rfl (hb hby at_86)
  obtain ⟨cl_b3_89, Ar_b3, q_b3, S_b3, N_b3, H_b3, G_b3⟩ := V_b3_39
  have hin89 : ¬ ((12 : Int32) < 0 ∨ cl_b3_89.slots.size ≤ ((12 : Int32)).toNatClampNeg) := inb_of S_b3 ⟨by decide, by decide⟩
  obtain ⟨T42, h42, X42, e42, W42, st42⟩ := stR X41 hx hZ e41 Ar_b3 (j := (12 : Int32)) hin89 rfl (Sto.ofV Ar_b3 q_b3 O3 (Ins.self (E_w40.keep K39))) (g := (mkF m 89 #[.val (.int p1), .val (.int p2), .unset, .unset, .unset, .unset, .unset] [(.ref w40), (.int (12 : Int32)), (.ref b3), (.ref b3)])) rfl rfl (hb hby at_89)
  have V_b3_42 : Arv Z h42 b3 k3 (.object "com/example/wyrd/wyrd/protocol/ApiKey") (21 : Int32) [(.ref w4), (.ref w7), (.ref w10), (.ref w13), (.ref w16), (.ref w19), (.ref w22), (.ref w25), (.ref w28), (.ref w31), (.ref w34), (.ref w37), (.ref w40), .null, .null, .null, .null, .null, .null, .null, .null] .null := Arv.set Ar_b3 q_b3 S_b3 N_b3 H_b3 G_b3 rfl W42 12 rfl (Nat.le_of_ble_eq_true rfl)
  have N42 := Fr.snoc X42 N39 g_b3
  have K42 : Keep h0 h42 [] := K39.wr W42 (Or.inr sz_b3)
  obtain ⟨T44, X44, e44, st44⟩ := getS2 X42 hx hZ hown (host := "") (Or.inl (hw _ (List.mem_of_getElem? (i := 30) rfl))) Via.refl e42 (own_stk S_API_VERSIONS K42) (g := (mkF m 93 #[.val (.int p1), .val (.int p2), .unset, .unset, .unset, .unset, .unset] [(.int (13 : Int32)), (.ref b3), (.ref b3)])) rfl (hb hby at_93)
  obtain ⟨cl_b3_96, Ar_b3, q_b3, S_b3, N_b3, H_b3, G_b3⟩ := V_b3_42
  have hin96 : ¬ ((13 : Int32) < 0 ∨ cl_b3_96.slots.size ≤ ((13 : Int32)).toNatClampNeg) := inb_of S_b3 ⟨by decide, by decide⟩
  obtain ⟨T45, h45, X45, e45, W45, st45⟩ := stR X44 hx hZ e44 Ar_b3 (j := (13 : Int32)) hin96 rfl (Sto.ofV Ar_b3 q_b3 O3 (Ins.self (E_w43.keep K42))) (g := (mkF m 96 #[.val (.int p1), .val (.int p2), .unset, .unset, .unset, .unset, .unset] [(.ref w43), (.int (13 : Int32)), (.ref b3), (.ref b3)])) rfl rfl (hb hby at_96)
  have V_b3_45 : Arv Z h45 b3 k3 (.object "com/example/wyrd/wyrd/protocol/ApiKey") (21 : Int32) [(.ref w4), (.ref w7), (.ref w10), (.ref w13), (.ref w16), (.ref w19), (.ref w22), (.ref w25), (.ref w28), (.ref w31), (.ref w34), (.ref w37), (.ref w40), (.ref w43), .null, .null, .null, .null, .null, .null, .null] .null := Arv.set Ar_b3 q_b3 S_b3 N_b3 H_b3 G_b3 rfl W45 13 rfl (Nat.le_of_ble_eq_true rfl)
  have N45 := Fr.snoc X45 N42 g_b3
  have K45 : Keep h0 h45 [] := K42.wr W45 (Or.inr sz_b3)
  obtain ⟨T47, X47, e47, st47⟩ := getS2 X45 hx hZ hown (host := "") (Or.inl (hw _ (List.mem_of_getElem? (i := 32) rfl))) Via.refl e45 (own_stk S_CREATE_TOPICS K45) (g := (mkF m 100 #[.val (.int p1), .val (.int p2), .unset, .unset, .unset, .unset, .unset] [(.int (14 : Int32)), (.ref b3), (.ref b3)])) rfl (hb hby at_100)
  obtain ⟨cl_b3_103, Ar_b3, q_b3, S_b3, N_b3, H_b3, G_b3⟩ := V_b3_45
  have hin103 : ¬ ((14 : Int32) < 0 ∨ cl_b3_103.slots.size ≤ ((14 : Int32)).toNatClampNeg) := inb_of S_b3 ⟨by decide, by decide⟩
  obtain ⟨T48, h48, X48, e48, W48, st48⟩ := stR X47 hx hZ e47 Ar_b3 (j := (14 : Int32)) hin103 rfl (Sto.ofV Ar_b3 q_b3 O3 (Ins.self (E_w46.keep K45))) (g := (mkF m 103 #[.val (.int p1), .val (.int p2), .unset, .unset, .unset, .unset, .unset] [(.ref w46), (.int (14 : Int32)), (.ref b3), (.ref b3)])) rfl rfl (hb hby at_103)
  have V_b3_48 : Arv Z h48 b3 k3 (.object "com/example/wyrd/wyrd/protocol/ApiKey") (21 : Int32) [(.ref w4), (.ref w7), (.ref w10), (.ref w13), (.ref w16), (.ref w19), (.ref w22), (.ref w25), (.ref w28), (.ref w31), (.ref w34), (.ref w37), (.ref w40), (.ref w43), (.ref w46), .null, .null, .null, .null, .null, .null] .null := Arv.set Ar_b3 q_b3 S_b3 N_b3 H_b3 G_b3 rfl W48 14 rfl (Nat.le_of_ble_eq_true rfl)
  have N48 := Fr.snoc X48 N45 g_b3
  have K48 : Keep h0 h48 [] := K45.wr W48 (Or.inr sz_b3)
  obtain ⟨T50, X50, e50, st50⟩ := getS2 X48 hx hZ hown (host := "") (Or.inl (hw _ (List.mem_of_getElem? (i := 34) rfl))) Via.refl e48 (own_stk S_DELETE_TOPICS K48) (g := (mkF m 107 #[.val (.int p1), .val (.int p2), .unset, .unset, .unset, .unset, .unset] [(.int (15 : Int32)), (.ref b3), (.ref b3)])) rfl (hb hby at_107)
  obtain ⟨cl_b3_110, Ar_b3, q_b3, S_b3, N_b3, H_b3, G_b3⟩ := V_b3_48
  have hin110 : ¬ ((15 : Int32) < 0 ∨ cl_b3_110.slots.size ≤ ((15 : Int32)).toNatClampNeg) := inb_of S_b3 ⟨by decide, by decide⟩
  obtain ⟨T51, h51, X51, e51, W51, st51⟩ := stR X50 hx hZ e50 Ar_b3 (j := (15 : Int32)) hin110 rfl (Sto.ofV Ar_b3 q_b3 O3 (Ins.self (E_w49.keep K48))) (g := (mkF m 110 #[.val (.int p1), .val (.int p2), .unset, .unset, .unset, .unset, .unset] [(.ref w49), (.int (15 : Int32)), (.ref b3), (.ref b3)])) rfl rfl (hb hby at_110)
  have V_b3_51 : Arv Z h51 b3 k3 (.object "com/example/wyrd/wyrd/protocol/ApiKey") (21 : Int32) [(.ref w4), (.ref w7), (.ref w10), (.ref w13), (.ref w16), (.ref w19), (.ref w22), (.ref w25), (.ref w28), (.ref w31), (.ref w34), (.ref w37), (.ref w40), (.ref w43), (.ref w46), (.ref w49), .null, .null, .null, .null, .null] .null := Arv.set Ar_b3 q_b3 S_b3 N_b3 H_b3 G_b3 rfl W51 15 rfl (Nat.le_of_ble_eq_true rfl)
  have N51 := Fr.snoc X51 N48 g_b3
  have K51 : Keep h0 h51 [] := K48.wr W51 (Or.inr sz_b3)
  obtain ⟨T53, X53, e53, st53⟩ := getS2 X51 hx hZ hown (host := "") (Or.inl (hw _ (List.mem_of_getElem? (i := 36) rfl))) Via.refl e51 (own_stk S_INIT_PRODUCER_ID K51) (g := (mkF m 114 #[.val (.int p1), .val (.int p2), .unset, .unset, .unset, .unset, .unset] [(.int (16 : Int32)), (.ref b3), (.ref b3)])) rfl (hb hby at_114)
  obtain ⟨cl_b3_117, Ar_b3, q_b3, S_b3, N_b3, H_b3, G_b3⟩ := V_b3_51
  have hin117 : ¬ ((16 : Int32) < 0 ∨ cl_b3_117.slots.size ≤ ((16 : Int32)).toNatClampNeg) := inb_of S_b3 ⟨by decide, by decide⟩
  obtain ⟨T54, h54, X54, e54, W54, st54⟩ := stR X53 hx hZ e53 Ar_b3 (j := (16 : Int32)) hin117 rfl (Sto.ofV Ar_b3 q_b3 O3 (Ins.self (E_w52.keep K51))) (g := (mkF m 117 #[.val (.int p1), .val (.int p2), .unset, .unset, .unset, .unset, .unset] [(.ref w52), (.int (16 : Int32)), (.ref b3), (.ref b3)])) rfl rfl (hb hby at_117)
  have V_b3_54 : Arv Z h54 b3 k3 (.object "com/example/wyrd/wyrd/protocol/ApiKey") (21 : Int32) [(.ref w4), (.ref w7), (.ref w10), (.ref w13), (.ref w16), (.ref w19), (.ref w22), (.ref w25), (.ref w28), (.ref w31), (.ref w34), (.ref w37), (.ref w40), (.ref w43), (.ref w46), (.ref w49), (.ref w52), .null, .null, .null, .null] .null := Arv.set Ar_b3 q_b3 S_b3 N_b3 H_b3 G_b3 rfl W54 16 rfl (Nat.le_of_ble_eq_true rfl)
  have N54 := Fr.snoc X54 N51 g_b3
  have K54 : Keep h0 h54 [] := K51.wr W54 (Or.inr sz_b3)
  obtain ⟨T56, X56, e56, st56⟩ := getS2 X54 hx hZ hown (host := "") (Or.inl (hw _ (List.mem_of_getElem? (i := 38) rfl))) Via.refl e54 (own_stk S_DESCRIBE_CONFIGS K54) (g := (mkF m 121 #[.val (.int p1), .val (.int p2), .unset, .unset, .unset, .unset, .unset] [(.int (17 : Int32)), (.ref b3), (.ref b3)])) rfl (hb hby at_121)
  obtain ⟨cl_b3_124, Ar_b3, q_b3, S_b3, N_b3, H_b3, G_b3⟩ := V_b3_54
  have hin124 : ¬ ((17 : Int32) < 0 ∨ cl_b3_124.slots.size ≤ ((17 : Int32)).toNatClampNeg) := inb_of S_b3 ⟨by decide, by decide⟩
  obtain ⟨T57, h57, X57, e57, W57, st57⟩ := stR X56 hx hZ e56 Ar_b3 (j := (17 : Int32)) hin124 rfl (Sto.ofV Ar_b3 q_b3 O3 (Ins.self (E_w55.keep K54))) (g := (mkF m 124 #[.val (.int p1), .val (.int p2), .unset, .unset, .unset, .unset, .unset] [(.ref w55), (.int (17 : Int32)), (.ref b3), (.ref b3)])) rfl rfl (hb hby at_124)
  have V_b3_57 : Arv Z h57 b3 k3 (.object "com/example/wyrd/wyrd/protocol/ApiKey") (21 : Int32) [(.ref w4), (.ref w7), (.ref w10), (.ref w13), (.ref w16), (.ref w19), (.ref w22), (.ref w25), (.ref w28), (.ref w31), (.ref w34), (.ref w37), (.ref w40), (.ref w43), (.ref w46), (.ref w49), (.ref w52), (.ref w55), .null, .null, .null] .null := Arv.set Ar_b3 q_b3 S_b3 N_b3 H_b3 G_b3 rfl W57 17 rfl (Nat.le_of_ble_eq_true rfl)
  have N57 := Fr.snoc X57 N54 g_b3
  have K57 : Keep h0 h57 [] := K54.wr W57 (Or.inr sz_b3)
  obtain ⟨T59, X59, e59, st59⟩ := getS2 X57 hx hZ hown (host := "") (Or.inl (hw _ (List.mem_of_getElem? (i := 40) rfl))) Via.refl e57 (own_stk S_ALTER_CONFIGS K57) (g := (mkF m 128 #[.val (.int p1), .val (.int p2), .unset, .unset, .unset, .unset, .unset] [(.int (18 : Int32)), (.ref b3), (.ref b3)])) rfl (hb hby at_128)
  obtain ⟨cl_b3_131, Ar_b3, q_b3, S_b3, N_b3, H_b3, G_b3⟩ := V_b3_57
  have hin131 : ¬ ((18 : Int32) < 0 ∨ cl_b3_131.slots.size ≤ ((18 : Int32)).toNatClampNeg) := inb_of S_b3 ⟨by decide, by decide⟩
  obtain ⟨T60, h60, X60, e60, W60, st60⟩ := stR X59 hx hZ e59 Ar_b3 (j := (18 : Int32)) hin131 rfl (Sto.ofV Ar_b3 q_b3 O3 (Ins.self (E_w58.keep K57))) (g := (mkF m 131 #[.val (.int p1), .val (.int p2), .unset, .unset, .unset, .unset, .unset] [(.ref w58), (.int (18 : Int32)), (.ref b3), (.ref b3)])) rfl rfl (hb hby at_131)
  have V_b3_60 : Arv Z h60 b3 k3 (.object "com/example/wyrd/wyrd/protocol/ApiKey") (21 : Int32) [(.ref w4), (.ref w7), (.ref w10), (.ref w13), (.ref w16), (.ref w19), (.ref w22), (.ref w25), (.ref w28), (.ref w31), (.ref w34), (.ref w37), (.ref w40), (.ref w43), (.ref w46), (.ref w49), (.ref w52), (.ref w55), (.ref w58), .null, .null] .null := Arv.set Ar_b3 q_b3 S_b3 N_b3 H_b3 G_b3 rfl W60 18 rfl (Nat.le_of_ble_eq_true rfl)
  have N60 := Fr.snoc X60 N57 g_b3
  have K60 : Keep h0 h60 [] := K57.wr W60 (Or.inr sz_b3)
  obtain ⟨T62, X62, e62, st62⟩ := getS2 X60 hx hZ hown (host := "") (Or.inl (hw _ (List.mem_of_getElem? (i := 42) rfl))) Via.refl e60 (own_stk S_CREATE_PARTITIONS K60) (g := (mkF m 135 #[.val (.int p1), .val (.int p2), .unset, .unset, .unset, .unset, .unset] [(.int (19 : Int32)), (.ref b3), (.ref b3)])) rfl (hb hby at_135)
  obtain ⟨cl_b3_138, Ar_b3, q_b3, S_b3, N_b3, H_b3, G_b3⟩ := V_b3_60
  have hin138 : ¬ ((19 : Int32) < 0 ∨ cl_b3_138.slots.size ≤ ((19 : Int32)).toNatClampNeg) := inb_of S_b3 ⟨by decide, by decide⟩
  obtain ⟨T63, h63, X63, e63, W63, st63⟩ := stR X62 hx hZ e62 Ar_b3 (j := (19 : Int32)) hin138 rfl (Sto.ofV Ar_b3 q_b3 O3 (Ins.self (E_w61.keep K60))) (g := (mkF m 138 #[.val (.int p1), .val (.int p2), .unset, .unset, .unset, .unset, .unset] [(.ref w61), (.int (19 : Int32)), (.ref b3), (.ref b3)])) rfl rfl (hb hby at_138)
  have V_b3_63 : Arv Z h63 b3 k3 (.object "com/example/wyrd/wyrd/protocol/ApiKey") (21 : Int32) [(.ref w4), (.ref w7), (.ref w10), (.ref w13), (.ref w16), (.ref w19), (.ref w22), (.ref w25), (.ref w28), (.ref w31), (.ref w34), (.ref w37), (.ref w40), (.ref w43), (.ref w46), (.ref w49), (.ref w52), (.ref w55), (.ref w58), (.ref w61), .null] .null := Arv.set Ar_b3 q_b3 S_b3 N_b3 H_b3 G_b3 rfl W63 19 rfl (Nat.le_of_ble_eq_true rfl)
  have N63 := Fr.snoc X63 N60 g_b3
  have K63 : Keep h0 h63 [] := K60.wr W63 (Or.inr sz_b3)
  obtain ⟨T65, X65, e65, st65⟩ := getS2 X63 hx hZ hown (host := "") (Or.inl (hw _ (List.mem_of_getElem? (i := 44) rfl))) Via.refl e63 (own_stk S_INCREMENTAL_ALTER_CONFIGS K63) (g := (mkF m 142 #[.val (.int p1), .val (.int p2), .unset, .unset, .unset, .unset, .unset] [(.int (20 : Int32)), (.ref b3), (.ref b3)])) rfl (hb hby at_142)
  obtain ⟨cl_b3_145, Ar_b3, q_b3, S_b3, N_b3, H_b3, G_b3⟩ := V_b3_63
  have hin145 : ¬ ((20 : Int32) < 0 ∨ cl_b3_145.slots.size ≤ ((20 : Int32)).toNatClampNeg) := inb_of S_b3 ⟨by decide, by decide⟩
  obtain ⟨T66, h66, X66, e66, W66, st66⟩ := stR X65 hx hZ e65 Ar_b3 (j := (20 : Int32)) hin145 rfl (Sto.ofV Ar_b3 q_b3 O3 (Ins.self (E_w64.keep K63))) (g := (mkF m 145 #[.val (.int p1), .val (.int p2), .unset, .unset, .unset, .unset, .unset] [(.ref w64), (.int (20 : Int32)), (.ref b3), (.ref b3)])) rfl rfl (hb hby at_145)
  have V_b3_66 : Arv Z h66 b3 k3 (.object "com/example/wyrd/wyrd/protocol/ApiKey") (21 : Int32) [(.ref w4), (.ref w7), (.ref w10), (.ref w13), (.ref w16), (.ref w19), (.ref w22), (.ref w25), (.ref w28), (.ref w31), (.ref w34), (.ref w37), (.ref w40), (.ref w43), (.ref w46), (.ref w49), (.ref w52), (.ref w55), (.ref w58), (.ref w61), (.ref w64)] .null := Arv.set Ar_b3 q_b3 S_b3 N_b3 H_b3 G_b3 rfl W66 20 rfl (Nat.le_of_ble_eq_true rfl)
  have N66 := Fr.snoc X66 N63 g_b3
  have K66 : Keep h0 h66 [] := K63.wr W66 (Or.inr sz_b3)
  obtain ⟨T67, h67, k67, X67, e67, E67, A67, st67⟩ := newP X66 hx hZ (hw _ (List.mem_of_getElem? (i := 46) rfl)) e66 (g := (mkF m 149 #[.val (.int p1), .val (.int p2), .val (.ref b3), .unset, .unset, .unset, .unset] [(.int (21 : Int32))])) rfl (hb hby at_149) rfl (by decide) (cap := 21) (by decide) (by decide) (by decide) (by decide)
  obtain ⟨b67, g67⟩ : ∃ z, z = h66.size := ⟨_, rfl⟩
  rw [← g67] at A67 st67
  have V_b67 : Arv Z h67 b67 k67 .int (21 : Int32) [(.int (0 : Int32)), (.int (0 : Int32)), (.int (0 : Int32)), (.int (0 : Int32)), (.int (0 : Int32)), (.int (0 : Int32)), (.int (0 : Int32)), (.int (0 : Int32)), (.int (0 : Int32)), (.int (0 : Int32)), (.int (0 : Int32)), (.int (0 : Int32)), (.int (0 : Int32)), (.int (0 : Int32)), (.int (0 : Int32)), (.int (0 : Int32)), (.int (0 : Int32)), (.int (0 : Int32)), (.int (0 : Int32)), (.int (0 : Int32)), (.int (0 : Int32))] (.int (0 : Int32)) := (Arv.new A67 (by decide)).pad (pad_rep [] (.int (0 : Int32)) 21)
  have g_b67 : n0 ≤ b67 := Nat.le_trans (Nat.le_trans (Nat.le_trans (Nat.le_trans (Nat.le_trans (Nat.le_trans (Nat.le_trans (Nat.le_trans (Nat.le_trans (Nat.le_trans (Nat.le_trans (Nat.le_trans (Nat.le_trans (Nat.le_trans (Nat.le_trans (Nat.le_trans (Nat.le_trans (Nat.le_trans (Nat.le_trans (Nat.le_trans (Nat.le_trans (Nat.le_trans (Nat.le_trans Z0 E3.1) (Keep.of_wr W6).1) (Keep.of_wr W9).1) (Keep.of_wr W12).1) (Keep.of_wr W15).1) (Keep.of_wr W18).1) (Keep.of_wr W21).1) (Keep.of_wr W24).1) (Keep.of_wr W27).1) (Keep.of_wr W30).1) (Keep.of_wr W33).1) (Keep.of_wr W36).1) (Keep.of_wr W39).1) (Keep.of_wr W42).1) (Keep.of_wr W45).1) (Keep.of_wr W48).1) (Keep.of_wr W51).1) (Keep.of_wr W54).1) (Keep.of_wr W57).1) (Keep.of_wr W60).1) (Keep.of_wr W63).1) (Keep.of_wr W66).1) (Nat.le_of_eq g67.symm)
  have sz_b67 : h0.size ≤ b67 := (Nat.le_trans K66.1 (Nat.le_of_eq g67.symm))
  have K67 : Keep h0 h67 [] := K66.ext E67
  obtain ⟨cl_b67_155, Ar_b67, q_b67, S_b67, N_b67, H_b67, G_b67⟩ := V_b67
  have hin155 : ¬ ((0 : Int32) < 0 ∨ cl_b67_155.slots.size ≤ ((0 : Int32)).toNatClampNeg) := inb_of S_b67 ⟨by decide, by decide⟩
  obtain ⟨T68, h68, X68, e68, W68, st68⟩ := stI X67 hx hZ e67 Ar_b67 (j := (0 : Int32)) hin155 (g := (mkF m 155 #[.val (.int p1), .val (.int p2), .val (.ref b3), .unset, .unset, .unset, .unset] [(.int (9 : Int32)), (.int (0 : Int32)), (.ref b67), (.ref b67)])) rfl rfl (hb hby at_155)
  have V_b67_68 : Arv Z h68 b67 k67 .int (21 : Int32) [(.int (9 : Int32)), (.int (0 : Int32)), (.int (0 : Int32)), (.int (0 : Int32)), (.int (0 : Int32)), (.int (0 : Int32)), (.int (0 : Int32)), (.int (0 : Int32)), (.int (0 : Int32)), (.int (0 : Int32)), (.int (0 : Int32)), (.int (0 : Int32)), (.int (0 : Int32)), (.int (0 : Int32)), (.int (0 : Int32)), (.int (0 : Int32)), (.int (0 : Int32)), (.int (0 : Int32)), (.int (0 : Int32)), (.int (0 : Int32)), (.int (0 : Int32))] (.int (0 : Int32)) := Arv.set Ar_b67 q_b67 S_b67 N_b67 H_b67 G_b67 rfl W68 0 rfl (Nat.le_of_ble_eq_true rfl)
  have K68 : Keep h0 h68 [] := K67.wr W68 (Or.inr sz_b67)
  have N68 := Fr.snoc X68 N66 g_b67
  obtain ⟨cl_b67_160, Ar_b67, q_b67, S_b67, N_b67, H_b67, G_b67⟩ := V_b67_68
  have hin160 : ¬ ((1 : Int32) < 0 ∨ cl_b67_160.slots.size ≤ ((1 : Int32)).toNatClampNeg) := inb_of S_b67 ⟨by decide, by decide⟩
  obtain ⟨T69, h69, X69, e69, W69, st69⟩ := stI X68 hx hZ e68 Ar_b67 (j := (1 : Int32)) hin160 (g := (mkF m 160 #[.val (.int p1), .val (.int p2), .val (.ref b3), .unset, .unset, .unset, .unset] [(.int (12 : Int32)), (.int (1 : Int32)), (.ref b67), (.ref b67)])) rfl rfl (hb hby at_160)
  have V_b67_69 : Arv Z h69 b67 k67 .int (21 : Int32) [(.int (9 : Int32)), (.int (12 : Int32)), (.int (0 : Int32)), (.int (0 : Int32)), (.int (0 : Int32)), (.int (0 : Int32)), (.int (0 : Int32)), (.int (0 : Int32)), (.int (0 : Int32)), (.int (0 : Int32)), (.int (0 : Int32)), (.int (0 : Int32)), (.int (0 : Int32)), (.int (0 : Int32)), (.int (0 : Int32)), (.int (0 : Int32)), (.int (0 : Int32)), (.int (0 : Int32)), (.int (0 : Int32)), (.int (0 : Int32)), (.int (0 : Int32))] (.int (0 : Int32)) := Arv.set Ar_b67 q_b67 S_b67 N_b67 H_b67 G_b67 rfl W69 1 rfl (Nat.le_of_ble_eq_true rfl)
  have K69 : Keep h0 h69 [] := K68.wr W69 (Or.inr sz_b67)
  have N69 := Fr.snoc X69 N68 g_b67
  obtain ⟨cl_b67_165, Ar_b67, q_b67, S_b67, N_b67, H_b67, G_b67⟩ := V_b67_69
  have hin165 : ¬ ((2 : Int32) < 0 ∨ cl_b67_165.slots.size ≤ ((2 : Int32)).toNatClampNeg) := inb_of S_b67 ⟨by decide, by decide⟩
  obtain ⟨T70, h70, X70, e70, W70, st70⟩ := stI X69 hx hZ e69 Ar_b67 (j := (2 : Int32)) hin165 (g := (mkF m 165 #[.val (.int p1), .val (.int p2), .val (.ref b3), .unset, .unset, .unset, .unset] [(.int (6 : Int32)), (.int (2 : Int32)), (.ref b67), (.ref b67)])) rfl rfl (hb hby at_165)
  have V_b67_70 : Arv Z h70 b67 k67 .int (21 : Int32) [(.int (9 : Int32)), (.int (12 : Int32)), (.int (6 : Int32)), (.int (0 : Int32)), (.int (0 : Int32)), (.int (0 : Int32)), (.int (0 : Int32)), (.int (0 : Int32)), (.int (0 : Int32)), (.int (0 : Int32)), (.int (0 : Int32)), (.int (0 : Int32)), (.int (0 : Int32)), (.int (0 : Int32)), (.int (0 : Int32)), (.int (0 : Int32)), (.int (0 : Int32)), (.int (0 : Int32)), (.int (0 : Int32)), (.int (0 : Int32)), (.int (0 : Int32))] (.int (0 : Int32)) := Arv.set Ar_b67 q_b67 S_b67 N_b67 H_b67 G_b67 rfl W70 2 rfl (Nat.le_of_ble_eq_true rfl)
  have K70 : Keep h0 h70 [] := K69.wr W70 (Or.inr sz_b67)
  have N70 := Fr.snoc X70 N69 g_b67
  obtain ⟨cl_b67_170, Ar_b67, q_b67, S_b67, N_b67, H_b67, G_b67⟩ := V_b67_70
  have hin170 : ¬ ((3 : Int32) < 0 ∨ cl_b67_170.slots.size ≤ ((3 : Int32)).toNatClampNeg) := inb_of S_b67 ⟨by decide, by decide⟩
  obtain ⟨T71, h71, X71, e71, W71, st71⟩ := stI X70 hx hZ e70 Ar_b67 (j := (3 : Int32)) hin170 (g := (mkF m 170 #[.val (.int p1), .val (.int p2), .val (.ref b3), .unset, .unset, .unset, .unset] [(.int (9 : Int32)), (.int (3 : Int32)), (.ref b67), (.ref b67)])) rfl rfl (hb hby at_170)
  have V_b67_71 : Arv Z h71 b67 k67 .int (21 : Int32) [(.int (9 : Int32)), (.int (12 : Int32)), (.int (6 : Int32)), (.int (9 : Int32)), (.int (0 : Int32)), (.int (0 : Int32)), (.int (0 : Int32)), (.int (0 : Int32)), (.int (0 : Int32)), (.int (0 : Int32)), (.int (0 : Int32)), (.int (0 : Int32)), (.int (0 : Int32)), (.int (0 : Int32)), (.int (0 : Int32)), (.int (0 : Int32)), (.int (0 : Int32)), (.int (0 : Int32)), (.int (0 : Int32)), (.int (0 : Int32)), (.int (0 : Int32))] (.int (0 : Int32)) := Arv.set Ar_b67 q_b67 S_b67 N_b67 H_b67 G_b67 rfl W71 3 rfl (Nat.le_of_ble_eq_true rfl)
  have K71 : Keep h0 h71 [] := K70.wr W71 (Or.inr sz_b67)
  have N71 := Fr.snoc X71 N70 g_b67
  obtain ⟨cl_b67_175, Ar_b67, q_b67, S_b67, N_b67, H_b67, G_b67⟩ := V_b67_71
  have hin175 : ¬ ((4 : Int32) < 0 ∨ cl_b67_175.slots.size ≤ ((4 : Int32)).toNatClampNeg) := inb_of S_b67 ⟨by decide, by decide⟩
  obtain ⟨T72, h72, X72, e72, W72, st72⟩ := stI X71 hx hZ e71 Ar_b67 (j := (4 : Int32)) hin175 (g := (mkF m 175 #[.val (.int p1), .val (.int p2), .val (.ref b3), .unset, .unset, .unset, .unset] [(.int (8 : Int32)), (.int (4 : Int32)), (.ref b67), (.ref b67)])) rfl rfl (hb hby at_175)
  have V_b67_72 : Arv Z h72 b67 k67 .int (21 : Int32) [(.int (9 : Int32)), (.int (12 : Int32)), (.int (6 : Int32)), (.int (9 : Int32)), (.int (8 : Int32)), (.int (0 : Int32)), (.int (0 : Int32)), (.int (0 : Int32)), (.int (0 : Int32)), (.int (0 : Int32)), (.int (0 : Int32)), (.int (0 : Int32)), (.int (0 : Int32)), (.int (0 : Int32)), (.int (0 : Int32)), (.int (0 : Int32)), (.int (0 : Int32)), (.int (0 : Int32)), (.int (0 : Int32)), (.int (0 : Int32)), (.int (0 : Int32))] (.int (0 : Int32)) := Arv.set Ar_b67 q_b67 S_b67 N_b67 H_b67 G_b67 rfl W72 4 rfl (Nat.le_of_ble_eq_true rfl)
  have K72 : Keep h0 h72 [] := K71.wr W72 (Or.inr sz_b67)
  have N72 := Fr.snoc X72 N71 g_b67
  obtain ⟨cl_b67_180, Ar_b67, q_b67, S_b67, N_b67, H_b67, G_b67⟩ := V_b67_72
  have hin180 : ¬ ((5 : Int32) < 0 ∨ cl_b67_180.slots.size ≤ ((5 : Int32)).toNatClampNeg) := inb_of S_b67 ⟨by decide, by decide⟩
  obtain ⟨T73, h73, X73, e73, W73, st73⟩ := stI X72 hx hZ e72 Ar_b67 (j := (5 : Int32)) hin180 (g := (mkF m 180 #[.val (.int p1), .val (.int p2), .val (.ref b3), .unset, .unset, .unset, .unset] [(.int (6 : Int32)), (.int (5 : Int32)), (.ref b67), (.ref b67)])) rfl rfl (hb hby at_180)
  have V_b67_73 : Arv Z h73 b67 k67 .int (21 : Int32) [(.int (9 : Int32)), (.int (12 : Int32)), (.int (6 : Int32)), (.int (9 : Int32)), (.int (8 : Int32)), (.int (6 : Int32)), (.int (0 : Int32)), (.int (0 : Int32)), (.int (0 : Int32)), (.int (0 : Int32)), (.int (0 : Int32)), (.int (0 : Int32)), (.int (0 : Int32)), (.int (0 : Int32)), (.int (0 : Int32)), (.int (0 : Int32)), (.int (0 : Int32)), (.int (0 : Int32)), (.int (0 : Int32)), (.int (0 : Int32)), (.int (0 : Int32))] (.int (0 : Int32)) := Arv.set Ar_b67 q_b67 S_b67 N_b67 H_b67 G_b67 rfl W73 5 rfl (Nat.le_of_ble_eq_true rfl)
  have K73 : Keep h0 h73 [] := K72.wr W73 (Or.inr sz_b67)
  have N73 := Fr.snoc X73 N72 g_b67
  obtain ⟨cl_b67_185, Ar_b67, q_b67, S_b67, N_b67, H_b67, G_b67⟩ := V_b67_73
  have hin185 : ¬ ((6 : Int32) < 0 ∨ cl_b67_185.slots.size ≤ ((6 : Int32)).toNatClampNeg) := inb_of S_b67 ⟨by decide, by decide⟩
  obtain ⟨T74, h74, X74, e74, W74, st74⟩ := stI X73 hx hZ e73 Ar_b67 (j := (6 : Int32)) hin185 (g := (mkF m 185 #[.val (.int p1), .val (.int p2), .val (.ref b3), .unset, .unset, .unset, .unset] [(.int (3 : Int32)), (.int (6 : Int32)), (.ref b67), (.ref b67)])) rfl rfl (hb hby at_185)
  have V_b67_74 : Arv Z h74 b67 k67 .int (21 : Int32) [(.int (9 : Int32)), (.int (12 : Int32)), (.int (6 : Int32)), (.int (9 : Int32)), (.int (8 : Int32)), (.int (6 : Int32)), (.int (3 : Int32)), (.int (0 : Int32)), (.int (0 : Int32)), (.int (0 : Int32)), (.int (0 : Int32)), (.int (0 : Int32)), (.int (0 : Int32)), (.int (0 : Int32)), (.int (0 : Int32)), (.int (0 : Int32)), (.int (0 : Int32)), (.int (0 : Int32)), (.int (0 : Int32)), (.int (0 : Int32)), (.int (0 : Int32))] (.int (0 : Int32)) := Arv.set Ar_b67 q_b67 S_b67 N_b67 H_b67 G_b67 rfl W74 6 rfl (Nat.le_of_ble_eq_true rfl)
  have K74 : Keep h0 h74 [] := K73.wr W74 (Or.inr sz_b67)
  have N74 := Fr.snoc X74 N73 g_b67
  obtain ⟨cl_b67_191, Ar_b67, q_b67, S_b67, N_b67, H_b67, G_b67⟩ := V_b67_74
  have hin191 : ¬ ((7 : Int32) < 0 ∨ cl_b67_191.slots.size ≤ ((7 : Int32)).toNatClampNeg) := inb_of S_b67 ⟨by decide, by decide⟩
  obtain ⟨T75, h75, X75, e75, W75, st75⟩ := stI X74 hx hZ e74 Ar_b67 (j := (7 : Int32)) hin191 (g := (mkF m 191 #[.val (.int p1), .val (.int p2), .val (.ref b3), .unset, .unset, .unset, .unset] [(.int (6 : Int32)), (.int (7 : Int32)), (.ref b67), (.ref b67)])) rfl rfl (hb hby at_191)
  have V_b67_75 : Arv Z h75 b67 k67 .int (21 : Int32) [(.int (9 : Int32)), (.int (12 : Int32)), (.int (6 : Int32)), (.int (9 : Int32)), (.int (8 : Int32)), (.int (6 : Int32)), (.int (3 : Int32)), (.int (6 : Int32)), (.int (0 : Int32)), (.int (0 : Int32)), (.int (0 : Int32)), (.int (0 : Int32)), (.int (0 : Int32)), (.int (0 : Int32)), (.int (0 : Int32)), (.int (0 : Int32)), (.int (0 : Int32)), (.int (0 : Int32)), (.int (0 : Int32)), (.int (0 : Int32)), (.int (0 : Int32))] (.int (0 : Int32)) := Arv.set Ar_b67 q_b67 S_b67 N_b67 H_b67 G_b67 rfl W75 7 rfl (Nat.le_of_ble_eq_true rfl)
  have K75 : Keep h0 h75 [] := K74.wr W75 (Or.inr sz_b67)
  have N75 := Fr.snoc X75 N74 g_b67
  obtain ⟨cl_b67_196, Ar_b67, q_b67, S_b67, N_b67, H_b67, G_b67⟩ := V_b67_75
  have hin196 : ¬ ((8 : Int32) < 0 ∨ cl_b67_196.slots.size ≤ ((8 : Int32)).toNatClampNeg) := inb_of S_b67 ⟨by decide, by decide⟩
  obtain ⟨T76, h76, X76, e76, W76, st76⟩ := stI X75 hx hZ e75 Ar_b67 (j := (8 : Int32)) hin196 (g := (mkF m 196 #[.val (.int p1), .val (.int p2), .val (.ref b3), .unset, .unset, .unset, .unset] [(.int (4 : Int32)), (.int (8 : Int32)), (.ref b67), (.ref b67)])) rfl rfl (hb hby at_196)
  have V_b67_76 : Arv Z h76 b67 k67 .int (21 : Int32) [(.int (9 : Int32)), (.int (12 : Int32)), (.int (6 : Int32)), (.int (9 : Int32)), (.int (8 : Int32)), (.int (6 : Int32)), (.int (3 : Int32)), (.int (6 : Int32)), (.int (4 : Int32)), (.int (0 : Int32)), (.int (0 : Int32)), (.int (0 : Int32)), (.int (0 : Int32)), (.int (0 : Int32)), (.int (0 : Int32)), (.int (0 : Int32)), (.int (0 : Int32)), (.int (0 : Int32)), (.int (0 : Int32)), (.int (0 : Int32)), (.int (0 : Int32))] (.int (0 : Int32)) := Arv.set Ar_b67 q_b67 S_b67 N_b67 H_b67 G_b67 rfl W76 8 rfl (Nat.le_of_ble_eq_true rfl)
  have K76 : Keep h0 h76 [] := K75.wr W76 (Or.inr sz_b67)
  have N76 := Fr.snoc X76 N75 g_b67
  obtain ⟨cl_b67_201, Ar_b67, q_b67, S_b67, N_b67, H_b67, G_b67⟩ := V_b67_76
  have hin201 : ¬ ((9 : Int32) < 0 ∨ cl_b67_201.slots.size ≤ ((9 : Int32)).toNatClampNeg) := inb_of S_b67 ⟨by decide, by decide⟩
  obtain ⟨T77, h77, X77, e77, W77, st77⟩ := stI X76 hx hZ e76 Ar_b67 (j := (9 : Int32)) hin201 (g := (mkF m 201 #[.val (.int p1), .val (.int p2), .val (.ref b3), .unset, .unset, .unset, .unset] [(.int (4 : Int32)), (.int (9 : Int32)), (.ref b67), (.ref b67)])) rfl rfl (hb hby at_201)
  have V_b67_77 : Arv Z h77 b67 k67 .int (21 : Int32) [(.int (9 : Int32)), (.int (12 : Int32)), (.int (6 : Int32)), (.int (9 : Int32)), (.int (8 : Int32)), (.int (6 : Int32)), (.int (3 : Int32)), (.int (6 : Int32)), (.int (4 : Int32)), (.int (4 : Int32)), (.int (0 : Int32)), (.int (0 : Int32)), (.int (0 : Int32)), (.int (0 : Int32)), (.int (0 : Int32)), (.int (0 : Int32)), (.int (0 : Int32)), (.int (0 : Int32)), (.int (0 : Int32)), (.int (0 : Int32)), (.int (0 : Int32))] (.int (0 : Int32)) := Arv.set Ar_b67 q_b67 S_b67 N_b67 H_b67 G_b67 rfl W77 9 rfl (Nat.le_of_ble_eq_true rfl)
  have K77 : Keep h0 h77 [] := K76.wr W77 (Or.inr sz_b67)
  have N77 := Fr.snoc X77 N76 g_b67
  obtain ⟨cl_b67_206, Ar_b67, q_b67, S_b67, N_b67, H_b67, G_b67⟩ := V_b67_77
  have hin206 : ¬ ((10 : Int32) < 0 ∨ cl_b67_206.slots.size ≤ ((10 : Int32)).toNatClampNeg) := inb_of S_b67 ⟨by decide, by decide⟩
  obtain ⟨T78, h78, X78, e78, W78, st78⟩ := stI X77 hx hZ e77 Ar_b67 (j := (10 : Int32)) hin206 (g := (mkF m 206 #[.val (.int p1), .val (.int p2), .val (.ref b3), .unset, .unset, .unset, .unset] [(.int (4 : Int32)), (.int (10 : Int32)), (.ref b67), (.ref b67)])) rfl rfl (hb hby at_206)
  have V_b67_78 : Arv Z h78 b67 k67 .int (21 : Int32) [(.int (9 : Int32)), (.int (12 : Int32)), (.int (6 : Int32)), (.int (9 : Int32)), (.int (8 : Int32)), (.int (6 : Int32)), (.int (3 : Int32)), (.int (6 : Int32)), (.int (4 : Int32)), (.int (4 : Int32)), (.int (4 : Int32)), (.int (0 : Int32)), (.int (0 : Int32)), (.int (0 : Int32)), (.int (0 : Int32)), (.int (0 : Int32)), (.int (0 : Int32)), (.int (0 : Int32)), (.int (0 : Int32)), (.int (0 : Int32)), (.int (0 : Int32))] (.int (0 : Int32)) := Arv.set Ar_b67 q_b67 S_b67 N_b67 H_b67 G_b67 rfl W78 10 rfl (Nat.le_of_ble_eq_true rfl)
  have K78 : Keep h0 h78 [] := K77.wr W78 (Or.inr sz_b67)
  have N78 := Fr.snoc X78 N77 g_b67
  obtain ⟨cl_b67_211, Ar_b67, q_b67, S_b67, N_b67, H_b67, G_b67⟩ := V_b67_78
  have hin211 : ¬ ((11 : Int32) < 0 ∨ cl_b67_211.slots.size ≤ ((11 : Int32)).toNatClampNeg) := inb_of S_b67 ⟨by decide, by decide⟩
  obtain ⟨T79, h79, X79, e79, W79, st79⟩ := stI X78 hx hZ e78 Ar_b67 (j := (11 : Int32)) hin211 (g := (mkF m 211 #[.val (.int p1), .val (.int p2), .val (.ref b3), .unset, .unset, .unset, .unset] [(.int (5 : Int32)), (.int (11 : Int32)), (.ref b67), (.ref b67)])) rfl rfl (hb hby at_211)
  have V_b67_79 : Arv Z h79 b67 k67 .int (21 : Int32) [(.int (9 : Int32)), (.int (12 : Int32)), (.int (6 : Int32)), (.int (9 : Int32)), (.int (8 : Int32)), (.int (6 : Int32)), (.int (3 : Int32)), (.int (6 : Int32)), (.int (4 : Int32)), (.int (4 : Int32)), (.int (4 : Int32)), (.int (5 : Int32)), (.int (0 : Int32)), (.int (0 : Int32)), (.int (0 : Int32)), (.int (0 : Int32)), (.int (0 : Int32)), (.int (0 : Int32)), (.int (0 : Int32)), (.int (0 : Int32)), (.int (0 : Int32))] (.int (0 : Int32)) := Arv.set Ar_b67 q_b67 S_b67 N_b67 H_b67 G_b67 rfl W79 11 rfl (Nat.le_of_ble_eq_true rfl)
  have K79 : Keep h0 h79 [] := K78.wr W79 (Or.inr sz_b67)
  have N79 := Fr.snoc X79 N78 g_b67
  obtain ⟨cl_b67_216, Ar_b67, q_b67, S_b67, N_b67, H_b67, G_b67⟩ := V_b67_79
  have hin216 : ¬ ((12 : Int32) < 0 ∨ cl_b67_216.slots.size ≤ ((12 : Int32)).toNatClampNeg) := inb_of S_b67 ⟨by decide, by decide⟩
  obtain ⟨T80, h80, X80, e80, W80, st80⟩ := stI X79 hx hZ e79 Ar_b67 (j := (12 : Int32)) hin216 (g := (mkF m 216 #[.val (.int p1), .val (.int p2), .val (.ref b3), .unset, .unset, .unset, .unset] [(.int (3 : Int32)), (.int (12 : Int32)), (.ref b67), (.ref b67)])) rfl rfl (hb hby at_216)
  have V_b67_80 : Arv Z h80 b67 k67 .int (21 : Int32) [(.int (9 : Int32)), (.int (12 : Int32)), (.int (6 : Int32)), (.int (9 : Int32)), (.int (8 : Int32)), (.int (6 : Int32)), (.int (3 : Int32)), (.int (6 : Int32)), (.int (4 : Int32)), (.int (4 : Int32)), (.int (4 : Int32)), (.int (5 : Int32)), (.int (3 : Int32)), (.int (0 : Int32)), (.int (0 : Int32)), (.int (0 : Int32)), (.int (0 : Int32)), (.int (0 : Int32)), (.int (0 : Int32)), (.int (0 : Int32)), (.int (0 : Int32))] (.int (0 : Int32)) := Arv.set Ar_b67 q_b67 S_b67 N_b67 H_b67 G_b67 rfl W80 12 rfl (Nat.le_of_ble_eq_true rfl)
  have K80 : Keep h0 h80 [] := K79.wr W80 (Or.inr sz_b67)
  have N80 := Fr.snoc X80 N79 g_b67
  obtain ⟨cl_b67_221, Ar_b67, q_b67, S_b67, N_b67, H_b67, G_b67⟩ := V_b67_80
  have hin221 : ¬ ((13 : Int32) < 0 ∨ cl_b67_221.slots.size ≤ ((13 : Int32)).toNatClampNeg) := inb_of S_b67 ⟨by decide, by decide⟩
  obtain ⟨T81, h81, X81, e81, W81, st81⟩ := stI X80 hx hZ e80 Ar_b67 (j := (13 : Int32)) hin221 (g := (mkF m 221 #[.val (.int p1), .val (.int p2), .val (.ref b3), .unset, .unset, .unset, .unset] [(.int (3 : Int32)), (.int (13 : Int32)), (.ref b67), (.ref b67)])) rfl rfl (hb hby at_221)
  have V_b67_81 : Arv Z h81 b67 k67 .int (21 : Int32) [(.int (9 : Int32)), (.int (12 : Int32)), (.int (6 : Int32)), (.int (9 : Int32)), (.int (8 : Int32)), (.int (6 : Int32)), (.int (3 : Int32)), (.int (6 : Int32)), (.int (4 : Int32)), (.int (4 : Int32)), (.int (4 : Int32)), (.int (5 : Int32)), (.int (3 : Int32)), (.int (3 : Int32)), (.int (0 : Int32)), (.int (0 : Int32)), (.int (0 : Int32)), (.int (0 : Int32)), (.int (0 : Int32)), (.int (0 : Int32)), (.int (0 : Int32))] (.int (0 : Int32)) := Arv.set Ar_b67 q_b67 S_b67 N_b67 H_b67 G_b67 rfl W81 13 rfl (Nat.le_of_ble_eq_true rfl)
  have K81 : Keep h0 h81 [] := K80.wr W81 (Or.inr sz_b67)
  have N81 := Fr.snoc X81 N80 g_b67
  obtain ⟨cl_b67_226, Ar_b67, q_b67, S_b67, N_b67, H_b67, G_b67⟩ := V_b67_81
  have hin226 : ¬ ((14 : Int32) < 0 ∨ cl_b67_226.slots.size ≤ ((14 : Int32)).toNatClampNeg) := inb_of S_b67 ⟨by decide, by decide⟩
  obtain ⟨T82, h82, X82, e82, W82, st82⟩ := stI X81 hx hZ e81 Ar_b67 (j := (14 : Int32)) hin226 (g := (mkF m 226 #[.val (.int p1), .val (.int p2), .val (.ref b3), .unset, .unset, .unset, .unset] [(.int (5 : Int32)), (.int (14 : Int32)), (.ref b67), (.ref b67)])) rfl rfl (hb hby at_226)
  have V_b67_82 : Arv Z h82 b67 k67 .int (21 : Int32) [(.int (9 : Int32)), (.int (12 : Int32)), (.int (6 : Int32)), (.int (9 : Int32)), (.int (8 : Int32)), (.int (6 : Int32)), (.int (3 : Int32)), (.int (6 : Int32)), (.int (4 : Int32)), (.int (4 : Int32)), (.int (4 : Int32)), (.int (5 : Int32)), (.int (3 : Int32)), (.int (3 : Int32)), (.int (5 : Int32)), (.int (0 : Int32)), (.int (0 : Int32)), (.int (0 : Int32)), (.int (0 : Int32)), (.int (0 : Int32)), (.int (0 : Int32))] (.int (0 : Int32)) := Arv.set Ar_b67 q_b67 S_b67 N_b67 H_b67 G_b67 rfl W82 14 rfl (Nat.le_of_ble_eq_true rfl)
  have K82 : Keep h0 h82 [] := K81.wr W82 (Or.inr sz_b67)
  have N82 := Fr.snoc X82 N81 g_b67
  obtain ⟨cl_b67_231, Ar_b67, q_b67, S_b67, N_b67, H_b67, G_b67⟩ := V_b67_82
  have hin231 : ¬ ((15 : Int32) < 0 ∨ cl_b67_231.slots.size ≤ ((15 : Int32)).toNatClampNeg) := inb_of S_b67 ⟨by decide, by decide⟩
  obtain ⟨T83, h83, X83, e83, W83, st83⟩ := stI X82 hx hZ e82 Ar_b67 (j := (15 : Int32)) hin231 (g := (mkF m 231 #[.val (.int p1), .val (.int p2), .val (.ref b3), .unset, .unset, .unset, .unset] [(.int (4 : Int32)), (.int (15 : Int32)), (.ref b67), (.ref b67)])) rfl rfl (hb hby at_231)
  have V_b67_83 : Arv Z h83 b67 k67 .int (21 : Int32) [(.int (9 : Int32)), (.int (12 : Int32)), (.int (6 : Int32)), (.int (9 : Int32)), (.int (8 : Int32)), (.int (6 : Int32)), (.int (3 : Int32)), (.int (6 : Int32)), (.int (4 : Int32)), (.int (4 : Int32)), (.int (4 : Int32)), (.int (5 : Int32)), (.int (3 : Int32)), (.int (3 : Int32)), (.int (5 : Int32)), (.int (4 : Int32)), (.int (0 : Int32)), (.int (0 : Int32)), (.int (0 : Int32)), (.int (0 : Int32)), (.int (0 : Int32))] (.int (0 : Int32)) := Arv.set Ar_b67 q_b67 S_b67 N_b67 H_b67 G_b67 rfl W83 15 rfl (Nat.le_of_ble_eq_true rfl)
  have K83 : Keep h0 h83 [] := K82.wr W83 (Or.inr sz_b67)
  have N83 := Fr.snoc X83 N82 g_b67
  obtain ⟨cl_b67_236, Ar_b67, q_b67, S_b67, N_b67, H_b67, G_b67⟩ := V_b67_83
  have hin236 : ¬ ((16 : Int32) < 0 ∨ cl_b67_236.slots.size ≤ ((16 : Int32)).toNatClampNeg) := inb_of S_b67 ⟨by decide, by decide⟩
  obtain ⟨T84, h84, X84, e84, W84, st84⟩ := stI X83 hx hZ e83 Ar_b67 (j := (16 : Int32)) hin236 (g := (mkF m 236 #[.val (.int p1), .val (.int p2), .val (.ref b3), .unset, .unset, .unset, .unset] [(.int (2 : Int32)), (.int (16 : Int32)), (.ref b67), (.ref b67)])) rfl rfl (hb hby at_236)
  have V_b67_84 : Arv Z h84 b67 k67 .int (21 : Int32) [(.int (9 : Int32)), (.int (12 : Int32)), (.int (6 : Int32)), (.int (9 : Int32)), (.int (8 : Int32)), (.int (6 : Int32)), (.int (3 : Int32)), (.int (6 : Int32)), (.int (4 : Int32)), (.int (4 : Int32)), (.int (4 : Int32)), (.int (5 : Int32)), (.int (3 : Int32)), (.int (3 : Int32)), (.int (5 : Int32)), (.int (4 : Int32)), (.int (2 : Int32)), (.int (0 : Int32)), (.int (0 : Int32)), (.int (0 : Int32)), (.int (0 : Int32))] (.int (0 : Int32)) := Arv.set Ar_b67 q_b67 S_b67 N_b67 H_b67 G_b67 rfl W84 16 rfl (Nat.le_of_ble_eq_true rfl)
  have K84 : Keep h0 h84 [] := K83.wr W84 (Or.inr sz_b67)
  have N84 := Fr.snoc X84 N83 g_b67
  obtain ⟨cl_b67_241, Ar_b67, q_b67, S_b67, N_b67, H_b67, G_b67⟩ := V_b67_84
  have hin241 : ¬ ((17 : Int32) < 0 ∨ cl_b67_241.slots.size ≤ ((17 : Int32)).toNatClampNeg) := inb_of S_b67 ⟨by decide, by decide⟩
  obtain ⟨T85, h85, X85, e85, W85, st85⟩ := stI X84 hx hZ e84 Ar_b67 (j := (17 : Int32)) hin241 (g := (mkF m 241 #[.val (.int p1), .val (.int p2), .val (.ref b3), .unset, .unset, .unset, .unset] [(.int (4 : Int32)), (.int (17 : Int32)), (.ref b67), (.ref b67)])) rfl rfl (hb hby at_241)
  have V_b67_85 : Arv Z h85 b67 k67 .int (21 : Int32) [(.int (9 : Int32)), (.int (12 : Int32)), (.int (6 : Int32)), (.int (9 : Int32)), (.int (8 : Int32)), (.int (6 : Int32)), (.int (3 : Int32)), (.int (6 : Int32)), (.int (4 : Int32)), (.int (4 : Int32)), (.int (4 : Int32)), (.int (5 : Int32)), (.int (3 : Int32)), (.int (3 : Int32)), (.int (5 : Int32)), (.int (4 : Int32)), (.int (2 : Int32)), (.int (4 : Int32)), (.int (0 : Int32)), (.int (0 : Int32)), (.int (0 : Int32))] (.int (0 : Int32)) := Arv.set Ar_b67 q_b67 S_b67 N_b67 H_b67 G_b67 rfl W85 17 rfl (Nat.le_of_ble_eq_true rfl)
  have K85 : Keep h0 h85 [] := K84.wr W85 (Or.inr sz_b67)
  have N85 := Fr.snoc X85 N84 g_b67
  obtain ⟨cl_b67_246, Ar_b67, q_b67, S_b67, N_b67, H_b67, G_b67⟩ := V_b67_85
  have hin246 : ¬ ((18 : Int32) < 0 ∨ cl_b67_246.slots.size ≤ ((18 : Int32)).toNatClampNeg) := inb_of S_b67 ⟨by decide, by decide⟩
  obtain ⟨T86, h86, X86, e86, W86, st86⟩ := stI X85 hx hZ e85 Ar_b67 (j := (18 : Int32)) hin246 (g := (mkF m 246 #[.val (.int p1), .val (.int p2), .val (.ref b3), .unset, .unset, .unset, .unset] [(.int (2 : Int32)), (.int (18 : Int32)), (.ref b67), (.ref b67)])) rfl rfl (hb hby at_246)
  have V_b67_86 : Arv Z h86 b67 k67 .int (21 : Int32) [(.int (9 : Int32)), (.int (12 : Int32)), (.int (6 : Int32)), (.int (9 : Int32)), (.int (8 : Int32)), (.int (6 : Int32)), (.int (3 : Int32)), (.int (6 : Int32)), (.int (4 : Int32)), (.int (4 : Int32)), (.int (4 : Int32)), (.int (5 : Int32)), (.int (3 : Int32)), (.int (3 : Int32)), (.int (5 : Int32)), (.int (4 : Int32)), (.int (2 : Int32)), (.int (4 : Int32)), (.int (2 : Int32)), (.int (0 : Int32)), (.int (0 : Int32))] (.int (0 : Int32)) := Arv.set Ar_b67 q_b67 S_b67 N_b67 H_b67 G_b67 rfl W86 18 rfl (Nat.le_of_ble_eq_true rfl)
  have K86 : Keep h0 h86 [] := K85.wr W86 (Or.inr sz_b67)
  have N86 := Fr.snoc X86 N85 g_b67
  obtain ⟨cl_b67_251, Ar_b67, q_b67, S_b67, N_b67, H_b67, G_b67⟩ := V_b67_86
  have hin251 : ¬ ((19 : Int32) < 0 ∨ cl_b67_251.slots.size ≤ ((19 : Int32)).toNatClampNeg) := inb_of S_b67 ⟨by decide, by decide⟩
  obtain ⟨T87, h87, X87, e87, W87, st87⟩ := stI X86 hx hZ e86 Ar_b67 (j := (19 : Int32)) hin251 (g := (mkF m 251 #[.val (.int p1), .val (.int p2), .val (.ref b3), .unset, .unset, .unset, .unset] [(.int (2 : Int32)), (.int (19 : Int32)), (.ref b67), (.ref b67)])) rfl rfl (hb hby at_251)
  have V_b67_87 : Arv Z h87 b67 k67 .int (21 : Int32) [(.int (9 : Int32)), (.int (12 : Int32)), (.int (6 : Int32)), (.int (9 : Int32)), (.int (8 : Int32)), (.int (6 : Int32)), (.int (3 : Int32)), (.int (6 : Int32)), (.int (4 : Int32)), (.int (4 : Int32)), (.int (4 : Int32)), (.int (5 : Int32)), (.int (3 : Int32)), (.int (3 : Int32)), (.int (5 : Int32)), (.int (4 : Int32)), (.int (2 : Int32)), (.int (4 : Int32)), (.int (2 : Int32)), (.int (2 : Int32)), (.int (0 : Int32))] (.int (0 : Int32)) := Arv.set Ar_b67 q_b67 S_b67 N_b67 H_b67 G_b67 rfl W87 19 rfl (Nat.le_of_ble_eq_true rfl)
  have K87 : Keep h0 h87 [] := K86.wr W87 (Or.inr sz_b67)
  have N87 := Fr.snoc X87 N86 g_b67
  obtain ⟨cl_b67_256, Ar_b67, q_b67, S_b67, N_b67, H_b67, G_b67⟩ := V_b67_87
  have hin256 : ¬ ((20 : Int32) < 0 ∨ cl_b67_256.slots.size ≤ ((20 : Int32)).toNatClampNeg) := inb_of S_b67 ⟨by decide, by decide⟩
  obtain ⟨T88, h88, X88, e88, W88, st88⟩ := stI X87 hx hZ e87 Ar_b67 (j := (20 : Int32)) hin256 (g := (mkF m 256 #[.val (.int p1), .val (.int p2), .val (.ref b3), .unset, .unset, .unset, .unset] [(.int (1 : Int32)), (.int (20 : Int32)), (.ref b67), (.ref b67)])) rfl rfl (hb hby at_256)
  have V_b67_88 : Arv Z h88 b67 k67 .int (21 : Int32) [(.int (9 : Int32)), (.int (12 : Int32)), (.int (6 : Int32)), (.int (9 : Int32)), (.int (8 : Int32)), (.int (6 : Int32)), (.int (3 : Int32)), (.int (6 : Int32)), (.int (4 : Int32)), (.int (4 : Int32)), (.int (4 : Int32)), (.int (5 : Int32)), (.int (3 : Int32)), (.int (3 : Int32)), (.int (5 : Int32)), (.int (4 : Int32)), (.int (2 : Int32)), (.int (4 : Int32)), (.int (2 : Int32)), (.int (2 : Int32)), (.int (1 : Int32))] (.int (0 : Int32)) := Arv.set Ar_b67 q_b67 S_b67 N_b67 H_b67 G_b67 rfl W88 20 rfl (Nat.le_of_ble_eq_true rfl)
  have K88 : Keep h0 h88 [] := K87.wr W88 (Or.inr sz_b67)
  have N88 := Fr.snoc X88 N87 g_b67
  obtain ⟨cl_b67_276, Ar_b67, q_b67, S_b67, N_b67, H_b67, G_b67⟩ := V_b67_88
  have hin276 : ¬ (((p1 &&& (2147483647 : Int32)) % (21 : Int32)) < 0 ∨ cl_b67_276.slots.size ≤ (((p1 &&& (2147483647 : Int32)) % (21 : Int32))).toNatClampNeg) := inb_of S_b67 ⟨hn276, hl276⟩
  have hat276 : cl_b67_276.slots[(((p1 &&& (2147483647 : Int32)) % (21 : Int32))).toNatClampNeg]? = some (.int w89) := H_b67.at hin276 hv276
  obtain ⟨cl_b3_290, Ar_b3, q_b3, S_b3, N_b3, H_b3, G_b3⟩ := ((((((((((((((((((((((V_b3_66.ext E67).other W68 (Nat.ne_of_lt (Nat.lt_of_lt_of_le V_b3_66.lt (Nat.le_of_eq g67.symm)))).other W69 (Nat.ne_of_lt (Nat.lt_of_lt_of_le V_b3_66.lt (Nat.le_of_eq g67.symm)))).other W70 (Nat.ne_of_lt (Nat.lt_of_lt_of_le V_b3_66.lt (Nat.le_of_eq g67.symm)))).other W71 (Nat.ne_of_lt (Nat.lt_of_lt_of_le V_b3_66.lt (Nat.le_of_eq g67.symm)))).other W72 (Nat.ne_of_lt (Nat.lt_of_lt_of_le V_b3_66.lt (Nat.le_of_eq g67.symm)))).other W73 (Nat.ne_of_lt (Nat.lt_of_lt_of_le V_b3_66.lt (Nat.le_of_eq g67.symm)))).other W74 (Nat.ne_of_lt (Nat.lt_of_lt_of_le V_b3_66.lt (Nat.le_of_eq g67.symm)))).other W75 (Nat.ne_of_lt (Nat.lt_of_lt_of_le V_b3_66.lt (Nat.le_of_eq g67.symm)))).other W76 (Nat.ne_of_lt (Nat.lt_of_lt_of_le V_b3_66.lt (Nat.le_of_eq g67.symm)))).other W77 (Nat.ne_of_lt (Nat.lt_of_lt_of_le V_b3_66.lt (Nat.le_of_eq g67.symm)))).other W78 (Nat.ne_of_lt (Nat.lt_of_lt_of_le V_b3_66.lt (Nat.le_of_eq g67.symm)))).other W79 (Nat.ne_of_lt (Nat.lt_of_lt_of_le V_b3_66.lt (Nat.le_of_eq g67.symm)))).other W80 (Nat.ne_of_lt (Nat.lt_of_lt_of_le V_b3_66.lt (Nat.le_of_eq g67.symm)))).other W81 (Nat.ne_of_lt (Nat.lt_of_lt_of_le V_b3_66.lt (Nat.le_of_eq g67.symm)))).other W82 (Nat.ne_of_lt (Nat.lt_of_lt_of_le V_b3_66.lt (Nat.le_of_eq g67.symm)))).other W83 (Nat.ne_of_lt (Nat.lt_of_lt_of_le V_b3_66.lt (Nat.le_of_eq g67.symm)))).other W84 (Nat.ne_of_lt (Nat.lt_of_lt_of_le V_b3_66.lt (Nat.le_of_eq g67.symm)))).other W85 (Nat.ne_of_lt (Nat.lt_of_lt_of_le V_b3_66.lt (Nat.le_of_eq g67.symm)))).other W86 (Nat.ne_of_lt (Nat.lt_of_lt_of_le V_b3_66.lt (Nat.le_of_eq g67.symm)))).other W87 (Nat.ne_of_lt (Nat.lt_of_lt_of_le V_b3_66.lt (Nat.le_of_eq g67.symm)))).other W88 (Nat.ne_of_lt (Nat.lt_of_lt_of_le V_b3_66.lt (Nat.le_of_eq g67.symm))))
  have hin290 : ¬ (((p1 &&& (2147483647 : Int32)) % (21 : Int32)) < 0 ∨ cl_b3_290.slots.size ≤ (((p1 &&& (2147483647 : Int32)) % (21 : Int32))).toNatClampNeg) := inb_of S_b3 ⟨hn290, hl290⟩
  have hat290 : cl_b3_290.slots[(((p1 &&& (2147483647 : Int32)) % (21 : Int32))).toNatClampNeg]? = some (.ref w90) := H_b3.at hin290 hv290
  obtain ⟨LS, X88, N88⟩ : ∃ LS, Stand p l e room_1 s m #[(.int p1), (.int p2)] below meth c T88 LS 2 42 ∧ Fr n0 LS := ⟨_, X88, N88⟩
  obtain ⟨cq91, kq91, q91a, q91b, q91c⟩ := isOf hZ e88 (E_w90.keep K88)
  obtain ⟨_, _, ⟨T91, L91, k91, n91⟩, -, X91, ⟨Lc91, hQ91, l91, y91, z91⟩, st91⟩ := X88.virtualBack hx (y := (⟨"com/example/wyrd/wyrd/protocol/ApiKey", "isFlexible", "(S)Z"⟩ : MethodName)) (z := (⟨"com/example/wyrd/wyrd/protocol/ApiKey", "isFlexible", "(S)Z"⟩ : MethodName)) hown (mvT hZ (hw _ (List.mem_of_getElem? (i := 48) rfl))) (mvT hZ (hw _ (List.mem_of_getElem? (i := 49) rfl))) (notFace_of_selects (args := #[]) (mvT hZ (hw _ (List.mem_of_getElem? (i := 51) rfl)))) (mvT hZ (hw _ (List.mem_of_getElem? (i := 51) rfl))) (mvT hZ (hw _ (List.mem_of_getElem? (i := 50) rfl))) (by decide) (backOf (W := 0) (rm1_t l Z a0 hw [] w90 (p2.toInt16.toInt32) w89 h88 n0 (Nat.le_trans Z0 K88.1) (Fk.keep K88 List.not_mem_nil) hc277) hZ (hw _ (List.mem_of_getElem? (i := 52) rfl)) (hw _ (List.mem_of_getElem? (i := 3) rfl)) (by decide) (by decide)) q91a q91c (g := (mkF m 293 #[.val (.int p1), .val (.int p2), .val (.ref b3), .val (.ref b67), .val (.int ((p1 &&& (2147483647 : Int32)) % (21 : Int32))), .val (.int (p2.toInt16.toInt32)), .val (.int (0 : Int32))] [(.int (p2.toInt16.toInt32)), (.ref w90)])) rfl (by rw [hml]; rfl) (Steps.refl _) (argsL := [(.int (p2.toInt16.toInt32))]) (rest := []) (lenOf pd_0_0 rfl) rfl (by show 2 * 0 + _ ≤ _; exact Nat.le_of_eq rfl) (hb hby at_293) (fun _ _ => ⟨rfl, e88, (by decide : 2 + 0 ≤ _), (by decide : 42 + 0 ≤ _)⟩)
  dsimp only [Pt.U, Pt.locs, Pt.cells, Pt.slots] at X91 l91 y91 z91 st91 hQ91
  subst l91 y91 z91
  obtain ⟨rfl, N91q, eQq⟩ := hQ91
  have N91 := Fr.app N88 N91q
  obtain ⟨fs, hr, hrun, hended, hW, hsame⟩ := X91.leave (v := some (.int (1 : Int32))) (fun h => by rw [Bd.returns] at h; cases h)
  refine ⟨_, _, pre0 _ ?_, hrun, hended, _, _, rfl, ?_, ⟨_, rfl⟩, hW, hsame.mono (by decide) (by decide)⟩
  · show Steps p.tables e below (s₁.setTop (mkF m 0 #[.val (.int p1), .val (.int p2), .unset, .unset, .unset, .unset, .unset] [])) _
    refine XS.bipush X0.here hx rfl (hb hby at_0) ?_
    show Steps p.tables e below (s₁.setTop (mkF m 2 #[.val (.int p1), .val (.int p2), .unset, .unset, .unset, .unset, .unset] [(.int (21 : Int32))])) _
    refine st3 _ ?_
    show Steps p.tables e below (T3.setTop (mkF m 5 #[.val (.int p1), .val (.int p2), .unset, .unset, .unset, .unset, .unset] [(.ref b3)])) _
    refine XS.dup X3.here hx rfl (hb hby at_5) rfl rfl ?_
    show Steps p.tables e below (T3.setTop (mkF m 6 #[.val (.int p1), .val (.int p2), .unset, .unset, .unset, .unset, .unset] [(.ref b3), (.ref b3)])) _
    refine XS.iconst X3.here hx rfl (hb hby at_6) ?_
    show Steps p.tables e below (T3.setTop (mkF m 7 #[.val (.int p1), .val (.int p2), .unset, .unset, .unset, .unset, .unset] [(.int (0 : Int32)), (.ref b3), (.ref b3)])) _
    refine st5 _ ?_
    show Steps p.tables e below (T5.setTop (mkF m 10 #[.val (.int p1), .val (.int p2), .unset, .unset, .unset, .unset, .unset] [(.ref w4), (.int (0 : Int32)), (.ref b3), (.ref b3)])) _
    refine st6 _ ?_
    show Steps p.tables e below (T6.setTop (mkF m 11 #[.val (.int p1), .val (.int p2), .unset, .unset, .unset, .unset, .unset] [(.ref b3)])) _
    refine XS.dup X6.here hx rfl (hb hby at_11) rfl rfl ?_
    show Steps p.tables e below (T6.setTop (mkF m 12 #[.val (.int p1), .val (.int p2), .unset, .unset, .unset, .unset, .unset] [(.ref b3), (.ref b3)])) _
    refine XS.iconst X6.here hx rfl (hb hby at_12) ?_
    show Steps p.tables e below (T6.setTop (mkF m 13 #[.val (.int p1), .val (.int p2), .unset, .unset, .unset, .unset, .unset] [(.int (1 : Int32)), (.ref b3), (.ref b3)])) _
    refine st8 _ ?_
    show Steps p.tables e below (T8.setTop (mkF m 16 #[.val (.int p1), .val (.int p2), .unset, .unset, .unset, .unset, .unset] [(.ref w7), (.int (1 : Int32)), (.ref b3), (.ref b3)])) _
    refine st9 _ ?_
    show Steps p.tables e below (T9.setTop (mkF m 17 #[.val (.int p1), .val (.int p2), .unset, .unset, .unset, .unset, .unset] [(.ref b3)])) _
    refine XS.dup X9.here hx rfl (hb hby at_17) rfl rfl ?_
    show Steps p.tables e below (T9.setTop (mkF m 18 #[.val (.int p1), .val (.int p2), .unset, .unset, .unset, .unset, .unset] [(.ref b3), (.ref b3)])) _
    refine XS.iconst X9.here hx rfl (hb hby at_18) ?_
    show Steps p.tables e below (T9.setTop (mkF m 19 #[.val (.int p1), .val (.int p2), .unset, .unset, .unset, .unset, .unset] [(.int (2 : Int32)), (.ref b3), (.ref b3)])) _
    refine st11 _ ?_
    show Steps p.tables e below (T11.setTop (mkF m 22 #[.val (.int p1), .val (.int p2), .unset, .unset, .unset, .unset, .unset] [(.ref w10), (.int (2 : Int32)), (.ref b3), (.ref b3)])) _
    refine st12 _ ?_
    show Steps p.tables e below (T12.setTop (mkF m 23 #[.val (.int p1), .val (.int p2), .unset, .unset, .unset, .unset, .unset] [(.ref b3)])) _
    refine XS.dup X12.here hx rfl (hb hby at_23) rfl rfl ?_
    show Steps p.tables e below (T12.setTop (mkF m 24 #[.val (.int p1), .val (.int p2), .unset, .unset, .unset, .unset, .unset] [(.ref b3), (.ref b3)])) _
    refine XS.iconst X12.here hx rfl (hb hby at_24) ?_
    show Steps p.tables e below (T12.setTop (mkF m 25 #[.val (.int p1), .val (.int p2), .unset, .unset, .unset, .unset, .unset] [(.int (3 : Int32)), (.ref b3), (.ref b3)])) _
    refine st14 _ ?_
    show Steps p.tables e below (T14.setTop (mkF m 28 #[.val (.int p1), .val (.int p2), .unset, .unset, .unset, .unset, .unset] [(.ref w13), (.int (3 : Int32)), (.ref b3), (.ref b3)])) _
    refine st15 _ ?_
    show Steps p.tables e below (T15.setTop (mkF m 29 #[.val (.int p1), .val (.int p2), .unset, .unset, .unset, .unset, .unset] [(.ref b3)])) _
    refine XS.dup X15.here hx rfl (hb hby at_29) rfl rfl ?_
    show Steps p.tables e below (T15.setTop (mkF m 30 #[.val (.int p1), .val (.int p2), .unset, .unset, .unset, .unset, .unset] [(.ref b3), (.ref b3)])) _
    refine XS.iconst X15.here hx rfl (hb hby at_30) ?_
    show Steps p.tables e below (T15.setTop (mkF m 31 #[.val (.int p1), .val (.int p2), .unset, .unset, .unset, .unset, .unset] [(.int (4 : Int32)), (.ref b3), (.ref b3)])) _
    refine st17 _ ?_
    show Steps p.tables e below (T17.setTop (mkF m 34 #[.val (.int p1), .val (.int p2), .unset, .unset, .unset, .unset, .unset] [(.ref w16), (.int (4 : Int32)), (.ref b3), (.ref b3)])) _
    refine st18 _ ?_
    show Steps p.tables e below (T18.setTop (mkF m 35 #[.val (.int p1), .val (.int p2), .unset, .unset, .unset, .unset, .unset] [(.ref b3)])) _
    refine XS.dup X18.here hx rfl (hb hby at_35) rfl rfl ?_
    show Steps p.tables e below (T18.setTop (mkF m 36 #[.val (.int p1), .val (.int p2), .unset, .unset, .unset, .unset, .unset] [(.ref b3), (.ref b3)])) _
    refine XS.iconst X18.here hx rfl (hb hby at_36) ?_
    show Steps p.tables e below (T18.setTop (mkF m 37 #[.val (.int p1), .val (.int p2), .unset, .unset, .unset, .unset, .unset] [(.int (5 : Int32)), (.ref b3), (.ref b3)])) _
    refine st20 _ ?_
    show Steps p.tables e below (T20.setTop (mkF m 40 #[.val (.int p1), .val (.int p2), .unset, .unset, .unset, .unset, .unset] [(.ref w19), (.int (5 : Int32)), (.ref b3), (.ref b3)])) _
    refine st21 _ ?_
    show Steps p.tables e below (T21.setTop (mkF m 41 #[.val (.int p1), .val (.int p2), .unset, .unset, .unset, .unset, .unset] [(.ref b3)])) _
    refine XS.dup X21.here hx rfl (hb hby at_41) rfl rfl ?_
    show Steps p.tables e below (T21.setTop (mkF m 42 #[.val (.int p1), .val (.int p2), .unset, .unset, .unset, .unset, .unset] [(.ref b3), (.ref b3)])) _
    refine XS.bipush X21.here hx rfl (hb hby at_42) ?_
    show Steps p.tables e below (T21.setTop (mkF m 44 #[.val (.int p1), .val (.int p2), .unset, .unset, .unset, .unset, .unset] [(.int (6 : Int32)), (.ref b3), (.ref b3)])) _
    refine st23 _ ?_
    show Steps p.tables e below (T23.setTop (mkF m 47 #[.val (.int p1), .val (.int p2), .unset, .unset, .unset, .unset, .unset] [(.ref w22), (.int (6 : Int32)), (.ref b3), (.ref b3)])) _
    refine st24 _ ?_
    show Steps p.tables e below (T24.setTop (mkF m 48 #[.val (.int p1), .val (.int p2), .unset, .unset, .unset, .unset, .unset] [(.ref b3)])) _
    refine XS.dup X24.here hx rfl (hb hby at_48) rfl rfl ?_
    show Steps p.tables e below (T24.setTop (mkF m 49 #[.val (.int p1), .val (.int p2), .unset, .unset, .unset, .unset, .unset] [(.ref b3), (.ref b3)])) _
    refine XS.bipush X24.here hx rfl (hb hby at_49) ?_
    show Steps p.tables e below (T24.setTop (mkF m 51 #[.val (.int p1), .val (.int p2), .unset, .unset, .unset, .unset, .unset] [(.int (7 : Int32)), (.ref b3), (.ref b3)])) _
    refine st26 _ ?_
    show Steps p.tables e below (T26.setTop (mkF m 54 #[.val (.int p1), .val (.int p2), .unset, .unset, .unset, .unset, .unset] [(.ref w25), (.int (7 : Int32)), (.ref b3), (.ref b3)])) _
    refine st27 _ ?_
    show Steps p.tables e below (T27.setTop (mkF m 55 #[.val (.int p1), .val (.int p2), .unset, .unset, .unset, .unset, .unset] [(.ref b3)])) _
    refine XS.dup X27.here hx rfl (hb hby at_55) rfl rfl ?_
    show Steps p.tables e below (T27.setTop (mkF m 56 #[.val (.int p1), .val (.int p2), .unset, .unset, .unset, .unset, .unset] [(.ref b3), (.ref b3)])) _
    refine XS.bipush X27.here hx rfl (hb hby at_56) ?_
    show Steps p.tables e below (T27.setTop (mkF m 58 #[.val (.int p1), .val (.int p2), .unset, .unset, .unset, .unset, .unset] [(.int (8 : Int32)), (.ref b3), (.ref b3)])) _
    refine st29 _ ?_
    show Steps p.tables e below (T29.setTop (mkF m 61 #[.val (.int p1), .val (.int p2), .unset, .unset, .unset, .unset, .unset] [(.ref w28), (.int (8 : Int32)), (.ref b3), (.ref b3)])) _
    refine st30 _ ?_
    show Steps p.tables e below (T30.setTop (mkF m 62 #[.val (.int p1), .val (.int p2), .unset, .unset, .unset, .unset, .unset] [(.ref b3)])) _
    refine XS.dup X30.here hx rfl (hb hby at_62) rfl rfl ?_
    show Steps p.tables e below (T30.setTop (mkF m 63 #[.val (.int p1), .val (.int p2), .unset, .unset, .unset, .unset, .unset] [(.ref b3), (.ref b3)])) _
    refine XS.bipush X30.here hx rfl (hb hby at_63) ?_
    show Steps p.tables e below (T30.setTop (mkF m 65 #[.val (.int p1), .val (.int p2), .unset, .unset, .unset, .unset, .unset] [(.int (9 : Int32)), (.ref b3), (.ref b3)])) _
    refine st32 _ ?_
    show Steps p.tables e below (T32.setTop (mkF m 68 #[.val (.int p1), .val (.int p2), .unset, .unset, .unset, .unset, .unset] [(.ref w31), (.int (9 : Int32)), (.ref b3), (.ref b3)])) _
    refine st33 _ ?_
    show Steps p.tables e below (T33.setTop (mkF m 69 #[.val (.int p1), .val (.int p2), .unset, .unset, .unset, .unset, .unset] [(.ref b3)])) _
    refine XS.dup X33.here hx rfl (hb hby at_69) rfl rfl ?_
    show Steps p.tables e below (T33.setTop (mkF m 70 #[.val (.int p1), .val (.int p2), .unset, .unset, .unset, .unset, .unset] [(.ref b3), (.ref b3)])) _
    refine XS.bipush X33.here hx rfl (hb hby at_70) ?_
    show Steps p.tables e below (T33.setTop (mkF m 72 #[.val (.int p1), .val (.int p2), .unset, .unset, .unset, .unset, .unset] [(.int (10 : Int32)), (.ref b3), (.ref b3)])) _
    refine st35 _ ?_
    show Steps p.tables e below (T35.setTop (mkF m 75 #[.val (.int p1), .val (.int p2), .unset, .unset, .unset, .unset, .unset] [(.ref w34), (.int (10 : Int32)), (.ref b3), (.ref b3)])) _
    refine st36 _ ?_
    show Steps p.tables e below (T36.setTop (mkF m 76 #[.val (.int p1), .val (.int p2), .unset, .unset, .unset, .unset, .unset] [(.ref b3)])) _
    refine XS.dup X36.here hx rfl (hb hby at_76) rfl rfl ?_
    show Steps p.tables e below (T36.setTop (mkF m 77 #[.val (.int p1), .val (.int p2), .unset, .unset, .unset, .unset, .unset] [(.ref b3), (.ref b3)])) _
    refine XS.bipush X36.here hx rfl (hb hby at_77) ?_
    show Steps p.tables e below (T36.setTop (mkF m 79 #[.val (.int p1), .val (.int p2), .unset, .unset, .unset, .unset, .unset] [(.int (11 : Int32)), (.ref b3), (.ref b3)])) _
    refine st38 _ ?_
    show Steps p.tables e below (T38.setTop (mkF m 82 #[.val (.int p1), .val (.int p2), .unset, .unset, .unset, .unset, .unset] [(.ref w37), (.int (11 : Int32)), (.ref b3), (.ref b3)])) _
    refine st39 _ ?_
    show Steps p.tables e below (T39.setTop (mkF m 83 #[.val (.int p1), .val (.int p2), .unset, .unset, .unset, .unset, .unset] [(.ref b3)])) _
    refine XS.dup X39.here hx rfl (hb hby at_83) rfl rfl ?_
    show Steps p.tables e below (T39.setTop (mkF m 84 #[.val (.int p1), .val (.int p2), .unset, .unset, .unset, .unset, .unset] [(.ref b3), (.ref b3)])) _
    refine XS.bipush X39.here hx rfl (hb hby at_84) ?_
    show Steps p.tables e below (T39.setTop (mkF m 86 #[.val (.int p1), .val (.int p2), .unset, .unset, .unset, .unset, .unset] [(.int (12 : Int32)), (.ref b3), (.ref b3)])) _
    refine st41 _ ?_
    show Steps p.tables e below (T41.setTop (mkF m 89 #[.val (.int p1), .val (.int p2), .unset, .unset, .unset, .unset, .unset] [(.ref w40), (.int (12 : Int32)), (.ref b3), (.ref b3)])) _
    refine st42 _ ?_
    show Steps p.tables e below (T42.setTop (mkF m 90 #[.val (.int p1), .val (.int p2), .unset, .unset, .unset, .unset, .unset] [(.ref b3)])) _
    refine XS.dup X42.here hx rfl (hb hby at_90) rfl rfl ?_
    show Steps p.tables e below (T42.setTop (mkF m 91 #[.val (.int p1), .val (.int p2), .unset, .unset, .unset, .unset, .unset] [(.ref b3), (.ref b3)])) _
    refine XS.bipush X42.here hx rfl (hb hby at_91) ?_
    show Steps p.tables e below (T42.setTop (mkF m 93 #[.val (.int p1), .val (.int p2), .unset, .unset, .unset, .unset, .unset] [(.int (13 : Int32)), (.ref b3), (.ref b3)])) _
    refine st44 _ ?_
    show Steps p.tables e below (T44.setTop (mkF m 96 #[.val (.int p1), .val (.int p2), .unset, .unset, .unset, .unset, .unset] [(.ref w43), (.int (13 : Int32)), (.ref b3), (.ref b3)])) _
    refine st45 _ ?_
    show Steps p.tables e below (T45.setTop (mkF m 97 #[.val (.int p1), .val (.int p2), .unset, .unset, .unset, .unset, .unset] [(.ref b3)])) _
    refine XS.dup X45.here hx rfl (hb hby at_97) rfl rfl ?_
    show Steps p.tables e below (T45.setTop (mkF m 98 #[.val (.int p1), .val (.int p2), .unset, .unset, .unset, .unset, .unset] [(.ref b3), (.ref b3)])) _
    refine XS.bipush X45.here hx rfl (hb hby at_98) ?_
    show Steps p.tables e below (T45.setTop (mkF m 100 #[.val (.int p1), .val (.int p2), .unset, .unset, .unset, .unset, .unset] [(.int (14 : Int32)), (.ref b3), (.ref b3)])) _
    refine st47 _ ?_
    show Steps p.tables e below (T47.setTop (mkF m 103 #[.val (.int p1), .val (.int p2), .unset, .unset, .unset, .unset, .unset] [(.ref w46), (.int (14 : Int32)), (.ref b3), (.ref b3)])) _
    refine st48 _ ?_
    show Steps p.tables e below (T48.setTop (mkF m 104 #[.val (.int p1), .val (.int p2), .unset, .unset, .unset, .unset, .unset] [(.ref b3)])) _
    refine XS.dup X48.here hx rfl (hb hby at_104) rfl rfl ?_
    show Steps p.tables e below (T48.setTop (mkF m 105 #[.val (.int p1), .val (.int p2), .unset, .unset, .unset, .unset, .unset] [(.ref b3), (.ref b3)])) _
    refine XS.bipush X48.here hx rfl (hb hby at_105) ?_
    show Steps p.tables e below (T48.setTop (mkF m 107 #[.val (.int p1), .val (.int p2), .unset, .unset, .unset, .unset, .unset] [(.int (15 : Int32)), (.ref b3), (.ref b3)])) _
    refine st50 _ ?_
    show Steps p.tables e below (T50.setTop (mkF m 110 #[.val (.int p1), .val (.int p2), .unset, .unset, .unset, .unset, .unset] [(.ref w49), (.int (15 : Int32)), (.ref b3), (.ref b3)])) _
    refine st51 _ ?_
    show Steps p.tables e below (T51.setTop (mkF m 111 #[.val (.int p1), .val (.int p2), .unset, .unset, .unset, .unset, .unset] [(.ref b3)])) _
    refine XS.dup X51.here hx rfl (hb hby at_111) rfl rfl ?_
    show Steps p.tables e below (T51.setTop (mkF m 112 #[.val (.int p1), .val (.int p2), .unset, .unset, .unset, .unset, .unset] [(.ref b3), (.ref b3)])) _
    refine XS.bipush X51.here hx rfl (hb hby at_112) ?_
    show Steps p.tables e below (T51.setTop (mkF m 114 #[.val (.int p1), .val (.int p2), .unset, .unset, .unset, .unset, .unset] [(.int (16 : Int32)), (.ref b3), (.ref b3)])) _
    refine st53 _ ?_
    show Steps p.tables e below (T53.setTop (mkF m 117 #[.val (.int p1), .val (.int p2), .unset, .unset, .unset, .unset, .unset] [(.ref w52), (.int (16 : Int32)), (.ref b3), (.ref b3)])) _
    refine st54 _ ?_
    show Steps p.tables e below (T54.setTop (mkF m 118 #[.val (.int p1), .val (.int p2), .unset, .unset, .unset, .unset, .unset] [(.ref b3)])) _
    refine XS.dup X54.here hx rfl (hb hby at_118) rfl rfl ?_
    show Steps p.tables e below (T54.setTop (mkF m 119 #[.val (.int p1), .val (.int p2), .unset, .unset, .unset, .unset, .unset] [(.ref b3), (.ref b3)])) _
    refine XS.bipush X54.here hx rfl (hb hby at_119) ?_
    show Steps p.tables e below (T54.setTop (mkF m 121 #[.val (.int p1), .val (.int p2), .unset, .unset, .unset, .unset, .unset] [(.int (17 : Int32)), (.ref b3), (.ref b3)])) _
    refine st56 _ ?_
    show Steps p.tables e below (T56.setTop (mkF m 124 #[.val (.int p1), .val (.int p2), .unset, .unset, .unset, .unset, .unset] [(.ref w55), (.int (17 : Int32)), (.ref b3), (.ref b3)])) _
    refine st57 _ ?_
    show Steps p.tables e below (T57.setTop (mkF m 125 #[.val (.int p1), .val (.int p2), .unset, .unset, .unset, .unset, .unset] [(.ref b3)])) _
    refine XS.dup X57.here hx rfl (hb hby at_125) rfl rfl ?_
    show Steps p.tables e below (T57.setTop (mkF m 126 #[.val (.int p1), .val (.int p2), .unset, .unset, .unset, .unset, .unset] [(.ref b3), (.ref b3)])) _
    refine XS.bipush X57.here hx rfl (hb hby at_126) ?_
    show Steps p.tables e below (T57.setTop (mkF m 128 #[.val (.int p1), .val (.int p2), .unset, .unset, .unset, .unset, .unset] [(.int (18 : Int32)), (.ref b3), (.ref b3)])) _
    refine st59 _ ?_
    show Steps p.tables e below (T59.setTop (mkF m 131 #[.val (.int p1), .val (.int p2), .unset, .unset, .unset, .unset, .unset] [(.ref w58), (.int (18 : Int32)), (.ref b3), (.ref b3)])) _
    refine st60 _ ?_
    show Steps p.tables e below (T60.setTop (mkF m 132 #[.val (.int p1), .val (.int p2), .unset, .unset, .unset, .unset, .unset] [(.ref b3)])) _
    refine XS.dup X60.here hx rfl (hb hby at_132) rfl rfl ?_
    show Steps p.tables e below (T60.setTop (mkF m 133 #[.val (.int p1), .val (.int p2), .unset, .unset, .unset, .unset, .unset] [(.ref b3), (.ref b3)])) _
    refine XS.bipush X60.here hx rfl (hb hby at_133) ?_
    show Steps p.tables e below (T60.setTop (mkF m 135 #[.val (.int p1), .val (.int p2), .unset, .unset, .unset, .unset, .unset] [(.int (19 : Int32)), (.ref b3), (.ref b3)])) _
    refine st62 _ ?_
    show Steps p.tables e below (T62.setTop (mkF m 138 #[.val (.int p1), .val (.int p2), .unset, .unset, .unset, .unset, .unset] [(.ref w61), (.int (19 : Int32)), (.ref b3), (.ref b3)])) _
    refine st63 _ ?_
    show Steps p.tables e below (T63.setTop (mkF m 139 #[.val (.int p1), .val (.int p2), .unset, .unset, .unset, .unset, .unset] [(.ref b3)])) _
    refine XS.dup X63.here hx rfl (hb hby at_139) rfl rfl ?_
    show Steps p.tables e below (T63.setTop (mkF m 140 #[.val (.int p1), .val (.int p2), .unset, .unset, .unset, .unset, .unset] [(.ref b3), (.ref b3)])) _
    refine XS.bipush X63.here hx rfl (hb hby at_140) ?_
    show Steps p.tables e below (T63.setTop (mkF m 142 #[.val (.int p1), .val (.int p2), .unset, .unset, .unset, .unset, .unset] [(.int (20 : Int32)), (.ref b3), (.ref b3)])) _
    refine st65 _ ?_
    show Steps p.tables e below (T65.setTop (mkF m 145 #[.val (.int p1), .val (.int p2), .unset, .unset, .unset, .unset, .unset] [(.ref w64), (.int (20 : Int32)), (.ref b3), (.ref b3)])) _
    refine st66 _ ?_
    show Steps p.tables e below (T66.setTop (mkF m 146 #[.val (.int p1), .val (.int p2), .unset, .unset, .unset, .unset, .unset] [(.ref b3)])) _
    refine XS.astoreN X66.here hx rfl (hb hby at_146) rfl rfl (l' := #[.val (.int p1), .val (.int p2), .val (.ref b3), .unset, .unset, .unset, .unset]) rfl ?_
    show Steps p.tables e below (T66.setTop (mkF m 147 #[.val (.int p1), .val (.int p2), .val (.ref b3), .unset, .unset, .unset, .unset] [])) _
    refine XS.bipush X66.here hx rfl (hb hby at_147) ?_
    show Steps p.tables e below (T66.setTop (mkF m 149 #[.val (.int p1), .val (.int p2), .val (.ref b3), .unset, .unset, .unset, .unset] [(.int (21 : Int32))])) _
    refine st67 _ ?_
    show Steps p.tables e below (T67.setTop (mkF m 151 #[.val (.int p1), .val (.int p2), .val (.ref b3), .unset, .unset, .unset, .unset] [(.ref b67)])) _
    refine XS.dup X67.here hx rfl (hb hby at_151) rfl rfl ?_
    show Steps p.tables e below (T67.setTop (mkF m 152 #[.val (.int p1), .val (.int p2), .val (.ref b3), .unset, .unset, .unset, .unset] [(.ref b67), (.ref b67)])) _
    refine XS.iconst X67.here hx rfl (hb hby at_152) ?_
    show Steps p.tables e below (T67.setTop (mkF m 153 #[.val (.int p1), .val (.int p2), .val (.ref b3), .unset, .unset, .unset, .unset] [(.int (0 : Int32)), (.ref b67), (.ref b67)])) _
    refine XS.bipush X67.here hx rfl (hb hby at_153) ?_
    show Steps p.tables e below (T67.setTop (mkF m 155 #[.val (.int p1), .val (.int p2), .val (.ref b3), .unset, .unset, .unset, .unset] [(.int (9 : Int32)), (.int (0 : Int32)), (.ref b67), (.ref b67)])) _
    refine st68 _ ?_
    show Steps p.tables e below (T68.setTop (mkF m 156 #[.val (.int p1), .val (.int p2), .val (.ref b3), .unset, .unset, .unset, .unset] [(.ref b67)])) _
    refine XS.dup X68.here hx rfl (hb hby at_156) rfl rfl ?_
    show Steps p.tables e below (T68.setTop (mkF m 157 #[.val (.int p1), .val (.int p2), .val (.ref b3), .unset, .unset, .unset, .unset] [(.ref b67), (.ref b67)])) _
    refine XS.iconst X68.here hx rfl (hb hby at_157) ?_
    show Steps p.tables e below (T68.setTop (mkF m 158 #[.val (.int p1), .val (.int p2), .val (.ref b3), .unset, .unset, .unset, .unset] [(.int (1 : Int32)), (.ref b67), (.ref b67)])) _
    refine XS.bipush X68.here hx rfl (hb hby at_158) ?_
    show Steps p.tables e below (T68.setTop (mkF m 160 #[.val (.int p1), .val (.int p2), .val (.ref b3), .unset, .unset, .unset, .unset] [(.int (12 : Int32)), (.int (1 : Int32)), (.ref b67), (.ref b67)])) _
    refine st69 _ ?_
    show Steps p.tables e below (T69.setTop (mkF m 161 #[.val (.int p1), .val (.int p2), .val (.ref b3), .unset, .unset, .unset, .unset] [(.ref b67)])) _
    refine XS.dup X69.here hx rfl (hb hby at_161) rfl rfl ?_
    show Steps p.tables e below (T69.setTop (mkF m 162 #[.val (.int p1), .val (.int p2), .val (.ref b3), .unset, .unset, .unset, .unset] [(.ref b67), (.ref b67)])) _
    refine XS.iconst X69.here hx rfl (hb hby at_162) ?_
    show Steps p.tables e below (T69.setTop (mkF m 163 #[.val (.int p1), .val (.int p2), .val (.ref b3), .unset, .unset, .unset, .unset] [(.int (2 : Int32)), (.ref b67), (.ref b67)])) _
    refine XS.bipush X69.here hx rfl (hb hby at_163) ?_
    show Steps p.tables e below (T69.setTop (mkF m 165 #[.val (.int p1), .val (.int p2), .val (.ref b3), .unset, .unset, .unset, .unset] [(.int (6 : Int32)), (.int (2 : Int32)), (.ref b67), (.ref b67)])) _
    refine st70 _ ?_
    show Steps p.tables e below (T70.setTop (mkF m 166 #[.val (.int p1), .val (.int p2), .val (.ref b3), .unset, .unset, .unset, .unset] [(.ref b67)])) _
    refine XS.dup X70.here hx rfl (hb hby at_166) rfl rfl ?_
    show Steps p.tables e below (T70.setTop (mkF m 167 #[.val (.int p1), .val (.int p2), .val (.ref b3), .unset, .unset, .unset, .unset] [(.ref b67), (.ref b67)])) _
    refine XS.iconst X70.here hx rfl (hb hby at_167) ?_
    show Steps p.tables e below (T70.setTop (mkF m 168 #[.val (.int p1), .val (.int p2), .val (.ref b3), .unset, .unset, .unset, .unset] [(.int (3 : Int32)), (.ref b67), (.ref b67)])) _
    refine XS.bipush X70.here hx rfl (hb hby at_168) ?_
    show Steps p.tables e below (T70.setTop (mkF m 170 #[.val (.int p1), .val (.int p2), .val (.ref b3), .unset, .unset, .unset, .unset] [(.int (9 : Int32)), (.int (3 : Int32)), (.ref b67), (.ref b67)])) _
    refine st71 _ ?_
    show Steps p.tables e below (T71.setTop (mkF m 171 #[.val (.int p1), .val (.int p2), .val (.ref b3), .unset, .unset, .unset, .unset] [(.ref b67)])) _
    refine XS.dup X71.here hx rfl (hb hby at_171) rfl rfl ?_
    show Steps p.tables e below (T71.setTop (mkF m 172 #[.val (.int p1), .val (.int p2), .val (.ref b3), .unset, .unset, .unset, .unset] [(.ref b67), (.ref b67)])) _
    refine XS.iconst X71.here hx rfl (hb hby at_172) ?_
    show Steps p.tables e below (T71.setTop (mkF m 173 #[.val (.int p1), .val (.int p2), .val (.ref b3), .unset, .unset, .unset, .unset] [(.int (4 : Int32)), (.ref b67), (.ref b67)])) _
    refine XS.bipush X71.here hx rfl (hb hby at_173) ?_
    show Steps p.tables e below (T71.setTop (mkF m 175 #[.val (.int p1), .val (.int p2), .val (.ref b3), .unset, .unset, .unset, .unset] [(.int (8 : Int32)), (.int (4 : Int32)), (.ref b67), (.ref b67)])) _
    refine st72 _ ?_
    show Steps p.tables e below (T72.setTop (mkF m 176 #[.val (.int p1), .val (.int p2), .val (.ref b3), .unset, .unset, .unset, .unset] [(.ref b67)])) _
    refine XS.dup X72.here hx rfl (hb hby at_176) rfl rfl ?_
    show Steps p.tables e below (T72.setTop (mkF m 177 #[.val (.int p1), .val (.int p2), .val (.ref b3), .unset, .unset, .unset, .unset] [(.ref b67), (.ref b67)])) _
    refine XS.iconst X72.here hx rfl (hb hby at_177) ?_
    show Steps p.tables e below (T72.setTop (mkF m 178 #[.val (.int p1), .val (.int p2), .val (.ref b3), .unset, .unset, .unset, .unset] [(.int (5 : Int32)), (.ref b67), (.ref b67)])) _
    refine XS.bipush X72.here hx rfl (hb hby at_178) ?_
    show Steps p.tables e below (T72.setTop (mkF m 180 #[.val (.int p1), .val (.int p2), .val (.ref b3), .unset, .unset, .unset, .unset] [(.int (6 : Int32)), (.int (5 : Int32)), (.ref b67), (.ref b67)])) _
    refine st73 _ ?_
    show Steps p.tables e below (T73.setTop (mkF m 181 #[.val (.int p1), .val (.int p2), .val (.ref b3), .unset, .unset, .unset, .unset] [(.ref b67)])) _
    refine XS.dup X73.here hx rfl (hb hby at_181) rfl rfl ?_
    show Steps p.tables e below (T73.setTop (mkF m 182 #[.val (.int p1), .val (.int p2), .val (.ref b3), .unset, .unset, .unset, .unset] [(.ref b67), (.ref b67)])) _
    refine XS.bipush X73.here hx rfl (hb hby at_182) ?_
    show Steps p.tables e below (T73.setTop (mkF m 184 #[.val (.int p1), .val (.int p2), .val (.ref b3), .unset, .unset, .unset, .unset] [(.int (6 : Int32)), (.ref b67), (.ref b67)])) _
    refine XS.iconst X73.here hx rfl (hb hby at_184) ?_
    show Steps p.tables e below (T73.setTop (mkF m 185 #[.val (.int p1), .val (.int p2), .val (.ref b3), .unset, .unset, .unset, .unset] [(.int (3 : Int32)), (.int (6 : Int32)), (.ref b67), (.ref b67)])) _
    refine st74 _ ?_
    show Steps p.tables e below (T74.setTop (mkF m 186 #[.val (.int p1), .val (.int p2), .val (.ref b3), .unset, .unset, .unset, .unset] [(.ref b67)])) _
    refine XS.dup X74.here hx rfl (hb hby at_186) rfl rfl ?_
    show Steps p.tables e below (T74.setTop (mkF m 187 #[.val (.int p1), .val (.int p2), .val (.ref b3), .unset, .unset, .unset, .unset] [(.ref b67), (.ref b67)])) _
    refine XS.bipush X74.here hx rfl (hb hby at_187) ?_
    show Steps p.tables e below (T74.setTop (mkF m 189 #[.val (.int p1), .val (.int p2), .val (.ref b3), .unset, .unset, .unset, .unset] [(.int (7 : Int32)), (.ref b67), (.ref b67)])) _
    refine XS.bipush X74.here hx rfl (hb hby at_189) ?_
    show Steps p.tables e below (T74.setTop (mkF m 191 #[.val (.int p1), .val (.int p2), .val (.ref b3), .unset, .unset, .unset, .unset] [(.int (6 : Int32)), (.int (7 : Int32)), (.ref b67), (.ref b67)])) _
    refine st75 _ ?_
    show Steps p.tables e below (T75.setTop (mkF m 192 #[.val (.int p1), .val (.int p2), .val (.ref b3), .unset, .unset, .unset, .unset] [(.ref b67)])) _
    refine XS.dup X75.here hx rfl (hb hby at_192) rfl rfl ?_
    show Steps p.tables e below (T75.setTop (mkF m 193 #[.val (.int p1), .val (.int p2), .val (.ref b3), .unset, .unset, .unset, .unset] [(.ref b67), (.ref b67)])) _
    refine XS.bipush X75.here hx rfl (hb hby at_193) ?_
    show Steps p.tables e below (T75.setTop (mkF m 195 #[.val (.int p1), .val (.int p2), .val (.ref b3), .unset, .unset, .unset, .unset] [(.int (8 : Int32)), (.ref b67), (.ref b67)])) _
    refine XS.iconst X75.here hx rfl (hb hby at_195) ?_
    show Steps p.tables e below (T75.setTop (mkF m 196 #[.val (.int p1), .val (.int p2), .val (.ref b3), .unset, .unset, .unset, .unset] [(.int (4 : Int32)), (.int (8 : Int32)), (.ref b67), (.ref b67)])) _
    refine st76 _ ?_
    show Steps p.tables e below (T76.setTop (mkF m 197 #[.val (.int p1), .val (.int p2), .val (.ref b3), .unset, .unset, .unset, .unset] [(.ref b67)])) _
    refine XS.dup X76.here hx rfl (hb hby at_197) rfl rfl ?_
    show Steps p.tables e below (T76.setTop (mkF m 198 #[.val (.int p1), .val (.int p2), .val (.ref b3), .unset, .unset, .unset, .unset] [(.ref b67), (.ref b67)])) _
    refine XS.bipush X76.here hx rfl (hb hby at_198) ?_
    show Steps p.tables e below (T76.setTop (mkF m 200 #[.val (.int p1), .val (.int p2), .val (.ref b3), .unset, .unset, .unset, .unset] [(.int (9 : Int32)), (.ref b67), (.ref b67)])) _
    refine XS.iconst X76.here hx rfl (hb hby at_200) ?_
    show Steps p.tables e below (T76.setTop (mkF m 201 #[.val (.int p1), .val (.int p2), .val (.ref b3), .unset, .unset, .unset, .unset] [(.int (4 : Int32)), (.int (9 : Int32)), (.ref b67), (.ref b67)])) _
    refine st77 _ ?_
    show Steps p.tables e below (T77.setTop (mkF m 202 #[.val (.int p1), .val (.int p2), .val (.ref b3), .unset, .unset, .unset, .unset] [(.ref b67)])) _
    refine XS.dup X77.here hx rfl (hb hby at_202) rfl rfl ?_
    show Steps p.tables e below (T77.setTop (mkF m 203 #[.val (.int p1), .val (.int p2), .val (.ref b3), .unset, .unset, .unset, .unset] [(.ref b67), (.ref b67)])) _
    refine XS.bipush X77.here hx rfl (hb hby at_203) ?_
    show Steps p.tables e below (T77.setTop (mkF m 205 #[.val (.int p1), .val (.int p2), .val (.ref b3), .unset, .unset, .unset, .unset] [(.int (10 : Int32)), (.ref b67), (.ref b67)])) _
    refine XS.iconst X77.here hx rfl (hb hby at_205) ?_
    show Steps p.tables e below (T77.setTop (mkF m 206 #[.val (.int p1), .val (.int p2), .val (.ref b3), .unset, .unset, .unset, .unset] [(.int (4 : Int32)), (.int (10 : Int32)), (.ref b67), (.ref b67)])) _
    refine st78 _ ?_
    show Steps p.tables e below (T78.setTop (mkF m 207 #[.val (.int p1), .val (.int p2), .val (.ref b3), .unset, .unset, .unset, .unset] [(.ref b67)])) _
    refine XS.dup X78.here hx rfl (hb hby at_207) rfl rfl ?_
    show Steps p.tables e below (T78.setTop (mkF m 208 #[.val (.int p1), .val (.int p2), .val (.ref b3), .unset, .unset, .unset, .unset] [(.ref b67), (.ref b67)])) _
    refine XS.bipush X78.here hx rfl (hb hby at_208) ?_
    show Steps p.tables e below (T78.setTop (mkF m 210 #[.val (.int p1), .val (.int p2), .val (.ref b3), .unset, .unset, .unset, .unset] [(.int (11 : Int32)), (.ref b67), (.ref b67)])) _
    refine XS.iconst X78.here hx rfl (hb hby at_210) ?_
    show Steps p.tables e below (T78.setTop (mkF m 211 #[.val (.int p1), .val (.int p2), .val (.ref b3), .unset, .unset, .unset, .unset] [(.int (5 : Int32)), (.int (11 : Int32)), (.ref b67), (.ref b67)])) _
    refine st79 _ ?_
    show Steps p.tables e below (T79.setTop (mkF m 212 #[.val (.int p1), .val (.int p2), .val (.ref b3), .unset, .unset, .unset, .unset] [(.ref b67)])) _
    refine XS.dup X79.here hx rfl (hb hby at_212) rfl rfl ?_
    show Steps p.tables e below (T79.setTop (mkF m 213 #[.val (.int p1), .val (.int p2), .val (.ref b3), .unset, .unset, .unset, .unset] [(.ref b67), (.ref b67)])) _
    refine XS.bipush X79.here hx rfl (hb hby at_213) ?_
    show Steps p.tables e below (T79.setTop (mkF m 215 #[.val (.int p1), .val (.int p2), .val (.ref b3), .unset, .unset, .unset, .unset] [(.int (12 : Int32)), (.ref b67), (.ref b67)])) _
    refine XS.iconst X79.here hx rfl (hb hby at_215) ?_
    show Steps p.tables e below (T79.setTop (mkF m 216 #[.val (.int p1), .val (.int p2), .val (.ref b3), .unset, .unset, .unset, .unset] [(.int (3 : Int32)), (.int (12 : Int32)), (.ref b67), (.ref b67)])) _
    refine st80 _ ?_
    show Steps p.tables e below (T80.setTop (mkF m 217 #[.val (.int p1), .val (.int p2), .val (.ref b3), .unset, .unset, .unset, .unset] [(.ref b67)])) _
    refine XS.dup X80.here hx rfl (hb hby at_217) rfl rfl ?_
    show Steps p.tables e below (T80.setTop (mkF m 218 #[.val (.int p1), .val (.int p2), .val (.ref b3), .unset, .unset, .unset, .unset] [(.ref b67), (.ref b67)])) _
    refine XS.bipush X80.here hx rfl (hb hby at_218) ?_
    show Steps p.tables e below (T80.setTop (mkF m 220 #[.val (.int p1), .val (.int p2), .val (.ref b3), .unset, .unset, .unset, .unset] [(.int (13 : Int32)), (.ref b67), (.ref b67)])) _
    refine XS.iconst X80.here hx rfl (hb hby at_220) ?_
    show Steps p.tables e below (T80.setTop (mkF m 221 #[.val (.int p1), .val (.int p2), .val (.ref b3), .unset, .unset, .unset, .unset] [(.int (3 : Int32)), (.int (13 : Int32)), (.ref b67), (.ref b67)])) _
    refine st81 _ ?_
    show Steps p.tables e below (T81.setTop (mkF m 222 #[.val (.int p1), .val (.int p2), .val (.ref b3), .unset, .unset, .unset, .unset] [(.ref b67)])) _
    refine XS.dup X81.here hx rfl (hb hby at_222) rfl rfl ?_
    show Steps p.tables e below (T81.setTop (mkF m 223 #[.val (.int p1), .val (.int p2), .val (.ref b3), .unset, .unset, .unset, .unset] [(.ref b67), (.ref b67)])) _
    refine XS.bipush X81.here hx rfl (hb hby at_223) ?_
    show Steps p.tables e below (T81.setTop (mkF m 225 #[.val (.int p1), .val (.int p2), .val (.ref b3), .unset, .unset, .unset, .unset] [(.int (14 : Int32)), (.ref b67), (.ref b67)])) _
    refine XS.iconst X81.here hx rfl (hb hby at_225) ?_
    show Steps p.tables e below (T81.setTop (mkF m 226 #[.val (.int p1), .val (.int p2), .val (.ref b3), .unset, .unset, .unset, .unset] [(.int (5 : Int32)), (.int (14 : Int32)), (.ref b67), (.ref b67)])) _
    refine st82 _ ?_
    show Steps p.tables e below (T82.setTop (mkF m 227 #[.val (.int p1), .val (.int p2), .val (.ref b3), .unset, .unset, .unset, .unset] [(.ref b67)])) _
    refine XS.dup X82.here hx rfl (hb hby at_227) rfl rfl ?_
    show Steps p.tables e below (T82.setTop (mkF m 228 #[.val (.int p1), .val (.int p2), .val (.ref b3), .unset, .unset, .unset, .unset] [(.ref b67), (.ref b67)])) _
    refine XS.bipush X82.here hx rfl (hb hby at_228) ?_
    show Steps p.tables e below (T82.setTop (mkF m 230 #[.val (.int p1), .val (.int p2), .val (.ref b3), .unset, .unset, .unset, .unset] [(.int (15 : Int32)), (.ref b67), (.ref b67)])) _
    refine XS.iconst X82.here hx rfl (hb hby at_230) ?_
    show Steps p.tables e below (T82.setTop (mkF m 231 #[.val (.int p1), .val (.int p2), .val (.ref b3), .unset, .unset, .unset, .unset] [(.int (4 : Int32)), (.int (15 : Int32)), (.ref b67), (.ref b67)])) _
    refine st83 _ ?_
    show Steps p.tables e below (T83.setTop (mkF m 232 #[.val (.int p1), .val (.int p2), .val (.ref b3), .unset, .unset, .unset, .unset] [(.ref b67)])) _
    refine XS.dup X83.here hx rfl (hb hby at_232) rfl rfl ?_
    show Steps p.tables e below (T83.setTop (mkF m 233 #[.val (.int p1), .val (.int p2), .val (.ref b3), .unset, .unset, .unset, .unset] [(.ref b67), (.ref b67)])) _
    refine XS.bipush X83.here hx rfl (hb hby at_233) ?_
    show Steps p.tables e below (T83.setTop (mkF m 235 #[.val (.int p1), .val (.int p2), .val (.ref b3), .unset, .unset, .unset, .unset] [(.int (16 : Int32)), (.ref b67), (.ref b67)])) _
    refine XS.iconst X83.here hx rfl (hb hby at_235) ?_
    show Steps p.tables e below (T83.setTop (mkF m 236 #[.val (.int p1), .val (.int p2), .val (.ref b3), .unset, .unset, .unset, .unset] [(.int (2 : Int32)), (.int (16 : Int32)), (.ref b67), (.ref b67)])) _
    refine st84 _ ?_
    show Steps p.tables e below (T84.setTop (mkF m 237 #[.val (.int p1), .val (.int p2), .val (.ref b3), .unset, .unset, .unset, .unset] [(.ref b67)])) _
    refine XS.dup X84.here hx rfl (hb hby at_237) rfl rfl ?_
    show Steps p.tables e below (T84.setTop (mkF m 238 #[.val (.int p1), .val (.int p2), .val (.ref b3), .unset, .unset, .unset, .unset] [(.ref b67), (.ref b67)])) _
    refine XS.bipush X84.here hx rfl (hb hby at_238) ?_
    show Steps p.tables e below (T84.setTop (mkF m 240 #[.val (.int p1), .val (.int p2), .val (.ref b3), .unset, .unset, .unset, .unset] [(.int (17 : Int32)), (.ref b67), (.ref b67)])) _
    refine XS.iconst X84.here hx rfl (hb hby at_240) ?_
    show Steps p.tables e below (T84.setTop (mkF m 241 #[.val (.int p1), .val (.int p2), .val (.ref b3), .unset, .unset, .unset, .unset] [(.int (4 : Int32)), (.int (17 : Int32)), (.ref b67), (.ref b67)])) _
    refine st85 _ ?_
    show Steps p.tables e below (T85.setTop (mkF m 242 #[.val (.int p1), .val (.int p2), .val (.ref b3), .unset, .unset, .unset, .unset] [(.ref b67)])) _
    refine XS.dup X85.here hx rfl (hb hby at_242) rfl rfl ?_
    show Steps p.tables e below (T85.setTop (mkF m 243 #[.val (.int p1), .val (.int p2), .val (.ref b3), .unset, .unset, .unset, .unset] [(.ref b67), (.ref b67)])) _
    refine XS.bipush X85.here hx rfl (hb hby at_243) ?_
    show Steps p.tables e below (T85.setTop (mkF m 245 #[.val (.int p1), .val (.int p2), .val (.ref b3), .unset, .unset, .unset, .unset] [(.int (18 : Int32)), (.ref b67), (.ref b67)])) _
    refine XS.iconst X85.here hx rfl (hb hby at_245) ?_
    show Steps p.tables e below (T85.setTop (mkF m 246 #[.val (.int p1), .val (.int p2), .val (.ref b3), .unset, .unset, .unset, .unset] [(.int (2 : Int32)), (.int (18 : Int32)), (.ref b67), (.ref b67)])) _
    refine st86 _ ?_
    show Steps p.tables e below (T86.setTop (mkF m 247 #[.val (.int p1), .val (.int p2), .val (.ref b3), .unset, .unset, .unset, .unset] [(.ref b67)])) _
    refine XS.dup X86.here hx rfl (hb hby at_247) rfl rfl ?_
    show Steps p.tables e below (T86.setTop (mkF m 248 #[.val (.int p1), .val (.int p2), .val (.ref b3), .unset, .unset, .unset, .unset] [(.ref b67), (.ref b67)])) _
    refine XS.bipush X86.here hx rfl (hb hby at_248) ?_
    show Steps p.tables e below (T86.setTop (mkF m 250 #[.val (.int p1), .val (.int p2), .val (.ref b3), .unset, .unset, .unset, .unset] [(.int (19 : Int32)), (.ref b67), (.ref b67)])) _
    refine XS.iconst X86.here hx rfl (hb hby at_250) ?_
    show Steps p.tables e below (T86.setTop (mkF m 251 #[.val (.int p1), .val (.int p2), .val (.ref b3), .unset, .unset, .unset, .unset] [(.int (2 : Int32)), (.int (19 : Int32)), (.ref b67), (.ref b67)])) _
    refine st87 _ ?_
    show Steps p.tables e below (T87.setTop (mkF m 252 #[.val (.int p1), .val (.int p2), .val (.ref b3), .unset, .unset, .unset, .unset] [(.ref b67)])) _
    refine XS.dup X87.here hx rfl (hb hby at_252) rfl rfl ?_
    show Steps p.tables e below (T87.setTop (mkF m 253 #[.val (.int p1), .val (.int p2), .val (.ref b3), .unset, .unset, .unset, .unset] [(.ref b67), (.ref b67)])) _
    refine XS.bipush X87.here hx rfl (hb hby at_253) ?_
    show Steps p.tables e below (T87.setTop (mkF m 255 #[.val (.int p1), .val (.int p2), .val (.ref b3), .unset, .unset, .unset, .unset] [(.int (20 : Int32)), (.ref b67), (.ref b67)])) _
    refine XS.iconst X87.here hx rfl (hb hby at_255) ?_
    show Steps p.tables e below (T87.setTop (mkF m 256 #[.val (.int p1), .val (.int p2), .val (.ref b3), .unset, .unset, .unset, .unset] [(.int (1 : Int32)), (.int (20 : Int32)), (.ref b67), (.ref b67)])) _
    refine st88 _ ?_
    show Steps p.tables e below (T88.setTop (mkF m 257 #[.val (.int p1), .val (.int p2), .val (.ref b3), .unset, .unset, .unset, .unset] [(.ref b67)])) _
    refine XS.astoreN X88.here hx rfl (hb hby at_257) rfl rfl (l' := #[.val (.int p1), .val (.int p2), .val (.ref b3), .val (.ref b67), .unset, .unset, .unset]) rfl ?_
    show Steps p.tables e below (T88.setTop (mkF m 258 #[.val (.int p1), .val (.int p2), .val (.ref b3), .val (.ref b67), .unset, .unset, .unset] [])) _
    refine XS.iloadN X88.here hx rfl (hb hby at_258) rfl ?_
    show Steps p.tables e below (T88.setTop (mkF m 259 #[.val (.int p1), .val (.int p2), .val (.ref b3), .val (.ref b67), .unset, .unset, .unset] [(.int p1)])) _
    refine X88.ldcInt hx hown (mvT hZ (hw _ (List.mem_of_getElem? (i := 47) rfl))) (g := (mkF m 259 #[.val (.int p1), .val (.int p2), .val (.ref b3), .val (.ref b67), .unset, .unset, .unset] [(.int p1)])) rfl (hb hby at_259) _ ?_
    show Steps p.tables e below (T88.setTop (mkF m 261 #[.val (.int p1), .val (.int p2), .val (.ref b3), .val (.ref b67), .unset, .unset, .unset] [(.int (2147483647 : Int32)), (.int p1)])) _
    refine XS.iand X88.here hx rfl (hb hby at_261) rfl ?_
    show Steps p.tables e below (T88.setTop (mkF m 262 #[.val (.int p1), .val (.int p2), .val (.ref b3), .val (.ref b67), .unset, .unset, .unset] [(.int (p1 &&& (2147483647 : Int32)))])) _
    refine XS.bipush X88.here hx rfl (hb hby at_262) ?_
    show Steps p.tables e below (T88.setTop (mkF m 264 #[.val (.int p1), .val (.int p2), .val (.ref b3), .val (.ref b67), .unset, .unset, .unset] [(.int (21 : Int32)), (.int (p1 &&& (2147483647 : Int32)))])) _
    refine iremM X88 hx rfl (hb hby at_264) rfl (by decide) ?_
    show Steps p.tables e below (T88.setTop (mkF m 265 #[.val (.int p1), .val (.int p2), .val (.ref b3), .val (.ref b67), .unset, .unset, .unset] [(.int ((p1 &&& (2147483647 : Int32)) % (21 : Int32)))])) _
    refine XS.istore X88.here hx rfl (hb hby at_265) rfl (l' := #[.val (.int p1), .val (.int p2), .val (.ref b3), .val (.ref b67), .val (.int ((p1 &&& (2147483647 : Int32)) % (21 : Int32))), .unset, .unset]) rfl ?_
    show Steps p.tables e below (T88.setTop (mkF m 267 #[.val (.int p1), .val (.int p2), .val (.ref b3), .val (.ref b67), .val (.int ((p1 &&& (2147483647 : Int32)) % (21 : Int32))), .unset, .unset] [])) _
    refine XS.iloadN X88.here hx rfl (hb hby at_267) rfl ?_
    show Steps p.tables e below (T88.setTop (mkF m 268 #[.val (.int p1), .val (.int p2), .val (.ref b3), .val (.ref b67), .val (.int ((p1 &&& (2147483647 : Int32)) % (21 : Int32))), .unset, .unset] [(.int p2)])) _
    refine XS.i2s X88.here hx rfl (hb hby at_268) rfl ?_
    show Steps p.tables e below (T88.setTop (mkF m 269 #[.val (.int p1), .val (.int p2), .val (.ref b3), .val (.ref b67), .val (.int ((p1 &&& (2147483647 : Int32)) % (21 : Int32))), .unset, .unset] [(.int (p2.toInt16.toInt32))])) _
    refine XS.istore X88.here hx rfl (hb hby at_269) rfl (l' := #[.val (.int p1), .val (.int p2), .val (.ref b3), .val (.ref b67), .val (.int ((p1 &&& (2147483647 : Int32)) % (21 : Int32))), .val (.int (p2.toInt16.toInt32)), .unset]) rfl ?_
    show Steps p.tables e below (T88.setTop (mkF m 271 #[.val (.int p1), .val (.int p2), .val (.ref b3), .val (.ref b67), .val (.int ((p1 &&& (2147483647 : Int32)) % (21 : Int32))), .val (.int (p2.toInt16.toInt32)), .unset] [])) _
    refine XS.iload X88.here hx rfl (hb hby at_271) rfl ?_
    show Steps p.tables e below (T88.setTop (mkF m 273 #[.val (.int p1), .val (.int p2), .val (.ref b3), .val (.ref b67), .val (.int ((p1 &&& (2147483647 : Int32)) % (21 : Int32))), .val (.int (p2.toInt16.toInt32)), .unset] [(.int (p2.toInt16.toInt32))])) _
    refine XS.aloadN X88.here hx rfl (hb hby at_273) rfl rfl ?_
    show Steps p.tables e below (T88.setTop (mkF m 274 #[.val (.int p1), .val (.int p2), .val (.ref b3), .val (.ref b67), .val (.int ((p1 &&& (2147483647 : Int32)) % (21 : Int32))), .val (.int (p2.toInt16.toInt32)), .unset] [(.ref b67), (.int (p2.toInt16.toInt32))])) _
    refine XS.iload X88.here hx rfl (hb hby at_274) rfl ?_
    show Steps p.tables e below (T88.setTop (mkF m 276 #[.val (.int p1), .val (.int p2), .val (.ref b3), .val (.ref b67), .val (.int ((p1 &&& (2147483647 : Int32)) % (21 : Int32))), .val (.int (p2.toInt16.toInt32)), .unset] [(.int ((p1 &&& (2147483647 : Int32)) % (21 : Int32))), (.ref b67), (.int (p2.toInt16.toInt32))])) _
    refine X88.iaload hx (j := ((p1 &&& (2147483647 : Int32)) % (21 : Int32))) (v := (.int w89)) (by rw [e88]; exact Ar_b67.1) (State.isArrayOf_alike hZ.alike Ar_b67.2.1) Ar_b67.2.2 hin276 hat276 (g := (mkF m 276 #[.val (.int p1), .val (.int p2), .val (.ref b3), .val (.ref b67), .val (.int ((p1 &&& (2147483647 : Int32)) % (21 : Int32))), .val (.int (p2.toInt16.toInt32)), .unset] [(.int ((p1 &&& (2147483647 : Int32)) % (21 : Int32))), (.ref b67), (.int (p2.toInt16.toInt32))])) rfl rfl (hb hby at_276) _ ?_
    show Steps p.tables e below (T88.setTop (mkF m 277 #[.val (.int p1), .val (.int p2), .val (.ref b3), .val (.ref b67), .val (.int ((p1 &&& (2147483647 : Int32)) % (21 : Int32))), .val (.int (p2.toInt16.toInt32)), .unset] [(.int w89), (.int (p2.toInt16.toInt32))])) _
    refine XS.icmpYes X88.here hx rfl (pc0 := 277) (pc' := 284) rfl (hb hby at_277) rfl (tlt hc277).1 (by decide) (by decide) ?_
    show Steps p.tables e below (T88.setTop (mkF m 284 #[.val (.int p1), .val (.int p2), .val (.ref b3), .val (.ref b67), .val (.int ((p1 &&& (2147483647 : Int32)) % (21 : Int32))), .val (.int (p2.toInt16.toInt32)), .unset] [])) _
    refine XS.iconst X88.here hx rfl (hb hby at_284) ?_
    show Steps p.tables e below (T88.setTop (mkF m 285 #[.val (.int p1), .val (.int p2), .val (.ref b3), .val (.ref b67), .val (.int ((p1 &&& (2147483647 : Int32)) % (21 : Int32))), .val (.int (p2.toInt16.toInt32)), .unset] [(.int (0 : Int32))])) _
    refine XS.istore X88.here hx rfl (hb hby at_285) rfl (l' := #[.val (.int p1), .val (.int p2), .val (.ref b3), .val (.ref b67), .val (.int ((p1 &&& (2147483647 : Int32)) % (21 : Int32))), .val (.int (p2.toInt16.toInt32)), .val (.int (0 : Int32))]) rfl ?_
    show Steps p.tables e below (T88.setTop (mkF m 287 #[.val (.int p1), .val (.int p2), .val (.ref b3), .val (.ref b67), .val (.int ((p1 &&& (2147483647 : Int32)) % (21 : Int32))), .val (.int (p2.toInt16.toInt32)), .val (.int (0 : Int32))] [])) _
    refine XS.aloadN X88.here hx rfl (hb hby at_287) rfl rfl ?_
    show Steps p.tables e below (T88.setTop (mkF m 288 #[.val (.int p1), .val (.int p2), .val (.ref b3), .val (.ref b67), .val (.int ((p1 &&& (2147483647 : Int32)) % (21 : Int32))), .val (.int (p2.toInt16.toInt32)), .val (.int (0 : Int32))] [(.ref b3)])) _
    refine XS.iload X88.here hx rfl (hb hby at_288) rfl ?_
    show Steps p.tables e below (T88.setTop (mkF m 290 #[.val (.int p1), .val (.int p2), .val (.ref b3), .val (.ref b67), .val (.int ((p1 &&& (2147483647 : Int32)) % (21 : Int32))), .val (.int (p2.toInt16.toInt32)), .val (.int (0 : Int32))] [(.int ((p1 &&& (2147483647 : Int32)) % (21 : Int32))), (.ref b3)])) _
    refine X88.aaload hx (j := ((p1 &&& (2147483647 : Int32)) % (21 : Int32))) (v := (.ref w90)) (by rw [e88]; exact Ar_b3.1) (State.isArrayOf_alike hZ.alike Ar_b3.2.1) rfl Ar_b3.2.2 hin290 hat290 (g := (mkF m 290 #[.val (.int p1), .val (.int p2), .val (.ref b3), .val (.ref b67), .val (.int ((p1 &&& (2147483647 : Int32)) % (21 : Int32))), .val (.int (p2.toInt16.toInt32)), .val (.int (0 : Int32))] [(.int ((p1 &&& (2147483647 : Int32)) % (21 : Int32))), (.ref b3)])) rfl rfl (hb hby at_290) _ ?_
    show Steps p.tables e below (T88.setTop (mkF m 291 #[.val (.int p1), .val (.int p2), .val (.ref b3), .val (.ref b67), .val (.int ((p1 &&& (2147483647 : Int32)) % (21 : Int32))), .val (.int (p2.toInt16.toInt32)), .val (.int (0 : Int32))] [(.ref w90)])) _
    refine XS.iload X88.here hx rfl (hb hby at_291) rfl ?_
    show Steps p.tables e below (T88.setTop (mkF m 293 #[.val (.int p1), .val (.int p2), .val (.ref b3), .val (.ref b67), .val (.int ((p1 &&& (2147483647 : Int32)) % (21 : Int32))), .val (.int (p2.toInt16.toInt32)), .val (.int (0 : Int32))] [(.int (p2.toInt16.toInt32)), (.ref w90)])) _
    refine st91.trans ?_
    show Steps p.tables e below (T91.setTop (mkF m 296 #[.val (.int p1), .val (.int p2), .val (.ref b3), .val (.ref b67), .val (.int ((p1 &&& (2147483647 : Int32)) % (21 : Int32))), .val (.int (p2.toInt16.toInt32)), .val (.int (0 : Int32))] [(.int (0 : Int32))])) _
    refine XS.iload X91.here hx rfl (hb hby at_296) rfl ?_
    show Steps p.tables e below (T91.setTop (mkF m 298 #[.val (.int p1), .val (.int p2), .val (.ref b3), .val (.ref b67), .val (.int ((p1 &&& (2147483647 : Int32)) % (21 : Int32))), .val (.int (p2.toInt16.toInt32)), .val (.int (0 : Int32))] [(.int (0 : Int32)), (.int (0 : Int32))])) _
    refine XS.icmpNo X91.here hx rfl (hb hby at_298) rfl (teq (rfl : (0 : Int32) = (0 : Int32))).2 ?_
    show Steps p.tables e below (T91.setTop (mkF m 301 #[.val (.int p1), .val (.int p2), .val (.ref b3), .val (.ref b67), .val (.int ((p1 &&& (2147483647 : Int32)) % (21 : Int32))), .val (.int (p2.toInt16.toInt32)), .val (.int (0 : Int32))] [])) _
    refine XS.iconst X91.here hx rfl (hb hby at_301) ?_
    show Steps p.tables e below (T91.setTop (mkF m 302 #[.val (.int p1), .val (.int p2), .val (.ref b3), .val (.ref b67), .val (.int ((p1 &&& (2147483647 : Int32)) % (21 : Int32))), .val (.int (p2.toInt16.toInt32)), .val (.int (0 : Int32))] [(.int (1 : Int32))])) _
    refine XS.goto X91.here hx rfl (pc0 := 302) (pc' := 306) rfl (hb hby at_302) (by decide) (by decide) ?_
    show Steps p.tables e below (T91.setTop (mkF m 306 #[.val (.int p1), .val (.int p2), .val (.ref b3), .val (.ref b67), .val (.int ((p1 &&& (2147483647 : Int32)) % (21 : Int32))), .val (.int (p2.toInt16.toInt32)), .val (.int (0 : Int32))] [(.int (1 : Int32))])) _
    exact retN X91 hx (t := .boolean) Bd.returns (by simp) (hb hby at_306) hr
  · show Q0 Z p1 p2 w4 w7 w10 w13 w16 w19 w22 w25 w28 w31 w34 w37 w40 w43 w46 w49 w52 w55 w58 w61 w64 w89 w90 h0 n0 _ T91.heap _
    exact ⟨rfl, N91⟩
theorem rm0 (l : Launch) (Z : State) (a0 : Array Value) (hw : ∀ d ∈ tables_1, d.before a0 Z = true) (ws : List Jvm.Cond) (p1 : Int32) (p2 : Int32) (w4 : Addr) (w7 : Addr) (w10 : Addr) (w13 : Addr) (w16 : Addr) (w19 : Addr) (w22 : Addr) (w25 : Addr) (w28 : Addr) (w31 : Addr) (w34 : Addr) (w37 : Addr) (w40 : Addr) (w43 : Addr) (w46 : Addr) (w49 : Addr) (w52 : Addr) (w55 : Addr) (w58 : Addr) (w61 : Addr) (w64 : Addr) (w89 : Int32) (w90 : Addr) (h0 : Heap) (n0 : Nat) (Z0 : n0 ≤ h0.size) (Fk : Fld Z h0 w90 "com/example/wyrd/wyrd/protocol/ApiKey" "firstFlexibleVersion" "S" (.int w89)) (S_PRODUCE : Sta Z h0 "com/example/wyrd/wyrd/protocol/ApiKey" "PRODUCE" "Lcom/example/wyrd/wyrd/protocol/ApiKey;" (.ref w4)) (E_w4 : Exa Z h0 w4 "com/example/wyrd/wyrd/protocol/ApiKey") (S_FETCH : Sta Z h0 "com/example/wyrd/wyrd/protocol/ApiKey" "FETCH" "Lcom/example/wyrd/wyrd/protocol/ApiKey;" (.ref w7)) (E_w7 : Exa Z h0 w7 "com/example/wyrd/wyrd/protocol/ApiKey") (S_LIST_OFFSETS : Sta Z h0 "com/example/wyrd/wyrd/protocol/ApiKey" "LIST_OFFSETS" "Lcom/example/wyrd/wyrd/protocol/ApiKey;" (.ref w10)) (E_w10 : Exa Z h0 w10 "com/example/wyrd/wyrd/protocol/ApiKey") (S_METADATA : Sta Z h0 "com/example/wyrd/wyrd/protocol/ApiKey" "METADATA" "Lcom/example/wyrd/wyrd/protocol/ApiKey;" (.ref w13)) (E_w13 : Exa Z h0 w13 "com/example/wyrd/wyrd/protocol/ApiKey") (S_OFFSET_COMMIT : Sta Z h0 "com/example/wyrd/wyrd/protocol/ApiKey" "OFFSET_COMMIT" "Lcom/example/wyrd/wyrd/protocol/ApiKey;" (.ref w16)) (E_w16 : Exa Z h0 w16 "com/example/wyrd/wyrd/protocol/ApiKey") (S_OFFSET_FETCH : Sta Z h0 "com/example/wyrd/wyrd/protocol/ApiKey" "OFFSET_FETCH" "Lcom/example/wyrd/wyrd/protocol/ApiKey;" (.ref w19)) (E_w19 : Exa Z h0 w19 "com/example/wyrd/wyrd/protocol/ApiKey") (S_FIND_COORDINATOR : Sta Z h0 "com/example/wyrd/wyrd/protocol/ApiKey" "FIND_COORDINATOR" "Lcom/example/wyrd/wyrd/protocol/ApiKey;" (.ref w22)) (E_w22 : Exa Z h0 w22 "com/example/wyrd/wyrd/protocol/ApiKey") (S_JOIN_GROUP : Sta Z h0 "com/example/wyrd/wyrd/protocol/ApiKey" "JOIN_GROUP" "Lcom/example/wyrd/wyrd/protocol/ApiKey;" (.ref w25)) (E_w25 : Exa Z h0 w25 "com/example/wyrd/wyrd/protocol/ApiKey") (S_HEARTBEAT : Sta Z h0 "com/example/wyrd/wyrd/protocol/ApiKey" "HEARTBEAT" "Lcom/example/wyrd/wyrd/protocol/ApiKey;" (.ref w28)) (E_w28 : Exa Z h0 w28 "com/example/wyrd/wyrd/protocol/ApiKey") (S_LEAVE_GROUP : Sta Z h0 "com/example/wyrd/wyrd/protocol/ApiKey" "LEAVE_GROUP" "Lcom/example/wyrd/wyrd/protocol/ApiKey;" (.ref w31)) (E_w31 : Exa Z h0 w31 "com/example/wyrd/wyrd/protocol/ApiKey") (S_SYNC_GROUP : Sta Z h0 "com/example/wyrd/wyrd/protocol/ApiKey" "SYNC_GROUP" "Lcom/example/wyrd/wyrd/protocol/ApiKey;" (.ref w34)) (E_w34 : Exa Z h0 w34 "com/example/wyrd/wyrd/protocol/ApiKey") (S_DESCRIBE_GROUPS : Sta Z h0 "com/example/wyrd/wyrd/protocol/ApiKey" "DESCRIBE_GROUPS" "Lcom/example/wyrd/wyrd/protocol/ApiKey;" (.ref w37)) (E_w37 : Exa Z h0 w37 "com/example/wyrd/wyrd/protocol/ApiKey") (S_LIST_GROUPS : Sta Z h0 "com/example/wyrd/wyrd/protocol/ApiKey" "LIST_GROUPS" "Lcom/example/wyrd/wyrd/protocol/ApiKey;" (.ref w40)) (E_w40 : Exa Z h0 w40 "com/example/wyrd/wyrd/protocol/ApiKey") (S_API_VERSIONS : Sta Z h0 "com/example/wyrd/wyrd/protocol/ApiKey" "API_VERSIONS" "Lcom/example/wyrd/wyrd/protocol/ApiKey;" (.ref w43)) (E_w43 : Exa Z h0 w43 "com/example/wyrd/wyrd/protocol/ApiKey") (S_CREATE_TOPICS : Sta Z h0 "com/example/wyrd/wyrd/protocol/ApiKey" "CREATE_TOPICS" "Lcom/example/wyrd/wyrd/protocol/ApiKey;" (.ref w46)) (E_w46 : Exa Z h0 w46 "com/example/wyrd/wyrd/protocol/ApiKey") (S_DELETE_TOPICS : Sta Z h0 "com/example/wyrd/wyrd/protocol/ApiKey" "DELETE_TOPICS" "Lcom/example/wyrd/wyrd/protocol/ApiKey;" (.ref w49)) (E_w49 : Exa Z h0 w49 "com/example/wyrd/wyrd/protocol/ApiKey") (S_INIT_PRODUCER_ID : Sta Z h0 "com/example/wyrd/wyrd/protocol/ApiKey" "INIT_PRODUCER_ID" "Lcom/example/wyrd/wyrd/protocol/ApiKey;" (.ref w52)) (E_w52 : Exa Z h0 w52 "com/example/wyrd/wyrd/protocol/ApiKey") (S_DESCRIBE_CONFIGS : Sta Z h0 "com/example/wyrd/wyrd/protocol/ApiKey" "DESCRIBE_CONFIGS" "Lcom/example/wyrd/wyrd/protocol/ApiKey;" (.ref w55)) (E_w55 : Exa Z h0 w55 "com/example/wyrd/wyrd/protocol/ApiKey") (S_ALTER_CONFIGS : Sta Z h0 "com/example/wyrd/wyrd/protocol/ApiKey" "ALTER_CONFIGS" "Lcom/example/wyrd/wyrd/protocol/ApiKey;" (.ref w58)) (E_w58 : Exa Z h0 w58 "com/example/wyrd/wyrd/protocol/ApiKey") (S_CREATE_PARTITIONS : Sta Z h0 "com/example/wyrd/wyrd/protocol/ApiKey" "CREATE_PARTITIONS" "Lcom/example/wyrd/wyrd/protocol/ApiKey;" (.ref w61)) (E_w61 : Exa Z h0 w61 "com/example/wyrd/wyrd/protocol/ApiKey") (S_INCREMENTAL_ALTER_CONFIGS : Sta Z h0 "com/example/wyrd/wyrd/protocol/ApiKey" "INCREMENTAL_ALTER_CONFIGS" "Lcom/example/wyrd/wyrd/protocol/ApiKey;" (.ref w64)) (E_w64 : Exa Z h0 w64 "com/example/wyrd/wyrd/protocol/ApiKey") (E_w90 : Exa Z h0 w90 "com/example/wyrd/wyrd/protocol/ApiKey") (hn276 : ¬ (((p1 &&& (2147483647 : Int32)) % (21 : Int32)) < 0)) (hl276 : ((p1 &&& (2147483647 : Int32)) % (21 : Int32)) < (21 : Int32)) (hv276 : ([(.int (9 : Int32)), (.int (12 : Int32)), (.int (6 : Int32)), (.int (9 : Int32)), (.int (8 : Int32)), (.int (6 : Int32)), (.int (3 : Int32)), (.int (6 : Int32)), (.int (4 : Int32)), (.int (4 : Int32)), (.int (4 : Int32)), (.int (5 : Int32)), (.int (3 : Int32)), (.int (3 : Int32)), (.int (5 : Int32)), (.int (4 : Int32)), (.int (2 : Int32)), (.int (4 : Int32)), (.int (2 : Int32)), (.int (2 : Int32)), (.int (1 : Int32))] : List Value).getD (((p1 &&& (2147483647 : Int32)) % (21 : Int32))).toNatClampNeg (.int (0 : Int32)) = (.int w89)) (hn290 : ¬ (((p1 &&& (2147483647 : Int32)) % (21 : Int32)) < 0)) (hl290 : ((p1 &&& (2147483647 : Int32)) % (21 : Int32)) < (21 : Int32)) (hv290 : ([(.ref w4), (.ref w7), (.ref w10), (.ref w13), (.ref w16), (.ref w19), (.ref w22), (.ref w25), (.ref w28), (.ref w31), (.ref w34), (.ref w37), (.ref w40), (.ref w43), (.ref w46), (.ref w49), (.ref w52), (.ref w55), (.ref w58), (.ref w61), (.ref w64)] : List Value).getD (((p1 &&& (2147483647 : Int32)) % (21 : Int32))).toNatClampNeg .null = (.ref w90)) :
    MetFree l x (head1 (Jvm.Cond.code x code maxLocals ret :: ws) room_1) (fun a U => a = #[(.int p1), (.int p2)] ∧ Z.Warmed39 U.vm ∧ U.heap = h0) (fun _ _ _ _ _ => True) (fun _ U o U' => ∃ v L, o = .returned v ∧ Q0 Z p1 p2 w4 w7 w10 w13 w16 w19 w22 w25 w28 w31 w34 w37 w40 w43 w46 w49 w52 w55 w58 w61 w64 w89 w90 h0 n0 v U'.heap L ∧ FrameEnd U o U' L room_1.cells room_1.slots) := by
  by_cases hc : p2.toInt16.toInt32 < w89
  · exact rm0_tf l Z a0 hw ws p1 p2 w4 w7 w10 w13 w16 w19 w22 w25 w28 w31 w34 w37 w40 w43 w46 w49 w52 w55 w58 w61 w64 w89 w90 h0 n0 Z0 Fk S_PRODUCE E_w4 S_FETCH E_w7 S_LIST_OFFSETS E_w10 S_METADATA E_w13 S_OFFSET_COMMIT E_w16 S_OFFSET_FETCH E_w19 S_FIND_COORDINATOR E_w22 S_JOIN_GROUP E_w25 S_HEARTBEAT E_w28 S_LEAVE_GROUP E_w31 S_SYNC_GROUP E_w34 S_DESCRIBE_GROUPS E_w37 S_LIST_GROUPS E_w40 S_API_VERSIONS E_w43 S_CREATE_TOPICS E_w46 S_DELETE_TOPICS E_w49 S_INIT_PRODUCER_ID E_w52 S_DESCRIBE_CONFIGS E_w55 S_ALTER_CONFIGS E_w58 S_CREATE_PARTITIONS E_w61 S_INCREMENTAL_ALTER_CONFIGS E_w64 E_w90 hn276 hl276 hv276 hc hn290 hl290 hv290
  · exact rm0_ff l Z a0 hw ws p1 p2 w4 w7 w10 w13 w16 w19 w22 w25 w28 w31 w34 w37 w40 w43 w46 w49 w52 w55 w58 w61 w64 w89 w90 h0 n0 Z0 Fk S_PRODUCE E_w4 S_FETCH E_w7 S_LIST_OFFSETS E_w10 S_METADATA E_w13 S_OFFSET_COMMIT E_w16 S_OFFSET_FETCH E_w19 S_FIND_COORDINATOR E_w22 S_JOIN_GROUP E_w25 S_HEARTBEAT E_w28 S_LEAVE_GROUP E_w31 S_SYNC_GROUP E_w34 S_DESCRIBE_GROUPS E_w37 S_LIST_GROUPS E_w40 S_API_VERSIONS E_w43 S_CREATE_TOPICS E_w46 S_DELETE_TOPICS E_w49 S_INIT_PRODUCER_ID E_w52 S_DESCRIBE_CONFIGS E_w55 S_ALTER_CONFIGS E_w58 S_CREATE_PARTITIONS E_w61 S_INCREMENTAL_ALTER_CONFIGS E_w64 E_w90 hn276 hl276 hv276 hc hn290 hl290 hv290
theorem own_21 (x : Int32) : ((x &&& (2147483647 : Int32)) % (21 : Int32)) = 0 ∨ ((x &&& (2147483647 : Int32)) % (21 : Int32)) = 1 ∨ ((x &&& (2147483647 : Int32)) % (21 : Int32)) = 2 ∨ ((x &&& (2147483647 : Int32)) % (21 : Int32)) = 3 ∨ ((x &&& (2147483647 : Int32)) % (21 : Int32)) = 4 ∨ ((x &&& (2147483647 : Int32)) % (21 : Int32)) = 5 ∨ ((x &&& (2147483647 : Int32)) % (21 : Int32)) = 6 ∨ ((x &&& (2147483647 : Int32)) % (21 : Int32)) = 7 ∨ ((x &&& (2147483647 : Int32)) % (21 : Int32)) = 8 ∨ ((x &&& (2147483647 : Int32)) % (21 : Int32)) = 9 ∨ ((x &&& (2147483647 : Int32)) % (21 : Int32)) = 10 ∨ ((x &&& (2147483647 : Int32)) % (21 : Int32)) = 11 ∨ ((x &&& (2147483647 : Int32)) % (21 : Int32)) = 12 ∨ ((x &&& (2147483647 : Int32)) % (21 : Int32)) = 13 ∨ ((x &&& (2147483647 : Int32)) % (21 : Int32)) = 14 ∨ ((x &&& (2147483647 : Int32)) % (21 : Int32)) = 15 ∨ ((x &&& (2147483647 : Int32)) % (21 : Int32)) = 16 ∨ ((x &&& (2147483647 : Int32)) % (21 : Int32)) = 17 ∨ ((x &&& (2147483647 : Int32)) % (21 : Int32)) = 18 ∨ ((x &&& (2147483647 : Int32)) % (21 : Int32)) = 19 ∨ ((x &&& (2147483647 : Int32)) % (21 : Int32)) = 20 := by
  have h := own_rem x 21 21 rfl
  generalize ((x &&& (2147483647 : Int32)) % (21 : Int32)) = y at h
  have : y.toInt = 0 ∨ y.toInt = 1 ∨ y.toInt = 2 ∨ y.toInt = 3 ∨ y.toInt = 4 ∨ y.toInt = 5 ∨ y.toInt = 6 ∨ y.toInt = 7 ∨ y.toInt = 8 ∨ y.toInt = 9 ∨ y.toInt = 10 ∨ y.toInt = 11 ∨ y.toInt = 12 ∨ y.toInt = 13 ∨ y.toInt = 14 ∨ y.toInt = 15 ∨ y.toInt = 16 ∨ y.toInt = 17 ∨ y.toInt = 18 ∨ y.toInt = 19 ∨ y.toInt = 20 := by omega
  rcases this with q | q | q | q | q | q | q | q | q | q | q | q | q | q | q | q | q | q | q | q | q
  · exact Or.inl (own_i32 q)
  · exact Or.inr (Or.inl (own_i32 q))
  · exact Or.inr (Or.inr (Or.inl (own_i32 q)))
  · exact Or.inr (Or.inr (Or.inr (Or.inl (own_i32 q))))
  · exact Or.inr (Or.inr (Or.inr (Or.inr (Or.inl (own_i32 q)))))
  · exact Or.inr (Or.inr (Or.inr (Or.inr (Or.inr (Or.inl (own_i32 q))))))
  · exact Or.inr (Or.inr (Or.inr (Or.inr (Or.inr (Or.inr (Or.inl (own_i32 q)))))))
  · exact Or.inr (Or.inr (Or.inr (Or.inr (Or.inr (Or.inr (Or.inr (Or.inl (own_i32 q))))))))
  · exact Or.inr (Or.inr (Or.inr (Or.inr (Or.inr (Or.inr (Or.inr (Or.inr (Or.inl (own_i32 q)))))))))
  · exact Or.inr (Or.inr (Or.inr (Or.inr (Or.inr (Or.inr (Or.inr (Or.inr (Or.inr (Or.inl (own_i32 q))))))))))
  · exact Or.inr (Or.inr (Or.inr (Or.inr (Or.inr (Or.inr (Or.inr (Or.inr (Or.inr (Or.inr (Or.inl (own_i32 q)))))))))))
  · exact Or.inr (Or.inr (Or.inr (Or.inr (Or.inr (Or.inr (Or.inr (Or.inr (Or.inr (Or.inr (Or.inr (Or.inl (own_i32 q))))))))))))
  · exact Or.inr (Or.inr (Or.inr (Or.inr (Or.inr (Or.inr (Or.inr (Or.inr (Or.inr (Or.inr (Or.inr (Or.inr (Or.inl (own_i32 q)))))))))))))
  · exact Or.inr (Or.inr (Or.inr (Or.inr (Or.inr (Or.inr (Or.inr (Or.inr (Or.inr (Or.inr (Or.inr (Or.inr (Or.inr (Or.inl (own_i32 q))))))))))))))
  · exact Or.inr (Or.inr (Or.inr (Or.inr (Or.inr (Or.inr (Or.inr (Or.inr (Or.inr (Or.inr (Or.inr (Or.inr (Or.inr (Or.inr (Or.inl (own_i32 q)))))))))))))))
  · exact Or.inr (Or.inr (Or.inr (Or.inr (Or.inr (Or.inr (Or.inr (Or.inr (Or.inr (Or.inr (Or.inr (Or.inr (Or.inr (Or.inr (Or.inr (Or.inl (own_i32 q))))))))))))))))
  · exact Or.inr (Or.inr (Or.inr (Or.inr (Or.inr (Or.inr (Or.inr (Or.inr (Or.inr (Or.inr (Or.inr (Or.inr (Or.inr (Or.inr (Or.inr (Or.inr (Or.inl (own_i32 q)))))))))))))))))
  · exact Or.inr (Or.inr (Or.inr (Or.inr (Or.inr (Or.inr (Or.inr (Or.inr (Or.inr (Or.inr (Or.inr (Or.inr (Or.inr (Or.inr (Or.inr (Or.inr (Or.inr (Or.inl (own_i32 q))))))))))))))))))
  · exact Or.inr (Or.inr (Or.inr (Or.inr (Or.inr (Or.inr (Or.inr (Or.inr (Or.inr (Or.inr (Or.inr (Or.inr (Or.inr (Or.inr (Or.inr (Or.inr (Or.inr (Or.inr (Or.inl (own_i32 q)))))))))))))))))))
  · exact Or.inr (Or.inr (Or.inr (Or.inr (Or.inr (Or.inr (Or.inr (Or.inr (Or.inr (Or.inr (Or.inr (Or.inr (Or.inr (Or.inr (Or.inr (Or.inr (Or.inr (Or.inr (Or.inr (Or.inl (own_i32 q))))))))))))))))))))
  · exact Or.inr (Or.inr (Or.inr (Or.inr (Or.inr (Or.inr (Or.inr (Or.inr (Or.inr (Or.inr (Or.inr (Or.inr (Or.inr (Or.inr (Or.inr (Or.inr (Or.inr (Or.inr (Or.inr (Or.inr (own_i32 q))))))))))))))))))))
set_option maxRecDepth 65536 in
set_option maxHeartbeats 40000000 in
theorem comes_1 {Post : Tables → Env → Array Value → State → Outcome → State → Prop} (hpost : ∀ tb e args s v u, (limb_1_1.after args s (.returned v) u = true ∧ limb_1_2.after args s (.returned v) u = true ∧ True) → FrameEnd s (.returned v) u (Jvm.fieldLocs frame_1_writes args s ++ Jvm.arrayLocs frame_1_arrays args s ++ Jvm.staticLocs frame_1_statics s) 16 192 → Post tb e args s (.returned v) u) :
    ArmFor flags0 classFile x code maxLocals ret World_1 tables_1 room_1 Calls_1 rest_1 Pre_1 Post := by
  intro l hfl _ _ p e ha hc hk s m args below hf hA hF happ hP
  obtain ⟨hcalls, hrest, hpre⟩ := hP
  obtain ⟨-, -, -, hnamed, -, -, -, hat⟩ := (Spec.applies_iff hf).mp happ
  obtain ⟨hg, hn⟩ := and_e (Cond.before_iff.mp (show (Jvm.Cond.and given_1 narrow_1).before args s = true from hpre))
  obtain ⟨g92, g93⟩ := and_e hg
  obtain ⟨g94, g95⟩ := and_e g93
  obtain ⟨w0, w1, rfl⟩ : ∃ w0 w1 : Value, args = #[w0, w1] := by
    have hs : args.size = 2 := by simpa [Cond.value, given_1] using g92
    obtain ⟨L⟩ := args
    match L, hs with
    | [w0, w1], _ => exact ⟨w0, w1, rfl⟩
  have hw := fun d (hd : d ∈ tables_1) => atoms_spec (ws := Jvm.Cond.code x code maxLocals ret :: tables_1) hat d (List.mem_cons_of_mem _ hd)
  have hfit : Fit s := fun {y c} hc i hi => by
    obtain ⟨ha, rfl⟩ := Array.getElem?_eq_some_iff.mp hc
    have q := List.all_eq_true.mp ((Array.all_eq_true_iff_forall_mem.mp hF) _ (Array.getElem_mem ha)) i (List.mem_range.mpr hi)
    simpa [Array.getElem?_eq_getElem hi] using q
  obtain ⟨i0, ei0⟩ := is_v g94
  obtain rfl : w0 = (.int i0) := Option.some.inj ei0
  obtain ⟨i1, ei1⟩ := is_v g95
  obtain rfl : w1 = (.int i1) := Option.some.inj ei1
  obtain ⟨n1, hn⟩ := and_e hn
  obtain ⟨n2, hn⟩ := and_e hn
  obtain ⟨n3, hn⟩ := and_e hn
  obtain ⟨n4, hn⟩ := and_e hn
  obtain ⟨n5, hn⟩ := and_e hn
  obtain ⟨n6, hn⟩ := and_e hn
  obtain ⟨n7, hn⟩ := and_e hn
  obtain ⟨n8, hn⟩ := and_e hn
  obtain ⟨n9, hn⟩ := and_e hn
  obtain ⟨n10, hn⟩ := and_e hn
  obtain ⟨n11, hn⟩ := and_e hn
  obtain ⟨n12, hn⟩ := and_e hn
  obtain ⟨n13, hn⟩ := and_e hn
  obtain ⟨n14, hn⟩ := and_e hn
  obtain ⟨n15, hn⟩ := and_e hn
  obtain ⟨n16, hn⟩ := and_e hn
  obtain ⟨n17, hn⟩ := and_e hn
  obtain ⟨n18, hn⟩ := and_e hn
  obtain ⟨n19, hn⟩ := and_e hn
  obtain ⟨n20, hn⟩ := and_e hn
  obtain ⟨n21, hn⟩ := and_e hn
  obtain ⟨n22, hn⟩ := and_e hn
  obtain ⟨n23, hn⟩ := and_e hn
  obtain ⟨n24, hn⟩ := and_e hn
  obtain ⟨n25, hn⟩ := and_e hn
  obtain ⟨n26, hn⟩ := and_e hn
  obtain ⟨n27, hn⟩ := and_e hn
  obtain ⟨n28, hn⟩ := and_e hn
  obtain ⟨n29, hn⟩ := and_e hn
  obtain ⟨n30, hn⟩ := and_e hn
  obtain ⟨n31, hn⟩ := and_e hn
  obtain ⟨n32, hn⟩ := and_e hn
  obtain ⟨n33, hn⟩ := and_e hn
  obtain ⟨n34, hn⟩ := and_e hn
  obtain ⟨n35, hn⟩ := and_e hn
  obtain ⟨n36, hn⟩ := and_e hn
  obtain ⟨n37, hn⟩ := and_e hn
  obtain ⟨n38, hn⟩ := and_e hn
  obtain ⟨n39, hn⟩ := and_e hn
  obtain ⟨n40, hn⟩ := and_e hn
  obtain ⟨n41, n42⟩ := and_e hn
  obtain ⟨a_PRODUCE, v_PRODUCE, S_PRODUCE, E_PRODUCE⟩ := own_st n1 (hw _ (List.mem_of_getElem? (i := 3) rfl)) (hw _ (List.mem_of_getElem? (i := 4) rfl))
  obtain ⟨a_FETCH, v_FETCH, S_FETCH, E_FETCH⟩ := own_st n2 (hw _ (List.mem_of_getElem? (i := 3) rfl)) (hw _ (List.mem_of_getElem? (i := 7) rfl))
  obtain ⟨a_LIST_OFFSETS, v_LIST_OFFSETS, S_LIST_OFFSETS, E_LIST_OFFSETS⟩ := own_st n3 (hw _ (List.mem_of_getElem? (i := 3) rfl)) (hw _ (List.mem_of_getElem? (i := 9) rfl))
  obtain ⟨a_METADATA, v_METADATA, S_METADATA, E_METADATA⟩ := own_st n4 (hw _ (List.mem_of_getElem? (i := 3) rfl)) (hw _ (List.mem_of_getElem? (i := 11) rfl))
  obtain ⟨a_OFFSET_COMMIT, v_OFFSET_COMMIT, S_OFFSET_COMMIT, E_OFFSET_COMMIT⟩ := own_st n5 (hw _ (List.mem_of_getElem? (i := 3) rfl)) (hw _ (List.mem_of_getElem? (i := 13) rfl))
  obtain ⟨a_OFFSET_FETCH, v_OFFSET_FETCH, S_OFFSET_FETCH, E_OFFSET_FETCH⟩ := own_st n6 (hw _ (List.mem_of_getElem? (i := 3) rfl)) (hw _ (List.mem_of_getElem? (i := 15) rfl))
  obtain ⟨a_FIND_COORDINATOR, v_FIND_COORDINATOR, S_FIND_COORDINATOR, E_FIND_COORDINATOR⟩ := own_st n7 (hw _ (List.mem_of_getElem? (i := 3) rfl)) (hw _ (List.mem_of_getElem? (i := 17) rfl))
  obtain ⟨a_JOIN_GROUP, v_JOIN_GROUP, S_JOIN_GROUP, E_JOIN_GROUP⟩ := own_st n8 (hw _ (List.mem_of_getElem? (i := 3) rfl)) (hw _ (List.mem_of_getElem? (i := 19) rfl))
  obtain ⟨a_HEARTBEAT, v_HEARTBEAT, S_HEARTBEAT, E_HEARTBEAT⟩ := own_st n9 (hw _ (List.mem_of_getElem? (i := 3) rfl)) (hw _ (List.mem_of_getElem? (i := 21) rfl))
  obtain ⟨a_LEAVE_GROUP, v_LEAVE_GROUP, S_LEAVE_GROUP, E_LEAVE_GROUP⟩ := own_st n10 (hw _ (List.mem_of_getElem? (i := 3) rfl)) (hw _ (List.mem_of_getElem? (i := 23) rfl))
  obtain ⟨a_SYNC_GROUP, v_SYNC_GROUP, S_SYNC_GROUP, E_SYNC_GROUP⟩ := own_st n11 (hw _ (List.mem_of_getElem? (i := 3) rfl)) (hw _ (List.mem_of_getElem? (i := 25) rfl))
  obtain ⟨a_DESCRIBE_GROUPS, v_DESCRIBE_GROUPS, S_DESCRIBE_GROUPS, E_DESCRIBE_GROUPS⟩ := own_st n12 (hw _ (List.mem_of_getElem? (i := 3) rfl)) (hw _ (List.mem_of_getElem? (i := 27) rfl))
  obtain ⟨a_LIST_GROUPS, v_LIST_GROUPS, S_LIST_GROUPS, E_LIST_GROUPS⟩ := own_st n13 (hw _ (List.mem_of_getElem? (i := 3) rfl)) (hw _ (List.mem_of_getElem? (i := 29) rfl))
  obtain ⟨a_API_VERSIONS, v_API_VERSIONS, S_API_VERSIONS, E_API_VERSIONS⟩ := own_st n14 (hw _ (List.mem_of_getElem? (i := 3) rfl)) (hw _ (List.mem_of_getElem? (i := 31) rfl))
  obtain ⟨a_CREATE_TOPICS, v_CREATE_TOPICS, S_CREATE_TOPICS, E_CREATE_TOPICS⟩ := own_st n15 (hw _ (List.mem_of_getElem? (i := 3) rfl)) (hw _ (List.mem_of_getElem? (i := 33) rfl))
  obtain ⟨a_DELETE_TOPICS, v_DELETE_TOPICS, S_DELETE_TOPICS, E_DELETE_TOPICS⟩ := own_st n16 (hw _ (List.mem_of_getElem? (i := 3) rfl)) (hw _ (List.mem_of_getElem? (i := 35) rfl))
  obtain ⟨a_INIT_PRODUCER_ID, v_INIT_PRODUCER_ID, S_INIT_PRODUCER_ID, E_INIT_PRODUCER_ID⟩ := own_st n17 (hw _ (List.mem_of_getElem? (i := 3) rfl)) (hw _ (List.mem_of_getElem? (i := 37) rfl))
  obtain ⟨a_DESCRIBE_CONFIGS, v_DESCRIBE_CONFIGS, S_DESCRIBE_CONFIGS, E_DESCRIBE_CONFIGS⟩ := own_st n18 (hw _ (List.mem_of_getElem? (i := 3) rfl)) (hw _ (List.mem_of_getElem? (i := 39) rfl))
  obtain ⟨a_ALTER_CONFIGS, v_ALTER_CONFIGS, S_ALTER_CONFIGS, E_ALTER_CONFIGS⟩ := own_st n19 (hw _ (List.mem_of_getElem? (i := 3) rfl)) (hw _ (List.mem_of_getElem? (i := 41) rfl))
  obtain ⟨a_CREATE_PARTITIONS, v_CREATE_PARTITIONS, S_CREATE_PARTITIONS, E_CREATE_PARTITIONS⟩ := own_st n20 (hw _ (List.mem_of_getElem? (i := 3) rfl)) (hw _ (List.mem_of_getElem? (i := 43) rfl))
  obtain ⟨a_INCREMENTAL_ALTER_CONFIGS, v_INCREMENTAL_ALTER_CONFIGS, S_INCREMENTAL_ALTER_CONFIGS, E_INCREMENTAL_ALTER_CONFIGS⟩ := own_st n21 (hw _ (List.mem_of_getElem? (i := 3) rfl)) (hw _ (List.mem_of_getElem? (i := 45) rfl))
  have F_PRODUCE := own_fld v_PRODUCE n22
  have F_CREATE_TOPICS := own_fld v_CREATE_TOPICS n23
  have F_METADATA := own_fld v_METADATA n24
  have F_HEARTBEAT := own_fld v_HEARTBEAT n25
  have F_OFFSET_COMMIT := own_fld v_OFFSET_COMMIT n26
  have F_FIND_COORDINATOR := own_fld v_FIND_COORDINATOR n27
  have F_LIST_GROUPS := own_fld v_LIST_GROUPS n28
  have F_ALTER_CONFIGS := own_fld v_ALTER_CONFIGS n29
  have F_FETCH := own_fld v_FETCH n30
  have F_DELETE_TOPICS := own_fld v_DELETE_TOPICS n31
  have F_LIST_OFFSETS := own_fld v_LIST_OFFSETS n32
  have F_CREATE_PARTITIONS := own_fld v_CREATE_PARTITIONS n33
  have F_SYNC_GROUP := own_fld v_SYNC_GROUP n34
  have F_INCREMENTAL_ALTER_CONFIGS := own_fld v_INCREMENTAL_ALTER_CONFIGS n35
  have F_DESCRIBE_GROUPS := own_fld v_DESCRIBE_GROUPS n36
  have F_JOIN_GROUP := own_fld v_JOIN_GROUP n37
  have F_OFFSET_FETCH := own_fld v_OFFSET_FETCH n38
  have F_LEAVE_GROUP := own_fld v_LEAVE_GROUP n39
  have F_INIT_PRODUCER_ID := own_fld v_INIT_PRODUCER_ID n40
  have F_DESCRIBE_CONFIGS := own_fld v_DESCRIBE_CONFIGS n41
  have F_API_VERSIONS := own_fld v_API_VERSIONS n42
  obtain ⟨b, t, E, F, hn1, hl1, hv1, hv2⟩ : ∃ (b : Addr) (t : Int32), Exa s s.heap b "com/example/wyrd/wyrd/protocol/ApiKey" ∧ Fld s s.heap b "com/example/wyrd/wyrd/protocol/ApiKey" "firstFlexibleVersion" "S" (.int t) ∧ (¬ (((i0 &&& (2147483647 : Int32)) % (21 : Int32)) < 0)) ∧ (((i0 &&& (2147483647 : Int32)) % (21 : Int32)) < 21) ∧ ([(.int (9 : Int32)), (.int (12 : Int32)), (.int (6 : Int32)), (.int (9 : Int32)), (.int (8 : Int32)), (.int (6 : Int32)), (.int (3 : Int32)), (.int (6 : Int32)), (.int (4 : Int32)), (.int (4 : Int32)), (.int (4 : Int32)), (.int (5 : Int32)), (.int (3 : Int32)), (.int (3 : Int32)), (.int (5 : Int32)), (.int (4 : Int32)), (.int (2 : Int32)), (.int (4 : Int32)), (.int (2 : Int32)), (.int (2 : Int32)), (.int (1 : Int32))] : List Value).getD ((i0 &&& (2147483647 : Int32)) % (21 : Int32)).toNatClampNeg (.int (0 : Int32)) = .int t ∧ ([(.ref a_PRODUCE), (.ref a_FETCH), (.ref a_LIST_OFFSETS), (.ref a_METADATA), (.ref a_OFFSET_COMMIT), (.ref a_OFFSET_FETCH), (.ref a_FIND_COORDINATOR), (.ref a_JOIN_GROUP), (.ref a_HEARTBEAT), (.ref a_LEAVE_GROUP), (.ref a_SYNC_GROUP), (.ref a_DESCRIBE_GROUPS), (.ref a_LIST_GROUPS), (.ref a_API_VERSIONS), (.ref a_CREATE_TOPICS), (.ref a_DELETE_TOPICS), (.ref a_INIT_PRODUCER_ID), (.ref a_DESCRIBE_CONFIGS), (.ref a_ALTER_CONFIGS), (.ref a_CREATE_PARTITIONS), (.ref a_INCREMENTAL_ALTER_CONFIGS)] : List Value).getD ((i0 &&& (2147483647 : Int32)) % (21 : Int32)).toNatClampNeg .null = .ref b := by
    rcases own_21 i0 with k | k | k | k | k | k | k | k | k | k | k | k | k | k | k | k | k | k | k | k | k
    · exact ⟨a_PRODUCE, 9, E_PRODUCE, F_PRODUCE, by rw [k]; decide, by rw [k]; decide, by rw [k]; rfl, by rw [k]; rfl⟩
    · exact ⟨a_FETCH, 12, E_FETCH, F_FETCH, by rw [k]; decide, by rw [k]; decide, by rw [k]; rfl, by rw [k]; rfl⟩
    · exact ⟨a_LIST_OFFSETS, 6, E_LIST_OFFSETS, F_LIST_OFFSETS, by rw [k]; decide, by rw [k]; decide, by rw [k]; rfl, by rw [k]; rfl⟩
    · exact ⟨a_METADATA, 9, E_METADATA, F_METADATA, by rw [k]; decide, by rw [k]; decide, by rw [k]; rfl, by rw [k]; rfl⟩
    · exact ⟨a_OFFSET_COMMIT, 8, E_OFFSET_COMMIT, F_OFFSET_COMMIT, by rw [k]; decide, by rw [k]; decide, by rw [k]; rfl, by rw [k]; rfl⟩
    · exact ⟨a_OFFSET_FETCH, 6, E_OFFSET_FETCH, F_OFFSET_FETCH, by rw [k]; decide, by rw [k]; decide, by rw [k]; rfl, by rw [k]; rfl⟩
    · exact ⟨a_FIND_COORDINATOR, 3, E_FIND_COORDINATOR, F_FIND_COORDINATOR, by rw [k]; decide, by rw [k]; decide, by rw [k]; rfl, by rw [k]; rfl⟩
    · exact ⟨a_JOIN_GROUP, 6, E_JOIN_GROUP, F_JOIN_GROUP, by rw [k]; decide, by rw [k]; decide, by rw [k]; rfl, by rw [k]; rfl⟩
    · exact ⟨a_HEARTBEAT, 4, E_HEARTBEAT, F_HEARTBEAT, by rw [k]; decide, by rw [k]; decide, by rw [k]; rfl, by rw [k]; rfl⟩
    · exact ⟨a_LEAVE_GROUP, 4, E_LEAVE_GROUP, F_LEAVE_GROUP, by rw [k]; decide, by rw [k]; decide, by rw [k]; rfl, by rw [k]; rfl⟩
    · exact ⟨a_SYNC_GROUP, 4, E_SYNC_GROUP, F_SYNC_GROUP, by rw [k]; decide, by rw [k]; decide, by rw [k]; rfl, by rw [k]; rfl⟩
    · exact ⟨a_DESCRIBE_GROUPS, 5, E_DESCRIBE_GROUPS, F_DESCRIBE_GROUPS, by rw [k]; decide, by rw [k]; decide, by rw [k]; rfl, by rw [k]; rfl⟩
    · exact ⟨a_LIST_GROUPS, 3, E_LIST_GROUPS, F_LIST_GROUPS, by rw [k]; decide, by rw [k]; decide, by rw [k]; rfl, by rw [k]; rfl⟩
    · exact ⟨a_API_VERSIONS, 3, E_API_VERSIONS, F_API_VERSIONS, by rw [k]; decide, by rw [k]; decide, by rw [k]; rfl, by rw [k]; rfl⟩
    · exact ⟨a_CREATE_TOPICS, 5, E_CREATE_TOPICS, F_CREATE_TOPICS, by rw [k]; decide, by rw [k]; decide, by rw [k]; rfl, by rw [k]; rfl⟩
    · exact ⟨a_DELETE_TOPICS, 4, E_DELETE_TOPICS, F_DELETE_TOPICS, by rw [k]; decide, by rw [k]; decide, by rw [k]; rfl, by rw [k]; rfl⟩
    · exact ⟨a_INIT_PRODUCER_ID, 2, E_INIT_PRODUCER_ID, F_INIT_PRODUCER_ID, by rw [k]; decide, by rw [k]; decide, by rw [k]; rfl, by rw [k]; rfl⟩
    · exact ⟨a_DESCRIBE_CONFIGS, 4, E_DESCRIBE_CONFIGS, F_DESCRIBE_CONFIGS, by rw [k]; decide, by rw [k]; decide, by rw [k]; rfl, by rw [k]; rfl⟩
    · exact ⟨a_ALTER_CONFIGS, 2, E_ALTER_CONFIGS, F_ALTER_CONFIGS, by rw [k]; decide, by rw [k]; decide, by rw [k]; rfl, by rw [k]; rfl⟩
    · exact ⟨a_CREATE_PARTITIONS, 2, E_CREATE_PARTITIONS, F_CREATE_PARTITIONS, by rw [k]; decide, by rw [k]; decide, by rw [k]; rfl, by rw [k]; rfl⟩
    · exact ⟨a_INCREMENTAL_ALTER_CONFIGS, 1, E_INCREMENTAL_ALTER_CONFIGS, F_INCREMENTAL_ALTER_CONFIGS, by rw [k]; decide, by rw [k]; decide, by rw [k]; rfl, by rw [k]; rfl⟩
  obtain ⟨n, o, h1, h2, h3, _, L, rfl, ⟨rfl, N⟩, hq⟩ := rm0 l s _ hw tables_1 i0 i1 a_PRODUCE a_FETCH a_LIST_OFFSETS a_METADATA a_OFFSET_COMMIT a_OFFSET_FETCH a_FIND_COORDINATOR a_JOIN_GROUP a_HEARTBEAT a_LEAVE_GROUP a_SYNC_GROUP a_DESCRIBE_GROUPS a_LIST_GROUPS a_API_VERSIONS a_CREATE_TOPICS a_DELETE_TOPICS a_INIT_PRODUCER_ID a_DESCRIBE_CONFIGS a_ALTER_CONFIGS a_CREATE_PARTITIONS a_INCREMENTAL_ALTER_CONFIGS t b s.heap s.heap.size (Nat.le_refl _) F S_PRODUCE E_PRODUCE S_FETCH E_FETCH S_LIST_OFFSETS E_LIST_OFFSETS S_METADATA E_METADATA S_OFFSET_COMMIT E_OFFSET_COMMIT S_OFFSET_FETCH E_OFFSET_FETCH S_FIND_COORDINATOR E_FIND_COORDINATOR S_JOIN_GROUP E_JOIN_GROUP S_HEARTBEAT E_HEARTBEAT S_LEAVE_GROUP E_LEAVE_GROUP S_SYNC_GROUP E_SYNC_GROUP S_DESCRIBE_GROUPS E_DESCRIBE_GROUPS S_LIST_GROUPS E_LIST_GROUPS S_API_VERSIONS E_API_VERSIONS S_CREATE_TOPICS E_CREATE_TOPICS S_DELETE_TOPICS E_DELETE_TOPICS S_INIT_PRODUCER_ID E_INIT_PRODUCER_ID S_DESCRIBE_CONFIGS E_DESCRIBE_CONFIGS S_ALTER_CONFIGS E_ALTER_CONFIGS S_CREATE_PARTITIONS E_CREATE_PARTITIONS S_INCREMENTAL_ALTER_CONFIGS E_INCREMENTAL_ALTER_CONFIGS E hn1 hl1 hv1 hn1 hl1 hv2 p e ha hc hk s m _ below hf ((Spec.applies_iff_loose hf).mp happ).1 ⟨rfl, State.Warmed39.refl s, rfl⟩ trivial
  refine ⟨n, _, h1, h2, h3, hpost _ _ _ _ _ _ ⟨Cond.after_iff.mpr rfl, Cond.after_iff.mpr (eq_i res_at (Term.int_eval (1)) rfl), trivial⟩ ⟨hq.1, hq.2.1, (hq.2.2.sift fun y hy => Or.inr (N y hy)).mono (by decide) (by decide)⟩⟩
theorem main_1_1 : Claimed_1_1 := comes_1 fun _ _ _ _ _ _ h hF => ⟨h.1, hF⟩
theorem main_1_2 : Claimed_1_2 := comes_1 fun _ _ _ _ _ _ h hF => ⟨h.2.1, hF⟩
end Jvm.Pilot.@@N@@
namespace Jvm.Pilot.@@N@@
open Jvm Jvm.ClassFile Sem Op Lib Jvm.Free Jvm.Stand Jvm.Pilot.@@N@@.Jvm.D
/-! MADE BY PROGRAM (witnessworld.py) out of the Statement's table words and the real class files: 13 classes; the members and pool entries that the words name. The judged class is class 1, her method 1. -/
namespace start1
open Jvm.ClassFile
def u (s : String) : CpInfo := .utf8 (stringToUtf16 s)
/-- a pool by its gaps: so many unusable entries, then the entry; so many at the end -/
def gap : Nat → List CpInfo → List CpInfo
  | 0, r => r
  | n + 1, r => .unusable :: gap n r
def poolList (es : List (Nat × CpInfo)) (last : Nat) : List CpInfo := es.foldr (fun e r => gap e.1 (e.2 :: r)) (gap last [])
def pool (es : List (Nat × CpInfo)) (last : Nat) : Array CpInfo := ⟨poolList es last⟩
def fileOf (pool : Array CpInfo) (this : Nat) (attrs : Array Attribute := #[]) (ms : Array MethodInfo := #[]) (fl : Nat := 33) (sup : Nat := 0) (ifs : Array Nat := #[]) (fds : Array FieldInfo := #[]) : ClassFile where
  minorVersion := 0
  majorVersion := 65
  constantPool := pool
  accessFlags := fl
  thisClass := this
  superClass := sup
  interfaces := ifs
  fields := fds
  methods := ms
  attributes := attrs
def plain (name : String) (sup : Option ClassId) : Class where
  name := name
  kind := .ordinary
  loader := none
  accessFlags := 33
  super := sup
  interfaces := #[]
  cf := none
  fields := #[]
  methods := #[]
  instanceTypes := #[]
  staticTypes := #[]
  resolved := #[]
  callSites := []
  init := .initialized
  statics := none
  mirror := none

def pool0 : Array CpInfo := pool [(5, u "<init>"), (0, u "()V"), (1, .class_ 10), (1, u "java/lang/Object")] 113

def k0m0 : Method := { name := "<init>", desc := "()V", sig := { parameters := [], returnType := none }, accessFlags := 1, code := none }
/-- java/lang/Object -/
def k0 : Class := { plain "java/lang/Object" none with
  accessFlags := 33
  interfaces := #[]
  cf := some (fileOf pool0 8 #[] #[{ accessFlags := 1, nameIndex := 5, descriptorIndex := 6, attributes := #[] }] 33 0 #[] #[])
  fields := #[]
  methods := #[k0m0]
  instanceTypes := #[]
  staticTypes := #[]
  resolved := Array.replicate 124 none
  statics := none }

def pool1 : Array CpInfo := pool [(2, .class_ 4), (1, u "java/lang/Object"), (0, u "<init>"), (0, u "()V"), (0, .class_ 8), (0, u "com/example/wyrd/wyrd/protocol/ApiKey"), (0, .fieldref 7 10), (0, .nameAndType 11 12), (0, u "PRODUCE"), (0, u "Lcom/example/wyrd/wyrd/protocol/ApiKey;"), (0, .fieldref 7 14), (0, .nameAndType 15 12), (0, u "FETCH"), (0, .fieldref 7 17), (0, .nameAndType 18 12), (0, u "LIST_OFFSETS"), (0, .fieldref 7 20), (0, .nameAndType 21 12), (0, u "METADATA"), (0, .fieldref 7 23), (0, .nameAndType 24 12), (0, u "OFFSET_COMMIT"), (0, .fieldref 7 26), (0, .nameAndType 27 12), (0, u "OFFSET_FETCH"), (0, .fieldref 7 29), (0, .nameAndType 30 12), (0, u "FIND_COORDINATOR"), (0, .fieldref 7 32), (0, .nameAndType 33 12), (0, u "JOIN_GROUP"), (0, .fieldref 7 35), (0, .nameAndType 36 12), (0, u "HEARTBEAT"), (0, .fieldref 7 38), (0, .nameAndType 39 12), (0, u "LEAVE_GROUP"), (0, .fieldref 7 41), (0, .nameAndType 42 12), (0, u "SYNC_GROUP"), (0, .fieldref 7 44), (0, .nameAndType 45 12), (0, u "DESCRIBE_GROUPS"), (0, .fieldref 7 47), (0, .nameAndType 48 12), (0, u "LIST_GROUPS"), (0, .fieldref 7 50), (0, .nameAndType 51 12), (0, u "API_VERSIONS"), (0, .fieldref 7 53), (0, .nameAndType 54 12), (0, u "CREATE_TOPICS"), (0, .fieldref 7 56), (0, .nameAndType 57 12), (0, u "DELETE_TOPICS"), (0, .fieldref 7 59), (0, .nameAndType 60 12), (0, u "INIT_PRODUCER_ID"), (0, .fieldref 7 62), (0, .nameAndType 63 12), (0, u "DESCRIBE_CONFIGS"), (0, .fieldref 7 65), (0, .nameAndType 66 12), (0, u "ALTER_CONFIGS"), (0, .fieldref 7 68), (0, .nameAndType 69 12), (0, u "CREATE_PARTITIONS"), (0, .fieldref 7 71), (0, .nameAndType 72 12), (0, u "INCREMENTAL_ALTER_CONFIGS"), (0, .integer 2147483647), (0, .methodref 7 75), (0, .nameAndType 76 77), (0, u "isFlexible"), (0, u "(S)Z"), (0, .class_ 79), (0, u "com/example/wyrd/wyrd/protocol/ApiKeyIsFlexiblePinLaw"), (2, u "law"), (0, u "(II)Z")] 7

def k1m0 : Method := { name := "<init>", desc := "()V", sig := { parameters := [], returnType := none }, accessFlags := 1, code := none }
def k1c1 : Code := { maxStack := 4, maxLocals := 7, code := code, exceptionTable := #[], attributes := #[] }
def k1m1 : Method := { name := "law", desc := "(II)Z", sig := { parameters := [.int, .int], returnType := some .boolean }, accessFlags := 9, code := some k1c1 }
/-- com/example/wyrd/wyrd/protocol/ApiKeyIsFlexiblePinLaw -/
def k1 : Class := { plain "com/example/wyrd/wyrd/protocol/ApiKeyIsFlexiblePinLaw" (some 0) with
  accessFlags := 49
  interfaces := #[]
  cf := some (fileOf pool1 78 #[] #[{ accessFlags := 1, nameIndex := 5, descriptorIndex := 6, attributes := #[] }, { accessFlags := 9, nameIndex := 82, descriptorIndex := 83, attributes := #[] }] 49 2 #[] #[])
  fields := #[]
  methods := #[k1m0, k1m1]
  instanceTypes := #[]
  staticTypes := #[]
  resolved := Array.replicate 91 none
  statics := none }

def pool2 : Array CpInfo := pool [(1, .class_ 2), (0, u "java/lang/constant/Constable"), (0, .class_ 4), (0, u "java/lang/Object")] 6

/-- java/lang/constant/Constable -/
def k2 : Class := { plain "java/lang/constant/Constable" (some 0) with
  accessFlags := 1537
  interfaces := #[]
  cf := some (fileOf pool2 1 #[] #[] 1537 3 #[] #[])
  fields := #[]
  methods := #[]
  instanceTypes := #[]
  staticTypes := #[]
  resolved := Array.replicate 11 none
  statics := none }

def pool3 : Array CpInfo := pool [(1, .class_ 2), (0, u "java/lang/Comparable"), (0, .class_ 4), (0, u "java/lang/Object")] 7

/-- java/lang/Comparable -/
def k3 : Class := { plain "java/lang/Comparable" (some 0) with
  accessFlags := 1537
  interfaces := #[]
  cf := some (fileOf pool3 1 #[] #[] 1537 3 #[] #[])
  fields := #[]
  methods := #[]
  instanceTypes := #[]
  staticTypes := #[]
  resolved := Array.replicate 12 none
  statics := none }

def pool4 : Array CpInfo := pool [(1, .class_ 2), (0, u "java/io/Serializable"), (0, .class_ 4), (0, u "java/lang/Object")] 2

/-- java/io/Serializable -/
def k4 : Class := { plain "java/io/Serializable" (some 0) with
  accessFlags := 1537
  interfaces := #[]
  cf := some (fileOf pool4 1 #[] #[] 1537 3 #[] #[])
  fields := #[]
  methods := #[]
  instanceTypes := #[]
  staticTypes := #[]
  resolved := Array.replicate 7 none
  statics := none }

def pool5 : Array CpInfo := pool [(2, .class_ 4), (1, u "java/lang/Enum"), (0, u "name"), (0, u "Ljava/lang/String;"), (2, u "ordinal"), (0, u "I"), (1, .class_ 14), (1, u "java/lang/Object"), (4, u "hash"), (86, .class_ 108), (1, u "java/lang/Enum$EnumDesc"), (2, .class_ 112), (0, u "java/lang/constant/Constable"), (0, .class_ 114), (0, u "java/lang/Comparable"), (0, .class_ 116), (0, u "java/io/Serializable")] 87

/-- java/lang/Enum -/
def k5 : Class := { plain "java/lang/Enum" (some 0) with
  accessFlags := 1057
  interfaces := #[2, 3, 4]
  cf := some (fileOf pool5 2 #[.nestMembers #[106]] #[] 1057 12 #[111, 113, 115] #[{ accessFlags := 18, nameIndex := 5, descriptorIndex := 6, attributes := #[] }, { accessFlags := 18, nameIndex := 9, descriptorIndex := 10, attributes := #[] }, { accessFlags := 2, nameIndex := 19, descriptorIndex := 10, attributes := #[] }])
  fields := #[{ name := "name", type := (.object "java/lang/String"), accessFlags := 18, slot := 0, constantValue := 0 }, { name := "ordinal", type := .int, accessFlags := 18, slot := 1, constantValue := 0 }, { name := "hash", type := .int, accessFlags := 2, slot := 2, constantValue := 0 }]
  methods := #[]
  instanceTypes := #[(.object "java/lang/String"), .int, .int]
  staticTypes := #[]
  resolved := Array.replicate 204 none
  statics := none }

def pool6 : Array CpInfo := pool [(1, .class_ 2), (0, u "com/example/wyrd/wyrd/protocol/ApiKey"), (2, u "PRODUCE"), (0, u "Lcom/example/wyrd/wyrd/protocol/ApiKey;"), (2, u "FETCH"), (2, u "LIST_OFFSETS"), (2, u "METADATA"), (2, u "OFFSET_COMMIT"), (2, u "OFFSET_FETCH"), (2, u "FIND_COORDINATOR"), (2, u "JOIN_GROUP"), (2, u "HEARTBEAT"), (2, u "LEAVE_GROUP"), (2, u "SYNC_GROUP"), (2, u "DESCRIBE_GROUPS"), (2, u "LIST_GROUPS"), (2, u "API_VERSIONS"), (2, u "CREATE_TOPICS"), (2, u "DELETE_TOPICS"), (2, u "INIT_PRODUCER_ID"), (2, u "DESCRIBE_CONFIGS"), (2, u "ALTER_CONFIGS"), (2, u "CREATE_PARTITIONS"), (2, u "INCREMENTAL_ALTER_CONFIGS"), (2, u "$VALUES"), (0, u "[Lcom/example/wyrd/wyrd/protocol/ApiKey;"), (6, .class_ 79), (1, u "java/lang/Enum"), (8, u "id"), (0, u "S"), (0, .fieldref 1 91), (0, .nameAndType 92 89), (0, u "firstFlexibleVersion"), (38, u "isFlexible"), (0, u "(S)Z")] 8

def k6c0 : Code := { maxStack := 2, maxLocals := 2, code := prog_51_method_5_code, exceptionTable := #[], attributes := #[] }
def k6m0 : Method := { name := "isFlexible", desc := "(S)Z", sig := { parameters := [.short], returnType := some .boolean }, accessFlags := 1, code := some k6c0 }
/-- com/example/wyrd/wyrd/protocol/ApiKey -/
def k6 : Class := { plain "com/example/wyrd/wyrd/protocol/ApiKey" (some 5) with
  accessFlags := 16433
  interfaces := #[]
  cf := some (fileOf pool6 1 #[] #[{ accessFlags := 1, nameIndex := 131, descriptorIndex := 132, attributes := #[] }] 16433 77 #[] #[{ accessFlags := 16409, nameIndex := 5, descriptorIndex := 6, attributes := #[] }, { accessFlags := 16409, nameIndex := 9, descriptorIndex := 6, attributes := #[] }, { accessFlags := 16409, nameIndex := 12, descriptorIndex := 6, attributes := #[] }, { accessFlags := 16409, nameIndex := 15, descriptorIndex := 6, attributes := #[] }, { accessFlags := 16409, nameIndex := 18, descriptorIndex := 6, attributes := #[] }, { accessFlags := 16409, nameIndex := 21, descriptorIndex := 6, attributes := #[] }, { accessFlags := 16409, nameIndex := 24, descriptorIndex := 6, attributes := #[] }, { accessFlags := 16409, nameIndex := 27, descriptorIndex := 6, attributes := #[] }, { accessFlags := 16409, nameIndex := 30, descriptorIndex := 6, attributes := #[] }, { accessFlags := 16409, nameIndex := 33, descriptorIndex := 6, attributes := #[] }, { accessFlags := 16409, nameIndex := 36, descriptorIndex := 6, attributes := #[] }, { accessFlags := 16409, nameIndex := 39, descriptorIndex := 6, attributes := #[] }, { accessFlags := 16409, nameIndex := 42, descriptorIndex := 6, attributes := #[] }, { accessFlags := 16409, nameIndex := 45, descriptorIndex := 6, attributes := #[] }, { accessFlags := 16409, nameIndex := 48, descriptorIndex := 6, attributes := #[] }, { accessFlags := 16409, nameIndex := 51, descriptorIndex := 6, attributes := #[] }, { accessFlags := 16409, nameIndex := 54, descriptorIndex := 6, attributes := #[] }, { accessFlags := 16409, nameIndex := 57, descriptorIndex := 6, attributes := #[] }, { accessFlags := 16409, nameIndex := 60, descriptorIndex := 6, attributes := #[] }, { accessFlags := 16409, nameIndex := 63, descriptorIndex := 6, attributes := #[] }, { accessFlags := 16409, nameIndex := 66, descriptorIndex := 6, attributes := #[] }, { accessFlags := 18, nameIndex := 88, descriptorIndex := 89, attributes := #[] }, { accessFlags := 18, nameIndex := 92, descriptorIndex := 89, attributes := #[] }, { accessFlags := 4122, nameIndex := 69, descriptorIndex := 70, attributes := #[] }])
  fields := #[{ name := "PRODUCE", type := (.object "com/example/wyrd/wyrd/protocol/ApiKey"), accessFlags := 16409, slot := 0, constantValue := 0 }, { name := "FETCH", type := (.object "com/example/wyrd/wyrd/protocol/ApiKey"), accessFlags := 16409, slot := 1, constantValue := 0 }, { name := "LIST_OFFSETS", type := (.object "com/example/wyrd/wyrd/protocol/ApiKey"), accessFlags := 16409, slot := 2, constantValue := 0 }, { name := "METADATA", type := (.object "com/example/wyrd/wyrd/protocol/ApiKey"), accessFlags := 16409, slot := 3, constantValue := 0 }, { name := "OFFSET_COMMIT", type := (.object "com/example/wyrd/wyrd/protocol/ApiKey"), accessFlags := 16409, slot := 4, constantValue := 0 }, { name := "OFFSET_FETCH", type := (.object "com/example/wyrd/wyrd/protocol/ApiKey"), accessFlags := 16409, slot := 5, constantValue := 0 }, { name := "FIND_COORDINATOR", type := (.object "com/example/wyrd/wyrd/protocol/ApiKey"), accessFlags := 16409, slot := 6, constantValue := 0 }, { name := "JOIN_GROUP", type := (.object "com/example/wyrd/wyrd/protocol/ApiKey"), accessFlags := 16409, slot := 7, constantValue := 0 }, { name := "HEARTBEAT", type := (.object "com/example/wyrd/wyrd/protocol/ApiKey"), accessFlags := 16409, slot := 8, constantValue := 0 }, { name := "LEAVE_GROUP", type := (.object "com/example/wyrd/wyrd/protocol/ApiKey"), accessFlags := 16409, slot := 9, constantValue := 0 }, { name := "SYNC_GROUP", type := (.object "com/example/wyrd/wyrd/protocol/ApiKey"), accessFlags := 16409, slot := 10, constantValue := 0 }, { name := "DESCRIBE_GROUPS", type := (.object "com/example/wyrd/wyrd/protocol/ApiKey"), accessFlags := 16409, slot := 11, constantValue := 0 }, { name := "LIST_GROUPS", type := (.object "com/example/wyrd/wyrd/protocol/ApiKey"), accessFlags := 16409, slot := 12, constantValue := 0 }, { name := "API_VERSIONS", type := (.object "com/example/wyrd/wyrd/protocol/ApiKey"), accessFlags := 16409, slot := 13, constantValue := 0 }, { name := "CREATE_TOPICS", type := (.object "com/example/wyrd/wyrd/protocol/ApiKey"), accessFlags := 16409, slot := 14, constantValue := 0 }, { name := "DELETE_TOPICS", type := (.object "com/example/wyrd/wyrd/protocol/ApiKey"), accessFlags := 16409, slot := 15, constantValue := 0 }, { name := "INIT_PRODUCER_ID", type := (.object "com/example/wyrd/wyrd/protocol/ApiKey"), accessFlags := 16409, slot := 16, constantValue := 0 }, { name := "DESCRIBE_CONFIGS", type := (.object "com/example/wyrd/wyrd/protocol/ApiKey"), accessFlags := 16409, slot := 17, constantValue := 0 }, { name := "ALTER_CONFIGS", type := (.object "com/example/wyrd/wyrd/protocol/ApiKey"), accessFlags := 16409, slot := 18, constantValue := 0 }, { name := "CREATE_PARTITIONS", type := (.object "com/example/wyrd/wyrd/protocol/ApiKey"), accessFlags := 16409, slot := 19, constantValue := 0 }, { name := "INCREMENTAL_ALTER_CONFIGS", type := (.object "com/example/wyrd/wyrd/protocol/ApiKey"), accessFlags := 16409, slot := 20, constantValue := 0 }, { name := "id", type := .short, accessFlags := 18, slot := 3, constantValue := 0 }, { name := "firstFlexibleVersion", type := .short, accessFlags := 18, slot := 4, constantValue := 0 }, { name := "$VALUES", type := (.array (.object "com/example/wyrd/wyrd/protocol/ApiKey")), accessFlags := 4122, slot := 21, constantValue := 0 }]
  methods := #[k6m0]
  instanceTypes := #[(.object "java/lang/String"), .int, .int, .short, .short]
  staticTypes := #[(.object "com/example/wyrd/wyrd/protocol/ApiKey"), (.object "com/example/wyrd/wyrd/protocol/ApiKey"), (.object "com/example/wyrd/wyrd/protocol/ApiKey"), (.object "com/example/wyrd/wyrd/protocol/ApiKey"), (.object "com/example/wyrd/wyrd/protocol/ApiKey"), (.object "com/example/wyrd/wyrd/protocol/ApiKey"), (.object "com/example/wyrd/wyrd/protocol/ApiKey"), (.object "com/example/wyrd/wyrd/protocol/ApiKey"), (.object "com/example/wyrd/wyrd/protocol/ApiKey"), (.object "com/example/wyrd/wyrd/protocol/ApiKey"), (.object "com/example/wyrd/wyrd/protocol/ApiKey"), (.object "com/example/wyrd/wyrd/protocol/ApiKey"), (.object "com/example/wyrd/wyrd/protocol/ApiKey"), (.object "com/example/wyrd/wyrd/protocol/ApiKey"), (.object "com/example/wyrd/wyrd/protocol/ApiKey"), (.object "com/example/wyrd/wyrd/protocol/ApiKey"), (.object "com/example/wyrd/wyrd/protocol/ApiKey"), (.object "com/example/wyrd/wyrd/protocol/ApiKey"), (.object "com/example/wyrd/wyrd/protocol/ApiKey"), (.object "com/example/wyrd/wyrd/protocol/ApiKey"), (.object "com/example/wyrd/wyrd/protocol/ApiKey"), (.array (.object "com/example/wyrd/wyrd/protocol/ApiKey"))]
  resolved := Array.replicate 141 none
  statics := some 0 }

def pool7 : Array CpInfo := pool [(1, u "java/lang/Cloneable"), (0, .class_ 1), (0, u "java/lang/Object"), (0, .class_ 3)] 3

/-- java/lang/Cloneable -/
def k7 : Class := { plain "java/lang/Cloneable" (some 0) with
  accessFlags := 1537
  interfaces := #[]
  cf := some (fileOf pool7 2 #[] #[] 1537 4 #[] #[])
  fields := #[]
  methods := #[]
  instanceTypes := #[]
  staticTypes := #[]
  resolved := Array.replicate 8 none
  statics := none }

/-- the primitive byte -/
def k8 : Class := { plain "byte" none with kind := .primitive 'B', accessFlags := 0x411 }
/-- [B -/
def k9 : Class := { plain "[B" (some 0) with kind := .array 8 .byte, interfaces := #[7, 4], accessFlags := 1041 }

/-- the primitive int -/
def k10 : Class := { plain "int" none with kind := .primitive 'I', accessFlags := 0x411 }
/-- [I -/
def k11 : Class := { plain "[I" (some 0) with kind := .array 10 .int, interfaces := #[7, 4], accessFlags := 1041 }

/-- [Lcom/example/wyrd/wyrd/protocol/ApiKey; -/
def k12 : Class := { plain "[Lcom/example/wyrd/wyrd/protocol/ApiKey;" (some 0) with kind := .array 6 (.object "com/example/wyrd/wyrd/protocol/ApiKey"), interfaces := #[7, 4], accessFlags := 1041 }

def heap : Heap := #[{ cls := 6, slots := #[.ref 1, .ref 2, .ref 3, .ref 4, .ref 5, .ref 6, .ref 7, .ref 8, .ref 9, .ref 10, .ref 11, .ref 12, .ref 13, .ref 14, .ref 15, .ref 16, .ref 17, .ref 18, .ref 19, .ref 20, .ref 21, .null], vm := .statics 6 },
  { cls := 6, slots := #[.null, .int 0, .int 0, .int 0, .int 9], vm := .none },
  { cls := 6, slots := #[.null, .int 0, .int 0, .int 0, .int 12], vm := .none },
  { cls := 6, slots := #[.null, .int 0, .int 0, .int 0, .int 6], vm := .none },
  { cls := 6, slots := #[.null, .int 0, .int 0, .int 0, .int 9], vm := .none },
  { cls := 6, slots := #[.null, .int 0, .int 0, .int 0, .int 8], vm := .none },
  { cls := 6, slots := #[.null, .int 0, .int 0, .int 0, .int 6], vm := .none },
  { cls := 6, slots := #[.null, .int 0, .int 0, .int 0, .int 3], vm := .none },
  { cls := 6, slots := #[.null, .int 0, .int 0, .int 0, .int 6], vm := .none },
  { cls := 6, slots := #[.null, .int 0, .int 0, .int 0, .int 4], vm := .none },
  { cls := 6, slots := #[.null, .int 0, .int 0, .int 0, .int 4], vm := .none },
  { cls := 6, slots := #[.null, .int 0, .int 0, .int 0, .int 4], vm := .none },
  { cls := 6, slots := #[.null, .int 0, .int 0, .int 0, .int 5], vm := .none },
  { cls := 6, slots := #[.null, .int 0, .int 0, .int 0, .int 3], vm := .none },
  { cls := 6, slots := #[.null, .int 0, .int 0, .int 0, .int 3], vm := .none },
  { cls := 6, slots := #[.null, .int 0, .int 0, .int 0, .int 5], vm := .none },
  { cls := 6, slots := #[.null, .int 0, .int 0, .int 0, .int 4], vm := .none },
  { cls := 6, slots := #[.null, .int 0, .int 0, .int 0, .int 2], vm := .none },
  { cls := 6, slots := #[.null, .int 0, .int 0, .int 0, .int 4], vm := .none },
  { cls := 6, slots := #[.null, .int 0, .int 0, .int 0, .int 2], vm := .none },
  { cls := 6, slots := #[.null, .int 0, .int 0, .int 0, .int 2], vm := .none },
  { cls := 6, slots := #[.null, .int 0, .int 0, .int 0, .int 1], vm := .none }]
def classes : Array Class := #[k0, k1, k2, k3, k4, k5, k6, k7, k8, k9, k10, k11, k12]
def interned : List (Array UInt16 × Addr) := []
def slotsUsed : Nat := 127
def theMethod : MethodId := ⟨1, 1⟩
def args0 : Array Value := #[.int 5, .int 7]
def aboutOver (below : List Frame) : State where
  vm := { classes := classes, interned := interned.toArray }
  heap := heap
  slotsUsed := slotsUsed
  threads := #[{ frames := .invoking theMethod args0 :: below }]
def below0 : List Frame := [.native { method := ⟨0, 0⟩, args := #[] }]
def about1 : State := aboutOver below0
def p0 : Program := .bare "" "" ""
def e0 : Env := launch0.env 0 0 0
theorem w_frames : about1.frames = Frame.invoking theMethod args0 :: below0 := rfl
set_option maxRecDepth 65536 in
theorem w_args : argsFit about1.vm theMethod args0 = true := by decide +kernel
set_option maxRecDepth 65536 in
theorem w_heap : heapFits about1 = true := by decide +kernel
set_option maxRecDepth 65536 in
theorem w_runnable : about1.curStatus? = some .runnable := by decide +kernel
set_option maxRecDepth 65536 in
theorem w_alone : about1.alone = true := by decide +kernel
set_option maxRecDepth 65536 in
theorem w_named : about1.methodNamed? x = some theMethod := by decide +kernel
set_option maxRecDepth 65536 in
theorem w_hears : about1.hears theMethod below0 = true := by decide +kernel
set_option maxRecDepth 65536 in
theorem w_ripe : about1.ripe theMethod args0 below0 = true := by decide +kernel
theorem w_running : about1.status = .running := rfl
set_option maxRecDepth 65536 in
theorem w_room : about1.hasRoom e0.platform room_1 = true :=
  launch0.hasRoom_least _ room_1 (by decide +kernel) (by decide +kernel) (by decide +kernel) (by decide +kernel) (by decide +kernel) (by decide +kernel)
theorem allAtoms_all (ts : List Jvm.Cond) (a : Array Jvm.Value) (st : Jvm.State) : (allAtoms ts).before a st = ts.all (fun c => c.before a st) := by
  induction ts with
  | nil => rfl
  | cons c t ih =>
    show (Jvm.Cond.and c (allAtoms t)).before a st = _
    rw [Jvm.Cond.before_and, ih, List.all_cons]
def words1 : List Jvm.Cond := Jvm.Cond.code x code maxLocals ret :: tables_1
/-- a 'code' word, met by the world's own term for the bytes: nothing is compared byte by byte -/
theorem code_word {y : MethodName} {bytes : ByteArray} {mx : Nat} {rt : Option FieldType} {a : Array Value} {s : State} {m : MethodId} {meth : Method} {c : Code} (h1 : s.methodNamed? y = some m) (h2 : s.vm.method? m = some meth) (h3 : meth.code = some c) (h4 : c.code = bytes)
    (h5 : (c.maxLocals == mx && c.exceptionTable.isEmpty && decide (c.maxStack ≤ mostOperands) && decide (meth.sig.returnType = rt) && !meth.locks && decide (parseMethodDescriptor y.desc = some meth.sig)) = true) : (Jvm.Cond.code y bytes mx rt).before a s = true := by
  simp only [Bool.and_eq_true, beq_iff_eq, Bool.not_eq_true', decide_eq_true_eq] at h5
  obtain ⟨⟨⟨⟨⟨g1, g2⟩, g3⟩, g4⟩, g5⟩, g6⟩ := h5
  simp [Cond.before, Cond.holds, Cond.value, h1, h2, h3, h4, g1, g2, g3, g4, g5, g6]
def isCode : Jvm.Cond → Bool
  | .code _ _ _ _ => true
  | _ => false
theorem all_split {L : List Jvm.Cond} {P : Jvm.Cond → Bool} (h1 : L.all (fun c => isCode c || P c) = true) (h2 : ∀ c ∈ L.filter isCode, P c = true) : L.all P = true := by
  refine List.all_eq_true.mpr fun c hc => ?_
  have h := List.all_eq_true.mp h1 c hc
  rcases Bool.eq_false_or_eq_true (isCode c) with hi | hi
  · exact h2 c (List.mem_filter.mpr ⟨hc, hi⟩)
  · simpa [hi] using h
set_option maxRecDepth 65536 in
theorem w_c0 : (Jvm.Cond.code x code maxLocals ret).before args0 about1 = true := code_word (m := ⟨1, 1⟩) (meth := k1m1) (c := k1c1) (by decide +kernel) rfl rfl rfl (by decide +kernel)
set_option maxRecDepth 65536 in
theorem w_c1 : (Jvm.Cond.code ({ cls := "com/example/wyrd/wyrd/protocol/ApiKey", name := "isFlexible", desc := "(S)Z" } : Jvm.MethodName) prog_51_method_5_code (2 : Nat) (Option.some Jvm.ClassFile.FieldType.boolean)).before args0 about1 = true := code_word (m := ⟨6, 0⟩) (meth := k6m0) (c := k6c0) (by decide +kernel) rfl rfl rfl (by decide +kernel)
def codes1 : List Jvm.Cond := [Jvm.Cond.code x code maxLocals ret, Jvm.Cond.code ({ cls := "com/example/wyrd/wyrd/protocol/ApiKey", name := "isFlexible", desc := "(S)Z" } : Jvm.MethodName) prog_51_method_5_code (2 : Nat) (Option.some Jvm.ClassFile.FieldType.boolean)]
set_option maxRecDepth 65536 in
theorem codes_eq : words1.filter isCode = codes1 := rfl
theorem w_codes : ∀ c ∈ words1.filter isCode, c.before args0 about1 = true := by
  rw [codes_eq]
  intro c hc
  simp only [codes1, List.mem_cons, List.not_mem_nil, or_false] at hc
  rcases hc with rfl | rfl
  · exact w_c0
  · exact w_c1
set_option maxRecDepth 65536 in
theorem w_t1 : (words1.take 24).all (fun c => isCode c || c.before args0 about1) = true := by decide +kernel
set_option maxRecDepth 65536 in
theorem w_t2 : ((words1.drop 24).take 24).all (fun c => isCode c || c.before args0 about1) = true := by decide +kernel
set_option maxRecDepth 65536 in
theorem w_t3 : ((words1.drop 24).drop 24).all (fun c => isCode c || c.before args0 about1) = true := by decide +kernel
theorem w_tables : (allAtoms (Jvm.Cond.code x code maxLocals ret :: tables_1)).before args0 about1 = true := by
  rw [allAtoms_all]
  show words1.all (fun c => c.before args0 about1) = true
  refine all_split ?_ w_codes
  rw [← List.take_append_drop 24 words1, List.all_append, w_t1, ← List.take_append_drop 24 (words1.drop 24), List.all_append, w_t2, w_t3]
  rfl
set_option maxRecDepth 65536 in
theorem w_case : (Jvm.Cond.and given_1 narrow_1).before args0 about1 = true := by decide +kernel
theorem w_applies : (headSpec (Jvm.Cond.code x code maxLocals ret :: tables_1) room_1).applies x e0.platform about1 = true :=
  (Spec.applies_iff w_frames).mpr ⟨w_running, w_runnable, w_alone, w_named, w_hears, w_ripe, w_room, w_tables⟩
theorem atStart : AtStart classFile x code maxLocals ret World_1 tables_1 room_1 Calls_1 rest_1 Pre_1 launch0 p0 e0 about1 theMethod args0 below0 :=
  ⟨lists_1, trivial, launch0.admits_env _ _ _, launch0.least_env, fairChoices_fair.cas, fairChoices_fair.clock, w_frames, w_args, w_heap, w_applies, trivial, trivial, w_case⟩
end start1
theorem witness_1 : WitnessClaimed_1 := ⟨start1.p0, start1.e0, start1.about1, start1.theMethod, start1.args0, start1.below0, start1.atStart⟩
end Jvm.Pilot.@@N@@
