import JvmDerived
import JvmDerived.Pilot.@@N@@Statement
import JvmDerived.Pilot.@@N@@Code
set_option linter.unusedVariables false
set_option linter.unusedSimpArgs false
namespace Jvm.RoadKit
open Sem ClassFile Op Lib Jvm.Stand Jvm.Free Jvm.LawKit
section New
variable {p : Program} {l : Launch} {e : Env} {R : Room} {s : State} {m : MethodId} {args : Array Value} {below : List Frame} {meth : Method} {c : Code} {T : State} {locs : List Loc} {cells slots : Nat}
theorem retI (X : Stand p l e R s m args below meth c T locs cells slots) (hx : p.tables.exec = Jvm.exec) {pc : Nat} {Ls : Array Slot} {z : Int32} {rest : List Value} (hret : meth.sig.returnType = some .int) (hd : decode c.code pc = .ok (.ireturn, 1)) {fs : List Frame}
    (hl : ∀ (f : JFrame) (acts : List Action), f.method = m → f.locked = none → f.entered = [] → (doReturn e (T.setTop f) acts (some (.int z))).1 = T.setFrames fs) : Steps p.tables e below (T.setTop (mkF m pc Ls (.int z :: rest))) (T.setFrames fs) := by
  have hm' : T.vm.method? m = some meth := X.method'
  have hn : narrow .int (.int z) = .int z := rfl
  show Steps p.tables e below (T.setTop { method := m, pc := pc, locals := Ls, stack := _ :: rest, locked := none }) _
  jvm_step X.here [X.here.top, hx, hd, hm', hret, hn]
  first | (intro acts; rw [hl _ acts rfl rfl rfl]) | rw [hl _ _ rfl rfl rfl]
  exact Steps.refl _
end New
end Jvm.RoadKit
namespace Jvm.Pilot.@@N@@
open Jvm Jvm.ClassFile Sem Op Lib Jvm.Free Jvm.Stand Jvm.LawKit Jvm.RoadKit Bundle Jvm.Pilot.@@N@@.Jvm.D
def QV (r : Option Value) (h0 : Heap) (n0 : Nat) (v : Option Value) (h : Heap) (L : List Loc) : Prop := v = r ∧ Fr n0 L ∧ h = h0
theorem d1_0 : decode prog_258_method_4_code 0 = .ok (.iload_n 0, 1) := by decide +kernel
theorem d1_1 : decode prog_258_method_4_code 1 = .ok (.ifCond .eq 9, 3) := by decide +kernel
theorem d1_4 : decode prog_258_method_4_code 4 = .ok (.getstatic 72, 3) := by decide +kernel
theorem d1_7 : decode prog_258_method_4_code 7 = .ok (.goto 6, 3) := by decide +kernel
theorem d1_13 : decode prog_258_method_4_code 13 = .ok (.areturn, 1) := by decide +kernel
theorem pn_1 : plainName "com/example/lockstep/lockstep/smt/Term" = true := by first | (simp [plainName, overriddenIn]; done) | decide +kernel
theorem ef_1 (m : MethodId) (x0 : Int32) : entryFrame m #[(.int x0)] 1 = mkF m 0 #[.val (.int x0)] [] := by first | (simp [entryFrame, mkF, argsToLocals, Value.category]; done) | rfl
set_option maxRecDepth 65536 in
set_option maxHeartbeats 40000000 in
theorem rm1_f (l : Launch) (Z : State) (a0 : Array Value) (hw : ∀ d ∈ tables_1, d.before a0 Z = true) (ws : List Jvm.Cond) (p1 : Int32) (w2 : Addr) (h0 : Heap) (n0 : Nat) (Z0 : n0 ≤ h0.size) (S_TRUE : Sta Z h0 "com/example/lockstep/lockstep/smt/Term" "TRUE" "Lcom/example/lockstep/lockstep/smt/Term;" (.ref w2)) (hc1 : ¬ (p1 = (0 : Int32))) :
    MetFree l (⟨"com/example/lockstep/lockstep/smt/Term", "bool", "(Z)Lcom/example/lockstep/lockstep/smt/Term;"⟩ : MethodName) (head1 (Jvm.Cond.code (⟨"com/example/lockstep/lockstep/smt/Term", "bool", "(Z)Lcom/example/lockstep/lockstep/smt/Term;"⟩ : MethodName) prog_258_method_4_code 1 (some (.object "com/example/lockstep/lockstep/smt/Term")) :: ws) ({ frames := 0, cells := 0, slots := 0, locals := 0 } : Room)) (fun a U => a = #[(.int p1)] ∧ Z.Warmed39 U.vm ∧ U.heap = h0) (fun _ _ _ _ _ => True) (fun _ U o U' => ∃ v L, o = .returned v ∧ QV (some (.ref w2)) h0 n0 v U'.heap L ∧ FrameEnd U o U' L ({ frames := 0, cells := 0, slots := 0, locals := 0 } : Room).cells ({ frames := 0, cells := 0, slots := 0, locals := 0 } : Room).slots) := by
  refine MetFree.of_bodySF (plainFor_of_name pn_1) hisR ?_
  intro p e s m args below meth c s₁ Bd hml0 hP hK
  obtain ⟨rfl, hZ, hh⟩ := hP
  have hx := Bd.exec
  have hby := Bd.bytes
  have hml : c.maxLocals = 1 := hml0
  have hown : s.vm.findClass "com/example/lockstep/lockstep/smt/Term" = some m.cls := findClass_of_methodNamed Bd.named
  have hnm := (name_of_methodNamed Bd.named Bd.method).1
  have X0 : Stand p l e ({ frames := 0, cells := 0, slots := 0, locals := 0 } : Room) s m #[(.int p1)] below meth c s₁ [] 0 0 := Stand.of_body Bd
  have e0 : s₁.heap = h0 := by rw [← hh, Bd.state]; rfl
  have N0 := Fr.nil n0
  have pre0 : ∀ t, Steps p.tables e below (s₁.setTop (mkF m 0 #[.val (.int p1)] [])) t → Steps p.tables e below (s₁.setTop (entryFrame m #[(.int p1)] 1)) t := fun t k => castTop (ef_1 m p1) k
  -- 3. LAWS
  obtain ⟨T3, X3, e3, st3⟩ := getS2 X0 hx hZ hown (host := "") (Or.inl (hw _ (List.mem_of_getElem? (i := 6) rfl))) Via.refl e0 S_TRUE (g := (mkF m 4 #[.val (.int p1)] [])) rfl (hb hby d1_4)
  obtain ⟨fs, hr, hrun, hended, hW, hsame⟩ := X3.leave (v := some (.ref w2)) (fun h => by rw [Bd.returns] at h; cases h)
  refine ⟨_, _, pre0 _ ?_, hrun, hended, _, _, rfl, ?_, ⟨_, rfl⟩, hW, hsame.mono (by decide) (by decide)⟩
  -- 4. STEPS
  · show Steps p.tables e below (s₁.setTop (mkF m 0 #[.val (.int p1)] [])) _
    refine XS.iloadN X0.here hx rfl (hb hby d1_0) rfl ?_
    show Steps p.tables e below (s₁.setTop (mkF m 1 #[.val (.int p1)] [(.int p1)])) _
    refine XS.ifNo X0.here hx rfl (hb hby d1_1) rfl ((if0 _ _).trans (feq hc1).1) ?_
    show Steps p.tables e below (s₁.setTop (mkF m 4 #[.val (.int p1)] [])) _
    refine st3 _ ?_
    show Steps p.tables e below (T3.setTop (mkF m 7 #[.val (.int p1)] [(.ref w2)])) _
    refine XS.goto X3.here hx rfl (pc0 := 7) (pc' := 13) rfl (hb hby d1_7) (by decide) (by decide) ?_
    show Steps p.tables e below (T3.setTop (mkF m 13 #[.val (.int p1)] [(.ref w2)])) _
    jvm_step X3.here [X3.here.top, hx, (hb hby d1_13), X3.method', Bd.returns, Value.isRef, FieldType.isReference]
    first | (intro acts; rw [hr _ acts rfl rfl rfl]) | rw [hr _ _ rfl rfl rfl]
    exact Steps.refl _
  · show QV (some (.ref w2)) h0 n0 _ T3.heap _
    rw [e3]
    exact ⟨rfl, N0, rfl⟩
theorem d1_10 : decode prog_258_method_4_code 10 = .ok (.getstatic 76, 3) := by decide +kernel
set_option maxRecDepth 65536 in
set_option maxHeartbeats 40000000 in
theorem rm1_t (l : Launch) (Z : State) (a0 : Array Value) (hw : ∀ d ∈ tables_1, d.before a0 Z = true) (ws : List Jvm.Cond) (p1 : Int32) (w2 : Addr) (h0 : Heap) (n0 : Nat) (Z0 : n0 ≤ h0.size) (S_FALSE : Sta Z h0 "com/example/lockstep/lockstep/smt/Term" "FALSE" "Lcom/example/lockstep/lockstep/smt/Term;" (.ref w2)) (hc1 : p1 = (0 : Int32)) :
    MetFree l (⟨"com/example/lockstep/lockstep/smt/Term", "bool", "(Z)Lcom/example/lockstep/lockstep/smt/Term;"⟩ : MethodName) (head1 (Jvm.Cond.code (⟨"com/example/lockstep/lockstep/smt/Term", "bool", "(Z)Lcom/example/lockstep/lockstep/smt/Term;"⟩ : MethodName) prog_258_method_4_code 1 (some (.object "com/example/lockstep/lockstep/smt/Term")) :: ws) ({ frames := 0, cells := 0, slots := 0, locals := 0 } : Room)) (fun a U => a = #[(.int p1)] ∧ Z.Warmed39 U.vm ∧ U.heap = h0) (fun _ _ _ _ _ => True) (fun _ U o U' => ∃ v L, o = .returned v ∧ QV (some (.ref w2)) h0 n0 v U'.heap L ∧ FrameEnd U o U' L ({ frames := 0, cells := 0, slots := 0, locals := 0 } : Room).cells ({ frames := 0, cells := 0, slots := 0, locals := 0 } : Room).slots) := by
  refine MetFree.of_bodySF (plainFor_of_name pn_1) hisR ?_
  intro p e s m args below meth c s₁ Bd hml0 hP hK
  obtain ⟨rfl, hZ, hh⟩ := hP
  have hx := Bd.exec
  have hby := Bd.bytes
  have hml : c.maxLocals = 1 := hml0
  have hown : s.vm.findClass "com/example/lockstep/lockstep/smt/Term" = some m.cls := findClass_of_methodNamed Bd.named
  have hnm := (name_of_methodNamed Bd.named Bd.method).1
  have X0 : Stand p l e ({ frames := 0, cells := 0, slots := 0, locals := 0 } : Room) s m #[(.int p1)] below meth c s₁ [] 0 0 := Stand.of_body Bd
  have e0 : s₁.heap = h0 := by rw [← hh, Bd.state]; rfl
  have N0 := Fr.nil n0
  have pre0 : ∀ t, Steps p.tables e below (s₁.setTop (mkF m 0 #[.val (.int p1)] [])) t → Steps p.tables e below (s₁.setTop (entryFrame m #[(.int p1)] 1)) t := fun t k => castTop (ef_1 m p1) k
  -- 3. LAWS
  obtain ⟨T3, X3, e3, st3⟩ := getS2 X0 hx hZ hown (host := "") (Or.inl (hw _ (List.mem_of_getElem? (i := 4) rfl))) Via.refl e0 S_FALSE (g := (mkF m 10 #[.val (.int p1)] [])) rfl (hb hby d1_10)
  obtain ⟨fs, hr, hrun, hended, hW, hsame⟩ := X3.leave (v := some (.ref w2)) (fun h => by rw [Bd.returns] at h; cases h)
  refine ⟨_, _, pre0 _ ?_, hrun, hended, _, _, rfl, ?_, ⟨_, rfl⟩, hW, hsame.mono (by decide) (by decide)⟩
  -- 4. STEPS
  · show Steps p.tables e below (s₁.setTop (mkF m 0 #[.val (.int p1)] [])) _
    refine XS.iloadN X0.here hx rfl (hb hby d1_0) rfl ?_
    show Steps p.tables e below (s₁.setTop (mkF m 1 #[.val (.int p1)] [(.int p1)])) _
    refine XS.ifYes X0.here hx rfl (pc0 := 1) (pc' := 10) rfl (hb hby d1_1) rfl ((if0 _ _).trans (teq hc1).1) (by decide) (by decide) ?_
    show Steps p.tables e below (s₁.setTop (mkF m 10 #[.val (.int p1)] [])) _
    refine st3 _ ?_
    show Steps p.tables e below (T3.setTop (mkF m 13 #[.val (.int p1)] [(.ref w2)])) _
    jvm_step X3.here [X3.here.top, hx, (hb hby d1_13), X3.method', Bd.returns, Value.isRef, FieldType.isReference]
    first | (intro acts; rw [hr _ acts rfl rfl rfl]) | rw [hr _ _ rfl rfl rfl]
    exact Steps.refl _
  · show QV (some (.ref w2)) h0 n0 _ T3.heap _
    rw [e3]
    exact ⟨rfl, N0, rfl⟩
theorem d2_0 : decode prog_258_method_51_code 0 = .ok (.aload_n 0, 1) := by decide +kernel
theorem d2_1 : decode prog_258_method_51_code 1 = .ok (.getfield 7, 3) := by decide +kernel
theorem d2_4 : decode prog_258_method_51_code 4 = .ok (.getstatic 45, 3) := by decide +kernel
theorem d2_7 : decode prog_258_method_51_code 7 = .ok (.if_acmp .ne 7, 3) := by decide +kernel
theorem d2_10 : decode prog_258_method_51_code 10 = .ok (.iconst 1, 1) := by decide +kernel
theorem d2_11 : decode prog_258_method_51_code 11 = .ok (.goto 4, 3) := by decide +kernel
theorem d2_15 : decode prog_258_method_51_code 15 = .ok (.ireturn, 1) := by decide +kernel
theorem pn_2 : plainName "com/example/lockstep/lockstep/smt/Term" = true := by first | (simp [plainName, overriddenIn]; done) | decide +kernel
theorem ef_2 (m : MethodId) (x0 : Addr) : entryFrame m #[(.ref x0)] 1 = mkF m 0 #[.val (.ref x0)] [] := by first | (simp [entryFrame, mkF, argsToLocals, Value.category]; done) | rfl
set_option maxRecDepth 65536 in
set_option maxHeartbeats 40000000 in
theorem rm2 (l : Launch) (Z : State) (a0 : Array Value) (hw : ∀ d ∈ tables_1, d.before a0 Z = true) (ws : List Jvm.Cond) (a1 : Addr) (w2 : Addr) (w4 : Addr) (h0 : Heap) (n0 : Nat) (Z0 : n0 ≤ h0.size) (F_op_a1 : Fld Z h0 a1 "com/example/lockstep/lockstep/smt/Term" "op" "Lcom/example/lockstep/lockstep/smt/Term$Op;" (.ref w2)) (S_CONST : Sta Z h0 "com/example/lockstep/lockstep/smt/Term$Op" "CONST" "Lcom/example/lockstep/lockstep/smt/Term$Op;" (.ref w4)) (ha7 : w2 = w4) :
    MetFree l (⟨"com/example/lockstep/lockstep/smt/Term", "isConstant", "()Z"⟩ : MethodName) (head1 (Jvm.Cond.code (⟨"com/example/lockstep/lockstep/smt/Term", "isConstant", "()Z"⟩ : MethodName) prog_258_method_51_code 1 (some .boolean) :: ws) ({ frames := 0, cells := 0, slots := 0, locals := 0 } : Room)) (fun a U => a = #[(.ref a1)] ∧ Z.Warmed39 U.vm ∧ U.heap = h0) (fun _ _ _ _ _ => True) (fun _ U o U' => ∃ v L, o = .returned v ∧ QV (some (.int 1)) h0 n0 v U'.heap L ∧ FrameEnd U o U' L ({ frames := 0, cells := 0, slots := 0, locals := 0 } : Room).cells ({ frames := 0, cells := 0, slots := 0, locals := 0 } : Room).slots) := by
  refine MetFree.of_bodySF (plainFor_of_name pn_2) hisR ?_
  intro p e s m args below meth c s₁ Bd hml0 hP hK
  obtain ⟨rfl, hZ, hh⟩ := hP
  have hx := Bd.exec
  have hby := Bd.bytes
  have hml : c.maxLocals = 1 := hml0
  have hown : s.vm.findClass "com/example/lockstep/lockstep/smt/Term" = some m.cls := findClass_of_methodNamed Bd.named
  have hnm := (name_of_methodNamed Bd.named Bd.method).1
  have X0 : Stand p l e ({ frames := 0, cells := 0, slots := 0, locals := 0 } : Room) s m #[(.ref a1)] below meth c s₁ [] 0 0 := Stand.of_body Bd
  have e0 : s₁.heap = h0 := by rw [← hh, Bd.state]; rfl
  have N0 := Fr.nil n0
  have pre0 : ∀ t, Steps p.tables e below (s₁.setTop (mkF m 0 #[.val (.ref a1)] [])) t → Steps p.tables e below (s₁.setTop (entryFrame m #[(.ref a1)] 1)) t := fun t k => castTop (ef_2 m a1) k
  -- 3. LAWS
  obtain ⟨T3, X3, e3, st3⟩ := getF X0 hx hZ hown (host := "") (Or.inl (hw _ (List.mem_of_getElem? (i := 14) rfl))) Via.refl e0 F_op_a1 (g := (mkF m 1 #[.val (.ref a1)] [(.ref a1)])) rfl rfl (hb hby d2_1)
  obtain ⟨T5, X5, e5, st5⟩ := getS2 X3 hx hZ hown (host := "") (Or.inl (hw _ (List.mem_of_getElem? (i := 18) rfl))) Via.refl e3 S_CONST (g := (mkF m 4 #[.val (.ref a1)] [(.ref w2)])) rfl (hb hby d2_4)
  obtain ⟨fs, hr, hrun, hended, hW, hsame⟩ := X5.leave (v := some (.int (1 : Int32))) (fun h => by rw [Bd.returns] at h; cases h)
  refine ⟨_, _, pre0 _ ?_, hrun, hended, _, _, rfl, ?_, ⟨_, rfl⟩, hW, hsame.mono (by decide) (by decide)⟩
  -- 4. STEPS
  · show Steps p.tables e below (s₁.setTop (mkF m 0 #[.val (.ref a1)] [])) _
    refine XS.aloadN X0.here hx rfl (hb hby d2_0) rfl rfl ?_
    show Steps p.tables e below (s₁.setTop (mkF m 1 #[.val (.ref a1)] [(.ref a1)])) _
    refine st3 _ ?_
    show Steps p.tables e below (T3.setTop (mkF m 4 #[.val (.ref a1)] [(.ref w2)])) _
    refine st5 _ ?_
    show Steps p.tables e below (T5.setTop (mkF m 7 #[.val (.ref a1)] [(.ref w4), (.ref w2)])) _
    refine Jvm.RoadKit.acmp (g := (mkF m 7 #[.val (.ref a1)] [(.ref w4), (.ref w2)])) X5 hx rfl rfl rfl (pc0 := 7) (pc' := 10) (same := true) rfl (hb hby d2_7) rfl (decide_eq_true (congrArg Value.ref ha7)) (by decide) (by decide) ?_
    show Steps p.tables e below (T5.setTop (mkF m 10 #[.val (.ref a1)] [])) _
    refine XS.iconst X5.here hx rfl (hb hby d2_10) ?_
    show Steps p.tables e below (T5.setTop (mkF m 11 #[.val (.ref a1)] [(.int (1 : Int32))])) _
    refine XS.goto X5.here hx rfl (pc0 := 11) (pc' := 15) rfl (hb hby d2_11) (by decide) (by decide) ?_
    show Steps p.tables e below (T5.setTop (mkF m 15 #[.val (.ref a1)] [(.int (1 : Int32))])) _
    exact retN X5 hx (t := .boolean) Bd.returns (by simp) (hb hby d2_15) hr
  · show QV (some (.int 1)) h0 n0 _ T5.heap _
    rw [e5]
    exact ⟨rfl, N0, rfl⟩
theorem d3_0 : decode prog_258_method_46_code 0 = .ok (.aload_n 0, 1) := by decide +kernel
theorem d3_1 : decode prog_258_method_46_code 1 = .ok (.getfield 13, 3) := by decide +kernel
theorem d3_4 : decode prog_258_method_46_code 4 = .ok (.areturn, 1) := by decide +kernel
theorem pn_3 : plainName "com/example/lockstep/lockstep/smt/Term" = true := by first | (simp [plainName, overriddenIn]; done) | decide +kernel
theorem ef_3 (m : MethodId) (x0 : Addr) : entryFrame m #[(.ref x0)] 1 = mkF m 0 #[.val (.ref x0)] [] := by first | (simp [entryFrame, mkF, argsToLocals, Value.category]; done) | rfl
set_option maxRecDepth 65536 in
set_option maxHeartbeats 40000000 in
theorem rm3 (l : Launch) (Z : State) (a0 : Array Value) (hw : ∀ d ∈ tables_1, d.before a0 Z = true) (ws : List Jvm.Cond) (a1 : Addr) (w2 : Addr) (h0 : Heap) (n0 : Nat) (Z0 : n0 ≤ h0.size) (F_sort_a1 : Fld Z h0 a1 "com/example/lockstep/lockstep/smt/Term" "sort" "Lcom/example/lockstep/lockstep/smt/Sort;" (.ref w2)) :
    MetFree l (⟨"com/example/lockstep/lockstep/smt/Term", "sort", "()Lcom/example/lockstep/lockstep/smt/Sort;"⟩ : MethodName) (head1 (Jvm.Cond.code (⟨"com/example/lockstep/lockstep/smt/Term", "sort", "()Lcom/example/lockstep/lockstep/smt/Sort;"⟩ : MethodName) prog_258_method_46_code 1 (some (.object "com/example/lockstep/lockstep/smt/Sort")) :: ws) ({ frames := 0, cells := 0, slots := 0, locals := 0 } : Room)) (fun a U => a = #[(.ref a1)] ∧ Z.Warmed39 U.vm ∧ U.heap = h0) (fun _ _ _ _ _ => True) (fun _ U o U' => ∃ v L, o = .returned v ∧ QV (some (.ref w2)) h0 n0 v U'.heap L ∧ FrameEnd U o U' L ({ frames := 0, cells := 0, slots := 0, locals := 0 } : Room).cells ({ frames := 0, cells := 0, slots := 0, locals := 0 } : Room).slots) := by
  refine MetFree.of_bodySF (plainFor_of_name pn_3) hisR ?_
  intro p e s m args below meth c s₁ Bd hml0 hP hK
  obtain ⟨rfl, hZ, hh⟩ := hP
  have hx := Bd.exec
  have hby := Bd.bytes
  have hml : c.maxLocals = 1 := hml0
  have hown : s.vm.findClass "com/example/lockstep/lockstep/smt/Term" = some m.cls := findClass_of_methodNamed Bd.named
  have hnm := (name_of_methodNamed Bd.named Bd.method).1
  have X0 : Stand p l e ({ frames := 0, cells := 0, slots := 0, locals := 0 } : Room) s m #[(.ref a1)] below meth c s₁ [] 0 0 := Stand.of_body Bd
  have e0 : s₁.heap = h0 := by rw [← hh, Bd.state]; rfl
  have N0 := Fr.nil n0
  have pre0 : ∀ t, Steps p.tables e below (s₁.setTop (mkF m 0 #[.val (.ref a1)] [])) t → Steps p.tables e below (s₁.setTop (entryFrame m #[(.ref a1)] 1)) t := fun t k => castTop (ef_3 m a1) k
  -- 3. LAWS
  obtain ⟨T3, X3, e3, st3⟩ := getF X0 hx hZ hown (host := "") (Or.inl (hw _ (List.mem_of_getElem? (i := 24) rfl))) Via.refl e0 F_sort_a1 (g := (mkF m 1 #[.val (.ref a1)] [(.ref a1)])) rfl rfl (hb hby d3_1)
  obtain ⟨fs, hr, hrun, hended, hW, hsame⟩ := X3.leave (v := some (.ref w2)) (fun h => by rw [Bd.returns] at h; cases h)
  refine ⟨_, _, pre0 _ ?_, hrun, hended, _, _, rfl, ?_, ⟨_, rfl⟩, hW, hsame.mono (by decide) (by decide)⟩
  -- 4. STEPS
  · show Steps p.tables e below (s₁.setTop (mkF m 0 #[.val (.ref a1)] [])) _
    refine XS.aloadN X0.here hx rfl (hb hby d3_0) rfl rfl ?_
    show Steps p.tables e below (s₁.setTop (mkF m 1 #[.val (.ref a1)] [(.ref a1)])) _
    refine st3 _ ?_
    show Steps p.tables e below (T3.setTop (mkF m 4 #[.val (.ref a1)] [(.ref w2)])) _
    jvm_step X3.here [X3.here.top, hx, (hb hby d3_4), X3.method', Bd.returns, Value.isRef, FieldType.isReference]
    first | (intro acts; rw [hr _ acts rfl rfl rfl]) | rw [hr _ _ rfl rfl rfl]
    exact Steps.refl _
  · show QV (some (.ref w2)) h0 n0 _ T3.heap _
    rw [e3]
    exact ⟨rfl, N0, rfl⟩
theorem d4_0 : decode prog_256_method_5_code 0 = .ok (.aload_n 0, 1) := by decide +kernel
theorem d4_1 : decode prog_256_method_5_code 1 = .ok (.getfield 7, 3) := by decide +kernel
theorem d4_4 : decode prog_256_method_5_code 4 = .ok (.getstatic 61, 3) := by decide +kernel
theorem d4_7 : decode prog_256_method_5_code 7 = .ok (.if_acmp .ne 7, 3) := by decide +kernel
theorem d4_10 : decode prog_256_method_5_code 10 = .ok (.iconst 1, 1) := by decide +kernel
theorem d4_11 : decode prog_256_method_5_code 11 = .ok (.goto 4, 3) := by decide +kernel
theorem d4_15 : decode prog_256_method_5_code 15 = .ok (.ireturn, 1) := by decide +kernel
theorem pn_4 : plainName "com/example/lockstep/lockstep/smt/Sort" = true := by first | (simp [plainName, overriddenIn]; done) | decide +kernel
theorem ef_4 (m : MethodId) (x0 : Addr) : entryFrame m #[(.ref x0)] 1 = mkF m 0 #[.val (.ref x0)] [] := by first | (simp [entryFrame, mkF, argsToLocals, Value.category]; done) | rfl
set_option maxRecDepth 65536 in
set_option maxHeartbeats 40000000 in
theorem rm4 (l : Launch) (Z : State) (a0 : Array Value) (hw : ∀ d ∈ tables_1, d.before a0 Z = true) (ws : List Jvm.Cond) (a1 : Addr) (w2 : Addr) (w4 : Addr) (h0 : Heap) (n0 : Nat) (Z0 : n0 ≤ h0.size) (F_kind_a1 : Fld Z h0 a1 "com/example/lockstep/lockstep/smt/Sort" "kind" "Lcom/example/lockstep/lockstep/smt/Sort$Kind;" (.ref w2)) (S_BOOL : Sta Z h0 "com/example/lockstep/lockstep/smt/Sort$Kind" "BOOL" "Lcom/example/lockstep/lockstep/smt/Sort$Kind;" (.ref w4)) (ha7 : w2 = w4) :
    MetFree l (⟨"com/example/lockstep/lockstep/smt/Sort", "isBool", "()Z"⟩ : MethodName) (head1 (Jvm.Cond.code (⟨"com/example/lockstep/lockstep/smt/Sort", "isBool", "()Z"⟩ : MethodName) prog_256_method_5_code 1 (some .boolean) :: ws) ({ frames := 0, cells := 0, slots := 0, locals := 0 } : Room)) (fun a U => a = #[(.ref a1)] ∧ Z.Warmed39 U.vm ∧ U.heap = h0) (fun _ _ _ _ _ => True) (fun _ U o U' => ∃ v L, o = .returned v ∧ QV (some (.int 1)) h0 n0 v U'.heap L ∧ FrameEnd U o U' L ({ frames := 0, cells := 0, slots := 0, locals := 0 } : Room).cells ({ frames := 0, cells := 0, slots := 0, locals := 0 } : Room).slots) := by
  refine MetFree.of_bodySF (plainFor_of_name pn_4) hisR ?_
  intro p e s m args below meth c s₁ Bd hml0 hP hK
  obtain ⟨rfl, hZ, hh⟩ := hP
  have hx := Bd.exec
  have hby := Bd.bytes
  have hml : c.maxLocals = 1 := hml0
  have hown : s.vm.findClass "com/example/lockstep/lockstep/smt/Sort" = some m.cls := findClass_of_methodNamed Bd.named
  have hnm := (name_of_methodNamed Bd.named Bd.method).1
  have X0 : Stand p l e ({ frames := 0, cells := 0, slots := 0, locals := 0 } : Room) s m #[(.ref a1)] below meth c s₁ [] 0 0 := Stand.of_body Bd
  have e0 : s₁.heap = h0 := by rw [← hh, Bd.state]; rfl
  have N0 := Fr.nil n0
  have pre0 : ∀ t, Steps p.tables e below (s₁.setTop (mkF m 0 #[.val (.ref a1)] [])) t → Steps p.tables e below (s₁.setTop (entryFrame m #[(.ref a1)] 1)) t := fun t k => castTop (ef_4 m a1) k
  -- 3. LAWS
  obtain ⟨T3, X3, e3, st3⟩ := getF X0 hx hZ hown (host := "") (Or.inl (hw _ (List.mem_of_getElem? (i := 32) rfl))) Via.refl e0 F_kind_a1 (g := (mkF m 1 #[.val (.ref a1)] [(.ref a1)])) rfl rfl (hb hby d4_1)
  obtain ⟨T5, X5, e5, st5⟩ := getS2 X3 hx hZ hown (host := "") (Or.inl (hw _ (List.mem_of_getElem? (i := 36) rfl))) Via.refl e3 S_BOOL (g := (mkF m 4 #[.val (.ref a1)] [(.ref w2)])) rfl (hb hby d4_4)
  obtain ⟨fs, hr, hrun, hended, hW, hsame⟩ := X5.leave (v := some (.int (1 : Int32))) (fun h => by rw [Bd.returns] at h; cases h)
  refine ⟨_, _, pre0 _ ?_, hrun, hended, _, _, rfl, ?_, ⟨_, rfl⟩, hW, hsame.mono (by decide) (by decide)⟩
  -- 4. STEPS
  · show Steps p.tables e below (s₁.setTop (mkF m 0 #[.val (.ref a1)] [])) _
    refine XS.aloadN X0.here hx rfl (hb hby d4_0) rfl rfl ?_
    show Steps p.tables e below (s₁.setTop (mkF m 1 #[.val (.ref a1)] [(.ref a1)])) _
    refine st3 _ ?_
    show Steps p.tables e below (T3.setTop (mkF m 4 #[.val (.ref a1)] [(.ref w2)])) _
    refine st5 _ ?_
    show Steps p.tables e below (T5.setTop (mkF m 7 #[.val (.ref a1)] [(.ref w4), (.ref w2)])) _
    refine Jvm.RoadKit.acmp (g := (mkF m 7 #[.val (.ref a1)] [(.ref w4), (.ref w2)])) X5 hx rfl rfl rfl (pc0 := 7) (pc' := 10) (same := true) rfl (hb hby d4_7) rfl (decide_eq_true (congrArg Value.ref ha7)) (by decide) (by decide) ?_
    show Steps p.tables e below (T5.setTop (mkF m 10 #[.val (.ref a1)] [])) _
    refine XS.iconst X5.here hx rfl (hb hby d4_10) ?_
    show Steps p.tables e below (T5.setTop (mkF m 11 #[.val (.ref a1)] [(.int (1 : Int32))])) _
    refine XS.goto X5.here hx rfl (pc0 := 11) (pc' := 15) rfl (hb hby d4_11) (by decide) (by decide) ?_
    show Steps p.tables e below (T5.setTop (mkF m 15 #[.val (.ref a1)] [(.int (1 : Int32))])) _
    exact retN X5 hx (t := .boolean) Bd.returns (by simp) (hb hby d4_15) hr
  · show QV (some (.int 1)) h0 n0 _ T5.heap _
    rw [e5]
    exact ⟨rfl, N0, rfl⟩
theorem d6_0 : decode prog_258_method_52_code 0 = .ok (.aload_n 0, 1) := by decide +kernel
theorem d6_1 : decode prog_258_method_52_code 1 = .ok (.getfield 13, 3) := by decide +kernel
theorem d6_4 : decode prog_258_method_52_code 4 = .ok (.invokevirtual 102, 3) := by decide +kernel
theorem d6_7 : decode prog_258_method_52_code 7 = .ok (.ifCond .ne 23, 3) := by decide +kernel
theorem d6_30 : decode prog_258_method_52_code 30 = .ok (.return_, 1) := by decide +kernel
theorem pn_6 : plainName "com/example/lockstep/lockstep/smt/Term" = true := by first | (simp [plainName, overriddenIn]; done) | decide +kernel
theorem pd_6_1 : parseMethodDescriptor "()Z" = some ⟨[], some .boolean⟩ := by decide +kernel
theorem ef_6 (m : MethodId) (x0 : Addr) : entryFrame m #[(.ref x0)] 1 = mkF m 0 #[.val (.ref x0)] [] := by first | (simp [entryFrame, mkF, argsToLocals, Value.category]; done) | rfl
-- its room: frames: the greatest, locals: the greatest, cells 0 + .., slots 0 + ..: rm4: frames + 1; locals 0 + 1 + 11 + its room's locals; its cells and slots besides
set_option maxRecDepth 65536 in
set_option maxHeartbeats 40000000 in
theorem rm6 (l : Launch) (Z : State) (a0 : Array Value) (hw : ∀ d ∈ tables_1, d.before a0 Z = true) (ws : List Jvm.Cond) (a1 : Addr) (wF wT wC so wB : Addr) (h0 : Heap) (n0 : Nat) (Z0 : n0 ≤ h0.size) (S_FALSE : Sta Z h0 "com/example/lockstep/lockstep/smt/Term" "FALSE" "Lcom/example/lockstep/lockstep/smt/Term;" (.ref wF)) (S_TRUE : Sta Z h0 "com/example/lockstep/lockstep/smt/Term" "TRUE" "Lcom/example/lockstep/lockstep/smt/Term;" (.ref wT)) (S_CONST : Sta Z h0 "com/example/lockstep/lockstep/smt/Term$Op" "CONST" "Lcom/example/lockstep/lockstep/smt/Term$Op;" (.ref wC)) (S_BOOL : Sta Z h0 "com/example/lockstep/lockstep/smt/Sort$Kind" "BOOL" "Lcom/example/lockstep/lockstep/smt/Sort$Kind;" (.ref wB)) (E_a1 : Exa Z h0 a1 "com/example/lockstep/lockstep/smt/Term") (F_op_a1 : Fld Z h0 a1 "com/example/lockstep/lockstep/smt/Term" "op" "Lcom/example/lockstep/lockstep/smt/Term$Op;" (.ref wC)) (F_sort_a1 : Fld Z h0 a1 "com/example/lockstep/lockstep/smt/Term" "sort" "Lcom/example/lockstep/lockstep/smt/Sort;" (.ref so)) (E_so : Exa Z h0 so "com/example/lockstep/lockstep/smt/Sort") (F_kind : Fld Z h0 so "com/example/lockstep/lockstep/smt/Sort" "kind" "Lcom/example/lockstep/lockstep/smt/Sort$Kind;" (.ref wB)) :
    MetFree l (⟨"com/example/lockstep/lockstep/smt/Term", "requireBool", "(Lcom/example/lockstep/lockstep/smt/Term;)V"⟩ : MethodName) (head1 (Jvm.Cond.code (⟨"com/example/lockstep/lockstep/smt/Term", "requireBool", "(Lcom/example/lockstep/lockstep/smt/Term;)V"⟩ : MethodName) prog_258_method_52_code 1 none :: ws) ({ frames := 1, cells := 0, slots := 0, locals := 12 } : Room)) (fun a U => a = #[(.ref a1)] ∧ Z.Warmed39 U.vm ∧ U.heap = h0) (fun _ _ _ _ _ => True) (fun _ U o U' => ∃ v L, o = .returned v ∧ QV none h0 n0 v U'.heap L ∧ FrameEnd U o U' L ({ frames := 1, cells := 0, slots := 0, locals := 12 } : Room).cells ({ frames := 1, cells := 0, slots := 0, locals := 12 } : Room).slots) := by
  refine MetFree.of_bodySF (plainFor_of_name pn_6) hisR ?_
  intro p e s m args below meth c s₁ Bd hml0 hP hK
  obtain ⟨rfl, hZ, hh⟩ := hP
  have hx := Bd.exec
  have hby := Bd.bytes
  have hml : c.maxLocals = 1 := hml0
  have hown : s.vm.findClass "com/example/lockstep/lockstep/smt/Term" = some m.cls := findClass_of_methodNamed Bd.named
  have hnm := (name_of_methodNamed Bd.named Bd.method).1
  have X0 : Stand p l e ({ frames := 1, cells := 0, slots := 0, locals := 12 } : Room) s m #[(.ref a1)] below meth c s₁ [] 0 0 := Stand.of_body Bd
  have e0 : s₁.heap = h0 := by rw [← hh, Bd.state]; rfl
  have N0 := Fr.nil n0
  have pre0 : ∀ t, Steps p.tables e below (s₁.setTop (mkF m 0 #[.val (.ref a1)] [])) t → Steps p.tables e below (s₁.setTop (entryFrame m #[(.ref a1)] 1)) t := fun t k => castTop (ef_6 m a1) k
  -- 3. LAWS
  obtain ⟨T3, X3, e3, st3⟩ := getF X0 hx hZ hown (host := "") (Or.inl (hw _ (List.mem_of_getElem? (i := 24) rfl))) Via.refl e0 F_sort_a1 (g := (mkF m 1 #[.val (.ref a1)] [(.ref a1)])) rfl rfl (hb hby d6_1)
  -- pc 4: com/example/lockstep/lockstep/smt/Sort.isBool by the contract of the body that the receiver's class selects, rm4
  obtain ⟨cq4, kq4, q4a, q4b, q4c⟩ := isOf hZ e3 E_so
  obtain ⟨_, _, ⟨T4, L4, k4, n4⟩, -, X4, ⟨Lc4, hQ4, l4, y4, z4⟩, st4⟩ := X3.virtualBack hx (y := (⟨"com/example/lockstep/lockstep/smt/Sort", "isBool", "()Z"⟩ : MethodName)) (z := (⟨"com/example/lockstep/lockstep/smt/Sort", "isBool", "()Z"⟩ : MethodName)) hown (mvT hZ (hw _ (List.mem_of_getElem? (i := 43) rfl))) (mvT hZ (hw _ (List.mem_of_getElem? (i := 27) rfl))) (notFace_of_selects (args := #[]) (mvT hZ (hw _ (List.mem_of_getElem? (i := 29) rfl)))) (mvT hZ (hw _ (List.mem_of_getElem? (i := 29) rfl))) (mvT hZ (hw _ (List.mem_of_getElem? (i := 28) rfl))) (by decide) (backOf (W := 0) (rm4 l Z a0 hw [] so wB wB h0 n0 Z0 F_kind S_BOOL rfl) hZ (hw _ (List.mem_of_getElem? (i := 31) rfl)) (hw _ (List.mem_of_getElem? (i := 30) rfl)) (by decide) (by decide)) q4a q4c (g := (mkF m 4 #[.val (.ref a1)] [(.ref so)])) rfl (by rw [hml]; rfl) (Steps.refl _) (argsL := []) (rest := []) (lenOf pd_6_1 rfl) rfl (by show 2 * 0 + _ ≤ _; exact Nat.le_of_eq rfl) (hb hby d6_4) (fun _ _ => ⟨rfl, e3, (by decide : 0 + 0 ≤ _), (by decide : 0 + 0 ≤ _)⟩)
  dsimp only [Pt.U, Pt.locs, Pt.cells, Pt.slots] at X4 l4 y4 z4 st4 hQ4
  subst l4 y4 z4
  obtain ⟨rfl, N4q, e4⟩ := hQ4      -- what it returned, that it wrote nothing old, and the rest of your Q4
  have N4 := Fr.app N0 N4q
  obtain ⟨fs, hr, hrun, hended, hW, hsame⟩ := X4.leave (v := none) (fun _ => rfl)
  refine ⟨_, _, pre0 _ ?_, hrun, hended, _, _, rfl, ?_, ⟨_, rfl⟩, hW, hsame.mono (by decide) (by decide)⟩
  -- 4. STEPS
  · show Steps p.tables e below (s₁.setTop (mkF m 0 #[.val (.ref a1)] [])) _
    refine XS.aloadN X0.here hx rfl (hb hby d6_0) rfl rfl ?_
    show Steps p.tables e below (s₁.setTop (mkF m 1 #[.val (.ref a1)] [(.ref a1)])) _
    refine st3 _ ?_
    show Steps p.tables e below (T3.setTop (mkF m 4 #[.val (.ref a1)] [(.ref so)])) _
    refine st4.trans ?_
    show Steps p.tables e below (T4.setTop (mkF m 7 #[.val (.ref a1)] [(.int (1 : Int32))])) _
    refine XS.ifYes X4.here hx rfl (pc0 := 7) (pc' := 30) rfl (hb hby d6_7) rfl ((if0 _ _).trans (feq (by decide : ¬ ((1 : Int32) = (0 : Int32)))).2) (by decide) (by decide) ?_
    show Steps p.tables e below (T4.setTop (mkF m 30 #[.val (.ref a1)] [])) _
    exact X4.returnOut hx Bd.returns (hb hby d6_30) hr
  · show QV none h0 n0 _ T4.heap _
    exact ⟨rfl, N4, e4⟩
theorem d5_0 : decode prog_258_method_15_code 0 = .ok (.aload_n 0, 1) := by decide +kernel
theorem d5_1 : decode prog_258_method_15_code 1 = .ok (.invokestatic 283, 3) := by decide +kernel
theorem d5_4 : decode prog_258_method_15_code 4 = .ok (.aload_n 0, 1) := by decide +kernel
theorem d5_5 : decode prog_258_method_15_code 5 = .ok (.invokevirtual 287, 3) := by decide +kernel
theorem d5_8 : decode prog_258_method_15_code 8 = .ok (.ifCond .eq 19, 3) := by decide +kernel
theorem d5_11 : decode prog_258_method_15_code 11 = .ok (.aload_n 0, 1) := by decide +kernel
theorem d5_12 : decode prog_258_method_15_code 12 = .ok (.getstatic 76, 3) := by decide +kernel
theorem d5_15 : decode prog_258_method_15_code 15 = .ok (.if_acmp .ne 7, 3) := by decide +kernel
theorem d5_18 : decode prog_258_method_15_code 18 = .ok (.iconst 1, 1) := by decide +kernel
theorem d5_19 : decode prog_258_method_15_code 19 = .ok (.goto 4, 3) := by decide +kernel
theorem d5_23 : decode prog_258_method_15_code 23 = .ok (.invokestatic 119, 3) := by decide +kernel
theorem d5_26 : decode prog_258_method_15_code 26 = .ok (.areturn, 1) := by decide +kernel
theorem pn_5 : plainName "com/example/lockstep/lockstep/smt/Term" = true := by first | (simp [plainName, overriddenIn]; done) | decide +kernel
theorem pd_5_4 : parseMethodDescriptor "(Lcom/example/lockstep/lockstep/smt/Term;)V" = some ⟨[(.object "com/example/lockstep/lockstep/smt/Term")], none⟩ := by decide +kernel
theorem pd_5_1 : parseMethodDescriptor "()Z" = some ⟨[], some .boolean⟩ := by decide +kernel
theorem pd_5_0 : parseMethodDescriptor "(Z)Lcom/example/lockstep/lockstep/smt/Term;" = some ⟨[.boolean], some (.object "com/example/lockstep/lockstep/smt/Term")⟩ := by decide +kernel
theorem ef_5 (m : MethodId) (x0 : Addr) : entryFrame m #[(.ref x0)] 1 = mkF m 0 #[.val (.ref x0)] [] := by first | (simp [entryFrame, mkF, argsToLocals, Value.category]; done) | rfl
-- its room: frames: the greatest, locals: the greatest, cells 0 + .., slots 0 + ..: rm6: frames + 1; locals 0 + 1 + 11 + its room's locals; its cells and slots besides; rm2: frames + 1; locals 0 + 1 + 11 + its room's locals; its cells and slots besides; rm1: frames + 1; locals 0 + 1 + 11 + its room's locals; its cells and slots besides
set_option maxRecDepth 65536 in
set_option maxHeartbeats 40000000 in
theorem rm5_ff (l : Launch) (Z : State) (a0 : Array Value) (hw : ∀ d ∈ tables_1, d.before a0 Z = true) (ws : List Jvm.Cond) (a1 : Addr) (wF wT wC so wB : Addr) (h0 : Heap) (n0 : Nat) (Z0 : n0 ≤ h0.size) (S_FALSE : Sta Z h0 "com/example/lockstep/lockstep/smt/Term" "FALSE" "Lcom/example/lockstep/lockstep/smt/Term;" (.ref wF)) (S_TRUE : Sta Z h0 "com/example/lockstep/lockstep/smt/Term" "TRUE" "Lcom/example/lockstep/lockstep/smt/Term;" (.ref wT)) (S_CONST : Sta Z h0 "com/example/lockstep/lockstep/smt/Term$Op" "CONST" "Lcom/example/lockstep/lockstep/smt/Term$Op;" (.ref wC)) (S_BOOL : Sta Z h0 "com/example/lockstep/lockstep/smt/Sort$Kind" "BOOL" "Lcom/example/lockstep/lockstep/smt/Sort$Kind;" (.ref wB)) (E_a1 : Exa Z h0 a1 "com/example/lockstep/lockstep/smt/Term") (F_op_a1 : Fld Z h0 a1 "com/example/lockstep/lockstep/smt/Term" "op" "Lcom/example/lockstep/lockstep/smt/Term$Op;" (.ref wC)) (F_sort_a1 : Fld Z h0 a1 "com/example/lockstep/lockstep/smt/Term" "sort" "Lcom/example/lockstep/lockstep/smt/Sort;" (.ref so)) (E_so : Exa Z h0 so "com/example/lockstep/lockstep/smt/Sort") (F_kind : Fld Z h0 so "com/example/lockstep/lockstep/smt/Sort" "kind" "Lcom/example/lockstep/lockstep/smt/Sort$Kind;" (.ref wB)) (ha15 : a1 = wF) :
    MetFree l (⟨"com/example/lockstep/lockstep/smt/Term", "not", "(Lcom/example/lockstep/lockstep/smt/Term;)Lcom/example/lockstep/lockstep/smt/Term;"⟩ : MethodName) (head1 (Jvm.Cond.code (⟨"com/example/lockstep/lockstep/smt/Term", "not", "(Lcom/example/lockstep/lockstep/smt/Term;)Lcom/example/lockstep/lockstep/smt/Term;"⟩ : MethodName) prog_258_method_15_code 1 (some (.object "com/example/lockstep/lockstep/smt/Term")) :: ws) ({ frames := 2, cells := 0, slots := 0, locals := 24 } : Room)) (fun a U => a = #[(.ref a1)] ∧ Z.Warmed39 U.vm ∧ U.heap = h0) (fun _ _ _ _ _ => True) (fun _ U o U' => ∃ v L, o = .returned v ∧ QV (some (.ref wT)) h0 n0 v U'.heap L ∧ FrameEnd U o U' L ({ frames := 2, cells := 0, slots := 0, locals := 24 } : Room).cells ({ frames := 2, cells := 0, slots := 0, locals := 24 } : Room).slots) := by
  refine MetFree.of_bodySF (plainFor_of_name pn_5) hisR ?_
  intro p e s m args below meth c s₁ Bd hml0 hP hK
  obtain ⟨rfl, hZ, hh⟩ := hP
  have hx := Bd.exec
  have hby := Bd.bytes
  have hml : c.maxLocals = 1 := hml0
  have hown : s.vm.findClass "com/example/lockstep/lockstep/smt/Term" = some m.cls := findClass_of_methodNamed Bd.named
  have hnm := (name_of_methodNamed Bd.named Bd.method).1
  have X0 : Stand p l e ({ frames := 2, cells := 0, slots := 0, locals := 24 } : Room) s m #[(.ref a1)] below meth c s₁ [] 0 0 := Stand.of_body Bd
  have e0 : s₁.heap = h0 := by rw [← hh, Bd.state]; rfl
  have N0 := Fr.nil n0
  have pre0 : ∀ t, Steps p.tables e below (s₁.setTop (mkF m 0 #[.val (.ref a1)] [])) t → Steps p.tables e below (s₁.setTop (entryFrame m #[(.ref a1)] 1)) t := fun t k => castTop (ef_5 m a1) k
  -- 3. LAWS
  -- pc 1: com/example/lockstep/lockstep/smt/Term.requireBool by its contract rm6
  obtain ⟨_, _, ⟨T2, L2, k2, n2⟩, -, X2, ⟨Lc2, hQ2, l2, y2, z2⟩, st2⟩ := Jvm.LawKit.callS X0 hx (y := (⟨"com/example/lockstep/lockstep/smt/Term", "requireBool", "(Lcom/example/lockstep/lockstep/smt/Term;)V"⟩ : MethodName)) hown (mvT hZ (hw _ (List.mem_of_getElem? (i := 40) rfl))) (mvT hZ (hw _ (List.mem_of_getElem? (i := 41) rfl))) (mvT hZ (hw _ (List.mem_of_getElem? (i := 2) rfl))) (mvT hZ (hw _ (List.mem_of_getElem? (i := 42) rfl))) (by decide) (backOf (W := 0) (rm6 l Z a0 hw [] a1 wF wT wC so wB h0 n0 Z0 S_FALSE S_TRUE S_CONST S_BOOL E_a1 F_op_a1 F_sort_a1 E_so F_kind) hZ (hw _ (List.mem_of_getElem? (i := 42) rfl)) (hw _ (List.mem_of_getElem? (i := 2) rfl)) (by decide) (by decide)) (g := (mkF m 1 #[.val (.ref a1)] [(.ref a1)])) rfl (by rw [hml]; rfl) (argsL := [(.ref a1)]) (rest := []) (lenOf pd_5_4 rfl) rfl (by show 2 * 0 + _ ≤ _; exact Nat.le_of_eq rfl) (hb hby d5_1) (fun _ _ => ⟨rfl, e0, (by decide : 0 + 0 ≤ _), (by decide : 0 + 0 ≤ _)⟩)
  dsimp only [Pt.U, Pt.locs, Pt.cells, Pt.slots] at X2 l2 y2 z2 st2 hQ2
  subst l2 y2 z2
  obtain ⟨rfl, N2q, e2⟩ := hQ2      -- what it returned, that it wrote nothing old, and the rest of your Q6
  have N2 := Fr.app N0 N2q
  -- pc 5: com/example/lockstep/lockstep/smt/Term.isConstant by the contract of the body that the receiver's class selects, rm2
  obtain ⟨cq3, kq3, q3a, q3b, q3c⟩ := isOf hZ e2 E_a1
  obtain ⟨_, _, ⟨T3, L3, k3, n3⟩, -, X3, ⟨Lc3, hQ3, l3, y3, z3⟩, st3⟩ := X2.virtualBack hx (y := (⟨"com/example/lockstep/lockstep/smt/Term", "isConstant", "()Z"⟩ : MethodName)) (z := (⟨"com/example/lockstep/lockstep/smt/Term", "isConstant", "()Z"⟩ : MethodName)) hown (mvT hZ (hw _ (List.mem_of_getElem? (i := 44) rfl))) (mvT hZ (hw _ (List.mem_of_getElem? (i := 10) rfl))) (notFace_of_selects (args := #[]) (mvT hZ (hw _ (List.mem_of_getElem? (i := 12) rfl)))) (mvT hZ (hw _ (List.mem_of_getElem? (i := 12) rfl))) (mvT hZ (hw _ (List.mem_of_getElem? (i := 11) rfl))) (by decide) (backOf (W := 0) (rm2 l Z a0 hw [] a1 wC wC h0 n0 Z0 F_op_a1 S_CONST rfl) hZ (hw _ (List.mem_of_getElem? (i := 13) rfl)) (hw _ (List.mem_of_getElem? (i := 2) rfl)) (by decide) (by decide)) q3a q3c (g := (mkF m 5 #[.val (.ref a1)] [(.ref a1)])) rfl (by rw [hml]; rfl) (Steps.refl _) (argsL := []) (rest := []) (lenOf pd_5_1 rfl) rfl (by show 2 * 0 + _ ≤ _; exact Nat.le_of_eq rfl) (hb hby d5_5) (fun _ _ => ⟨rfl, e2, (by decide : 0 + 0 ≤ _), (by decide : 0 + 0 ≤ _)⟩)
  dsimp only [Pt.U, Pt.locs, Pt.cells, Pt.slots] at X3 l3 y3 z3 st3 hQ3
  subst l3 y3 z3
  obtain ⟨rfl, N3q, e3⟩ := hQ3      -- what it returned, that it wrote nothing old, and the rest of your Q2
  have N3 := Fr.app N2 N3q
  -- ✋ yours: S_FALSE must speak of T3.heap here (carried as the other facts are)
  obtain ⟨T5, X5, e5, st5⟩ := getS2 X3 hx hZ hown (host := "") (Or.inl (hw _ (List.mem_of_getElem? (i := 4) rfl))) Via.refl e3 S_FALSE (g := (mkF m 12 #[.val (.ref a1)] [(.ref a1)])) rfl (hb hby d5_12)
  -- pc 23: com/example/lockstep/lockstep/smt/Term.bool by its contract rm1
  obtain ⟨_, _, ⟨T6, L6, k6, n6⟩, -, X6, ⟨Lc6, hQ6, l6, y6, z6⟩, st6⟩ := Jvm.LawKit.callS X5 hx (y := (⟨"com/example/lockstep/lockstep/smt/Term", "bool", "(Z)Lcom/example/lockstep/lockstep/smt/Term;"⟩ : MethodName)) hown (mvT hZ (hw _ (List.mem_of_getElem? (i := 45) rfl))) (mvT hZ (hw _ (List.mem_of_getElem? (i := 1) rfl))) (mvT hZ (hw _ (List.mem_of_getElem? (i := 2) rfl))) (mvT hZ (hw _ (List.mem_of_getElem? (i := 3) rfl))) (by decide) (backOf (W := 0) (rm1_f l Z a0 hw [] (1 : Int32) wT h0 n0 Z0 S_TRUE (by decide)) hZ (hw _ (List.mem_of_getElem? (i := 3) rfl)) (hw _ (List.mem_of_getElem? (i := 2) rfl)) (by decide) (by decide)) (g := (mkF m 23 #[.val (.ref a1)] [(.int (1 : Int32))])) rfl (by rw [hml]; rfl) (argsL := [(.int (1 : Int32))]) (rest := []) (lenOf pd_5_0 rfl) rfl (by show 2 * 0 + _ ≤ _; exact Nat.le_of_eq rfl) (hb hby d5_23) (fun _ _ => ⟨rfl, e5, (by decide : 0 + 0 ≤ _), (by decide : 0 + 0 ≤ _)⟩)
  dsimp only [Pt.U, Pt.locs, Pt.cells, Pt.slots] at X6 l6 y6 z6 st6 hQ6
  subst l6 y6 z6
  obtain ⟨rfl, N6q, e6⟩ := hQ6      -- what it returned, that it wrote nothing old, and the rest of your Q1
  have N6 := Fr.app N3 N6q
  obtain ⟨fs, hr, hrun, hended, hW, hsame⟩ := X6.leave (v := some (.ref wT)) (fun h => by rw [Bd.returns] at h; cases h)
  refine ⟨_, _, pre0 _ ?_, hrun, hended, _, _, rfl, ?_, ⟨_, rfl⟩, hW, hsame.mono (by decide) (by decide)⟩
  -- 4. STEPS
  · show Steps p.tables e below (s₁.setTop (mkF m 0 #[.val (.ref a1)] [])) _
    refine XS.aloadN X0.here hx rfl (hb hby d5_0) rfl rfl ?_
    show Steps p.tables e below (s₁.setTop (mkF m 1 #[.val (.ref a1)] [(.ref a1)])) _
    refine st2 _ ?_
    show Steps p.tables e below (T2.setTop (mkF m 4 #[.val (.ref a1)] [])) _
    refine XS.aloadN X2.here hx rfl (hb hby d5_4) rfl rfl ?_
    show Steps p.tables e below (T2.setTop (mkF m 5 #[.val (.ref a1)] [(.ref a1)])) _
    refine st3.trans ?_
    show Steps p.tables e below (T3.setTop (mkF m 8 #[.val (.ref a1)] [(.int (1 : Int32))])) _
    refine XS.ifNo X3.here hx rfl (hb hby d5_8) rfl ((if0 _ _).trans (feq (by decide : ¬ ((1 : Int32) = (0 : Int32)))).1) ?_
    show Steps p.tables e below (T3.setTop (mkF m 11 #[.val (.ref a1)] [])) _
    refine XS.aloadN X3.here hx rfl (hb hby d5_11) rfl rfl ?_
    show Steps p.tables e below (T3.setTop (mkF m 12 #[.val (.ref a1)] [(.ref a1)])) _
    refine st5 _ ?_
    show Steps p.tables e below (T5.setTop (mkF m 15 #[.val (.ref a1)] [(.ref wF), (.ref a1)])) _
    refine Jvm.RoadKit.acmp (g := (mkF m 15 #[.val (.ref a1)] [(.ref wF), (.ref a1)])) X5 hx rfl rfl rfl (pc0 := 15) (pc' := 18) (same := true) rfl (hb hby d5_15) rfl (decide_eq_true (congrArg Value.ref ha15)) (by decide) (by decide) ?_
    show Steps p.tables e below (T5.setTop (mkF m 18 #[.val (.ref a1)] [])) _
    refine XS.iconst X5.here hx rfl (hb hby d5_18) ?_
    show Steps p.tables e below (T5.setTop (mkF m 19 #[.val (.ref a1)] [(.int (1 : Int32))])) _
    refine XS.goto X5.here hx rfl (pc0 := 19) (pc' := 23) rfl (hb hby d5_19) (by decide) (by decide) ?_
    show Steps p.tables e below (T5.setTop (mkF m 23 #[.val (.ref a1)] [(.int (1 : Int32))])) _
    refine st6 _ ?_
    show Steps p.tables e below (T6.setTop (mkF m 26 #[.val (.ref a1)] [(.ref wT)])) _
    jvm_step X6.here [X6.here.top, hx, (hb hby d5_26), X6.method', Bd.returns, Value.isRef, FieldType.isReference]
    first | (intro acts; rw [hr _ acts rfl rfl rfl]) | rw [hr _ _ rfl rfl rfl]
    exact Steps.refl _
  · show QV (some (.ref wT)) h0 n0 _ T6.heap _
    exact ⟨rfl, N6, e6⟩
theorem d5_22 : decode prog_258_method_15_code 22 = .ok (.iconst 0, 1) := by decide +kernel
-- its room: frames: the greatest, locals: the greatest, cells 0 + .., slots 0 + ..: rm6: frames + 1; locals 0 + 1 + 11 + its room's locals; its cells and slots besides; rm2: frames + 1; locals 0 + 1 + 11 + its room's locals; its cells and slots besides; rm1: frames + 1; locals 0 + 1 + 11 + its room's locals; its cells and slots besides
set_option maxRecDepth 65536 in
set_option maxHeartbeats 40000000 in
theorem rm5_ft (l : Launch) (Z : State) (a0 : Array Value) (hw : ∀ d ∈ tables_1, d.before a0 Z = true) (ws : List Jvm.Cond) (a1 : Addr) (wF wT wC so wB : Addr) (h0 : Heap) (n0 : Nat) (Z0 : n0 ≤ h0.size) (S_FALSE : Sta Z h0 "com/example/lockstep/lockstep/smt/Term" "FALSE" "Lcom/example/lockstep/lockstep/smt/Term;" (.ref wF)) (S_TRUE : Sta Z h0 "com/example/lockstep/lockstep/smt/Term" "TRUE" "Lcom/example/lockstep/lockstep/smt/Term;" (.ref wT)) (S_CONST : Sta Z h0 "com/example/lockstep/lockstep/smt/Term$Op" "CONST" "Lcom/example/lockstep/lockstep/smt/Term$Op;" (.ref wC)) (S_BOOL : Sta Z h0 "com/example/lockstep/lockstep/smt/Sort$Kind" "BOOL" "Lcom/example/lockstep/lockstep/smt/Sort$Kind;" (.ref wB)) (E_a1 : Exa Z h0 a1 "com/example/lockstep/lockstep/smt/Term") (F_op_a1 : Fld Z h0 a1 "com/example/lockstep/lockstep/smt/Term" "op" "Lcom/example/lockstep/lockstep/smt/Term$Op;" (.ref wC)) (F_sort_a1 : Fld Z h0 a1 "com/example/lockstep/lockstep/smt/Term" "sort" "Lcom/example/lockstep/lockstep/smt/Sort;" (.ref so)) (E_so : Exa Z h0 so "com/example/lockstep/lockstep/smt/Sort") (F_kind : Fld Z h0 so "com/example/lockstep/lockstep/smt/Sort" "kind" "Lcom/example/lockstep/lockstep/smt/Sort$Kind;" (.ref wB)) (ha15 : ¬ a1 = wF) :
    MetFree l (⟨"com/example/lockstep/lockstep/smt/Term", "not", "(Lcom/example/lockstep/lockstep/smt/Term;)Lcom/example/lockstep/lockstep/smt/Term;"⟩ : MethodName) (head1 (Jvm.Cond.code (⟨"com/example/lockstep/lockstep/smt/Term", "not", "(Lcom/example/lockstep/lockstep/smt/Term;)Lcom/example/lockstep/lockstep/smt/Term;"⟩ : MethodName) prog_258_method_15_code 1 (some (.object "com/example/lockstep/lockstep/smt/Term")) :: ws) ({ frames := 2, cells := 0, slots := 0, locals := 24 } : Room)) (fun a U => a = #[(.ref a1)] ∧ Z.Warmed39 U.vm ∧ U.heap = h0) (fun _ _ _ _ _ => True) (fun _ U o U' => ∃ v L, o = .returned v ∧ QV (some (.ref wF)) h0 n0 v U'.heap L ∧ FrameEnd U o U' L ({ frames := 2, cells := 0, slots := 0, locals := 24 } : Room).cells ({ frames := 2, cells := 0, slots := 0, locals := 24 } : Room).slots) := by
  refine MetFree.of_bodySF (plainFor_of_name pn_5) hisR ?_
  intro p e s m args below meth c s₁ Bd hml0 hP hK
  obtain ⟨rfl, hZ, hh⟩ := hP
  have hx := Bd.exec
  have hby := Bd.bytes
  have hml : c.maxLocals = 1 := hml0
  have hown : s.vm.findClass "com/example/lockstep/lockstep/smt/Term" = some m.cls := findClass_of_methodNamed Bd.named
  have hnm := (name_of_methodNamed Bd.named Bd.method).1
  have X0 : Stand p l e ({ frames := 2, cells := 0, slots := 0, locals := 24 } : Room) s m #[(.ref a1)] below meth c s₁ [] 0 0 := Stand.of_body Bd
  have e0 : s₁.heap = h0 := by rw [← hh, Bd.state]; rfl
  have N0 := Fr.nil n0
  have pre0 : ∀ t, Steps p.tables e below (s₁.setTop (mkF m 0 #[.val (.ref a1)] [])) t → Steps p.tables e below (s₁.setTop (entryFrame m #[(.ref a1)] 1)) t := fun t k => castTop (ef_5 m a1) k
  -- 3. LAWS
  -- pc 1: com/example/lockstep/lockstep/smt/Term.requireBool by its contract rm6
  obtain ⟨_, _, ⟨T2, L2, k2, n2⟩, -, X2, ⟨Lc2, hQ2, l2, y2, z2⟩, st2⟩ := Jvm.LawKit.callS X0 hx (y := (⟨"com/example/lockstep/lockstep/smt/Term", "requireBool", "(Lcom/example/lockstep/lockstep/smt/Term;)V"⟩ : MethodName)) hown (mvT hZ (hw _ (List.mem_of_getElem? (i := 40) rfl))) (mvT hZ (hw _ (List.mem_of_getElem? (i := 41) rfl))) (mvT hZ (hw _ (List.mem_of_getElem? (i := 2) rfl))) (mvT hZ (hw _ (List.mem_of_getElem? (i := 42) rfl))) (by decide) (backOf (W := 0) (rm6 l Z a0 hw [] a1 wF wT wC so wB h0 n0 Z0 S_FALSE S_TRUE S_CONST S_BOOL E_a1 F_op_a1 F_sort_a1 E_so F_kind) hZ (hw _ (List.mem_of_getElem? (i := 42) rfl)) (hw _ (List.mem_of_getElem? (i := 2) rfl)) (by decide) (by decide)) (g := (mkF m 1 #[.val (.ref a1)] [(.ref a1)])) rfl (by rw [hml]; rfl) (argsL := [(.ref a1)]) (rest := []) (lenOf pd_5_4 rfl) rfl (by show 2 * 0 + _ ≤ _; exact Nat.le_of_eq rfl) (hb hby d5_1) (fun _ _ => ⟨rfl, e0, (by decide : 0 + 0 ≤ _), (by decide : 0 + 0 ≤ _)⟩)
  dsimp only [Pt.U, Pt.locs, Pt.cells, Pt.slots] at X2 l2 y2 z2 st2 hQ2
  subst l2 y2 z2
  obtain ⟨rfl, N2q, e2⟩ := hQ2      -- what it returned, that it wrote nothing old, and the rest of your Q6
  have N2 := Fr.app N0 N2q
  -- pc 5: com/example/lockstep/lockstep/smt/Term.isConstant by the contract of the body that the receiver's class selects, rm2
  obtain ⟨cq3, kq3, q3a, q3b, q3c⟩ := isOf hZ e2 E_a1
  obtain ⟨_, _, ⟨T3, L3, k3, n3⟩, -, X3, ⟨Lc3, hQ3, l3, y3, z3⟩, st3⟩ := X2.virtualBack hx (y := (⟨"com/example/lockstep/lockstep/smt/Term", "isConstant", "()Z"⟩ : MethodName)) (z := (⟨"com/example/lockstep/lockstep/smt/Term", "isConstant", "()Z"⟩ : MethodName)) hown (mvT hZ (hw _ (List.mem_of_getElem? (i := 44) rfl))) (mvT hZ (hw _ (List.mem_of_getElem? (i := 10) rfl))) (notFace_of_selects (args := #[]) (mvT hZ (hw _ (List.mem_of_getElem? (i := 12) rfl)))) (mvT hZ (hw _ (List.mem_of_getElem? (i := 12) rfl))) (mvT hZ (hw _ (List.mem_of_getElem? (i := 11) rfl))) (by decide) (backOf (W := 0) (rm2 l Z a0 hw [] a1 wC wC h0 n0 Z0 F_op_a1 S_CONST rfl) hZ (hw _ (List.mem_of_getElem? (i := 13) rfl)) (hw _ (List.mem_of_getElem? (i := 2) rfl)) (by decide) (by decide)) q3a q3c (g := (mkF m 5 #[.val (.ref a1)] [(.ref a1)])) rfl (by rw [hml]; rfl) (Steps.refl _) (argsL := []) (rest := []) (lenOf pd_5_1 rfl) rfl (by show 2 * 0 + _ ≤ _; exact Nat.le_of_eq rfl) (hb hby d5_5) (fun _ _ => ⟨rfl, e2, (by decide : 0 + 0 ≤ _), (by decide : 0 + 0 ≤ _)⟩)
  dsimp only [Pt.U, Pt.locs, Pt.cells, Pt.slots] at X3 l3 y3 z3 st3 hQ3
  subst l3 y3 z3
  obtain ⟨rfl, N3q, e3⟩ := hQ3      -- what it returned, that it wrote nothing old, and the rest of your Q2
  have N3 := Fr.app N2 N3q
  -- ✋ yours: S_FALSE must speak of T3.heap here (carried as the other facts are)
  obtain ⟨T5, X5, e5, st5⟩ := getS2 X3 hx hZ hown (host := "") (Or.inl (hw _ (List.mem_of_getElem? (i := 4) rfl))) Via.refl e3 S_FALSE (g := (mkF m 12 #[.val (.ref a1)] [(.ref a1)])) rfl (hb hby d5_12)
  -- pc 23: com/example/lockstep/lockstep/smt/Term.bool by its contract rm1
  obtain ⟨_, _, ⟨T6, L6, k6, n6⟩, -, X6, ⟨Lc6, hQ6, l6, y6, z6⟩, st6⟩ := Jvm.LawKit.callS X5 hx (y := (⟨"com/example/lockstep/lockstep/smt/Term", "bool", "(Z)Lcom/example/lockstep/lockstep/smt/Term;"⟩ : MethodName)) hown (mvT hZ (hw _ (List.mem_of_getElem? (i := 45) rfl))) (mvT hZ (hw _ (List.mem_of_getElem? (i := 1) rfl))) (mvT hZ (hw _ (List.mem_of_getElem? (i := 2) rfl))) (mvT hZ (hw _ (List.mem_of_getElem? (i := 3) rfl))) (by decide) (backOf (W := 0) (rm1_t l Z a0 hw [] (0 : Int32) wF h0 n0 Z0 S_FALSE rfl) hZ (hw _ (List.mem_of_getElem? (i := 3) rfl)) (hw _ (List.mem_of_getElem? (i := 2) rfl)) (by decide) (by decide)) (g := (mkF m 23 #[.val (.ref a1)] [(.int (0 : Int32))])) rfl (by rw [hml]; rfl) (argsL := [(.int (0 : Int32))]) (rest := []) (lenOf pd_5_0 rfl) rfl (by show 2 * 0 + _ ≤ _; exact Nat.le_of_eq rfl) (hb hby d5_23) (fun _ _ => ⟨rfl, e5, (by decide : 0 + 0 ≤ _), (by decide : 0 + 0 ≤ _)⟩)
  dsimp only [Pt.U, Pt.locs, Pt.cells, Pt.slots] at X6 l6 y6 z6 st6 hQ6
  subst l6 y6 z6
  obtain ⟨rfl, N6q, e6⟩ := hQ6      -- what it returned, that it wrote nothing old, and the rest of your Q1
  have N6 := Fr.app N3 N6q
  obtain ⟨fs, hr, hrun, hended, hW, hsame⟩ := X6.leave (v := some (.ref wF)) (fun h => by rw [Bd.returns] at h; cases h)
  refine ⟨_, _, pre0 _ ?_, hrun, hended, _, _, rfl, ?_, ⟨_, rfl⟩, hW, hsame.mono (by decide) (by decide)⟩
  -- 4. STEPS
  · show Steps p.tables e below (s₁.setTop (mkF m 0 #[.val (.ref a1)] [])) _
    refine XS.aloadN X0.here hx rfl (hb hby d5_0) rfl rfl ?_
    show Steps p.tables e below (s₁.setTop (mkF m 1 #[.val (.ref a1)] [(.ref a1)])) _
    refine st2 _ ?_
    show Steps p.tables e below (T2.setTop (mkF m 4 #[.val (.ref a1)] [])) _
    refine XS.aloadN X2.here hx rfl (hb hby d5_4) rfl rfl ?_
    show Steps p.tables e below (T2.setTop (mkF m 5 #[.val (.ref a1)] [(.ref a1)])) _
    refine st3.trans ?_
    show Steps p.tables e below (T3.setTop (mkF m 8 #[.val (.ref a1)] [(.int (1 : Int32))])) _
    refine XS.ifNo X3.here hx rfl (hb hby d5_8) rfl ((if0 _ _).trans (feq (by decide : ¬ ((1 : Int32) = (0 : Int32)))).1) ?_
    show Steps p.tables e below (T3.setTop (mkF m 11 #[.val (.ref a1)] [])) _
    refine XS.aloadN X3.here hx rfl (hb hby d5_11) rfl rfl ?_
    show Steps p.tables e below (T3.setTop (mkF m 12 #[.val (.ref a1)] [(.ref a1)])) _
    refine st5 _ ?_
    show Steps p.tables e below (T5.setTop (mkF m 15 #[.val (.ref a1)] [(.ref wF), (.ref a1)])) _
    refine Jvm.RoadKit.acmp (g := (mkF m 15 #[.val (.ref a1)] [(.ref wF), (.ref a1)])) X5 hx rfl rfl rfl (pc0 := 15) (pc' := 22) (same := false) rfl (hb hby d5_15) rfl (decide_eq_false fun q => ha15 (Value.ref.inj q)) (by decide) (by decide) ?_
    show Steps p.tables e below (T5.setTop (mkF m 22 #[.val (.ref a1)] [])) _
    refine XS.iconst X5.here hx rfl (hb hby d5_22) ?_
    show Steps p.tables e below (T5.setTop (mkF m 23 #[.val (.ref a1)] [(.int (0 : Int32))])) _
    refine st6 _ ?_
    show Steps p.tables e below (T6.setTop (mkF m 26 #[.val (.ref a1)] [(.ref wF)])) _
    jvm_step X6.here [X6.here.top, hx, (hb hby d5_26), X6.method', Bd.returns, Value.isRef, FieldType.isReference]
    first | (intro acts; rw [hr _ acts rfl rfl rfl]) | rw [hr _ _ rfl rfl rfl]
    exact Steps.refl _
  · show QV (some (.ref wF)) h0 n0 _ T6.heap _
    exact ⟨rfl, N6, e6⟩
def Q0 (Z : State) (p1 : Int32) (h0 : Heap) (n0 : Nat) (v : Option Value) (h : Heap) (L : List Loc) : Prop := v = some (.int (1 : Int32)) ∧ Fr n0 L
theorem pn_0 : plainName "com/example/lockstep/lockstep/smt/TermBoolPinLaw" = true := by first | (simp [plainName, overriddenIn]; done) | decide +kernel
theorem pd_0_0 : parseMethodDescriptor "(Z)Lcom/example/lockstep/lockstep/smt/Term;" = some ⟨[.boolean], some (.object "com/example/lockstep/lockstep/smt/Term")⟩ := by decide +kernel
theorem pd_0_1 : parseMethodDescriptor "()Z" = some ⟨[], some .boolean⟩ := by decide +kernel
theorem pd_0_2 : parseMethodDescriptor "()Lcom/example/lockstep/lockstep/smt/Sort;" = some ⟨[], some (.object "com/example/lockstep/lockstep/smt/Sort")⟩ := by decide +kernel
theorem pd_0_3 : parseMethodDescriptor "(Lcom/example/lockstep/lockstep/smt/Term;)Lcom/example/lockstep/lockstep/smt/Term;" = some ⟨[(.object "com/example/lockstep/lockstep/smt/Term")], some (.object "com/example/lockstep/lockstep/smt/Term")⟩ := by decide +kernel
theorem ef_0 (m : MethodId) (x0 : Int32) : entryFrame m #[(.int x0)] maxLocals = mkF m 0 #[.val (.int x0), .unset, .unset, .unset, .unset, .unset, .unset, .unset, .unset] [] := by first | (simp [entryFrame, mkF, argsToLocals, Value.category, maxLocals]; done) | rfl
-- its room: frames: the greatest, locals: the greatest, cells 0 + .., slots 0 + ..: rm1: frames + 1; locals 0 + 1 + 11 + its room's locals; its cells and slots besides; rm1: frames + 1; locals 0 + 1 + 11 + its room's locals; its cells and slots besides; rm2: frames + 1; locals 0 + 1 + 11 + its room's locals; its cells and slots besides; rm3: frames + 1; locals 0 + 1 + 11 + its room's locals; its cells and slots besides; rm4: frames + 1; locals 0 + 1 + 11 + its room's locals; its cells and slots besides; rm5: frames + 1; locals 0 + 1 + 11 + its room's locals; its cells and slots besides
set_option maxRecDepth 65536 in
set_option maxHeartbeats 40000000 in
theorem rm0_b1 (l : Launch) (Z : State) (a0 : Array Value) (hw : ∀ d ∈ tables_1, d.before a0 Z = true) (ws : List Jvm.Cond) (p1 : Int32) (wF wT wC so wB : Addr) (h0 : Heap) (n0 : Nat) (Z0 : n0 ≤ h0.size) (S_FALSE : Sta Z h0 "com/example/lockstep/lockstep/smt/Term" "FALSE" "Lcom/example/lockstep/lockstep/smt/Term;" (.ref wF)) (S_TRUE : Sta Z h0 "com/example/lockstep/lockstep/smt/Term" "TRUE" "Lcom/example/lockstep/lockstep/smt/Term;" (.ref wT)) (S_CONST : Sta Z h0 "com/example/lockstep/lockstep/smt/Term$Op" "CONST" "Lcom/example/lockstep/lockstep/smt/Term$Op;" (.ref wC)) (S_BOOL : Sta Z h0 "com/example/lockstep/lockstep/smt/Sort$Kind" "BOOL" "Lcom/example/lockstep/lockstep/smt/Sort$Kind;" (.ref wB)) (E_F : Exa Z h0 wF "com/example/lockstep/lockstep/smt/Term") (F_op_F : Fld Z h0 wF "com/example/lockstep/lockstep/smt/Term" "op" "Lcom/example/lockstep/lockstep/smt/Term$Op;" (.ref wC)) (F_sort_F : Fld Z h0 wF "com/example/lockstep/lockstep/smt/Term" "sort" "Lcom/example/lockstep/lockstep/smt/Sort;" (.ref so)) (E_T : Exa Z h0 wT "com/example/lockstep/lockstep/smt/Term") (F_op_T : Fld Z h0 wT "com/example/lockstep/lockstep/smt/Term" "op" "Lcom/example/lockstep/lockstep/smt/Term$Op;" (.ref wC)) (F_sort_T : Fld Z h0 wT "com/example/lockstep/lockstep/smt/Term" "sort" "Lcom/example/lockstep/lockstep/smt/Sort;" (.ref so)) (E_so : Exa Z h0 so "com/example/lockstep/lockstep/smt/Sort") (F_kind : Fld Z h0 so "com/example/lockstep/lockstep/smt/Sort" "kind" "Lcom/example/lockstep/lockstep/smt/Sort$Kind;" (.ref wB)) (ne : ¬ wF = wT) (hc3 : ¬ ((p1 &&& (1 : Int32)) = (0 : Int32))) :
    MetFree l x (head1 (Jvm.Cond.code x code maxLocals ret :: ws) room_1) (fun a U => a = #[(.int p1)] ∧ Z.Warmed39 U.vm ∧ U.heap = h0) (fun _ _ _ _ _ => True) (fun _ U o U' => ∃ v L, o = .returned v ∧ Q0 Z p1 h0 n0 v U'.heap L ∧ FrameEnd U o U' L room_1.cells room_1.slots) := by
  refine MetFree.of_bodySF (plainFor_of_name pn_0) hisR ?_
  intro p e s m args below meth c s₁ Bd hml0 hP hK
  obtain ⟨rfl, hZ, hh⟩ := hP
  have hx := Bd.exec
  have hby := Bd.bytes
  have hml : c.maxLocals = 9 := hml0
  have hown : s.vm.findClass "com/example/lockstep/lockstep/smt/TermBoolPinLaw" = some m.cls := findClass_of_methodNamed Bd.named
  have hnm := (name_of_methodNamed Bd.named Bd.method).1
  have X0 : Stand p l e room_1 s m #[(.int p1)] below meth c s₁ [] 0 0 := Stand.of_body Bd
  have e0 : s₁.heap = h0 := by rw [← hh, Bd.state]; rfl
  have N0 := Fr.nil n0
  have pre0 : ∀ t, Steps p.tables e below (s₁.setTop (mkF m 0 #[.val (.int p1), .unset, .unset, .unset, .unset, .unset, .unset, .unset, .unset] [])) t → Steps p.tables e below (s₁.setTop (entryFrame m #[(.int p1)] maxLocals)) t := fun t k => castTop (ef_0 m p1) k
  -- 3. LAWS
  -- pc 13: com/example/lockstep/lockstep/smt/Term.bool by its contract rm1
  obtain ⟨_, _, ⟨T2, L2, k2, n2⟩, -, X2, ⟨Lc2, hQ2, l2, y2, z2⟩, st2⟩ := Jvm.LawKit.callS X0 hx (y := (⟨"com/example/lockstep/lockstep/smt/Term", "bool", "(Z)Lcom/example/lockstep/lockstep/smt/Term;"⟩ : MethodName)) hown (mvT hZ (hw _ (List.mem_of_getElem? (i := 0) rfl))) (mvT hZ (hw _ (List.mem_of_getElem? (i := 1) rfl))) (mvT hZ (hw _ (List.mem_of_getElem? (i := 2) rfl))) (mvT hZ (hw _ (List.mem_of_getElem? (i := 3) rfl))) (by decide) (backOf (W := 0) (rm1_f l Z a0 hw [] (1 : Int32) wT h0 n0 Z0 S_TRUE (by decide)) hZ (hw _ (List.mem_of_getElem? (i := 3) rfl)) (hw _ (List.mem_of_getElem? (i := 2) rfl)) (by decide) (by decide)) (g := (mkF m 13 #[.val (.int p1), .val (.int (1 : Int32)), .unset, .unset, .unset, .unset, .unset, .unset, .unset] [(.int (1 : Int32))])) rfl (by rw [hml]; rfl) (argsL := [(.int (1 : Int32))]) (rest := []) (lenOf pd_0_0 rfl) rfl (by show 2 * 0 + _ ≤ _; exact Nat.le_of_eq rfl) (hb hby at_13) (fun _ _ => ⟨rfl, e0, (by decide : 0 + 0 ≤ _), (by decide : 0 + 0 ≤ _)⟩)
  dsimp only [Pt.U, Pt.locs, Pt.cells, Pt.slots] at X2 l2 y2 z2 st2 hQ2
  subst l2 y2 z2
  obtain ⟨rfl, N2q, e2⟩ := hQ2      -- what it returned, that it wrote nothing old, and the rest of your Q1
  have N2 := Fr.app N0 N2q
  -- pc 26: com/example/lockstep/lockstep/smt/Term.bool by its contract rm1
  obtain ⟨_, _, ⟨T3, L3, k3, n3⟩, -, X3, ⟨Lc3, hQ3, l3, y3, z3⟩, st3⟩ := Jvm.LawKit.callS X2 hx (y := (⟨"com/example/lockstep/lockstep/smt/Term", "bool", "(Z)Lcom/example/lockstep/lockstep/smt/Term;"⟩ : MethodName)) hown (mvT hZ (hw _ (List.mem_of_getElem? (i := 0) rfl))) (mvT hZ (hw _ (List.mem_of_getElem? (i := 1) rfl))) (mvT hZ (hw _ (List.mem_of_getElem? (i := 2) rfl))) (mvT hZ (hw _ (List.mem_of_getElem? (i := 3) rfl))) (by decide) (backOf (W := 0) (rm1_t l Z a0 hw [] (0 : Int32) wF h0 n0 Z0 S_FALSE rfl) hZ (hw _ (List.mem_of_getElem? (i := 3) rfl)) (hw _ (List.mem_of_getElem? (i := 2) rfl)) (by decide) (by decide)) (g := (mkF m 26 #[.val (.int p1), .val (.int (1 : Int32)), .val (.ref wT), .unset, .unset, .unset, .unset, .unset, .unset] [(.int (0 : Int32))])) rfl (by rw [hml]; rfl) (argsL := [(.int (0 : Int32))]) (rest := []) (lenOf pd_0_0 rfl) rfl (by show 2 * 0 + _ ≤ _; exact Nat.le_of_eq rfl) (hb hby at_26) (fun _ _ => ⟨rfl, e2, (by decide : 0 + 0 ≤ _), (by decide : 0 + 0 ≤ _)⟩)
  dsimp only [Pt.U, Pt.locs, Pt.cells, Pt.slots] at X3 l3 y3 z3 st3 hQ3
  subst l3 y3 z3
  obtain ⟨rfl, N3q, e3⟩ := hQ3      -- what it returned, that it wrote nothing old, and the rest of your Q1
  have N3 := Fr.app N2 N3q
  -- ✋ yours: S_TRUE must speak of T3.heap here (carried as the other facts are)
  obtain ⟨T5, X5, e5, st5⟩ := getS2 X3 hx hZ hown (host := "") (Or.inl (hw _ (List.mem_of_getElem? (i := 46) rfl))) Via.refl e3 S_TRUE (g := (mkF m 35 #[.val (.int p1), .val (.int (1 : Int32)), .val (.ref wT), .val (.ref wF), .unset, .unset, .unset, .unset, .unset] [(.ref wT)])) rfl (hb hby at_35)
  -- pc 76: com/example/lockstep/lockstep/smt/Term.isConstant by the contract of the body that the receiver's class selects, rm2
  -- ✋ yours, out of the call's Q: E_T : Exa Z h0 wT "com/example/lockstep/lockstep/smt/Term"
  obtain ⟨cq6, kq6, q6a, q6b, q6c⟩ := isOf hZ e5 E_T
  obtain ⟨_, _, ⟨T6, L6, k6, n6⟩, -, X6, ⟨Lc6, hQ6, l6, y6, z6⟩, st6⟩ := X5.virtualBack hx (y := (⟨"com/example/lockstep/lockstep/smt/Term", "isConstant", "()Z"⟩ : MethodName)) (z := (⟨"com/example/lockstep/lockstep/smt/Term", "isConstant", "()Z"⟩ : MethodName)) hown (mvT hZ (hw _ (List.mem_of_getElem? (i := 9) rfl))) (mvT hZ (hw _ (List.mem_of_getElem? (i := 10) rfl))) (notFace_of_selects (args := #[]) (mvT hZ (hw _ (List.mem_of_getElem? (i := 12) rfl)))) (mvT hZ (hw _ (List.mem_of_getElem? (i := 12) rfl))) (mvT hZ (hw _ (List.mem_of_getElem? (i := 11) rfl))) (by decide) (backOf (W := 0) (rm2 l Z a0 hw [] wT wC wC h0 n0 Z0 F_op_T S_CONST rfl) hZ (hw _ (List.mem_of_getElem? (i := 13) rfl)) (hw _ (List.mem_of_getElem? (i := 2) rfl)) (by decide) (by decide)) q6a q6c (g := (mkF m 76 #[.val (.int p1), .val (.int (1 : Int32)), .val (.ref wT), .val (.ref wF), .val (.int (1 : Int32)), .val (.int (1 : Int32)), .unset, .unset, .unset] [(.ref wT)])) rfl (by rw [hml]; rfl) (Steps.refl _) (argsL := []) (rest := []) (lenOf pd_0_1 rfl) rfl (by show 2 * 0 + _ ≤ _; exact Nat.le_of_eq rfl) (hb hby at_76) (fun _ _ => ⟨rfl, e5, (by decide : 0 + 0 ≤ _), (by decide : 0 + 0 ≤ _)⟩)
  dsimp only [Pt.U, Pt.locs, Pt.cells, Pt.slots] at X6 l6 y6 z6 st6 hQ6
  subst l6 y6 z6
  obtain ⟨rfl, N6q, e6⟩ := hQ6      -- what it returned, that it wrote nothing old, and the rest of your Q2
  have N6 := Fr.app N3 N6q
  -- pc 82: com/example/lockstep/lockstep/smt/Term.sort by the contract of the body that the receiver's class selects, rm3
  obtain ⟨cq7, kq7, q7a, q7b, q7c⟩ := isOf hZ e6 E_T
  obtain ⟨_, _, ⟨T7, L7, k7, n7⟩, -, X7, ⟨Lc7, hQ7, l7, y7, z7⟩, st7⟩ := X6.virtualBack hx (y := (⟨"com/example/lockstep/lockstep/smt/Term", "sort", "()Lcom/example/lockstep/lockstep/smt/Sort;"⟩ : MethodName)) (z := (⟨"com/example/lockstep/lockstep/smt/Term", "sort", "()Lcom/example/lockstep/lockstep/smt/Sort;"⟩ : MethodName)) hown (mvT hZ (hw _ (List.mem_of_getElem? (i := 19) rfl))) (mvT hZ (hw _ (List.mem_of_getElem? (i := 20) rfl))) (notFace_of_selects (args := #[]) (mvT hZ (hw _ (List.mem_of_getElem? (i := 22) rfl)))) (mvT hZ (hw _ (List.mem_of_getElem? (i := 22) rfl))) (mvT hZ (hw _ (List.mem_of_getElem? (i := 21) rfl))) (by decide) (backOf (W := 0) (rm3 l Z a0 hw [] wT so h0 n0 Z0 F_sort_T) hZ (hw _ (List.mem_of_getElem? (i := 23) rfl)) (hw _ (List.mem_of_getElem? (i := 2) rfl)) (by decide) (by decide)) q7a q7c (g := (mkF m 82 #[.val (.int p1), .val (.int (1 : Int32)), .val (.ref wT), .val (.ref wF), .val (.int (1 : Int32)), .val (.int (1 : Int32)), .val (.int (1 : Int32)), .unset, .unset] [(.ref wT)])) rfl (by rw [hml]; rfl) (Steps.refl _) (argsL := []) (rest := []) (lenOf pd_0_2 rfl) rfl (by show 2 * 0 + _ ≤ _; exact Nat.le_of_eq rfl) (hb hby at_82) (fun _ _ => ⟨rfl, e6, (by decide : 0 + 0 ≤ _), (by decide : 0 + 0 ≤ _)⟩)
  dsimp only [Pt.U, Pt.locs, Pt.cells, Pt.slots] at X7 l7 y7 z7 st7 hQ7
  subst l7 y7 z7
  obtain ⟨rfl, N7q, e7⟩ := hQ7      -- what it returned, that it wrote nothing old, and the rest of your Q3
  have N7 := Fr.app N6 N7q
  -- pc 85: com/example/lockstep/lockstep/smt/Sort.isBool by the contract of the body that the receiver's class selects, rm4
  -- ✋ yours, out of the call's Q: E_so : Exa Z h0 so "com/example/lockstep/lockstep/smt/Sort"
  obtain ⟨cq8, kq8, q8a, q8b, q8c⟩ := isOf hZ e7 E_so
  obtain ⟨_, _, ⟨T8, L8, k8, n8⟩, -, X8, ⟨Lc8, hQ8, l8, y8, z8⟩, st8⟩ := X7.virtualBack hx (y := (⟨"com/example/lockstep/lockstep/smt/Sort", "isBool", "()Z"⟩ : MethodName)) (z := (⟨"com/example/lockstep/lockstep/smt/Sort", "isBool", "()Z"⟩ : MethodName)) hown (mvT hZ (hw _ (List.mem_of_getElem? (i := 26) rfl))) (mvT hZ (hw _ (List.mem_of_getElem? (i := 27) rfl))) (notFace_of_selects (args := #[]) (mvT hZ (hw _ (List.mem_of_getElem? (i := 29) rfl)))) (mvT hZ (hw _ (List.mem_of_getElem? (i := 29) rfl))) (mvT hZ (hw _ (List.mem_of_getElem? (i := 28) rfl))) (by decide) (backOf (W := 0) (rm4 l Z a0 hw [] so wB wB h0 n0 Z0 F_kind S_BOOL rfl) hZ (hw _ (List.mem_of_getElem? (i := 31) rfl)) (hw _ (List.mem_of_getElem? (i := 30) rfl)) (by decide) (by decide)) q8a q8c (g := (mkF m 85 #[.val (.int p1), .val (.int (1 : Int32)), .val (.ref wT), .val (.ref wF), .val (.int (1 : Int32)), .val (.int (1 : Int32)), .val (.int (1 : Int32)), .unset, .unset] [(.ref so)])) rfl (by rw [hml]; rfl) (Steps.refl _) (argsL := []) (rest := []) (lenOf pd_0_1 rfl) rfl (by show 2 * 0 + _ ≤ _; exact Nat.le_of_eq rfl) (hb hby at_85) (fun _ _ => ⟨rfl, e7, (by decide : 0 + 0 ≤ _), (by decide : 0 + 0 ≤ _)⟩)
  dsimp only [Pt.U, Pt.locs, Pt.cells, Pt.slots] at X8 l8 y8 z8 st8 hQ8
  subst l8 y8 z8
  obtain ⟨rfl, N8q, e8⟩ := hQ8      -- what it returned, that it wrote nothing old, and the rest of your Q4
  have N8 := Fr.app N7 N8q
  -- pc 91: com/example/lockstep/lockstep/smt/Term.not by its contract rm5
  obtain ⟨_, _, ⟨T9, L9, k9, n9⟩, -, X9, ⟨Lc9, hQ9, l9, y9, z9⟩, st9⟩ := Jvm.LawKit.callS X8 hx (y := (⟨"com/example/lockstep/lockstep/smt/Term", "not", "(Lcom/example/lockstep/lockstep/smt/Term;)Lcom/example/lockstep/lockstep/smt/Term;"⟩ : MethodName)) hown (mvT hZ (hw _ (List.mem_of_getElem? (i := 37) rfl))) (mvT hZ (hw _ (List.mem_of_getElem? (i := 38) rfl))) (mvT hZ (hw _ (List.mem_of_getElem? (i := 2) rfl))) (mvT hZ (hw _ (List.mem_of_getElem? (i := 39) rfl))) (by decide) (backOf (W := 0) (rm5_ft l Z a0 hw [] wT wF wT wC so wB h0 n0 Z0 S_FALSE S_TRUE S_CONST S_BOOL E_T F_op_T F_sort_T E_so F_kind (fun q => ne q.symm)) hZ (hw _ (List.mem_of_getElem? (i := 39) rfl)) (hw _ (List.mem_of_getElem? (i := 2) rfl)) (by decide) (by decide)) (g := (mkF m 91 #[.val (.int p1), .val (.int (1 : Int32)), .val (.ref wT), .val (.ref wF), .val (.int (1 : Int32)), .val (.int (1 : Int32)), .val (.int (1 : Int32)), .val (.int (1 : Int32)), .unset] [(.ref wT)])) rfl (by rw [hml]; rfl) (argsL := [(.ref wT)]) (rest := []) (lenOf pd_0_3 rfl) rfl (by show 2 * 0 + _ ≤ _; exact Nat.le_of_eq rfl) (hb hby at_91) (fun _ _ => ⟨rfl, e8, (by decide : 0 + 0 ≤ _), (by decide : 0 + 0 ≤ _)⟩)
  dsimp only [Pt.U, Pt.locs, Pt.cells, Pt.slots] at X9 l9 y9 z9 st9 hQ9
  subst l9 y9 z9
  obtain ⟨rfl, N9q, e9⟩ := hQ9      -- what it returned, that it wrote nothing old, and the rest of your Q5
  have N9 := Fr.app N8 N9q
  obtain ⟨fs, hr, hrun, hended, hW, hsame⟩ := X9.leave (v := some (.int (1 : Int32))) (fun h => by rw [Bd.returns] at h; cases h)
  refine ⟨_, _, pre0 _ ?_, hrun, hended, _, _, rfl, ?_, ⟨_, rfl⟩, hW, hsame.mono (by decide) (by decide)⟩
  -- 4. STEPS
  · show Steps p.tables e below (s₁.setTop (mkF m 0 #[.val (.int p1), .unset, .unset, .unset, .unset, .unset, .unset, .unset, .unset] [])) _
    refine XS.iloadN X0.here hx rfl (hb hby at_0) rfl ?_
    show Steps p.tables e below (s₁.setTop (mkF m 1 #[.val (.int p1), .unset, .unset, .unset, .unset, .unset, .unset, .unset, .unset] [(.int p1)])) _
    refine XS.iconst X0.here hx rfl (hb hby at_1) ?_
    show Steps p.tables e below (s₁.setTop (mkF m 2 #[.val (.int p1), .unset, .unset, .unset, .unset, .unset, .unset, .unset, .unset] [(.int (1 : Int32)), (.int p1)])) _
    refine XS.iand X0.here hx rfl (hb hby at_2) rfl ?_
    show Steps p.tables e below (s₁.setTop (mkF m 3 #[.val (.int p1), .unset, .unset, .unset, .unset, .unset, .unset, .unset, .unset] [(.int (p1 &&& (1 : Int32)))])) _
    refine XS.ifNo X0.here hx rfl (hb hby at_3) rfl ((if0 _ _).trans (feq hc3).1) ?_
    show Steps p.tables e below (s₁.setTop (mkF m 6 #[.val (.int p1), .unset, .unset, .unset, .unset, .unset, .unset, .unset, .unset] [])) _
    refine XS.iconst X0.here hx rfl (hb hby at_6) ?_
    show Steps p.tables e below (s₁.setTop (mkF m 7 #[.val (.int p1), .unset, .unset, .unset, .unset, .unset, .unset, .unset, .unset] [(.int (1 : Int32))])) _
    refine XS.goto X0.here hx rfl (pc0 := 7) (pc' := 11) rfl (hb hby at_7) (by decide) (by decide) ?_
    show Steps p.tables e below (s₁.setTop (mkF m 11 #[.val (.int p1), .unset, .unset, .unset, .unset, .unset, .unset, .unset, .unset] [(.int (1 : Int32))])) _
    refine XS.istoreN X0.here hx rfl (hb hby at_11) rfl (l' := #[.val (.int p1), .val (.int (1 : Int32)), .unset, .unset, .unset, .unset, .unset, .unset, .unset]) rfl ?_
    show Steps p.tables e below (s₁.setTop (mkF m 12 #[.val (.int p1), .val (.int (1 : Int32)), .unset, .unset, .unset, .unset, .unset, .unset, .unset] [])) _
    refine XS.iloadN X0.here hx rfl (hb hby at_12) rfl ?_
    show Steps p.tables e below (s₁.setTop (mkF m 13 #[.val (.int p1), .val (.int (1 : Int32)), .unset, .unset, .unset, .unset, .unset, .unset, .unset] [(.int (1 : Int32))])) _
    refine st2 _ ?_
    show Steps p.tables e below (T2.setTop (mkF m 16 #[.val (.int p1), .val (.int (1 : Int32)), .unset, .unset, .unset, .unset, .unset, .unset, .unset] [(.ref wT)])) _
    refine XS.astoreN X2.here hx rfl (hb hby at_16) rfl rfl (l' := #[.val (.int p1), .val (.int (1 : Int32)), .val (.ref wT), .unset, .unset, .unset, .unset, .unset, .unset]) rfl ?_
    show Steps p.tables e below (T2.setTop (mkF m 17 #[.val (.int p1), .val (.int (1 : Int32)), .val (.ref wT), .unset, .unset, .unset, .unset, .unset, .unset] [])) _
    refine XS.iloadN X2.here hx rfl (hb hby at_17) rfl ?_
    show Steps p.tables e below (T2.setTop (mkF m 18 #[.val (.int p1), .val (.int (1 : Int32)), .val (.ref wT), .unset, .unset, .unset, .unset, .unset, .unset] [(.int (1 : Int32))])) _
    refine XS.ifYes X2.here hx rfl (pc0 := 18) (pc' := 25) rfl (hb hby at_18) rfl ((if0 _ _).trans (feq (by decide : ¬ ((1 : Int32) = (0 : Int32)))).2) (by decide) (by decide) ?_
    show Steps p.tables e below (T2.setTop (mkF m 25 #[.val (.int p1), .val (.int (1 : Int32)), .val (.ref wT), .unset, .unset, .unset, .unset, .unset, .unset] [])) _
    refine XS.iconst X2.here hx rfl (hb hby at_25) ?_
    show Steps p.tables e below (T2.setTop (mkF m 26 #[.val (.int p1), .val (.int (1 : Int32)), .val (.ref wT), .unset, .unset, .unset, .unset, .unset, .unset] [(.int (0 : Int32))])) _
    refine st3 _ ?_
    show Steps p.tables e below (T3.setTop (mkF m 29 #[.val (.int p1), .val (.int (1 : Int32)), .val (.ref wT), .unset, .unset, .unset, .unset, .unset, .unset] [(.ref wF)])) _
    refine XS.astoreN X3.here hx rfl (hb hby at_29) rfl rfl (l' := #[.val (.int p1), .val (.int (1 : Int32)), .val (.ref wT), .val (.ref wF), .unset, .unset, .unset, .unset, .unset]) rfl ?_
    show Steps p.tables e below (T3.setTop (mkF m 30 #[.val (.int p1), .val (.int (1 : Int32)), .val (.ref wT), .val (.ref wF), .unset, .unset, .unset, .unset, .unset] [])) _
    refine XS.iloadN X3.here hx rfl (hb hby at_30) rfl ?_
    show Steps p.tables e below (T3.setTop (mkF m 31 #[.val (.int p1), .val (.int (1 : Int32)), .val (.ref wT), .val (.ref wF), .unset, .unset, .unset, .unset, .unset] [(.int (1 : Int32))])) _
    refine XS.ifNo X3.here hx rfl (hb hby at_31) rfl ((if0 _ _).trans (feq (by decide : ¬ ((1 : Int32) = (0 : Int32)))).1) ?_
    show Steps p.tables e below (T3.setTop (mkF m 34 #[.val (.int p1), .val (.int (1 : Int32)), .val (.ref wT), .val (.ref wF), .unset, .unset, .unset, .unset, .unset] [])) _
    refine XS.aloadN X3.here hx rfl (hb hby at_34) rfl rfl ?_
    show Steps p.tables e below (T3.setTop (mkF m 35 #[.val (.int p1), .val (.int (1 : Int32)), .val (.ref wT), .val (.ref wF), .unset, .unset, .unset, .unset, .unset] [(.ref wT)])) _
    refine st5 _ ?_
    show Steps p.tables e below (T5.setTop (mkF m 38 #[.val (.int p1), .val (.int (1 : Int32)), .val (.ref wT), .val (.ref wF), .unset, .unset, .unset, .unset, .unset] [(.ref wT), (.ref wT)])) _
    refine Jvm.RoadKit.acmp (g := (mkF m 38 #[.val (.int p1), .val (.int (1 : Int32)), .val (.ref wT), .val (.ref wF), .unset, .unset, .unset, .unset, .unset] [(.ref wT), (.ref wT)])) X5 hx rfl rfl rfl (pc0 := 38) (pc' := 41) (same := true) rfl (hb hby at_38) rfl (decide_eq_true (congrArg Value.ref (rfl : wT = wT))) (by decide) (by decide) ?_
    show Steps p.tables e below (T5.setTop (mkF m 41 #[.val (.int p1), .val (.int (1 : Int32)), .val (.ref wT), .val (.ref wF), .unset, .unset, .unset, .unset, .unset] [])) _
    refine XS.iconst X5.here hx rfl (hb hby at_41) ?_
    show Steps p.tables e below (T5.setTop (mkF m 42 #[.val (.int p1), .val (.int (1 : Int32)), .val (.ref wT), .val (.ref wF), .unset, .unset, .unset, .unset, .unset] [(.int (1 : Int32))])) _
    refine XS.goto X5.here hx rfl (pc0 := 42) (pc' := 61) rfl (hb hby at_42) (by decide) (by decide) ?_
    show Steps p.tables e below (T5.setTop (mkF m 61 #[.val (.int p1), .val (.int (1 : Int32)), .val (.ref wT), .val (.ref wF), .unset, .unset, .unset, .unset, .unset] [(.int (1 : Int32))])) _
    refine XS.istore X5.here hx rfl (hb hby at_61) rfl (l' := #[.val (.int p1), .val (.int (1 : Int32)), .val (.ref wT), .val (.ref wF), .val (.int (1 : Int32)), .unset, .unset, .unset, .unset]) rfl ?_
    show Steps p.tables e below (T5.setTop (mkF m 63 #[.val (.int p1), .val (.int (1 : Int32)), .val (.ref wT), .val (.ref wF), .val (.int (1 : Int32)), .unset, .unset, .unset, .unset] [])) _
    refine XS.aloadN X5.here hx rfl (hb hby at_63) rfl rfl ?_
    show Steps p.tables e below (T5.setTop (mkF m 64 #[.val (.int p1), .val (.int (1 : Int32)), .val (.ref wT), .val (.ref wF), .val (.int (1 : Int32)), .unset, .unset, .unset, .unset] [(.ref wT)])) _
    refine XS.aloadN X5.here hx rfl (hb hby at_64) rfl rfl ?_
    show Steps p.tables e below (T5.setTop (mkF m 65 #[.val (.int p1), .val (.int (1 : Int32)), .val (.ref wT), .val (.ref wF), .val (.int (1 : Int32)), .unset, .unset, .unset, .unset] [(.ref wF), (.ref wT)])) _
    refine Jvm.RoadKit.acmp (g := (mkF m 65 #[.val (.int p1), .val (.int (1 : Int32)), .val (.ref wT), .val (.ref wF), .val (.int (1 : Int32)), .unset, .unset, .unset, .unset] [(.ref wF), (.ref wT)])) X5 hx rfl rfl rfl (pc0 := 65) (pc' := 68) (same := false) rfl (hb hby at_65) rfl (decide_eq_false fun q => (show ¬ wT = wF from fun q => ne q.symm) (Value.ref.inj q)) (by decide) (by decide) ?_
    show Steps p.tables e below (T5.setTop (mkF m 68 #[.val (.int p1), .val (.int (1 : Int32)), .val (.ref wT), .val (.ref wF), .val (.int (1 : Int32)), .unset, .unset, .unset, .unset] [])) _
    refine XS.iconst X5.here hx rfl (hb hby at_68) ?_
    show Steps p.tables e below (T5.setTop (mkF m 69 #[.val (.int p1), .val (.int (1 : Int32)), .val (.ref wT), .val (.ref wF), .val (.int (1 : Int32)), .unset, .unset, .unset, .unset] [(.int (1 : Int32))])) _
    refine XS.goto X5.here hx rfl (pc0 := 69) (pc' := 73) rfl (hb hby at_69) (by decide) (by decide) ?_
    show Steps p.tables e below (T5.setTop (mkF m 73 #[.val (.int p1), .val (.int (1 : Int32)), .val (.ref wT), .val (.ref wF), .val (.int (1 : Int32)), .unset, .unset, .unset, .unset] [(.int (1 : Int32))])) _
    refine XS.istore X5.here hx rfl (hb hby at_73) rfl (l' := #[.val (.int p1), .val (.int (1 : Int32)), .val (.ref wT), .val (.ref wF), .val (.int (1 : Int32)), .val (.int (1 : Int32)), .unset, .unset, .unset]) rfl ?_
    show Steps p.tables e below (T5.setTop (mkF m 75 #[.val (.int p1), .val (.int (1 : Int32)), .val (.ref wT), .val (.ref wF), .val (.int (1 : Int32)), .val (.int (1 : Int32)), .unset, .unset, .unset] [])) _
    refine XS.aloadN X5.here hx rfl (hb hby at_75) rfl rfl ?_
    show Steps p.tables e below (T5.setTop (mkF m 76 #[.val (.int p1), .val (.int (1 : Int32)), .val (.ref wT), .val (.ref wF), .val (.int (1 : Int32)), .val (.int (1 : Int32)), .unset, .unset, .unset] [(.ref wT)])) _
    refine st6.trans ?_
    show Steps p.tables e below (T6.setTop (mkF m 79 #[.val (.int p1), .val (.int (1 : Int32)), .val (.ref wT), .val (.ref wF), .val (.int (1 : Int32)), .val (.int (1 : Int32)), .unset, .unset, .unset] [(.int (1 : Int32))])) _
    refine XS.istore X6.here hx rfl (hb hby at_79) rfl (l' := #[.val (.int p1), .val (.int (1 : Int32)), .val (.ref wT), .val (.ref wF), .val (.int (1 : Int32)), .val (.int (1 : Int32)), .val (.int (1 : Int32)), .unset, .unset]) rfl ?_
    show Steps p.tables e below (T6.setTop (mkF m 81 #[.val (.int p1), .val (.int (1 : Int32)), .val (.ref wT), .val (.ref wF), .val (.int (1 : Int32)), .val (.int (1 : Int32)), .val (.int (1 : Int32)), .unset, .unset] [])) _
    refine XS.aloadN X6.here hx rfl (hb hby at_81) rfl rfl ?_
    show Steps p.tables e below (T6.setTop (mkF m 82 #[.val (.int p1), .val (.int (1 : Int32)), .val (.ref wT), .val (.ref wF), .val (.int (1 : Int32)), .val (.int (1 : Int32)), .val (.int (1 : Int32)), .unset, .unset] [(.ref wT)])) _
    refine st7.trans ?_
    show Steps p.tables e below (T7.setTop (mkF m 85 #[.val (.int p1), .val (.int (1 : Int32)), .val (.ref wT), .val (.ref wF), .val (.int (1 : Int32)), .val (.int (1 : Int32)), .val (.int (1 : Int32)), .unset, .unset] [(.ref so)])) _
    refine st8.trans ?_
    show Steps p.tables e below (T8.setTop (mkF m 88 #[.val (.int p1), .val (.int (1 : Int32)), .val (.ref wT), .val (.ref wF), .val (.int (1 : Int32)), .val (.int (1 : Int32)), .val (.int (1 : Int32)), .unset, .unset] [(.int (1 : Int32))])) _
    refine XS.istore X8.here hx rfl (hb hby at_88) rfl (l' := #[.val (.int p1), .val (.int (1 : Int32)), .val (.ref wT), .val (.ref wF), .val (.int (1 : Int32)), .val (.int (1 : Int32)), .val (.int (1 : Int32)), .val (.int (1 : Int32)), .unset]) rfl ?_
    show Steps p.tables e below (T8.setTop (mkF m 90 #[.val (.int p1), .val (.int (1 : Int32)), .val (.ref wT), .val (.ref wF), .val (.int (1 : Int32)), .val (.int (1 : Int32)), .val (.int (1 : Int32)), .val (.int (1 : Int32)), .unset] [])) _
    refine XS.aloadN X8.here hx rfl (hb hby at_90) rfl rfl ?_
    show Steps p.tables e below (T8.setTop (mkF m 91 #[.val (.int p1), .val (.int (1 : Int32)), .val (.ref wT), .val (.ref wF), .val (.int (1 : Int32)), .val (.int (1 : Int32)), .val (.int (1 : Int32)), .val (.int (1 : Int32)), .unset] [(.ref wT)])) _
    refine st9 _ ?_
    show Steps p.tables e below (T9.setTop (mkF m 94 #[.val (.int p1), .val (.int (1 : Int32)), .val (.ref wT), .val (.ref wF), .val (.int (1 : Int32)), .val (.int (1 : Int32)), .val (.int (1 : Int32)), .val (.int (1 : Int32)), .unset] [(.ref wF)])) _
    refine XS.aloadN X9.here hx rfl (hb hby at_94) rfl rfl ?_
    show Steps p.tables e below (T9.setTop (mkF m 95 #[.val (.int p1), .val (.int (1 : Int32)), .val (.ref wT), .val (.ref wF), .val (.int (1 : Int32)), .val (.int (1 : Int32)), .val (.int (1 : Int32)), .val (.int (1 : Int32)), .unset] [(.ref wF), (.ref wF)])) _
    refine Jvm.RoadKit.acmp (g := (mkF m 95 #[.val (.int p1), .val (.int (1 : Int32)), .val (.ref wT), .val (.ref wF), .val (.int (1 : Int32)), .val (.int (1 : Int32)), .val (.int (1 : Int32)), .val (.int (1 : Int32)), .unset] [(.ref wF), (.ref wF)])) X9 hx rfl rfl rfl (pc0 := 95) (pc' := 98) (same := true) rfl (hb hby at_95) rfl (decide_eq_true (congrArg Value.ref (rfl : wF = wF))) (by decide) (by decide) ?_
    show Steps p.tables e below (T9.setTop (mkF m 98 #[.val (.int p1), .val (.int (1 : Int32)), .val (.ref wT), .val (.ref wF), .val (.int (1 : Int32)), .val (.int (1 : Int32)), .val (.int (1 : Int32)), .val (.int (1 : Int32)), .unset] [])) _
    refine XS.iconst X9.here hx rfl (hb hby at_98) ?_
    show Steps p.tables e below (T9.setTop (mkF m 99 #[.val (.int p1), .val (.int (1 : Int32)), .val (.ref wT), .val (.ref wF), .val (.int (1 : Int32)), .val (.int (1 : Int32)), .val (.int (1 : Int32)), .val (.int (1 : Int32)), .unset] [(.int (1 : Int32))])) _
    refine XS.goto X9.here hx rfl (pc0 := 99) (pc' := 103) rfl (hb hby at_99) (by decide) (by decide) ?_
    show Steps p.tables e below (T9.setTop (mkF m 103 #[.val (.int p1), .val (.int (1 : Int32)), .val (.ref wT), .val (.ref wF), .val (.int (1 : Int32)), .val (.int (1 : Int32)), .val (.int (1 : Int32)), .val (.int (1 : Int32)), .unset] [(.int (1 : Int32))])) _
    refine XS.istore X9.here hx rfl (hb hby at_103) rfl (l' := #[.val (.int p1), .val (.int (1 : Int32)), .val (.ref wT), .val (.ref wF), .val (.int (1 : Int32)), .val (.int (1 : Int32)), .val (.int (1 : Int32)), .val (.int (1 : Int32)), .val (.int (1 : Int32))]) rfl ?_
    show Steps p.tables e below (T9.setTop (mkF m 105 #[.val (.int p1), .val (.int (1 : Int32)), .val (.ref wT), .val (.ref wF), .val (.int (1 : Int32)), .val (.int (1 : Int32)), .val (.int (1 : Int32)), .val (.int (1 : Int32)), .val (.int (1 : Int32))] [])) _
    refine XS.iload X9.here hx rfl (hb hby at_105) rfl ?_
    show Steps p.tables e below (T9.setTop (mkF m 107 #[.val (.int p1), .val (.int (1 : Int32)), .val (.ref wT), .val (.ref wF), .val (.int (1 : Int32)), .val (.int (1 : Int32)), .val (.int (1 : Int32)), .val (.int (1 : Int32)), .val (.int (1 : Int32))] [(.int (1 : Int32))])) _
    refine XS.ifNo X9.here hx rfl (hb hby at_107) rfl ((if0 _ _).trans (feq (by decide : ¬ ((1 : Int32) = (0 : Int32)))).1) ?_
    show Steps p.tables e below (T9.setTop (mkF m 110 #[.val (.int p1), .val (.int (1 : Int32)), .val (.ref wT), .val (.ref wF), .val (.int (1 : Int32)), .val (.int (1 : Int32)), .val (.int (1 : Int32)), .val (.int (1 : Int32)), .val (.int (1 : Int32))] [])) _
    refine XS.iload X9.here hx rfl (hb hby at_110) rfl ?_
    show Steps p.tables e below (T9.setTop (mkF m 112 #[.val (.int p1), .val (.int (1 : Int32)), .val (.ref wT), .val (.ref wF), .val (.int (1 : Int32)), .val (.int (1 : Int32)), .val (.int (1 : Int32)), .val (.int (1 : Int32)), .val (.int (1 : Int32))] [(.int (1 : Int32))])) _
    refine XS.ifNo X9.here hx rfl (hb hby at_112) rfl ((if0 _ _).trans (feq (by decide : ¬ ((1 : Int32) = (0 : Int32)))).1) ?_
    show Steps p.tables e below (T9.setTop (mkF m 115 #[.val (.int p1), .val (.int (1 : Int32)), .val (.ref wT), .val (.ref wF), .val (.int (1 : Int32)), .val (.int (1 : Int32)), .val (.int (1 : Int32)), .val (.int (1 : Int32)), .val (.int (1 : Int32))] [])) _
    refine XS.iload X9.here hx rfl (hb hby at_115) rfl ?_
    show Steps p.tables e below (T9.setTop (mkF m 117 #[.val (.int p1), .val (.int (1 : Int32)), .val (.ref wT), .val (.ref wF), .val (.int (1 : Int32)), .val (.int (1 : Int32)), .val (.int (1 : Int32)), .val (.int (1 : Int32)), .val (.int (1 : Int32))] [(.int (1 : Int32))])) _
    refine XS.ifNo X9.here hx rfl (hb hby at_117) rfl ((if0 _ _).trans (feq (by decide : ¬ ((1 : Int32) = (0 : Int32)))).1) ?_
    show Steps p.tables e below (T9.setTop (mkF m 120 #[.val (.int p1), .val (.int (1 : Int32)), .val (.ref wT), .val (.ref wF), .val (.int (1 : Int32)), .val (.int (1 : Int32)), .val (.int (1 : Int32)), .val (.int (1 : Int32)), .val (.int (1 : Int32))] [])) _
    refine XS.iload X9.here hx rfl (hb hby at_120) rfl ?_
    show Steps p.tables e below (T9.setTop (mkF m 122 #[.val (.int p1), .val (.int (1 : Int32)), .val (.ref wT), .val (.ref wF), .val (.int (1 : Int32)), .val (.int (1 : Int32)), .val (.int (1 : Int32)), .val (.int (1 : Int32)), .val (.int (1 : Int32))] [(.int (1 : Int32))])) _
    refine XS.ifNo X9.here hx rfl (hb hby at_122) rfl ((if0 _ _).trans (feq (by decide : ¬ ((1 : Int32) = (0 : Int32)))).1) ?_
    show Steps p.tables e below (T9.setTop (mkF m 125 #[.val (.int p1), .val (.int (1 : Int32)), .val (.ref wT), .val (.ref wF), .val (.int (1 : Int32)), .val (.int (1 : Int32)), .val (.int (1 : Int32)), .val (.int (1 : Int32)), .val (.int (1 : Int32))] [])) _
    refine XS.iload X9.here hx rfl (hb hby at_125) rfl ?_
    show Steps p.tables e below (T9.setTop (mkF m 127 #[.val (.int p1), .val (.int (1 : Int32)), .val (.ref wT), .val (.ref wF), .val (.int (1 : Int32)), .val (.int (1 : Int32)), .val (.int (1 : Int32)), .val (.int (1 : Int32)), .val (.int (1 : Int32))] [(.int (1 : Int32))])) _
    refine XS.ifNo X9.here hx rfl (hb hby at_127) rfl ((if0 _ _).trans (feq (by decide : ¬ ((1 : Int32) = (0 : Int32)))).1) ?_
    show Steps p.tables e below (T9.setTop (mkF m 130 #[.val (.int p1), .val (.int (1 : Int32)), .val (.ref wT), .val (.ref wF), .val (.int (1 : Int32)), .val (.int (1 : Int32)), .val (.int (1 : Int32)), .val (.int (1 : Int32)), .val (.int (1 : Int32))] [])) _
    refine XS.iconst X9.here hx rfl (hb hby at_130) ?_
    show Steps p.tables e below (T9.setTop (mkF m 131 #[.val (.int p1), .val (.int (1 : Int32)), .val (.ref wT), .val (.ref wF), .val (.int (1 : Int32)), .val (.int (1 : Int32)), .val (.int (1 : Int32)), .val (.int (1 : Int32)), .val (.int (1 : Int32))] [(.int (1 : Int32))])) _
    refine XS.goto X9.here hx rfl (pc0 := 131) (pc' := 135) rfl (hb hby at_131) (by decide) (by decide) ?_
    show Steps p.tables e below (T9.setTop (mkF m 135 #[.val (.int p1), .val (.int (1 : Int32)), .val (.ref wT), .val (.ref wF), .val (.int (1 : Int32)), .val (.int (1 : Int32)), .val (.int (1 : Int32)), .val (.int (1 : Int32)), .val (.int (1 : Int32))] [(.int (1 : Int32))])) _
    exact retN X9 hx (t := .boolean) Bd.returns (by simp) (hb hby at_135) hr
  · show Q0 Z p1 h0 n0 _ T9.heap _
    exact ⟨rfl, N9⟩
-- its room: frames: the greatest, locals: the greatest, cells 0 + .., slots 0 + ..: rm1: frames + 1; locals 0 + 1 + 11 + its room's locals; its cells and slots besides; rm1: frames + 1; locals 0 + 1 + 11 + its room's locals; its cells and slots besides; rm2: frames + 1; locals 0 + 1 + 11 + its room's locals; its cells and slots besides; rm3: frames + 1; locals 0 + 1 + 11 + its room's locals; its cells and slots besides; rm4: frames + 1; locals 0 + 1 + 11 + its room's locals; its cells and slots besides; rm5: frames + 1; locals 0 + 1 + 11 + its room's locals; its cells and slots besides
set_option maxRecDepth 65536 in
set_option maxHeartbeats 40000000 in
theorem rm0_b0 (l : Launch) (Z : State) (a0 : Array Value) (hw : ∀ d ∈ tables_1, d.before a0 Z = true) (ws : List Jvm.Cond) (p1 : Int32) (wF wT wC so wB : Addr) (h0 : Heap) (n0 : Nat) (Z0 : n0 ≤ h0.size) (S_FALSE : Sta Z h0 "com/example/lockstep/lockstep/smt/Term" "FALSE" "Lcom/example/lockstep/lockstep/smt/Term;" (.ref wF)) (S_TRUE : Sta Z h0 "com/example/lockstep/lockstep/smt/Term" "TRUE" "Lcom/example/lockstep/lockstep/smt/Term;" (.ref wT)) (S_CONST : Sta Z h0 "com/example/lockstep/lockstep/smt/Term$Op" "CONST" "Lcom/example/lockstep/lockstep/smt/Term$Op;" (.ref wC)) (S_BOOL : Sta Z h0 "com/example/lockstep/lockstep/smt/Sort$Kind" "BOOL" "Lcom/example/lockstep/lockstep/smt/Sort$Kind;" (.ref wB)) (E_F : Exa Z h0 wF "com/example/lockstep/lockstep/smt/Term") (F_op_F : Fld Z h0 wF "com/example/lockstep/lockstep/smt/Term" "op" "Lcom/example/lockstep/lockstep/smt/Term$Op;" (.ref wC)) (F_sort_F : Fld Z h0 wF "com/example/lockstep/lockstep/smt/Term" "sort" "Lcom/example/lockstep/lockstep/smt/Sort;" (.ref so)) (E_T : Exa Z h0 wT "com/example/lockstep/lockstep/smt/Term") (F_op_T : Fld Z h0 wT "com/example/lockstep/lockstep/smt/Term" "op" "Lcom/example/lockstep/lockstep/smt/Term$Op;" (.ref wC)) (F_sort_T : Fld Z h0 wT "com/example/lockstep/lockstep/smt/Term" "sort" "Lcom/example/lockstep/lockstep/smt/Sort;" (.ref so)) (E_so : Exa Z h0 so "com/example/lockstep/lockstep/smt/Sort") (F_kind : Fld Z h0 so "com/example/lockstep/lockstep/smt/Sort" "kind" "Lcom/example/lockstep/lockstep/smt/Sort$Kind;" (.ref wB)) (ne : ¬ wF = wT) (hc3 : (p1 &&& (1 : Int32)) = (0 : Int32)) :
    MetFree l x (head1 (Jvm.Cond.code x code maxLocals ret :: ws) room_1) (fun a U => a = #[(.int p1)] ∧ Z.Warmed39 U.vm ∧ U.heap = h0) (fun _ _ _ _ _ => True) (fun _ U o U' => ∃ v L, o = .returned v ∧ Q0 Z p1 h0 n0 v U'.heap L ∧ FrameEnd U o U' L room_1.cells room_1.slots) := by
  refine MetFree.of_bodySF (plainFor_of_name pn_0) hisR ?_
  intro p e s m args below meth c s₁ Bd hml0 hP hK
  obtain ⟨rfl, hZ, hh⟩ := hP
  have hx := Bd.exec
  have hby := Bd.bytes
  have hml : c.maxLocals = 9 := hml0
  have hown : s.vm.findClass "com/example/lockstep/lockstep/smt/TermBoolPinLaw" = some m.cls := findClass_of_methodNamed Bd.named
  have hnm := (name_of_methodNamed Bd.named Bd.method).1
  have X0 : Stand p l e room_1 s m #[(.int p1)] below meth c s₁ [] 0 0 := Stand.of_body Bd
  have e0 : s₁.heap = h0 := by rw [← hh, Bd.state]; rfl
  have N0 := Fr.nil n0
  have pre0 : ∀ t, Steps p.tables e below (s₁.setTop (mkF m 0 #[.val (.int p1), .unset, .unset, .unset, .unset, .unset, .unset, .unset, .unset] [])) t → Steps p.tables e below (s₁.setTop (entryFrame m #[(.int p1)] maxLocals)) t := fun t k => castTop (ef_0 m p1) k
  -- 3. LAWS
  -- pc 13: com/example/lockstep/lockstep/smt/Term.bool by its contract rm1
  obtain ⟨_, _, ⟨T2, L2, k2, n2⟩, -, X2, ⟨Lc2, hQ2, l2, y2, z2⟩, st2⟩ := Jvm.LawKit.callS X0 hx (y := (⟨"com/example/lockstep/lockstep/smt/Term", "bool", "(Z)Lcom/example/lockstep/lockstep/smt/Term;"⟩ : MethodName)) hown (mvT hZ (hw _ (List.mem_of_getElem? (i := 0) rfl))) (mvT hZ (hw _ (List.mem_of_getElem? (i := 1) rfl))) (mvT hZ (hw _ (List.mem_of_getElem? (i := 2) rfl))) (mvT hZ (hw _ (List.mem_of_getElem? (i := 3) rfl))) (by decide) (backOf (W := 0) (rm1_t l Z a0 hw [] (0 : Int32) wF h0 n0 Z0 S_FALSE rfl) hZ (hw _ (List.mem_of_getElem? (i := 3) rfl)) (hw _ (List.mem_of_getElem? (i := 2) rfl)) (by decide) (by decide)) (g := (mkF m 13 #[.val (.int p1), .val (.int (0 : Int32)), .unset, .unset, .unset, .unset, .unset, .unset, .unset] [(.int (0 : Int32))])) rfl (by rw [hml]; rfl) (argsL := [(.int (0 : Int32))]) (rest := []) (lenOf pd_0_0 rfl) rfl (by show 2 * 0 + _ ≤ _; exact Nat.le_of_eq rfl) (hb hby at_13) (fun _ _ => ⟨rfl, e0, (by decide : 0 + 0 ≤ _), (by decide : 0 + 0 ≤ _)⟩)
  dsimp only [Pt.U, Pt.locs, Pt.cells, Pt.slots] at X2 l2 y2 z2 st2 hQ2
  subst l2 y2 z2
  obtain ⟨rfl, N2q, e2⟩ := hQ2      -- what it returned, that it wrote nothing old, and the rest of your Q1
  have N2 := Fr.app N0 N2q
  -- pc 26: com/example/lockstep/lockstep/smt/Term.bool by its contract rm1
  obtain ⟨_, _, ⟨T3, L3, k3, n3⟩, -, X3, ⟨Lc3, hQ3, l3, y3, z3⟩, st3⟩ := Jvm.LawKit.callS X2 hx (y := (⟨"com/example/lockstep/lockstep/smt/Term", "bool", "(Z)Lcom/example/lockstep/lockstep/smt/Term;"⟩ : MethodName)) hown (mvT hZ (hw _ (List.mem_of_getElem? (i := 0) rfl))) (mvT hZ (hw _ (List.mem_of_getElem? (i := 1) rfl))) (mvT hZ (hw _ (List.mem_of_getElem? (i := 2) rfl))) (mvT hZ (hw _ (List.mem_of_getElem? (i := 3) rfl))) (by decide) (backOf (W := 0) (rm1_f l Z a0 hw [] (1 : Int32) wT h0 n0 Z0 S_TRUE (by decide)) hZ (hw _ (List.mem_of_getElem? (i := 3) rfl)) (hw _ (List.mem_of_getElem? (i := 2) rfl)) (by decide) (by decide)) (g := (mkF m 26 #[.val (.int p1), .val (.int (0 : Int32)), .val (.ref wF), .unset, .unset, .unset, .unset, .unset, .unset] [(.int (1 : Int32))])) rfl (by rw [hml]; rfl) (argsL := [(.int (1 : Int32))]) (rest := []) (lenOf pd_0_0 rfl) rfl (by show 2 * 0 + _ ≤ _; exact Nat.le_of_eq rfl) (hb hby at_26) (fun _ _ => ⟨rfl, e2, (by decide : 0 + 0 ≤ _), (by decide : 0 + 0 ≤ _)⟩)
  dsimp only [Pt.U, Pt.locs, Pt.cells, Pt.slots] at X3 l3 y3 z3 st3 hQ3
  subst l3 y3 z3
  obtain ⟨rfl, N3q, e3⟩ := hQ3      -- what it returned, that it wrote nothing old, and the rest of your Q1
  have N3 := Fr.app N2 N3q
  -- ✋ yours: S_FALSE must speak of T3.heap here (carried as the other facts are)
  obtain ⟨T5, X5, e5, st5⟩ := getS2 X3 hx hZ hown (host := "") (Or.inl (hw _ (List.mem_of_getElem? (i := 8) rfl))) Via.refl e3 S_FALSE (g := (mkF m 50 #[.val (.int p1), .val (.int (0 : Int32)), .val (.ref wF), .val (.ref wT), .unset, .unset, .unset, .unset, .unset] [(.ref wF)])) rfl (hb hby at_50)
  -- pc 76: com/example/lockstep/lockstep/smt/Term.isConstant by the contract of the body that the receiver's class selects, rm2
  -- ✋ yours, out of the call's Q: E_F : Exa Z h0 wF "com/example/lockstep/lockstep/smt/Term"
  obtain ⟨cq6, kq6, q6a, q6b, q6c⟩ := isOf hZ e5 E_F
  obtain ⟨_, _, ⟨T6, L6, k6, n6⟩, -, X6, ⟨Lc6, hQ6, l6, y6, z6⟩, st6⟩ := X5.virtualBack hx (y := (⟨"com/example/lockstep/lockstep/smt/Term", "isConstant", "()Z"⟩ : MethodName)) (z := (⟨"com/example/lockstep/lockstep/smt/Term", "isConstant", "()Z"⟩ : MethodName)) hown (mvT hZ (hw _ (List.mem_of_getElem? (i := 9) rfl))) (mvT hZ (hw _ (List.mem_of_getElem? (i := 10) rfl))) (notFace_of_selects (args := #[]) (mvT hZ (hw _ (List.mem_of_getElem? (i := 12) rfl)))) (mvT hZ (hw _ (List.mem_of_getElem? (i := 12) rfl))) (mvT hZ (hw _ (List.mem_of_getElem? (i := 11) rfl))) (by decide) (backOf (W := 0) (rm2 l Z a0 hw [] wF wC wC h0 n0 Z0 F_op_F S_CONST rfl) hZ (hw _ (List.mem_of_getElem? (i := 13) rfl)) (hw _ (List.mem_of_getElem? (i := 2) rfl)) (by decide) (by decide)) q6a q6c (g := (mkF m 76 #[.val (.int p1), .val (.int (0 : Int32)), .val (.ref wF), .val (.ref wT), .val (.int (1 : Int32)), .val (.int (1 : Int32)), .unset, .unset, .unset] [(.ref wF)])) rfl (by rw [hml]; rfl) (Steps.refl _) (argsL := []) (rest := []) (lenOf pd_0_1 rfl) rfl (by show 2 * 0 + _ ≤ _; exact Nat.le_of_eq rfl) (hb hby at_76) (fun _ _ => ⟨rfl, e5, (by decide : 0 + 0 ≤ _), (by decide : 0 + 0 ≤ _)⟩)
  dsimp only [Pt.U, Pt.locs, Pt.cells, Pt.slots] at X6 l6 y6 z6 st6 hQ6
  subst l6 y6 z6
  obtain ⟨rfl, N6q, e6⟩ := hQ6      -- what it returned, that it wrote nothing old, and the rest of your Q2
  have N6 := Fr.app N3 N6q
  -- pc 82: com/example/lockstep/lockstep/smt/Term.sort by the contract of the body that the receiver's class selects, rm3
  obtain ⟨cq7, kq7, q7a, q7b, q7c⟩ := isOf hZ e6 E_F
  obtain ⟨_, _, ⟨T7, L7, k7, n7⟩, -, X7, ⟨Lc7, hQ7, l7, y7, z7⟩, st7⟩ := X6.virtualBack hx (y := (⟨"com/example/lockstep/lockstep/smt/Term", "sort", "()Lcom/example/lockstep/lockstep/smt/Sort;"⟩ : MethodName)) (z := (⟨"com/example/lockstep/lockstep/smt/Term", "sort", "()Lcom/example/lockstep/lockstep/smt/Sort;"⟩ : MethodName)) hown (mvT hZ (hw _ (List.mem_of_getElem? (i := 19) rfl))) (mvT hZ (hw _ (List.mem_of_getElem? (i := 20) rfl))) (notFace_of_selects (args := #[]) (mvT hZ (hw _ (List.mem_of_getElem? (i := 22) rfl)))) (mvT hZ (hw _ (List.mem_of_getElem? (i := 22) rfl))) (mvT hZ (hw _ (List.mem_of_getElem? (i := 21) rfl))) (by decide) (backOf (W := 0) (rm3 l Z a0 hw [] wF so h0 n0 Z0 F_sort_F) hZ (hw _ (List.mem_of_getElem? (i := 23) rfl)) (hw _ (List.mem_of_getElem? (i := 2) rfl)) (by decide) (by decide)) q7a q7c (g := (mkF m 82 #[.val (.int p1), .val (.int (0 : Int32)), .val (.ref wF), .val (.ref wT), .val (.int (1 : Int32)), .val (.int (1 : Int32)), .val (.int (1 : Int32)), .unset, .unset] [(.ref wF)])) rfl (by rw [hml]; rfl) (Steps.refl _) (argsL := []) (rest := []) (lenOf pd_0_2 rfl) rfl (by show 2 * 0 + _ ≤ _; exact Nat.le_of_eq rfl) (hb hby at_82) (fun _ _ => ⟨rfl, e6, (by decide : 0 + 0 ≤ _), (by decide : 0 + 0 ≤ _)⟩)
  dsimp only [Pt.U, Pt.locs, Pt.cells, Pt.slots] at X7 l7 y7 z7 st7 hQ7
  subst l7 y7 z7
  obtain ⟨rfl, N7q, e7⟩ := hQ7      -- what it returned, that it wrote nothing old, and the rest of your Q3
  have N7 := Fr.app N6 N7q
  -- pc 85: com/example/lockstep/lockstep/smt/Sort.isBool by the contract of the body that the receiver's class selects, rm4
  -- ✋ yours, out of the call's Q: E_so : Exa Z h0 so "com/example/lockstep/lockstep/smt/Sort"
  obtain ⟨cq8, kq8, q8a, q8b, q8c⟩ := isOf hZ e7 E_so
  obtain ⟨_, _, ⟨T8, L8, k8, n8⟩, -, X8, ⟨Lc8, hQ8, l8, y8, z8⟩, st8⟩ := X7.virtualBack hx (y := (⟨"com/example/lockstep/lockstep/smt/Sort", "isBool", "()Z"⟩ : MethodName)) (z := (⟨"com/example/lockstep/lockstep/smt/Sort", "isBool", "()Z"⟩ : MethodName)) hown (mvT hZ (hw _ (List.mem_of_getElem? (i := 26) rfl))) (mvT hZ (hw _ (List.mem_of_getElem? (i := 27) rfl))) (notFace_of_selects (args := #[]) (mvT hZ (hw _ (List.mem_of_getElem? (i := 29) rfl)))) (mvT hZ (hw _ (List.mem_of_getElem? (i := 29) rfl))) (mvT hZ (hw _ (List.mem_of_getElem? (i := 28) rfl))) (by decide) (backOf (W := 0) (rm4 l Z a0 hw [] so wB wB h0 n0 Z0 F_kind S_BOOL rfl) hZ (hw _ (List.mem_of_getElem? (i := 31) rfl)) (hw _ (List.mem_of_getElem? (i := 30) rfl)) (by decide) (by decide)) q8a q8c (g := (mkF m 85 #[.val (.int p1), .val (.int (0 : Int32)), .val (.ref wF), .val (.ref wT), .val (.int (1 : Int32)), .val (.int (1 : Int32)), .val (.int (1 : Int32)), .unset, .unset] [(.ref so)])) rfl (by rw [hml]; rfl) (Steps.refl _) (argsL := []) (rest := []) (lenOf pd_0_1 rfl) rfl (by show 2 * 0 + _ ≤ _; exact Nat.le_of_eq rfl) (hb hby at_85) (fun _ _ => ⟨rfl, e7, (by decide : 0 + 0 ≤ _), (by decide : 0 + 0 ≤ _)⟩)
  dsimp only [Pt.U, Pt.locs, Pt.cells, Pt.slots] at X8 l8 y8 z8 st8 hQ8
  subst l8 y8 z8
  obtain ⟨rfl, N8q, e8⟩ := hQ8      -- what it returned, that it wrote nothing old, and the rest of your Q4
  have N8 := Fr.app N7 N8q
  -- pc 91: com/example/lockstep/lockstep/smt/Term.not by its contract rm5
  obtain ⟨_, _, ⟨T9, L9, k9, n9⟩, -, X9, ⟨Lc9, hQ9, l9, y9, z9⟩, st9⟩ := Jvm.LawKit.callS X8 hx (y := (⟨"com/example/lockstep/lockstep/smt/Term", "not", "(Lcom/example/lockstep/lockstep/smt/Term;)Lcom/example/lockstep/lockstep/smt/Term;"⟩ : MethodName)) hown (mvT hZ (hw _ (List.mem_of_getElem? (i := 37) rfl))) (mvT hZ (hw _ (List.mem_of_getElem? (i := 38) rfl))) (mvT hZ (hw _ (List.mem_of_getElem? (i := 2) rfl))) (mvT hZ (hw _ (List.mem_of_getElem? (i := 39) rfl))) (by decide) (backOf (W := 0) (rm5_ff l Z a0 hw [] wF wF wT wC so wB h0 n0 Z0 S_FALSE S_TRUE S_CONST S_BOOL E_F F_op_F F_sort_F E_so F_kind rfl) hZ (hw _ (List.mem_of_getElem? (i := 39) rfl)) (hw _ (List.mem_of_getElem? (i := 2) rfl)) (by decide) (by decide)) (g := (mkF m 91 #[.val (.int p1), .val (.int (0 : Int32)), .val (.ref wF), .val (.ref wT), .val (.int (1 : Int32)), .val (.int (1 : Int32)), .val (.int (1 : Int32)), .val (.int (1 : Int32)), .unset] [(.ref wF)])) rfl (by rw [hml]; rfl) (argsL := [(.ref wF)]) (rest := []) (lenOf pd_0_3 rfl) rfl (by show 2 * 0 + _ ≤ _; exact Nat.le_of_eq rfl) (hb hby at_91) (fun _ _ => ⟨rfl, e8, (by decide : 0 + 0 ≤ _), (by decide : 0 + 0 ≤ _)⟩)
  dsimp only [Pt.U, Pt.locs, Pt.cells, Pt.slots] at X9 l9 y9 z9 st9 hQ9
  subst l9 y9 z9
  obtain ⟨rfl, N9q, e9⟩ := hQ9      -- what it returned, that it wrote nothing old, and the rest of your Q5
  have N9 := Fr.app N8 N9q
  obtain ⟨fs, hr, hrun, hended, hW, hsame⟩ := X9.leave (v := some (.int (1 : Int32))) (fun h => by rw [Bd.returns] at h; cases h)
  refine ⟨_, _, pre0 _ ?_, hrun, hended, _, _, rfl, ?_, ⟨_, rfl⟩, hW, hsame.mono (by decide) (by decide)⟩
  -- 4. STEPS
  · show Steps p.tables e below (s₁.setTop (mkF m 0 #[.val (.int p1), .unset, .unset, .unset, .unset, .unset, .unset, .unset, .unset] [])) _
    refine XS.iloadN X0.here hx rfl (hb hby at_0) rfl ?_
    show Steps p.tables e below (s₁.setTop (mkF m 1 #[.val (.int p1), .unset, .unset, .unset, .unset, .unset, .unset, .unset, .unset] [(.int p1)])) _
    refine XS.iconst X0.here hx rfl (hb hby at_1) ?_
    show Steps p.tables e below (s₁.setTop (mkF m 2 #[.val (.int p1), .unset, .unset, .unset, .unset, .unset, .unset, .unset, .unset] [(.int (1 : Int32)), (.int p1)])) _
    refine XS.iand X0.here hx rfl (hb hby at_2) rfl ?_
    show Steps p.tables e below (s₁.setTop (mkF m 3 #[.val (.int p1), .unset, .unset, .unset, .unset, .unset, .unset, .unset, .unset] [(.int (p1 &&& (1 : Int32)))])) _
    refine XS.ifYes X0.here hx rfl (pc0 := 3) (pc' := 10) rfl (hb hby at_3) rfl ((if0 _ _).trans (teq hc3).1) (by decide) (by decide) ?_
    show Steps p.tables e below (s₁.setTop (mkF m 10 #[.val (.int p1), .unset, .unset, .unset, .unset, .unset, .unset, .unset, .unset] [])) _
    refine XS.iconst X0.here hx rfl (hb hby at_10) ?_
    show Steps p.tables e below (s₁.setTop (mkF m 11 #[.val (.int p1), .unset, .unset, .unset, .unset, .unset, .unset, .unset, .unset] [(.int (0 : Int32))])) _
    refine XS.istoreN X0.here hx rfl (hb hby at_11) rfl (l' := #[.val (.int p1), .val (.int (0 : Int32)), .unset, .unset, .unset, .unset, .unset, .unset, .unset]) rfl ?_
    show Steps p.tables e below (s₁.setTop (mkF m 12 #[.val (.int p1), .val (.int (0 : Int32)), .unset, .unset, .unset, .unset, .unset, .unset, .unset] [])) _
    refine XS.iloadN X0.here hx rfl (hb hby at_12) rfl ?_
    show Steps p.tables e below (s₁.setTop (mkF m 13 #[.val (.int p1), .val (.int (0 : Int32)), .unset, .unset, .unset, .unset, .unset, .unset, .unset] [(.int (0 : Int32))])) _
    refine st2 _ ?_
    show Steps p.tables e below (T2.setTop (mkF m 16 #[.val (.int p1), .val (.int (0 : Int32)), .unset, .unset, .unset, .unset, .unset, .unset, .unset] [(.ref wF)])) _
    refine XS.astoreN X2.here hx rfl (hb hby at_16) rfl rfl (l' := #[.val (.int p1), .val (.int (0 : Int32)), .val (.ref wF), .unset, .unset, .unset, .unset, .unset, .unset]) rfl ?_
    show Steps p.tables e below (T2.setTop (mkF m 17 #[.val (.int p1), .val (.int (0 : Int32)), .val (.ref wF), .unset, .unset, .unset, .unset, .unset, .unset] [])) _
    refine XS.iloadN X2.here hx rfl (hb hby at_17) rfl ?_
    show Steps p.tables e below (T2.setTop (mkF m 18 #[.val (.int p1), .val (.int (0 : Int32)), .val (.ref wF), .unset, .unset, .unset, .unset, .unset, .unset] [(.int (0 : Int32))])) _
    refine XS.ifNo X2.here hx rfl (hb hby at_18) rfl ((if0 _ _).trans (teq (rfl : (0 : Int32) = (0 : Int32))).2) ?_
    show Steps p.tables e below (T2.setTop (mkF m 21 #[.val (.int p1), .val (.int (0 : Int32)), .val (.ref wF), .unset, .unset, .unset, .unset, .unset, .unset] [])) _
    refine XS.iconst X2.here hx rfl (hb hby at_21) ?_
    show Steps p.tables e below (T2.setTop (mkF m 22 #[.val (.int p1), .val (.int (0 : Int32)), .val (.ref wF), .unset, .unset, .unset, .unset, .unset, .unset] [(.int (1 : Int32))])) _
    refine XS.goto X2.here hx rfl (pc0 := 22) (pc' := 26) rfl (hb hby at_22) (by decide) (by decide) ?_
    show Steps p.tables e below (T2.setTop (mkF m 26 #[.val (.int p1), .val (.int (0 : Int32)), .val (.ref wF), .unset, .unset, .unset, .unset, .unset, .unset] [(.int (1 : Int32))])) _
    refine st3 _ ?_
    show Steps p.tables e below (T3.setTop (mkF m 29 #[.val (.int p1), .val (.int (0 : Int32)), .val (.ref wF), .unset, .unset, .unset, .unset, .unset, .unset] [(.ref wT)])) _
    refine XS.astoreN X3.here hx rfl (hb hby at_29) rfl rfl (l' := #[.val (.int p1), .val (.int (0 : Int32)), .val (.ref wF), .val (.ref wT), .unset, .unset, .unset, .unset, .unset]) rfl ?_
    show Steps p.tables e below (T3.setTop (mkF m 30 #[.val (.int p1), .val (.int (0 : Int32)), .val (.ref wF), .val (.ref wT), .unset, .unset, .unset, .unset, .unset] [])) _
    refine XS.iloadN X3.here hx rfl (hb hby at_30) rfl ?_
    show Steps p.tables e below (T3.setTop (mkF m 31 #[.val (.int p1), .val (.int (0 : Int32)), .val (.ref wF), .val (.ref wT), .unset, .unset, .unset, .unset, .unset] [(.int (0 : Int32))])) _
    refine XS.ifYes X3.here hx rfl (pc0 := 31) (pc' := 49) rfl (hb hby at_31) rfl ((if0 _ _).trans (teq (rfl : (0 : Int32) = (0 : Int32))).1) (by decide) (by decide) ?_
    show Steps p.tables e below (T3.setTop (mkF m 49 #[.val (.int p1), .val (.int (0 : Int32)), .val (.ref wF), .val (.ref wT), .unset, .unset, .unset, .unset, .unset] [])) _
    refine XS.aloadN X3.here hx rfl (hb hby at_49) rfl rfl ?_
    show Steps p.tables e below (T3.setTop (mkF m 50 #[.val (.int p1), .val (.int (0 : Int32)), .val (.ref wF), .val (.ref wT), .unset, .unset, .unset, .unset, .unset] [(.ref wF)])) _
    refine st5 _ ?_
    show Steps p.tables e below (T5.setTop (mkF m 53 #[.val (.int p1), .val (.int (0 : Int32)), .val (.ref wF), .val (.ref wT), .unset, .unset, .unset, .unset, .unset] [(.ref wF), (.ref wF)])) _
    refine Jvm.RoadKit.acmp (g := (mkF m 53 #[.val (.int p1), .val (.int (0 : Int32)), .val (.ref wF), .val (.ref wT), .unset, .unset, .unset, .unset, .unset] [(.ref wF), (.ref wF)])) X5 hx rfl rfl rfl (pc0 := 53) (pc' := 56) (same := true) rfl (hb hby at_53) rfl (decide_eq_true (congrArg Value.ref (rfl : wF = wF))) (by decide) (by decide) ?_
    show Steps p.tables e below (T5.setTop (mkF m 56 #[.val (.int p1), .val (.int (0 : Int32)), .val (.ref wF), .val (.ref wT), .unset, .unset, .unset, .unset, .unset] [])) _
    refine XS.iconst X5.here hx rfl (hb hby at_56) ?_
    show Steps p.tables e below (T5.setTop (mkF m 57 #[.val (.int p1), .val (.int (0 : Int32)), .val (.ref wF), .val (.ref wT), .unset, .unset, .unset, .unset, .unset] [(.int (1 : Int32))])) _
    refine XS.goto X5.here hx rfl (pc0 := 57) (pc' := 61) rfl (hb hby at_57) (by decide) (by decide) ?_
    show Steps p.tables e below (T5.setTop (mkF m 61 #[.val (.int p1), .val (.int (0 : Int32)), .val (.ref wF), .val (.ref wT), .unset, .unset, .unset, .unset, .unset] [(.int (1 : Int32))])) _
    refine XS.istore X5.here hx rfl (hb hby at_61) rfl (l' := #[.val (.int p1), .val (.int (0 : Int32)), .val (.ref wF), .val (.ref wT), .val (.int (1 : Int32)), .unset, .unset, .unset, .unset]) rfl ?_
    show Steps p.tables e below (T5.setTop (mkF m 63 #[.val (.int p1), .val (.int (0 : Int32)), .val (.ref wF), .val (.ref wT), .val (.int (1 : Int32)), .unset, .unset, .unset, .unset] [])) _
    refine XS.aloadN X5.here hx rfl (hb hby at_63) rfl rfl ?_
    show Steps p.tables e below (T5.setTop (mkF m 64 #[.val (.int p1), .val (.int (0 : Int32)), .val (.ref wF), .val (.ref wT), .val (.int (1 : Int32)), .unset, .unset, .unset, .unset] [(.ref wF)])) _
    refine XS.aloadN X5.here hx rfl (hb hby at_64) rfl rfl ?_
    show Steps p.tables e below (T5.setTop (mkF m 65 #[.val (.int p1), .val (.int (0 : Int32)), .val (.ref wF), .val (.ref wT), .val (.int (1 : Int32)), .unset, .unset, .unset, .unset] [(.ref wT), (.ref wF)])) _
    refine Jvm.RoadKit.acmp (g := (mkF m 65 #[.val (.int p1), .val (.int (0 : Int32)), .val (.ref wF), .val (.ref wT), .val (.int (1 : Int32)), .unset, .unset, .unset, .unset] [(.ref wT), (.ref wF)])) X5 hx rfl rfl rfl (pc0 := 65) (pc' := 68) (same := false) rfl (hb hby at_65) rfl (decide_eq_false fun q => (show ¬ wF = wT from ne) (Value.ref.inj q)) (by decide) (by decide) ?_
    show Steps p.tables e below (T5.setTop (mkF m 68 #[.val (.int p1), .val (.int (0 : Int32)), .val (.ref wF), .val (.ref wT), .val (.int (1 : Int32)), .unset, .unset, .unset, .unset] [])) _
    refine XS.iconst X5.here hx rfl (hb hby at_68) ?_
    show Steps p.tables e below (T5.setTop (mkF m 69 #[.val (.int p1), .val (.int (0 : Int32)), .val (.ref wF), .val (.ref wT), .val (.int (1 : Int32)), .unset, .unset, .unset, .unset] [(.int (1 : Int32))])) _
    refine XS.goto X5.here hx rfl (pc0 := 69) (pc' := 73) rfl (hb hby at_69) (by decide) (by decide) ?_
    show Steps p.tables e below (T5.setTop (mkF m 73 #[.val (.int p1), .val (.int (0 : Int32)), .val (.ref wF), .val (.ref wT), .val (.int (1 : Int32)), .unset, .unset, .unset, .unset] [(.int (1 : Int32))])) _
    refine XS.istore X5.here hx rfl (hb hby at_73) rfl (l' := #[.val (.int p1), .val (.int (0 : Int32)), .val (.ref wF), .val (.ref wT), .val (.int (1 : Int32)), .val (.int (1 : Int32)), .unset, .unset, .unset]) rfl ?_
    show Steps p.tables e below (T5.setTop (mkF m 75 #[.val (.int p1), .val (.int (0 : Int32)), .val (.ref wF), .val (.ref wT), .val (.int (1 : Int32)), .val (.int (1 : Int32)), .unset, .unset, .unset] [])) _
    refine XS.aloadN X5.here hx rfl (hb hby at_75) rfl rfl ?_
    show Steps p.tables e below (T5.setTop (mkF m 76 #[.val (.int p1), .val (.int (0 : Int32)), .val (.ref wF), .val (.ref wT), .val (.int (1 : Int32)), .val (.int (1 : Int32)), .unset, .unset, .unset] [(.ref wF)])) _
    refine st6.trans ?_
    show Steps p.tables e below (T6.setTop (mkF m 79 #[.val (.int p1), .val (.int (0 : Int32)), .val (.ref wF), .val (.ref wT), .val (.int (1 : Int32)), .val (.int (1 : Int32)), .unset, .unset, .unset] [(.int (1 : Int32))])) _
    refine XS.istore X6.here hx rfl (hb hby at_79) rfl (l' := #[.val (.int p1), .val (.int (0 : Int32)), .val (.ref wF), .val (.ref wT), .val (.int (1 : Int32)), .val (.int (1 : Int32)), .val (.int (1 : Int32)), .unset, .unset]) rfl ?_
    show Steps p.tables e below (T6.setTop (mkF m 81 #[.val (.int p1), .val (.int (0 : Int32)), .val (.ref wF), .val (.ref wT), .val (.int (1 : Int32)), .val (.int (1 : Int32)), .val (.int (1 : Int32)), .unset, .unset] [])) _
    refine XS.aloadN X6.here hx rfl (hb hby at_81) rfl rfl ?_
    show Steps p.tables e below (T6.setTop (mkF m 82 #[.val (.int p1), .val (.int (0 : Int32)), .val (.ref wF), .val (.ref wT), .val (.int (1 : Int32)), .val (.int (1 : Int32)), .val (.int (1 : Int32)), .unset, .unset] [(.ref wF)])) _
    refine st7.trans ?_
    show Steps p.tables e below (T7.setTop (mkF m 85 #[.val (.int p1), .val (.int (0 : Int32)), .val (.ref wF), .val (.ref wT), .val (.int (1 : Int32)), .val (.int (1 : Int32)), .val (.int (1 : Int32)), .unset, .unset] [(.ref so)])) _
    refine st8.trans ?_
    show Steps p.tables e below (T8.setTop (mkF m 88 #[.val (.int p1), .val (.int (0 : Int32)), .val (.ref wF), .val (.ref wT), .val (.int (1 : Int32)), .val (.int (1 : Int32)), .val (.int (1 : Int32)), .unset, .unset] [(.int (1 : Int32))])) _
    refine XS.istore X8.here hx rfl (hb hby at_88) rfl (l' := #[.val (.int p1), .val (.int (0 : Int32)), .val (.ref wF), .val (.ref wT), .val (.int (1 : Int32)), .val (.int (1 : Int32)), .val (.int (1 : Int32)), .val (.int (1 : Int32)), .unset]) rfl ?_
    show Steps p.tables e below (T8.setTop (mkF m 90 #[.val (.int p1), .val (.int (0 : Int32)), .val (.ref wF), .val (.ref wT), .val (.int (1 : Int32)), .val (.int (1 : Int32)), .val (.int (1 : Int32)), .val (.int (1 : Int32)), .unset] [])) _
    refine XS.aloadN X8.here hx rfl (hb hby at_90) rfl rfl ?_
    show Steps p.tables e below (T8.setTop (mkF m 91 #[.val (.int p1), .val (.int (0 : Int32)), .val (.ref wF), .val (.ref wT), .val (.int (1 : Int32)), .val (.int (1 : Int32)), .val (.int (1 : Int32)), .val (.int (1 : Int32)), .unset] [(.ref wF)])) _
    refine st9 _ ?_
    show Steps p.tables e below (T9.setTop (mkF m 94 #[.val (.int p1), .val (.int (0 : Int32)), .val (.ref wF), .val (.ref wT), .val (.int (1 : Int32)), .val (.int (1 : Int32)), .val (.int (1 : Int32)), .val (.int (1 : Int32)), .unset] [(.ref wT)])) _
    refine XS.aloadN X9.here hx rfl (hb hby at_94) rfl rfl ?_
    show Steps p.tables e below (T9.setTop (mkF m 95 #[.val (.int p1), .val (.int (0 : Int32)), .val (.ref wF), .val (.ref wT), .val (.int (1 : Int32)), .val (.int (1 : Int32)), .val (.int (1 : Int32)), .val (.int (1 : Int32)), .unset] [(.ref wT), (.ref wT)])) _
    refine Jvm.RoadKit.acmp (g := (mkF m 95 #[.val (.int p1), .val (.int (0 : Int32)), .val (.ref wF), .val (.ref wT), .val (.int (1 : Int32)), .val (.int (1 : Int32)), .val (.int (1 : Int32)), .val (.int (1 : Int32)), .unset] [(.ref wT), (.ref wT)])) X9 hx rfl rfl rfl (pc0 := 95) (pc' := 98) (same := true) rfl (hb hby at_95) rfl (decide_eq_true (congrArg Value.ref (rfl : wT = wT))) (by decide) (by decide) ?_
    show Steps p.tables e below (T9.setTop (mkF m 98 #[.val (.int p1), .val (.int (0 : Int32)), .val (.ref wF), .val (.ref wT), .val (.int (1 : Int32)), .val (.int (1 : Int32)), .val (.int (1 : Int32)), .val (.int (1 : Int32)), .unset] [])) _
    refine XS.iconst X9.here hx rfl (hb hby at_98) ?_
    show Steps p.tables e below (T9.setTop (mkF m 99 #[.val (.int p1), .val (.int (0 : Int32)), .val (.ref wF), .val (.ref wT), .val (.int (1 : Int32)), .val (.int (1 : Int32)), .val (.int (1 : Int32)), .val (.int (1 : Int32)), .unset] [(.int (1 : Int32))])) _
    refine XS.goto X9.here hx rfl (pc0 := 99) (pc' := 103) rfl (hb hby at_99) (by decide) (by decide) ?_
    show Steps p.tables e below (T9.setTop (mkF m 103 #[.val (.int p1), .val (.int (0 : Int32)), .val (.ref wF), .val (.ref wT), .val (.int (1 : Int32)), .val (.int (1 : Int32)), .val (.int (1 : Int32)), .val (.int (1 : Int32)), .unset] [(.int (1 : Int32))])) _
    refine XS.istore X9.here hx rfl (hb hby at_103) rfl (l' := #[.val (.int p1), .val (.int (0 : Int32)), .val (.ref wF), .val (.ref wT), .val (.int (1 : Int32)), .val (.int (1 : Int32)), .val (.int (1 : Int32)), .val (.int (1 : Int32)), .val (.int (1 : Int32))]) rfl ?_
    show Steps p.tables e below (T9.setTop (mkF m 105 #[.val (.int p1), .val (.int (0 : Int32)), .val (.ref wF), .val (.ref wT), .val (.int (1 : Int32)), .val (.int (1 : Int32)), .val (.int (1 : Int32)), .val (.int (1 : Int32)), .val (.int (1 : Int32))] [])) _
    refine XS.iload X9.here hx rfl (hb hby at_105) rfl ?_
    show Steps p.tables e below (T9.setTop (mkF m 107 #[.val (.int p1), .val (.int (0 : Int32)), .val (.ref wF), .val (.ref wT), .val (.int (1 : Int32)), .val (.int (1 : Int32)), .val (.int (1 : Int32)), .val (.int (1 : Int32)), .val (.int (1 : Int32))] [(.int (1 : Int32))])) _
    refine XS.ifNo X9.here hx rfl (hb hby at_107) rfl ((if0 _ _).trans (feq (by decide : ¬ ((1 : Int32) = (0 : Int32)))).1) ?_
    show Steps p.tables e below (T9.setTop (mkF m 110 #[.val (.int p1), .val (.int (0 : Int32)), .val (.ref wF), .val (.ref wT), .val (.int (1 : Int32)), .val (.int (1 : Int32)), .val (.int (1 : Int32)), .val (.int (1 : Int32)), .val (.int (1 : Int32))] [])) _
    refine XS.iload X9.here hx rfl (hb hby at_110) rfl ?_
    show Steps p.tables e below (T9.setTop (mkF m 112 #[.val (.int p1), .val (.int (0 : Int32)), .val (.ref wF), .val (.ref wT), .val (.int (1 : Int32)), .val (.int (1 : Int32)), .val (.int (1 : Int32)), .val (.int (1 : Int32)), .val (.int (1 : Int32))] [(.int (1 : Int32))])) _
    refine XS.ifNo X9.here hx rfl (hb hby at_112) rfl ((if0 _ _).trans (feq (by decide : ¬ ((1 : Int32) = (0 : Int32)))).1) ?_
    show Steps p.tables e below (T9.setTop (mkF m 115 #[.val (.int p1), .val (.int (0 : Int32)), .val (.ref wF), .val (.ref wT), .val (.int (1 : Int32)), .val (.int (1 : Int32)), .val (.int (1 : Int32)), .val (.int (1 : Int32)), .val (.int (1 : Int32))] [])) _
    refine XS.iload X9.here hx rfl (hb hby at_115) rfl ?_
    show Steps p.tables e below (T9.setTop (mkF m 117 #[.val (.int p1), .val (.int (0 : Int32)), .val (.ref wF), .val (.ref wT), .val (.int (1 : Int32)), .val (.int (1 : Int32)), .val (.int (1 : Int32)), .val (.int (1 : Int32)), .val (.int (1 : Int32))] [(.int (1 : Int32))])) _
    refine XS.ifNo X9.here hx rfl (hb hby at_117) rfl ((if0 _ _).trans (feq (by decide : ¬ ((1 : Int32) = (0 : Int32)))).1) ?_
    show Steps p.tables e below (T9.setTop (mkF m 120 #[.val (.int p1), .val (.int (0 : Int32)), .val (.ref wF), .val (.ref wT), .val (.int (1 : Int32)), .val (.int (1 : Int32)), .val (.int (1 : Int32)), .val (.int (1 : Int32)), .val (.int (1 : Int32))] [])) _
    refine XS.iload X9.here hx rfl (hb hby at_120) rfl ?_
    show Steps p.tables e below (T9.setTop (mkF m 122 #[.val (.int p1), .val (.int (0 : Int32)), .val (.ref wF), .val (.ref wT), .val (.int (1 : Int32)), .val (.int (1 : Int32)), .val (.int (1 : Int32)), .val (.int (1 : Int32)), .val (.int (1 : Int32))] [(.int (1 : Int32))])) _
    refine XS.ifNo X9.here hx rfl (hb hby at_122) rfl ((if0 _ _).trans (feq (by decide : ¬ ((1 : Int32) = (0 : Int32)))).1) ?_
    show Steps p.tables e below (T9.setTop (mkF m 125 #[.val (.int p1), .val (.int (0 : Int32)), .val (.ref wF), .val (.ref wT), .val (.int (1 : Int32)), .val (.int (1 : Int32)), .val (.int (1 : Int32)), .val (.int (1 : Int32)), .val (.int (1 : Int32))] [])) _
    refine XS.iload X9.here hx rfl (hb hby at_125) rfl ?_
    show Steps p.tables e below (T9.setTop (mkF m 127 #[.val (.int p1), .val (.int (0 : Int32)), .val (.ref wF), .val (.ref wT), .val (.int (1 : Int32)), .val (.int (1 : Int32)), .val (.int (1 : Int32)), .val (.int (1 : Int32)), .val (.int (1 : Int32))] [(.int (1 : Int32))])) _
    refine XS.ifNo X9.here hx rfl (hb hby at_127) rfl ((if0 _ _).trans (feq (by decide : ¬ ((1 : Int32) = (0 : Int32)))).1) ?_
    show Steps p.tables e below (T9.setTop (mkF m 130 #[.val (.int p1), .val (.int (0 : Int32)), .val (.ref wF), .val (.ref wT), .val (.int (1 : Int32)), .val (.int (1 : Int32)), .val (.int (1 : Int32)), .val (.int (1 : Int32)), .val (.int (1 : Int32))] [])) _
    refine XS.iconst X9.here hx rfl (hb hby at_130) ?_
    show Steps p.tables e below (T9.setTop (mkF m 131 #[.val (.int p1), .val (.int (0 : Int32)), .val (.ref wF), .val (.ref wT), .val (.int (1 : Int32)), .val (.int (1 : Int32)), .val (.int (1 : Int32)), .val (.int (1 : Int32)), .val (.int (1 : Int32))] [(.int (1 : Int32))])) _
    refine XS.goto X9.here hx rfl (pc0 := 131) (pc' := 135) rfl (hb hby at_131) (by decide) (by decide) ?_
    show Steps p.tables e below (T9.setTop (mkF m 135 #[.val (.int p1), .val (.int (0 : Int32)), .val (.ref wF), .val (.ref wT), .val (.int (1 : Int32)), .val (.int (1 : Int32)), .val (.int (1 : Int32)), .val (.int (1 : Int32)), .val (.int (1 : Int32))] [(.int (1 : Int32))])) _
    exact retN X9 hx (t := .boolean) Bd.returns (by simp) (hb hby at_135) hr
  · show Q0 Z p1 h0 n0 _ T9.heap _
    exact ⟨rfl, N9⟩
theorem own_all (l : Launch) (Z : State) (a0 : Array Value) (hw : ∀ d ∈ tables_1, d.before a0 Z = true) (ws : List Jvm.Cond) (p1 : Int32) (wF wT wC so wB : Addr) (h0 : Heap) (n0 : Nat) (Z0 : n0 ≤ h0.size) (S_FALSE : Sta Z h0 "com/example/lockstep/lockstep/smt/Term" "FALSE" "Lcom/example/lockstep/lockstep/smt/Term;" (.ref wF)) (S_TRUE : Sta Z h0 "com/example/lockstep/lockstep/smt/Term" "TRUE" "Lcom/example/lockstep/lockstep/smt/Term;" (.ref wT)) (S_CONST : Sta Z h0 "com/example/lockstep/lockstep/smt/Term$Op" "CONST" "Lcom/example/lockstep/lockstep/smt/Term$Op;" (.ref wC)) (S_BOOL : Sta Z h0 "com/example/lockstep/lockstep/smt/Sort$Kind" "BOOL" "Lcom/example/lockstep/lockstep/smt/Sort$Kind;" (.ref wB)) (E_F : Exa Z h0 wF "com/example/lockstep/lockstep/smt/Term") (F_op_F : Fld Z h0 wF "com/example/lockstep/lockstep/smt/Term" "op" "Lcom/example/lockstep/lockstep/smt/Term$Op;" (.ref wC)) (F_sort_F : Fld Z h0 wF "com/example/lockstep/lockstep/smt/Term" "sort" "Lcom/example/lockstep/lockstep/smt/Sort;" (.ref so)) (E_T : Exa Z h0 wT "com/example/lockstep/lockstep/smt/Term") (F_op_T : Fld Z h0 wT "com/example/lockstep/lockstep/smt/Term" "op" "Lcom/example/lockstep/lockstep/smt/Term$Op;" (.ref wC)) (F_sort_T : Fld Z h0 wT "com/example/lockstep/lockstep/smt/Term" "sort" "Lcom/example/lockstep/lockstep/smt/Sort;" (.ref so)) (E_so : Exa Z h0 so "com/example/lockstep/lockstep/smt/Sort") (F_kind : Fld Z h0 so "com/example/lockstep/lockstep/smt/Sort" "kind" "Lcom/example/lockstep/lockstep/smt/Sort$Kind;" (.ref wB)) (ne : ¬ wF = wT) :
    MetFree l x (head1 (Jvm.Cond.code x code maxLocals ret :: ws) room_1) (fun a U => a = #[(.int p1)] ∧ Z.Warmed39 U.vm ∧ U.heap = h0) (fun _ _ _ _ _ => True) (fun _ U o U' => ∃ v L, o = .returned v ∧ Q0 Z p1 h0 n0 v U'.heap L ∧ FrameEnd U o U' L room_1.cells room_1.slots) := by
  by_cases hc3 : (p1 &&& (1 : Int32)) = (0 : Int32)
  · exact rm0_b0 l Z a0 hw ws p1 wF wT wC so wB h0 n0 Z0 S_FALSE S_TRUE S_CONST S_BOOL E_F F_op_F F_sort_F E_T F_op_T F_sort_T E_so F_kind ne hc3
  · exact rm0_b1 l Z a0 hw ws p1 wF wT wC so wB h0 n0 Z0 S_FALSE S_TRUE S_CONST S_BOOL E_F F_op_F F_sort_F E_T F_op_T F_sort_T E_so F_kind ne hc3
theorem own_eqr {args : Array Value} {s : State} {X F : Term} {y : Addr} (hF : F.eval args s none [] s = some (.ref y)) (h : (Jvm.Cond.eq X F).value args s none s [] = some true) : X.eval args s none [] s = some (.ref y) := by
  obtain ⟨u, v, hu, hv, -, k2⟩ := cmp_v (Or.inl h)
  cases hF.symm.trans hv
  have hr : u.isRef = true := k2.2
  have q := gotT (eq_R hu hF hr rfl) h
  rw [hu, q]
-- 5. FROM THE CASE'S WORDS TO rm0_b0, AND THE OWED THEOREMS
set_option maxRecDepth 65536 in
set_option maxHeartbeats 40000000 in
theorem comes_1 {Post : Tables → Env → Array Value → State → Outcome → State → Prop} (hpost : ∀ tb e args s v u, (limb_1_1.after args s (.returned v) u = true ∧ limb_1_2.after args s (.returned v) u = true ∧ True) → FrameEnd s (.returned v) u (Jvm.fieldLocs frame_1_writes args s ++ Jvm.arrayLocs frame_1_arrays args s ++ Jvm.staticLocs frame_1_statics s) 0 0 → Post tb e args s (.returned v) u) :
    ArmFor flags0 classFile x code maxLocals ret World_1 tables_1 room_1 Calls_1 rest_1 Pre_1 Post := by
  intro l hfl _ _ p e ha hc hk s m args below hf hA hF happ hP
  obtain ⟨hcalls, hrest, hpre⟩ := hP
  obtain ⟨-, -, -, hnamed, -, -, -, hat⟩ := (Spec.applies_iff hf).mp happ
  obtain ⟨hg, hn⟩ := and_e (Cond.before_iff.mp (show (Jvm.Cond.and given_1 narrow_1).before args s = true from hpre))
  obtain ⟨g10, g11⟩ := and_e hg
  obtain ⟨w0, rfl⟩ : ∃ w0 : Value, args = #[w0] := by
    have hs : args.size = 1 := by simpa [Cond.value, given_1] using g10
    obtain ⟨L⟩ := args
    match L, hs with
    | [w0], _ => exact ⟨w0, rfl⟩
  have hw := fun d (hd : d ∈ tables_1) => atoms_spec (ws := Jvm.Cond.code x code maxLocals ret :: tables_1) hat d (List.mem_cons_of_mem _ hd)
  have hfit : Fit s := fun {y c} hc i hi => by
    obtain ⟨ha, rfl⟩ := Array.getElem?_eq_some_iff.mp hc
    have q := List.all_eq_true.mp ((Array.all_eq_true_iff_forall_mem.mp hF) _ (Array.getElem_mem ha)) i (List.mem_range.mpr hi)
    simpa [Array.getElem?_eq_getElem hi] using q
  obtain ⟨i0, ei0⟩ := is_v g11
  obtain rfl : w0 = (.int i0) := Option.some.inj ei0
  obtain ⟨c1, hn⟩ := and_e hn
  obtain ⟨c2, hn⟩ := and_e hn
  obtain ⟨c3, hn⟩ := and_e hn
  obtain ⟨c4, hn⟩ := and_e hn
  obtain ⟨c5, hn⟩ := and_e hn
  obtain ⟨c6, hn⟩ := and_e hn
  obtain ⟨c7, hn⟩ := and_e hn
  obtain ⟨c8, hn⟩ := and_e hn
  obtain ⟨c9, c10⟩ := and_e hn
  obtain ⟨wF, vF⟩ := exa_v c1
  obtain ⟨wT, vT⟩ := exa_v c2
  obtain ⟨wC, vC⟩ := exa_v c4
  obtain ⟨so, vS⟩ := exa_v c6
  obtain ⟨wB, vB⟩ := exa_v c7
  have ne : ¬ wF = wT := fun q => gotF (eq_R vF vT rfl rfl) (not_v c3) (congrArg Value.ref q)
  have o1 := Fld.start ((fld_at vF).symm.trans (own_eqr vC c5))
  have o2 := Fld.start ((fld_at vF).symm.trans vS)
  have o3 := Fld.start ((fld_at vS).symm.trans (own_eqr vB c8))
  have o4 := Fld.start ((fld_at vT).symm.trans (own_eqr vC c9))
  have o5 := Fld.start ((fld_at vT).symm.trans (own_eqr vS c10))
  have SF := Sta.start vF (Or.inr ⟨hw _ (List.mem_of_getElem? (i := 2) rfl), hw _ (List.mem_of_getElem? (i := 5) rfl)⟩)
  have ST := Sta.start vT (Or.inr ⟨hw _ (List.mem_of_getElem? (i := 2) rfl), hw _ (List.mem_of_getElem? (i := 7) rfl)⟩)
  have SC := Sta.start vC (Or.inr ⟨hw _ (List.mem_of_getElem? (i := 16) rfl), hw _ (List.mem_of_getElem? (i := 17) rfl)⟩)
  have SB := Sta.start vB (Or.inr ⟨hw _ (List.mem_of_getElem? (i := 34) rfl), hw _ (List.mem_of_getElem? (i := 35) rfl)⟩)
  obtain ⟨n, o, h1, h2, h3, _, L, rfl, ⟨rfl, N⟩, hq⟩ := own_all l s _ hw tables_1 i0 wF wT wC so wB s.heap s.heap.size (Nat.le_refl _) SF ST SC SB (Exa.start vF c1) o1 o2 (Exa.start vT c2) o4 o5 (Exa.start vS c6) o3 ne p e ha hc hk s m _ below hf ((Spec.applies_iff_loose hf).mp happ).1 ⟨rfl, State.Warmed39.refl s, rfl⟩ trivial
  refine ⟨n, _, h1, h2, h3, hpost _ _ _ _ _ _ ⟨Cond.after_iff.mpr rfl, Cond.after_iff.mpr (eq_i res_at (Term.int_eval (1)) rfl), trivial⟩ ⟨hq.1, hq.2.1, (hq.2.2.sift fun y hy => Or.inr (N y hy)).mono (by decide) (by decide)⟩⟩
theorem main_1_1 : Claimed_1_1 := comes_1 fun _ _ _ _ _ _ h hF => ⟨h.1, hF⟩
theorem main_1_2 : Claimed_1_2 := comes_1 fun _ _ _ _ _ _ h hF => ⟨h.2.1, hF⟩
end Jvm.Pilot.@@N@@
namespace Jvm.Pilot.@@N@@
open Jvm Jvm.ClassFile Sem Op Lib Jvm.Free Jvm.Stand Jvm.Pilot.@@N@@.Jvm.D
/-! MADE BY PROGRAM (witnessworld.py) out of the Statement's table words and the real class files: 14 classes; the members and pool entries that the words name. The judged class is class 1, her method 1. -/
namespace start1
open Jvm.ClassFile
def u (s : String) : CpInfo := .utf8 (stringToUtf16 s)
/-- a pool by its gaps: so many unusable entries, then the entry; so many at the end -/
def gap : Nat → List CpInfo → List CpInfo
  | 0, r => r
  | n + 1, r => .unusable :: gap n r
def poolList (es : List (Nat × CpInfo)) (last : Nat) : List CpInfo := es.foldr (fun e r => gap e.1 (e.2 :: r)) (gap last [])
def pool (es : List (Nat × CpInfo)) (last : Nat) : Array CpInfo := ⟨poolList es last⟩
def fileOf (pool : Array CpInfo) (this : Nat) (attrs : Array Attribute := #[]) (ms : Array MethodInfo := #[]) (fl : Nat := 33) (sup : Nat := 0) (ifs : Array Nat := #[]) (fds : Array FieldInfo := #[]) : ClassFile where
  minorVersion := 0
  majorVersion := 65
  constantPool := pool
  accessFlags := fl
  thisClass := this
  superClass := sup
  interfaces := ifs
  fields := fds
  methods := ms
  attributes := attrs
def plain (name : String) (sup : Option ClassId) : Class where
  name := name
  kind := .ordinary
  loader := none
  accessFlags := 33
  super := sup
  interfaces := #[]
  cf := none
  fields := #[]
  methods := #[]
  instanceTypes := #[]
  staticTypes := #[]
  resolved := #[]
  callSites := []
  init := .initialized
  statics := none
  mirror := none

def pool0 : Array CpInfo := pool [(5, u "<init>"), (0, u "()V"), (1, .class_ 10), (1, u "java/lang/Object")] 113

def k0m0 : Method := { name := "<init>", desc := "()V", sig := { parameters := [], returnType := none }, accessFlags := 1, code := none }
/-- java/lang/Object -/
def k0 : Class := { plain "java/lang/Object" none with
  accessFlags := 33
  interfaces := #[]
  cf := some (fileOf pool0 8 #[] #[{ accessFlags := 1, nameIndex := 5, descriptorIndex := 6, attributes := #[] }] 33 0 #[] #[])
  fields := #[]
  methods := #[k0m0]
  instanceTypes := #[]
  staticTypes := #[]
  resolved := Array.replicate 124 none
  statics := none }

def pool1 : Array CpInfo := pool [(2, .class_ 4), (1, u "java/lang/Object"), (0, u "<init>"), (0, u "()V"), (0, .methodref 8 9), (0, .class_ 10), (0, .nameAndType 11 12), (0, u "com/example/lockstep/lockstep/smt/Term"), (0, u "bool"), (0, u "(Z)Lcom/example/lockstep/lockstep/smt/Term;"), (0, .fieldref 8 14), (0, .nameAndType 15 16), (0, u "TRUE"), (0, u "Lcom/example/lockstep/lockstep/smt/Term;"), (0, .fieldref 8 18), (0, .nameAndType 19 16), (0, u "FALSE"), (0, .methodref 8 21), (0, .nameAndType 22 23), (0, u "isConstant"), (0, u "()Z"), (0, .methodref 8 25), (0, .nameAndType 26 27), (0, u "sort"), (0, u "()Lcom/example/lockstep/lockstep/smt/Sort;"), (0, .methodref 29 30), (0, .class_ 31), (0, .nameAndType 32 23), (0, u "com/example/lockstep/lockstep/smt/Sort"), (0, u "isBool"), (0, .methodref 8 34), (0, .nameAndType 35 36), (0, u "not"), (0, u "(Lcom/example/lockstep/lockstep/smt/Term;)Lcom/example/lockstep/lockstep/smt/Term;"), (0, .class_ 38), (0, u "com/example/lockstep/lockstep/smt/TermBoolPinLaw"), (2, u "law"), (0, u "(I)Z")] 3

def k1m0 : Method := { name := "<init>", desc := "()V", sig := { parameters := [], returnType := none }, accessFlags := 2, code := none }
def k1c1 : Code := { maxStack := 2, maxLocals := 9, code := code, exceptionTable := #[], attributes := #[] }
def k1m1 : Method := { name := "law", desc := "(I)Z", sig := { parameters := [.int], returnType := some .boolean }, accessFlags := 9, code := some k1c1 }
/-- com/example/lockstep/lockstep/smt/TermBoolPinLaw -/
def k1 : Class := { plain "com/example/lockstep/lockstep/smt/TermBoolPinLaw" (some 0) with
  accessFlags := 49
  interfaces := #[]
  cf := some (fileOf pool1 37 #[] #[{ accessFlags := 2, nameIndex := 5, descriptorIndex := 6, attributes := #[] }, { accessFlags := 9, nameIndex := 41, descriptorIndex := 42, attributes := #[] }] 49 2 #[] #[])
  fields := #[]
  methods := #[k1m0, k1m1]
  instanceTypes := #[]
  staticTypes := #[]
  resolved := Array.replicate 46 none
  statics := none }

def pool2 : Array CpInfo := pool [(2, .class_ 4), (1, u "java/lang/Object"), (2, .fieldref 8 9), (0, .class_ 10), (0, .nameAndType 11 12), (0, u "com/example/lockstep/lockstep/smt/Term"), (0, u "op"), (0, u "Lcom/example/lockstep/lockstep/smt/Term$Op;"), (0, .fieldref 8 14), (0, .nameAndType 15 16), (0, u "sort"), (0, u "Lcom/example/lockstep/lockstep/smt/Sort;"), (2, u "args"), (0, u "Ljava/util/List;"), (2, u "indices"), (2, u "value"), (0, u "Ljava/math/BigInteger;"), (2, u "name"), (0, u "Ljava/lang/String;"), (13, .fieldref 46 47), (0, .class_ 48), (0, .nameAndType 49 12), (0, u "com/example/lockstep/lockstep/smt/Term$Op"), (0, u "CONST"), (1, .class_ 53), (1, u "com/example/lockstep/lockstep/smt/Sort"), (18, .fieldref 8 73), (0, .nameAndType 74 75), (0, u "TRUE"), (0, u "Lcom/example/lockstep/lockstep/smt/Term;"), (0, .fieldref 8 77), (0, .nameAndType 78 75), (0, u "FALSE"), (3, u "()Z"), (3, u "()Lcom/example/lockstep/lockstep/smt/Sort;"), (7, u "(Lcom/example/lockstep/lockstep/smt/Term;)Lcom/example/lockstep/lockstep/smt/Term;"), (7, .methodref 51 103), (0, .nameAndType 104 82), (0, u "isBool"), (14, .methodref 8 120), (0, .nameAndType 121 122), (0, u "bool"), (0, u "(Z)Lcom/example/lockstep/lockstep/smt/Term;"), (4, .class_ 129), (1, u "com/example/lockstep/lockstep/smt/Term$Rounding"), (153, .methodref 8 284), (0, .nameAndType 285 286), (0, u "requireBool"), (0, u "(Lcom/example/lockstep/lockstep/smt/Term;)V"), (0, .methodref 8 288), (0, .nameAndType 289 82), (0, u "isConstant"), (76, u "not"), (119, .class_ 487), (0, u "com/example/lockstep/lockstep/smt/Term$Indices"), (8, .class_ 497), (0, u "com/example/lockstep/lockstep/smt/Term$Reads"), (116, u "NAN32"), (0, u "J"), (1, u "NAN64")] 136

def k2c0 : Code := { maxStack := 1, maxLocals := 1, code := prog_258_method_4_code, exceptionTable := #[], attributes := #[] }
def k2m0 : Method := { name := "bool", desc := "(Z)Lcom/example/lockstep/lockstep/smt/Term;", sig := { parameters := [.boolean], returnType := some (.object "com/example/lockstep/lockstep/smt/Term") }, accessFlags := 9, code := some k2c0 }
def k2c1 : Code := { maxStack := 8, maxLocals := 1, code := prog_258_method_15_code, exceptionTable := #[], attributes := #[] }
def k2m1 : Method := { name := "not", desc := "(Lcom/example/lockstep/lockstep/smt/Term;)Lcom/example/lockstep/lockstep/smt/Term;", sig := { parameters := [(.object "com/example/lockstep/lockstep/smt/Term")], returnType := some (.object "com/example/lockstep/lockstep/smt/Term") }, accessFlags := 9, code := some k2c1 }
def k2c2 : Code := { maxStack := 1, maxLocals := 1, code := prog_258_method_46_code, exceptionTable := #[], attributes := #[] }
def k2m2 : Method := { name := "sort", desc := "()Lcom/example/lockstep/lockstep/smt/Sort;", sig := { parameters := [], returnType := some (.object "com/example/lockstep/lockstep/smt/Sort") }, accessFlags := 1, code := some k2c2 }
def k2c3 : Code := { maxStack := 2, maxLocals := 1, code := prog_258_method_51_code, exceptionTable := #[], attributes := #[] }
def k2m3 : Method := { name := "isConstant", desc := "()Z", sig := { parameters := [], returnType := some .boolean }, accessFlags := 1, code := some k2c3 }
def k2c4 : Code := { maxStack := 3, maxLocals := 1, code := prog_258_method_52_code, exceptionTable := #[], attributes := #[] }
def k2m4 : Method := { name := "requireBool", desc := "(Lcom/example/lockstep/lockstep/smt/Term;)V", sig := { parameters := [(.object "com/example/lockstep/lockstep/smt/Term")], returnType := none }, accessFlags := 10, code := some k2c4 }
/-- com/example/lockstep/lockstep/smt/Term -/
def k2 : Class := { plain "com/example/lockstep/lockstep/smt/Term" (some 0) with
  accessFlags := 49
  interfaces := #[]
  cf := some (fileOf pool2 8 #[.nestMembers #[486, 496, 127, 46]] #[{ accessFlags := 9, nameIndex := 121, descriptorIndex := 122, attributes := #[] }, { accessFlags := 9, nameIndex := 366, descriptorIndex := 94, attributes := #[] }, { accessFlags := 1, nameIndex := 15, descriptorIndex := 86, attributes := #[] }, { accessFlags := 1, nameIndex := 289, descriptorIndex := 82, attributes := #[] }, { accessFlags := 10, nameIndex := 285, descriptorIndex := 286, attributes := #[] }] 49 2 #[] #[{ accessFlags := 26, nameIndex := 614, descriptorIndex := 615, attributes := #[] }, { accessFlags := 26, nameIndex := 617, descriptorIndex := 615, attributes := #[] }, { accessFlags := 25, nameIndex := 74, descriptorIndex := 75, attributes := #[] }, { accessFlags := 25, nameIndex := 78, descriptorIndex := 75, attributes := #[] }, { accessFlags := 18, nameIndex := 11, descriptorIndex := 12, attributes := #[] }, { accessFlags := 18, nameIndex := 15, descriptorIndex := 16, attributes := #[] }, { accessFlags := 18, nameIndex := 19, descriptorIndex := 20, attributes := #[] }, { accessFlags := 18, nameIndex := 23, descriptorIndex := 20, attributes := #[] }, { accessFlags := 18, nameIndex := 26, descriptorIndex := 27, attributes := #[] }, { accessFlags := 18, nameIndex := 30, descriptorIndex := 31, attributes := #[] }])
  fields := #[{ name := "NAN32", type := .long, accessFlags := 26, slot := 0, constantValue := 0 }, { name := "NAN64", type := .long, accessFlags := 26, slot := 1, constantValue := 0 }, { name := "TRUE", type := (.object "com/example/lockstep/lockstep/smt/Term"), accessFlags := 25, slot := 2, constantValue := 0 }, { name := "FALSE", type := (.object "com/example/lockstep/lockstep/smt/Term"), accessFlags := 25, slot := 3, constantValue := 0 }, { name := "op", type := (.object "com/example/lockstep/lockstep/smt/Term$Op"), accessFlags := 18, slot := 0, constantValue := 0 }, { name := "sort", type := (.object "com/example/lockstep/lockstep/smt/Sort"), accessFlags := 18, slot := 1, constantValue := 0 }, { name := "args", type := (.object "java/util/List"), accessFlags := 18, slot := 2, constantValue := 0 }, { name := "indices", type := (.object "java/util/List"), accessFlags := 18, slot := 3, constantValue := 0 }, { name := "value", type := (.object "java/math/BigInteger"), accessFlags := 18, slot := 4, constantValue := 0 }, { name := "name", type := (.object "java/lang/String"), accessFlags := 18, slot := 5, constantValue := 0 }]
  methods := #[k2m0, k2m1, k2m2, k2m3, k2m4]
  instanceTypes := #[(.object "com/example/lockstep/lockstep/smt/Term$Op"), (.object "com/example/lockstep/lockstep/smt/Sort"), (.object "java/util/List"), (.object "java/util/List"), (.object "java/math/BigInteger"), (.object "java/lang/String")]
  staticTypes := #[.long, .long, (.object "com/example/lockstep/lockstep/smt/Term"), (.object "com/example/lockstep/lockstep/smt/Term")]
  resolved := Array.replicate 754 none
  statics := some 0 }

def pool3 : Array CpInfo := pool [(1, .class_ 2), (0, u "java/lang/constant/Constable"), (0, .class_ 4), (0, u "java/lang/Object")] 6

/-- java/lang/constant/Constable -/
def k3 : Class := { plain "java/lang/constant/Constable" (some 0) with
  accessFlags := 1537
  interfaces := #[]
  cf := some (fileOf pool3 1 #[] #[] 1537 3 #[] #[])
  fields := #[]
  methods := #[]
  instanceTypes := #[]
  staticTypes := #[]
  resolved := Array.replicate 11 none
  statics := none }

def pool4 : Array CpInfo := pool [(1, .class_ 2), (0, u "java/lang/Comparable"), (0, .class_ 4), (0, u "java/lang/Object")] 7

/-- java/lang/Comparable -/
def k4 : Class := { plain "java/lang/Comparable" (some 0) with
  accessFlags := 1537
  interfaces := #[]
  cf := some (fileOf pool4 1 #[] #[] 1537 3 #[] #[])
  fields := #[]
  methods := #[]
  instanceTypes := #[]
  staticTypes := #[]
  resolved := Array.replicate 12 none
  statics := none }

def pool5 : Array CpInfo := pool [(1, .class_ 2), (0, u "java/io/Serializable"), (0, .class_ 4), (0, u "java/lang/Object")] 2

/-- java/io/Serializable -/
def k5 : Class := { plain "java/io/Serializable" (some 0) with
  accessFlags := 1537
  interfaces := #[]
  cf := some (fileOf pool5 1 #[] #[] 1537 3 #[] #[])
  fields := #[]
  methods := #[]
  instanceTypes := #[]
  staticTypes := #[]
  resolved := Array.replicate 7 none
  statics := none }

def pool6 : Array CpInfo := pool [(2, .class_ 4), (1, u "java/lang/Enum"), (0, u "name"), (0, u "Ljava/lang/String;"), (2, u "ordinal"), (0, u "I"), (1, .class_ 14), (1, u "java/lang/Object"), (4, u "hash"), (86, .class_ 108), (1, u "java/lang/Enum$EnumDesc"), (2, .class_ 112), (0, u "java/lang/constant/Constable"), (0, .class_ 114), (0, u "java/lang/Comparable"), (0, .class_ 116), (0, u "java/io/Serializable")] 87

/-- java/lang/Enum -/
def k6 : Class := { plain "java/lang/Enum" (some 0) with
  accessFlags := 1057
  interfaces := #[3, 4, 5]
  cf := some (fileOf pool6 2 #[.nestMembers #[106]] #[] 1057 12 #[111, 113, 115] #[{ accessFlags := 18, nameIndex := 5, descriptorIndex := 6, attributes := #[] }, { accessFlags := 18, nameIndex := 9, descriptorIndex := 10, attributes := #[] }, { accessFlags := 2, nameIndex := 19, descriptorIndex := 10, attributes := #[] }])
  fields := #[{ name := "name", type := (.object "java/lang/String"), accessFlags := 18, slot := 0, constantValue := 0 }, { name := "ordinal", type := .int, accessFlags := 18, slot := 1, constantValue := 0 }, { name := "hash", type := .int, accessFlags := 2, slot := 2, constantValue := 0 }]
  methods := #[]
  instanceTypes := #[(.object "java/lang/String"), .int, .int]
  staticTypes := #[]
  resolved := Array.replicate 204 none
  statics := none }

def pool7 : Array CpInfo := pool [(1, .class_ 2), (0, u "com/example/lockstep/lockstep/smt/Term$Op"), (2, u "CONST"), (0, u "Lcom/example/lockstep/lockstep/smt/Term$Op;"), (2, u "VAR"), (2, u "NOT"), (2, u "AND"), (2, u "OR"), (2, u "XOR"), (2, u "ITE"), (2, u "EQ"), (2, u "BVADD"), (2, u "BVSUB"), (2, u "BVMUL"), (2, u "BVUDIV"), (2, u "BVUREM"), (2, u "BVSDIV"), (2, u "BVSREM"), (2, u "BVSHL"), (2, u "BVLSHR"), (2, u "BVASHR"), (2, u "BVAND"), (2, u "BVOR"), (2, u "BVXOR"), (2, u "BVULT"), (2, u "BVULE"), (2, u "BVUGT"), (2, u "BVUGE"), (2, u "BVSLT"), (2, u "BVSLE"), (2, u "BVSGT"), (2, u "BVSGE"), (2, u "EXTRACT"), (2, u "ZERO_EXTEND"), (2, u "SIGN_EXTEND"), (2, u "CONCAT"), (2, u "FP_ABS"), (2, u "FP_NEG"), (2, u "FP_ADD"), (2, u "FP_SUB"), (2, u "FP_MUL"), (2, u "FP_DIV"), (2, u "FP_FMA"), (2, u "FP_SQRT"), (2, u "FP_REM"), (2, u "FP_ROUND_TO_INTEGRAL"), (2, u "FP_EQ"), (2, u "FP_LT"), (2, u "FP_LEQ"), (2, u "FP_GT"), (2, u "FP_GEQ"), (2, u "FP_IS_NAN"), (2, u "FP_IS_INFINITE"), (2, u "FP_IS_ZERO"), (2, u "FP_IS_NEGATIVE"), (2, u "TO_FP"), (2, u "TO_FP_UNSIGNED"), (2, u "FP_TO_SBV"), (2, u "FP_TO_UBV"), (2, u "SELECT"), (2, u "STORE"), (2, u "CONST_ARRAY"), (2, u "$VALUES"), (0, u "[Lcom/example/lockstep/lockstep/smt/Term$Op;"), (6, .class_ 193), (1, u "java/lang/Enum"), (8, u "smtlib"), (0, u "Ljava/lang/String;"), (190, u "COMPARISONS"), (0, u "Ljava/util/Set;"), (5, u "ROUNDED"), (2, u "TESTS"), (5, u "CONVERSIONS"), (15, .class_ 427), (0, u "com/example/lockstep/lockstep/smt/Term")] 2

/-- com/example/lockstep/lockstep/smt/Term$Op -/
def k7 : Class := { plain "com/example/lockstep/lockstep/smt/Term$Op" (some 6) with
  accessFlags := 16433
  interfaces := #[]
  cf := some (fileOf pool7 1 #[.nestHost 426] #[] 16433 191 #[] #[{ accessFlags := 16409, nameIndex := 5, descriptorIndex := 6, attributes := #[] }, { accessFlags := 16409, nameIndex := 9, descriptorIndex := 6, attributes := #[] }, { accessFlags := 16409, nameIndex := 12, descriptorIndex := 6, attributes := #[] }, { accessFlags := 16409, nameIndex := 15, descriptorIndex := 6, attributes := #[] }, { accessFlags := 16409, nameIndex := 18, descriptorIndex := 6, attributes := #[] }, { accessFlags := 16409, nameIndex := 21, descriptorIndex := 6, attributes := #[] }, { accessFlags := 16409, nameIndex := 24, descriptorIndex := 6, attributes := #[] }, { accessFlags := 16409, nameIndex := 27, descriptorIndex := 6, attributes := #[] }, { accessFlags := 16409, nameIndex := 30, descriptorIndex := 6, attributes := #[] }, { accessFlags := 16409, nameIndex := 33, descriptorIndex := 6, attributes := #[] }, { accessFlags := 16409, nameIndex := 36, descriptorIndex := 6, attributes := #[] }, { accessFlags := 16409, nameIndex := 39, descriptorIndex := 6, attributes := #[] }, { accessFlags := 16409, nameIndex := 42, descriptorIndex := 6, attributes := #[] }, { accessFlags := 16409, nameIndex := 45, descriptorIndex := 6, attributes := #[] }, { accessFlags := 16409, nameIndex := 48, descriptorIndex := 6, attributes := #[] }, { accessFlags := 16409, nameIndex := 51, descriptorIndex := 6, attributes := #[] }, { accessFlags := 16409, nameIndex := 54, descriptorIndex := 6, attributes := #[] }, { accessFlags := 16409, nameIndex := 57, descriptorIndex := 6, attributes := #[] }, { accessFlags := 16409, nameIndex := 60, descriptorIndex := 6, attributes := #[] }, { accessFlags := 16409, nameIndex := 63, descriptorIndex := 6, attributes := #[] }, { accessFlags := 16409, nameIndex := 66, descriptorIndex := 6, attributes := #[] }, { accessFlags := 16409, nameIndex := 69, descriptorIndex := 6, attributes := #[] }, { accessFlags := 16409, nameIndex := 72, descriptorIndex := 6, attributes := #[] }, { accessFlags := 16409, nameIndex := 75, descriptorIndex := 6, attributes := #[] }, { accessFlags := 16409, nameIndex := 78, descriptorIndex := 6, attributes := #[] }, { accessFlags := 16409, nameIndex := 81, descriptorIndex := 6, attributes := #[] }, { accessFlags := 16409, nameIndex := 84, descriptorIndex := 6, attributes := #[] }, { accessFlags := 16409, nameIndex := 87, descriptorIndex := 6, attributes := #[] }, { accessFlags := 16409, nameIndex := 90, descriptorIndex := 6, attributes := #[] }, { accessFlags := 16409, nameIndex := 93, descriptorIndex := 6, attributes := #[] }, { accessFlags := 16409, nameIndex := 96, descriptorIndex := 6, attributes := #[] }, { accessFlags := 16409, nameIndex := 99, descriptorIndex := 6, attributes := #[] }, { accessFlags := 16409, nameIndex := 102, descriptorIndex := 6, attributes := #[] }, { accessFlags := 16409, nameIndex := 105, descriptorIndex := 6, attributes := #[] }, { accessFlags := 16409, nameIndex := 108, descriptorIndex := 6, attributes := #[] }, { accessFlags := 16409, nameIndex := 111, descriptorIndex := 6, attributes := #[] }, { accessFlags := 16409, nameIndex := 114, descriptorIndex := 6, attributes := #[] }, { accessFlags := 16409, nameIndex := 117, descriptorIndex := 6, attributes := #[] }, { accessFlags := 16409, nameIndex := 120, descriptorIndex := 6, attributes := #[] }, { accessFlags := 16409, nameIndex := 123, descriptorIndex := 6, attributes := #[] }, { accessFlags := 16409, nameIndex := 126, descriptorIndex := 6, attributes := #[] }, { accessFlags := 16409, nameIndex := 129, descriptorIndex := 6, attributes := #[] }, { accessFlags := 16409, nameIndex := 132, descriptorIndex := 6, attributes := #[] }, { accessFlags := 16409, nameIndex := 135, descriptorIndex := 6, attributes := #[] }, { accessFlags := 16409, nameIndex := 138, descriptorIndex := 6, attributes := #[] }, { accessFlags := 16409, nameIndex := 141, descriptorIndex := 6, attributes := #[] }, { accessFlags := 16409, nameIndex := 144, descriptorIndex := 6, attributes := #[] }, { accessFlags := 16409, nameIndex := 147, descriptorIndex := 6, attributes := #[] }, { accessFlags := 16409, nameIndex := 150, descriptorIndex := 6, attributes := #[] }, { accessFlags := 16409, nameIndex := 153, descriptorIndex := 6, attributes := #[] }, { accessFlags := 16409, nameIndex := 156, descriptorIndex := 6, attributes := #[] }, { accessFlags := 16409, nameIndex := 159, descriptorIndex := 6, attributes := #[] }, { accessFlags := 16409, nameIndex := 162, descriptorIndex := 6, attributes := #[] }, { accessFlags := 16409, nameIndex := 165, descriptorIndex := 6, attributes := #[] }, { accessFlags := 16409, nameIndex := 168, descriptorIndex := 6, attributes := #[] }, { accessFlags := 16409, nameIndex := 171, descriptorIndex := 6, attributes := #[] }, { accessFlags := 16409, nameIndex := 174, descriptorIndex := 6, attributes := #[] }, { accessFlags := 16409, nameIndex := 177, descriptorIndex := 6, attributes := #[] }, { accessFlags := 16409, nameIndex := 180, descriptorIndex := 6, attributes := #[] }, { accessFlags := 26, nameIndex := 394, descriptorIndex := 395, attributes := #[] }, { accessFlags := 26, nameIndex := 401, descriptorIndex := 395, attributes := #[] }, { accessFlags := 26, nameIndex := 404, descriptorIndex := 395, attributes := #[] }, { accessFlags := 26, nameIndex := 410, descriptorIndex := 395, attributes := #[] }, { accessFlags := 18, nameIndex := 202, descriptorIndex := 203, attributes := #[] }, { accessFlags := 4122, nameIndex := 183, descriptorIndex := 184, attributes := #[] }])
  fields := #[{ name := "CONST", type := (.object "com/example/lockstep/lockstep/smt/Term$Op"), accessFlags := 16409, slot := 0, constantValue := 0 }, { name := "VAR", type := (.object "com/example/lockstep/lockstep/smt/Term$Op"), accessFlags := 16409, slot := 1, constantValue := 0 }, { name := "NOT", type := (.object "com/example/lockstep/lockstep/smt/Term$Op"), accessFlags := 16409, slot := 2, constantValue := 0 }, { name := "AND", type := (.object "com/example/lockstep/lockstep/smt/Term$Op"), accessFlags := 16409, slot := 3, constantValue := 0 }, { name := "OR", type := (.object "com/example/lockstep/lockstep/smt/Term$Op"), accessFlags := 16409, slot := 4, constantValue := 0 }, { name := "XOR", type := (.object "com/example/lockstep/lockstep/smt/Term$Op"), accessFlags := 16409, slot := 5, constantValue := 0 }, { name := "ITE", type := (.object "com/example/lockstep/lockstep/smt/Term$Op"), accessFlags := 16409, slot := 6, constantValue := 0 }, { name := "EQ", type := (.object "com/example/lockstep/lockstep/smt/Term$Op"), accessFlags := 16409, slot := 7, constantValue := 0 }, { name := "BVADD", type := (.object "com/example/lockstep/lockstep/smt/Term$Op"), accessFlags := 16409, slot := 8, constantValue := 0 }, { name := "BVSUB", type := (.object "com/example/lockstep/lockstep/smt/Term$Op"), accessFlags := 16409, slot := 9, constantValue := 0 }, { name := "BVMUL", type := (.object "com/example/lockstep/lockstep/smt/Term$Op"), accessFlags := 16409, slot := 10, constantValue := 0 }, { name := "BVUDIV", type := (.object "com/example/lockstep/lockstep/smt/Term$Op"), accessFlags := 16409, slot := 11, constantValue := 0 }, { name := "BVUREM", type := (.object "com/example/lockstep/lockstep/smt/Term$Op"), accessFlags := 16409, slot := 12, constantValue := 0 }, { name := "BVSDIV", type := (.object "com/example/lockstep/lockstep/smt/Term$Op"), accessFlags := 16409, slot := 13, constantValue := 0 }, { name := "BVSREM", type := (.object "com/example/lockstep/lockstep/smt/Term$Op"), accessFlags := 16409, slot := 14, constantValue := 0 }, { name := "BVSHL", type := (.object "com/example/lockstep/lockstep/smt/Term$Op"), accessFlags := 16409, slot := 15, constantValue := 0 }, { name := "BVLSHR", type := (.object "com/example/lockstep/lockstep/smt/Term$Op"), accessFlags := 16409, slot := 16, constantValue := 0 }, { name := "BVASHR", type := (.object "com/example/lockstep/lockstep/smt/Term$Op"), accessFlags := 16409, slot := 17, constantValue := 0 }, { name := "BVAND", type := (.object "com/example/lockstep/lockstep/smt/Term$Op"), accessFlags := 16409, slot := 18, constantValue := 0 }, { name := "BVOR", type := (.object "com/example/lockstep/lockstep/smt/Term$Op"), accessFlags := 16409, slot := 19, constantValue := 0 }, { name := "BVXOR", type := (.object "com/example/lockstep/lockstep/smt/Term$Op"), accessFlags := 16409, slot := 20, constantValue := 0 }, { name := "BVULT", type := (.object "com/example/lockstep/lockstep/smt/Term$Op"), accessFlags := 16409, slot := 21, constantValue := 0 }, { name := "BVULE", type := (.object "com/example/lockstep/lockstep/smt/Term$Op"), accessFlags := 16409, slot := 22, constantValue := 0 }, { name := "BVUGT", type := (.object "com/example/lockstep/lockstep/smt/Term$Op"), accessFlags := 16409, slot := 23, constantValue := 0 }, { name := "BVUGE", type := (.object "com/example/lockstep/lockstep/smt/Term$Op"), accessFlags := 16409, slot := 24, constantValue := 0 }, { name := "BVSLT", type := (.object "com/example/lockstep/lockstep/smt/Term$Op"), accessFlags := 16409, slot := 25, constantValue := 0 }, { name := "BVSLE", type := (.object "com/example/lockstep/lockstep/smt/Term$Op"), accessFlags := 16409, slot := 26, constantValue := 0 }, { name := "BVSGT", type := (.object "com/example/lockstep/lockstep/smt/Term$Op"), accessFlags := 16409, slot := 27, constantValue := 0 }, { name := "BVSGE", type := (.object "com/example/lockstep/lockstep/smt/Term$Op"), accessFlags := 16409, slot := 28, constantValue := 0 }, { name := "EXTRACT", type := (.object "com/example/lockstep/lockstep/smt/Term$Op"), accessFlags := 16409, slot := 29, constantValue := 0 }, { name := "ZERO_EXTEND", type := (.object "com/example/lockstep/lockstep/smt/Term$Op"), accessFlags := 16409, slot := 30, constantValue := 0 }, { name := "SIGN_EXTEND", type := (.object "com/example/lockstep/lockstep/smt/Term$Op"), accessFlags := 16409, slot := 31, constantValue := 0 }, { name := "CONCAT", type := (.object "com/example/lockstep/lockstep/smt/Term$Op"), accessFlags := 16409, slot := 32, constantValue := 0 }, { name := "FP_ABS", type := (.object "com/example/lockstep/lockstep/smt/Term$Op"), accessFlags := 16409, slot := 33, constantValue := 0 }, { name := "FP_NEG", type := (.object "com/example/lockstep/lockstep/smt/Term$Op"), accessFlags := 16409, slot := 34, constantValue := 0 }, { name := "FP_ADD", type := (.object "com/example/lockstep/lockstep/smt/Term$Op"), accessFlags := 16409, slot := 35, constantValue := 0 }, { name := "FP_SUB", type := (.object "com/example/lockstep/lockstep/smt/Term$Op"), accessFlags := 16409, slot := 36, constantValue := 0 }, { name := "FP_MUL", type := (.object "com/example/lockstep/lockstep/smt/Term$Op"), accessFlags := 16409, slot := 37, constantValue := 0 }, { name := "FP_DIV", type := (.object "com/example/lockstep/lockstep/smt/Term$Op"), accessFlags := 16409, slot := 38, constantValue := 0 }, { name := "FP_FMA", type := (.object "com/example/lockstep/lockstep/smt/Term$Op"), accessFlags := 16409, slot := 39, constantValue := 0 }, { name := "FP_SQRT", type := (.object "com/example/lockstep/lockstep/smt/Term$Op"), accessFlags := 16409, slot := 40, constantValue := 0 }, { name := "FP_REM", type := (.object "com/example/lockstep/lockstep/smt/Term$Op"), accessFlags := 16409, slot := 41, constantValue := 0 }, { name := "FP_ROUND_TO_INTEGRAL", type := (.object "com/example/lockstep/lockstep/smt/Term$Op"), accessFlags := 16409, slot := 42, constantValue := 0 }, { name := "FP_EQ", type := (.object "com/example/lockstep/lockstep/smt/Term$Op"), accessFlags := 16409, slot := 43, constantValue := 0 }, { name := "FP_LT", type := (.object "com/example/lockstep/lockstep/smt/Term$Op"), accessFlags := 16409, slot := 44, constantValue := 0 }, { name := "FP_LEQ", type := (.object "com/example/lockstep/lockstep/smt/Term$Op"), accessFlags := 16409, slot := 45, constantValue := 0 }, { name := "FP_GT", type := (.object "com/example/lockstep/lockstep/smt/Term$Op"), accessFlags := 16409, slot := 46, constantValue := 0 }, { name := "FP_GEQ", type := (.object "com/example/lockstep/lockstep/smt/Term$Op"), accessFlags := 16409, slot := 47, constantValue := 0 }, { name := "FP_IS_NAN", type := (.object "com/example/lockstep/lockstep/smt/Term$Op"), accessFlags := 16409, slot := 48, constantValue := 0 }, { name := "FP_IS_INFINITE", type := (.object "com/example/lockstep/lockstep/smt/Term$Op"), accessFlags := 16409, slot := 49, constantValue := 0 }, { name := "FP_IS_ZERO", type := (.object "com/example/lockstep/lockstep/smt/Term$Op"), accessFlags := 16409, slot := 50, constantValue := 0 }, { name := "FP_IS_NEGATIVE", type := (.object "com/example/lockstep/lockstep/smt/Term$Op"), accessFlags := 16409, slot := 51, constantValue := 0 }, { name := "TO_FP", type := (.object "com/example/lockstep/lockstep/smt/Term$Op"), accessFlags := 16409, slot := 52, constantValue := 0 }, { name := "TO_FP_UNSIGNED", type := (.object "com/example/lockstep/lockstep/smt/Term$Op"), accessFlags := 16409, slot := 53, constantValue := 0 }, { name := "FP_TO_SBV", type := (.object "com/example/lockstep/lockstep/smt/Term$Op"), accessFlags := 16409, slot := 54, constantValue := 0 }, { name := "FP_TO_UBV", type := (.object "com/example/lockstep/lockstep/smt/Term$Op"), accessFlags := 16409, slot := 55, constantValue := 0 }, { name := "SELECT", type := (.object "com/example/lockstep/lockstep/smt/Term$Op"), accessFlags := 16409, slot := 56, constantValue := 0 }, { name := "STORE", type := (.object "com/example/lockstep/lockstep/smt/Term$Op"), accessFlags := 16409, slot := 57, constantValue := 0 }, { name := "CONST_ARRAY", type := (.object "com/example/lockstep/lockstep/smt/Term$Op"), accessFlags := 16409, slot := 58, constantValue := 0 }, { name := "COMPARISONS", type := (.object "java/util/Set"), accessFlags := 26, slot := 59, constantValue := 0 }, { name := "ROUNDED", type := (.object "java/util/Set"), accessFlags := 26, slot := 60, constantValue := 0 }, { name := "TESTS", type := (.object "java/util/Set"), accessFlags := 26, slot := 61, constantValue := 0 }, { name := "CONVERSIONS", type := (.object "java/util/Set"), accessFlags := 26, slot := 62, constantValue := 0 }, { name := "smtlib", type := (.object "java/lang/String"), accessFlags := 18, slot := 3, constantValue := 0 }, { name := "$VALUES", type := (.array (.object "com/example/lockstep/lockstep/smt/Term$Op")), accessFlags := 4122, slot := 63, constantValue := 0 }]
  methods := #[]
  instanceTypes := #[(.object "java/lang/String"), .int, .int, (.object "java/lang/String")]
  staticTypes := #[(.object "com/example/lockstep/lockstep/smt/Term$Op"), (.object "com/example/lockstep/lockstep/smt/Term$Op"), (.object "com/example/lockstep/lockstep/smt/Term$Op"), (.object "com/example/lockstep/lockstep/smt/Term$Op"), (.object "com/example/lockstep/lockstep/smt/Term$Op"), (.object "com/example/lockstep/lockstep/smt/Term$Op"), (.object "com/example/lockstep/lockstep/smt/Term$Op"), (.object "com/example/lockstep/lockstep/smt/Term$Op"), (.object "com/example/lockstep/lockstep/smt/Term$Op"), (.object "com/example/lockstep/lockstep/smt/Term$Op"), (.object "com/example/lockstep/lockstep/smt/Term$Op"), (.object "com/example/lockstep/lockstep/smt/Term$Op"), (.object "com/example/lockstep/lockstep/smt/Term$Op"), (.object "com/example/lockstep/lockstep/smt/Term$Op"), (.object "com/example/lockstep/lockstep/smt/Term$Op"), (.object "com/example/lockstep/lockstep/smt/Term$Op"), (.object "com/example/lockstep/lockstep/smt/Term$Op"), (.object "com/example/lockstep/lockstep/smt/Term$Op"), (.object "com/example/lockstep/lockstep/smt/Term$Op"), (.object "com/example/lockstep/lockstep/smt/Term$Op"), (.object "com/example/lockstep/lockstep/smt/Term$Op"), (.object "com/example/lockstep/lockstep/smt/Term$Op"), (.object "com/example/lockstep/lockstep/smt/Term$Op"), (.object "com/example/lockstep/lockstep/smt/Term$Op"), (.object "com/example/lockstep/lockstep/smt/Term$Op"), (.object "com/example/lockstep/lockstep/smt/Term$Op"), (.object "com/example/lockstep/lockstep/smt/Term$Op"), (.object "com/example/lockstep/lockstep/smt/Term$Op"), (.object "com/example/lockstep/lockstep/smt/Term$Op"), (.object "com/example/lockstep/lockstep/smt/Term$Op"), (.object "com/example/lockstep/lockstep/smt/Term$Op"), (.object "com/example/lockstep/lockstep/smt/Term$Op"), (.object "com/example/lockstep/lockstep/smt/Term$Op"), (.object "com/example/lockstep/lockstep/smt/Term$Op"), (.object "com/example/lockstep/lockstep/smt/Term$Op"), (.object "com/example/lockstep/lockstep/smt/Term$Op"), (.object "com/example/lockstep/lockstep/smt/Term$Op"), (.object "com/example/lockstep/lockstep/smt/Term$Op"), (.object "com/example/lockstep/lockstep/smt/Term$Op"), (.object "com/example/lockstep/lockstep/smt/Term$Op"), (.object "com/example/lockstep/lockstep/smt/Term$Op"), (.object "com/example/lockstep/lockstep/smt/Term$Op"), (.object "com/example/lockstep/lockstep/smt/Term$Op"), (.object "com/example/lockstep/lockstep/smt/Term$Op"), (.object "com/example/lockstep/lockstep/smt/Term$Op"), (.object "com/example/lockstep/lockstep/smt/Term$Op"), (.object "com/example/lockstep/lockstep/smt/Term$Op"), (.object "com/example/lockstep/lockstep/smt/Term$Op"), (.object "com/example/lockstep/lockstep/smt/Term$Op"), (.object "com/example/lockstep/lockstep/smt/Term$Op"), (.object "com/example/lockstep/lockstep/smt/Term$Op"), (.object "com/example/lockstep/lockstep/smt/Term$Op"), (.object "com/example/lockstep/lockstep/smt/Term$Op"), (.object "com/example/lockstep/lockstep/smt/Term$Op"), (.object "com/example/lockstep/lockstep/smt/Term$Op"), (.object "com/example/lockstep/lockstep/smt/Term$Op"), (.object "com/example/lockstep/lockstep/smt/Term$Op"), (.object "com/example/lockstep/lockstep/smt/Term$Op"), (.object "com/example/lockstep/lockstep/smt/Term$Op"), (.object "java/util/Set"), (.object "java/util/Set"), (.object "java/util/Set"), (.object "java/util/Set"), (.array (.object "com/example/lockstep/lockstep/smt/Term$Op"))]
  resolved := Array.replicate 430 none
  statics := some 1 }

def pool8 : Array CpInfo := pool [(2, .class_ 4), (1, u "java/lang/Object"), (0, u "<init>"), (0, u "()V"), (0, .class_ 8), (0, u "java/lang/Record")] 13

def k8m0 : Method := { name := "<init>", desc := "()V", sig := { parameters := [], returnType := none }, accessFlags := 4, code := none }
/-- java/lang/Record -/
def k8 : Class := { plain "java/lang/Record" (some 0) with
  accessFlags := 1057
  interfaces := #[]
  cf := some (fileOf pool8 7 #[] #[{ accessFlags := 4, nameIndex := 5, descriptorIndex := 6, attributes := #[] }] 1057 2 #[] #[])
  fields := #[]
  methods := #[k8m0]
  instanceTypes := #[]
  staticTypes := #[]
  resolved := Array.replicate 22 none
  statics := none }

def pool9 : Array CpInfo := pool [(2, .class_ 4), (1, u "java/lang/Record"), (2, .fieldref 8 9), (0, .class_ 10), (0, .nameAndType 11 12), (0, u "com/example/lockstep/lockstep/smt/Sort"), (0, u "kind"), (0, u "Lcom/example/lockstep/lockstep/smt/Sort$Kind;"), (2, u "width"), (0, u "I"), (2, u "significand"), (2, u "element"), (0, u "Lcom/example/lockstep/lockstep/smt/Sort;"), (10, .class_ 36), (1, u "com/example/lockstep/lockstep/smt/Sort$Kind"), (6, u "BINARY32"), (2, u "BINARY64"), (6, u "ROUNDING"), (7, .fieldref 34 62), (0, .nameAndType 63 12), (0, u "BOOL"), (6, u "()Z"), (41, u "INDEX_WIDTH"), (11, u "isBool")] 51

def k9c0 : Code := { maxStack := 2, maxLocals := 1, code := prog_256_method_5_code, exceptionTable := #[], attributes := #[] }
def k9m0 : Method := { name := "isBool", desc := "()Z", sig := { parameters := [], returnType := some .boolean }, accessFlags := 1, code := some k9c0 }
/-- com/example/lockstep/lockstep/smt/Sort -/
def k9 : Class := { plain "com/example/lockstep/lockstep/smt/Sort" (some 8) with
  accessFlags := 49
  interfaces := #[]
  cf := some (fileOf pool9 8 #[.nestMembers #[34]] #[{ accessFlags := 1, nameIndex := 124, descriptorIndex := 70, attributes := #[] }] 49 2 #[] #[{ accessFlags := 18, nameIndex := 11, descriptorIndex := 12, attributes := #[] }, { accessFlags := 18, nameIndex := 15, descriptorIndex := 16, attributes := #[] }, { accessFlags := 18, nameIndex := 19, descriptorIndex := 16, attributes := #[] }, { accessFlags := 18, nameIndex := 22, descriptorIndex := 23, attributes := #[] }, { accessFlags := 25, nameIndex := 112, descriptorIndex := 16, attributes := #[] }, { accessFlags := 25, nameIndex := 63, descriptorIndex := 23, attributes := #[] }, { accessFlags := 25, nameIndex := 53, descriptorIndex := 23, attributes := #[] }, { accessFlags := 25, nameIndex := 43, descriptorIndex := 23, attributes := #[] }, { accessFlags := 25, nameIndex := 46, descriptorIndex := 23, attributes := #[] }])
  fields := #[{ name := "kind", type := (.object "com/example/lockstep/lockstep/smt/Sort$Kind"), accessFlags := 18, slot := 0, constantValue := 0 }, { name := "width", type := .int, accessFlags := 18, slot := 1, constantValue := 0 }, { name := "significand", type := .int, accessFlags := 18, slot := 2, constantValue := 0 }, { name := "element", type := (.object "com/example/lockstep/lockstep/smt/Sort"), accessFlags := 18, slot := 3, constantValue := 0 }, { name := "INDEX_WIDTH", type := .int, accessFlags := 25, slot := 0, constantValue := 0 }, { name := "BOOL", type := (.object "com/example/lockstep/lockstep/smt/Sort"), accessFlags := 25, slot := 1, constantValue := 0 }, { name := "ROUNDING", type := (.object "com/example/lockstep/lockstep/smt/Sort"), accessFlags := 25, slot := 2, constantValue := 0 }, { name := "BINARY32", type := (.object "com/example/lockstep/lockstep/smt/Sort"), accessFlags := 25, slot := 3, constantValue := 0 }, { name := "BINARY64", type := (.object "com/example/lockstep/lockstep/smt/Sort"), accessFlags := 25, slot := 4, constantValue := 0 }]
  methods := #[k9m0]
  instanceTypes := #[(.object "com/example/lockstep/lockstep/smt/Sort$Kind"), .int, .int, (.object "com/example/lockstep/lockstep/smt/Sort")]
  staticTypes := #[.int, (.object "com/example/lockstep/lockstep/smt/Sort"), (.object "com/example/lockstep/lockstep/smt/Sort"), (.object "com/example/lockstep/lockstep/smt/Sort"), (.object "com/example/lockstep/lockstep/smt/Sort")]
  resolved := Array.replicate 176 none
  statics := none }

def pool10 : Array CpInfo := pool [(1, .class_ 2), (0, u "com/example/lockstep/lockstep/smt/Sort$Kind"), (2, u "BOOL"), (0, u "Lcom/example/lockstep/lockstep/smt/Sort$Kind;"), (2, u "BITS"), (2, u "FLOATING"), (2, u "ROUNDING"), (2, u "ARRAY"), (2, u "$VALUES"), (0, u "[Lcom/example/lockstep/lockstep/smt/Sort$Kind;"), (6, .class_ 31), (1, u "java/lang/Enum"), (28, .class_ 61), (0, u "com/example/lockstep/lockstep/smt/Sort")] 2

/-- com/example/lockstep/lockstep/smt/Sort$Kind -/
def k10 : Class := { plain "com/example/lockstep/lockstep/smt/Sort$Kind" (some 6) with
  accessFlags := 16433
  interfaces := #[]
  cf := some (fileOf pool10 1 #[.nestHost 60] #[] 16433 29 #[] #[{ accessFlags := 16409, nameIndex := 5, descriptorIndex := 6, attributes := #[] }, { accessFlags := 16409, nameIndex := 9, descriptorIndex := 6, attributes := #[] }, { accessFlags := 16409, nameIndex := 12, descriptorIndex := 6, attributes := #[] }, { accessFlags := 16409, nameIndex := 15, descriptorIndex := 6, attributes := #[] }, { accessFlags := 16409, nameIndex := 18, descriptorIndex := 6, attributes := #[] }, { accessFlags := 4122, nameIndex := 21, descriptorIndex := 22, attributes := #[] }])
  fields := #[{ name := "BOOL", type := (.object "com/example/lockstep/lockstep/smt/Sort$Kind"), accessFlags := 16409, slot := 0, constantValue := 0 }, { name := "BITS", type := (.object "com/example/lockstep/lockstep/smt/Sort$Kind"), accessFlags := 16409, slot := 1, constantValue := 0 }, { name := "FLOATING", type := (.object "com/example/lockstep/lockstep/smt/Sort$Kind"), accessFlags := 16409, slot := 2, constantValue := 0 }, { name := "ROUNDING", type := (.object "com/example/lockstep/lockstep/smt/Sort$Kind"), accessFlags := 16409, slot := 3, constantValue := 0 }, { name := "ARRAY", type := (.object "com/example/lockstep/lockstep/smt/Sort$Kind"), accessFlags := 16409, slot := 4, constantValue := 0 }, { name := "$VALUES", type := (.array (.object "com/example/lockstep/lockstep/smt/Sort$Kind")), accessFlags := 4122, slot := 5, constantValue := 0 }]
  methods := #[]
  instanceTypes := #[(.object "java/lang/String"), .int, .int]
  staticTypes := #[(.object "com/example/lockstep/lockstep/smt/Sort$Kind"), (.object "com/example/lockstep/lockstep/smt/Sort$Kind"), (.object "com/example/lockstep/lockstep/smt/Sort$Kind"), (.object "com/example/lockstep/lockstep/smt/Sort$Kind"), (.object "com/example/lockstep/lockstep/smt/Sort$Kind"), (.array (.object "com/example/lockstep/lockstep/smt/Sort$Kind"))]
  resolved := Array.replicate 64 none
  statics := some 2 }

def pool11 : Array CpInfo := pool [(1, u "java/lang/Cloneable"), (0, .class_ 1), (0, u "java/lang/Object"), (0, .class_ 3)] 3

/-- java/lang/Cloneable -/
def k11 : Class := { plain "java/lang/Cloneable" (some 0) with
  accessFlags := 1537
  interfaces := #[]
  cf := some (fileOf pool11 2 #[] #[] 1537 4 #[] #[])
  fields := #[]
  methods := #[]
  instanceTypes := #[]
  staticTypes := #[]
  resolved := Array.replicate 8 none
  statics := none }

/-- the primitive byte -/
def k12 : Class := { plain "byte" none with kind := .primitive 'B', accessFlags := 0x411 }
/-- [B -/
def k13 : Class := { plain "[B" (some 0) with kind := .array 12 .byte, interfaces := #[11, 5], accessFlags := 1041 }

def heap : Heap := #[{ cls := 2, slots := #[.long 0, .long 0, .ref 3, .ref 4], vm := .statics 2 },
  { cls := 7, slots := #[.ref 5, .null, .null, .null, .null, .null, .null, .null, .null, .null, .null, .null, .null, .null, .null, .null, .null, .null, .null, .null, .null, .null, .null, .null, .null, .null, .null, .null, .null, .null, .null, .null, .null, .null, .null, .null, .null, .null, .null, .null, .null, .null, .null, .null, .null, .null, .null, .null, .null, .null, .null, .null, .null, .null, .null, .null, .null, .null, .null, .null, .null, .null, .null, .null], vm := .statics 7 },
  { cls := 10, slots := #[.ref 7, .null, .null, .null, .null, .null], vm := .statics 10 },
  { cls := 2, slots := #[.ref 5, .ref 6, .null, .null, .null, .null], vm := .none },
  { cls := 2, slots := #[.ref 5, .ref 6, .null, .null, .null, .null], vm := .none },
  { cls := 7, slots := #[.null, .int 0, .int 0, .null], vm := .none },
  { cls := 9, slots := #[.ref 7, .int 0, .int 0, .null], vm := .none },
  { cls := 10, slots := #[.null, .int 0, .int 0], vm := .none }]
def classes : Array Class := #[k0, k1, k2, k3, k4, k5, k6, k7, k8, k9, k10, k11, k12, k13]
def interned : List (Array UInt16 × Addr) := []
def slotsUsed : Nat := 97
def theMethod : MethodId := ⟨1, 1⟩
def args0 : Array Value := #[.int 5]
def aboutOver (below : List Frame) : State where
  vm := { classes := classes, interned := interned.toArray }
  heap := heap
  slotsUsed := slotsUsed
  threads := #[{ frames := .invoking theMethod args0 :: below }]
def below0 : List Frame := [.native { method := ⟨0, 0⟩, args := #[] }]
def about1 : State := aboutOver below0
def p0 : Program := .bare "" "" ""
def e0 : Env := launch0.env 0 0 0
theorem w_frames : about1.frames = Frame.invoking theMethod args0 :: below0 := rfl
set_option maxRecDepth 65536 in
theorem w_args : argsFit about1.vm theMethod args0 = true := by decide +kernel
set_option maxRecDepth 65536 in
theorem w_heap : heapFits about1 = true := by decide +kernel
set_option maxRecDepth 65536 in
theorem w_runnable : about1.curStatus? = some .runnable := by decide +kernel
set_option maxRecDepth 65536 in
theorem w_alone : about1.alone = true := by decide +kernel
set_option maxRecDepth 65536 in
theorem w_named : about1.methodNamed? x = some theMethod := by decide +kernel
set_option maxRecDepth 65536 in
theorem w_hears : about1.hears theMethod below0 = true := by decide +kernel
set_option maxRecDepth 65536 in
theorem w_ripe : about1.ripe theMethod args0 below0 = true := by decide +kernel
theorem w_running : about1.status = .running := rfl
set_option maxRecDepth 65536 in
theorem w_room : about1.hasRoom e0.platform room_1 = true :=
  launch0.hasRoom_least _ room_1 (by decide +kernel) (by decide +kernel) (by decide +kernel) (by decide +kernel) (by decide +kernel) (by decide +kernel)
theorem allAtoms_all (ts : List Jvm.Cond) (a : Array Jvm.Value) (st : Jvm.State) : (allAtoms ts).before a st = ts.all (fun c => c.before a st) := by
  induction ts with
  | nil => rfl
  | cons c t ih =>
    show (Jvm.Cond.and c (allAtoms t)).before a st = _
    rw [Jvm.Cond.before_and, ih, List.all_cons]
def words1 : List Jvm.Cond := Jvm.Cond.code x code maxLocals ret :: tables_1
/-- a 'code' word, met by the world's own term for the bytes: nothing is compared byte by byte -/
theorem code_word {y : MethodName} {bytes : ByteArray} {mx : Nat} {rt : Option FieldType} {a : Array Value} {s : State} {m : MethodId} {meth : Method} {c : Code} (h1 : s.methodNamed? y = some m) (h2 : s.vm.method? m = some meth) (h3 : meth.code = some c) (h4 : c.code = bytes)
    (h5 : (c.maxLocals == mx && c.exceptionTable.isEmpty && decide (c.maxStack ≤ mostOperands) && decide (meth.sig.returnType = rt) && !meth.locks && decide (parseMethodDescriptor y.desc = some meth.sig)) = true) : (Jvm.Cond.code y bytes mx rt).before a s = true := by
  simp only [Bool.and_eq_true, beq_iff_eq, Bool.not_eq_true', decide_eq_true_eq] at h5
  obtain ⟨⟨⟨⟨⟨g1, g2⟩, g3⟩, g4⟩, g5⟩, g6⟩ := h5
  simp [Cond.before, Cond.holds, Cond.value, h1, h2, h3, h4, g1, g2, g3, g4, g5, g6]
def isCode : Jvm.Cond → Bool
  | .code _ _ _ _ => true
  | _ => false
theorem all_split {L : List Jvm.Cond} {P : Jvm.Cond → Bool} (h1 : L.all (fun c => isCode c || P c) = true) (h2 : ∀ c ∈ L.filter isCode, P c = true) : L.all P = true := by
  refine List.all_eq_true.mpr fun c hc => ?_
  have h := List.all_eq_true.mp h1 c hc
  rcases Bool.eq_false_or_eq_true (isCode c) with hi | hi
  · exact h2 c (List.mem_filter.mpr ⟨hc, hi⟩)
  · simpa [hi] using h
set_option maxRecDepth 65536 in
theorem w_c0 : (Jvm.Cond.code x code maxLocals ret).before args0 about1 = true := code_word (m := ⟨1, 1⟩) (meth := k1m1) (c := k1c1) (by decide +kernel) rfl rfl rfl (by decide +kernel)
set_option maxRecDepth 65536 in
theorem w_c1 : (Jvm.Cond.code ({ cls := "com/example/lockstep/lockstep/smt/Term", name := "bool", desc := "(Z)Lcom/example/lockstep/lockstep/smt/Term;" } : Jvm.MethodName) prog_258_method_4_code (1 : Nat) (Option.some (Jvm.ClassFile.FieldType.object "com/example/lockstep/lockstep/smt/Term"))).before args0 about1 = true := code_word (m := ⟨2, 0⟩) (meth := k2m0) (c := k2c0) (by decide +kernel) rfl rfl rfl (by decide +kernel)
set_option maxRecDepth 65536 in
theorem w_c2 : (Jvm.Cond.code ({ cls := "com/example/lockstep/lockstep/smt/Term", name := "isConstant", desc := "()Z" } : Jvm.MethodName) prog_258_method_51_code (1 : Nat) (Option.some Jvm.ClassFile.FieldType.boolean)).before args0 about1 = true := code_word (m := ⟨2, 3⟩) (meth := k2m3) (c := k2c3) (by decide +kernel) rfl rfl rfl (by decide +kernel)
set_option maxRecDepth 65536 in
theorem w_c3 : (Jvm.Cond.code ({ cls := "com/example/lockstep/lockstep/smt/Term", name := "sort", desc := "()Lcom/example/lockstep/lockstep/smt/Sort;" } : Jvm.MethodName) prog_258_method_46_code (1 : Nat) (Option.some (Jvm.ClassFile.FieldType.object "com/example/lockstep/lockstep/smt/Sort"))).before args0 about1 = true := code_word (m := ⟨2, 2⟩) (meth := k2m2) (c := k2c2) (by decide +kernel) rfl rfl rfl (by decide +kernel)
set_option maxRecDepth 65536 in
theorem w_c4 : (Jvm.Cond.code ({ cls := "com/example/lockstep/lockstep/smt/Sort", name := "isBool", desc := "()Z" } : Jvm.MethodName) prog_256_method_5_code (1 : Nat) (Option.some Jvm.ClassFile.FieldType.boolean)).before args0 about1 = true := code_word (m := ⟨9, 0⟩) (meth := k9m0) (c := k9c0) (by decide +kernel) rfl rfl rfl (by decide +kernel)
set_option maxRecDepth 65536 in
theorem w_c5 : (Jvm.Cond.code ({ cls := "com/example/lockstep/lockstep/smt/Term", name := "not", desc := "(Lcom/example/lockstep/lockstep/smt/Term;)Lcom/example/lockstep/lockstep/smt/Term;" } : Jvm.MethodName) prog_258_method_15_code (1 : Nat) (Option.some (Jvm.ClassFile.FieldType.object "com/example/lockstep/lockstep/smt/Term"))).before args0 about1 = true := code_word (m := ⟨2, 1⟩) (meth := k2m1) (c := k2c1) (by decide +kernel) rfl rfl rfl (by decide +kernel)
set_option maxRecDepth 65536 in
theorem w_c6 : (Jvm.Cond.code ({ cls := "com/example/lockstep/lockstep/smt/Term", name := "requireBool", desc := "(Lcom/example/lockstep/lockstep/smt/Term;)V" } : Jvm.MethodName) prog_258_method_52_code (1 : Nat) (Option.none : Option Jvm.ClassFile.FieldType)).before args0 about1 = true := code_word (m := ⟨2, 4⟩) (meth := k2m4) (c := k2c4) (by decide +kernel) rfl rfl rfl (by decide +kernel)
def codes1 : List Jvm.Cond := [Jvm.Cond.code x code maxLocals ret, Jvm.Cond.code ({ cls := "com/example/lockstep/lockstep/smt/Term", name := "bool", desc := "(Z)Lcom/example/lockstep/lockstep/smt/Term;" } : Jvm.MethodName) prog_258_method_4_code (1 : Nat) (Option.some (Jvm.ClassFile.FieldType.object "com/example/lockstep/lockstep/smt/Term")), Jvm.Cond.code ({ cls := "com/example/lockstep/lockstep/smt/Term", name := "isConstant", desc := "()Z" } : Jvm.MethodName) prog_258_method_51_code (1 : Nat) (Option.some Jvm.ClassFile.FieldType.boolean), Jvm.Cond.code ({ cls := "com/example/lockstep/lockstep/smt/Term", name := "sort", desc := "()Lcom/example/lockstep/lockstep/smt/Sort;" } : Jvm.MethodName) prog_258_method_46_code (1 : Nat) (Option.some (Jvm.ClassFile.FieldType.object "com/example/lockstep/lockstep/smt/Sort")), Jvm.Cond.code ({ cls := "com/example/lockstep/lockstep/smt/Sort", name := "isBool", desc := "()Z" } : Jvm.MethodName) prog_256_method_5_code (1 : Nat) (Option.some Jvm.ClassFile.FieldType.boolean), Jvm.Cond.code ({ cls := "com/example/lockstep/lockstep/smt/Term", name := "not", desc := "(Lcom/example/lockstep/lockstep/smt/Term;)Lcom/example/lockstep/lockstep/smt/Term;" } : Jvm.MethodName) prog_258_method_15_code (1 : Nat) (Option.some (Jvm.ClassFile.FieldType.object "com/example/lockstep/lockstep/smt/Term")), Jvm.Cond.code ({ cls := "com/example/lockstep/lockstep/smt/Term", name := "requireBool", desc := "(Lcom/example/lockstep/lockstep/smt/Term;)V" } : Jvm.MethodName) prog_258_method_52_code (1 : Nat) (Option.none : Option Jvm.ClassFile.FieldType)]
set_option maxRecDepth 65536 in
theorem codes_eq : words1.filter isCode = codes1 := rfl
theorem w_codes : ∀ c ∈ words1.filter isCode, c.before args0 about1 = true := by
  rw [codes_eq]
  intro c hc
  simp only [codes1, List.mem_cons, List.not_mem_nil, or_false] at hc
  rcases hc with rfl | rfl | rfl | rfl | rfl | rfl | rfl
  · exact w_c0
  · exact w_c1
  · exact w_c2
  · exact w_c3
  · exact w_c4
  · exact w_c5
  · exact w_c6
set_option maxRecDepth 65536 in
theorem w_t1 : (words1.take 24).all (fun c => isCode c || c.before args0 about1) = true := by decide +kernel
set_option maxRecDepth 65536 in
theorem w_t2 : (words1.drop 24).all (fun c => isCode c || c.before args0 about1) = true := by decide +kernel
theorem w_tables : (allAtoms (Jvm.Cond.code x code maxLocals ret :: tables_1)).before args0 about1 = true := by
  rw [allAtoms_all]
  show words1.all (fun c => c.before args0 about1) = true
  refine all_split ?_ w_codes
  rw [← List.take_append_drop 24 words1, List.all_append, w_t1, w_t2]
  rfl
set_option maxRecDepth 65536 in
theorem w_case : (Jvm.Cond.and given_1 narrow_1).before args0 about1 = true := by decide +kernel
theorem w_applies : (headSpec (Jvm.Cond.code x code maxLocals ret :: tables_1) room_1).applies x e0.platform about1 = true :=
  (Spec.applies_iff w_frames).mpr ⟨w_running, w_runnable, w_alone, w_named, w_hears, w_ripe, w_room, w_tables⟩
theorem atStart : AtStart classFile x code maxLocals ret World_1 tables_1 room_1 Calls_1 rest_1 Pre_1 launch0 p0 e0 about1 theMethod args0 below0 :=
  ⟨lists_1, trivial, launch0.admits_env _ _ _, launch0.least_env, fairChoices_fair.cas, fairChoices_fair.clock, w_frames, w_args, w_heap, w_applies, trivial, trivial, w_case⟩
end start1
theorem witness_1 : WitnessClaimed_1 := ⟨start1.p0, start1.e0, start1.about1, start1.theMethod, start1.args0, start1.below0, start1.atStart⟩
end Jvm.Pilot.@@N@@
