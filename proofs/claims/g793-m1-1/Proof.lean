import JvmDerived
import JvmDerived.Pilot.@@N@@Statement
import JvmDerived.Pilot.@@N@@Code
set_option linter.unusedVariables false
set_option linter.unusedSimpArgs false
namespace Jvm.RoadKit
open Sem ClassFile Op Lib Jvm.Stand Jvm.Free Jvm.LawKit
section New
variable {p : Program} {l : Launch} {e : Env} {R : Room} {s : State} {m : MethodId} {args : Array Value} {below : List Frame} {meth : Method} {c : Code} {T : State} {locs : List Loc} {cells slots : Nat}
theorem retI (X : Stand p l e R s m args below meth c T locs cells slots) (hx : p.tables.exec = Jvm.exec) {pc : Nat} {Ls : Array Slot} {z : Int32} {rest : List Value} (hret : meth.sig.returnType = some .int) (hd : decode c.code pc = .ok (.ireturn, 1)) {fs : List Frame}
    (hl : ∀ (f : JFrame) (acts : List Action), f.method = m → f.locked = none → f.entered = [] → (doReturn e (T.setTop f) acts (some (.int z))).1 = T.setFrames fs) : Steps p.tables e below (T.setTop (mkF m pc Ls (.int z :: rest))) (T.setFrames fs) := by
  have hm' : T.vm.method? m = some meth := X.method'
  have hn : narrow .int (.int z) = .int z := rfl
  show Steps p.tables e below (T.setTop { method := m, pc := pc, locals := Ls, stack := _ :: rest, locked := none }) _
  jvm_step X.here [X.here.top, hx, hd, hm', hret, hn]
  first | (intro acts; rw [hl _ acts rfl rfl rfl]) | rw [hl _ _ rfl rfl rfl]
  exact Steps.refl _
end New
end Jvm.RoadKit
namespace Jvm.Pilot.@@N@@
open Jvm Jvm.ClassFile Sem Op Lib Jvm.Free Jvm.Stand Jvm.LawKit Jvm.RoadKit Bundle Jvm.Pilot.@@N@@.Jvm.D
def QV (r : Option Value) (h0 : Heap) (n0 : Nat) (v : Option Value) (h : Heap) (L : List Loc) : Prop := v = r ∧ Fr n0 L ∧ h = h0
theorem d1_0 : decode jdk_29_method_66_code 0 = .ok (.lload_n 0, 1) := by decide +kernel
theorem d1_1 : decode jdk_29_method_66_code 1 = .ok (.lload_n 2, 1) := by decide +kernel
theorem d1_2 : decode jdk_29_method_66_code 2 = .ok (.lcmp, 1) := by decide +kernel
theorem d1_3 : decode jdk_29_method_66_code 3 = .ok (.ifCond .lt 7, 3) := by decide +kernel
theorem d1_10 : decode jdk_29_method_66_code 10 = .ok (.lload_n 2, 1) := by decide +kernel
theorem d1_11 : decode jdk_29_method_66_code 11 = .ok (.lreturn, 1) := by decide +kernel
theorem ef_1 (m : MethodId) (x0 : Int64) (x1 : Int64) : entryFrame m #[(.long x0), (.long x1)] 4 = mkF m 0 #[.val (.long x0), .second, .val (.long x1), .second] [] := by first | (simp [entryFrame, mkF, argsToLocals, Value.category]; done) | rfl
set_option maxRecDepth 65536 in
set_option maxHeartbeats 40000000 in
theorem rm1_t (l : Launch) (Z : State) (a0 : Array Value) (hw : ∀ d ∈ tables_1, d.before a0 Z = true) (ws : List Jvm.Cond) (q1 : Int64) (q2 : Int64) (h0 : Heap) (n0 : Nat) (Z0 : n0 ≤ h0.size) (hc3 : (lcmpW q1 q2) < (0 : Int32)) :
    MetFree l (⟨"java/lang/Math", "max", "(JJ)J"⟩ : MethodName) (head1 (Jvm.Cond.code (⟨"java/lang/Math", "max", "(JJ)J"⟩ : MethodName) jdk_29_method_66_code 4 (some .long) :: ws) ({ frames := 0, cells := 0, slots := 0, locals := 0 } : Room)) (fun a U => a = #[(.long q1), (.long q2)] ∧ Z.Warmed39 U.vm ∧ U.heap = h0) (fun _ _ _ _ _ => True) (fun _ U o U' => ∃ v L, o = .returned v ∧ QV (some (.long q2)) h0 n0 v U'.heap L ∧ FrameEnd U o U' L ({ frames := 0, cells := 0, slots := 0, locals := 0 } : Room).cells ({ frames := 0, cells := 0, slots := 0, locals := 0 } : Room).slots) := by
  refine MetFree.of_bodySF (Jvm.Free.JP.mathPlain rfl (by decide +kernel)) hisR ?_
  intro p e s m args below meth c s₁ Bd hml0 hP hK
  obtain ⟨rfl, hZ, hh⟩ := hP
  have hx := Bd.exec
  have hby := Bd.bytes
  have hml : c.maxLocals = 4 := hml0
  have hown : s.vm.findClass "java/lang/Math" = some m.cls := findClass_of_methodNamed Bd.named
  have hnm := (name_of_methodNamed Bd.named Bd.method).1
  have X0 : Stand p l e ({ frames := 0, cells := 0, slots := 0, locals := 0 } : Room) s m #[(.long q1), (.long q2)] below meth c s₁ [] 0 0 := Stand.of_body Bd
  have e0 : s₁.heap = h0 := by rw [← hh, Bd.state]; rfl
  have N0 := Fr.nil n0
  have pre0 : ∀ t, Steps p.tables e below (s₁.setTop (mkF m 0 #[.val (.long q1), .second, .val (.long q2), .second] [])) t → Steps p.tables e below (s₁.setTop (entryFrame m #[(.long q1), (.long q2)] 4)) t := fun t k => castTop (ef_1 m q1 q2) k
  -- 3. LAWS

  obtain ⟨fs, hr, hrun, hended, hW, hsame⟩ := X0.leave (v := some (.long q2)) (fun h => by rw [Bd.returns] at h; cases h)
  refine ⟨_, _, pre0 _ ?_, hrun, hended, _, _, rfl, ?_, ⟨_, rfl⟩, hW, hsame.mono (by decide) (by decide)⟩
  -- 4. STEPS
  · show Steps p.tables e below (s₁.setTop (mkF m 0 #[.val (.long q1), .second, .val (.long q2), .second] [])) _
    refine XS.lloadN X0.here hx rfl (hb hby d1_0) rfl ?_
    show Steps p.tables e below (s₁.setTop (mkF m 1 #[.val (.long q1), .second, .val (.long q2), .second] [(.long q1)])) _
    refine XS.lloadN X0.here hx rfl (hb hby d1_1) rfl ?_
    show Steps p.tables e below (s₁.setTop (mkF m 2 #[.val (.long q1), .second, .val (.long q2), .second] [(.long q2), (.long q1)])) _
    refine XS.lcmp X0.here hx rfl (hb hby d1_2) rfl ?_
    show Steps p.tables e below (s₁.setTop (mkF m 3 #[.val (.long q1), .second, .val (.long q2), .second] [(.int (lcmpW q1 q2))])) _
    refine XS.ifYes X0.here hx rfl (pc0 := 3) (pc' := 10) rfl (hb hby d1_3) rfl ((if0 _ _).trans (tlt hc3).1) (by decide) (by decide) ?_
    show Steps p.tables e below (s₁.setTop (mkF m 10 #[.val (.long q1), .second, .val (.long q2), .second] [])) _
    refine XS.lloadN X0.here hx rfl (hb hby d1_10) rfl ?_
    show Steps p.tables e below (s₁.setTop (mkF m 11 #[.val (.long q1), .second, .val (.long q2), .second] [(.long q2)])) _
    jvm_step X0.here [X0.here.top, hx, (hb hby d1_11), X0.method', Bd.returns, narrow]
    first | (intro acts; rw [hr _ acts rfl rfl rfl]) | rw [hr _ _ rfl rfl rfl]
    exact Steps.refl _
  · show QV (some (.long q2)) h0 n0 _ s₁.heap _
    rw [e0]
    exact ⟨rfl, N0, rfl⟩
theorem d1_6 : decode jdk_29_method_66_code 6 = .ok (.lload_n 0, 1) := by decide +kernel
theorem d1_7 : decode jdk_29_method_66_code 7 = .ok (.goto 4, 3) := by decide +kernel
set_option maxRecDepth 65536 in
set_option maxHeartbeats 40000000 in
theorem rm1_f (l : Launch) (Z : State) (a0 : Array Value) (hw : ∀ d ∈ tables_1, d.before a0 Z = true) (ws : List Jvm.Cond) (q1 : Int64) (q2 : Int64) (h0 : Heap) (n0 : Nat) (Z0 : n0 ≤ h0.size) (hc3 : ¬ ((lcmpW q1 q2) < (0 : Int32))) :
    MetFree l (⟨"java/lang/Math", "max", "(JJ)J"⟩ : MethodName) (head1 (Jvm.Cond.code (⟨"java/lang/Math", "max", "(JJ)J"⟩ : MethodName) jdk_29_method_66_code 4 (some .long) :: ws) ({ frames := 0, cells := 0, slots := 0, locals := 0 } : Room)) (fun a U => a = #[(.long q1), (.long q2)] ∧ Z.Warmed39 U.vm ∧ U.heap = h0) (fun _ _ _ _ _ => True) (fun _ U o U' => ∃ v L, o = .returned v ∧ QV (some (.long q1)) h0 n0 v U'.heap L ∧ FrameEnd U o U' L ({ frames := 0, cells := 0, slots := 0, locals := 0 } : Room).cells ({ frames := 0, cells := 0, slots := 0, locals := 0 } : Room).slots) := by
  refine MetFree.of_bodySF (Jvm.Free.JP.mathPlain rfl (by decide +kernel)) hisR ?_
  intro p e s m args below meth c s₁ Bd hml0 hP hK
  obtain ⟨rfl, hZ, hh⟩ := hP
  have hx := Bd.exec
  have hby := Bd.bytes
  have hml : c.maxLocals = 4 := hml0
  have hown : s.vm.findClass "java/lang/Math" = some m.cls := findClass_of_methodNamed Bd.named
  have hnm := (name_of_methodNamed Bd.named Bd.method).1
  have X0 : Stand p l e ({ frames := 0, cells := 0, slots := 0, locals := 0 } : Room) s m #[(.long q1), (.long q2)] below meth c s₁ [] 0 0 := Stand.of_body Bd
  have e0 : s₁.heap = h0 := by rw [← hh, Bd.state]; rfl
  have N0 := Fr.nil n0
  have pre0 : ∀ t, Steps p.tables e below (s₁.setTop (mkF m 0 #[.val (.long q1), .second, .val (.long q2), .second] [])) t → Steps p.tables e below (s₁.setTop (entryFrame m #[(.long q1), (.long q2)] 4)) t := fun t k => castTop (ef_1 m q1 q2) k
  -- 3. LAWS

  obtain ⟨fs, hr, hrun, hended, hW, hsame⟩ := X0.leave (v := some (.long q1)) (fun h => by rw [Bd.returns] at h; cases h)
  refine ⟨_, _, pre0 _ ?_, hrun, hended, _, _, rfl, ?_, ⟨_, rfl⟩, hW, hsame.mono (by decide) (by decide)⟩
  -- 4. STEPS
  · show Steps p.tables e below (s₁.setTop (mkF m 0 #[.val (.long q1), .second, .val (.long q2), .second] [])) _
    refine XS.lloadN X0.here hx rfl (hb hby d1_0) rfl ?_
    show Steps p.tables e below (s₁.setTop (mkF m 1 #[.val (.long q1), .second, .val (.long q2), .second] [(.long q1)])) _
    refine XS.lloadN X0.here hx rfl (hb hby d1_1) rfl ?_
    show Steps p.tables e below (s₁.setTop (mkF m 2 #[.val (.long q1), .second, .val (.long q2), .second] [(.long q2), (.long q1)])) _
    refine XS.lcmp X0.here hx rfl (hb hby d1_2) rfl ?_
    show Steps p.tables e below (s₁.setTop (mkF m 3 #[.val (.long q1), .second, .val (.long q2), .second] [(.int (lcmpW q1 q2))])) _
    refine XS.ifNo X0.here hx rfl (hb hby d1_3) rfl ((if0 _ _).trans (flt hc3).1) ?_
    show Steps p.tables e below (s₁.setTop (mkF m 6 #[.val (.long q1), .second, .val (.long q2), .second] [])) _
    refine XS.lloadN X0.here hx rfl (hb hby d1_6) rfl ?_
    show Steps p.tables e below (s₁.setTop (mkF m 7 #[.val (.long q1), .second, .val (.long q2), .second] [(.long q1)])) _
    refine XS.goto X0.here hx rfl (pc0 := 7) (pc' := 11) rfl (hb hby d1_7) (by decide) (by decide) ?_
    show Steps p.tables e below (s₁.setTop (mkF m 11 #[.val (.long q1), .second, .val (.long q2), .second] [(.long q1)])) _
    jvm_step X0.here [X0.here.top, hx, (hb hby d1_11), X0.method', Bd.returns, narrow]
    first | (intro acts; rw [hr _ acts rfl rfl rfl]) | rw [hr _ _ rfl rfl rfl]
    exact Steps.refl _
  · show QV (some (.long q1)) h0 n0 _ s₁.heap _
    rw [e0]
    exact ⟨rfl, N0, rfl⟩
theorem d3_0 : decode jdk_32_method_1_code 0 = .ok (.getstatic 1, 3) := by decide +kernel
theorem d3_3 : decode jdk_32_method_1_code 3 = .ok (.astore_n 0, 1) := by decide +kernel
theorem d3_4 : decode jdk_32_method_1_code 4 = .ok (.aload_n 0, 1) := by decide +kernel
theorem d3_5 : decode jdk_32_method_1_code 5 = .ok (.areturn, 1) := by decide +kernel
theorem pn_3 : plainName "java/util/Optional" = true := by first | (simp [plainName, overriddenIn]; done) | decide +kernel
theorem ef_3 (m : MethodId)  : entryFrame m #[] 1 = mkF m 0 #[.unset] [] := by first | (simp [entryFrame, mkF, argsToLocals, Value.category]; done) | rfl
set_option maxRecDepth 65536 in
set_option maxHeartbeats 40000000 in
theorem rm3 (l : Launch) (Z : State) (a0 : Array Value) (hw : ∀ d ∈ tables_1, d.before a0 Z = true) (ws : List Jvm.Cond) (w1 : Addr) (h0 : Heap) (n0 : Nat) (Z0 : n0 ≤ h0.size) (S_EMPTY : Sta Z h0 "java/util/Optional" "EMPTY" "Ljava/util/Optional;" (.ref w1)) :
    MetFree l (⟨"java/util/Optional", "empty", "()Ljava/util/Optional;"⟩ : MethodName) (head1 (Jvm.Cond.code (⟨"java/util/Optional", "empty", "()Ljava/util/Optional;"⟩ : MethodName) jdk_32_method_1_code 1 (some (.object "java/util/Optional")) :: ws) ({ frames := 0, cells := 0, slots := 0, locals := 0 } : Room)) (fun a U => a = #[] ∧ Z.Warmed39 U.vm ∧ U.heap = h0) (fun _ _ _ _ _ => True) (fun _ U o U' => ∃ v L, o = .returned v ∧ QV (some (.ref w1)) h0 n0 v U'.heap L ∧ FrameEnd U o U' L ({ frames := 0, cells := 0, slots := 0, locals := 0 } : Room).cells ({ frames := 0, cells := 0, slots := 0, locals := 0 } : Room).slots) := by
  refine MetFree.of_bodySF (plainFor_of_name pn_3) hisR ?_
  intro p e s m args below meth c s₁ Bd hml0 hP hK
  obtain ⟨rfl, hZ, hh⟩ := hP
  have hx := Bd.exec
  have hby := Bd.bytes
  have hml : c.maxLocals = 1 := hml0
  have hown : s.vm.findClass "java/util/Optional" = some m.cls := findClass_of_methodNamed Bd.named
  have hnm := (name_of_methodNamed Bd.named Bd.method).1
  have X0 : Stand p l e ({ frames := 0, cells := 0, slots := 0, locals := 0 } : Room) s m #[] below meth c s₁ [] 0 0 := Stand.of_body Bd
  have e0 : s₁.heap = h0 := by rw [← hh, Bd.state]; rfl
  have N0 := Fr.nil n0
  have pre0 : ∀ t, Steps p.tables e below (s₁.setTop (mkF m 0 #[.unset] [])) t → Steps p.tables e below (s₁.setTop (entryFrame m #[] 1)) t := fun t k => castTop (ef_3 m ) k
  -- 3. LAWS
  obtain ⟨T2, X2, e2, st2⟩ := getS2 X0 hx hZ hown (host := "") (Or.inl (hw _ (List.mem_of_getElem? (i := 15) rfl))) Via.refl e0 S_EMPTY (g := (mkF m 0 #[.unset] [])) rfl (hb hby d3_0)
  obtain ⟨fs, hr, hrun, hended, hW, hsame⟩ := X2.leave (v := some (.ref w1)) (fun h => by rw [Bd.returns] at h; cases h)
  refine ⟨_, _, pre0 _ ?_, hrun, hended, _, _, rfl, ?_, ⟨_, rfl⟩, hW, hsame.mono (by decide) (by decide)⟩
  -- 4. STEPS
  · show Steps p.tables e below (s₁.setTop (mkF m 0 #[.unset] [])) _
    refine st2 _ ?_
    show Steps p.tables e below (T2.setTop (mkF m 3 #[.unset] [(.ref w1)])) _
    refine XS.astoreN X2.here hx rfl (hb hby d3_3) rfl rfl (l' := #[.val (.ref w1)]) rfl ?_
    show Steps p.tables e below (T2.setTop (mkF m 4 #[.val (.ref w1)] [])) _
    refine XS.aloadN X2.here hx rfl (hb hby d3_4) rfl rfl ?_
    show Steps p.tables e below (T2.setTop (mkF m 5 #[.val (.ref w1)] [(.ref w1)])) _
    jvm_step X2.here [X2.here.top, hx, (hb hby d3_5), X2.method', Bd.returns, Value.isRef, FieldType.isReference]
    first | (intro acts; rw [hr _ acts rfl rfl rfl]) | rw [hr _ _ rfl rfl rfl]
    exact Steps.refl _
  · show QV (some (.ref w1)) h0 n0 _ T2.heap _
    rw [e2]
    exact ⟨rfl, N0, rfl⟩
theorem d4_0 : decode prog_12_method_1_code 0 = .ok (.aload_n 0, 1) := by decide +kernel
theorem d4_1 : decode prog_12_method_1_code 1 = .ok (.invokespecial 1, 3) := by decide +kernel
theorem d4_4 : decode prog_12_method_1_code 4 = .ok (.aload_n 0, 1) := by decide +kernel
theorem d4_5 : decode prog_12_method_1_code 5 = .ok (.lload_n 1, 1) := by decide +kernel
theorem d4_6 : decode prog_12_method_1_code 6 = .ok (.putfield 7, 3) := by decide +kernel
theorem d4_9 : decode prog_12_method_1_code 9 = .ok (.aload_n 0, 1) := by decide +kernel
theorem d4_10 : decode prog_12_method_1_code 10 = .ok (.aload_n 3, 1) := by decide +kernel
theorem d4_11 : decode prog_12_method_1_code 11 = .ok (.putfield 13, 3) := by decide +kernel
theorem d4_14 : decode prog_12_method_1_code 14 = .ok (.return_, 1) := by decide +kernel
theorem pn_4 : plainName "com/example/portunus/portunus/store/Acquisition" = true := by first | (simp [plainName, overriddenIn]; done) | decide +kernel
theorem ef_4 (m : MethodId) (x0 : Addr) (x1 : Int64) (x2 : Addr) : entryFrame m #[(.ref x0), (.long x1), (.ref x2)] 4 = mkF m 0 #[.val (.ref x0), .val (.long x1), .second, .val (.ref x2)] [] := by first | (simp [entryFrame, mkF, argsToLocals, Value.category]; done) | rfl
def Q4 (Z : State) (a1 : Addr) (q2 : Int64) (a3 : Addr) (u_token_a1 : Value) (u_left_a1 : Value) (h0 : Heap) (n0 : Nat) (v : Option Value) (h : Heap) (L : List Loc) : Prop := v = none ∧ Fr n0 L ∧ Keep h0 h [a1] ∧ Exa Z h a1 "com/example/portunus/portunus/store/Acquisition" ∧ Fld Z h a1 "com/example/portunus/portunus/store/Acquisition" "token" "J" (.long q2) ∧ Fld Z h a1 "com/example/portunus/portunus/store/Acquisition" "left" "Ljava/util/Optional;" (.ref a3)
set_option maxRecDepth 65536 in
set_option maxHeartbeats 40000000 in
theorem rm4 (l : Launch) (Z : State) (a0 : Array Value) (hw : ∀ d ∈ tables_1, d.before a0 Z = true) (ws : List Jvm.Cond) (a1 : Addr) (q2 : Int64) (a3 : Addr) (u_token_a1 : Value) (u_left_a1 : Value) (h0 : Heap) (n0 : Nat) (Z0 : n0 ≤ h0.size) (E_a1 : Exa Z h0 a1 "com/example/portunus/portunus/store/Acquisition") (F_token_a1 : Fld Z h0 a1 "com/example/portunus/portunus/store/Acquisition" "token" "J" u_token_a1) (g_a1 : n0 ≤ a1) (F_left_a1 : Fld Z h0 a1 "com/example/portunus/portunus/store/Acquisition" "left" "Ljava/util/Optional;" u_left_a1) :
    MetFree l (⟨"com/example/portunus/portunus/store/Acquisition", "<init>", "(JLjava/util/Optional;)V"⟩ : MethodName) (head1 (Jvm.Cond.code (⟨"com/example/portunus/portunus/store/Acquisition", "<init>", "(JLjava/util/Optional;)V"⟩ : MethodName) prog_12_method_1_code 4 none :: ws) ({ frames := 1, cells := 0, slots := 0, locals := 12 } : Room)) (fun a U => a = #[(.ref a1), (.long q2), (.ref a3)] ∧ Z.Warmed39 U.vm ∧ U.heap = h0) (fun _ _ _ _ _ => True) (fun _ U o U' => ∃ v L, o = .returned v ∧ Q4 Z a1 q2 a3 u_token_a1 u_left_a1 h0 n0 v U'.heap L ∧ FrameEnd U o U' L ({ frames := 1, cells := 0, slots := 0, locals := 12 } : Room).cells ({ frames := 1, cells := 0, slots := 0, locals := 12 } : Room).slots) := by
  refine MetFree.of_bodySF (plainFor_of_name pn_4) hisR ?_
  intro p e s m args below meth c s₁ Bd hml0 hP hK
  obtain ⟨rfl, hZ, hh⟩ := hP
  have hx := Bd.exec
  have hby := Bd.bytes
  have hml : c.maxLocals = 4 := hml0
  have hown : s.vm.findClass "com/example/portunus/portunus/store/Acquisition" = some m.cls := findClass_of_methodNamed Bd.named
  have hnm := (name_of_methodNamed Bd.named Bd.method).1
  have X0 : Stand p l e ({ frames := 1, cells := 0, slots := 0, locals := 12 } : Room) s m #[(.ref a1), (.long q2), (.ref a3)] below meth c s₁ [] 0 0 := Stand.of_body Bd
  have e0 : s₁.heap = h0 := by rw [← hh, Bd.state]; rfl
  have N0 := Fr.nil n0
  have pre0 : ∀ t, Steps p.tables e below (s₁.setTop (mkF m 0 #[.val (.ref a1), .val (.long q2), .second, .val (.ref a3)] [])) t → Steps p.tables e below (s₁.setTop (entryFrame m #[(.ref a1), (.long q2), (.ref a3)] 4)) t := fun t k => castTop (ef_4 m a1 q2 a3) k
  -- 3. LAWS
  obtain ⟨T4, X4, e4, st4⟩ := initO X0 hx hZ hown (hw _ (List.mem_of_getElem? (i := 19) rfl)) (hw _ (List.mem_of_getElem? (i := 20) rfl)) (hw _ (List.mem_of_getElem? (i := 21) rfl)) e0 (g := (mkF m 1 #[.val (.ref a1), .val (.long q2), .second, .val (.ref a3)] [(.ref a1)])) rfl (by rw [hml]; rfl) rfl (hb hby d4_1) (by decide) (W := 0) (by show 2 * 0 + _ ≤ _; exact Nat.le_of_eq rfl) (by decide)
  obtain ⟨T5, h5, X5, e5, W5, st5⟩ := putF X4 hx hZ hown (host := "") (Or.inl (hw _ (List.mem_of_getElem? (i := 22) rfl))) Via.refl e4 F_token_a1 E_a1 (Or.inr ⟨(hw _ (List.mem_of_getElem? (i := 23) rfl)), rfl, hnm⟩) (hw _ (List.mem_of_getElem? (i := 10) rfl)) (ty := .long) (by decide) rfl rfl (g := (mkF m 6 #[.val (.ref a1), .val (.long q2), .second, .val (.ref a3)] [(.long q2), (.ref a1)])) rfl rfl (hb hby d4_6)
  have Fw5 := F_token_a1.same W5      -- the field now holds (.long q2)
  have K5 : Keep h0 h5 [a1] := (Keep.refl h0 [a1]).wr W5 (Or.inl (List.mem_of_getElem? (i := 0) rfl))
  have N5 := Fr.snoc X5 N0 g_a1
  obtain ⟨T6, h6, X6, e6, W6, st6⟩ := putF X5 hx hZ hown (host := "") (Or.inl (hw _ (List.mem_of_getElem? (i := 24) rfl))) Via.refl e5 (F_left_a1.other W5 (Or.inr (slot_ne (Or.inr (hw _ (List.mem_of_getElem? (i := 25) rfl))) (Or.inr (hw _ (List.mem_of_getElem? (i := 23) rfl))) (by decide) (t := (.object "java/util/Optional")) (t' := .long) (by decide) (by decide)))) (E_a1.wr W5) (Or.inr ⟨(hw _ (List.mem_of_getElem? (i := 25) rfl)), rfl, hnm⟩) (hw _ (List.mem_of_getElem? (i := 10) rfl)) (ty := (.object "java/util/Optional")) (by decide) rfl rfl (g := (mkF m 11 #[.val (.ref a1), .val (.long q2), .second, .val (.ref a3)] [(.ref a3), (.ref a1)])) rfl rfl (hb hby d4_11)
  have Fw6 := (F_left_a1.other W5 (Or.inr (slot_ne (Or.inr (hw _ (List.mem_of_getElem? (i := 25) rfl))) (Or.inr (hw _ (List.mem_of_getElem? (i := 23) rfl))) (by decide) (t := (.object "java/util/Optional")) (t' := .long) (by decide) (by decide)))).same W6      -- the field now holds (.ref a3)
  have K6 : Keep h0 h6 [a1] := K5.wr W6 (Or.inl (List.mem_of_getElem? (i := 0) rfl))
  have N6 := Fr.snoc X6 N5 g_a1
  obtain ⟨fs, hr, hrun, hended, hW, hsame⟩ := X6.leave (v := none) (fun _ => rfl)
  refine ⟨_, _, pre0 _ ?_, hrun, hended, _, _, rfl, ?_, ⟨_, rfl⟩, hW, hsame.mono (by decide) (by decide)⟩
  -- 4. STEPS
  · show Steps p.tables e below (s₁.setTop (mkF m 0 #[.val (.ref a1), .val (.long q2), .second, .val (.ref a3)] [])) _
    refine XS.aloadN X0.here hx rfl (hb hby d4_0) rfl rfl ?_
    show Steps p.tables e below (s₁.setTop (mkF m 1 #[.val (.ref a1), .val (.long q2), .second, .val (.ref a3)] [(.ref a1)])) _
    refine st4 _ ?_
    show Steps p.tables e below (T4.setTop (mkF m 4 #[.val (.ref a1), .val (.long q2), .second, .val (.ref a3)] [])) _
    refine XS.aloadN X4.here hx rfl (hb hby d4_4) rfl rfl ?_
    show Steps p.tables e below (T4.setTop (mkF m 5 #[.val (.ref a1), .val (.long q2), .second, .val (.ref a3)] [(.ref a1)])) _
    refine XS.lloadN X4.here hx rfl (hb hby d4_5) rfl ?_
    show Steps p.tables e below (T4.setTop (mkF m 6 #[.val (.ref a1), .val (.long q2), .second, .val (.ref a3)] [(.long q2), (.ref a1)])) _
    refine st5 _ ?_
    show Steps p.tables e below (T5.setTop (mkF m 9 #[.val (.ref a1), .val (.long q2), .second, .val (.ref a3)] [])) _
    refine XS.aloadN X5.here hx rfl (hb hby d4_9) rfl rfl ?_
    show Steps p.tables e below (T5.setTop (mkF m 10 #[.val (.ref a1), .val (.long q2), .second, .val (.ref a3)] [(.ref a1)])) _
    refine XS.aloadN X5.here hx rfl (hb hby d4_10) rfl rfl ?_
    show Steps p.tables e below (T5.setTop (mkF m 11 #[.val (.ref a1), .val (.long q2), .second, .val (.ref a3)] [(.ref a3), (.ref a1)])) _
    refine st6 _ ?_
    show Steps p.tables e below (T6.setTop (mkF m 14 #[.val (.ref a1), .val (.long q2), .second, .val (.ref a3)] [])) _
    exact X6.returnOut hx Bd.returns (hb hby d4_14) hr
  · show Q4 Z a1 q2 a3 u_token_a1 u_left_a1 h0 n0 _ T6.heap _
    rw [e6]
    exact ⟨rfl, N6, K6, ((E_a1.wr W5).wr W6), (Fw5.other W6 (Or.inr (slot_ne (Or.inr (hw _ (List.mem_of_getElem? (i := 23) rfl))) (Or.inr (hw _ (List.mem_of_getElem? (i := 25) rfl))) (by decide) (t := .long) (t' := (.object "java/util/Optional")) (by decide) (by decide)))), Fw6⟩
theorem d6_0 : decode prog_12_method_6_code 0 = .ok (.aload_n 0, 1) := by decide +kernel
theorem d6_1 : decode prog_12_method_6_code 1 = .ok (.getfield 7, 3) := by decide +kernel
theorem d6_4 : decode prog_12_method_6_code 4 = .ok (.lconst 0, 1) := by decide +kernel
theorem d6_5 : decode prog_12_method_6_code 5 = .ok (.lcmp, 1) := by decide +kernel
theorem d6_6 : decode prog_12_method_6_code 6 = .ok (.ifCond .le 7, 3) := by decide +kernel
theorem d6_9 : decode prog_12_method_6_code 9 = .ok (.iconst 1, 1) := by decide +kernel
theorem d6_10 : decode prog_12_method_6_code 10 = .ok (.goto 4, 3) := by decide +kernel
theorem d6_14 : decode prog_12_method_6_code 14 = .ok (.ireturn, 1) := by decide +kernel
theorem pn_6 : plainName "com/example/portunus/portunus/store/Acquisition" = true := by first | (simp [plainName, overriddenIn]; done) | decide +kernel
theorem ef_6 (m : MethodId) (x0 : Addr) : entryFrame m #[(.ref x0)] 1 = mkF m 0 #[.val (.ref x0)] [] := by first | (simp [entryFrame, mkF, argsToLocals, Value.category]; done) | rfl
set_option maxRecDepth 65536 in
set_option maxHeartbeats 40000000 in
theorem rm6 (l : Launch) (Z : State) (a0 : Array Value) (hw : ∀ d ∈ tables_1, d.before a0 Z = true) (ws : List Jvm.Cond) (a1 : Addr) (w2 : Int64) (h0 : Heap) (n0 : Nat) (Z0 : n0 ≤ h0.size) (F_token_a1 : Fld Z h0 a1 "com/example/portunus/portunus/store/Acquisition" "token" "J" (.long w2)) (hc6 : (0 : Int32) < (lcmpW w2 (0 : Int64))) :
    MetFree l (⟨"com/example/portunus/portunus/store/Acquisition", "isGranted", "()Z"⟩ : MethodName) (head1 (Jvm.Cond.code (⟨"com/example/portunus/portunus/store/Acquisition", "isGranted", "()Z"⟩ : MethodName) prog_12_method_6_code 1 (some .boolean) :: ws) ({ frames := 0, cells := 0, slots := 0, locals := 0 } : Room)) (fun a U => a = #[(.ref a1)] ∧ Z.Warmed39 U.vm ∧ U.heap = h0) (fun _ _ _ _ _ => True) (fun _ U o U' => ∃ v L, o = .returned v ∧ QV (some (.int 1)) h0 n0 v U'.heap L ∧ FrameEnd U o U' L ({ frames := 0, cells := 0, slots := 0, locals := 0 } : Room).cells ({ frames := 0, cells := 0, slots := 0, locals := 0 } : Room).slots) := by
  refine MetFree.of_bodySF (plainFor_of_name pn_6) hisR ?_
  intro p e s m args below meth c s₁ Bd hml0 hP hK
  obtain ⟨rfl, hZ, hh⟩ := hP
  have hx := Bd.exec
  have hby := Bd.bytes
  have hml : c.maxLocals = 1 := hml0
  have hown : s.vm.findClass "com/example/portunus/portunus/store/Acquisition" = some m.cls := findClass_of_methodNamed Bd.named
  have hnm := (name_of_methodNamed Bd.named Bd.method).1
  have X0 : Stand p l e ({ frames := 0, cells := 0, slots := 0, locals := 0 } : Room) s m #[(.ref a1)] below meth c s₁ [] 0 0 := Stand.of_body Bd
  have e0 : s₁.heap = h0 := by rw [← hh, Bd.state]; rfl
  have N0 := Fr.nil n0
  have pre0 : ∀ t, Steps p.tables e below (s₁.setTop (mkF m 0 #[.val (.ref a1)] [])) t → Steps p.tables e below (s₁.setTop (entryFrame m #[(.ref a1)] 1)) t := fun t k => castTop (ef_6 m a1) k
  -- 3. LAWS
  obtain ⟨T3, X3, e3, st3⟩ := getF X0 hx hZ hown (host := "") (Or.inl (hw _ (List.mem_of_getElem? (i := 22) rfl))) Via.refl e0 F_token_a1 (g := (mkF m 1 #[.val (.ref a1)] [(.ref a1)])) rfl rfl (hb hby d6_1)
  obtain ⟨fs, hr, hrun, hended, hW, hsame⟩ := X3.leave (v := some (.int (1 : Int32))) (fun h => by rw [Bd.returns] at h; cases h)
  refine ⟨_, _, pre0 _ ?_, hrun, hended, _, _, rfl, ?_, ⟨_, rfl⟩, hW, hsame.mono (by decide) (by decide)⟩
  -- 4. STEPS
  · show Steps p.tables e below (s₁.setTop (mkF m 0 #[.val (.ref a1)] [])) _
    refine XS.aloadN X0.here hx rfl (hb hby d6_0) rfl rfl ?_
    show Steps p.tables e below (s₁.setTop (mkF m 1 #[.val (.ref a1)] [(.ref a1)])) _
    refine st3 _ ?_
    show Steps p.tables e below (T3.setTop (mkF m 4 #[.val (.ref a1)] [(.long w2)])) _
    refine XS.lconst X3.here hx rfl (hb hby d6_4) ?_
    show Steps p.tables e below (T3.setTop (mkF m 5 #[.val (.ref a1)] [(.long (0 : Int64)), (.long w2)])) _
    refine XS.lcmp X3.here hx rfl (hb hby d6_5) rfl ?_
    show Steps p.tables e below (T3.setTop (mkF m 6 #[.val (.ref a1)] [(.int (lcmpW w2 (0 : Int64)))])) _
    refine XS.ifNo X3.here hx rfl (hb hby d6_6) rfl ((if0 _ _).trans (tlt hc6).2.2.2) ?_
    show Steps p.tables e below (T3.setTop (mkF m 9 #[.val (.ref a1)] [])) _
    refine XS.iconst X3.here hx rfl (hb hby d6_9) ?_
    show Steps p.tables e below (T3.setTop (mkF m 10 #[.val (.ref a1)] [(.int (1 : Int32))])) _
    refine XS.goto X3.here hx rfl (pc0 := 10) (pc' := 14) rfl (hb hby d6_10) (by decide) (by decide) ?_
    show Steps p.tables e below (T3.setTop (mkF m 14 #[.val (.ref a1)] [(.int (1 : Int32))])) _
    exact retN X3 hx (t := .boolean) Bd.returns (by simp) (hb hby d6_14) hr
  · show QV (some (.int 1)) h0 n0 _ T3.heap _
    rw [e3]
    exact ⟨rfl, N0, rfl⟩
theorem d7_0 : decode prog_12_method_7_code 0 = .ok (.aload_n 0, 1) := by decide +kernel
theorem d7_1 : decode prog_12_method_7_code 1 = .ok (.invokevirtual 73, 3) := by decide +kernel
theorem d7_4 : decode prog_12_method_7_code 4 = .ok (.ifCond .ne 13, 3) := by decide +kernel
theorem d7_17 : decode prog_12_method_7_code 17 = .ok (.aload_n 0, 1) := by decide +kernel
theorem d7_18 : decode prog_12_method_7_code 18 = .ok (.getfield 7, 3) := by decide +kernel
theorem d7_21 : decode prog_12_method_7_code 21 = .ok (.lreturn, 1) := by decide +kernel
theorem pn_7 : plainName "com/example/portunus/portunus/store/Acquisition" = true := by first | (simp [plainName, overriddenIn]; done) | decide +kernel
theorem pd_7_5 : parseMethodDescriptor "()Z" = some ⟨[], some .boolean⟩ := by decide +kernel
theorem ef_7 (m : MethodId) (x0 : Addr) : entryFrame m #[(.ref x0)] 1 = mkF m 0 #[.val (.ref x0)] [] := by first | (simp [entryFrame, mkF, argsToLocals, Value.category]; done) | rfl
-- its room: frames: the greatest, locals: the greatest, cells 0 + .., slots 0 + ..: rm6: frames + 1; locals 0 + 1 + 11 + its room's locals; its cells and slots besides
set_option maxRecDepth 65536 in
set_option maxHeartbeats 40000000 in
theorem rm7 (l : Launch) (Z : State) (a0 : Array Value) (hw : ∀ d ∈ tables_1, d.before a0 Z = true) (ws : List Jvm.Cond) (a1 : Addr) (w3 : Int64) (h0 : Heap) (n0 : Nat) (Z0 : n0 ≤ h0.size) (E_a1 : Exa Z h0 a1 "com/example/portunus/portunus/store/Acquisition") (F_token_a1 : Fld Z h0 a1 "com/example/portunus/portunus/store/Acquisition" "token" "J" (.long w3)) (hp : (0 : Int32) < lcmpW w3 (0 : Int64)) :
    MetFree l (⟨"com/example/portunus/portunus/store/Acquisition", "fencingToken", "()J"⟩ : MethodName) (head1 (Jvm.Cond.code (⟨"com/example/portunus/portunus/store/Acquisition", "fencingToken", "()J"⟩ : MethodName) prog_12_method_7_code 1 (some .long) :: ws) ({ frames := 1, cells := 0, slots := 0, locals := 12 } : Room)) (fun a U => a = #[(.ref a1)] ∧ Z.Warmed39 U.vm ∧ U.heap = h0) (fun _ _ _ _ _ => True) (fun _ U o U' => ∃ v L, o = .returned v ∧ QV (some (.long w3)) h0 n0 v U'.heap L ∧ FrameEnd U o U' L ({ frames := 1, cells := 0, slots := 0, locals := 12 } : Room).cells ({ frames := 1, cells := 0, slots := 0, locals := 12 } : Room).slots) := by
  refine MetFree.of_bodySF (plainFor_of_name pn_7) hisR ?_
  intro p e s m args below meth c s₁ Bd hml0 hP hK
  obtain ⟨rfl, hZ, hh⟩ := hP
  have hx := Bd.exec
  have hby := Bd.bytes
  have hml : c.maxLocals = 1 := hml0
  have hown : s.vm.findClass "com/example/portunus/portunus/store/Acquisition" = some m.cls := findClass_of_methodNamed Bd.named
  have hnm := (name_of_methodNamed Bd.named Bd.method).1
  have X0 : Stand p l e ({ frames := 1, cells := 0, slots := 0, locals := 12 } : Room) s m #[(.ref a1)] below meth c s₁ [] 0 0 := Stand.of_body Bd
  have e0 : s₁.heap = h0 := by rw [← hh, Bd.state]; rfl
  have N0 := Fr.nil n0
  have pre0 : ∀ t, Steps p.tables e below (s₁.setTop (mkF m 0 #[.val (.ref a1)] [])) t → Steps p.tables e below (s₁.setTop (entryFrame m #[(.ref a1)] 1)) t := fun t k => castTop (ef_7 m a1) k
  -- 3. LAWS
  -- pc 1: com/example/portunus/portunus/store/Acquisition.isGranted by the contract of the body that the receiver's class selects, rm6
  obtain ⟨cq2, kq2, q2a, q2b, q2c⟩ := isOf hZ e0 E_a1
  obtain ⟨_, _, ⟨T2, L2, k2, n2⟩, -, X2, ⟨Lc2, hQ2, l2, y2, z2⟩, st2⟩ := X0.virtualBack hx (y := (⟨"com/example/portunus/portunus/store/Acquisition", "isGranted", "()Z"⟩ : MethodName)) (z := (⟨"com/example/portunus/portunus/store/Acquisition", "isGranted", "()Z"⟩ : MethodName)) hown (mvT hZ (hw _ (List.mem_of_getElem? (i := 36) rfl))) (mvT hZ (hw _ (List.mem_of_getElem? (i := 27) rfl))) (notFace_of_selects (args := #[]) (mvT hZ (hw _ (List.mem_of_getElem? (i := 29) rfl)))) (mvT hZ (hw _ (List.mem_of_getElem? (i := 29) rfl))) (mvT hZ (hw _ (List.mem_of_getElem? (i := 28) rfl))) (by decide) (backOf (W := 0) (rm6 l Z a0 hw [] a1 w3 h0 n0 Z0 F_token_a1 hp) hZ (hw _ (List.mem_of_getElem? (i := 30) rfl)) (hw _ (List.mem_of_getElem? (i := 7) rfl)) (by decide) (by decide)) q2a q2c (g := (mkF m 1 #[.val (.ref a1)] [(.ref a1)])) rfl (by rw [hml]; rfl) (Steps.refl _) (argsL := []) (rest := []) (lenOf pd_7_5 rfl) rfl (by show 2 * 0 + _ ≤ _; exact Nat.le_of_eq rfl) (hb hby d7_1) (fun _ _ => ⟨rfl, e0, (by decide : 0 + 0 ≤ _), (by decide : 0 + 0 ≤ _)⟩)
  dsimp only [Pt.U, Pt.locs, Pt.cells, Pt.slots] at X2 l2 y2 z2 st2 hQ2
  subst l2 y2 z2
  obtain ⟨rfl, N2q, e2⟩ := hQ2      -- what it returned, that it wrote nothing old, and the rest of your Q6
  have N2 := Fr.app N0 N2q
  obtain ⟨T4, X4, e4, st4⟩ := getF X2 hx hZ hown (host := "") (Or.inl (hw _ (List.mem_of_getElem? (i := 22) rfl))) Via.refl e2 F_token_a1 (g := (mkF m 18 #[.val (.ref a1)] [(.ref a1)])) rfl rfl (hb hby d7_18)
  obtain ⟨fs, hr, hrun, hended, hW, hsame⟩ := X4.leave (v := some (.long w3)) (fun h => by rw [Bd.returns] at h; cases h)
  refine ⟨_, _, pre0 _ ?_, hrun, hended, _, _, rfl, ?_, ⟨_, rfl⟩, hW, hsame.mono (by decide) (by decide)⟩
  -- 4. STEPS
  · show Steps p.tables e below (s₁.setTop (mkF m 0 #[.val (.ref a1)] [])) _
    refine XS.aloadN X0.here hx rfl (hb hby d7_0) rfl rfl ?_
    show Steps p.tables e below (s₁.setTop (mkF m 1 #[.val (.ref a1)] [(.ref a1)])) _
    refine st2.trans ?_
    show Steps p.tables e below (T2.setTop (mkF m 4 #[.val (.ref a1)] [(.int (1 : Int32))])) _
    refine XS.ifYes X2.here hx rfl (pc0 := 4) (pc' := 17) rfl (hb hby d7_4) rfl ((if0 _ _).trans (feq (by decide : ¬ ((1 : Int32) = (0 : Int32)))).2) (by decide) (by decide) ?_
    show Steps p.tables e below (T2.setTop (mkF m 17 #[.val (.ref a1)] [])) _
    refine XS.aloadN X2.here hx rfl (hb hby d7_17) rfl rfl ?_
    show Steps p.tables e below (T2.setTop (mkF m 18 #[.val (.ref a1)] [(.ref a1)])) _
    refine st4 _ ?_
    show Steps p.tables e below (T4.setTop (mkF m 21 #[.val (.ref a1)] [(.long w3)])) _
    jvm_step X4.here [X4.here.top, hx, (hb hby d7_21), X4.method', Bd.returns, narrow]
    first | (intro acts; rw [hr _ acts rfl rfl rfl]) | rw [hr _ _ rfl rfl rfl]
    exact Steps.refl _
  · show QV (some (.long w3)) h0 n0 _ T4.heap _
    rw [e4]
    exact ⟨rfl, N2, rfl⟩
theorem d8_0 : decode prog_12_method_8_code 0 = .ok (.aload_n 0, 1) := by decide +kernel
theorem d8_1 : decode prog_12_method_8_code 1 = .ok (.getfield 13, 3) := by decide +kernel
theorem d8_4 : decode prog_12_method_8_code 4 = .ok (.areturn, 1) := by decide +kernel
theorem pn_8 : plainName "com/example/portunus/portunus/store/Acquisition" = true := by first | (simp [plainName, overriddenIn]; done) | decide +kernel
theorem ef_8 (m : MethodId) (x0 : Addr) : entryFrame m #[(.ref x0)] 1 = mkF m 0 #[.val (.ref x0)] [] := by first | (simp [entryFrame, mkF, argsToLocals, Value.category]; done) | rfl
set_option maxRecDepth 65536 in
set_option maxHeartbeats 40000000 in
theorem rm8 (l : Launch) (Z : State) (a0 : Array Value) (hw : ∀ d ∈ tables_1, d.before a0 Z = true) (ws : List Jvm.Cond) (a1 : Addr) (w2 : Addr) (h0 : Heap) (n0 : Nat) (Z0 : n0 ≤ h0.size) (F_left_a1 : Fld Z h0 a1 "com/example/portunus/portunus/store/Acquisition" "left" "Ljava/util/Optional;" (.ref w2)) :
    MetFree l (⟨"com/example/portunus/portunus/store/Acquisition", "askAgainWithin", "()Ljava/util/Optional;"⟩ : MethodName) (head1 (Jvm.Cond.code (⟨"com/example/portunus/portunus/store/Acquisition", "askAgainWithin", "()Ljava/util/Optional;"⟩ : MethodName) prog_12_method_8_code 1 (some (.object "java/util/Optional")) :: ws) ({ frames := 0, cells := 0, slots := 0, locals := 0 } : Room)) (fun a U => a = #[(.ref a1)] ∧ Z.Warmed39 U.vm ∧ U.heap = h0) (fun _ _ _ _ _ => True) (fun _ U o U' => ∃ v L, o = .returned v ∧ QV (some (.ref w2)) h0 n0 v U'.heap L ∧ FrameEnd U o U' L ({ frames := 0, cells := 0, slots := 0, locals := 0 } : Room).cells ({ frames := 0, cells := 0, slots := 0, locals := 0 } : Room).slots) := by
  refine MetFree.of_bodySF (plainFor_of_name pn_8) hisR ?_
  intro p e s m args below meth c s₁ Bd hml0 hP hK
  obtain ⟨rfl, hZ, hh⟩ := hP
  have hx := Bd.exec
  have hby := Bd.bytes
  have hml : c.maxLocals = 1 := hml0
  have hown : s.vm.findClass "com/example/portunus/portunus/store/Acquisition" = some m.cls := findClass_of_methodNamed Bd.named
  have hnm := (name_of_methodNamed Bd.named Bd.method).1
  have X0 : Stand p l e ({ frames := 0, cells := 0, slots := 0, locals := 0 } : Room) s m #[(.ref a1)] below meth c s₁ [] 0 0 := Stand.of_body Bd
  have e0 : s₁.heap = h0 := by rw [← hh, Bd.state]; rfl
  have N0 := Fr.nil n0
  have pre0 : ∀ t, Steps p.tables e below (s₁.setTop (mkF m 0 #[.val (.ref a1)] [])) t → Steps p.tables e below (s₁.setTop (entryFrame m #[(.ref a1)] 1)) t := fun t k => castTop (ef_8 m a1) k
  -- 3. LAWS
  obtain ⟨T3, X3, e3, st3⟩ := getF X0 hx hZ hown (host := "") (Or.inl (hw _ (List.mem_of_getElem? (i := 24) rfl))) Via.refl e0 F_left_a1 (g := (mkF m 1 #[.val (.ref a1)] [(.ref a1)])) rfl rfl (hb hby d8_1)
  obtain ⟨fs, hr, hrun, hended, hW, hsame⟩ := X3.leave (v := some (.ref w2)) (fun h => by rw [Bd.returns] at h; cases h)
  refine ⟨_, _, pre0 _ ?_, hrun, hended, _, _, rfl, ?_, ⟨_, rfl⟩, hW, hsame.mono (by decide) (by decide)⟩
  -- 4. STEPS
  · show Steps p.tables e below (s₁.setTop (mkF m 0 #[.val (.ref a1)] [])) _
    refine XS.aloadN X0.here hx rfl (hb hby d8_0) rfl rfl ?_
    show Steps p.tables e below (s₁.setTop (mkF m 1 #[.val (.ref a1)] [(.ref a1)])) _
    refine st3 _ ?_
    show Steps p.tables e below (T3.setTop (mkF m 4 #[.val (.ref a1)] [(.ref w2)])) _
    jvm_step X3.here [X3.here.top, hx, (hb hby d8_4), X3.method', Bd.returns, Value.isRef, FieldType.isReference]
    first | (intro acts; rw [hr _ acts rfl rfl rfl]) | rw [hr _ _ rfl rfl rfl]
    exact Steps.refl _
  · show QV (some (.ref w2)) h0 n0 _ T3.heap _
    rw [e3]
    exact ⟨rfl, N0, rfl⟩
theorem d9_0 : decode jdk_32_method_6_code 0 = .ok (.aload_n 0, 1) := by decide +kernel
theorem d9_1 : decode jdk_32_method_6_code 1 = .ok (.getfield 13, 3) := by decide +kernel
theorem d9_4 : decode jdk_32_method_6_code 4 = .ok (.ifnull 7, 3) := by decide +kernel
theorem d9_7 : decode jdk_32_method_6_code 7 = .ok (.iconst 1, 1) := by decide +kernel
theorem d9_8 : decode jdk_32_method_6_code 8 = .ok (.goto 4, 3) := by decide +kernel
theorem d9_12 : decode jdk_32_method_6_code 12 = .ok (.ireturn, 1) := by decide +kernel
theorem pn_9 : plainName "java/util/Optional" = true := by first | (simp [plainName, overriddenIn]; done) | decide +kernel
theorem ef_9 (m : MethodId) (x0 : Addr) : entryFrame m #[(.ref x0)] 1 = mkF m 0 #[.val (.ref x0)] [] := by first | (simp [entryFrame, mkF, argsToLocals, Value.category]; done) | rfl
theorem d9_11 : decode jdk_32_method_6_code 11 = .ok (.iconst 0, 1) := by decide +kernel
set_option maxRecDepth 65536 in
set_option maxHeartbeats 40000000 in
theorem rm9 (l : Launch) (Z : State) (a0 : Array Value) (hw : ∀ d ∈ tables_1, d.before a0 Z = true) (ws : List Jvm.Cond) (a1 : Addr) (h0 : Heap) (n0 : Nat) (Z0 : n0 ≤ h0.size) (F_value_a1 : Fld Z h0 a1 "java/util/Optional" "value" "Ljava/lang/Object;" .null) :
    MetFree l (⟨"java/util/Optional", "isPresent", "()Z"⟩ : MethodName) (head1 (Jvm.Cond.code (⟨"java/util/Optional", "isPresent", "()Z"⟩ : MethodName) jdk_32_method_6_code 1 (some .boolean) :: ws) ({ frames := 0, cells := 0, slots := 0, locals := 0 } : Room)) (fun a U => a = #[(.ref a1)] ∧ Z.Warmed39 U.vm ∧ U.heap = h0) (fun _ _ _ _ _ => True) (fun _ U o U' => ∃ v L, o = .returned v ∧ QV (some (.int 0)) h0 n0 v U'.heap L ∧ FrameEnd U o U' L ({ frames := 0, cells := 0, slots := 0, locals := 0 } : Room).cells ({ frames := 0, cells := 0, slots := 0, locals := 0 } : Room).slots) := by
  refine MetFree.of_bodySF (plainFor_of_name pn_9) hisR ?_
  intro p e s m args below meth c s₁ Bd hml0 hP hK
  obtain ⟨rfl, hZ, hh⟩ := hP
  have hx := Bd.exec
  have hby := Bd.bytes
  have hml : c.maxLocals = 1 := hml0
  have hown : s.vm.findClass "java/util/Optional" = some m.cls := findClass_of_methodNamed Bd.named
  have hnm := (name_of_methodNamed Bd.named Bd.method).1
  have X0 : Stand p l e ({ frames := 0, cells := 0, slots := 0, locals := 0 } : Room) s m #[(.ref a1)] below meth c s₁ [] 0 0 := Stand.of_body Bd
  have e0 : s₁.heap = h0 := by rw [← hh, Bd.state]; rfl
  have N0 := Fr.nil n0
  have pre0 : ∀ t, Steps p.tables e below (s₁.setTop (mkF m 0 #[.val (.ref a1)] [])) t → Steps p.tables e below (s₁.setTop (entryFrame m #[(.ref a1)] 1)) t := fun t k => castTop (ef_9 m a1) k
  -- 3. LAWS
  obtain ⟨T3, X3, e3, st3⟩ := getF X0 hx hZ hown (host := "") (Or.inl (hw _ (List.mem_of_getElem? (i := 47) rfl))) Via.refl e0 F_value_a1 (g := (mkF m 1 #[.val (.ref a1)] [(.ref a1)])) rfl rfl (hb hby d9_1)
  obtain ⟨fs, hr, hrun, hended, hW, hsame⟩ := X3.leave (v := some (.int (0 : Int32))) (fun h => by rw [Bd.returns] at h; cases h)
  refine ⟨_, _, pre0 _ ?_, hrun, hended, _, _, rfl, ?_, ⟨_, rfl⟩, hW, hsame.mono (by decide) (by decide)⟩
  -- 4. STEPS
  · show Steps p.tables e below (s₁.setTop (mkF m 0 #[.val (.ref a1)] [])) _
    refine XS.aloadN X0.here hx rfl (hb hby d9_0) rfl rfl ?_
    show Steps p.tables e below (s₁.setTop (mkF m 1 #[.val (.ref a1)] [(.ref a1)])) _
    refine st3 _ ?_
    show Steps p.tables e below (T3.setTop (mkF m 4 #[.val (.ref a1)] [.null])) _
    refine XS.ifnullYes X3.here hx rfl (pc0 := 4) (pc' := 11) rfl (hb hby d9_4) rfl (by decide) (by decide) ?_
    show Steps p.tables e below (T3.setTop (mkF m 11 #[.val (.ref a1)] [])) _
    refine XS.iconst X3.here hx rfl (hb hby d9_11) ?_
    show Steps p.tables e below (T3.setTop (mkF m 12 #[.val (.ref a1)] [(.int (0 : Int32))])) _
    exact retN X3 hx (t := .boolean) Bd.returns (by simp) (hb hby d9_12) hr
  · show QV (some (.int 0)) h0 n0 _ T3.heap _
    rw [e3]
    exact ⟨rfl, N0, rfl⟩
def Q2 (Z : State) (q1 : Int64) (wE : Addr) (h0 : Heap) (n0 : Nat) (v : Option Value) (h : Heap) (L : List Loc) : Prop := v = some (.ref h0.size) ∧ Fr n0 L ∧ Keep h0 h [] ∧ Exa Z h h0.size "com/example/portunus/portunus/store/Acquisition" ∧ Fld Z h h0.size "com/example/portunus/portunus/store/Acquisition" "token" "J" (.long q1) ∧ Fld Z h h0.size "com/example/portunus/portunus/store/Acquisition" "left" "Ljava/util/Optional;" (.ref wE)
theorem d2_0 : decode prog_12_method_2_code 0 = .ok (.lload_n 0, 1) := by decide +kernel
theorem d2_1 : decode prog_12_method_2_code 1 = .ok (.lconst 0, 1) := by decide +kernel
theorem d2_2 : decode prog_12_method_2_code 2 = .ok (.lcmp, 1) := by decide +kernel
theorem d2_3 : decode prog_12_method_2_code 3 = .ok (.ifCond .gt 27, 3) := by decide +kernel
theorem d2_30 : decode prog_12_method_2_code 30 = .ok (.new 8, 3) := by decide +kernel
theorem d2_33 : decode prog_12_method_2_code 33 = .ok (.dup, 1) := by decide +kernel
theorem d2_34 : decode prog_12_method_2_code 34 = .ok (.lload_n 0, 1) := by decide +kernel
theorem d2_35 : decode prog_12_method_2_code 35 = .ok (.invokestatic 36, 3) := by decide +kernel
theorem d2_38 : decode prog_12_method_2_code 38 = .ok (.invokespecial 42, 3) := by decide +kernel
theorem d2_41 : decode prog_12_method_2_code 41 = .ok (.areturn, 1) := by decide +kernel
theorem pn_2 : plainName "com/example/portunus/portunus/store/Acquisition" = true := by first | (simp [plainName, overriddenIn]; done) | decide +kernel
theorem pd_2_2 : parseMethodDescriptor "()Ljava/util/Optional;" = some ⟨[], some (.object "java/util/Optional")⟩ := by decide +kernel
theorem pd_2_3 : parseMethodDescriptor "(JLjava/util/Optional;)V" = some ⟨[.long, (.object "java/util/Optional")], none⟩ := by decide +kernel
theorem ef_2 (m : MethodId) (x0 : Int64) : entryFrame m #[(.long x0)] 2 = mkF m 0 #[.val (.long x0), .second] [] := by first | (simp [entryFrame, mkF, argsToLocals, Value.category]; done) | rfl
set_option maxRecDepth 65536 in
set_option maxHeartbeats 40000000 in
theorem rm2 (l : Launch) (Z : State) (a0 : Array Value) (hw : ∀ d ∈ tables_1, d.before a0 Z = true) (ws : List Jvm.Cond) (q1 : Int64) (wE : Addr) (h0 : Heap) (n0 : Nat) (Z0 : n0 ≤ h0.size) (S_EMPTY : Sta Z h0 "java/util/Optional" "EMPTY" "Ljava/util/Optional;" (.ref wE)) (hc3 : (0 : Int32) < (lcmpW q1 (0 : Int64))) :
    MetFree l (⟨"com/example/portunus/portunus/store/Acquisition", "granted", "(J)Lcom/example/portunus/portunus/store/Acquisition;"⟩ : MethodName) (head1 (Jvm.Cond.code (⟨"com/example/portunus/portunus/store/Acquisition", "granted", "(J)Lcom/example/portunus/portunus/store/Acquisition;"⟩ : MethodName) prog_12_method_2_code 2 (some (.object "com/example/portunus/portunus/store/Acquisition")) :: ws) ({ frames := 2, cells := 1, slots := 2, locals := 28 } : Room)) (fun a U => a = #[(.long q1)] ∧ Z.Warmed39 U.vm ∧ U.heap = h0) (fun _ _ _ _ _ => True) (fun _ U o U' => ∃ v L, o = .returned v ∧ Q2 Z q1 wE h0 n0 v U'.heap L ∧ FrameEnd U o U' L ({ frames := 2, cells := 1, slots := 2, locals := 28 } : Room).cells ({ frames := 2, cells := 1, slots := 2, locals := 28 } : Room).slots) := by
  refine MetFree.of_bodySF (plainFor_of_name pn_2) hisR ?_
  intro p e s m args below meth c s₁ Bd hml0 hP hK
  obtain ⟨rfl, hZ, hh⟩ := hP
  have hx := Bd.exec
  have hby := Bd.bytes
  have hml : c.maxLocals = 2 := hml0
  have hown : s.vm.findClass "com/example/portunus/portunus/store/Acquisition" = some m.cls := findClass_of_methodNamed Bd.named
  have hnm := (name_of_methodNamed Bd.named Bd.method).1
  have X0 : Stand p l e ({ frames := 2, cells := 1, slots := 2, locals := 28 } : Room) s m #[(.long q1)] below meth c s₁ [] 0 0 := Stand.of_body Bd
  have e0 : s₁.heap = h0 := by rw [← hh, Bd.state]; rfl
  have N0 := Fr.nil n0
  have pre0 : ∀ t, Steps p.tables e below (s₁.setTop (mkF m 0 #[.val (.long q1), .second] [])) t → Steps p.tables e below (s₁.setTop (entryFrame m #[(.long q1)] 2)) t := fun t k => castTop (ef_2 m q1) k
  -- 3. LAWS
  obtain ⟨T2, h2, X2, e2, E2, A2, D2, -, st2⟩ := newO X0 hx hZ hown (hw _ (List.mem_of_getElem? (i := 9) rfl)) (hw _ (List.mem_of_getElem? (i := 10) rfl)) (hw _ (List.mem_of_getElem? (i := 7) rfl)) e0 (g := (mkF m 30 #[.val (.long q1), .second] [])) rfl (hb hby d2_30) (by decide) (by decide)
  obtain ⟨b2, g2⟩ : ∃ z, z = h0.size := ⟨_, rfl⟩      -- the fresh object's address
  rw [← g2] at A2 D2 st2      -- A2 : Exa Z h2 b2 "com/example/portunus/portunus/store/Acquisition"; E2 : Ext h0 h2 (carries every older fact: .ext E2)
  have F_token_b2 : Fld Z h2 b2 "com/example/portunus/portunus/store/Acquisition" "token" "J" (.long (0 : Int64)) := D2 (Or.inr (hw _ (List.mem_of_getElem? (i := 23) rfl))) (ty := .long) (by decide)
  have F_left_b2 : Fld Z h2 b2 "com/example/portunus/portunus/store/Acquisition" "left" "Ljava/util/Optional;" .null := D2 (Or.inr (hw _ (List.mem_of_getElem? (i := 25) rfl))) (ty := (.object "java/util/Optional")) (by decide)
  have E_b2 := A2
  have g_b2 : n0 ≤ b2 := Nat.le_trans Z0 (Nat.le_of_eq g2.symm)
  have sz_b2 : h0.size ≤ b2 := (Nat.le_trans (Keep.refl h0 []).1 (Nat.le_of_eq g2.symm))
  have K2 : Keep h0 h2 [] := (Keep.refl h0 []).ext E2
  -- pc 35: java/util/Optional.empty by its contract rm3
  obtain ⟨_, _, ⟨T3, L3, k3, n3⟩, -, X3, ⟨Lc3, hQ3, l3, y3, z3⟩, st3⟩ := Jvm.LawKit.callS X2 hx (y := (⟨"java/util/Optional", "empty", "()Ljava/util/Optional;"⟩ : MethodName)) hown (mvT hZ (hw _ (List.mem_of_getElem? (i := 11) rfl))) (mvT hZ (hw _ (List.mem_of_getElem? (i := 12) rfl))) (mvT hZ (hw _ (List.mem_of_getElem? (i := 13) rfl))) (mvT hZ (hw _ (List.mem_of_getElem? (i := 14) rfl))) (by decide) (backOf (W := 4) (rm3 l Z a0 hw [] wE h2 n0 (Nat.le_trans Z0 E2.1) (S_EMPTY.ext E2)) hZ (hw _ (List.mem_of_getElem? (i := 14) rfl)) (hw _ (List.mem_of_getElem? (i := 13) rfl)) (by decide) (by decide)) (g := (mkF m 35 #[.val (.long q1), .second] [(.long q1), (.ref b2), (.ref b2)])) rfl (by rw [hml]; rfl) (argsL := []) (rest := [(.long q1), (.ref b2), (.ref b2)]) (lenOf pd_2_2 rfl) rfl (by show 2 * 0 + _ ≤ _; exact Nat.le_of_eq rfl) (hb hby d2_35) (fun _ _ => ⟨rfl, e2, (by decide : 1 + 0 ≤ _), (by decide : 2 + 0 ≤ _)⟩)
  dsimp only [Pt.U, Pt.locs, Pt.cells, Pt.slots] at X3 l3 y3 z3 st3 hQ3
  subst l3 y3 z3
  obtain ⟨rfl, N3q, e3⟩ := hQ3      -- what it returned, that it wrote nothing old, and the rest of your Q3
  have N3 := Fr.app N0 N3q
  -- pc 38: the constructor of com/example/portunus/portunus/store/Acquisition by its contract rm4
  obtain ⟨_, _, ⟨T4, L4, k4, n4⟩, -, X4, ⟨Lc4, hQ4, l4, y4, z4⟩, st4⟩ := X3.specialBack hx (y := (⟨"com/example/portunus/portunus/store/Acquisition", "<init>", "(JLjava/util/Optional;)V"⟩ : MethodName)) rfl hown (mvT hZ (hw _ (List.mem_of_getElem? (i := 16) rfl))) (mvT hZ (hw _ (List.mem_of_getElem? (i := 17) rfl))) (mvT hZ (hw _ (List.mem_of_getElem? (i := 18) rfl))) (by decide) (backOf (W := 1) (rm4 l Z a0 hw [] b2 q1 wE _ _ h2 n0 (Nat.le_trans Z0 E2.1) E_b2 F_token_b2 g_b2 F_left_b2) hZ (hw _ (List.mem_of_getElem? (i := 18) rfl)) (hw _ (List.mem_of_getElem? (i := 7) rfl)) (by decide) (by decide)) (g := (mkF m 38 #[.val (.long q1), .second] [(.ref wE), (.long q1), (.ref b2), (.ref b2)])) rfl (by rw [hml]; rfl) (Steps.refl _) (a := b2) (argsL := [(.long q1), (.ref wE)]) (rest := [(.ref b2)]) (lenOf pd_2_3 rfl) rfl (by show 2 * 0 + _ ≤ _; exact Nat.le_of_eq rfl) (hb hby d2_38) (fun _ _ => ⟨rfl, e3, (by decide : 1 + 0 ≤ _), (by decide : 2 + 0 ≤ _)⟩)
  dsimp only [Pt.U, Pt.locs, Pt.cells, Pt.slots] at X4 l4 y4 z4 st4 hQ4
  subst l4 y4 z4
  obtain ⟨rfl, N4q, K4, E4, Ft4, Fl4⟩ := hQ4      -- what it returned, that it wrote nothing old, and the rest of your Q4
  have N4 := Fr.app N3 N4q
  obtain ⟨fs, hr, hrun, hended, hW, hsame⟩ := X4.leave (v := some (.ref b2)) (fun h => by rw [Bd.returns] at h; cases h)
  refine ⟨_, _, pre0 _ ?_, hrun, hended, _, _, rfl, ?_, ⟨_, rfl⟩, hW, hsame.mono (by decide) (by decide)⟩
  -- 4. STEPS
  · show Steps p.tables e below (s₁.setTop (mkF m 0 #[.val (.long q1), .second] [])) _
    refine XS.lloadN X0.here hx rfl (hb hby d2_0) rfl ?_
    show Steps p.tables e below (s₁.setTop (mkF m 1 #[.val (.long q1), .second] [(.long q1)])) _
    refine XS.lconst X0.here hx rfl (hb hby d2_1) ?_
    show Steps p.tables e below (s₁.setTop (mkF m 2 #[.val (.long q1), .second] [(.long (0 : Int64)), (.long q1)])) _
    refine XS.lcmp X0.here hx rfl (hb hby d2_2) rfl ?_
    show Steps p.tables e below (s₁.setTop (mkF m 3 #[.val (.long q1), .second] [(.int (lcmpW q1 (0 : Int64)))])) _
    refine XS.ifYes X0.here hx rfl (pc0 := 3) (pc' := 30) rfl (hb hby d2_3) rfl ((if0 _ _).trans (tlt hc3).2.2.1) (by decide) (by decide) ?_
    show Steps p.tables e below (s₁.setTop (mkF m 30 #[.val (.long q1), .second] [])) _
    refine st2 _ ?_
    show Steps p.tables e below (T2.setTop (mkF m 33 #[.val (.long q1), .second] [(.ref b2)])) _
    refine XS.dup X2.here hx rfl (hb hby d2_33) rfl rfl ?_
    show Steps p.tables e below (T2.setTop (mkF m 34 #[.val (.long q1), .second] [(.ref b2), (.ref b2)])) _
    refine XS.lloadN X2.here hx rfl (hb hby d2_34) rfl ?_
    show Steps p.tables e below (T2.setTop (mkF m 35 #[.val (.long q1), .second] [(.long q1), (.ref b2), (.ref b2)])) _
    refine st3 _ ?_
    show Steps p.tables e below (T3.setTop (mkF m 38 #[.val (.long q1), .second] [(.ref wE), (.long q1), (.ref b2), (.ref b2)])) _
    refine st4.trans ?_
    show Steps p.tables e below (T4.setTop (mkF m 41 #[.val (.long q1), .second] [(.ref b2)])) _
    jvm_step X4.here [X4.here.top, hx, (hb hby d2_41), X4.method', Bd.returns, Value.isRef, FieldType.isReference]
    first | (intro acts; rw [hr _ acts rfl rfl rfl]) | rw [hr _ _ rfl rfl rfl]
    exact Steps.refl _
  · show Q2 Z q1 wE h0 n0 _ T4.heap _
    subst g2
    exact ⟨rfl, N4, K2.trans K4 (fun x hx => Or.inr (by cases List.mem_singleton.mp hx; exact Nat.le_refl _)), E4, Ft4, Fl4⟩
def Q0 (Z : State) (q1 : Int64) (h0 : Heap) (n0 : Nat) (v : Option Value) (h : Heap) (L : List Loc) : Prop := v = some (.int (1 : Int32)) ∧ Fr n0 L
theorem own_pos {y : Int64} (h : lcmpW (1 : Int64) y < (0 : Int32)) : (0 : Int32) < lcmpW y (0 : Int64) := by
  have q := (lw_lt _ _).1 h
  refine (lw_gt _ _).2 ?_
  rw [Int64.lt_iff_toInt_lt] at q ⊢
  have e0 : (0 : Int64).toInt = 0 := by decide
  have e1 : (1 : Int64).toInt = 1 := by decide
  omega
theorem pn_0 : plainName "com/example/portunus/portunus/store/AcquisitionGrantedPinLaw" = true := by first | (simp [plainName, overriddenIn]; done) | decide +kernel
theorem pd_0_0 : parseMethodDescriptor "(JJ)J" = some ⟨[.long, .long], some .long⟩ := by decide +kernel
theorem pd_0_1 : parseMethodDescriptor "(J)Lcom/example/portunus/portunus/store/Acquisition;" = some ⟨[.long], some (.object "com/example/portunus/portunus/store/Acquisition")⟩ := by decide +kernel
theorem pd_0_5 : parseMethodDescriptor "()Z" = some ⟨[], some .boolean⟩ := by decide +kernel
theorem pd_0_6 : parseMethodDescriptor "()J" = some ⟨[], some .long⟩ := by decide +kernel
theorem pd_0_2 : parseMethodDescriptor "()Ljava/util/Optional;" = some ⟨[], some (.object "java/util/Optional")⟩ := by decide +kernel
theorem ef_0 (m : MethodId) (x0 : Int64) : entryFrame m #[(.long x0)] maxLocals = mkF m 0 #[.val (.long x0), .second, .unset, .unset, .unset] [] := by first | (simp [entryFrame, mkF, argsToLocals, Value.category, maxLocals]; done) | rfl
-- its room: frames: the greatest, locals: the greatest, cells 0 + .., slots 0 + ..: rm1: frames + 1; locals 0 + 4 + 11 + its room's locals; its cells and slots besides; rm2: frames + 1; locals 0 + 2 + 11 + its room's locals; its cells and slots besides; rm6: frames + 1; locals 0 + 1 + 11 + its room's locals; its cells and slots besides; rm7: frames + 1; locals 0 + 1 + 11 + its room's locals; its cells and slots besides; rm8: frames + 1; locals 0 + 1 + 11 + its room's locals; its cells and slots besides; rm9: frames + 1; locals 0 + 1 + 11 + its room's locals; its cells and slots besides
set_option maxRecDepth 65536 in
set_option maxHeartbeats 40000000 in
theorem rm0_a (l : Launch) (Z : State) (a0 : Array Value) (hw : ∀ d ∈ tables_1, d.before a0 Z = true) (ws : List Jvm.Cond) (q1 : Int64) (wE : Addr) (h0 : Heap) (n0 : Nat) (Z0 : n0 ≤ h0.size) (S_EMPTY : Sta Z h0 "java/util/Optional" "EMPTY" "Ljava/util/Optional;" (.ref wE)) (E_E : Exa Z h0 wE "java/util/Optional") (F_E : Fld Z h0 wE "java/util/Optional" "value" "Ljava/lang/Object;" .null) (hc3 : ¬ ((lcmpW (1 : Int64) (q1 &&& (9223372036854775807 : Int64))) < (0 : Int32))) :
    MetFree l x (head1 (Jvm.Cond.code x code maxLocals ret :: ws) room_1) (fun a U => a = #[(.long q1)] ∧ Z.Warmed39 U.vm ∧ U.heap = h0) (fun _ _ _ _ _ => True) (fun _ U o U' => ∃ v L, o = .returned v ∧ Q0 Z q1 h0 n0 v U'.heap L ∧ FrameEnd U o U' L room_1.cells room_1.slots) := by
  refine MetFree.of_bodySF (plainFor_of_name pn_0) hisR ?_
  intro p e s m args below meth c s₁ Bd hml0 hP hK
  obtain ⟨rfl, hZ, hh⟩ := hP
  have hx := Bd.exec
  have hby := Bd.bytes
  have hml : c.maxLocals = 5 := hml0
  have hown : s.vm.findClass "com/example/portunus/portunus/store/AcquisitionGrantedPinLaw" = some m.cls := findClass_of_methodNamed Bd.named
  have hnm := (name_of_methodNamed Bd.named Bd.method).1
  have X0 : Stand p l e room_1 s m #[(.long q1)] below meth c s₁ [] 0 0 := Stand.of_body Bd
  have e0 : s₁.heap = h0 := by rw [← hh, Bd.state]; rfl
  have N0 := Fr.nil n0
  have pre0 : ∀ t, Steps p.tables e below (s₁.setTop (mkF m 0 #[.val (.long q1), .second, .unset, .unset, .unset] [])) t → Steps p.tables e below (s₁.setTop (entryFrame m #[(.long q1)] maxLocals)) t := fun t k => castTop (ef_0 m q1) k
  -- 3. LAWS
  -- pc 6: java/lang/Math.max by its contract rm1
  obtain ⟨_, _, ⟨T2, L2, k2, n2⟩, -, X2, ⟨Lc2, hQ2, l2, y2, z2⟩, st2⟩ := Jvm.LawKit.callS X0 hx (y := (⟨"java/lang/Math", "max", "(JJ)J"⟩ : MethodName)) hown (mvT hZ (hw _ (List.mem_of_getElem? (i := 1) rfl))) (mvT hZ (hw _ (List.mem_of_getElem? (i := 2) rfl))) (mvT hZ (hw _ (List.mem_of_getElem? (i := 3) rfl))) (mvT hZ (hw _ (List.mem_of_getElem? (i := 4) rfl))) (by decide) (backOf (W := 0) (rm1_f l Z a0 hw [] (1 : Int64) (q1 &&& (9223372036854775807 : Int64)) h0 n0 Z0 hc3) hZ (hw _ (List.mem_of_getElem? (i := 4) rfl)) (hw _ (List.mem_of_getElem? (i := 3) rfl)) (by decide) (by decide)) (g := (mkF m 6 #[.val (.long q1), .second, .unset, .unset, .unset] [(.long (q1 &&& (9223372036854775807 : Int64))), (.long (1 : Int64))])) rfl (by rw [hml]; rfl) (argsL := [(.long (1 : Int64)), (.long (q1 &&& (9223372036854775807 : Int64)))]) (rest := []) (lenOf pd_0_0 rfl) rfl (by show 2 * 0 + _ ≤ _; exact Nat.le_of_eq rfl) (hb hby at_6) (fun _ _ => ⟨rfl, e0, (by decide : 0 + 0 ≤ _), (by decide : 0 + 0 ≤ _)⟩)
  dsimp only [Pt.U, Pt.locs, Pt.cells, Pt.slots] at X2 l2 y2 z2 st2 hQ2
  subst l2 y2 z2
  obtain ⟨rfl, N2q, e2⟩ := hQ2      -- what it returned, that it wrote nothing old, and the rest of your Q1
  have N2 := Fr.app N0 N2q
  have hp : (0 : Int32) < lcmpW (1 : Int64) (0 : Int64) := by decide
  -- pc 11: com/example/portunus/portunus/store/Acquisition.granted by its contract rm2
  obtain ⟨_, _, ⟨T3, L3, k3, n3⟩, -, X3, ⟨Lc3, hQ3, l3, y3, z3⟩, st3⟩ := Jvm.LawKit.callS X2 hx (y := (⟨"com/example/portunus/portunus/store/Acquisition", "granted", "(J)Lcom/example/portunus/portunus/store/Acquisition;"⟩ : MethodName)) hown (mvT hZ (hw _ (List.mem_of_getElem? (i := 5) rfl))) (mvT hZ (hw _ (List.mem_of_getElem? (i := 6) rfl))) (mvT hZ (hw _ (List.mem_of_getElem? (i := 7) rfl))) (mvT hZ (hw _ (List.mem_of_getElem? (i := 8) rfl))) (by decide) (backOf (W := 0) (rm2 l Z a0 hw [] (1 : Int64) wE h0 n0 Z0 S_EMPTY hp) hZ (hw _ (List.mem_of_getElem? (i := 8) rfl)) (hw _ (List.mem_of_getElem? (i := 7) rfl)) (by decide) (by decide)) (g := (mkF m 11 #[.val (.long q1), .second, .val (.long (1 : Int64)), .second, .unset] [(.long (1 : Int64))])) rfl (by rw [hml]; rfl) (argsL := [(.long (1 : Int64))]) (rest := []) (lenOf pd_0_1 rfl) rfl (by show 2 * 0 + _ ≤ _; exact Nat.le_of_eq rfl) (hb hby at_11) (fun _ _ => ⟨rfl, e2, (by decide : 0 + 1 ≤ _), (by decide : 0 + 2 ≤ _)⟩)
  dsimp only [Pt.U, Pt.locs, Pt.cells, Pt.slots] at X3 l3 y3 z3 st3 hQ3
  subst l3 y3 z3
  obtain ⟨rfl, N3q, K3, E_3, Ft3, Fl3⟩ := hQ3      -- what it returned, that it wrote nothing old, and the rest of your Q2
  obtain ⟨h3, e3⟩ : ∃ h, T3.heap = h := ⟨_, rfl⟩
  rw [e3] at K3 E_3 Ft3 Fl3
  have N3 := Fr.app N2 N3q
  have Z3 : n0 ≤ h3.size := Nat.le_trans Z0 K3.1
  -- pc 18: com/example/portunus/portunus/store/Acquisition.isGranted by the contract of the body that the receiver's class selects, rm6
  -- ✋ yours, out of the call's Q: E_3 : Exa Z h0 h0.size "com/example/portunus/portunus/store/Acquisition"
  obtain ⟨cq4, kq4, q4a, q4b, q4c⟩ := isOf hZ e3 E_3
  obtain ⟨_, _, ⟨T4, L4, k4, n4⟩, -, X4, ⟨Lc4, hQ4, l4, y4, z4⟩, st4⟩ := X3.virtualBack hx (y := (⟨"com/example/portunus/portunus/store/Acquisition", "isGranted", "()Z"⟩ : MethodName)) (z := (⟨"com/example/portunus/portunus/store/Acquisition", "isGranted", "()Z"⟩ : MethodName)) hown (mvT hZ (hw _ (List.mem_of_getElem? (i := 26) rfl))) (mvT hZ (hw _ (List.mem_of_getElem? (i := 27) rfl))) (notFace_of_selects (args := #[]) (mvT hZ (hw _ (List.mem_of_getElem? (i := 29) rfl)))) (mvT hZ (hw _ (List.mem_of_getElem? (i := 29) rfl))) (mvT hZ (hw _ (List.mem_of_getElem? (i := 28) rfl))) (by decide) (backOf (W := 0) (rm6 l Z a0 hw [] h0.size (1 : Int64) h3 n0 Z3 Ft3 hp) hZ (hw _ (List.mem_of_getElem? (i := 30) rfl)) (hw _ (List.mem_of_getElem? (i := 7) rfl)) (by decide) (by decide)) q4a q4c (g := (mkF m 18 #[.val (.long q1), .second, .val (.long (1 : Int64)), .second, .val (.ref h0.size)] [(.ref h0.size)])) rfl (by rw [hml]; rfl) (Steps.refl _) (argsL := []) (rest := []) (lenOf pd_0_5 rfl) rfl (by show 2 * 0 + _ ≤ _; exact Nat.le_of_eq rfl) (hb hby at_18) (fun _ _ => ⟨rfl, e3, (by decide : 0 + 1 + 0 ≤ _), (by decide : 0 + 2 + 0 ≤ _)⟩)
  dsimp only [Pt.U, Pt.locs, Pt.cells, Pt.slots] at X4 l4 y4 z4 st4 hQ4
  subst l4 y4 z4
  obtain ⟨rfl, N4q, e4⟩ := hQ4      -- what it returned, that it wrote nothing old, and the rest of your Q6
  have N4 := Fr.app N3 N4q
  -- pc 28: com/example/portunus/portunus/store/Acquisition.fencingToken by the contract of the body that the receiver's class selects, rm7
  obtain ⟨cq5, kq5, q5a, q5b, q5c⟩ := isOf hZ e4 E_3
  obtain ⟨_, _, ⟨T5, L5, k5, n5⟩, -, X5, ⟨Lc5, hQ5, l5, y5, z5⟩, st5⟩ := X4.virtualBack hx (y := (⟨"com/example/portunus/portunus/store/Acquisition", "fencingToken", "()J"⟩ : MethodName)) (z := (⟨"com/example/portunus/portunus/store/Acquisition", "fencingToken", "()J"⟩ : MethodName)) hown (mvT hZ (hw _ (List.mem_of_getElem? (i := 31) rfl))) (mvT hZ (hw _ (List.mem_of_getElem? (i := 32) rfl))) (notFace_of_selects (args := #[]) (mvT hZ (hw _ (List.mem_of_getElem? (i := 34) rfl)))) (mvT hZ (hw _ (List.mem_of_getElem? (i := 34) rfl))) (mvT hZ (hw _ (List.mem_of_getElem? (i := 33) rfl))) (by decide) (backOf (W := 0) (rm7 l Z a0 hw [] h0.size (1 : Int64) h3 n0 Z3 E_3 Ft3 hp) hZ (hw _ (List.mem_of_getElem? (i := 35) rfl)) (hw _ (List.mem_of_getElem? (i := 7) rfl)) (by decide) (by decide)) q5a q5c (g := (mkF m 28 #[.val (.long q1), .second, .val (.long (1 : Int64)), .second, .val (.ref h0.size)] [(.ref h0.size)])) rfl (by rw [hml]; rfl) (Steps.refl _) (argsL := []) (rest := []) (lenOf pd_0_6 rfl) rfl (by show 2 * 0 + _ ≤ _; exact Nat.le_of_eq rfl) (hb hby at_28) (fun _ _ => ⟨rfl, e4, (by decide : 0 + 1 + 0 ≤ _), (by decide : 0 + 2 + 0 ≤ _)⟩)
  dsimp only [Pt.U, Pt.locs, Pt.cells, Pt.slots] at X5 l5 y5 z5 st5 hQ5
  subst l5 y5 z5
  obtain ⟨rfl, N5q, e5⟩ := hQ5      -- what it returned, that it wrote nothing old, and the rest of your Q7
  have N5 := Fr.app N4 N5q
  -- pc 40: com/example/portunus/portunus/store/Acquisition.askAgainWithin by the contract of the body that the receiver's class selects, rm8
  obtain ⟨cq6, kq6, q6a, q6b, q6c⟩ := isOf hZ e5 E_3
  obtain ⟨_, _, ⟨T6, L6, k6, n6⟩, -, X6, ⟨Lc6, hQ6, l6, y6, z6⟩, st6⟩ := X5.virtualBack hx (y := (⟨"com/example/portunus/portunus/store/Acquisition", "askAgainWithin", "()Ljava/util/Optional;"⟩ : MethodName)) (z := (⟨"com/example/portunus/portunus/store/Acquisition", "askAgainWithin", "()Ljava/util/Optional;"⟩ : MethodName)) hown (mvT hZ (hw _ (List.mem_of_getElem? (i := 37) rfl))) (mvT hZ (hw _ (List.mem_of_getElem? (i := 38) rfl))) (notFace_of_selects (args := #[]) (mvT hZ (hw _ (List.mem_of_getElem? (i := 40) rfl)))) (mvT hZ (hw _ (List.mem_of_getElem? (i := 40) rfl))) (mvT hZ (hw _ (List.mem_of_getElem? (i := 39) rfl))) (by decide) (backOf (W := 0) (rm8 l Z a0 hw [] h0.size wE h3 n0 Z3 Fl3) hZ (hw _ (List.mem_of_getElem? (i := 41) rfl)) (hw _ (List.mem_of_getElem? (i := 7) rfl)) (by decide) (by decide)) q6a q6c (g := (mkF m 40 #[.val (.long q1), .second, .val (.long (1 : Int64)), .second, .val (.ref h0.size)] [(.ref h0.size)])) rfl (by rw [hml]; rfl) (Steps.refl _) (argsL := []) (rest := []) (lenOf pd_0_2 rfl) rfl (by show 2 * 0 + _ ≤ _; exact Nat.le_of_eq rfl) (hb hby at_40) (fun _ _ => ⟨rfl, e5, (by decide : 0 + 1 + 0 ≤ _), (by decide : 0 + 2 + 0 ≤ _)⟩)
  dsimp only [Pt.U, Pt.locs, Pt.cells, Pt.slots] at X6 l6 y6 z6 st6 hQ6
  subst l6 y6 z6
  obtain ⟨rfl, N6q, e6⟩ := hQ6      -- what it returned, that it wrote nothing old, and the rest of your Q8
  have N6 := Fr.app N5 N6q
  -- pc 43: java/util/Optional.isPresent by the contract of the body that the receiver's class selects, rm9
  -- ✋ yours, out of the call's Q: (E_E.keep K3) : Exa Z h0 wE "java/util/Optional"
  obtain ⟨cq7, kq7, q7a, q7b, q7c⟩ := isOf hZ e6 (E_E.keep K3)
  obtain ⟨_, _, ⟨T7, L7, k7, n7⟩, -, X7, ⟨Lc7, hQ7, l7, y7, z7⟩, st7⟩ := X6.virtualBack hx (y := (⟨"java/util/Optional", "isPresent", "()Z"⟩ : MethodName)) (z := (⟨"java/util/Optional", "isPresent", "()Z"⟩ : MethodName)) hown (mvT hZ (hw _ (List.mem_of_getElem? (i := 42) rfl))) (mvT hZ (hw _ (List.mem_of_getElem? (i := 43) rfl))) (notFace_of_selects (args := #[]) (mvT hZ (hw _ (List.mem_of_getElem? (i := 45) rfl)))) (mvT hZ (hw _ (List.mem_of_getElem? (i := 45) rfl))) (mvT hZ (hw _ (List.mem_of_getElem? (i := 44) rfl))) (by decide) (backOf (W := 0) (rm9 l Z a0 hw [] wE h3 n0 Z3 (F_E.keep K3 (by simp))) hZ (hw _ (List.mem_of_getElem? (i := 46) rfl)) (hw _ (List.mem_of_getElem? (i := 13) rfl)) (by decide) (by decide)) q7a q7c (g := (mkF m 43 #[.val (.long q1), .second, .val (.long (1 : Int64)), .second, .val (.ref h0.size)] [(.ref wE)])) rfl (by rw [hml]; rfl) (Steps.refl _) (argsL := []) (rest := []) (lenOf pd_0_5 rfl) rfl (by show 2 * 0 + _ ≤ _; exact Nat.le_of_eq rfl) (hb hby at_43) (fun _ _ => ⟨rfl, e6, (by decide : 0 + 1 + 0 ≤ _), (by decide : 0 + 2 + 0 ≤ _)⟩)
  dsimp only [Pt.U, Pt.locs, Pt.cells, Pt.slots] at X7 l7 y7 z7 st7 hQ7
  subst l7 y7 z7
  obtain ⟨rfl, N7q, e7⟩ := hQ7      -- what it returned, that it wrote nothing old, and the rest of your Q9
  have N7 := Fr.app N6 N7q
  obtain ⟨fs, hr, hrun, hended, hW, hsame⟩ := X7.leave (v := some (.int (1 : Int32))) (fun h => by rw [Bd.returns] at h; cases h)
  refine ⟨_, _, pre0 _ ?_, hrun, hended, _, _, rfl, ?_, ⟨_, rfl⟩, hW, hsame.mono (by decide) (by decide)⟩
  -- 4. STEPS
  · show Steps p.tables e below (s₁.setTop (mkF m 0 #[.val (.long q1), .second, .unset, .unset, .unset] [])) _
    refine XS.lconst X0.here hx rfl (hb hby at_0) ?_
    show Steps p.tables e below (s₁.setTop (mkF m 1 #[.val (.long q1), .second, .unset, .unset, .unset] [(.long (1 : Int64))])) _
    refine XS.lloadN X0.here hx rfl (hb hby at_1) rfl ?_
    show Steps p.tables e below (s₁.setTop (mkF m 2 #[.val (.long q1), .second, .unset, .unset, .unset] [(.long q1), (.long (1 : Int64))])) _
    refine X0.ldc2Long hx hown (mvT hZ (hw _ (List.mem_of_getElem? (i := 0) rfl))) (g := (mkF m 2 #[.val (.long q1), .second, .unset, .unset, .unset] [(.long q1), (.long (1 : Int64))])) rfl (hb hby at_2) _ ?_
    show Steps p.tables e below (s₁.setTop (mkF m 5 #[.val (.long q1), .second, .unset, .unset, .unset] [(.long (9223372036854775807 : Int64)), (.long q1), (.long (1 : Int64))])) _
    refine XS.land X0.here hx rfl (hb hby at_5) rfl ?_
    show Steps p.tables e below (s₁.setTop (mkF m 6 #[.val (.long q1), .second, .unset, .unset, .unset] [(.long (q1 &&& (9223372036854775807 : Int64))), (.long (1 : Int64))])) _
    refine st2 _ ?_
    show Steps p.tables e below (T2.setTop (mkF m 9 #[.val (.long q1), .second, .unset, .unset, .unset] [(.long (1 : Int64))])) _
    refine XS.lstoreN X2.here hx rfl (hb hby at_9) rfl (l' := #[.val (.long q1), .second, .val (.long (1 : Int64)), .second, .unset]) rfl ?_
    show Steps p.tables e below (T2.setTop (mkF m 10 #[.val (.long q1), .second, .val (.long (1 : Int64)), .second, .unset] [])) _
    refine XS.lloadN X2.here hx rfl (hb hby at_10) rfl ?_
    show Steps p.tables e below (T2.setTop (mkF m 11 #[.val (.long q1), .second, .val (.long (1 : Int64)), .second, .unset] [(.long (1 : Int64))])) _
    refine st3 _ ?_
    show Steps p.tables e below (T3.setTop (mkF m 14 #[.val (.long q1), .second, .val (.long (1 : Int64)), .second, .unset] [(.ref h0.size)])) _
    refine XS.astore X3.here hx rfl (hb hby at_14) rfl rfl (l' := #[.val (.long q1), .second, .val (.long (1 : Int64)), .second, .val (.ref h0.size)]) rfl ?_
    show Steps p.tables e below (T3.setTop (mkF m 16 #[.val (.long q1), .second, .val (.long (1 : Int64)), .second, .val (.ref h0.size)] [])) _
    refine XS.aload X3.here hx rfl (hb hby at_16) rfl rfl ?_
    show Steps p.tables e below (T3.setTop (mkF m 18 #[.val (.long q1), .second, .val (.long (1 : Int64)), .second, .val (.ref h0.size)] [(.ref h0.size)])) _
    refine st4.trans ?_
    show Steps p.tables e below (T4.setTop (mkF m 21 #[.val (.long q1), .second, .val (.long (1 : Int64)), .second, .val (.ref h0.size)] [(.int (1 : Int32))])) _
    refine XS.ifYes X4.here hx rfl (pc0 := 21) (pc' := 26) rfl (hb hby at_21) rfl ((if0 _ _).trans (feq (by decide : ¬ ((1 : Int32) = (0 : Int32)))).2) (by decide) (by decide) ?_
    show Steps p.tables e below (T4.setTop (mkF m 26 #[.val (.long q1), .second, .val (.long (1 : Int64)), .second, .val (.ref h0.size)] [])) _
    refine XS.aload X4.here hx rfl (hb hby at_26) rfl rfl ?_
    show Steps p.tables e below (T4.setTop (mkF m 28 #[.val (.long q1), .second, .val (.long (1 : Int64)), .second, .val (.ref h0.size)] [(.ref h0.size)])) _
    refine st5.trans ?_
    show Steps p.tables e below (T5.setTop (mkF m 31 #[.val (.long q1), .second, .val (.long (1 : Int64)), .second, .val (.ref h0.size)] [(.long (1 : Int64))])) _
    refine XS.lloadN X5.here hx rfl (hb hby at_31) rfl ?_
    show Steps p.tables e below (T5.setTop (mkF m 32 #[.val (.long q1), .second, .val (.long (1 : Int64)), .second, .val (.ref h0.size)] [(.long (1 : Int64)), (.long (1 : Int64))])) _
    refine XS.lcmp X5.here hx rfl (hb hby at_32) rfl ?_
    show Steps p.tables e below (T5.setTop (mkF m 33 #[.val (.long q1), .second, .val (.long (1 : Int64)), .second, .val (.ref h0.size)] [(.int (lcmpW (1 : Int64) (1 : Int64)))])) _
    refine XS.ifYes X5.here hx rfl (pc0 := 33) (pc' := 38) rfl (hb hby at_33) rfl ((if0 _ _).trans (teq ((lw_eq _ _).2 rfl : (lcmpW (1 : Int64) (1 : Int64)) = (0 : Int32))).1) (by decide) (by decide) ?_
    show Steps p.tables e below (T5.setTop (mkF m 38 #[.val (.long q1), .second, .val (.long (1 : Int64)), .second, .val (.ref h0.size)] [])) _
    refine XS.aload X5.here hx rfl (hb hby at_38) rfl rfl ?_
    show Steps p.tables e below (T5.setTop (mkF m 40 #[.val (.long q1), .second, .val (.long (1 : Int64)), .second, .val (.ref h0.size)] [(.ref h0.size)])) _
    refine st6.trans ?_
    show Steps p.tables e below (T6.setTop (mkF m 43 #[.val (.long q1), .second, .val (.long (1 : Int64)), .second, .val (.ref h0.size)] [(.ref wE)])) _
    refine st7.trans ?_
    show Steps p.tables e below (T7.setTop (mkF m 46 #[.val (.long q1), .second, .val (.long (1 : Int64)), .second, .val (.ref h0.size)] [(.int (0 : Int32))])) _
    refine XS.ifNo X7.here hx rfl (hb hby at_46) rfl ((if0 _ _).trans (teq (rfl : (0 : Int32) = (0 : Int32))).2) ?_
    show Steps p.tables e below (T7.setTop (mkF m 49 #[.val (.long q1), .second, .val (.long (1 : Int64)), .second, .val (.ref h0.size)] [])) _
    refine XS.iconst X7.here hx rfl (hb hby at_49) ?_
    show Steps p.tables e below (T7.setTop (mkF m 50 #[.val (.long q1), .second, .val (.long (1 : Int64)), .second, .val (.ref h0.size)] [(.int (1 : Int32))])) _
    refine XS.goto X7.here hx rfl (pc0 := 50) (pc' := 54) rfl (hb hby at_50) (by decide) (by decide) ?_
    show Steps p.tables e below (T7.setTop (mkF m 54 #[.val (.long q1), .second, .val (.long (1 : Int64)), .second, .val (.ref h0.size)] [(.int (1 : Int32))])) _
    exact retN X7 hx (t := .boolean) Bd.returns (by simp) (hb hby at_54) hr
  · show Q0 Z q1 h0 n0 _ T7.heap _
    exact ⟨rfl, N7⟩
-- its room: frames: the greatest, locals: the greatest, cells 0 + .., slots 0 + ..: rm1: frames + 1; locals 0 + 4 + 11 + its room's locals; its cells and slots besides; rm2: frames + 1; locals 0 + 2 + 11 + its room's locals; its cells and slots besides; rm6: frames + 1; locals 0 + 1 + 11 + its room's locals; its cells and slots besides; rm7: frames + 1; locals 0 + 1 + 11 + its room's locals; its cells and slots besides; rm8: frames + 1; locals 0 + 1 + 11 + its room's locals; its cells and slots besides; rm9: frames + 1; locals 0 + 1 + 11 + its room's locals; its cells and slots besides
set_option maxRecDepth 65536 in
set_option maxHeartbeats 40000000 in
theorem rm0_b (l : Launch) (Z : State) (a0 : Array Value) (hw : ∀ d ∈ tables_1, d.before a0 Z = true) (ws : List Jvm.Cond) (q1 : Int64) (wE : Addr) (h0 : Heap) (n0 : Nat) (Z0 : n0 ≤ h0.size) (S_EMPTY : Sta Z h0 "java/util/Optional" "EMPTY" "Ljava/util/Optional;" (.ref wE)) (E_E : Exa Z h0 wE "java/util/Optional") (F_E : Fld Z h0 wE "java/util/Optional" "value" "Ljava/lang/Object;" .null) (hc3 : (lcmpW (1 : Int64) (q1 &&& (9223372036854775807 : Int64))) < (0 : Int32)) :
    MetFree l x (head1 (Jvm.Cond.code x code maxLocals ret :: ws) room_1) (fun a U => a = #[(.long q1)] ∧ Z.Warmed39 U.vm ∧ U.heap = h0) (fun _ _ _ _ _ => True) (fun _ U o U' => ∃ v L, o = .returned v ∧ Q0 Z q1 h0 n0 v U'.heap L ∧ FrameEnd U o U' L room_1.cells room_1.slots) := by
  refine MetFree.of_bodySF (plainFor_of_name pn_0) hisR ?_
  intro p e s m args below meth c s₁ Bd hml0 hP hK
  obtain ⟨rfl, hZ, hh⟩ := hP
  have hx := Bd.exec
  have hby := Bd.bytes
  have hml : c.maxLocals = 5 := hml0
  have hown : s.vm.findClass "com/example/portunus/portunus/store/AcquisitionGrantedPinLaw" = some m.cls := findClass_of_methodNamed Bd.named
  have hnm := (name_of_methodNamed Bd.named Bd.method).1
  have X0 : Stand p l e room_1 s m #[(.long q1)] below meth c s₁ [] 0 0 := Stand.of_body Bd
  have e0 : s₁.heap = h0 := by rw [← hh, Bd.state]; rfl
  have N0 := Fr.nil n0
  have pre0 : ∀ t, Steps p.tables e below (s₁.setTop (mkF m 0 #[.val (.long q1), .second, .unset, .unset, .unset] [])) t → Steps p.tables e below (s₁.setTop (entryFrame m #[(.long q1)] maxLocals)) t := fun t k => castTop (ef_0 m q1) k
  -- 3. LAWS
  -- pc 6: java/lang/Math.max by its contract rm1
  obtain ⟨_, _, ⟨T2, L2, k2, n2⟩, -, X2, ⟨Lc2, hQ2, l2, y2, z2⟩, st2⟩ := Jvm.LawKit.callS X0 hx (y := (⟨"java/lang/Math", "max", "(JJ)J"⟩ : MethodName)) hown (mvT hZ (hw _ (List.mem_of_getElem? (i := 1) rfl))) (mvT hZ (hw _ (List.mem_of_getElem? (i := 2) rfl))) (mvT hZ (hw _ (List.mem_of_getElem? (i := 3) rfl))) (mvT hZ (hw _ (List.mem_of_getElem? (i := 4) rfl))) (by decide) (backOf (W := 0) (rm1_t l Z a0 hw [] (1 : Int64) (q1 &&& (9223372036854775807 : Int64)) h0 n0 Z0 hc3) hZ (hw _ (List.mem_of_getElem? (i := 4) rfl)) (hw _ (List.mem_of_getElem? (i := 3) rfl)) (by decide) (by decide)) (g := (mkF m 6 #[.val (.long q1), .second, .unset, .unset, .unset] [(.long (q1 &&& (9223372036854775807 : Int64))), (.long (1 : Int64))])) rfl (by rw [hml]; rfl) (argsL := [(.long (1 : Int64)), (.long (q1 &&& (9223372036854775807 : Int64)))]) (rest := []) (lenOf pd_0_0 rfl) rfl (by show 2 * 0 + _ ≤ _; exact Nat.le_of_eq rfl) (hb hby at_6) (fun _ _ => ⟨rfl, e0, (by decide : 0 + 0 ≤ _), (by decide : 0 + 0 ≤ _)⟩)
  dsimp only [Pt.U, Pt.locs, Pt.cells, Pt.slots] at X2 l2 y2 z2 st2 hQ2
  subst l2 y2 z2
  obtain ⟨rfl, N2q, e2⟩ := hQ2      -- what it returned, that it wrote nothing old, and the rest of your Q1
  have N2 := Fr.app N0 N2q
  have hp : (0 : Int32) < lcmpW (q1 &&& (9223372036854775807 : Int64)) (0 : Int64) := own_pos hc3
  -- pc 11: com/example/portunus/portunus/store/Acquisition.granted by its contract rm2
  obtain ⟨_, _, ⟨T3, L3, k3, n3⟩, -, X3, ⟨Lc3, hQ3, l3, y3, z3⟩, st3⟩ := Jvm.LawKit.callS X2 hx (y := (⟨"com/example/portunus/portunus/store/Acquisition", "granted", "(J)Lcom/example/portunus/portunus/store/Acquisition;"⟩ : MethodName)) hown (mvT hZ (hw _ (List.mem_of_getElem? (i := 5) rfl))) (mvT hZ (hw _ (List.mem_of_getElem? (i := 6) rfl))) (mvT hZ (hw _ (List.mem_of_getElem? (i := 7) rfl))) (mvT hZ (hw _ (List.mem_of_getElem? (i := 8) rfl))) (by decide) (backOf (W := 0) (rm2 l Z a0 hw [] (q1 &&& (9223372036854775807 : Int64)) wE h0 n0 Z0 S_EMPTY hp) hZ (hw _ (List.mem_of_getElem? (i := 8) rfl)) (hw _ (List.mem_of_getElem? (i := 7) rfl)) (by decide) (by decide)) (g := (mkF m 11 #[.val (.long q1), .second, .val (.long (q1 &&& (9223372036854775807 : Int64))), .second, .unset] [(.long (q1 &&& (9223372036854775807 : Int64)))])) rfl (by rw [hml]; rfl) (argsL := [(.long (q1 &&& (9223372036854775807 : Int64)))]) (rest := []) (lenOf pd_0_1 rfl) rfl (by show 2 * 0 + _ ≤ _; exact Nat.le_of_eq rfl) (hb hby at_11) (fun _ _ => ⟨rfl, e2, (by decide : 0 + 1 ≤ _), (by decide : 0 + 2 ≤ _)⟩)
  dsimp only [Pt.U, Pt.locs, Pt.cells, Pt.slots] at X3 l3 y3 z3 st3 hQ3
  subst l3 y3 z3
  obtain ⟨rfl, N3q, K3, E_3, Ft3, Fl3⟩ := hQ3      -- what it returned, that it wrote nothing old, and the rest of your Q2
  obtain ⟨h3, e3⟩ : ∃ h, T3.heap = h := ⟨_, rfl⟩
  rw [e3] at K3 E_3 Ft3 Fl3
  have N3 := Fr.app N2 N3q
  have Z3 : n0 ≤ h3.size := Nat.le_trans Z0 K3.1
  -- pc 18: com/example/portunus/portunus/store/Acquisition.isGranted by the contract of the body that the receiver's class selects, rm6
  -- ✋ yours, out of the call's Q: E_3 : Exa Z h0 h0.size "com/example/portunus/portunus/store/Acquisition"
  obtain ⟨cq4, kq4, q4a, q4b, q4c⟩ := isOf hZ e3 E_3
  obtain ⟨_, _, ⟨T4, L4, k4, n4⟩, -, X4, ⟨Lc4, hQ4, l4, y4, z4⟩, st4⟩ := X3.virtualBack hx (y := (⟨"com/example/portunus/portunus/store/Acquisition", "isGranted", "()Z"⟩ : MethodName)) (z := (⟨"com/example/portunus/portunus/store/Acquisition", "isGranted", "()Z"⟩ : MethodName)) hown (mvT hZ (hw _ (List.mem_of_getElem? (i := 26) rfl))) (mvT hZ (hw _ (List.mem_of_getElem? (i := 27) rfl))) (notFace_of_selects (args := #[]) (mvT hZ (hw _ (List.mem_of_getElem? (i := 29) rfl)))) (mvT hZ (hw _ (List.mem_of_getElem? (i := 29) rfl))) (mvT hZ (hw _ (List.mem_of_getElem? (i := 28) rfl))) (by decide) (backOf (W := 0) (rm6 l Z a0 hw [] h0.size (q1 &&& (9223372036854775807 : Int64)) h3 n0 Z3 Ft3 hp) hZ (hw _ (List.mem_of_getElem? (i := 30) rfl)) (hw _ (List.mem_of_getElem? (i := 7) rfl)) (by decide) (by decide)) q4a q4c (g := (mkF m 18 #[.val (.long q1), .second, .val (.long (q1 &&& (9223372036854775807 : Int64))), .second, .val (.ref h0.size)] [(.ref h0.size)])) rfl (by rw [hml]; rfl) (Steps.refl _) (argsL := []) (rest := []) (lenOf pd_0_5 rfl) rfl (by show 2 * 0 + _ ≤ _; exact Nat.le_of_eq rfl) (hb hby at_18) (fun _ _ => ⟨rfl, e3, (by decide : 0 + 1 + 0 ≤ _), (by decide : 0 + 2 + 0 ≤ _)⟩)
  dsimp only [Pt.U, Pt.locs, Pt.cells, Pt.slots] at X4 l4 y4 z4 st4 hQ4
  subst l4 y4 z4
  obtain ⟨rfl, N4q, e4⟩ := hQ4      -- what it returned, that it wrote nothing old, and the rest of your Q6
  have N4 := Fr.app N3 N4q
  -- pc 28: com/example/portunus/portunus/store/Acquisition.fencingToken by the contract of the body that the receiver's class selects, rm7
  obtain ⟨cq5, kq5, q5a, q5b, q5c⟩ := isOf hZ e4 E_3
  obtain ⟨_, _, ⟨T5, L5, k5, n5⟩, -, X5, ⟨Lc5, hQ5, l5, y5, z5⟩, st5⟩ := X4.virtualBack hx (y := (⟨"com/example/portunus/portunus/store/Acquisition", "fencingToken", "()J"⟩ : MethodName)) (z := (⟨"com/example/portunus/portunus/store/Acquisition", "fencingToken", "()J"⟩ : MethodName)) hown (mvT hZ (hw _ (List.mem_of_getElem? (i := 31) rfl))) (mvT hZ (hw _ (List.mem_of_getElem? (i := 32) rfl))) (notFace_of_selects (args := #[]) (mvT hZ (hw _ (List.mem_of_getElem? (i := 34) rfl)))) (mvT hZ (hw _ (List.mem_of_getElem? (i := 34) rfl))) (mvT hZ (hw _ (List.mem_of_getElem? (i := 33) rfl))) (by decide) (backOf (W := 0) (rm7 l Z a0 hw [] h0.size (q1 &&& (9223372036854775807 : Int64)) h3 n0 Z3 E_3 Ft3 hp) hZ (hw _ (List.mem_of_getElem? (i := 35) rfl)) (hw _ (List.mem_of_getElem? (i := 7) rfl)) (by decide) (by decide)) q5a q5c (g := (mkF m 28 #[.val (.long q1), .second, .val (.long (q1 &&& (9223372036854775807 : Int64))), .second, .val (.ref h0.size)] [(.ref h0.size)])) rfl (by rw [hml]; rfl) (Steps.refl _) (argsL := []) (rest := []) (lenOf pd_0_6 rfl) rfl (by show 2 * 0 + _ ≤ _; exact Nat.le_of_eq rfl) (hb hby at_28) (fun _ _ => ⟨rfl, e4, (by decide : 0 + 1 + 0 ≤ _), (by decide : 0 + 2 + 0 ≤ _)⟩)
  dsimp only [Pt.U, Pt.locs, Pt.cells, Pt.slots] at X5 l5 y5 z5 st5 hQ5
  subst l5 y5 z5
  obtain ⟨rfl, N5q, e5⟩ := hQ5      -- what it returned, that it wrote nothing old, and the rest of your Q7
  have N5 := Fr.app N4 N5q
  -- pc 40: com/example/portunus/portunus/store/Acquisition.askAgainWithin by the contract of the body that the receiver's class selects, rm8
  obtain ⟨cq6, kq6, q6a, q6b, q6c⟩ := isOf hZ e5 E_3
  obtain ⟨_, _, ⟨T6, L6, k6, n6⟩, -, X6, ⟨Lc6, hQ6, l6, y6, z6⟩, st6⟩ := X5.virtualBack hx (y := (⟨"com/example/portunus/portunus/store/Acquisition", "askAgainWithin", "()Ljava/util/Optional;"⟩ : MethodName)) (z := (⟨"com/example/portunus/portunus/store/Acquisition", "askAgainWithin", "()Ljava/util/Optional;"⟩ : MethodName)) hown (mvT hZ (hw _ (List.mem_of_getElem? (i := 37) rfl))) (mvT hZ (hw _ (List.mem_of_getElem? (i := 38) rfl))) (notFace_of_selects (args := #[]) (mvT hZ (hw _ (List.mem_of_getElem? (i := 40) rfl)))) (mvT hZ (hw _ (List.mem_of_getElem? (i := 40) rfl))) (mvT hZ (hw _ (List.mem_of_getElem? (i := 39) rfl))) (by decide) (backOf (W := 0) (rm8 l Z a0 hw [] h0.size wE h3 n0 Z3 Fl3) hZ (hw _ (List.mem_of_getElem? (i := 41) rfl)) (hw _ (List.mem_of_getElem? (i := 7) rfl)) (by decide) (by decide)) q6a q6c (g := (mkF m 40 #[.val (.long q1), .second, .val (.long (q1 &&& (9223372036854775807 : Int64))), .second, .val (.ref h0.size)] [(.ref h0.size)])) rfl (by rw [hml]; rfl) (Steps.refl _) (argsL := []) (rest := []) (lenOf pd_0_2 rfl) rfl (by show 2 * 0 + _ ≤ _; exact Nat.le_of_eq rfl) (hb hby at_40) (fun _ _ => ⟨rfl, e5, (by decide : 0 + 1 + 0 ≤ _), (by decide : 0 + 2 + 0 ≤ _)⟩)
  dsimp only [Pt.U, Pt.locs, Pt.cells, Pt.slots] at X6 l6 y6 z6 st6 hQ6
  subst l6 y6 z6
  obtain ⟨rfl, N6q, e6⟩ := hQ6      -- what it returned, that it wrote nothing old, and the rest of your Q8
  have N6 := Fr.app N5 N6q
  -- pc 43: java/util/Optional.isPresent by the contract of the body that the receiver's class selects, rm9
  -- ✋ yours, out of the call's Q: (E_E.keep K3) : Exa Z h0 wE "java/util/Optional"
  obtain ⟨cq7, kq7, q7a, q7b, q7c⟩ := isOf hZ e6 (E_E.keep K3)
  obtain ⟨_, _, ⟨T7, L7, k7, n7⟩, -, X7, ⟨Lc7, hQ7, l7, y7, z7⟩, st7⟩ := X6.virtualBack hx (y := (⟨"java/util/Optional", "isPresent", "()Z"⟩ : MethodName)) (z := (⟨"java/util/Optional", "isPresent", "()Z"⟩ : MethodName)) hown (mvT hZ (hw _ (List.mem_of_getElem? (i := 42) rfl))) (mvT hZ (hw _ (List.mem_of_getElem? (i := 43) rfl))) (notFace_of_selects (args := #[]) (mvT hZ (hw _ (List.mem_of_getElem? (i := 45) rfl)))) (mvT hZ (hw _ (List.mem_of_getElem? (i := 45) rfl))) (mvT hZ (hw _ (List.mem_of_getElem? (i := 44) rfl))) (by decide) (backOf (W := 0) (rm9 l Z a0 hw [] wE h3 n0 Z3 (F_E.keep K3 (by simp))) hZ (hw _ (List.mem_of_getElem? (i := 46) rfl)) (hw _ (List.mem_of_getElem? (i := 13) rfl)) (by decide) (by decide)) q7a q7c (g := (mkF m 43 #[.val (.long q1), .second, .val (.long (q1 &&& (9223372036854775807 : Int64))), .second, .val (.ref h0.size)] [(.ref wE)])) rfl (by rw [hml]; rfl) (Steps.refl _) (argsL := []) (rest := []) (lenOf pd_0_5 rfl) rfl (by show 2 * 0 + _ ≤ _; exact Nat.le_of_eq rfl) (hb hby at_43) (fun _ _ => ⟨rfl, e6, (by decide : 0 + 1 + 0 ≤ _), (by decide : 0 + 2 + 0 ≤ _)⟩)
  dsimp only [Pt.U, Pt.locs, Pt.cells, Pt.slots] at X7 l7 y7 z7 st7 hQ7
  subst l7 y7 z7
  obtain ⟨rfl, N7q, e7⟩ := hQ7      -- what it returned, that it wrote nothing old, and the rest of your Q9
  have N7 := Fr.app N6 N7q
  obtain ⟨fs, hr, hrun, hended, hW, hsame⟩ := X7.leave (v := some (.int (1 : Int32))) (fun h => by rw [Bd.returns] at h; cases h)
  refine ⟨_, _, pre0 _ ?_, hrun, hended, _, _, rfl, ?_, ⟨_, rfl⟩, hW, hsame.mono (by decide) (by decide)⟩
  -- 4. STEPS
  · show Steps p.tables e below (s₁.setTop (mkF m 0 #[.val (.long q1), .second, .unset, .unset, .unset] [])) _
    refine XS.lconst X0.here hx rfl (hb hby at_0) ?_
    show Steps p.tables e below (s₁.setTop (mkF m 1 #[.val (.long q1), .second, .unset, .unset, .unset] [(.long (1 : Int64))])) _
    refine XS.lloadN X0.here hx rfl (hb hby at_1) rfl ?_
    show Steps p.tables e below (s₁.setTop (mkF m 2 #[.val (.long q1), .second, .unset, .unset, .unset] [(.long q1), (.long (1 : Int64))])) _
    refine X0.ldc2Long hx hown (mvT hZ (hw _ (List.mem_of_getElem? (i := 0) rfl))) (g := (mkF m 2 #[.val (.long q1), .second, .unset, .unset, .unset] [(.long q1), (.long (1 : Int64))])) rfl (hb hby at_2) _ ?_
    show Steps p.tables e below (s₁.setTop (mkF m 5 #[.val (.long q1), .second, .unset, .unset, .unset] [(.long (9223372036854775807 : Int64)), (.long q1), (.long (1 : Int64))])) _
    refine XS.land X0.here hx rfl (hb hby at_5) rfl ?_
    show Steps p.tables e below (s₁.setTop (mkF m 6 #[.val (.long q1), .second, .unset, .unset, .unset] [(.long (q1 &&& (9223372036854775807 : Int64))), (.long (1 : Int64))])) _
    refine st2 _ ?_
    show Steps p.tables e below (T2.setTop (mkF m 9 #[.val (.long q1), .second, .unset, .unset, .unset] [(.long (q1 &&& (9223372036854775807 : Int64)))])) _
    refine XS.lstoreN X2.here hx rfl (hb hby at_9) rfl (l' := #[.val (.long q1), .second, .val (.long (q1 &&& (9223372036854775807 : Int64))), .second, .unset]) rfl ?_
    show Steps p.tables e below (T2.setTop (mkF m 10 #[.val (.long q1), .second, .val (.long (q1 &&& (9223372036854775807 : Int64))), .second, .unset] [])) _
    refine XS.lloadN X2.here hx rfl (hb hby at_10) rfl ?_
    show Steps p.tables e below (T2.setTop (mkF m 11 #[.val (.long q1), .second, .val (.long (q1 &&& (9223372036854775807 : Int64))), .second, .unset] [(.long (q1 &&& (9223372036854775807 : Int64)))])) _
    refine st3 _ ?_
    show Steps p.tables e below (T3.setTop (mkF m 14 #[.val (.long q1), .second, .val (.long (q1 &&& (9223372036854775807 : Int64))), .second, .unset] [(.ref h0.size)])) _
    refine XS.astore X3.here hx rfl (hb hby at_14) rfl rfl (l' := #[.val (.long q1), .second, .val (.long (q1 &&& (9223372036854775807 : Int64))), .second, .val (.ref h0.size)]) rfl ?_
    show Steps p.tables e below (T3.setTop (mkF m 16 #[.val (.long q1), .second, .val (.long (q1 &&& (9223372036854775807 : Int64))), .second, .val (.ref h0.size)] [])) _
    refine XS.aload X3.here hx rfl (hb hby at_16) rfl rfl ?_
    show Steps p.tables e below (T3.setTop (mkF m 18 #[.val (.long q1), .second, .val (.long (q1 &&& (9223372036854775807 : Int64))), .second, .val (.ref h0.size)] [(.ref h0.size)])) _
    refine st4.trans ?_
    show Steps p.tables e below (T4.setTop (mkF m 21 #[.val (.long q1), .second, .val (.long (q1 &&& (9223372036854775807 : Int64))), .second, .val (.ref h0.size)] [(.int (1 : Int32))])) _
    refine XS.ifYes X4.here hx rfl (pc0 := 21) (pc' := 26) rfl (hb hby at_21) rfl ((if0 _ _).trans (feq (by decide : ¬ ((1 : Int32) = (0 : Int32)))).2) (by decide) (by decide) ?_
    show Steps p.tables e below (T4.setTop (mkF m 26 #[.val (.long q1), .second, .val (.long (q1 &&& (9223372036854775807 : Int64))), .second, .val (.ref h0.size)] [])) _
    refine XS.aload X4.here hx rfl (hb hby at_26) rfl rfl ?_
    show Steps p.tables e below (T4.setTop (mkF m 28 #[.val (.long q1), .second, .val (.long (q1 &&& (9223372036854775807 : Int64))), .second, .val (.ref h0.size)] [(.ref h0.size)])) _
    refine st5.trans ?_
    show Steps p.tables e below (T5.setTop (mkF m 31 #[.val (.long q1), .second, .val (.long (q1 &&& (9223372036854775807 : Int64))), .second, .val (.ref h0.size)] [(.long (q1 &&& (9223372036854775807 : Int64)))])) _
    refine XS.lloadN X5.here hx rfl (hb hby at_31) rfl ?_
    show Steps p.tables e below (T5.setTop (mkF m 32 #[.val (.long q1), .second, .val (.long (q1 &&& (9223372036854775807 : Int64))), .second, .val (.ref h0.size)] [(.long (q1 &&& (9223372036854775807 : Int64))), (.long (q1 &&& (9223372036854775807 : Int64)))])) _
    refine XS.lcmp X5.here hx rfl (hb hby at_32) rfl ?_
    show Steps p.tables e below (T5.setTop (mkF m 33 #[.val (.long q1), .second, .val (.long (q1 &&& (9223372036854775807 : Int64))), .second, .val (.ref h0.size)] [(.int (lcmpW (q1 &&& (9223372036854775807 : Int64)) (q1 &&& (9223372036854775807 : Int64))))])) _
    refine XS.ifYes X5.here hx rfl (pc0 := 33) (pc' := 38) rfl (hb hby at_33) rfl ((if0 _ _).trans (teq ((lw_eq _ _).2 rfl : (lcmpW (q1 &&& (9223372036854775807 : Int64)) (q1 &&& (9223372036854775807 : Int64))) = (0 : Int32))).1) (by decide) (by decide) ?_
    show Steps p.tables e below (T5.setTop (mkF m 38 #[.val (.long q1), .second, .val (.long (q1 &&& (9223372036854775807 : Int64))), .second, .val (.ref h0.size)] [])) _
    refine XS.aload X5.here hx rfl (hb hby at_38) rfl rfl ?_
    show Steps p.tables e below (T5.setTop (mkF m 40 #[.val (.long q1), .second, .val (.long (q1 &&& (9223372036854775807 : Int64))), .second, .val (.ref h0.size)] [(.ref h0.size)])) _
    refine st6.trans ?_
    show Steps p.tables e below (T6.setTop (mkF m 43 #[.val (.long q1), .second, .val (.long (q1 &&& (9223372036854775807 : Int64))), .second, .val (.ref h0.size)] [(.ref wE)])) _
    refine st7.trans ?_
    show Steps p.tables e below (T7.setTop (mkF m 46 #[.val (.long q1), .second, .val (.long (q1 &&& (9223372036854775807 : Int64))), .second, .val (.ref h0.size)] [(.int (0 : Int32))])) _
    refine XS.ifNo X7.here hx rfl (hb hby at_46) rfl ((if0 _ _).trans (teq (rfl : (0 : Int32) = (0 : Int32))).2) ?_
    show Steps p.tables e below (T7.setTop (mkF m 49 #[.val (.long q1), .second, .val (.long (q1 &&& (9223372036854775807 : Int64))), .second, .val (.ref h0.size)] [])) _
    refine XS.iconst X7.here hx rfl (hb hby at_49) ?_
    show Steps p.tables e below (T7.setTop (mkF m 50 #[.val (.long q1), .second, .val (.long (q1 &&& (9223372036854775807 : Int64))), .second, .val (.ref h0.size)] [(.int (1 : Int32))])) _
    refine XS.goto X7.here hx rfl (pc0 := 50) (pc' := 54) rfl (hb hby at_50) (by decide) (by decide) ?_
    show Steps p.tables e below (T7.setTop (mkF m 54 #[.val (.long q1), .second, .val (.long (q1 &&& (9223372036854775807 : Int64))), .second, .val (.ref h0.size)] [(.int (1 : Int32))])) _
    exact retN X7 hx (t := .boolean) Bd.returns (by simp) (hb hby at_54) hr
  · show Q0 Z q1 h0 n0 _ T7.heap _
    exact ⟨rfl, N7⟩
theorem own_all (l : Launch) (Z : State) (a0 : Array Value) (hw : ∀ d ∈ tables_1, d.before a0 Z = true) (ws : List Jvm.Cond) (q1 : Int64) (wE : Addr) (h0 : Heap) (n0 : Nat) (Z0 : n0 ≤ h0.size) (S_EMPTY : Sta Z h0 "java/util/Optional" "EMPTY" "Ljava/util/Optional;" (.ref wE)) (E_E : Exa Z h0 wE "java/util/Optional") (F_E : Fld Z h0 wE "java/util/Optional" "value" "Ljava/lang/Object;" .null) :
    MetFree l x (head1 (Jvm.Cond.code x code maxLocals ret :: ws) room_1) (fun a U => a = #[(.long q1)] ∧ Z.Warmed39 U.vm ∧ U.heap = h0) (fun _ _ _ _ _ => True) (fun _ U o U' => ∃ v L, o = .returned v ∧ Q0 Z q1 h0 n0 v U'.heap L ∧ FrameEnd U o U' L room_1.cells room_1.slots) := by
  by_cases hc3 : (lcmpW (1 : Int64) (q1 &&& (9223372036854775807 : Int64))) < (0 : Int32)
  · exact rm0_b l Z a0 hw ws q1 wE h0 n0 Z0 S_EMPTY E_E F_E hc3
  · exact rm0_a l Z a0 hw ws q1 wE h0 n0 Z0 S_EMPTY E_E F_E hc3
-- 5. FROM THE CASE'S WORDS TO rm0_b, AND THE OWED THEOREMS
set_option maxRecDepth 65536 in
set_option maxHeartbeats 40000000 in
theorem comes_1 {Post : Tables → Env → Array Value → State → Outcome → State → Prop} (hpost : ∀ tb e args s v u, (limb_1_1.after args s (.returned v) u = true ∧ limb_1_2.after args s (.returned v) u = true ∧ True) → FrameEnd s (.returned v) u (Jvm.fieldLocs frame_1_writes args s ++ Jvm.arrayLocs frame_1_arrays args s ++ Jvm.staticLocs frame_1_statics s) 16 128 → Post tb e args s (.returned v) u) :
    ArmFor flags0 classFile x code maxLocals ret World_1 tables_1 room_1 Calls_1 rest_1 Pre_1 Post := by
  intro l hfl _ _ p e ha hc hk s m args below hf hA hF happ hP
  obtain ⟨hcalls, hrest, hpre⟩ := hP
  obtain ⟨-, -, -, hnamed, -, -, -, hat⟩ := (Spec.applies_iff hf).mp happ
  obtain ⟨hg, hn⟩ := and_e (Cond.before_iff.mp (show (Jvm.Cond.and given_1 narrow_1).before args s = true from hpre))
  obtain ⟨g8, g9⟩ := and_e hg
  obtain ⟨w0, rfl⟩ : ∃ w0 : Value, args = #[w0] := by
    have hs : args.size = 1 := by simpa [Cond.value, given_1] using g8
    obtain ⟨L⟩ := args
    match L, hs with
    | [w0], _ => exact ⟨w0, rfl⟩
  have hw := fun d (hd : d ∈ tables_1) => atoms_spec (ws := Jvm.Cond.code x code maxLocals ret :: tables_1) hat d (List.mem_cons_of_mem _ hd)
  have hfit : Fit s := fun {y c} hc i hi => by
    obtain ⟨ha, rfl⟩ := Array.getElem?_eq_some_iff.mp hc
    have q := List.all_eq_true.mp ((Array.all_eq_true_iff_forall_mem.mp hF) _ (Array.getElem_mem ha)) i (List.mem_range.mpr hi)
    simpa [Array.getElem?_eq_getElem hi] using q
  -- the named sets: hsets indexes jdkStatics_1 (Statement.lean): (hsets _ (List.mem_of_getElem? (i := n) rfl)) is its n-th word, before the call
  obtain ⟨hsets, hown0⟩ := atoms_of _ (rest_1_c_eq ▸ (show rest_1_c.before _ s = true from hrest))
  have hr0 := Cond.before_iff.mp hown0
  obtain ⟨i0, ei0⟩ := isL_v g9
  obtain rfl : w0 = (.long i0) := Option.some.inj ei0
  have s2 := Cond.before_iff.mp (hsets _ (List.mem_of_getElem? (i := 2) rfl))
  have s3 := Cond.before_iff.mp (hsets _ (List.mem_of_getElem? (i := 3) rfl))
  obtain ⟨wE, vE⟩ := exa_v s2
  have SE := Sta.start vE (Or.inl (hsets _ (List.mem_of_getElem? (i := 1) rfl)))
  have FE := Fld.start ((fld_at vE).symm.trans (null_v s3))
  obtain ⟨n, o, h1, h2, h3, _, L, rfl, ⟨rfl, N⟩, hq⟩ := own_all l s _ hw tables_1 i0 wE s.heap s.heap.size (Nat.le_refl _) SE (Exa.start vE s2) FE p e ha hc hk s m _ below hf ((Spec.applies_iff_loose hf).mp happ).1 ⟨rfl, State.Warmed39.refl s, rfl⟩ trivial
  refine ⟨n, _, h1, h2, h3, hpost _ _ _ _ _ _ ⟨Cond.after_iff.mpr rfl, Cond.after_iff.mpr (eq_i res_at (Term.int_eval (1)) rfl), trivial⟩ ⟨hq.1, hq.2.1, (hq.2.2.sift fun y hy => Or.inr (N y hy)).mono (by decide) (by decide)⟩⟩
theorem main_1_1 : Claimed_1_1 := comes_1 fun _ _ _ _ _ _ h hF => ⟨h.1, hF⟩
theorem main_1_2 : Claimed_1_2 := comes_1 fun _ _ _ _ _ _ h hF => ⟨h.2.1, hF⟩
end Jvm.Pilot.@@N@@
namespace Jvm.Pilot.@@N@@
open Jvm Jvm.ClassFile Sem Op Lib Jvm.Free Jvm.Stand Jvm.Pilot.@@N@@.Jvm.D
/-! MADE BY PROGRAM (witnessworld.py) out of the Statement's table words and the real class files: 9 classes; the members and pool entries that the words name. The judged class is class 1, her method 1. -/
namespace start1
open Jvm.ClassFile
def u (s : String) : CpInfo := .utf8 (stringToUtf16 s)
/-- a pool by its gaps: so many unusable entries, then the entry; so many at the end -/
def gap : Nat → List CpInfo → List CpInfo
  | 0, r => r
  | n + 1, r => .unusable :: gap n r
def poolList (es : List (Nat × CpInfo)) (last : Nat) : List CpInfo := es.foldr (fun e r => gap e.1 (e.2 :: r)) (gap last [])
def pool (es : List (Nat × CpInfo)) (last : Nat) : Array CpInfo := ⟨poolList es last⟩
def fileOf (pool : Array CpInfo) (this : Nat) (attrs : Array Attribute := #[]) (ms : Array MethodInfo := #[]) (fl : Nat := 33) (sup : Nat := 0) (ifs : Array Nat := #[]) (fds : Array FieldInfo := #[]) : ClassFile where
  minorVersion := 0
  majorVersion := 65
  constantPool := pool
  accessFlags := fl
  thisClass := this
  superClass := sup
  interfaces := ifs
  fields := fds
  methods := ms
  attributes := attrs
def plain (name : String) (sup : Option ClassId) : Class where
  name := name
  kind := .ordinary
  loader := none
  accessFlags := 33
  super := sup
  interfaces := #[]
  cf := none
  fields := #[]
  methods := #[]
  instanceTypes := #[]
  staticTypes := #[]
  resolved := #[]
  callSites := []
  init := .initialized
  statics := none
  mirror := none

def pool0 : Array CpInfo := pool [(5, u "<init>"), (0, u "()V"), (1, .class_ 10), (1, u "java/lang/Object")] 113

def k0c0 : Code := { maxStack := 0, maxLocals := 1, code := object_method_1_code, exceptionTable := #[], attributes := #[] }
def k0m0 : Method := { name := "<init>", desc := "()V", sig := { parameters := [], returnType := none }, accessFlags := 1, code := some k0c0 }
/-- java/lang/Object -/
def k0 : Class := { plain "java/lang/Object" none with
  accessFlags := 33
  interfaces := #[]
  cf := some (fileOf pool0 8 #[] #[{ accessFlags := 1, nameIndex := 5, descriptorIndex := 6, attributes := #[] }] 33 0 #[] #[])
  fields := #[]
  methods := #[k0m0]
  instanceTypes := #[]
  staticTypes := #[]
  resolved := Array.replicate 124 none
  statics := none }

def pool1 : Array CpInfo := pool [(2, .class_ 4), (1, u "java/lang/Object"), (0, u "<init>"), (0, u "()V"), (2, .long 9223372036854775807), (1, .methodref 12 13), (0, .class_ 14), (0, .nameAndType 15 16), (0, u "java/lang/Math"), (0, u "max"), (0, u "(JJ)J"), (0, .methodref 18 19), (0, .class_ 20), (0, .nameAndType 21 22), (0, u "com/example/portunus/portunus/store/Acquisition"), (0, u "granted"), (0, u "(J)Lcom/example/portunus/portunus/store/Acquisition;"), (0, .methodref 18 24), (0, .nameAndType 25 26), (0, u "isGranted"), (0, u "()Z"), (0, .methodref 18 28), (0, .nameAndType 29 30), (0, u "fencingToken"), (0, u "()J"), (0, .methodref 18 32), (0, .nameAndType 33 34), (0, u "askAgainWithin"), (0, u "()Ljava/util/Optional;"), (0, .methodref 36 37), (0, .class_ 38), (0, .nameAndType 39 26), (0, u "java/util/Optional"), (0, u "isPresent"), (0, .class_ 41), (0, u "com/example/portunus/portunus/store/AcquisitionGrantedPinLaw"), (2, u "law"), (0, u "(J)Z")] 3

def k1m0 : Method := { name := "<init>", desc := "()V", sig := { parameters := [], returnType := none }, accessFlags := 1, code := none }
def k1c1 : Code := { maxStack := 6, maxLocals := 5, code := code, exceptionTable := #[], attributes := #[] }
def k1m1 : Method := { name := "law", desc := "(J)Z", sig := { parameters := [.long], returnType := some .boolean }, accessFlags := 9, code := some k1c1 }
/-- com/example/portunus/portunus/store/AcquisitionGrantedPinLaw -/
def k1 : Class := { plain "com/example/portunus/portunus/store/AcquisitionGrantedPinLaw" (some 0) with
  accessFlags := 49
  interfaces := #[]
  cf := some (fileOf pool1 40 #[] #[{ accessFlags := 1, nameIndex := 5, descriptorIndex := 6, attributes := #[] }, { accessFlags := 9, nameIndex := 44, descriptorIndex := 45, attributes := #[] }] 49 2 #[] #[])
  fields := #[]
  methods := #[k1m0, k1m1]
  instanceTypes := #[]
  staticTypes := #[]
  resolved := Array.replicate 49 none
  statics := none }

def pool2 : Array CpInfo := pool [(1, .class_ 2), (0, u "java/lang/Math"), (1, .class_ 6), (1, u "java/lang/Object"), (0, u "<init>"), (0, u "()V"), (89, .class_ 100), (1, u "java/lang/Math$RandomNumberGeneratorHolder"), (20, u "(JJ)J"), (50, u "negativeZeroFloatBits"), (0, u "J"), (2, u "negativeZeroDoubleBits"), (21, u "max"), (46, u "$assertionsDisabled"), (0, u "Z"), (91, u "twoToTheDoubleScaleDown"), (0, u "D"), (4, u "twoToTheDoubleScaleUp"), (9, u "E"), (3, u "PI"), (2, u "TAU"), (2, u "DEGREES_TO_RADIANS"), (0, u "RADIANS_TO_DEGREES")] 94

def k2m0 : Method := { name := "<init>", desc := "()V", sig := { parameters := [], returnType := none }, accessFlags := 2, code := none }
def k2c1 : Code := { maxStack := 4, maxLocals := 4, code := jdk_29_method_66_code, exceptionTable := #[], attributes := #[] }
def k2m1 : Method := { name := "max", desc := "(JJ)J", sig := { parameters := [.long, .long], returnType := some .long }, accessFlags := 9, code := some k2c1 }
/-- java/lang/Math -/
def k2 : Class := { plain "java/lang/Math" (some 0) with
  accessFlags := 49
  interfaces := #[]
  cf := some (fileOf pool2 1 #[.nestMembers #[98]] #[{ accessFlags := 2, nameIndex := 7, descriptorIndex := 8, attributes := #[] }, { accessFlags := 9, nameIndex := 198, descriptorIndex := 121, attributes := #[] }] 49 4 #[] #[{ accessFlags := 25, nameIndex := 354, descriptorIndex := 339, attributes := #[] }, { accessFlags := 25, nameIndex := 358, descriptorIndex := 339, attributes := #[] }, { accessFlags := 25, nameIndex := 361, descriptorIndex := 339, attributes := #[] }, { accessFlags := 26, nameIndex := 364, descriptorIndex := 339, attributes := #[] }, { accessFlags := 26, nameIndex := 365, descriptorIndex := 339, attributes := #[] }, { accessFlags := 26, nameIndex := 172, descriptorIndex := 173, attributes := #[] }, { accessFlags := 26, nameIndex := 176, descriptorIndex := 173, attributes := #[] }, { accessFlags := 8, nameIndex := 344, descriptorIndex := 339, attributes := #[] }, { accessFlags := 8, nameIndex := 338, descriptorIndex := 339, attributes := #[] }, { accessFlags := 4120, nameIndex := 245, descriptorIndex := 246, attributes := #[] }])
  fields := #[{ name := "E", type := .double, accessFlags := 25, slot := 0, constantValue := 0 }, { name := "PI", type := .double, accessFlags := 25, slot := 1, constantValue := 0 }, { name := "TAU", type := .double, accessFlags := 25, slot := 2, constantValue := 0 }, { name := "DEGREES_TO_RADIANS", type := .double, accessFlags := 26, slot := 3, constantValue := 0 }, { name := "RADIANS_TO_DEGREES", type := .double, accessFlags := 26, slot := 4, constantValue := 0 }, { name := "negativeZeroFloatBits", type := .long, accessFlags := 26, slot := 5, constantValue := 0 }, { name := "negativeZeroDoubleBits", type := .long, accessFlags := 26, slot := 6, constantValue := 0 }, { name := "twoToTheDoubleScaleUp", type := .double, accessFlags := 8, slot := 7, constantValue := 0 }, { name := "twoToTheDoubleScaleDown", type := .double, accessFlags := 8, slot := 8, constantValue := 0 }, { name := "$assertionsDisabled", type := .boolean, accessFlags := 4120, slot := 9, constantValue := 0 }]
  methods := #[k2m0, k2m1]
  instanceTypes := #[]
  staticTypes := #[.double, .double, .double, .double, .double, .long, .long, .double, .double, .boolean]
  resolved := Array.replicate 460 none
  statics := none }

def pool3 : Array CpInfo := pool [(1, .methodref 2 3), (0, .class_ 4), (0, .nameAndType 5 6), (0, u "java/lang/Object"), (0, u "<init>"), (0, u "()V"), (0, .fieldref 8 9), (0, .class_ 10), (0, .nameAndType 11 12), (0, u "com/example/portunus/portunus/store/Acquisition"), (0, u "token"), (0, u "J"), (0, .fieldref 8 14), (0, .nameAndType 15 16), (0, u "left"), (0, u "Ljava/util/Optional;"), (19, .methodref 37 38), (0, .class_ 39), (0, .nameAndType 40 41), (0, u "java/util/Optional"), (0, u "empty"), (0, u "()Ljava/util/Optional;"), (0, .methodref 8 43), (0, .nameAndType 5 44), (0, u "(JLjava/util/Optional;)V"), (2, u "LONGEST_PLACE"), (0, u "Ljava/time/Duration;"), (15, u "()Z"), (8, .methodref 8 74), (0, .nameAndType 75 64), (0, u "isGranted"), (10, u "ASKS_PER_PLACE"), (0, u "I"), (7, u "granted"), (0, u "(J)Lcom/example/portunus/portunus/store/Acquisition;"), (9, u "fencingToken"), (0, u "()J"), (0, u "askAgainWithin")] 4

def k3c0 : Code := { maxStack := 3, maxLocals := 4, code := prog_12_method_1_code, exceptionTable := #[], attributes := #[] }
def k3m0 : Method := { name := "<init>", desc := "(JLjava/util/Optional;)V", sig := { parameters := [.long, (.object "java/util/Optional")], returnType := none }, accessFlags := 2, code := some k3c0 }
def k3c1 : Code := { maxStack := 8, maxLocals := 2, code := prog_12_method_2_code, exceptionTable := #[], attributes := #[] }
def k3m1 : Method := { name := "granted", desc := "(J)Lcom/example/portunus/portunus/store/Acquisition;", sig := { parameters := [.long], returnType := some (.object "com/example/portunus/portunus/store/Acquisition") }, accessFlags := 9, code := some k3c1 }
def k3c2 : Code := { maxStack := 4, maxLocals := 1, code := prog_12_method_6_code, exceptionTable := #[], attributes := #[] }
def k3m2 : Method := { name := "isGranted", desc := "()Z", sig := { parameters := [], returnType := some .boolean }, accessFlags := 1, code := some k3c2 }
def k3c3 : Code := { maxStack := 3, maxLocals := 1, code := prog_12_method_7_code, exceptionTable := #[], attributes := #[] }
def k3m3 : Method := { name := "fencingToken", desc := "()J", sig := { parameters := [], returnType := some .long }, accessFlags := 1, code := some k3c3 }
def k3c4 : Code := { maxStack := 1, maxLocals := 1, code := prog_12_method_8_code, exceptionTable := #[], attributes := #[] }
def k3m4 : Method := { name := "askAgainWithin", desc := "()Ljava/util/Optional;", sig := { parameters := [], returnType := some (.object "java/util/Optional") }, accessFlags := 1, code := some k3c4 }
/-- com/example/portunus/portunus/store/Acquisition -/
def k3 : Class := { plain "com/example/portunus/portunus/store/Acquisition" (some 0) with
  accessFlags := 49
  interfaces := #[]
  cf := some (fileOf pool3 8 #[] #[{ accessFlags := 2, nameIndex := 5, descriptorIndex := 44, attributes := #[] }, { accessFlags := 9, nameIndex := 95, descriptorIndex := 96, attributes := #[] }, { accessFlags := 1, nameIndex := 75, descriptorIndex := 64, attributes := #[] }, { accessFlags := 1, nameIndex := 106, descriptorIndex := 107, attributes := #[] }, { accessFlags := 1, nameIndex := 108, descriptorIndex := 41, attributes := #[] }] 49 2 #[] #[{ accessFlags := 26, nameIndex := 47, descriptorIndex := 48, attributes := #[] }, { accessFlags := 26, nameIndex := 86, descriptorIndex := 87, attributes := #[] }, { accessFlags := 18, nameIndex := 11, descriptorIndex := 12, attributes := #[] }, { accessFlags := 18, nameIndex := 15, descriptorIndex := 16, attributes := #[] }])
  fields := #[{ name := "LONGEST_PLACE", type := (.object "java/time/Duration"), accessFlags := 26, slot := 0, constantValue := 0 }, { name := "ASKS_PER_PLACE", type := .int, accessFlags := 26, slot := 1, constantValue := 0 }, { name := "token", type := .long, accessFlags := 18, slot := 0, constantValue := 0 }, { name := "left", type := (.object "java/util/Optional"), accessFlags := 18, slot := 1, constantValue := 0 }]
  methods := #[k3m0, k3m1, k3m2, k3m3, k3m4]
  instanceTypes := #[.long, (.object "java/util/Optional")]
  staticTypes := #[(.object "java/time/Duration"), .int]
  resolved := Array.replicate 113 none
  statics := none }

def pool4 : Array CpInfo := pool [(1, .fieldref 2 3), (0, .class_ 4), (0, .nameAndType 5 6), (0, u "java/util/Optional"), (0, u "EMPTY"), (0, u "Ljava/util/Optional;"), (1, .class_ 10), (1, u "java/lang/Object"), (2, .fieldref 2 14), (0, .nameAndType 15 16), (0, u "value"), (0, u "Ljava/lang/Object;"), (29, u "()Z"), (8, u "empty"), (0, u "()Ljava/util/Optional;"), (11, u "isPresent")] 118

def k4c0 : Code := { maxStack := 1, maxLocals := 1, code := jdk_32_method_1_code, exceptionTable := #[], attributes := #[] }
def k4m0 : Method := { name := "empty", desc := "()Ljava/util/Optional;", sig := { parameters := [], returnType := some (.object "java/util/Optional") }, accessFlags := 9, code := some k4c0 }
def k4c1 : Code := { maxStack := 1, maxLocals := 1, code := jdk_32_method_6_code, exceptionTable := #[], attributes := #[] }
def k4m1 : Method := { name := "isPresent", desc := "()Z", sig := { parameters := [], returnType := some .boolean }, accessFlags := 1, code := some k4c1 }
/-- java/util/Optional -/
def k4 : Class := { plain "java/util/Optional" (some 0) with
  accessFlags := 49
  interfaces := #[]
  cf := some (fileOf pool4 2 #[] #[{ accessFlags := 9, nameIndex := 55, descriptorIndex := 56, attributes := #[] }, { accessFlags := 1, nameIndex := 68, descriptorIndex := 46, attributes := #[] }] 49 8 #[] #[{ accessFlags := 26, nameIndex := 5, descriptorIndex := 6, attributes := #[] }, { accessFlags := 18, nameIndex := 15, descriptorIndex := 16, attributes := #[] }])
  fields := #[{ name := "EMPTY", type := (.object "java/util/Optional"), accessFlags := 26, slot := 0, constantValue := 0 }, { name := "value", type := (.object "java/lang/Object"), accessFlags := 18, slot := 0, constantValue := 0 }]
  methods := #[k4m0, k4m1]
  instanceTypes := #[(.object "java/lang/Object")]
  staticTypes := #[(.object "java/util/Optional")]
  resolved := Array.replicate 187 none
  statics := some 0 }

def pool5 : Array CpInfo := pool [(1, u "java/lang/Cloneable"), (0, .class_ 1), (0, u "java/lang/Object"), (0, .class_ 3)] 3

/-- java/lang/Cloneable -/
def k5 : Class := { plain "java/lang/Cloneable" (some 0) with
  accessFlags := 1537
  interfaces := #[]
  cf := some (fileOf pool5 2 #[] #[] 1537 4 #[] #[])
  fields := #[]
  methods := #[]
  instanceTypes := #[]
  staticTypes := #[]
  resolved := Array.replicate 8 none
  statics := none }

def pool6 : Array CpInfo := pool [(1, u "java/io/Serializable"), (0, .class_ 1), (0, u "java/lang/Object"), (0, .class_ 3)] 3

/-- java/io/Serializable -/
def k6 : Class := { plain "java/io/Serializable" (some 0) with
  accessFlags := 1537
  interfaces := #[]
  cf := some (fileOf pool6 2 #[] #[] 1537 4 #[] #[])
  fields := #[]
  methods := #[]
  instanceTypes := #[]
  staticTypes := #[]
  resolved := Array.replicate 8 none
  statics := none }

/-- the primitive byte -/
def k7 : Class := { plain "byte" none with kind := .primitive 'B', accessFlags := 0x411 }
/-- [B -/
def k8 : Class := { plain "[B" (some 0) with kind := .array 7 .byte, interfaces := #[5, 6], accessFlags := 1041 }

def heap : Heap := #[{ cls := 4, slots := #[.ref 1], vm := .statics 4 },
  { cls := 4, slots := #[.null], vm := .none }]
def classes : Array Class := #[k0, k1, k2, k3, k4, k5, k6, k7, k8]
def interned : List (Array UInt16 × Addr) := []
def slotsUsed : Nat := 2
def theMethod : MethodId := ⟨1, 1⟩
def args0 : Array Value := #[.long 5]
def aboutOver (below : List Frame) : State where
  vm := { classes := classes, interned := interned.toArray }
  heap := heap
  slotsUsed := slotsUsed
  threads := #[{ frames := .invoking theMethod args0 :: below }]
def below0 : List Frame := [.native { method := ⟨0, 0⟩, args := #[] }]
def about1 : State := aboutOver below0
def p0 : Program := .bare "" "" ""
def e0 : Env := launch0.env 0 0 0
theorem w_frames : about1.frames = Frame.invoking theMethod args0 :: below0 := rfl
set_option maxRecDepth 65536 in
theorem w_args : argsFit about1.vm theMethod args0 = true := by decide +kernel
set_option maxRecDepth 65536 in
theorem w_heap : heapFits about1 = true := by decide +kernel
set_option maxRecDepth 65536 in
theorem w_runnable : about1.curStatus? = some .runnable := by decide +kernel
set_option maxRecDepth 65536 in
theorem w_alone : about1.alone = true := by decide +kernel
set_option maxRecDepth 65536 in
theorem w_named : about1.methodNamed? x = some theMethod := by decide +kernel
set_option maxRecDepth 65536 in
theorem w_hears : about1.hears theMethod below0 = true := by decide +kernel
set_option maxRecDepth 65536 in
theorem w_ripe : about1.ripe theMethod args0 below0 = true := by decide +kernel
theorem w_running : about1.status = .running := rfl
set_option maxRecDepth 65536 in
theorem w_room : about1.hasRoom e0.platform room_1 = true :=
  launch0.hasRoom_least _ room_1 (by decide +kernel) (by decide +kernel) (by decide +kernel) (by decide +kernel) (by decide +kernel) (by decide +kernel)
theorem allAtoms_all (ts : List Jvm.Cond) (a : Array Jvm.Value) (st : Jvm.State) : (allAtoms ts).before a st = ts.all (fun c => c.before a st) := by
  induction ts with
  | nil => rfl
  | cons c t ih =>
    show (Jvm.Cond.and c (allAtoms t)).before a st = _
    rw [Jvm.Cond.before_and, ih, List.all_cons]
def words1 : List Jvm.Cond := Jvm.Cond.code x code maxLocals ret :: tables_1
/-- a 'code' word, met by the world's own term for the bytes: nothing is compared byte by byte -/
theorem code_word {y : MethodName} {bytes : ByteArray} {mx : Nat} {rt : Option FieldType} {a : Array Value} {s : State} {m : MethodId} {meth : Method} {c : Code} (h1 : s.methodNamed? y = some m) (h2 : s.vm.method? m = some meth) (h3 : meth.code = some c) (h4 : c.code = bytes)
    (h5 : (c.maxLocals == mx && c.exceptionTable.isEmpty && decide (c.maxStack ≤ mostOperands) && decide (meth.sig.returnType = rt) && !meth.locks && decide (parseMethodDescriptor y.desc = some meth.sig)) = true) : (Jvm.Cond.code y bytes mx rt).before a s = true := by
  simp only [Bool.and_eq_true, beq_iff_eq, Bool.not_eq_true', decide_eq_true_eq] at h5
  obtain ⟨⟨⟨⟨⟨g1, g2⟩, g3⟩, g4⟩, g5⟩, g6⟩ := h5
  simp [Cond.before, Cond.holds, Cond.value, h1, h2, h3, h4, g1, g2, g3, g4, g5, g6]
def isCode : Jvm.Cond → Bool
  | .code _ _ _ _ => true
  | _ => false
theorem all_split {L : List Jvm.Cond} {P : Jvm.Cond → Bool} (h1 : L.all (fun c => isCode c || P c) = true) (h2 : ∀ c ∈ L.filter isCode, P c = true) : L.all P = true := by
  refine List.all_eq_true.mpr fun c hc => ?_
  have h := List.all_eq_true.mp h1 c hc
  rcases Bool.eq_false_or_eq_true (isCode c) with hi | hi
  · exact h2 c (List.mem_filter.mpr ⟨hc, hi⟩)
  · simpa [hi] using h
set_option maxRecDepth 65536 in
theorem w_c0 : (Jvm.Cond.code x code maxLocals ret).before args0 about1 = true := code_word (m := ⟨1, 1⟩) (meth := k1m1) (c := k1c1) (by decide +kernel) rfl rfl rfl (by decide +kernel)
set_option maxRecDepth 65536 in
theorem w_c1 : (Jvm.Cond.code ({ cls := "java/lang/Math", name := "max", desc := "(JJ)J" } : Jvm.MethodName) jdk_29_method_66_code (4 : Nat) (Option.some Jvm.ClassFile.FieldType.long)).before args0 about1 = true := code_word (m := ⟨2, 1⟩) (meth := k2m1) (c := k2c1) (by decide +kernel) rfl rfl rfl (by decide +kernel)
set_option maxRecDepth 65536 in
theorem w_c2 : (Jvm.Cond.code ({ cls := "com/example/portunus/portunus/store/Acquisition", name := "granted", desc := "(J)Lcom/example/portunus/portunus/store/Acquisition;" } : Jvm.MethodName) prog_12_method_2_code (2 : Nat) (Option.some (Jvm.ClassFile.FieldType.object "com/example/portunus/portunus/store/Acquisition"))).before args0 about1 = true := code_word (m := ⟨3, 1⟩) (meth := k3m1) (c := k3c1) (by decide +kernel) rfl rfl rfl (by decide +kernel)
set_option maxRecDepth 65536 in
theorem w_c3 : (Jvm.Cond.code ({ cls := "java/util/Optional", name := "empty", desc := "()Ljava/util/Optional;" } : Jvm.MethodName) jdk_32_method_1_code (1 : Nat) (Option.some (Jvm.ClassFile.FieldType.object "java/util/Optional"))).before args0 about1 = true := code_word (m := ⟨4, 0⟩) (meth := k4m0) (c := k4c0) (by decide +kernel) rfl rfl rfl (by decide +kernel)
set_option maxRecDepth 65536 in
theorem w_c4 : (Jvm.Cond.code ({ cls := "com/example/portunus/portunus/store/Acquisition", name := "<init>", desc := "(JLjava/util/Optional;)V" } : Jvm.MethodName) prog_12_method_1_code (4 : Nat) (Option.none : Option Jvm.ClassFile.FieldType)).before args0 about1 = true := code_word (m := ⟨3, 0⟩) (meth := k3m0) (c := k3c0) (by decide +kernel) rfl rfl rfl (by decide +kernel)
set_option maxRecDepth 65536 in
theorem w_c5 : (Jvm.Cond.code ({ cls := "java/lang/Object", name := "<init>", desc := "()V" } : Jvm.MethodName) object_method_1_code (1 : Nat) (Option.none : Option Jvm.ClassFile.FieldType)).before args0 about1 = true := code_word (m := ⟨0, 0⟩) (meth := k0m0) (c := k0c0) (by decide +kernel) rfl rfl rfl (by decide +kernel)
set_option maxRecDepth 65536 in
theorem w_c6 : (Jvm.Cond.code ({ cls := "com/example/portunus/portunus/store/Acquisition", name := "isGranted", desc := "()Z" } : Jvm.MethodName) prog_12_method_6_code (1 : Nat) (Option.some Jvm.ClassFile.FieldType.boolean)).before args0 about1 = true := code_word (m := ⟨3, 2⟩) (meth := k3m2) (c := k3c2) (by decide +kernel) rfl rfl rfl (by decide +kernel)
set_option maxRecDepth 65536 in
theorem w_c7 : (Jvm.Cond.code ({ cls := "com/example/portunus/portunus/store/Acquisition", name := "fencingToken", desc := "()J" } : Jvm.MethodName) prog_12_method_7_code (1 : Nat) (Option.some Jvm.ClassFile.FieldType.long)).before args0 about1 = true := code_word (m := ⟨3, 3⟩) (meth := k3m3) (c := k3c3) (by decide +kernel) rfl rfl rfl (by decide +kernel)
set_option maxRecDepth 65536 in
theorem w_c8 : (Jvm.Cond.code ({ cls := "com/example/portunus/portunus/store/Acquisition", name := "askAgainWithin", desc := "()Ljava/util/Optional;" } : Jvm.MethodName) prog_12_method_8_code (1 : Nat) (Option.some (Jvm.ClassFile.FieldType.object "java/util/Optional"))).before args0 about1 = true := code_word (m := ⟨3, 4⟩) (meth := k3m4) (c := k3c4) (by decide +kernel) rfl rfl rfl (by decide +kernel)
set_option maxRecDepth 65536 in
theorem w_c9 : (Jvm.Cond.code ({ cls := "java/util/Optional", name := "isPresent", desc := "()Z" } : Jvm.MethodName) jdk_32_method_6_code (1 : Nat) (Option.some Jvm.ClassFile.FieldType.boolean)).before args0 about1 = true := code_word (m := ⟨4, 1⟩) (meth := k4m1) (c := k4c1) (by decide +kernel) rfl rfl rfl (by decide +kernel)
def codes1 : List Jvm.Cond := [Jvm.Cond.code x code maxLocals ret, Jvm.Cond.code ({ cls := "java/lang/Math", name := "max", desc := "(JJ)J" } : Jvm.MethodName) jdk_29_method_66_code (4 : Nat) (Option.some Jvm.ClassFile.FieldType.long), Jvm.Cond.code ({ cls := "com/example/portunus/portunus/store/Acquisition", name := "granted", desc := "(J)Lcom/example/portunus/portunus/store/Acquisition;" } : Jvm.MethodName) prog_12_method_2_code (2 : Nat) (Option.some (Jvm.ClassFile.FieldType.object "com/example/portunus/portunus/store/Acquisition")), Jvm.Cond.code ({ cls := "java/util/Optional", name := "empty", desc := "()Ljava/util/Optional;" } : Jvm.MethodName) jdk_32_method_1_code (1 : Nat) (Option.some (Jvm.ClassFile.FieldType.object "java/util/Optional")), Jvm.Cond.code ({ cls := "com/example/portunus/portunus/store/Acquisition", name := "<init>", desc := "(JLjava/util/Optional;)V" } : Jvm.MethodName) prog_12_method_1_code (4 : Nat) (Option.none : Option Jvm.ClassFile.FieldType), Jvm.Cond.code ({ cls := "java/lang/Object", name := "<init>", desc := "()V" } : Jvm.MethodName) object_method_1_code (1 : Nat) (Option.none : Option Jvm.ClassFile.FieldType), Jvm.Cond.code ({ cls := "com/example/portunus/portunus/store/Acquisition", name := "isGranted", desc := "()Z" } : Jvm.MethodName) prog_12_method_6_code (1 : Nat) (Option.some Jvm.ClassFile.FieldType.boolean), Jvm.Cond.code ({ cls := "com/example/portunus/portunus/store/Acquisition", name := "fencingToken", desc := "()J" } : Jvm.MethodName) prog_12_method_7_code (1 : Nat) (Option.some Jvm.ClassFile.FieldType.long), Jvm.Cond.code ({ cls := "com/example/portunus/portunus/store/Acquisition", name := "askAgainWithin", desc := "()Ljava/util/Optional;" } : Jvm.MethodName) prog_12_method_8_code (1 : Nat) (Option.some (Jvm.ClassFile.FieldType.object "java/util/Optional")), Jvm.Cond.code ({ cls := "java/util/Optional", name := "isPresent", desc := "()Z" } : Jvm.MethodName) jdk_32_method_6_code (1 : Nat) (Option.some Jvm.ClassFile.FieldType.boolean)]
set_option maxRecDepth 65536 in
theorem codes_eq : words1.filter isCode = codes1 := rfl
theorem w_codes : ∀ c ∈ words1.filter isCode, c.before args0 about1 = true := by
  rw [codes_eq]
  intro c hc
  simp only [codes1, List.mem_cons, List.not_mem_nil, or_false] at hc
  rcases hc with rfl | rfl | rfl | rfl | rfl | rfl | rfl | rfl | rfl | rfl
  · exact w_c0
  · exact w_c1
  · exact w_c2
  · exact w_c3
  · exact w_c4
  · exact w_c5
  · exact w_c6
  · exact w_c7
  · exact w_c8
  · exact w_c9
set_option maxRecDepth 65536 in
theorem w_t1 : (words1.take 24).all (fun c => isCode c || c.before args0 about1) = true := by decide +kernel
set_option maxRecDepth 65536 in
theorem w_t2 : ((words1.drop 24).take 24).all (fun c => isCode c || c.before args0 about1) = true := by decide +kernel
set_option maxRecDepth 65536 in
theorem w_t3 : ((words1.drop 24).drop 24).all (fun c => isCode c || c.before args0 about1) = true := by decide +kernel
theorem w_tables : (allAtoms (Jvm.Cond.code x code maxLocals ret :: tables_1)).before args0 about1 = true := by
  rw [allAtoms_all]
  show words1.all (fun c => c.before args0 about1) = true
  refine all_split ?_ w_codes
  rw [← List.take_append_drop 24 words1, List.all_append, w_t1, ← List.take_append_drop 24 (words1.drop 24), List.all_append, w_t2, w_t3]
  rfl
set_option maxRecDepth 65536 in
theorem w_rest : rest_1_c.before args0 about1 = true := by decide +kernel
set_option maxRecDepth 65536 in
theorem w_case : (Jvm.Cond.and given_1 narrow_1).before args0 about1 = true := by decide +kernel
theorem w_applies : (headSpec (Jvm.Cond.code x code maxLocals ret :: tables_1) room_1).applies x e0.platform about1 = true :=
  (Spec.applies_iff w_frames).mpr ⟨w_running, w_runnable, w_alone, w_named, w_hears, w_ripe, w_room, w_tables⟩
theorem atStart : AtStart classFile x code maxLocals ret World_1 tables_1 room_1 Calls_1 rest_1 Pre_1 launch0 p0 e0 about1 theMethod args0 below0 :=
  ⟨lists_1, trivial, launch0.admits_env _ _ _, launch0.least_env, fairChoices_fair.cas, fairChoices_fair.clock, w_frames, w_args, w_heap, w_applies, trivial, w_rest, w_case⟩
end start1
theorem witness_1 : WitnessClaimed_1 := ⟨start1.p0, start1.e0, start1.about1, start1.theMethod, start1.args0, start1.below0, start1.atStart⟩
end Jvm.Pilot.@@N@@
