import JvmDerived
import JvmDerived.Pilot.@@N@@Statement
import JvmDerived.Pilot.@@N@@Code
set_option linter.unusedVariables false
set_option linter.unusedSimpArgs false
namespace Jvm.RoadKit
open Sem ClassFile Op Lib Jvm.Stand Jvm.Free Jvm.LawKit
section New
variable {p : Program} {l : Launch} {e : Env} {R : Room} {s : State} {m : MethodId} {args : Array Value} {below : List Frame} {meth : Method} {c : Code} {T : State} {locs : List Loc} {cells slots : Nat}
theorem retI (X : Stand p l e R s m args below meth c T locs cells slots) (hx : p.tables.exec = Jvm.exec) {pc : Nat} {Ls : Array Slot} {z : Int32} {rest : List Value} (hret : meth.sig.returnType = some .int) (hd : decode c.code pc = .ok (.ireturn, 1)) {fs : List Frame}
    (hl : ∀ (f : JFrame) (acts : List Action), f.method = m → f.locked = none → f.entered = [] → (doReturn e (T.setTop f) acts (some (.int z))).1 = T.setFrames fs) : Steps p.tables e below (T.setTop (mkF m pc Ls (.int z :: rest))) (T.setFrames fs) := by
  have hm' : T.vm.method? m = some meth := X.method'
  have hn : narrow .int (.int z) = .int z := rfl
  show Steps p.tables e below (T.setTop { method := m, pc := pc, locals := Ls, stack := _ :: rest, locked := none }) _
  jvm_step X.here [X.here.top, hx, hd, hm', hret, hn]
  first | (intro acts; rw [hl _ acts rfl rfl rfl]) | rw [hl _ _ rfl rfl rfl]
  exact Steps.refl _
end New
end Jvm.RoadKit
namespace Jvm.Pilot.@@N@@
open Jvm Jvm.ClassFile Sem Op Lib Jvm.Free Jvm.Stand Jvm.LawKit Jvm.RoadKit Bundle Jvm.Pilot.@@N@@.Jvm.D
def own_exp (k : Nat) : Int32 := if k = 1 then 401 else if k = 14 then 401 else if k = 15 then 403 else if k = 13 then 503 else 400
def own_map (k : Nat) : Int32 := if k = 1 then 1 else if k = 13 then 4 else if k = 14 then 2 else if k = 15 then 3 else 0
theorem own_sta {Z : State} {h h' : Heap} {C n dd : String} {v : Value} (F : Sta Z h C n dd v) (K : Keep h h' []) : Sta Z h' C n dd v := by
  obtain ⟨cf, i, k, f, st, cell, h1, h2, h3, h4, h5, r⟩ := F
  exact ⟨cf, i, k, f, st, cell, h1, h2, h3, h4, K.2.1 _ _ h5 (by simp), r⟩
theorem own_arr {Z : State} {h h' : Heap} {a : Addr} {c : Cell} {ty : FieldType} (F : Arr Z h a c ty) (K : Keep h h' []) : Arr Z h' a c ty := ⟨K.2.1 _ _ F.1 (by simp), F.2⟩
theorem d1_0 : decode method_3_code 0 = .ok (.aload_n 0, 1) := by decide +kernel
theorem d1_1 : decode method_3_code 1 = .ok (.getstatic 13, 3) := by decide +kernel
theorem d1_4 : decode method_3_code 4 = .ok (.if_acmp .ne 7, 3) := by decide +kernel
theorem d1_7 : decode method_3_code 7 = .ok (.sipush 401, 3) := by decide +kernel
theorem d1_10 : decode method_3_code 10 = .ok (.ireturn, 1) := by decide +kernel
theorem pn_1 : plainName "com/example/grantline/grantline/server/ClientRequestsStatusOfPinLaw" = true := by first | (simp [plainName, overriddenIn]; done) | decide +kernel
theorem ef_1 (m : MethodId) (x0 : Addr) : entryFrame m #[(.ref x0)] 1 = mkF m 0 #[.val (.ref x0)] [] := by first | (simp [entryFrame, mkF, argsToLocals, Value.category]; done) | rfl
def Q1_f (Z : State) (a1 : Addr) (w2 : Addr) (h0 : Heap) (n0 : Nat) (v : Option Value) (h : Heap) (L : List Loc) : Prop := v = some (.int (401 : Int32)) ∧ Fr n0 L ∧ h = h0
set_option maxRecDepth 65536 in
set_option maxHeartbeats 40000000 in
theorem rm1_f (l : Launch) (Z : State) (a0 : Array Value) (hw : ∀ d ∈ tables_1, d.before a0 Z = true) (ws : List Jvm.Cond) (a1 : Addr) (w2 : Addr) (h0 : Heap) (n0 : Nat) (Z0 : n0 ≤ h0.size) (S_INVALID_CLIENT : Sta Z h0 "com/example/grantline/grantline/authz/OauthError" "INVALID_CLIENT" "Lcom/example/grantline/grantline/authz/OauthError;" (.ref w2)) (ha4 : a1 = w2) :
    MetFree l (⟨"com/example/grantline/grantline/server/ClientRequestsStatusOfPinLaw", "expectedStatus", "(Lcom/example/grantline/grantline/authz/OauthError;)I"⟩ : MethodName) (head1 (Jvm.Cond.code (⟨"com/example/grantline/grantline/server/ClientRequestsStatusOfPinLaw", "expectedStatus", "(Lcom/example/grantline/grantline/authz/OauthError;)I"⟩ : MethodName) method_3_code 1 (some .int) :: ws) ({ frames := 0, cells := 0, slots := 0, locals := 0 } : Room)) (fun a U => a = #[(.ref a1)] ∧ Z.Warmed39 U.vm ∧ U.heap = h0) (fun _ _ _ _ _ => True) (fun _ U o U' => ∃ v L, o = .returned v ∧ Q1_f Z a1 w2 h0 n0 v U'.heap L ∧ FrameEnd U o U' L ({ frames := 0, cells := 0, slots := 0, locals := 0 } : Room).cells ({ frames := 0, cells := 0, slots := 0, locals := 0 } : Room).slots) := by
  refine MetFree.of_bodySF (plainFor_of_name pn_1) hisR ?_
  intro p e s m args below meth c s₁ Bd hml0 hP hK
  obtain ⟨rfl, hZ, hh⟩ := hP
  have hx := Bd.exec
  have hby := Bd.bytes
  have hml : c.maxLocals = 1 := hml0
  have hown : s.vm.findClass "com/example/grantline/grantline/server/ClientRequestsStatusOfPinLaw" = some m.cls := findClass_of_methodNamed Bd.named
  have hnm := (name_of_methodNamed Bd.named Bd.method).1
  have X0 : Stand p l e ({ frames := 0, cells := 0, slots := 0, locals := 0 } : Room) s m #[(.ref a1)] below meth c s₁ [] 0 0 := Stand.of_body Bd
  have e0 : s₁.heap = h0 := by rw [← hh, Bd.state]; rfl
  have N0 := Fr.nil n0
  have pre0 : ∀ t, Steps p.tables e below (s₁.setTop (mkF m 0 #[.val (.ref a1)] [])) t → Steps p.tables e below (s₁.setTop (entryFrame m #[(.ref a1)] 1)) t := fun t k => castTop (ef_1 m a1) k
  -- 3. LAWS
  obtain ⟨T3, X3, e3, st3⟩ := getS2 X0 hx hZ hown (host := "") (Or.inl (hw _ (List.mem_of_getElem? (i := 6) rfl))) Via.refl e0 S_INVALID_CLIENT (g := (mkF m 1 #[.val (.ref a1)] [(.ref a1)])) rfl (hb hby d1_1)
  obtain ⟨fs, hr, hrun, hended, hW, hsame⟩ := X3.leave (v := some (.int (401 : Int32))) (fun h => by rw [Bd.returns] at h; cases h)
  refine ⟨_, _, pre0 _ ?_, hrun, hended, _, _, rfl, ?_, ⟨_, rfl⟩, hW, hsame.mono (by decide) (by decide)⟩
  -- 4. STEPS
  · show Steps p.tables e below (s₁.setTop (mkF m 0 #[.val (.ref a1)] [])) _
    refine XS.aloadN X0.here hx rfl (hb hby d1_0) rfl rfl ?_
    show Steps p.tables e below (s₁.setTop (mkF m 1 #[.val (.ref a1)] [(.ref a1)])) _
    refine st3 _ ?_
    show Steps p.tables e below (T3.setTop (mkF m 4 #[.val (.ref a1)] [(.ref w2), (.ref a1)])) _
    refine Jvm.RoadKit.acmp (g := (mkF m 4 #[.val (.ref a1)] [(.ref w2), (.ref a1)])) X3 hx rfl rfl rfl (pc0 := 4) (pc' := 7) (same := true) rfl (hb hby d1_4) rfl (decide_eq_true (congrArg Value.ref ha4)) (by decide) (by decide) ?_
    show Steps p.tables e below (T3.setTop (mkF m 7 #[.val (.ref a1)] [])) _
    refine XS.sipush X3.here hx rfl (hb hby d1_7) ?_
    show Steps p.tables e below (T3.setTop (mkF m 10 #[.val (.ref a1)] [(.int (401 : Int32))])) _
    exact retI X3 hx Bd.returns (hb hby d1_10) hr      -- retI stands in the head ('lawwalk <made dir>' prints it)
  · show Q1_f Z a1 w2 h0 n0 _ T3.heap _
    rw [e3]
    exact ⟨rfl, N0, rfl⟩
theorem d1_11 : decode method_3_code 11 = .ok (.aload_n 0, 1) := by decide +kernel
theorem d1_12 : decode method_3_code 12 = .ok (.getstatic 52, 3) := by decide +kernel
theorem d1_15 : decode method_3_code 15 = .ok (.if_acmp .ne 7, 3) := by decide +kernel
theorem d1_18 : decode method_3_code 18 = .ok (.sipush 401, 3) := by decide +kernel
theorem d1_21 : decode method_3_code 21 = .ok (.ireturn, 1) := by decide +kernel
def Q1_tf (Z : State) (a1 : Addr) (w2 : Addr) (w4 : Addr) (h0 : Heap) (n0 : Nat) (v : Option Value) (h : Heap) (L : List Loc) : Prop := v = some (.int (401 : Int32)) ∧ Fr n0 L ∧ h = h0
set_option maxRecDepth 65536 in
set_option maxHeartbeats 40000000 in
theorem rm1_tf (l : Launch) (Z : State) (a0 : Array Value) (hw : ∀ d ∈ tables_1, d.before a0 Z = true) (ws : List Jvm.Cond) (a1 : Addr) (w2 : Addr) (w4 : Addr) (h0 : Heap) (n0 : Nat) (Z0 : n0 ≤ h0.size) (S_INVALID_CLIENT : Sta Z h0 "com/example/grantline/grantline/authz/OauthError" "INVALID_CLIENT" "Lcom/example/grantline/grantline/authz/OauthError;" (.ref w2)) (S_INVALID_TOKEN : Sta Z h0 "com/example/grantline/grantline/authz/OauthError" "INVALID_TOKEN" "Lcom/example/grantline/grantline/authz/OauthError;" (.ref w4)) (ha4 : ¬ (a1 = w2)) (ha15 : a1 = w4) :
    MetFree l (⟨"com/example/grantline/grantline/server/ClientRequestsStatusOfPinLaw", "expectedStatus", "(Lcom/example/grantline/grantline/authz/OauthError;)I"⟩ : MethodName) (head1 (Jvm.Cond.code (⟨"com/example/grantline/grantline/server/ClientRequestsStatusOfPinLaw", "expectedStatus", "(Lcom/example/grantline/grantline/authz/OauthError;)I"⟩ : MethodName) method_3_code 1 (some .int) :: ws) ({ frames := 0, cells := 0, slots := 0, locals := 0 } : Room)) (fun a U => a = #[(.ref a1)] ∧ Z.Warmed39 U.vm ∧ U.heap = h0) (fun _ _ _ _ _ => True) (fun _ U o U' => ∃ v L, o = .returned v ∧ Q1_tf Z a1 w2 w4 h0 n0 v U'.heap L ∧ FrameEnd U o U' L ({ frames := 0, cells := 0, slots := 0, locals := 0 } : Room).cells ({ frames := 0, cells := 0, slots := 0, locals := 0 } : Room).slots) := by
  refine MetFree.of_bodySF (plainFor_of_name pn_1) hisR ?_
  intro p e s m args below meth c s₁ Bd hml0 hP hK
  obtain ⟨rfl, hZ, hh⟩ := hP
  have hx := Bd.exec
  have hby := Bd.bytes
  have hml : c.maxLocals = 1 := hml0
  have hown : s.vm.findClass "com/example/grantline/grantline/server/ClientRequestsStatusOfPinLaw" = some m.cls := findClass_of_methodNamed Bd.named
  have hnm := (name_of_methodNamed Bd.named Bd.method).1
  have X0 : Stand p l e ({ frames := 0, cells := 0, slots := 0, locals := 0 } : Room) s m #[(.ref a1)] below meth c s₁ [] 0 0 := Stand.of_body Bd
  have e0 : s₁.heap = h0 := by rw [← hh, Bd.state]; rfl
  have N0 := Fr.nil n0
  have pre0 : ∀ t, Steps p.tables e below (s₁.setTop (mkF m 0 #[.val (.ref a1)] [])) t → Steps p.tables e below (s₁.setTop (entryFrame m #[(.ref a1)] 1)) t := fun t k => castTop (ef_1 m a1) k
  -- 3. LAWS
  obtain ⟨T3, X3, e3, st3⟩ := getS2 X0 hx hZ hown (host := "") (Or.inl (hw _ (List.mem_of_getElem? (i := 6) rfl))) Via.refl e0 S_INVALID_CLIENT (g := (mkF m 1 #[.val (.ref a1)] [(.ref a1)])) rfl (hb hby d1_1)
  obtain ⟨T5, X5, e5, st5⟩ := getS2 X3 hx hZ hown (host := "") (Or.inl (hw _ (List.mem_of_getElem? (i := 32) rfl))) Via.refl e3 S_INVALID_TOKEN (g := (mkF m 12 #[.val (.ref a1)] [(.ref a1)])) rfl (hb hby d1_12)
  obtain ⟨fs, hr, hrun, hended, hW, hsame⟩ := X5.leave (v := some (.int (401 : Int32))) (fun h => by rw [Bd.returns] at h; cases h)
  refine ⟨_, _, pre0 _ ?_, hrun, hended, _, _, rfl, ?_, ⟨_, rfl⟩, hW, hsame.mono (by decide) (by decide)⟩
  -- 4. STEPS
  · show Steps p.tables e below (s₁.setTop (mkF m 0 #[.val (.ref a1)] [])) _
    refine XS.aloadN X0.here hx rfl (hb hby d1_0) rfl rfl ?_
    show Steps p.tables e below (s₁.setTop (mkF m 1 #[.val (.ref a1)] [(.ref a1)])) _
    refine st3 _ ?_
    show Steps p.tables e below (T3.setTop (mkF m 4 #[.val (.ref a1)] [(.ref w2), (.ref a1)])) _
    refine Jvm.RoadKit.acmp (g := (mkF m 4 #[.val (.ref a1)] [(.ref w2), (.ref a1)])) X3 hx rfl rfl rfl (pc0 := 4) (pc' := 11) (same := false) rfl (hb hby d1_4) rfl (decide_eq_false fun q => ha4 (Value.ref.inj q)) (by decide) (by decide) ?_
    show Steps p.tables e below (T3.setTop (mkF m 11 #[.val (.ref a1)] [])) _
    refine XS.aloadN X3.here hx rfl (hb hby d1_11) rfl rfl ?_
    show Steps p.tables e below (T3.setTop (mkF m 12 #[.val (.ref a1)] [(.ref a1)])) _
    refine st5 _ ?_
    show Steps p.tables e below (T5.setTop (mkF m 15 #[.val (.ref a1)] [(.ref w4), (.ref a1)])) _
    refine Jvm.RoadKit.acmp (g := (mkF m 15 #[.val (.ref a1)] [(.ref w4), (.ref a1)])) X5 hx rfl rfl rfl (pc0 := 15) (pc' := 18) (same := true) rfl (hb hby d1_15) rfl (decide_eq_true (congrArg Value.ref ha15)) (by decide) (by decide) ?_
    show Steps p.tables e below (T5.setTop (mkF m 18 #[.val (.ref a1)] [])) _
    refine XS.sipush X5.here hx rfl (hb hby d1_18) ?_
    show Steps p.tables e below (T5.setTop (mkF m 21 #[.val (.ref a1)] [(.int (401 : Int32))])) _
    exact retI X5 hx Bd.returns (hb hby d1_21) hr      -- retI stands in the head ('lawwalk <made dir>' prints it)
  · show Q1_tf Z a1 w2 w4 h0 n0 _ T5.heap _
    rw [e5]
    exact ⟨rfl, N0, rfl⟩
theorem d1_22 : decode method_3_code 22 = .ok (.aload_n 0, 1) := by decide +kernel
theorem d1_23 : decode method_3_code 23 = .ok (.getstatic 55, 3) := by decide +kernel
theorem d1_26 : decode method_3_code 26 = .ok (.if_acmp .ne 7, 3) := by decide +kernel
theorem d1_29 : decode method_3_code 29 = .ok (.sipush 403, 3) := by decide +kernel
theorem d1_32 : decode method_3_code 32 = .ok (.ireturn, 1) := by decide +kernel
def Q1_ttf (Z : State) (a1 : Addr) (w2 : Addr) (w4 : Addr) (w6 : Addr) (h0 : Heap) (n0 : Nat) (v : Option Value) (h : Heap) (L : List Loc) : Prop := v = some (.int (403 : Int32)) ∧ Fr n0 L ∧ h = h0
set_option maxRecDepth 65536 in
set_option maxHeartbeats 40000000 in
theorem rm1_ttf (l : Launch) (Z : State) (a0 : Array Value) (hw : ∀ d ∈ tables_1, d.before a0 Z = true) (ws : List Jvm.Cond) (a1 : Addr) (w2 : Addr) (w4 : Addr) (w6 : Addr) (h0 : Heap) (n0 : Nat) (Z0 : n0 ≤ h0.size) (S_INVALID_CLIENT : Sta Z h0 "com/example/grantline/grantline/authz/OauthError" "INVALID_CLIENT" "Lcom/example/grantline/grantline/authz/OauthError;" (.ref w2)) (S_INVALID_TOKEN : Sta Z h0 "com/example/grantline/grantline/authz/OauthError" "INVALID_TOKEN" "Lcom/example/grantline/grantline/authz/OauthError;" (.ref w4)) (S_INSUFFICIENT_SCOPE : Sta Z h0 "com/example/grantline/grantline/authz/OauthError" "INSUFFICIENT_SCOPE" "Lcom/example/grantline/grantline/authz/OauthError;" (.ref w6)) (ha4 : ¬ (a1 = w2)) (ha15 : ¬ (a1 = w4)) (ha26 : a1 = w6) :
    MetFree l (⟨"com/example/grantline/grantline/server/ClientRequestsStatusOfPinLaw", "expectedStatus", "(Lcom/example/grantline/grantline/authz/OauthError;)I"⟩ : MethodName) (head1 (Jvm.Cond.code (⟨"com/example/grantline/grantline/server/ClientRequestsStatusOfPinLaw", "expectedStatus", "(Lcom/example/grantline/grantline/authz/OauthError;)I"⟩ : MethodName) method_3_code 1 (some .int) :: ws) ({ frames := 0, cells := 0, slots := 0, locals := 0 } : Room)) (fun a U => a = #[(.ref a1)] ∧ Z.Warmed39 U.vm ∧ U.heap = h0) (fun _ _ _ _ _ => True) (fun _ U o U' => ∃ v L, o = .returned v ∧ Q1_ttf Z a1 w2 w4 w6 h0 n0 v U'.heap L ∧ FrameEnd U o U' L ({ frames := 0, cells := 0, slots := 0, locals := 0 } : Room).cells ({ frames := 0, cells := 0, slots := 0, locals := 0 } : Room).slots) := by
  refine MetFree.of_bodySF (plainFor_of_name pn_1) hisR ?_
  intro p e s m args below meth c s₁ Bd hml0 hP hK
  obtain ⟨rfl, hZ, hh⟩ := hP
  have hx := Bd.exec
  have hby := Bd.bytes
  have hml : c.maxLocals = 1 := hml0
  have hown : s.vm.findClass "com/example/grantline/grantline/server/ClientRequestsStatusOfPinLaw" = some m.cls := findClass_of_methodNamed Bd.named
  have hnm := (name_of_methodNamed Bd.named Bd.method).1
  have X0 : Stand p l e ({ frames := 0, cells := 0, slots := 0, locals := 0 } : Room) s m #[(.ref a1)] below meth c s₁ [] 0 0 := Stand.of_body Bd
  have e0 : s₁.heap = h0 := by rw [← hh, Bd.state]; rfl
  have N0 := Fr.nil n0
  have pre0 : ∀ t, Steps p.tables e below (s₁.setTop (mkF m 0 #[.val (.ref a1)] [])) t → Steps p.tables e below (s₁.setTop (entryFrame m #[(.ref a1)] 1)) t := fun t k => castTop (ef_1 m a1) k
  -- 3. LAWS
  obtain ⟨T3, X3, e3, st3⟩ := getS2 X0 hx hZ hown (host := "") (Or.inl (hw _ (List.mem_of_getElem? (i := 6) rfl))) Via.refl e0 S_INVALID_CLIENT (g := (mkF m 1 #[.val (.ref a1)] [(.ref a1)])) rfl (hb hby d1_1)
  obtain ⟨T5, X5, e5, st5⟩ := getS2 X3 hx hZ hown (host := "") (Or.inl (hw _ (List.mem_of_getElem? (i := 32) rfl))) Via.refl e3 S_INVALID_TOKEN (g := (mkF m 12 #[.val (.ref a1)] [(.ref a1)])) rfl (hb hby d1_12)
  obtain ⟨T7, X7, e7, st7⟩ := getS2 X5 hx hZ hown (host := "") (Or.inl (hw _ (List.mem_of_getElem? (i := 34) rfl))) Via.refl e5 S_INSUFFICIENT_SCOPE (g := (mkF m 23 #[.val (.ref a1)] [(.ref a1)])) rfl (hb hby d1_23)
  obtain ⟨fs, hr, hrun, hended, hW, hsame⟩ := X7.leave (v := some (.int (403 : Int32))) (fun h => by rw [Bd.returns] at h; cases h)
  refine ⟨_, _, pre0 _ ?_, hrun, hended, _, _, rfl, ?_, ⟨_, rfl⟩, hW, hsame.mono (by decide) (by decide)⟩
  -- 4. STEPS
  · show Steps p.tables e below (s₁.setTop (mkF m 0 #[.val (.ref a1)] [])) _
    refine XS.aloadN X0.here hx rfl (hb hby d1_0) rfl rfl ?_
    show Steps p.tables e below (s₁.setTop (mkF m 1 #[.val (.ref a1)] [(.ref a1)])) _
    refine st3 _ ?_
    show Steps p.tables e below (T3.setTop (mkF m 4 #[.val (.ref a1)] [(.ref w2), (.ref a1)])) _
    refine Jvm.RoadKit.acmp (g := (mkF m 4 #[.val (.ref a1)] [(.ref w2), (.ref a1)])) X3 hx rfl rfl rfl (pc0 := 4) (pc' := 11) (same := false) rfl (hb hby d1_4) rfl (decide_eq_false fun q => ha4 (Value.ref.inj q)) (by decide) (by decide) ?_
    show Steps p.tables e below (T3.setTop (mkF m 11 #[.val (.ref a1)] [])) _
    refine XS.aloadN X3.here hx rfl (hb hby d1_11) rfl rfl ?_
    show Steps p.tables e below (T3.setTop (mkF m 12 #[.val (.ref a1)] [(.ref a1)])) _
    refine st5 _ ?_
    show Steps p.tables e below (T5.setTop (mkF m 15 #[.val (.ref a1)] [(.ref w4), (.ref a1)])) _
    refine Jvm.RoadKit.acmp (g := (mkF m 15 #[.val (.ref a1)] [(.ref w4), (.ref a1)])) X5 hx rfl rfl rfl (pc0 := 15) (pc' := 22) (same := false) rfl (hb hby d1_15) rfl (decide_eq_false fun q => ha15 (Value.ref.inj q)) (by decide) (by decide) ?_
    show Steps p.tables e below (T5.setTop (mkF m 22 #[.val (.ref a1)] [])) _
    refine XS.aloadN X5.here hx rfl (hb hby d1_22) rfl rfl ?_
    show Steps p.tables e below (T5.setTop (mkF m 23 #[.val (.ref a1)] [(.ref a1)])) _
    refine st7 _ ?_
    show Steps p.tables e below (T7.setTop (mkF m 26 #[.val (.ref a1)] [(.ref w6), (.ref a1)])) _
    refine Jvm.RoadKit.acmp (g := (mkF m 26 #[.val (.ref a1)] [(.ref w6), (.ref a1)])) X7 hx rfl rfl rfl (pc0 := 26) (pc' := 29) (same := true) rfl (hb hby d1_26) rfl (decide_eq_true (congrArg Value.ref ha26)) (by decide) (by decide) ?_
    show Steps p.tables e below (T7.setTop (mkF m 29 #[.val (.ref a1)] [])) _
    refine XS.sipush X7.here hx rfl (hb hby d1_29) ?_
    show Steps p.tables e below (T7.setTop (mkF m 32 #[.val (.ref a1)] [(.int (403 : Int32))])) _
    exact retI X7 hx Bd.returns (hb hby d1_32) hr      -- retI stands in the head ('lawwalk <made dir>' prints it)
  · show Q1_ttf Z a1 w2 w4 w6 h0 n0 _ T7.heap _
    rw [e7]
    exact ⟨rfl, N0, rfl⟩
theorem d1_33 : decode method_3_code 33 = .ok (.aload_n 0, 1) := by decide +kernel
theorem d1_34 : decode method_3_code 34 = .ok (.getstatic 49, 3) := by decide +kernel
theorem d1_37 : decode method_3_code 37 = .ok (.if_acmp .ne 7, 3) := by decide +kernel
theorem d1_40 : decode method_3_code 40 = .ok (.sipush 503, 3) := by decide +kernel
theorem d1_43 : decode method_3_code 43 = .ok (.ireturn, 1) := by decide +kernel
def Q1_tttf (Z : State) (a1 : Addr) (w2 : Addr) (w4 : Addr) (w6 : Addr) (w8 : Addr) (h0 : Heap) (n0 : Nat) (v : Option Value) (h : Heap) (L : List Loc) : Prop := v = some (.int (503 : Int32)) ∧ Fr n0 L ∧ h = h0
set_option maxRecDepth 65536 in
set_option maxHeartbeats 40000000 in
theorem rm1_tttf (l : Launch) (Z : State) (a0 : Array Value) (hw : ∀ d ∈ tables_1, d.before a0 Z = true) (ws : List Jvm.Cond) (a1 : Addr) (w2 : Addr) (w4 : Addr) (w6 : Addr) (w8 : Addr) (h0 : Heap) (n0 : Nat) (Z0 : n0 ≤ h0.size) (S_INVALID_CLIENT : Sta Z h0 "com/example/grantline/grantline/authz/OauthError" "INVALID_CLIENT" "Lcom/example/grantline/grantline/authz/OauthError;" (.ref w2)) (S_INVALID_TOKEN : Sta Z h0 "com/example/grantline/grantline/authz/OauthError" "INVALID_TOKEN" "Lcom/example/grantline/grantline/authz/OauthError;" (.ref w4)) (S_INSUFFICIENT_SCOPE : Sta Z h0 "com/example/grantline/grantline/authz/OauthError" "INSUFFICIENT_SCOPE" "Lcom/example/grantline/grantline/authz/OauthError;" (.ref w6)) (S_TEMPORARILY_UNAVAILABLE : Sta Z h0 "com/example/grantline/grantline/authz/OauthError" "TEMPORARILY_UNAVAILABLE" "Lcom/example/grantline/grantline/authz/OauthError;" (.ref w8)) (ha4 : ¬ (a1 = w2)) (ha15 : ¬ (a1 = w4)) (ha26 : ¬ (a1 = w6)) (ha37 : a1 = w8) :
    MetFree l (⟨"com/example/grantline/grantline/server/ClientRequestsStatusOfPinLaw", "expectedStatus", "(Lcom/example/grantline/grantline/authz/OauthError;)I"⟩ : MethodName) (head1 (Jvm.Cond.code (⟨"com/example/grantline/grantline/server/ClientRequestsStatusOfPinLaw", "expectedStatus", "(Lcom/example/grantline/grantline/authz/OauthError;)I"⟩ : MethodName) method_3_code 1 (some .int) :: ws) ({ frames := 0, cells := 0, slots := 0, locals := 0 } : Room)) (fun a U => a = #[(.ref a1)] ∧ Z.Warmed39 U.vm ∧ U.heap = h0) (fun _ _ _ _ _ => True) (fun _ U o U' => ∃ v L, o = .returned v ∧ Q1_tttf Z a1 w2 w4 w6 w8 h0 n0 v U'.heap L ∧ FrameEnd U o U' L ({ frames := 0, cells := 0, slots := 0, locals := 0 } : Room).cells ({ frames := 0, cells := 0, slots := 0, locals := 0 } : Room).slots) := by
  refine MetFree.of_bodySF (plainFor_of_name pn_1) hisR ?_
  intro p e s m args below meth c s₁ Bd hml0 hP hK
  obtain ⟨rfl, hZ, hh⟩ := hP
  have hx := Bd.exec
  have hby := Bd.bytes
  have hml : c.maxLocals = 1 := hml0
  have hown : s.vm.findClass "com/example/grantline/grantline/server/ClientRequestsStatusOfPinLaw" = some m.cls := findClass_of_methodNamed Bd.named
  have hnm := (name_of_methodNamed Bd.named Bd.method).1
  have X0 : Stand p l e ({ frames := 0, cells := 0, slots := 0, locals := 0 } : Room) s m #[(.ref a1)] below meth c s₁ [] 0 0 := Stand.of_body Bd
  have e0 : s₁.heap = h0 := by rw [← hh, Bd.state]; rfl
  have N0 := Fr.nil n0
  have pre0 : ∀ t, Steps p.tables e below (s₁.setTop (mkF m 0 #[.val (.ref a1)] [])) t → Steps p.tables e below (s₁.setTop (entryFrame m #[(.ref a1)] 1)) t := fun t k => castTop (ef_1 m a1) k
  -- 3. LAWS
  obtain ⟨T3, X3, e3, st3⟩ := getS2 X0 hx hZ hown (host := "") (Or.inl (hw _ (List.mem_of_getElem? (i := 6) rfl))) Via.refl e0 S_INVALID_CLIENT (g := (mkF m 1 #[.val (.ref a1)] [(.ref a1)])) rfl (hb hby d1_1)
  obtain ⟨T5, X5, e5, st5⟩ := getS2 X3 hx hZ hown (host := "") (Or.inl (hw _ (List.mem_of_getElem? (i := 32) rfl))) Via.refl e3 S_INVALID_TOKEN (g := (mkF m 12 #[.val (.ref a1)] [(.ref a1)])) rfl (hb hby d1_12)
  obtain ⟨T7, X7, e7, st7⟩ := getS2 X5 hx hZ hown (host := "") (Or.inl (hw _ (List.mem_of_getElem? (i := 34) rfl))) Via.refl e5 S_INSUFFICIENT_SCOPE (g := (mkF m 23 #[.val (.ref a1)] [(.ref a1)])) rfl (hb hby d1_23)
  obtain ⟨T9, X9, e9, st9⟩ := getS2 X7 hx hZ hown (host := "") (Or.inl (hw _ (List.mem_of_getElem? (i := 30) rfl))) Via.refl e7 S_TEMPORARILY_UNAVAILABLE (g := (mkF m 34 #[.val (.ref a1)] [(.ref a1)])) rfl (hb hby d1_34)
  obtain ⟨fs, hr, hrun, hended, hW, hsame⟩ := X9.leave (v := some (.int (503 : Int32))) (fun h => by rw [Bd.returns] at h; cases h)
  refine ⟨_, _, pre0 _ ?_, hrun, hended, _, _, rfl, ?_, ⟨_, rfl⟩, hW, hsame.mono (by decide) (by decide)⟩
  -- 4. STEPS
  · show Steps p.tables e below (s₁.setTop (mkF m 0 #[.val (.ref a1)] [])) _
    refine XS.aloadN X0.here hx rfl (hb hby d1_0) rfl rfl ?_
    show Steps p.tables e below (s₁.setTop (mkF m 1 #[.val (.ref a1)] [(.ref a1)])) _
    refine st3 _ ?_
    show Steps p.tables e below (T3.setTop (mkF m 4 #[.val (.ref a1)] [(.ref w2), (.ref a1)])) _
    refine Jvm.RoadKit.acmp (g := (mkF m 4 #[.val (.ref a1)] [(.ref w2), (.ref a1)])) X3 hx rfl rfl rfl (pc0 := 4) (pc' := 11) (same := false) rfl (hb hby d1_4) rfl (decide_eq_false fun q => ha4 (Value.ref.inj q)) (by decide) (by decide) ?_
    show Steps p.tables e below (T3.setTop (mkF m 11 #[.val (.ref a1)] [])) _
    refine XS.aloadN X3.here hx rfl (hb hby d1_11) rfl rfl ?_
    show Steps p.tables e below (T3.setTop (mkF m 12 #[.val (.ref a1)] [(.ref a1)])) _
    refine st5 _ ?_
    show Steps p.tables e below (T5.setTop (mkF m 15 #[.val (.ref a1)] [(.ref w4), (.ref a1)])) _
    refine Jvm.RoadKit.acmp (g := (mkF m 15 #[.val (.ref a1)] [(.ref w4), (.ref a1)])) X5 hx rfl rfl rfl (pc0 := 15) (pc' := 22) (same := false) rfl (hb hby d1_15) rfl (decide_eq_false fun q => ha15 (Value.ref.inj q)) (by decide) (by decide) ?_
    show Steps p.tables e below (T5.setTop (mkF m 22 #[.val (.ref a1)] [])) _
    refine XS.aloadN X5.here hx rfl (hb hby d1_22) rfl rfl ?_
    show Steps p.tables e below (T5.setTop (mkF m 23 #[.val (.ref a1)] [(.ref a1)])) _
    refine st7 _ ?_
    show Steps p.tables e below (T7.setTop (mkF m 26 #[.val (.ref a1)] [(.ref w6), (.ref a1)])) _
    refine Jvm.RoadKit.acmp (g := (mkF m 26 #[.val (.ref a1)] [(.ref w6), (.ref a1)])) X7 hx rfl rfl rfl (pc0 := 26) (pc' := 33) (same := false) rfl (hb hby d1_26) rfl (decide_eq_false fun q => ha26 (Value.ref.inj q)) (by decide) (by decide) ?_
    show Steps p.tables e below (T7.setTop (mkF m 33 #[.val (.ref a1)] [])) _
    refine XS.aloadN X7.here hx rfl (hb hby d1_33) rfl rfl ?_
    show Steps p.tables e below (T7.setTop (mkF m 34 #[.val (.ref a1)] [(.ref a1)])) _
    refine st9 _ ?_
    show Steps p.tables e below (T9.setTop (mkF m 37 #[.val (.ref a1)] [(.ref w8), (.ref a1)])) _
    refine Jvm.RoadKit.acmp (g := (mkF m 37 #[.val (.ref a1)] [(.ref w8), (.ref a1)])) X9 hx rfl rfl rfl (pc0 := 37) (pc' := 40) (same := true) rfl (hb hby d1_37) rfl (decide_eq_true (congrArg Value.ref ha37)) (by decide) (by decide) ?_
    show Steps p.tables e below (T9.setTop (mkF m 40 #[.val (.ref a1)] [])) _
    refine XS.sipush X9.here hx rfl (hb hby d1_40) ?_
    show Steps p.tables e below (T9.setTop (mkF m 43 #[.val (.ref a1)] [(.int (503 : Int32))])) _
    exact retI X9 hx Bd.returns (hb hby d1_43) hr      -- retI stands in the head ('lawwalk <made dir>' prints it)
  · show Q1_tttf Z a1 w2 w4 w6 w8 h0 n0 _ T9.heap _
    rw [e9]
    exact ⟨rfl, N0, rfl⟩
theorem d1_44 : decode method_3_code 44 = .ok (.sipush 400, 3) := by decide +kernel
theorem d1_47 : decode method_3_code 47 = .ok (.ireturn, 1) := by decide +kernel
def Q1_tttt (Z : State) (a1 : Addr) (w2 : Addr) (w4 : Addr) (w6 : Addr) (w8 : Addr) (h0 : Heap) (n0 : Nat) (v : Option Value) (h : Heap) (L : List Loc) : Prop := v = some (.int (400 : Int32)) ∧ Fr n0 L ∧ h = h0
set_option maxRecDepth 65536 in
set_option maxHeartbeats 40000000 in
theorem rm1_tttt (l : Launch) (Z : State) (a0 : Array Value) (hw : ∀ d ∈ tables_1, d.before a0 Z = true) (ws : List Jvm.Cond) (a1 : Addr) (w2 : Addr) (w4 : Addr) (w6 : Addr) (w8 : Addr) (h0 : Heap) (n0 : Nat) (Z0 : n0 ≤ h0.size) (S_INVALID_CLIENT : Sta Z h0 "com/example/grantline/grantline/authz/OauthError" "INVALID_CLIENT" "Lcom/example/grantline/grantline/authz/OauthError;" (.ref w2)) (S_INVALID_TOKEN : Sta Z h0 "com/example/grantline/grantline/authz/OauthError" "INVALID_TOKEN" "Lcom/example/grantline/grantline/authz/OauthError;" (.ref w4)) (S_INSUFFICIENT_SCOPE : Sta Z h0 "com/example/grantline/grantline/authz/OauthError" "INSUFFICIENT_SCOPE" "Lcom/example/grantline/grantline/authz/OauthError;" (.ref w6)) (S_TEMPORARILY_UNAVAILABLE : Sta Z h0 "com/example/grantline/grantline/authz/OauthError" "TEMPORARILY_UNAVAILABLE" "Lcom/example/grantline/grantline/authz/OauthError;" (.ref w8)) (ha4 : ¬ (a1 = w2)) (ha15 : ¬ (a1 = w4)) (ha26 : ¬ (a1 = w6)) (ha37 : ¬ (a1 = w8)) :
    MetFree l (⟨"com/example/grantline/grantline/server/ClientRequestsStatusOfPinLaw", "expectedStatus", "(Lcom/example/grantline/grantline/authz/OauthError;)I"⟩ : MethodName) (head1 (Jvm.Cond.code (⟨"com/example/grantline/grantline/server/ClientRequestsStatusOfPinLaw", "expectedStatus", "(Lcom/example/grantline/grantline/authz/OauthError;)I"⟩ : MethodName) method_3_code 1 (some .int) :: ws) ({ frames := 0, cells := 0, slots := 0, locals := 0 } : Room)) (fun a U => a = #[(.ref a1)] ∧ Z.Warmed39 U.vm ∧ U.heap = h0) (fun _ _ _ _ _ => True) (fun _ U o U' => ∃ v L, o = .returned v ∧ Q1_tttt Z a1 w2 w4 w6 w8 h0 n0 v U'.heap L ∧ FrameEnd U o U' L ({ frames := 0, cells := 0, slots := 0, locals := 0 } : Room).cells ({ frames := 0, cells := 0, slots := 0, locals := 0 } : Room).slots) := by
  refine MetFree.of_bodySF (plainFor_of_name pn_1) hisR ?_
  intro p e s m args below meth c s₁ Bd hml0 hP hK
  obtain ⟨rfl, hZ, hh⟩ := hP
  have hx := Bd.exec
  have hby := Bd.bytes
  have hml : c.maxLocals = 1 := hml0
  have hown : s.vm.findClass "com/example/grantline/grantline/server/ClientRequestsStatusOfPinLaw" = some m.cls := findClass_of_methodNamed Bd.named
  have hnm := (name_of_methodNamed Bd.named Bd.method).1
  have X0 : Stand p l e ({ frames := 0, cells := 0, slots := 0, locals := 0 } : Room) s m #[(.ref a1)] below meth c s₁ [] 0 0 := Stand.of_body Bd
  have e0 : s₁.heap = h0 := by rw [← hh, Bd.state]; rfl
  have N0 := Fr.nil n0
  have pre0 : ∀ t, Steps p.tables e below (s₁.setTop (mkF m 0 #[.val (.ref a1)] [])) t → Steps p.tables e below (s₁.setTop (entryFrame m #[(.ref a1)] 1)) t := fun t k => castTop (ef_1 m a1) k
  -- 3. LAWS
  obtain ⟨T3, X3, e3, st3⟩ := getS2 X0 hx hZ hown (host := "") (Or.inl (hw _ (List.mem_of_getElem? (i := 6) rfl))) Via.refl e0 S_INVALID_CLIENT (g := (mkF m 1 #[.val (.ref a1)] [(.ref a1)])) rfl (hb hby d1_1)
  obtain ⟨T5, X5, e5, st5⟩ := getS2 X3 hx hZ hown (host := "") (Or.inl (hw _ (List.mem_of_getElem? (i := 32) rfl))) Via.refl e3 S_INVALID_TOKEN (g := (mkF m 12 #[.val (.ref a1)] [(.ref a1)])) rfl (hb hby d1_12)
  obtain ⟨T7, X7, e7, st7⟩ := getS2 X5 hx hZ hown (host := "") (Or.inl (hw _ (List.mem_of_getElem? (i := 34) rfl))) Via.refl e5 S_INSUFFICIENT_SCOPE (g := (mkF m 23 #[.val (.ref a1)] [(.ref a1)])) rfl (hb hby d1_23)
  obtain ⟨T9, X9, e9, st9⟩ := getS2 X7 hx hZ hown (host := "") (Or.inl (hw _ (List.mem_of_getElem? (i := 30) rfl))) Via.refl e7 S_TEMPORARILY_UNAVAILABLE (g := (mkF m 34 #[.val (.ref a1)] [(.ref a1)])) rfl (hb hby d1_34)
  obtain ⟨fs, hr, hrun, hended, hW, hsame⟩ := X9.leave (v := some (.int (400 : Int32))) (fun h => by rw [Bd.returns] at h; cases h)
  refine ⟨_, _, pre0 _ ?_, hrun, hended, _, _, rfl, ?_, ⟨_, rfl⟩, hW, hsame.mono (by decide) (by decide)⟩
  -- 4. STEPS
  · show Steps p.tables e below (s₁.setTop (mkF m 0 #[.val (.ref a1)] [])) _
    refine XS.aloadN X0.here hx rfl (hb hby d1_0) rfl rfl ?_
    show Steps p.tables e below (s₁.setTop (mkF m 1 #[.val (.ref a1)] [(.ref a1)])) _
    refine st3 _ ?_
    show Steps p.tables e below (T3.setTop (mkF m 4 #[.val (.ref a1)] [(.ref w2), (.ref a1)])) _
    refine Jvm.RoadKit.acmp (g := (mkF m 4 #[.val (.ref a1)] [(.ref w2), (.ref a1)])) X3 hx rfl rfl rfl (pc0 := 4) (pc' := 11) (same := false) rfl (hb hby d1_4) rfl (decide_eq_false fun q => ha4 (Value.ref.inj q)) (by decide) (by decide) ?_
    show Steps p.tables e below (T3.setTop (mkF m 11 #[.val (.ref a1)] [])) _
    refine XS.aloadN X3.here hx rfl (hb hby d1_11) rfl rfl ?_
    show Steps p.tables e below (T3.setTop (mkF m 12 #[.val (.ref a1)] [(.ref a1)])) _
    refine st5 _ ?_
    show Steps p.tables e below (T5.setTop (mkF m 15 #[.val (.ref a1)] [(.ref w4), (.ref a1)])) _
    refine Jvm.RoadKit.acmp (g := (mkF m 15 #[.val (.ref a1)] [(.ref w4), (.ref a1)])) X5 hx rfl rfl rfl (pc0 := 15) (pc' := 22) (same := false) rfl (hb hby d1_15) rfl (decide_eq_false fun q => ha15 (Value.ref.inj q)) (by decide) (by decide) ?_
    show Steps p.tables e below (T5.setTop (mkF m 22 #[.val (.ref a1)] [])) _
    refine XS.aloadN X5.here hx rfl (hb hby d1_22) rfl rfl ?_
    show Steps p.tables e below (T5.setTop (mkF m 23 #[.val (.ref a1)] [(.ref a1)])) _
    refine st7 _ ?_
    show Steps p.tables e below (T7.setTop (mkF m 26 #[.val (.ref a1)] [(.ref w6), (.ref a1)])) _
    refine Jvm.RoadKit.acmp (g := (mkF m 26 #[.val (.ref a1)] [(.ref w6), (.ref a1)])) X7 hx rfl rfl rfl (pc0 := 26) (pc' := 33) (same := false) rfl (hb hby d1_26) rfl (decide_eq_false fun q => ha26 (Value.ref.inj q)) (by decide) (by decide) ?_
    show Steps p.tables e below (T7.setTop (mkF m 33 #[.val (.ref a1)] [])) _
    refine XS.aloadN X7.here hx rfl (hb hby d1_33) rfl rfl ?_
    show Steps p.tables e below (T7.setTop (mkF m 34 #[.val (.ref a1)] [(.ref a1)])) _
    refine st9 _ ?_
    show Steps p.tables e below (T9.setTop (mkF m 37 #[.val (.ref a1)] [(.ref w8), (.ref a1)])) _
    refine Jvm.RoadKit.acmp (g := (mkF m 37 #[.val (.ref a1)] [(.ref w8), (.ref a1)])) X9 hx rfl rfl rfl (pc0 := 37) (pc' := 44) (same := false) rfl (hb hby d1_37) rfl (decide_eq_false fun q => ha37 (Value.ref.inj q)) (by decide) (by decide) ?_
    show Steps p.tables e below (T9.setTop (mkF m 44 #[.val (.ref a1)] [])) _
    refine XS.sipush X9.here hx rfl (hb hby d1_44) ?_
    show Steps p.tables e below (T9.setTop (mkF m 47 #[.val (.ref a1)] [(.int (400 : Int32))])) _
    exact retI X9 hx Bd.returns (hb hby d1_47) hr      -- retI stands in the head ('lawwalk <made dir>' prints it)
  · show Q1_tttt Z a1 w2 w4 w6 w8 h0 n0 _ T9.heap _
    rw [e9]
    exact ⟨rfl, N0, rfl⟩
theorem d3_0 : decode jdk_37_method_2_code 0 = .ok (.aload_n 0, 1) := by decide +kernel
theorem d3_1 : decode jdk_37_method_2_code 1 = .ok (.getfield 7, 3) := by decide +kernel
theorem d3_4 : decode jdk_37_method_2_code 4 = .ok (.ireturn, 1) := by decide +kernel
theorem pn_3 : plainName "java/lang/Enum" = true := by first | (simp [plainName, overriddenIn]; done) | decide +kernel
theorem ef_3 (m : MethodId) (x0 : Addr) : entryFrame m #[(.ref x0)] 1 = mkF m 0 #[.val (.ref x0)] [] := by first | (simp [entryFrame, mkF, argsToLocals, Value.category]; done) | rfl
def Q3 (Z : State) (a1 : Addr) (w2 : Int32) (h0 : Heap) (n0 : Nat) (v : Option Value) (h : Heap) (L : List Loc) : Prop := v = some (.int w2) ∧ Fr n0 L ∧ h = h0
set_option maxRecDepth 65536 in
set_option maxHeartbeats 40000000 in
theorem rm3 (l : Launch) (Z : State) (a0 : Array Value) (hw : ∀ d ∈ tables_1, d.before a0 Z = true) (ws : List Jvm.Cond) (a1 : Addr) (w2 : Int32) (h0 : Heap) (n0 : Nat) (Z0 : n0 ≤ h0.size) (F_ordinal_a1 : Fld Z h0 a1 "java/lang/Enum" "ordinal" "I" (.int w2)) :
    MetFree l (⟨"java/lang/Enum", "ordinal", "()I"⟩ : MethodName) (head1 (Jvm.Cond.code (⟨"java/lang/Enum", "ordinal", "()I"⟩ : MethodName) jdk_37_method_2_code 1 (some .int) :: ws) ({ frames := 0, cells := 0, slots := 0, locals := 0 } : Room)) (fun a U => a = #[(.ref a1)] ∧ Z.Warmed39 U.vm ∧ U.heap = h0) (fun _ _ _ _ _ => True) (fun _ U o U' => ∃ v L, o = .returned v ∧ Q3 Z a1 w2 h0 n0 v U'.heap L ∧ FrameEnd U o U' L ({ frames := 0, cells := 0, slots := 0, locals := 0 } : Room).cells ({ frames := 0, cells := 0, slots := 0, locals := 0 } : Room).slots) := by
  refine MetFree.of_bodySF (plainFor_of_name pn_3) hisR ?_
  intro p e s m args below meth c s₁ Bd hml0 hP hK
  obtain ⟨rfl, hZ, hh⟩ := hP
  have hx := Bd.exec
  have hby := Bd.bytes
  have hml : c.maxLocals = 1 := hml0
  have hown : s.vm.findClass "java/lang/Enum" = some m.cls := findClass_of_methodNamed Bd.named
  have hnm := (name_of_methodNamed Bd.named Bd.method).1
  have X0 : Stand p l e ({ frames := 0, cells := 0, slots := 0, locals := 0 } : Room) s m #[(.ref a1)] below meth c s₁ [] 0 0 := Stand.of_body Bd
  have e0 : s₁.heap = h0 := by rw [← hh, Bd.state]; rfl
  have N0 := Fr.nil n0
  have pre0 : ∀ t, Steps p.tables e below (s₁.setTop (mkF m 0 #[.val (.ref a1)] [])) t → Steps p.tables e below (s₁.setTop (entryFrame m #[(.ref a1)] 1)) t := fun t k => castTop (ef_3 m a1) k
  -- 3. LAWS
  obtain ⟨T3, X3, e3, st3⟩ := getF X0 hx hZ hown (host := "") (Or.inl (hw _ (List.mem_of_getElem? (i := 54) rfl))) Via.refl e0 F_ordinal_a1 (g := (mkF m 1 #[.val (.ref a1)] [(.ref a1)])) rfl rfl (hb hby d3_1)
  obtain ⟨fs, hr, hrun, hended, hW, hsame⟩ := X3.leave (v := some (.int w2)) (fun h => by rw [Bd.returns] at h; cases h)
  refine ⟨_, _, pre0 _ ?_, hrun, hended, _, _, rfl, ?_, ⟨_, rfl⟩, hW, hsame.mono (by decide) (by decide)⟩
  -- 4. STEPS
  · show Steps p.tables e below (s₁.setTop (mkF m 0 #[.val (.ref a1)] [])) _
    refine XS.aloadN X0.here hx rfl (hb hby d3_0) rfl rfl ?_
    show Steps p.tables e below (s₁.setTop (mkF m 1 #[.val (.ref a1)] [(.ref a1)])) _
    refine st3 _ ?_
    show Steps p.tables e below (T3.setTop (mkF m 4 #[.val (.ref a1)] [(.int w2)])) _
    exact retI X3 hx Bd.returns (hb hby d3_4) hr      -- retI stands in the head ('lawwalk <made dir>' prints it)
  · show Q3 Z a1 w2 h0 n0 _ T3.heap _
    rw [e3]
    exact ⟨rfl, N0, rfl⟩
theorem d2_0 : decode prog_127_method_9_code 0 = .ok (.getstatic 230, 3) := by decide +kernel
theorem d2_3 : decode prog_127_method_9_code 3 = .ok (.aload_n 0, 1) := by decide +kernel
theorem d2_4 : decode prog_127_method_9_code 4 = .ok (.invokevirtual 236, 3) := by decide +kernel
theorem d2_7 : decode prog_127_method_9_code 7 = .ok (.iaload, 1) := by decide +kernel
theorem d2_8 : decode prog_127_method_9_code 8 = .ok (.tableswitch 50 1 4 #[32, 32, 38, 44], 32) := by decide +kernel
theorem d2_40 : decode prog_127_method_9_code 40 = .ok (.sipush 401, 3) := by decide +kernel
theorem d2_43 : decode prog_127_method_9_code 43 = .ok (.goto 18, 3) := by decide +kernel
theorem d2_46 : decode prog_127_method_9_code 46 = .ok (.sipush 403, 3) := by decide +kernel
theorem d2_49 : decode prog_127_method_9_code 49 = .ok (.goto 12, 3) := by decide +kernel
theorem d2_52 : decode prog_127_method_9_code 52 = .ok (.sipush 503, 3) := by decide +kernel
theorem d2_55 : decode prog_127_method_9_code 55 = .ok (.goto 6, 3) := by decide +kernel
theorem d2_58 : decode prog_127_method_9_code 58 = .ok (.sipush 400, 3) := by decide +kernel
theorem d2_61 : decode prog_127_method_9_code 61 = .ok (.ireturn, 1) := by decide +kernel
def Q2 (z : Int32) (h0 : Heap) (n0 : Nat) (v : Option Value) (h : Heap) (L : List Loc) : Prop := v = some (.int z) ∧ Fr n0 L ∧ h = h0
theorem pn_2 : plainName "com/example/grantline/grantline/server/ClientRequests" = true := by first | (simp [plainName, overriddenIn]; done) | decide +kernel
theorem pd_2_1 : parseMethodDescriptor "()I" = some ⟨[], some .int⟩ := by decide +kernel
theorem ef_2 (m : MethodId) (x0 : Addr) : entryFrame m #[(.ref x0)] 1 = mkF m 0 #[.val (.ref x0)] [] := by first | (simp [entryFrame, mkF, argsToLocals, Value.category]; done) | rfl
set_option maxRecDepth 65536 in
set_option maxHeartbeats 40000000 in
theorem rm2_1 (l : Launch) (Z : State) (a0 : Array Value) (hw : ∀ d ∈ tables_1, d.before a0 Z = true) (ws : List Jvm.Cond) (a1 w2 : Addr) (cl_w2 : Cell) (od : Int32) (h0 : Heap) (n0 : Nat) (Z0 : n0 ≤ h0.size) (S_map : Sta Z h0 "com/example/grantline/grantline/server/ClientRequests$1" "$SwitchMap$com$example$grantline$grantline$authz$OauthError" "[I" (.ref w2)) (E_a1 : Exa Z h0 a1 "com/example/grantline/grantline/authz/OauthError") (F_od : Fld Z h0 a1 "java/lang/Enum" "ordinal" "I" (.int od)) (Ar_w2 : Arr Z h0 w2 cl_w2 .int) (hin7 : ¬ (od < 0 ∨ cl_w2.slots.size ≤ od.toNatClampNeg)) (hat7 : cl_w2.slots[od.toNatClampNeg]? = some (.int (1 : Int32))) :
    MetFree l (⟨"com/example/grantline/grantline/server/ClientRequests", "statusOf", "(Lcom/example/grantline/grantline/authz/OauthError;)I"⟩ : MethodName) (head1 (Jvm.Cond.code (⟨"com/example/grantline/grantline/server/ClientRequests", "statusOf", "(Lcom/example/grantline/grantline/authz/OauthError;)I"⟩ : MethodName) prog_127_method_9_code 1 (some .int) :: ws) ({ frames := 1, cells := 0, slots := 0, locals := 13 } : Room)) (fun a U => a = #[(.ref a1)] ∧ Z.Warmed39 U.vm ∧ U.heap = h0) (fun _ _ _ _ _ => True) (fun _ U o U' => ∃ v L, o = .returned v ∧ Q2 (401 : Int32) h0 n0 v U'.heap L ∧ FrameEnd U o U' L ({ frames := 1, cells := 0, slots := 0, locals := 13 } : Room).cells ({ frames := 1, cells := 0, slots := 0, locals := 13 } : Room).slots) := by
  refine MetFree.of_bodySF (plainFor_of_name pn_2) hisR ?_
  intro p e s m args below meth c s₁ Bd hml0 hP hK
  obtain ⟨rfl, hZ, hh⟩ := hP
  have hx := Bd.exec
  have hby := Bd.bytes
  have hml : c.maxLocals = 1 := hml0
  have hown : s.vm.findClass "com/example/grantline/grantline/server/ClientRequests" = some m.cls := findClass_of_methodNamed Bd.named
  have hnm := (name_of_methodNamed Bd.named Bd.method).1
  have X0 : Stand p l e ({ frames := 1, cells := 0, slots := 0, locals := 13 } : Room) s m #[(.ref a1)] below meth c s₁ [] 0 0 := Stand.of_body Bd
  have e0 : s₁.heap = h0 := by rw [← hh, Bd.state]; rfl
  have N0 := Fr.nil n0
  have pre0 : ∀ t, Steps p.tables e below (s₁.setTop (mkF m 0 #[.val (.ref a1)] [])) t → Steps p.tables e below (s₁.setTop (entryFrame m #[(.ref a1)] 1)) t := fun t k => castTop (ef_2 m a1) k
  -- 3. LAWS
  obtain ⟨T3, X3, e3, st3⟩ := getS2 X0 hx hZ hown (host := "") (Or.inl (hw _ (List.mem_of_getElem? (i := 44) rfl))) Via.refl e0 S_map (g := (mkF m 0 #[.val (.ref a1)] [])) rfl (hb hby d2_0)
  -- pc 4: com/example/grantline/grantline/authz/OauthError.ordinal by the contract of the body that the receiver's class selects, rm3
  obtain ⟨cq4, kq4, q4a, q4b, q4c⟩ := isOf hZ e3 E_a1
  obtain ⟨_, _, ⟨T4, L4, k4, n4⟩, -, X4, ⟨Lc4, hQ4, l4, y4, z4⟩, st4⟩ := X3.virtualBackUp hx (x := (⟨"com/example/grantline/grantline/authz/OauthError", "ordinal", "()I"⟩ : MethodName)) (y := (⟨"java/lang/Enum", "ordinal", "()I"⟩ : MethodName)) (owner := "java/lang/Enum") hown (mvT hZ (hw _ (List.mem_of_getElem? (i := 47) rfl))) (mvT hZ (hw _ (List.mem_of_getElem? (i := 48) rfl))) (mvT hZ (hw _ (List.mem_of_getElem? (i := 49) rfl))) (by decide) (mvT hZ (hw _ (List.mem_of_getElem? (i := 51) rfl))) (mvT hZ (hw _ (List.mem_of_getElem? (i := 50) rfl))) (backOf (W := 1) (rm3 l Z a0 hw [] a1 od h0 n0 Z0 F_od) hZ (hw _ (List.mem_of_getElem? (i := 53) rfl)) (hw _ (List.mem_of_getElem? (i := 52) rfl)) (by decide) (by decide)) q4a q4c (g := (mkF m 4 #[.val (.ref a1)] [(.ref a1), (.ref w2)])) rfl (by rw [hml]; rfl) (Steps.refl _) (argsL := []) (rest := [(.ref w2)]) (lenOf pd_2_1 rfl) rfl (by show 2 * 0 + _ ≤ _; exact Nat.le_of_eq rfl) (hb hby d2_4) (fun _ _ => ⟨rfl, e3, (by decide : 0 + 0 ≤ _), (by decide : 0 + 0 ≤ _)⟩)
  dsimp only [Pt.U, Pt.locs, Pt.cells, Pt.slots] at X4 l4 y4 z4 st4 hQ4
  subst l4 y4 z4
  obtain ⟨rfl, N4q, e4⟩ := hQ4      -- what it returned, that it wrote nothing old, and the rest of your Q3
  have N4 := Fr.app N0 N4q
  obtain ⟨fs, hr, hrun, hended, hW, hsame⟩ := X4.leave (v := some (.int (401 : Int32))) (fun h => by rw [Bd.returns] at h; cases h)
  refine ⟨_, _, pre0 _ ?_, hrun, hended, _, _, rfl, ?_, ⟨_, rfl⟩, hW, hsame.mono (by decide) (by decide)⟩
  · show Steps p.tables e below (s₁.setTop (mkF m 0 #[.val (.ref a1)] [])) _
    refine st3 _ ?_
    show Steps p.tables e below (T3.setTop (mkF m 3 #[.val (.ref a1)] [(.ref w2)])) _
    refine XS.aloadN X3.here hx rfl (hb hby d2_3) rfl rfl ?_
    show Steps p.tables e below (T3.setTop (mkF m 4 #[.val (.ref a1)] [(.ref a1), (.ref w2)])) _
    refine st4.trans ?_
    show Steps p.tables e below (T4.setTop (mkF m 7 #[.val (.ref a1)] [(.int od), (.ref w2)])) _
    refine X4.iaload hx (j := od) (v := (.int (1 : Int32))) (by rw [e4]; exact Ar_w2.1) (State.isArrayOf_alike hZ.alike Ar_w2.2.1) Ar_w2.2.2 hin7 hat7 (g := (mkF m 7 #[.val (.ref a1)] [(.int od), (.ref w2)])) rfl rfl (hb hby d2_7) _ ?_
    show Steps p.tables e below (T4.setTop (mkF m 8 #[.val (.ref a1)] [(.int (1 : Int32))])) _
    refine X4.tableswitchIn hx (g := (mkF m 8 #[.val (.ref a1)] [(.int (1 : Int32))])) rfl (k := (1 : Int32)) (rest := []) rfl (hb hby d2_8) (by decide) (off := 32) (by decide) (by show (0 : Int) ≤ ((8 : Nat) : Int) + 32; decide) _ ?_
    show Steps p.tables e below (T4.setTop (mkF m 40 #[.val (.ref a1)] [])) _
    refine XS.sipush X4.here hx rfl (hb hby d2_40) ?_
    show Steps p.tables e below (T4.setTop (mkF m 43 #[.val (.ref a1)] [(.int (401 : Int32))])) _
    refine XS.goto X4.here hx rfl (pc0 := 43) (pc' := 61) rfl (hb hby d2_43) (by decide) (by decide) ?_
    show Steps p.tables e below (T4.setTop (mkF m 61 #[.val (.ref a1)] [(.int (401 : Int32))])) _
    exact retI X4 hx Bd.returns (hb hby d2_61) hr
  · show Q2 (401 : Int32) h0 n0 _ T4.heap _
    exact ⟨rfl, N4, e4⟩
set_option maxRecDepth 65536 in
set_option maxHeartbeats 40000000 in
theorem rm2_2 (l : Launch) (Z : State) (a0 : Array Value) (hw : ∀ d ∈ tables_1, d.before a0 Z = true) (ws : List Jvm.Cond) (a1 w2 : Addr) (cl_w2 : Cell) (od : Int32) (h0 : Heap) (n0 : Nat) (Z0 : n0 ≤ h0.size) (S_map : Sta Z h0 "com/example/grantline/grantline/server/ClientRequests$1" "$SwitchMap$com$example$grantline$grantline$authz$OauthError" "[I" (.ref w2)) (E_a1 : Exa Z h0 a1 "com/example/grantline/grantline/authz/OauthError") (F_od : Fld Z h0 a1 "java/lang/Enum" "ordinal" "I" (.int od)) (Ar_w2 : Arr Z h0 w2 cl_w2 .int) (hin7 : ¬ (od < 0 ∨ cl_w2.slots.size ≤ od.toNatClampNeg)) (hat7 : cl_w2.slots[od.toNatClampNeg]? = some (.int (2 : Int32))) :
    MetFree l (⟨"com/example/grantline/grantline/server/ClientRequests", "statusOf", "(Lcom/example/grantline/grantline/authz/OauthError;)I"⟩ : MethodName) (head1 (Jvm.Cond.code (⟨"com/example/grantline/grantline/server/ClientRequests", "statusOf", "(Lcom/example/grantline/grantline/authz/OauthError;)I"⟩ : MethodName) prog_127_method_9_code 1 (some .int) :: ws) ({ frames := 1, cells := 0, slots := 0, locals := 13 } : Room)) (fun a U => a = #[(.ref a1)] ∧ Z.Warmed39 U.vm ∧ U.heap = h0) (fun _ _ _ _ _ => True) (fun _ U o U' => ∃ v L, o = .returned v ∧ Q2 (401 : Int32) h0 n0 v U'.heap L ∧ FrameEnd U o U' L ({ frames := 1, cells := 0, slots := 0, locals := 13 } : Room).cells ({ frames := 1, cells := 0, slots := 0, locals := 13 } : Room).slots) := by
  refine MetFree.of_bodySF (plainFor_of_name pn_2) hisR ?_
  intro p e s m args below meth c s₁ Bd hml0 hP hK
  obtain ⟨rfl, hZ, hh⟩ := hP
  have hx := Bd.exec
  have hby := Bd.bytes
  have hml : c.maxLocals = 1 := hml0
  have hown : s.vm.findClass "com/example/grantline/grantline/server/ClientRequests" = some m.cls := findClass_of_methodNamed Bd.named
  have hnm := (name_of_methodNamed Bd.named Bd.method).1
  have X0 : Stand p l e ({ frames := 1, cells := 0, slots := 0, locals := 13 } : Room) s m #[(.ref a1)] below meth c s₁ [] 0 0 := Stand.of_body Bd
  have e0 : s₁.heap = h0 := by rw [← hh, Bd.state]; rfl
  have N0 := Fr.nil n0
  have pre0 : ∀ t, Steps p.tables e below (s₁.setTop (mkF m 0 #[.val (.ref a1)] [])) t → Steps p.tables e below (s₁.setTop (entryFrame m #[(.ref a1)] 1)) t := fun t k => castTop (ef_2 m a1) k
  -- 3. LAWS
  obtain ⟨T3, X3, e3, st3⟩ := getS2 X0 hx hZ hown (host := "") (Or.inl (hw _ (List.mem_of_getElem? (i := 44) rfl))) Via.refl e0 S_map (g := (mkF m 0 #[.val (.ref a1)] [])) rfl (hb hby d2_0)
  -- pc 4: com/example/grantline/grantline/authz/OauthError.ordinal by the contract of the body that the receiver's class selects, rm3
  obtain ⟨cq4, kq4, q4a, q4b, q4c⟩ := isOf hZ e3 E_a1
  obtain ⟨_, _, ⟨T4, L4, k4, n4⟩, -, X4, ⟨Lc4, hQ4, l4, y4, z4⟩, st4⟩ := X3.virtualBackUp hx (x := (⟨"com/example/grantline/grantline/authz/OauthError", "ordinal", "()I"⟩ : MethodName)) (y := (⟨"java/lang/Enum", "ordinal", "()I"⟩ : MethodName)) (owner := "java/lang/Enum") hown (mvT hZ (hw _ (List.mem_of_getElem? (i := 47) rfl))) (mvT hZ (hw _ (List.mem_of_getElem? (i := 48) rfl))) (mvT hZ (hw _ (List.mem_of_getElem? (i := 49) rfl))) (by decide) (mvT hZ (hw _ (List.mem_of_getElem? (i := 51) rfl))) (mvT hZ (hw _ (List.mem_of_getElem? (i := 50) rfl))) (backOf (W := 1) (rm3 l Z a0 hw [] a1 od h0 n0 Z0 F_od) hZ (hw _ (List.mem_of_getElem? (i := 53) rfl)) (hw _ (List.mem_of_getElem? (i := 52) rfl)) (by decide) (by decide)) q4a q4c (g := (mkF m 4 #[.val (.ref a1)] [(.ref a1), (.ref w2)])) rfl (by rw [hml]; rfl) (Steps.refl _) (argsL := []) (rest := [(.ref w2)]) (lenOf pd_2_1 rfl) rfl (by show 2 * 0 + _ ≤ _; exact Nat.le_of_eq rfl) (hb hby d2_4) (fun _ _ => ⟨rfl, e3, (by decide : 0 + 0 ≤ _), (by decide : 0 + 0 ≤ _)⟩)
  dsimp only [Pt.U, Pt.locs, Pt.cells, Pt.slots] at X4 l4 y4 z4 st4 hQ4
  subst l4 y4 z4
  obtain ⟨rfl, N4q, e4⟩ := hQ4      -- what it returned, that it wrote nothing old, and the rest of your Q3
  have N4 := Fr.app N0 N4q
  obtain ⟨fs, hr, hrun, hended, hW, hsame⟩ := X4.leave (v := some (.int (401 : Int32))) (fun h => by rw [Bd.returns] at h; cases h)
  refine ⟨_, _, pre0 _ ?_, hrun, hended, _, _, rfl, ?_, ⟨_, rfl⟩, hW, hsame.mono (by decide) (by decide)⟩
  · show Steps p.tables e below (s₁.setTop (mkF m 0 #[.val (.ref a1)] [])) _
    refine st3 _ ?_
    show Steps p.tables e below (T3.setTop (mkF m 3 #[.val (.ref a1)] [(.ref w2)])) _
    refine XS.aloadN X3.here hx rfl (hb hby d2_3) rfl rfl ?_
    show Steps p.tables e below (T3.setTop (mkF m 4 #[.val (.ref a1)] [(.ref a1), (.ref w2)])) _
    refine st4.trans ?_
    show Steps p.tables e below (T4.setTop (mkF m 7 #[.val (.ref a1)] [(.int od), (.ref w2)])) _
    refine X4.iaload hx (j := od) (v := (.int (2 : Int32))) (by rw [e4]; exact Ar_w2.1) (State.isArrayOf_alike hZ.alike Ar_w2.2.1) Ar_w2.2.2 hin7 hat7 (g := (mkF m 7 #[.val (.ref a1)] [(.int od), (.ref w2)])) rfl rfl (hb hby d2_7) _ ?_
    show Steps p.tables e below (T4.setTop (mkF m 8 #[.val (.ref a1)] [(.int (2 : Int32))])) _
    refine X4.tableswitchIn hx (g := (mkF m 8 #[.val (.ref a1)] [(.int (2 : Int32))])) rfl (k := (2 : Int32)) (rest := []) rfl (hb hby d2_8) (by decide) (off := 32) (by decide) (by show (0 : Int) ≤ ((8 : Nat) : Int) + 32; decide) _ ?_
    show Steps p.tables e below (T4.setTop (mkF m 40 #[.val (.ref a1)] [])) _
    refine XS.sipush X4.here hx rfl (hb hby d2_40) ?_
    show Steps p.tables e below (T4.setTop (mkF m 43 #[.val (.ref a1)] [(.int (401 : Int32))])) _
    refine XS.goto X4.here hx rfl (pc0 := 43) (pc' := 61) rfl (hb hby d2_43) (by decide) (by decide) ?_
    show Steps p.tables e below (T4.setTop (mkF m 61 #[.val (.ref a1)] [(.int (401 : Int32))])) _
    exact retI X4 hx Bd.returns (hb hby d2_61) hr
  · show Q2 (401 : Int32) h0 n0 _ T4.heap _
    exact ⟨rfl, N4, e4⟩
set_option maxRecDepth 65536 in
set_option maxHeartbeats 40000000 in
theorem rm2_3 (l : Launch) (Z : State) (a0 : Array Value) (hw : ∀ d ∈ tables_1, d.before a0 Z = true) (ws : List Jvm.Cond) (a1 w2 : Addr) (cl_w2 : Cell) (od : Int32) (h0 : Heap) (n0 : Nat) (Z0 : n0 ≤ h0.size) (S_map : Sta Z h0 "com/example/grantline/grantline/server/ClientRequests$1" "$SwitchMap$com$example$grantline$grantline$authz$OauthError" "[I" (.ref w2)) (E_a1 : Exa Z h0 a1 "com/example/grantline/grantline/authz/OauthError") (F_od : Fld Z h0 a1 "java/lang/Enum" "ordinal" "I" (.int od)) (Ar_w2 : Arr Z h0 w2 cl_w2 .int) (hin7 : ¬ (od < 0 ∨ cl_w2.slots.size ≤ od.toNatClampNeg)) (hat7 : cl_w2.slots[od.toNatClampNeg]? = some (.int (3 : Int32))) :
    MetFree l (⟨"com/example/grantline/grantline/server/ClientRequests", "statusOf", "(Lcom/example/grantline/grantline/authz/OauthError;)I"⟩ : MethodName) (head1 (Jvm.Cond.code (⟨"com/example/grantline/grantline/server/ClientRequests", "statusOf", "(Lcom/example/grantline/grantline/authz/OauthError;)I"⟩ : MethodName) prog_127_method_9_code 1 (some .int) :: ws) ({ frames := 1, cells := 0, slots := 0, locals := 13 } : Room)) (fun a U => a = #[(.ref a1)] ∧ Z.Warmed39 U.vm ∧ U.heap = h0) (fun _ _ _ _ _ => True) (fun _ U o U' => ∃ v L, o = .returned v ∧ Q2 (403 : Int32) h0 n0 v U'.heap L ∧ FrameEnd U o U' L ({ frames := 1, cells := 0, slots := 0, locals := 13 } : Room).cells ({ frames := 1, cells := 0, slots := 0, locals := 13 } : Room).slots) := by
  refine MetFree.of_bodySF (plainFor_of_name pn_2) hisR ?_
  intro p e s m args below meth c s₁ Bd hml0 hP hK
  obtain ⟨rfl, hZ, hh⟩ := hP
  have hx := Bd.exec
  have hby := Bd.bytes
  have hml : c.maxLocals = 1 := hml0
  have hown : s.vm.findClass "com/example/grantline/grantline/server/ClientRequests" = some m.cls := findClass_of_methodNamed Bd.named
  have hnm := (name_of_methodNamed Bd.named Bd.method).1
  have X0 : Stand p l e ({ frames := 1, cells := 0, slots := 0, locals := 13 } : Room) s m #[(.ref a1)] below meth c s₁ [] 0 0 := Stand.of_body Bd
  have e0 : s₁.heap = h0 := by rw [← hh, Bd.state]; rfl
  have N0 := Fr.nil n0
  have pre0 : ∀ t, Steps p.tables e below (s₁.setTop (mkF m 0 #[.val (.ref a1)] [])) t → Steps p.tables e below (s₁.setTop (entryFrame m #[(.ref a1)] 1)) t := fun t k => castTop (ef_2 m a1) k
  -- 3. LAWS
  obtain ⟨T3, X3, e3, st3⟩ := getS2 X0 hx hZ hown (host := "") (Or.inl (hw _ (List.mem_of_getElem? (i := 44) rfl))) Via.refl e0 S_map (g := (mkF m 0 #[.val (.ref a1)] [])) rfl (hb hby d2_0)
  -- pc 4: com/example/grantline/grantline/authz/OauthError.ordinal by the contract of the body that the receiver's class selects, rm3
  obtain ⟨cq4, kq4, q4a, q4b, q4c⟩ := isOf hZ e3 E_a1
  obtain ⟨_, _, ⟨T4, L4, k4, n4⟩, -, X4, ⟨Lc4, hQ4, l4, y4, z4⟩, st4⟩ := X3.virtualBackUp hx (x := (⟨"com/example/grantline/grantline/authz/OauthError", "ordinal", "()I"⟩ : MethodName)) (y := (⟨"java/lang/Enum", "ordinal", "()I"⟩ : MethodName)) (owner := "java/lang/Enum") hown (mvT hZ (hw _ (List.mem_of_getElem? (i := 47) rfl))) (mvT hZ (hw _ (List.mem_of_getElem? (i := 48) rfl))) (mvT hZ (hw _ (List.mem_of_getElem? (i := 49) rfl))) (by decide) (mvT hZ (hw _ (List.mem_of_getElem? (i := 51) rfl))) (mvT hZ (hw _ (List.mem_of_getElem? (i := 50) rfl))) (backOf (W := 1) (rm3 l Z a0 hw [] a1 od h0 n0 Z0 F_od) hZ (hw _ (List.mem_of_getElem? (i := 53) rfl)) (hw _ (List.mem_of_getElem? (i := 52) rfl)) (by decide) (by decide)) q4a q4c (g := (mkF m 4 #[.val (.ref a1)] [(.ref a1), (.ref w2)])) rfl (by rw [hml]; rfl) (Steps.refl _) (argsL := []) (rest := [(.ref w2)]) (lenOf pd_2_1 rfl) rfl (by show 2 * 0 + _ ≤ _; exact Nat.le_of_eq rfl) (hb hby d2_4) (fun _ _ => ⟨rfl, e3, (by decide : 0 + 0 ≤ _), (by decide : 0 + 0 ≤ _)⟩)
  dsimp only [Pt.U, Pt.locs, Pt.cells, Pt.slots] at X4 l4 y4 z4 st4 hQ4
  subst l4 y4 z4
  obtain ⟨rfl, N4q, e4⟩ := hQ4      -- what it returned, that it wrote nothing old, and the rest of your Q3
  have N4 := Fr.app N0 N4q
  obtain ⟨fs, hr, hrun, hended, hW, hsame⟩ := X4.leave (v := some (.int (403 : Int32))) (fun h => by rw [Bd.returns] at h; cases h)
  refine ⟨_, _, pre0 _ ?_, hrun, hended, _, _, rfl, ?_, ⟨_, rfl⟩, hW, hsame.mono (by decide) (by decide)⟩
  · show Steps p.tables e below (s₁.setTop (mkF m 0 #[.val (.ref a1)] [])) _
    refine st3 _ ?_
    show Steps p.tables e below (T3.setTop (mkF m 3 #[.val (.ref a1)] [(.ref w2)])) _
    refine XS.aloadN X3.here hx rfl (hb hby d2_3) rfl rfl ?_
    show Steps p.tables e below (T3.setTop (mkF m 4 #[.val (.ref a1)] [(.ref a1), (.ref w2)])) _
    refine st4.trans ?_
    show Steps p.tables e below (T4.setTop (mkF m 7 #[.val (.ref a1)] [(.int od), (.ref w2)])) _
    refine X4.iaload hx (j := od) (v := (.int (3 : Int32))) (by rw [e4]; exact Ar_w2.1) (State.isArrayOf_alike hZ.alike Ar_w2.2.1) Ar_w2.2.2 hin7 hat7 (g := (mkF m 7 #[.val (.ref a1)] [(.int od), (.ref w2)])) rfl rfl (hb hby d2_7) _ ?_
    show Steps p.tables e below (T4.setTop (mkF m 8 #[.val (.ref a1)] [(.int (3 : Int32))])) _
    refine X4.tableswitchIn hx (g := (mkF m 8 #[.val (.ref a1)] [(.int (3 : Int32))])) rfl (k := (3 : Int32)) (rest := []) rfl (hb hby d2_8) (by decide) (off := 38) (by decide) (by show (0 : Int) ≤ ((8 : Nat) : Int) + 38; decide) _ ?_
    show Steps p.tables e below (T4.setTop (mkF m 46 #[.val (.ref a1)] [])) _
    refine XS.sipush X4.here hx rfl (hb hby d2_46) ?_
    show Steps p.tables e below (T4.setTop (mkF m 49 #[.val (.ref a1)] [(.int (403 : Int32))])) _
    refine XS.goto X4.here hx rfl (pc0 := 49) (pc' := 61) rfl (hb hby d2_49) (by decide) (by decide) ?_
    show Steps p.tables e below (T4.setTop (mkF m 61 #[.val (.ref a1)] [(.int (403 : Int32))])) _
    exact retI X4 hx Bd.returns (hb hby d2_61) hr
  · show Q2 (403 : Int32) h0 n0 _ T4.heap _
    exact ⟨rfl, N4, e4⟩
set_option maxRecDepth 65536 in
set_option maxHeartbeats 40000000 in
theorem rm2_4 (l : Launch) (Z : State) (a0 : Array Value) (hw : ∀ d ∈ tables_1, d.before a0 Z = true) (ws : List Jvm.Cond) (a1 w2 : Addr) (cl_w2 : Cell) (od : Int32) (h0 : Heap) (n0 : Nat) (Z0 : n0 ≤ h0.size) (S_map : Sta Z h0 "com/example/grantline/grantline/server/ClientRequests$1" "$SwitchMap$com$example$grantline$grantline$authz$OauthError" "[I" (.ref w2)) (E_a1 : Exa Z h0 a1 "com/example/grantline/grantline/authz/OauthError") (F_od : Fld Z h0 a1 "java/lang/Enum" "ordinal" "I" (.int od)) (Ar_w2 : Arr Z h0 w2 cl_w2 .int) (hin7 : ¬ (od < 0 ∨ cl_w2.slots.size ≤ od.toNatClampNeg)) (hat7 : cl_w2.slots[od.toNatClampNeg]? = some (.int (4 : Int32))) :
    MetFree l (⟨"com/example/grantline/grantline/server/ClientRequests", "statusOf", "(Lcom/example/grantline/grantline/authz/OauthError;)I"⟩ : MethodName) (head1 (Jvm.Cond.code (⟨"com/example/grantline/grantline/server/ClientRequests", "statusOf", "(Lcom/example/grantline/grantline/authz/OauthError;)I"⟩ : MethodName) prog_127_method_9_code 1 (some .int) :: ws) ({ frames := 1, cells := 0, slots := 0, locals := 13 } : Room)) (fun a U => a = #[(.ref a1)] ∧ Z.Warmed39 U.vm ∧ U.heap = h0) (fun _ _ _ _ _ => True) (fun _ U o U' => ∃ v L, o = .returned v ∧ Q2 (503 : Int32) h0 n0 v U'.heap L ∧ FrameEnd U o U' L ({ frames := 1, cells := 0, slots := 0, locals := 13 } : Room).cells ({ frames := 1, cells := 0, slots := 0, locals := 13 } : Room).slots) := by
  refine MetFree.of_bodySF (plainFor_of_name pn_2) hisR ?_
  intro p e s m args below meth c s₁ Bd hml0 hP hK
  obtain ⟨rfl, hZ, hh⟩ := hP
  have hx := Bd.exec
  have hby := Bd.bytes
  have hml : c.maxLocals = 1 := hml0
  have hown : s.vm.findClass "com/example/grantline/grantline/server/ClientRequests" = some m.cls := findClass_of_methodNamed Bd.named
  have hnm := (name_of_methodNamed Bd.named Bd.method).1
  have X0 : Stand p l e ({ frames := 1, cells := 0, slots := 0, locals := 13 } : Room) s m #[(.ref a1)] below meth c s₁ [] 0 0 := Stand.of_body Bd
  have e0 : s₁.heap = h0 := by rw [← hh, Bd.state]; rfl
  have N0 := Fr.nil n0
  have pre0 : ∀ t, Steps p.tables e below (s₁.setTop (mkF m 0 #[.val (.ref a1)] [])) t → Steps p.tables e below (s₁.setTop (entryFrame m #[(.ref a1)] 1)) t := fun t k => castTop (ef_2 m a1) k
  -- 3. LAWS
  obtain ⟨T3, X3, e3, st3⟩ := getS2 X0 hx hZ hown (host := "") (Or.inl (hw _ (List.mem_of_getElem? (i := 44) rfl))) Via.refl e0 S_map (g := (mkF m 0 #[.val (.ref a1)] [])) rfl (hb hby d2_0)
  -- pc 4: com/example/grantline/grantline/authz/OauthError.ordinal by the contract of the body that the receiver's class selects, rm3
  obtain ⟨cq4, kq4, q4a, q4b, q4c⟩ := isOf hZ e3 E_a1
  obtain ⟨_, _, ⟨T4, L4, k4, n4⟩, -, X4, ⟨Lc4, hQ4, l4, y4, z4⟩, st4⟩ := X3.virtualBackUp hx (x := (⟨"com/example/grantline/grantline/authz/OauthError", "ordinal", "()I"⟩ : MethodName)) (y := (⟨"java/lang/Enum", "ordinal", "()I"⟩ : MethodName)) (owner := "java/lang/Enum") hown (mvT hZ (hw _ (List.mem_of_getElem? (i := 47) rfl))) (mvT hZ (hw _ (List.mem_of_getElem? (i := 48) rfl))) (mvT hZ (hw _ (List.mem_of_getElem? (i := 49) rfl))) (by decide) (mvT hZ (hw _ (List.mem_of_getElem? (i := 51) rfl))) (mvT hZ (hw _ (List.mem_of_getElem? (i := 50) rfl))) (backOf (W := 1) (rm3 l Z a0 hw [] a1 od h0 n0 Z0 F_od) hZ (hw _ (List.mem_of_getElem? (i := 53) rfl)) (hw _ (List.mem_of_getElem? (i := 52) rfl)) (by decide) (by decide)) q4a q4c (g := (mkF m 4 #[.val (.ref a1)] [(.ref a1), (.ref w2)])) rfl (by rw [hml]; rfl) (Steps.refl _) (argsL := []) (rest := [(.ref w2)]) (lenOf pd_2_1 rfl) rfl (by show 2 * 0 + _ ≤ _; exact Nat.le_of_eq rfl) (hb hby d2_4) (fun _ _ => ⟨rfl, e3, (by decide : 0 + 0 ≤ _), (by decide : 0 + 0 ≤ _)⟩)
  dsimp only [Pt.U, Pt.locs, Pt.cells, Pt.slots] at X4 l4 y4 z4 st4 hQ4
  subst l4 y4 z4
  obtain ⟨rfl, N4q, e4⟩ := hQ4      -- what it returned, that it wrote nothing old, and the rest of your Q3
  have N4 := Fr.app N0 N4q
  obtain ⟨fs, hr, hrun, hended, hW, hsame⟩ := X4.leave (v := some (.int (503 : Int32))) (fun h => by rw [Bd.returns] at h; cases h)
  refine ⟨_, _, pre0 _ ?_, hrun, hended, _, _, rfl, ?_, ⟨_, rfl⟩, hW, hsame.mono (by decide) (by decide)⟩
  · show Steps p.tables e below (s₁.setTop (mkF m 0 #[.val (.ref a1)] [])) _
    refine st3 _ ?_
    show Steps p.tables e below (T3.setTop (mkF m 3 #[.val (.ref a1)] [(.ref w2)])) _
    refine XS.aloadN X3.here hx rfl (hb hby d2_3) rfl rfl ?_
    show Steps p.tables e below (T3.setTop (mkF m 4 #[.val (.ref a1)] [(.ref a1), (.ref w2)])) _
    refine st4.trans ?_
    show Steps p.tables e below (T4.setTop (mkF m 7 #[.val (.ref a1)] [(.int od), (.ref w2)])) _
    refine X4.iaload hx (j := od) (v := (.int (4 : Int32))) (by rw [e4]; exact Ar_w2.1) (State.isArrayOf_alike hZ.alike Ar_w2.2.1) Ar_w2.2.2 hin7 hat7 (g := (mkF m 7 #[.val (.ref a1)] [(.int od), (.ref w2)])) rfl rfl (hb hby d2_7) _ ?_
    show Steps p.tables e below (T4.setTop (mkF m 8 #[.val (.ref a1)] [(.int (4 : Int32))])) _
    refine X4.tableswitchIn hx (g := (mkF m 8 #[.val (.ref a1)] [(.int (4 : Int32))])) rfl (k := (4 : Int32)) (rest := []) rfl (hb hby d2_8) (by decide) (off := 44) (by decide) (by show (0 : Int) ≤ ((8 : Nat) : Int) + 44; decide) _ ?_
    show Steps p.tables e below (T4.setTop (mkF m 52 #[.val (.ref a1)] [])) _
    refine XS.sipush X4.here hx rfl (hb hby d2_52) ?_
    show Steps p.tables e below (T4.setTop (mkF m 55 #[.val (.ref a1)] [(.int (503 : Int32))])) _
    refine XS.goto X4.here hx rfl (pc0 := 55) (pc' := 61) rfl (hb hby d2_55) (by decide) (by decide) ?_
    show Steps p.tables e below (T4.setTop (mkF m 61 #[.val (.ref a1)] [(.int (503 : Int32))])) _
    exact retI X4 hx Bd.returns (hb hby d2_61) hr
  · show Q2 (503 : Int32) h0 n0 _ T4.heap _
    exact ⟨rfl, N4, e4⟩
set_option maxRecDepth 65536 in
set_option maxHeartbeats 40000000 in
theorem rm2_0 (l : Launch) (Z : State) (a0 : Array Value) (hw : ∀ d ∈ tables_1, d.before a0 Z = true) (ws : List Jvm.Cond) (a1 w2 : Addr) (cl_w2 : Cell) (od : Int32) (h0 : Heap) (n0 : Nat) (Z0 : n0 ≤ h0.size) (S_map : Sta Z h0 "com/example/grantline/grantline/server/ClientRequests$1" "$SwitchMap$com$example$grantline$grantline$authz$OauthError" "[I" (.ref w2)) (E_a1 : Exa Z h0 a1 "com/example/grantline/grantline/authz/OauthError") (F_od : Fld Z h0 a1 "java/lang/Enum" "ordinal" "I" (.int od)) (Ar_w2 : Arr Z h0 w2 cl_w2 .int) (hin7 : ¬ (od < 0 ∨ cl_w2.slots.size ≤ od.toNatClampNeg)) (hat7 : cl_w2.slots[od.toNatClampNeg]? = some (.int (0 : Int32))) :
    MetFree l (⟨"com/example/grantline/grantline/server/ClientRequests", "statusOf", "(Lcom/example/grantline/grantline/authz/OauthError;)I"⟩ : MethodName) (head1 (Jvm.Cond.code (⟨"com/example/grantline/grantline/server/ClientRequests", "statusOf", "(Lcom/example/grantline/grantline/authz/OauthError;)I"⟩ : MethodName) prog_127_method_9_code 1 (some .int) :: ws) ({ frames := 1, cells := 0, slots := 0, locals := 13 } : Room)) (fun a U => a = #[(.ref a1)] ∧ Z.Warmed39 U.vm ∧ U.heap = h0) (fun _ _ _ _ _ => True) (fun _ U o U' => ∃ v L, o = .returned v ∧ Q2 (400 : Int32) h0 n0 v U'.heap L ∧ FrameEnd U o U' L ({ frames := 1, cells := 0, slots := 0, locals := 13 } : Room).cells ({ frames := 1, cells := 0, slots := 0, locals := 13 } : Room).slots) := by
  refine MetFree.of_bodySF (plainFor_of_name pn_2) hisR ?_
  intro p e s m args below meth c s₁ Bd hml0 hP hK
  obtain ⟨rfl, hZ, hh⟩ := hP
  have hx := Bd.exec
  have hby := Bd.bytes
  have hml : c.maxLocals = 1 := hml0
  have hown : s.vm.findClass "com/example/grantline/grantline/server/ClientRequests" = some m.cls := findClass_of_methodNamed Bd.named
  have hnm := (name_of_methodNamed Bd.named Bd.method).1
  have X0 : Stand p l e ({ frames := 1, cells := 0, slots := 0, locals := 13 } : Room) s m #[(.ref a1)] below meth c s₁ [] 0 0 := Stand.of_body Bd
  have e0 : s₁.heap = h0 := by rw [← hh, Bd.state]; rfl
  have N0 := Fr.nil n0
  have pre0 : ∀ t, Steps p.tables e below (s₁.setTop (mkF m 0 #[.val (.ref a1)] [])) t → Steps p.tables e below (s₁.setTop (entryFrame m #[(.ref a1)] 1)) t := fun t k => castTop (ef_2 m a1) k
  -- 3. LAWS
  obtain ⟨T3, X3, e3, st3⟩ := getS2 X0 hx hZ hown (host := "") (Or.inl (hw _ (List.mem_of_getElem? (i := 44) rfl))) Via.refl e0 S_map (g := (mkF m 0 #[.val (.ref a1)] [])) rfl (hb hby d2_0)
  -- pc 4: com/example/grantline/grantline/authz/OauthError.ordinal by the contract of the body that the receiver's class selects, rm3
  obtain ⟨cq4, kq4, q4a, q4b, q4c⟩ := isOf hZ e3 E_a1
  obtain ⟨_, _, ⟨T4, L4, k4, n4⟩, -, X4, ⟨Lc4, hQ4, l4, y4, z4⟩, st4⟩ := X3.virtualBackUp hx (x := (⟨"com/example/grantline/grantline/authz/OauthError", "ordinal", "()I"⟩ : MethodName)) (y := (⟨"java/lang/Enum", "ordinal", "()I"⟩ : MethodName)) (owner := "java/lang/Enum") hown (mvT hZ (hw _ (List.mem_of_getElem? (i := 47) rfl))) (mvT hZ (hw _ (List.mem_of_getElem? (i := 48) rfl))) (mvT hZ (hw _ (List.mem_of_getElem? (i := 49) rfl))) (by decide) (mvT hZ (hw _ (List.mem_of_getElem? (i := 51) rfl))) (mvT hZ (hw _ (List.mem_of_getElem? (i := 50) rfl))) (backOf (W := 1) (rm3 l Z a0 hw [] a1 od h0 n0 Z0 F_od) hZ (hw _ (List.mem_of_getElem? (i := 53) rfl)) (hw _ (List.mem_of_getElem? (i := 52) rfl)) (by decide) (by decide)) q4a q4c (g := (mkF m 4 #[.val (.ref a1)] [(.ref a1), (.ref w2)])) rfl (by rw [hml]; rfl) (Steps.refl _) (argsL := []) (rest := [(.ref w2)]) (lenOf pd_2_1 rfl) rfl (by show 2 * 0 + _ ≤ _; exact Nat.le_of_eq rfl) (hb hby d2_4) (fun _ _ => ⟨rfl, e3, (by decide : 0 + 0 ≤ _), (by decide : 0 + 0 ≤ _)⟩)
  dsimp only [Pt.U, Pt.locs, Pt.cells, Pt.slots] at X4 l4 y4 z4 st4 hQ4
  subst l4 y4 z4
  obtain ⟨rfl, N4q, e4⟩ := hQ4      -- what it returned, that it wrote nothing old, and the rest of your Q3
  have N4 := Fr.app N0 N4q
  obtain ⟨fs, hr, hrun, hended, hW, hsame⟩ := X4.leave (v := some (.int (400 : Int32))) (fun h => by rw [Bd.returns] at h; cases h)
  refine ⟨_, _, pre0 _ ?_, hrun, hended, _, _, rfl, ?_, ⟨_, rfl⟩, hW, hsame.mono (by decide) (by decide)⟩
  · show Steps p.tables e below (s₁.setTop (mkF m 0 #[.val (.ref a1)] [])) _
    refine st3 _ ?_
    show Steps p.tables e below (T3.setTop (mkF m 3 #[.val (.ref a1)] [(.ref w2)])) _
    refine XS.aloadN X3.here hx rfl (hb hby d2_3) rfl rfl ?_
    show Steps p.tables e below (T3.setTop (mkF m 4 #[.val (.ref a1)] [(.ref a1), (.ref w2)])) _
    refine st4.trans ?_
    show Steps p.tables e below (T4.setTop (mkF m 7 #[.val (.ref a1)] [(.int od), (.ref w2)])) _
    refine X4.iaload hx (j := od) (v := (.int (0 : Int32))) (by rw [e4]; exact Ar_w2.1) (State.isArrayOf_alike hZ.alike Ar_w2.2.1) Ar_w2.2.2 hin7 hat7 (g := (mkF m 7 #[.val (.ref a1)] [(.int od), (.ref w2)])) rfl rfl (hb hby d2_7) _ ?_
    show Steps p.tables e below (T4.setTop (mkF m 8 #[.val (.ref a1)] [(.int (0 : Int32))])) _
    refine X4.tableswitchOut hx (g := (mkF m 8 #[.val (.ref a1)] [(.int (0 : Int32))])) rfl (k := (0 : Int32)) (rest := []) rfl (hb hby d2_8) (by decide) (by show (0 : Int) ≤ ((8 : Nat) : Int) + 50; decide) _ ?_
    show Steps p.tables e below (T4.setTop (mkF m 58 #[.val (.ref a1)] [])) _
    refine XS.sipush X4.here hx rfl (hb hby d2_58) ?_
    show Steps p.tables e below (T4.setTop (mkF m 61 #[.val (.ref a1)] [(.int (400 : Int32))])) _
    exact retI X4 hx Bd.returns (hb hby d2_61) hr
  · show Q2 (400 : Int32) h0 n0 _ T4.heap _
    exact ⟨rfl, N4, e4⟩
theorem own_rm1 (l : Launch) (Z : State) (a0 : Array Value) (hw : ∀ d ∈ tables_1, d.before a0 Z = true) (ws : List Jvm.Cond) (w : Nat → Addr) (k : Nat) (hk : k < 16) (h0 : Heap) (n0 : Nat) (Z0 : n0 ≤ h0.size) (S_INVALID_CLIENT : Sta Z h0 "com/example/grantline/grantline/authz/OauthError" "INVALID_CLIENT" "Lcom/example/grantline/grantline/authz/OauthError;" (.ref (w 1))) (S_INVALID_TOKEN : Sta Z h0 "com/example/grantline/grantline/authz/OauthError" "INVALID_TOKEN" "Lcom/example/grantline/grantline/authz/OauthError;" (.ref (w 14))) (S_INSUFFICIENT_SCOPE : Sta Z h0 "com/example/grantline/grantline/authz/OauthError" "INSUFFICIENT_SCOPE" "Lcom/example/grantline/grantline/authz/OauthError;" (.ref (w 15))) (S_TEMPORARILY_UNAVAILABLE : Sta Z h0 "com/example/grantline/grantline/authz/OauthError" "TEMPORARILY_UNAVAILABLE" "Lcom/example/grantline/grantline/authz/OauthError;" (.ref (w 13))) (inj : ∀ i j, i < 16 → j < 16 → w i = w j → i = j) :
    MetFree l (⟨"com/example/grantline/grantline/server/ClientRequestsStatusOfPinLaw", "expectedStatus", "(Lcom/example/grantline/grantline/authz/OauthError;)I"⟩ : MethodName) (head1 (Jvm.Cond.code (⟨"com/example/grantline/grantline/server/ClientRequestsStatusOfPinLaw", "expectedStatus", "(Lcom/example/grantline/grantline/authz/OauthError;)I"⟩ : MethodName) method_3_code 1 (some .int) :: ws) ({ frames := 0, cells := 0, slots := 0, locals := 0 } : Room)) (fun a U => a = #[(.ref (w k))] ∧ Z.Warmed39 U.vm ∧ U.heap = h0) (fun _ _ _ _ _ => True) (fun _ U o U' => ∃ v L, o = .returned v ∧ Q2 (own_exp k) h0 n0 v U'.heap L ∧ FrameEnd U o U' L ({ frames := 0, cells := 0, slots := 0, locals := 0 } : Room).cells ({ frames := 0, cells := 0, slots := 0, locals := 0 } : Room).slots) := by
  by_cases k1 : k = 1
  · subst k1; exact rm1_f l Z a0 hw ws _ _ h0 n0 Z0 S_INVALID_CLIENT rfl
  by_cases k2 : k = 14
  · subst k2; exact rm1_tf l Z a0 hw ws _ _ _ h0 n0 Z0 S_INVALID_CLIENT S_INVALID_TOKEN (fun q => by have := inj _ _ (by decide) (by decide) q; omega) rfl
  by_cases k3 : k = 15
  · subst k3; exact rm1_ttf l Z a0 hw ws _ _ _ _ h0 n0 Z0 S_INVALID_CLIENT S_INVALID_TOKEN S_INSUFFICIENT_SCOPE (fun q => by have := inj _ _ (by decide) (by decide) q; omega) (fun q => by have := inj _ _ (by decide) (by decide) q; omega) rfl
  by_cases k4 : k = 13
  · subst k4; exact rm1_tttf l Z a0 hw ws _ _ _ _ _ h0 n0 Z0 S_INVALID_CLIENT S_INVALID_TOKEN S_INSUFFICIENT_SCOPE S_TEMPORARILY_UNAVAILABLE (fun q => by have := inj _ _ (by decide) (by decide) q; omega) (fun q => by have := inj _ _ (by decide) (by decide) q; omega) (fun q => by have := inj _ _ (by decide) (by decide) q; omega) rfl
  have e : own_exp k = 400 := by simp [own_exp, k1, k2, k3, k4]
  rw [e]
  exact rm1_tttt l Z a0 hw ws _ _ _ _ _ h0 n0 Z0 S_INVALID_CLIENT S_INVALID_TOKEN S_INSUFFICIENT_SCOPE S_TEMPORARILY_UNAVAILABLE (fun q => k1 (inj _ _ hk (by decide) q)) (fun q => k2 (inj _ _ hk (by decide) q)) (fun q => k3 (inj _ _ hk (by decide) q)) (fun q => k4 (inj _ _ hk (by decide) q))
theorem own_rm2 (l : Launch) (Z : State) (a0 : Array Value) (hw : ∀ d ∈ tables_1, d.before a0 Z = true) (ws : List Jvm.Cond) (w : Nat → Addr) (k : Nat) (hk : k < 16) (w2 : Addr) (cl_w2 : Cell) (od : Int32) (ho : od.toNatClampNeg = k) (h0 : Heap) (n0 : Nat) (Z0 : n0 ≤ h0.size) (S_map : Sta Z h0 "com/example/grantline/grantline/server/ClientRequests$1" "$SwitchMap$com$example$grantline$grantline$authz$OauthError" "[I" (.ref w2)) (E_a1 : Exa Z h0 (w k) "com/example/grantline/grantline/authz/OauthError") (F_od : Fld Z h0 (w k) "java/lang/Enum" "ordinal" "I" (.int od)) (Ar_w2 : Arr Z h0 w2 cl_w2 .int) (hin7 : ¬ (od < 0 ∨ cl_w2.slots.size ≤ od.toNatClampNeg)) (hat7 : cl_w2.slots[od.toNatClampNeg]? = some (.int (own_map k))) :
    MetFree l (⟨"com/example/grantline/grantline/server/ClientRequests", "statusOf", "(Lcom/example/grantline/grantline/authz/OauthError;)I"⟩ : MethodName) (head1 (Jvm.Cond.code (⟨"com/example/grantline/grantline/server/ClientRequests", "statusOf", "(Lcom/example/grantline/grantline/authz/OauthError;)I"⟩ : MethodName) prog_127_method_9_code 1 (some .int) :: ws) ({ frames := 1, cells := 0, slots := 0, locals := 13 } : Room)) (fun a U => a = #[(.ref (w k))] ∧ Z.Warmed39 U.vm ∧ U.heap = h0) (fun _ _ _ _ _ => True) (fun _ U o U' => ∃ v L, o = .returned v ∧ Q2 (own_exp k) h0 n0 v U'.heap L ∧ FrameEnd U o U' L ({ frames := 1, cells := 0, slots := 0, locals := 13 } : Room).cells ({ frames := 1, cells := 0, slots := 0, locals := 13 } : Room).slots) := by
  by_cases k1 : k = 1
  · subst k1; exact rm2_1 l Z a0 hw ws _ _ _ _ h0 n0 Z0 S_map E_a1 F_od Ar_w2 hin7 hat7
  by_cases k2 : k = 14
  · subst k2; exact rm2_2 l Z a0 hw ws _ _ _ _ h0 n0 Z0 S_map E_a1 F_od Ar_w2 hin7 hat7
  by_cases k3 : k = 15
  · subst k3; exact rm2_3 l Z a0 hw ws _ _ _ _ h0 n0 Z0 S_map E_a1 F_od Ar_w2 hin7 hat7
  by_cases k4 : k = 13
  · subst k4; exact rm2_4 l Z a0 hw ws _ _ _ _ h0 n0 Z0 S_map E_a1 F_od Ar_w2 hin7 hat7
  have e : own_exp k = 400 := by simp [own_exp, k1, k2, k3, k4]
  have e' : own_map k = 0 := by simp [own_map, k1, k2, k3, k4]
  rw [e]; rw [e'] at hat7
  exact rm2_0 l Z a0 hw ws _ _ _ _ h0 n0 Z0 S_map E_a1 F_od Ar_w2 hin7 hat7
def Q0 (Z : State) (p1 : Int32) (h0 : Heap) (n0 : Nat) (v : Option Value) (h : Heap) (L : List Loc) : Prop := v = some (.int (1 : Int32)) ∧ Fr n0 L
theorem own_m0 (x : Int32) : ¬ (x &&& (15 : Int32)) < 0 := by
  have h := c_mask x 15 4 (by decide) (by decide)
  rw [Int32.lt_iff_toInt_lt, h]
  have e0 : (0 : Int32).toInt = 0 := by decide
  rw [e0]; omega
theorem own_m16 (x : Int32) : (x &&& (15 : Int32)).toNatClampNeg < 16 := by
  have h := c_mask x 15 4 (by decide) (by decide)
  simp only [Int32.toNatClampNeg, h]
  omega
theorem own_ord {args : Array Value} {s : State} {t : Term} {x : Addr} {C n dd : String} {k : Int32} (ht : t.eval args s none [] s = some (.ref x)) (h : (Jvm.Cond.eq (.field t C n dd) (.int k)).value args s none s [] = some true) : s.fieldOf? x C n dd = some (.int k) :=
  (fld_at ht).symm.trans (eqv_i (Term.int_eval k) h)
theorem own_fld {Z : State} {h : Heap} {a : Addr} {C n dd : String} {v v' : Value} (F : Fld Z h a C n dd v) (G : Fld Z h a C n dd v') : v = v' := by
  obtain ⟨c1, cf, k, i, f, h1, h2, -, -, -, -, h7⟩ := F
  obtain ⟨c2, cf', k', i', f', g1, g2, -, -, -, -, g7⟩ := G
  cases h1.symm.trans g1
  cases h2.symm.trans g2
  exact Option.some.inj (h7.symm.trans g7)
theorem own_mid {args : Array Value} {s : State} {C n dd : String} {x : Addr} {cl : Cell} (hf : Fit s) (et : (Term.static C n dd).eval args s none [] s = some (.ref x)) (A : Arr s s.heap x cl .int)
    (h : (Jvm.Cond.all (.static C n dd) (.or (.lt (.index 0) (.int 2)) (.or (.le (.int 13) (.index 0)) (.eq (.elem (.static C n dd) (.index 0)) (.int 0))))).value args s none s [] = some true) (j : Int32) (h0 : ¬ j < 0) (h2 : ¬ j < 2) (h13 : j < 13) (hs : j.toNatClampNeg < cl.slots.size) : cl.slots[j.toNatClampNeg]? = some (.int 0) := by
  have et' : ∀ idx, (Term.static C n dd).eval args s none idx s = some (.ref x) := fun _ => et
  have hAt := A.fin (Vm.Alike.refl _)
  have hb := Cond.all_elim et hAt h j.toNatClampNeg hs
  obtain ⟨v, e1, e2⟩ := elem_fit hf A (j := j) (fun q => q.elim h0 fun q => absurd q (Nat.not_le.mpr hs))
  obtain ⟨z, rfl⟩ := fit_I e2 (Or.inl rfl)
  have el : (Term.elem (.static C n dd) (.index 0)).eval args s none [j.toNatClampNeg] s = some (.int z) := (elem_f (et' _) (idx_at h0) hAt h0).trans e1
  rcases or3 hb (Cond.lt_ints (idx_at h0) (Term.int_eval 2)) (Cond.le_ints (Term.int_eval 13) (idx_at h0)) (Cond.eq_ints el (Term.int_eval 0)) with q | q | q
  · exact absurd q h2
  · exact absurd h13 q
  · rw [e1, q]
theorem pn_0 : plainName "com/example/grantline/grantline/server/ClientRequestsStatusOfPinLaw" = true := by first | (simp [plainName, overriddenIn]; done) | decide +kernel
theorem pd_0_0 : parseMethodDescriptor "(Lcom/example/grantline/grantline/authz/OauthError;)I" = some ⟨[(.object "com/example/grantline/grantline/authz/OauthError")], some .int⟩ := by decide +kernel
theorem ef_0 (m : MethodId) (x0 : Int32) : entryFrame m #[(.int x0)] maxLocals = mkF m 0 #[.val (.int x0), .unset, .unset, .unset, .unset] [] := by first | (simp [entryFrame, mkF, argsToLocals, Value.category, maxLocals]; done) | rfl
-- its room: frames: the greatest, locals: the greatest, cells 1 + .., slots 16 + ..: rm1: frames + 1; locals 0 + 1 + 11 + its room's locals; its cells and slots besides; rm2: frames + 1; locals 0 + 1 + 11 + its room's locals; its cells and slots besides
set_option maxRecDepth 65536 in
set_option maxHeartbeats 40000000 in
theorem rm0 (l : Launch) (Z : State) (a0 : Array Value) (hw : ∀ d ∈ tables_1, d.before a0 Z = true) (ws : List Jvm.Cond) (p1 : Int32) (w : Nat → Addr) (sm : Addr) (cl_sm : Cell) (h0 : Heap) (n0 : Nat) (Z0 : n0 ≤ h0.size) (S_INVALID_REQUEST : Sta Z h0 "com/example/grantline/grantline/authz/OauthError" "INVALID_REQUEST" "Lcom/example/grantline/grantline/authz/OauthError;" (.ref (w 0))) (S_INVALID_CLIENT : Sta Z h0 "com/example/grantline/grantline/authz/OauthError" "INVALID_CLIENT" "Lcom/example/grantline/grantline/authz/OauthError;" (.ref (w 1))) (S_INVALID_GRANT : Sta Z h0 "com/example/grantline/grantline/authz/OauthError" "INVALID_GRANT" "Lcom/example/grantline/grantline/authz/OauthError;" (.ref (w 2))) (S_UNAUTHORIZED_CLIENT : Sta Z h0 "com/example/grantline/grantline/authz/OauthError" "UNAUTHORIZED_CLIENT" "Lcom/example/grantline/grantline/authz/OauthError;" (.ref (w 3))) (S_UNSUPPORTED_GRANT_TYPE : Sta Z h0 "com/example/grantline/grantline/authz/OauthError" "UNSUPPORTED_GRANT_TYPE" "Lcom/example/grantline/grantline/authz/OauthError;" (.ref (w 4))) (S_UNSUPPORTED_RESPONSE_TYPE : Sta Z h0 "com/example/grantline/grantline/authz/OauthError" "UNSUPPORTED_RESPONSE_TYPE" "Lcom/example/grantline/grantline/authz/OauthError;" (.ref (w 5))) (S_INVALID_SCOPE : Sta Z h0 "com/example/grantline/grantline/authz/OauthError" "INVALID_SCOPE" "Lcom/example/grantline/grantline/authz/OauthError;" (.ref (w 6))) (S_ACCESS_DENIED : Sta Z h0 "com/example/grantline/grantline/authz/OauthError" "ACCESS_DENIED" "Lcom/example/grantline/grantline/authz/OauthError;" (.ref (w 7))) (S_LOGIN_REQUIRED : Sta Z h0 "com/example/grantline/grantline/authz/OauthError" "LOGIN_REQUIRED" "Lcom/example/grantline/grantline/authz/OauthError;" (.ref (w 8))) (S_CONSENT_REQUIRED : Sta Z h0 "com/example/grantline/grantline/authz/OauthError" "CONSENT_REQUIRED" "Lcom/example/grantline/grantline/authz/OauthError;" (.ref (w 9))) (S_AUTHORIZATION_PENDING : Sta Z h0 "com/example/grantline/grantline/authz/OauthError" "AUTHORIZATION_PENDING" "Lcom/example/grantline/grantline/authz/OauthError;" (.ref (w 10))) (S_SLOW_DOWN : Sta Z h0 "com/example/grantline/grantline/authz/OauthError" "SLOW_DOWN" "Lcom/example/grantline/grantline/authz/OauthError;" (.ref (w 11))) (S_EXPIRED_TOKEN : Sta Z h0 "com/example/grantline/grantline/authz/OauthError" "EXPIRED_TOKEN" "Lcom/example/grantline/grantline/authz/OauthError;" (.ref (w 12))) (S_TEMPORARILY_UNAVAILABLE : Sta Z h0 "com/example/grantline/grantline/authz/OauthError" "TEMPORARILY_UNAVAILABLE" "Lcom/example/grantline/grantline/authz/OauthError;" (.ref (w 13))) (S_INVALID_TOKEN : Sta Z h0 "com/example/grantline/grantline/authz/OauthError" "INVALID_TOKEN" "Lcom/example/grantline/grantline/authz/OauthError;" (.ref (w 14))) (S_INSUFFICIENT_SCOPE : Sta Z h0 "com/example/grantline/grantline/authz/OauthError" "INSUFFICIENT_SCOPE" "Lcom/example/grantline/grantline/authz/OauthError;" (.ref (w 15))) (inj : ∀ i j, i < 16 → j < 16 → w i = w j → i = j) (EW : ∀ k, k < 16 → Exa Z h0 (w k) "com/example/grantline/grantline/authz/OauthError") (FW : ∀ k, k < 16 → ∀ od : Int32, ¬ od < 0 → od.toNatClampNeg = k → Fld Z h0 (w k) "java/lang/Enum" "ordinal" "I" (.int od)) (S_map : Sta Z h0 "com/example/grantline/grantline/server/ClientRequests$1" "$SwitchMap$com$example$grantline$grantline$authz$OauthError" "[I" (.ref sm)) (Ar_sm : Arr Z h0 sm cl_sm .int) (hsz : 16 ≤ cl_sm.slots.size) (hat : ∀ k, k < 16 → cl_sm.slots[k]? = some (.int (own_map k))) :
    MetFree l x (head1 (Jvm.Cond.code x code maxLocals ret :: ws) room_1) (fun a U => a = #[(.int p1)] ∧ Z.Warmed39 U.vm ∧ U.heap = h0) (fun _ _ _ _ _ => True) (fun _ U o U' => ∃ v L, o = .returned v ∧ Q0 Z p1 h0 n0 v U'.heap L ∧ FrameEnd U o U' L room_1.cells room_1.slots) := by
  refine MetFree.of_bodySF (plainFor_of_name pn_0) hisR ?_
  intro p e s m args below meth c s₁ Bd hml0 hP hK
  obtain ⟨rfl, hZ, hh⟩ := hP
  have hx := Bd.exec
  have hby := Bd.bytes
  have hml : c.maxLocals = 5 := hml0
  have hown : s.vm.findClass "com/example/grantline/grantline/server/ClientRequestsStatusOfPinLaw" = some m.cls := findClass_of_methodNamed Bd.named
  have hnm := (name_of_methodNamed Bd.named Bd.method).1
  have X0 : Stand p l e room_1 s m #[(.int p1)] below meth c s₁ [] 0 0 := Stand.of_body Bd
  have e0 : s₁.heap = h0 := by rw [← hh, Bd.state]; rfl
  have N0 := Fr.nil n0
  have pre0 : ∀ t, Steps p.tables e below (s₁.setTop (mkF m 0 #[.val (.int p1), .unset, .unset, .unset, .unset] [])) t → Steps p.tables e below (s₁.setTop (entryFrame m #[(.int p1)] maxLocals)) t := fun t k => castTop (ef_0 m p1) k
  -- 3. LAWS
  obtain ⟨T2, h2, k2, X2, e2, E2, A2, O2, st2⟩ := newR X0 hx hZ hown (hw _ (List.mem_of_getElem? (i := 0) rfl)) (hw _ (List.mem_of_getElem? (i := 1) rfl)) e0 (g := (mkF m 2 #[.val (.int p1), .unset, .unset, .unset, .unset] [(.int (16 : Int32))])) rfl (hb hby at_2) rfl (by decide) (cap := 16) (by decide) (by decide) (by decide) (by decide)
  obtain ⟨b2, g2⟩ : ∃ z, z = h0.size := ⟨_, rfl⟩      -- the fresh array's address
  rw [← g2] at A2 st2
  have V_b2 := Arv.new A2 (by decide)      -- Arv Z h2 b2 k2 (.object "com/example/grantline/grantline/authz/OauthError") (16 : Int32) [] .null; O2: what may lie in it (Sto.ofV)
  have V0 : Arv Z h2 b2 k2 (.object "com/example/grantline/grantline/authz/OauthError") (16 : Int32) (List.replicate 16 .null) .null := V_b2.pad (pad_rep [] .null 16)
  have g_b2 : n0 ≤ b2 := Nat.le_trans Z0 (Nat.le_of_eq g2.symm)
  have sz_b2 : h0.size ≤ b2 := (Nat.le_trans (Keep.refl h0 []).1 (Nat.le_of_eq g2.symm))
  have K2 : Keep h0 h2 [] := (Keep.refl h0 []).ext E2
  obtain ⟨T4, X4, e4, st4⟩ := getS2 X2 hx hZ hown (host := "") (Or.inl (hw _ (List.mem_of_getElem? (i := 2) rfl))) Via.refl e2 (own_sta S_INVALID_REQUEST K2) (g := (mkF m 7 #[.val (.int p1), .unset, .unset, .unset, .unset] [(.int (0 : Int32)), (.ref b2), (.ref b2)])) rfl (hb hby at_7)
  obtain ⟨cl0, Ar0, q0, Sz0, M0, H0, U0⟩ := V0
  have hin0 : ¬ ((0 : Int32) < 0 ∨ cl0.slots.size ≤ (0 : Int32).toNatClampNeg) := inb_of Sz0 (by decide)
  obtain ⟨T5, h5, X5, e5, W5, st5⟩ := stR X4 hx hZ e4 Ar0 (j := (0 : Int32)) hin0 rfl (Sto.ofV Ar0 q0 O2 (Ins.self ((EW 0 (by decide)).keep K2))) (g := (mkF m 10 #[.val (.int p1), .unset, .unset, .unset, .unset] [(.ref (w 0)), (.int (0 : Int32)), (.ref b2), (.ref b2)])) rfl rfl (hb hby at_10)
  have V1 := Arv.set Ar0 q0 Sz0 M0 H0 U0 (v := .ref (w 0)) rfl W5 0 rfl (by simp)
  have N5 := Fr.snoc X5 N0 g_b2
  have K5 : Keep h0 h5 [] := K2.wr W5 (Or.inr sz_b2)
  obtain ⟨T7, X7, e7, st7⟩ := getS2 X5 hx hZ hown (host := "") (Or.inl (hw _ (List.mem_of_getElem? (i := 6) rfl))) Via.refl e5 (own_sta S_INVALID_CLIENT K5) (g := (mkF m 13 #[.val (.int p1), .unset, .unset, .unset, .unset] [(.int (1 : Int32)), (.ref b2), (.ref b2)])) rfl (hb hby at_13)
  obtain ⟨cl1, Ar1, q1, Sz1, M1, H1, U1⟩ := V1
  have hin1 : ¬ ((1 : Int32) < 0 ∨ cl1.slots.size ≤ (1 : Int32).toNatClampNeg) := inb_of Sz1 (by decide)
  obtain ⟨T8, h8, X8, e8, W8, st8⟩ := stR X7 hx hZ e7 Ar1 (j := (1 : Int32)) hin1 rfl (Sto.ofV Ar1 q1 O2 (Ins.self ((EW 1 (by decide)).keep K5))) (g := (mkF m 16 #[.val (.int p1), .unset, .unset, .unset, .unset] [(.ref (w 1)), (.int (1 : Int32)), (.ref b2), (.ref b2)])) rfl rfl (hb hby at_16)
  have V2 := Arv.set Ar1 q1 Sz1 M1 H1 U1 (v := .ref (w 1)) rfl W8 1 rfl (by simp)
  have N8 := Fr.snoc X8 N5 g_b2
  have K8 : Keep h0 h8 [] := K5.wr W8 (Or.inr sz_b2)
  obtain ⟨T10, X10, e10, st10⟩ := getS2 X8 hx hZ hown (host := "") (Or.inl (hw _ (List.mem_of_getElem? (i := 8) rfl))) Via.refl e8 (own_sta S_INVALID_GRANT K8) (g := (mkF m 19 #[.val (.int p1), .unset, .unset, .unset, .unset] [(.int (2 : Int32)), (.ref b2), (.ref b2)])) rfl (hb hby at_19)
  obtain ⟨cl2, Ar2, q2, Sz2, M2, H2, U2⟩ := V2
  have hin2 : ¬ ((2 : Int32) < 0 ∨ cl2.slots.size ≤ (2 : Int32).toNatClampNeg) := inb_of Sz2 (by decide)
  obtain ⟨T11, h11, X11, e11, W11, st11⟩ := stR X10 hx hZ e10 Ar2 (j := (2 : Int32)) hin2 rfl (Sto.ofV Ar2 q2 O2 (Ins.self ((EW 2 (by decide)).keep K8))) (g := (mkF m 22 #[.val (.int p1), .unset, .unset, .unset, .unset] [(.ref (w 2)), (.int (2 : Int32)), (.ref b2), (.ref b2)])) rfl rfl (hb hby at_22)
  have V3 := Arv.set Ar2 q2 Sz2 M2 H2 U2 (v := .ref (w 2)) rfl W11 2 rfl (by simp)
  have N11 := Fr.snoc X11 N8 g_b2
  have K11 : Keep h0 h11 [] := K8.wr W11 (Or.inr sz_b2)
  obtain ⟨T13, X13, e13, st13⟩ := getS2 X11 hx hZ hown (host := "") (Or.inl (hw _ (List.mem_of_getElem? (i := 10) rfl))) Via.refl e11 (own_sta S_UNAUTHORIZED_CLIENT K11) (g := (mkF m 25 #[.val (.int p1), .unset, .unset, .unset, .unset] [(.int (3 : Int32)), (.ref b2), (.ref b2)])) rfl (hb hby at_25)
  obtain ⟨cl3, Ar3, q3, Sz3, M3, H3, U3⟩ := V3
  have hin3 : ¬ ((3 : Int32) < 0 ∨ cl3.slots.size ≤ (3 : Int32).toNatClampNeg) := inb_of Sz3 (by decide)
  obtain ⟨T14, h14, X14, e14, W14, st14⟩ := stR X13 hx hZ e13 Ar3 (j := (3 : Int32)) hin3 rfl (Sto.ofV Ar3 q3 O2 (Ins.self ((EW 3 (by decide)).keep K11))) (g := (mkF m 28 #[.val (.int p1), .unset, .unset, .unset, .unset] [(.ref (w 3)), (.int (3 : Int32)), (.ref b2), (.ref b2)])) rfl rfl (hb hby at_28)
  have V4 := Arv.set Ar3 q3 Sz3 M3 H3 U3 (v := .ref (w 3)) rfl W14 3 rfl (by simp)
  have N14 := Fr.snoc X14 N11 g_b2
  have K14 : Keep h0 h14 [] := K11.wr W14 (Or.inr sz_b2)
  obtain ⟨T16, X16, e16, st16⟩ := getS2 X14 hx hZ hown (host := "") (Or.inl (hw _ (List.mem_of_getElem? (i := 12) rfl))) Via.refl e14 (own_sta S_UNSUPPORTED_GRANT_TYPE K14) (g := (mkF m 31 #[.val (.int p1), .unset, .unset, .unset, .unset] [(.int (4 : Int32)), (.ref b2), (.ref b2)])) rfl (hb hby at_31)
  obtain ⟨cl4, Ar4, q4, Sz4, M4, H4, U4⟩ := V4
  have hin4 : ¬ ((4 : Int32) < 0 ∨ cl4.slots.size ≤ (4 : Int32).toNatClampNeg) := inb_of Sz4 (by decide)
  obtain ⟨T17, h17, X17, e17, W17, st17⟩ := stR X16 hx hZ e16 Ar4 (j := (4 : Int32)) hin4 rfl (Sto.ofV Ar4 q4 O2 (Ins.self ((EW 4 (by decide)).keep K14))) (g := (mkF m 34 #[.val (.int p1), .unset, .unset, .unset, .unset] [(.ref (w 4)), (.int (4 : Int32)), (.ref b2), (.ref b2)])) rfl rfl (hb hby at_34)
  have V5 := Arv.set Ar4 q4 Sz4 M4 H4 U4 (v := .ref (w 4)) rfl W17 4 rfl (by simp)
  have N17 := Fr.snoc X17 N14 g_b2
  have K17 : Keep h0 h17 [] := K14.wr W17 (Or.inr sz_b2)
  obtain ⟨T19, X19, e19, st19⟩ := getS2 X17 hx hZ hown (host := "") (Or.inl (hw _ (List.mem_of_getElem? (i := 14) rfl))) Via.refl e17 (own_sta S_UNSUPPORTED_RESPONSE_TYPE K17) (g := (mkF m 37 #[.val (.int p1), .unset, .unset, .unset, .unset] [(.int (5 : Int32)), (.ref b2), (.ref b2)])) rfl (hb hby at_37)
  obtain ⟨cl5, Ar5, q5, Sz5, M5, H5, U5⟩ := V5
  have hin5 : ¬ ((5 : Int32) < 0 ∨ cl5.slots.size ≤ (5 : Int32).toNatClampNeg) := inb_of Sz5 (by decide)
  obtain ⟨T20, h20, X20, e20, W20, st20⟩ := stR X19 hx hZ e19 Ar5 (j := (5 : Int32)) hin5 rfl (Sto.ofV Ar5 q5 O2 (Ins.self ((EW 5 (by decide)).keep K17))) (g := (mkF m 40 #[.val (.int p1), .unset, .unset, .unset, .unset] [(.ref (w 5)), (.int (5 : Int32)), (.ref b2), (.ref b2)])) rfl rfl (hb hby at_40)
  have V6 := Arv.set Ar5 q5 Sz5 M5 H5 U5 (v := .ref (w 5)) rfl W20 5 rfl (by simp)
  have N20 := Fr.snoc X20 N17 g_b2
  have K20 : Keep h0 h20 [] := K17.wr W20 (Or.inr sz_b2)
  obtain ⟨T22, X22, e22, st22⟩ := getS2 X20 hx hZ hown (host := "") (Or.inl (hw _ (List.mem_of_getElem? (i := 16) rfl))) Via.refl e20 (own_sta S_INVALID_SCOPE K20) (g := (mkF m 44 #[.val (.int p1), .unset, .unset, .unset, .unset] [(.int (6 : Int32)), (.ref b2), (.ref b2)])) rfl (hb hby at_44)
  obtain ⟨cl6, Ar6, q6, Sz6, M6, H6, U6⟩ := V6
  have hin6 : ¬ ((6 : Int32) < 0 ∨ cl6.slots.size ≤ (6 : Int32).toNatClampNeg) := inb_of Sz6 (by decide)
  obtain ⟨T23, h23, X23, e23, W23, st23⟩ := stR X22 hx hZ e22 Ar6 (j := (6 : Int32)) hin6 rfl (Sto.ofV Ar6 q6 O2 (Ins.self ((EW 6 (by decide)).keep K20))) (g := (mkF m 47 #[.val (.int p1), .unset, .unset, .unset, .unset] [(.ref (w 6)), (.int (6 : Int32)), (.ref b2), (.ref b2)])) rfl rfl (hb hby at_47)
  have V7 := Arv.set Ar6 q6 Sz6 M6 H6 U6 (v := .ref (w 6)) rfl W23 6 rfl (by simp)
  have N23 := Fr.snoc X23 N20 g_b2
  have K23 : Keep h0 h23 [] := K20.wr W23 (Or.inr sz_b2)
  obtain ⟨T25, X25, e25, st25⟩ := getS2 X23 hx hZ hown (host := "") (Or.inl (hw _ (List.mem_of_getElem? (i := 18) rfl))) Via.refl e23 (own_sta S_ACCESS_DENIED K23) (g := (mkF m 51 #[.val (.int p1), .unset, .unset, .unset, .unset] [(.int (7 : Int32)), (.ref b2), (.ref b2)])) rfl (hb hby at_51)
  obtain ⟨cl7, Ar7, q7, Sz7, M7, H7, U7⟩ := V7
  have hin7 : ¬ ((7 : Int32) < 0 ∨ cl7.slots.size ≤ (7 : Int32).toNatClampNeg) := inb_of Sz7 (by decide)
  obtain ⟨T26, h26, X26, e26, W26, st26⟩ := stR X25 hx hZ e25 Ar7 (j := (7 : Int32)) hin7 rfl (Sto.ofV Ar7 q7 O2 (Ins.self ((EW 7 (by decide)).keep K23))) (g := (mkF m 54 #[.val (.int p1), .unset, .unset, .unset, .unset] [(.ref (w 7)), (.int (7 : Int32)), (.ref b2), (.ref b2)])) rfl rfl (hb hby at_54)
  have V8 := Arv.set Ar7 q7 Sz7 M7 H7 U7 (v := .ref (w 7)) rfl W26 7 rfl (by simp)
  have N26 := Fr.snoc X26 N23 g_b2
  have K26 : Keep h0 h26 [] := K23.wr W26 (Or.inr sz_b2)
  obtain ⟨T28, X28, e28, st28⟩ := getS2 X26 hx hZ hown (host := "") (Or.inl (hw _ (List.mem_of_getElem? (i := 20) rfl))) Via.refl e26 (own_sta S_LOGIN_REQUIRED K26) (g := (mkF m 58 #[.val (.int p1), .unset, .unset, .unset, .unset] [(.int (8 : Int32)), (.ref b2), (.ref b2)])) rfl (hb hby at_58)
  obtain ⟨cl8, Ar8, q8, Sz8, M8, H8, U8⟩ := V8
  have hin8 : ¬ ((8 : Int32) < 0 ∨ cl8.slots.size ≤ (8 : Int32).toNatClampNeg) := inb_of Sz8 (by decide)
  obtain ⟨T29, h29, X29, e29, W29, st29⟩ := stR X28 hx hZ e28 Ar8 (j := (8 : Int32)) hin8 rfl (Sto.ofV Ar8 q8 O2 (Ins.self ((EW 8 (by decide)).keep K26))) (g := (mkF m 61 #[.val (.int p1), .unset, .unset, .unset, .unset] [(.ref (w 8)), (.int (8 : Int32)), (.ref b2), (.ref b2)])) rfl rfl (hb hby at_61)
  have V9 := Arv.set Ar8 q8 Sz8 M8 H8 U8 (v := .ref (w 8)) rfl W29 8 rfl (by simp)
  have N29 := Fr.snoc X29 N26 g_b2
  have K29 : Keep h0 h29 [] := K26.wr W29 (Or.inr sz_b2)
  obtain ⟨T31, X31, e31, st31⟩ := getS2 X29 hx hZ hown (host := "") (Or.inl (hw _ (List.mem_of_getElem? (i := 22) rfl))) Via.refl e29 (own_sta S_CONSENT_REQUIRED K29) (g := (mkF m 65 #[.val (.int p1), .unset, .unset, .unset, .unset] [(.int (9 : Int32)), (.ref b2), (.ref b2)])) rfl (hb hby at_65)
  obtain ⟨cl9, Ar9, q9, Sz9, M9, H9, U9⟩ := V9
  have hin9 : ¬ ((9 : Int32) < 0 ∨ cl9.slots.size ≤ (9 : Int32).toNatClampNeg) := inb_of Sz9 (by decide)
  obtain ⟨T32, h32, X32, e32, W32, st32⟩ := stR X31 hx hZ e31 Ar9 (j := (9 : Int32)) hin9 rfl (Sto.ofV Ar9 q9 O2 (Ins.self ((EW 9 (by decide)).keep K29))) (g := (mkF m 68 #[.val (.int p1), .unset, .unset, .unset, .unset] [(.ref (w 9)), (.int (9 : Int32)), (.ref b2), (.ref b2)])) rfl rfl (hb hby at_68)
  have V10 := Arv.set Ar9 q9 Sz9 M9 H9 U9 (v := .ref (w 9)) rfl W32 9 rfl (by simp)
  have N32 := Fr.snoc X32 N29 g_b2
  have K32 : Keep h0 h32 [] := K29.wr W32 (Or.inr sz_b2)
  obtain ⟨T34, X34, e34, st34⟩ := getS2 X32 hx hZ hown (host := "") (Or.inl (hw _ (List.mem_of_getElem? (i := 24) rfl))) Via.refl e32 (own_sta S_AUTHORIZATION_PENDING K32) (g := (mkF m 72 #[.val (.int p1), .unset, .unset, .unset, .unset] [(.int (10 : Int32)), (.ref b2), (.ref b2)])) rfl (hb hby at_72)
  obtain ⟨cl10, Ar10, q10, Sz10, M10, H10, U10⟩ := V10
  have hin10 : ¬ ((10 : Int32) < 0 ∨ cl10.slots.size ≤ (10 : Int32).toNatClampNeg) := inb_of Sz10 (by decide)
  obtain ⟨T35, h35, X35, e35, W35, st35⟩ := stR X34 hx hZ e34 Ar10 (j := (10 : Int32)) hin10 rfl (Sto.ofV Ar10 q10 O2 (Ins.self ((EW 10 (by decide)).keep K32))) (g := (mkF m 75 #[.val (.int p1), .unset, .unset, .unset, .unset] [(.ref (w 10)), (.int (10 : Int32)), (.ref b2), (.ref b2)])) rfl rfl (hb hby at_75)
  have V11 := Arv.set Ar10 q10 Sz10 M10 H10 U10 (v := .ref (w 10)) rfl W35 10 rfl (by simp)
  have N35 := Fr.snoc X35 N32 g_b2
  have K35 : Keep h0 h35 [] := K32.wr W35 (Or.inr sz_b2)
  obtain ⟨T37, X37, e37, st37⟩ := getS2 X35 hx hZ hown (host := "") (Or.inl (hw _ (List.mem_of_getElem? (i := 26) rfl))) Via.refl e35 (own_sta S_SLOW_DOWN K35) (g := (mkF m 79 #[.val (.int p1), .unset, .unset, .unset, .unset] [(.int (11 : Int32)), (.ref b2), (.ref b2)])) rfl (hb hby at_79)
  obtain ⟨cl11, Ar11, q11, Sz11, M11, H11, U11⟩ := V11
  have hin11 : ¬ ((11 : Int32) < 0 ∨ cl11.slots.size ≤ (11 : Int32).toNatClampNeg) := inb_of Sz11 (by decide)
  obtain ⟨T38, h38, X38, e38, W38, st38⟩ := stR X37 hx hZ e37 Ar11 (j := (11 : Int32)) hin11 rfl (Sto.ofV Ar11 q11 O2 (Ins.self ((EW 11 (by decide)).keep K35))) (g := (mkF m 82 #[.val (.int p1), .unset, .unset, .unset, .unset] [(.ref (w 11)), (.int (11 : Int32)), (.ref b2), (.ref b2)])) rfl rfl (hb hby at_82)
  have V12 := Arv.set Ar11 q11 Sz11 M11 H11 U11 (v := .ref (w 11)) rfl W38 11 rfl (by simp)
  have N38 := Fr.snoc X38 N35 g_b2
  have K38 : Keep h0 h38 [] := K35.wr W38 (Or.inr sz_b2)
  obtain ⟨T40, X40, e40, st40⟩ := getS2 X38 hx hZ hown (host := "") (Or.inl (hw _ (List.mem_of_getElem? (i := 28) rfl))) Via.refl e38 (own_sta S_EXPIRED_TOKEN K38) (g := (mkF m 86 #[.val (.int p1), .unset, .unset, .unset, .unset] [(.int (12 : Int32)), (.ref b2), (.ref b2)])) rfl (hb hby at_86)
  obtain ⟨cl12, Ar12, q12, Sz12, M12, H12, U12⟩ := V12
  have hin12 : ¬ ((12 : Int32) < 0 ∨ cl12.slots.size ≤ (12 : Int32).toNatClampNeg) := inb_of Sz12 (by decide)
  obtain ⟨T41, h41, X41, e41, W41, st41⟩ := stR X40 hx hZ e40 Ar12 (j := (12 : Int32)) hin12 rfl (Sto.ofV Ar12 q12 O2 (Ins.self ((EW 12 (by decide)).keep K38))) (g := (mkF m 89 #[.val (.int p1), .unset, .unset, .unset, .unset] [(.ref (w 12)), (.int (12 : Int32)), (.ref b2), (.ref b2)])) rfl rfl (hb hby at_89)
  have V13 := Arv.set Ar12 q12 Sz12 M12 H12 U12 (v := .ref (w 12)) rfl W41 12 rfl (by simp)
  have N41 := Fr.snoc X41 N38 g_b2
  have K41 : Keep h0 h41 [] := K38.wr W41 (Or.inr sz_b2)
  obtain ⟨T43, X43, e43, st43⟩ := getS2 X41 hx hZ hown (host := "") (Or.inl (hw _ (List.mem_of_getElem? (i := 30) rfl))) Via.refl e41 (own_sta S_TEMPORARILY_UNAVAILABLE K41) (g := (mkF m 93 #[.val (.int p1), .unset, .unset, .unset, .unset] [(.int (13 : Int32)), (.ref b2), (.ref b2)])) rfl (hb hby at_93)
  obtain ⟨cl13, Ar13, q13, Sz13, M13, H13, U13⟩ := V13
  have hin13 : ¬ ((13 : Int32) < 0 ∨ cl13.slots.size ≤ (13 : Int32).toNatClampNeg) := inb_of Sz13 (by decide)
  obtain ⟨T44, h44, X44, e44, W44, st44⟩ := stR X43 hx hZ e43 Ar13 (j := (13 : Int32)) hin13 rfl (Sto.ofV Ar13 q13 O2 (Ins.self ((EW 13 (by decide)).keep K41))) (g := (mkF m 96 #[.val (.int p1), .unset, .unset, .unset, .unset] [(.ref (w 13)), (.int (13 : Int32)), (.ref b2), (.ref b2)])) rfl rfl (hb hby at_96)
  have V14 := Arv.set Ar13 q13 Sz13 M13 H13 U13 (v := .ref (w 13)) rfl W44 13 rfl (by simp)
  have N44 := Fr.snoc X44 N41 g_b2
  have K44 : Keep h0 h44 [] := K41.wr W44 (Or.inr sz_b2)
  obtain ⟨T46, X46, e46, st46⟩ := getS2 X44 hx hZ hown (host := "") (Or.inl (hw _ (List.mem_of_getElem? (i := 32) rfl))) Via.refl e44 (own_sta S_INVALID_TOKEN K44) (g := (mkF m 100 #[.val (.int p1), .unset, .unset, .unset, .unset] [(.int (14 : Int32)), (.ref b2), (.ref b2)])) rfl (hb hby at_100)
  obtain ⟨cl14, Ar14, q14, Sz14, M14, H14, U14⟩ := V14
  have hin14 : ¬ ((14 : Int32) < 0 ∨ cl14.slots.size ≤ (14 : Int32).toNatClampNeg) := inb_of Sz14 (by decide)
  obtain ⟨T47, h47, X47, e47, W47, st47⟩ := stR X46 hx hZ e46 Ar14 (j := (14 : Int32)) hin14 rfl (Sto.ofV Ar14 q14 O2 (Ins.self ((EW 14 (by decide)).keep K44))) (g := (mkF m 103 #[.val (.int p1), .unset, .unset, .unset, .unset] [(.ref (w 14)), (.int (14 : Int32)), (.ref b2), (.ref b2)])) rfl rfl (hb hby at_103)
  have V15 := Arv.set Ar14 q14 Sz14 M14 H14 U14 (v := .ref (w 14)) rfl W47 14 rfl (by simp)
  have N47 := Fr.snoc X47 N44 g_b2
  have K47 : Keep h0 h47 [] := K44.wr W47 (Or.inr sz_b2)
  obtain ⟨T49, X49, e49, st49⟩ := getS2 X47 hx hZ hown (host := "") (Or.inl (hw _ (List.mem_of_getElem? (i := 34) rfl))) Via.refl e47 (own_sta S_INSUFFICIENT_SCOPE K47) (g := (mkF m 107 #[.val (.int p1), .unset, .unset, .unset, .unset] [(.int (15 : Int32)), (.ref b2), (.ref b2)])) rfl (hb hby at_107)
  obtain ⟨cl15, Ar15, q15, Sz15, M15, H15, U15⟩ := V15
  have hin15 : ¬ ((15 : Int32) < 0 ∨ cl15.slots.size ≤ (15 : Int32).toNatClampNeg) := inb_of Sz15 (by decide)
  obtain ⟨T50, h50, X50, e50, W50, st50⟩ := stR X49 hx hZ e49 Ar15 (j := (15 : Int32)) hin15 rfl (Sto.ofV Ar15 q15 O2 (Ins.self ((EW 15 (by decide)).keep K47))) (g := (mkF m 110 #[.val (.int p1), .unset, .unset, .unset, .unset] [(.ref (w 15)), (.int (15 : Int32)), (.ref b2), (.ref b2)])) rfl rfl (hb hby at_110)
  have V16 := Arv.set Ar15 q15 Sz15 M15 H15 U15 (v := .ref (w 15)) rfl W50 15 rfl (by simp)
  have N50 := Fr.snoc X50 N47 g_b2
  have K50 : Keep h0 h50 [] := K47.wr W50 (Or.inr sz_b2)
  obtain ⟨k, hk⟩ : ∃ k, k = (p1 &&& (15 : Int32)).toNatClampNeg := ⟨_, rfl⟩
  have hk0 : ¬ (p1 &&& (15 : Int32)) < 0 := own_m0 p1
  have hk16 : k < 16 := hk ▸ own_m16 p1
  obtain ⟨cl, Ar_b2, -, Sz, -, H, -⟩ := V16
  have hin119 : ¬ ((p1 &&& (15 : Int32)) < 0 ∨ cl.slots.size ≤ (p1 &&& (15 : Int32)).toNatClampNeg) := by
    rw [Sz, ← hk]; rintro (q | q)
    · exact hk0 q
    · exact absurd q (Nat.not_le.mpr hk16)
  have hat119 : cl.slots[(p1 &&& (15 : Int32)).toNatClampNeg]? = some (.ref (w k)) := by
    refine H.at hin119 ?_
    rw [← hk]
    have G : ∀ i, i < 16 → ([.ref (w 0), .ref (w 1), .ref (w 2), .ref (w 3), .ref (w 4), .ref (w 5), .ref (w 6), .ref (w 7), .ref (w 8), .ref (w 9), .ref (w 10), .ref (w 11), .ref (w 12), .ref (w 13), .ref (w 14), .ref (w 15)] : List Value).getD i .null = .ref (w i) := by
      intro i hi
      match i, hi with
      | 0, _ => rfl
      | 1, _ => rfl
      | 2, _ => rfl
      | 3, _ => rfl
      | 4, _ => rfl
      | 5, _ => rfl
      | 6, _ => rfl
      | 7, _ => rfl
      | 8, _ => rfl
      | 9, _ => rfl
      | 10, _ => rfl
      | 11, _ => rfl
      | 12, _ => rfl
      | 13, _ => rfl
      | 14, _ => rfl
      | 15, _ => rfl
      | n + 16, h => exact absurd h (by omega)
    exact G k hk16
  have KK : Keep h0 h50 [] := K50
  have Zk : n0 ≤ h50.size := Nat.le_trans Z0 KK.1
  -- pc 122: com/example/grantline/grantline/server/ClientRequestsStatusOfPinLaw.expectedStatus by its contract rm1
  obtain ⟨_, _, ⟨T52, L52, k52, n52⟩, -, X52, ⟨Lc52, hQ52, l52, y52, z52⟩, st52⟩ := Jvm.LawKit.callS X50 hx (y := (⟨"com/example/grantline/grantline/server/ClientRequestsStatusOfPinLaw", "expectedStatus", "(Lcom/example/grantline/grantline/authz/OauthError;)I"⟩ : MethodName)) hown (mvT hZ (hw _ (List.mem_of_getElem? (i := 36) rfl))) (mvT hZ (hw _ (List.mem_of_getElem? (i := 37) rfl))) (mvT hZ (hw _ (List.mem_of_getElem? (i := 38) rfl))) (mvT hZ (hw _ (List.mem_of_getElem? (i := 39) rfl))) (by decide) (backOf (W := 0) (own_rm1 l Z a0 hw [] w k hk16 h50 n0 Zk (own_sta S_INVALID_CLIENT KK) (own_sta S_INVALID_TOKEN KK) (own_sta S_INSUFFICIENT_SCOPE KK) (own_sta S_TEMPORARILY_UNAVAILABLE KK) inj) hZ (hw _ (List.mem_of_getElem? (i := 39) rfl)) (hw _ (List.mem_of_getElem? (i := 38) rfl)) (by decide) (by decide)) (g := (mkF m 122 #[.val (.int p1), .val (.ref b2), .val (.int (p1 &&& (15 : Int32))), .val (.ref (w k)), .unset] [(.ref (w k))])) rfl (by rw [hml]; rfl) (argsL := [(.ref (w k))]) (rest := []) (lenOf pd_0_0 rfl) rfl (by show 2 * 0 + _ ≤ _; exact Nat.le_of_eq rfl) (hb hby at_122) (fun _ _ => ⟨rfl, e50, (by decide : 1 + 0 ≤ _), (by decide : 16 + 0 ≤ _)⟩)
  dsimp only [Pt.U, Pt.locs, Pt.cells, Pt.slots] at X52 l52 y52 z52 st52 hQ52
  subst l52 y52 z52
  obtain ⟨rfl, N52q, e52⟩ := hQ52      -- what it returned, that it wrote nothing old, and the rest of your Q1
  have N52 := Fr.app N50 N52q
  -- pc 128: com/example/grantline/grantline/server/ClientRequests.statusOf by its contract rm2
  obtain ⟨_, _, ⟨T53, L53, k53, n53⟩, -, X53, ⟨Lc53, hQ53, l53, y53, z53⟩, st53⟩ := Jvm.LawKit.callS X52 hx (y := (⟨"com/example/grantline/grantline/server/ClientRequests", "statusOf", "(Lcom/example/grantline/grantline/authz/OauthError;)I"⟩ : MethodName)) hown (mvT hZ (hw _ (List.mem_of_getElem? (i := 40) rfl))) (mvT hZ (hw _ (List.mem_of_getElem? (i := 41) rfl))) (mvT hZ (hw _ (List.mem_of_getElem? (i := 42) rfl))) (mvT hZ (hw _ (List.mem_of_getElem? (i := 43) rfl))) (by decide) (backOf (W := 0) (own_rm2 l Z a0 hw [] w k hk16 sm cl_sm (p1 &&& (15 : Int32)) hk.symm h50 n0 Zk (own_sta S_map KK) ((EW k hk16).keep KK) ((FW k hk16 _ hk0 hk.symm).keep KK (by simp)) (own_arr Ar_sm KK) (fun q => q.elim hk0 fun q => absurd (Nat.le_trans hsz q) (by rw [← hk]; omega)) (by rw [← hk]; exact hat k hk16)) hZ (hw _ (List.mem_of_getElem? (i := 43) rfl)) (hw _ (List.mem_of_getElem? (i := 42) rfl)) (by decide) (by decide)) (g := (mkF m 128 #[.val (.int p1), .val (.ref b2), .val (.int (p1 &&& (15 : Int32))), .val (.ref (w k)), .val (.int (own_exp k))] [(.ref (w k))])) rfl (by rw [hml]; rfl) (argsL := [(.ref (w k))]) (rest := []) (lenOf pd_0_0 rfl) rfl (by show 2 * 0 + _ ≤ _; exact Nat.le_of_eq rfl) (hb hby at_128) (fun _ _ => ⟨rfl, e52, (by decide : 1 + 0 ≤ _), (by decide : 16 + 0 ≤ _)⟩)
  dsimp only [Pt.U, Pt.locs, Pt.cells, Pt.slots] at X53 l53 y53 z53 st53 hQ53
  subst l53 y53 z53
  obtain ⟨rfl, N53q, e53⟩ := hQ53      -- what it returned, that it wrote nothing old, and the rest of your Q2
  have N53 := Fr.app N52 N53q
  obtain ⟨fs, hr, hrun, hended, hW, hsame⟩ := X53.leave (v := some (.int (1 : Int32))) (fun h => by rw [Bd.returns] at h; cases h)
  refine ⟨_, _, pre0 _ ?_, hrun, hended, _, _, rfl, ?_, ⟨_, rfl⟩, hW, hsame.mono (by decide) (by decide)⟩
  -- 4. STEPS
  · show Steps p.tables e below (s₁.setTop (mkF m 0 #[.val (.int p1), .unset, .unset, .unset, .unset] [])) _
    refine XS.bipush X0.here hx rfl (hb hby at_0) ?_
    show Steps p.tables e below (s₁.setTop (mkF m 2 #[.val (.int p1), .unset, .unset, .unset, .unset] [(.int (16 : Int32))])) _
    refine st2 _ ?_
    show Steps p.tables e below (T2.setTop (mkF m 5 #[.val (.int p1), .unset, .unset, .unset, .unset] [(.ref b2)])) _
    refine XS.dup X2.here hx rfl (hb hby at_5) rfl rfl ?_
    show Steps p.tables e below (T2.setTop (mkF m 6 #[.val (.int p1), .unset, .unset, .unset, .unset] [(.ref b2), (.ref b2)])) _
    refine XS.iconst X2.here hx rfl (hb hby at_6) ?_
    show Steps p.tables e below (T2.setTop (mkF m 7 #[.val (.int p1), .unset, .unset, .unset, .unset] [(.int (0 : Int32)), (.ref b2), (.ref b2)])) _
    refine st4 _ ?_
    show Steps p.tables e below (T4.setTop (mkF m 10 #[.val (.int p1), .unset, .unset, .unset, .unset] [(.ref (w 0)), (.int (0 : Int32)), (.ref b2), (.ref b2)])) _
    refine st5 _ ?_
    show Steps p.tables e below (T5.setTop (mkF m 11 #[.val (.int p1), .unset, .unset, .unset, .unset] [(.ref b2)])) _
    refine XS.dup X5.here hx rfl (hb hby at_11) rfl rfl ?_
    show Steps p.tables e below (T5.setTop (mkF m 12 #[.val (.int p1), .unset, .unset, .unset, .unset] [(.ref b2), (.ref b2)])) _
    refine XS.iconst X5.here hx rfl (hb hby at_12) ?_
    show Steps p.tables e below (T5.setTop (mkF m 13 #[.val (.int p1), .unset, .unset, .unset, .unset] [(.int (1 : Int32)), (.ref b2), (.ref b2)])) _
    refine st7 _ ?_
    show Steps p.tables e below (T7.setTop (mkF m 16 #[.val (.int p1), .unset, .unset, .unset, .unset] [(.ref (w 1)), (.int (1 : Int32)), (.ref b2), (.ref b2)])) _
    refine st8 _ ?_
    show Steps p.tables e below (T8.setTop (mkF m 17 #[.val (.int p1), .unset, .unset, .unset, .unset] [(.ref b2)])) _
    refine XS.dup X8.here hx rfl (hb hby at_17) rfl rfl ?_
    show Steps p.tables e below (T8.setTop (mkF m 18 #[.val (.int p1), .unset, .unset, .unset, .unset] [(.ref b2), (.ref b2)])) _
    refine XS.iconst X8.here hx rfl (hb hby at_18) ?_
    show Steps p.tables e below (T8.setTop (mkF m 19 #[.val (.int p1), .unset, .unset, .unset, .unset] [(.int (2 : Int32)), (.ref b2), (.ref b2)])) _
    refine st10 _ ?_
    show Steps p.tables e below (T10.setTop (mkF m 22 #[.val (.int p1), .unset, .unset, .unset, .unset] [(.ref (w 2)), (.int (2 : Int32)), (.ref b2), (.ref b2)])) _
    refine st11 _ ?_
    show Steps p.tables e below (T11.setTop (mkF m 23 #[.val (.int p1), .unset, .unset, .unset, .unset] [(.ref b2)])) _
    refine XS.dup X11.here hx rfl (hb hby at_23) rfl rfl ?_
    show Steps p.tables e below (T11.setTop (mkF m 24 #[.val (.int p1), .unset, .unset, .unset, .unset] [(.ref b2), (.ref b2)])) _
    refine XS.iconst X11.here hx rfl (hb hby at_24) ?_
    show Steps p.tables e below (T11.setTop (mkF m 25 #[.val (.int p1), .unset, .unset, .unset, .unset] [(.int (3 : Int32)), (.ref b2), (.ref b2)])) _
    refine st13 _ ?_
    show Steps p.tables e below (T13.setTop (mkF m 28 #[.val (.int p1), .unset, .unset, .unset, .unset] [(.ref (w 3)), (.int (3 : Int32)), (.ref b2), (.ref b2)])) _
    refine st14 _ ?_
    show Steps p.tables e below (T14.setTop (mkF m 29 #[.val (.int p1), .unset, .unset, .unset, .unset] [(.ref b2)])) _
    refine XS.dup X14.here hx rfl (hb hby at_29) rfl rfl ?_
    show Steps p.tables e below (T14.setTop (mkF m 30 #[.val (.int p1), .unset, .unset, .unset, .unset] [(.ref b2), (.ref b2)])) _
    refine XS.iconst X14.here hx rfl (hb hby at_30) ?_
    show Steps p.tables e below (T14.setTop (mkF m 31 #[.val (.int p1), .unset, .unset, .unset, .unset] [(.int (4 : Int32)), (.ref b2), (.ref b2)])) _
    refine st16 _ ?_
    show Steps p.tables e below (T16.setTop (mkF m 34 #[.val (.int p1), .unset, .unset, .unset, .unset] [(.ref (w 4)), (.int (4 : Int32)), (.ref b2), (.ref b2)])) _
    refine st17 _ ?_
    show Steps p.tables e below (T17.setTop (mkF m 35 #[.val (.int p1), .unset, .unset, .unset, .unset] [(.ref b2)])) _
    refine XS.dup X17.here hx rfl (hb hby at_35) rfl rfl ?_
    show Steps p.tables e below (T17.setTop (mkF m 36 #[.val (.int p1), .unset, .unset, .unset, .unset] [(.ref b2), (.ref b2)])) _
    refine XS.iconst X17.here hx rfl (hb hby at_36) ?_
    show Steps p.tables e below (T17.setTop (mkF m 37 #[.val (.int p1), .unset, .unset, .unset, .unset] [(.int (5 : Int32)), (.ref b2), (.ref b2)])) _
    refine st19 _ ?_
    show Steps p.tables e below (T19.setTop (mkF m 40 #[.val (.int p1), .unset, .unset, .unset, .unset] [(.ref (w 5)), (.int (5 : Int32)), (.ref b2), (.ref b2)])) _
    refine st20 _ ?_
    show Steps p.tables e below (T20.setTop (mkF m 41 #[.val (.int p1), .unset, .unset, .unset, .unset] [(.ref b2)])) _
    refine XS.dup X20.here hx rfl (hb hby at_41) rfl rfl ?_
    show Steps p.tables e below (T20.setTop (mkF m 42 #[.val (.int p1), .unset, .unset, .unset, .unset] [(.ref b2), (.ref b2)])) _
    refine XS.bipush X20.here hx rfl (hb hby at_42) ?_
    show Steps p.tables e below (T20.setTop (mkF m 44 #[.val (.int p1), .unset, .unset, .unset, .unset] [(.int (6 : Int32)), (.ref b2), (.ref b2)])) _
    refine st22 _ ?_
    show Steps p.tables e below (T22.setTop (mkF m 47 #[.val (.int p1), .unset, .unset, .unset, .unset] [(.ref (w 6)), (.int (6 : Int32)), (.ref b2), (.ref b2)])) _
    refine st23 _ ?_
    show Steps p.tables e below (T23.setTop (mkF m 48 #[.val (.int p1), .unset, .unset, .unset, .unset] [(.ref b2)])) _
    refine XS.dup X23.here hx rfl (hb hby at_48) rfl rfl ?_
    show Steps p.tables e below (T23.setTop (mkF m 49 #[.val (.int p1), .unset, .unset, .unset, .unset] [(.ref b2), (.ref b2)])) _
    refine XS.bipush X23.here hx rfl (hb hby at_49) ?_
    show Steps p.tables e below (T23.setTop (mkF m 51 #[.val (.int p1), .unset, .unset, .unset, .unset] [(.int (7 : Int32)), (.ref b2), (.ref b2)])) _
    refine st25 _ ?_
    show Steps p.tables e below (T25.setTop (mkF m 54 #[.val (.int p1), .unset, .unset, .unset, .unset] [(.ref (w 7)), (.int (7 : Int32)), (.ref b2), (.ref b2)])) _
    refine st26 _ ?_
    show Steps p.tables e below (T26.setTop (mkF m 55 #[.val (.int p1), .unset, .unset, .unset, .unset] [(.ref b2)])) _
    refine XS.dup X26.here hx rfl (hb hby at_55) rfl rfl ?_
    show Steps p.tables e below (T26.setTop (mkF m 56 #[.val (.int p1), .unset, .unset, .unset, .unset] [(.ref b2), (.ref b2)])) _
    refine XS.bipush X26.here hx rfl (hb hby at_56) ?_
    show Steps p.tables e below (T26.setTop (mkF m 58 #[.val (.int p1), .unset, .unset, .unset, .unset] [(.int (8 : Int32)), (.ref b2), (.ref b2)])) _
    refine st28 _ ?_
    show Steps p.tables e below (T28.setTop (mkF m 61 #[.val (.int p1), .unset, .unset, .unset, .unset] [(.ref (w 8)), (.int (8 : Int32)), (.ref b2), (.ref b2)])) _
    refine st29 _ ?_
    show Steps p.tables e below (T29.setTop (mkF m 62 #[.val (.int p1), .unset, .unset, .unset, .unset] [(.ref b2)])) _
    refine XS.dup X29.here hx rfl (hb hby at_62) rfl rfl ?_
    show Steps p.tables e below (T29.setTop (mkF m 63 #[.val (.int p1), .unset, .unset, .unset, .unset] [(.ref b2), (.ref b2)])) _
    refine XS.bipush X29.here hx rfl (hb hby at_63) ?_
    show Steps p.tables e below (T29.setTop (mkF m 65 #[.val (.int p1), .unset, .unset, .unset, .unset] [(.int (9 : Int32)), (.ref b2), (.ref b2)])) _
    refine st31 _ ?_
    show Steps p.tables e below (T31.setTop (mkF m 68 #[.val (.int p1), .unset, .unset, .unset, .unset] [(.ref (w 9)), (.int (9 : Int32)), (.ref b2), (.ref b2)])) _
    refine st32 _ ?_
    show Steps p.tables e below (T32.setTop (mkF m 69 #[.val (.int p1), .unset, .unset, .unset, .unset] [(.ref b2)])) _
    refine XS.dup X32.here hx rfl (hb hby at_69) rfl rfl ?_
    show Steps p.tables e below (T32.setTop (mkF m 70 #[.val (.int p1), .unset, .unset, .unset, .unset] [(.ref b2), (.ref b2)])) _
    refine XS.bipush X32.here hx rfl (hb hby at_70) ?_
    show Steps p.tables e below (T32.setTop (mkF m 72 #[.val (.int p1), .unset, .unset, .unset, .unset] [(.int (10 : Int32)), (.ref b2), (.ref b2)])) _
    refine st34 _ ?_
    show Steps p.tables e below (T34.setTop (mkF m 75 #[.val (.int p1), .unset, .unset, .unset, .unset] [(.ref (w 10)), (.int (10 : Int32)), (.ref b2), (.ref b2)])) _
    refine st35 _ ?_
    show Steps p.tables e below (T35.setTop (mkF m 76 #[.val (.int p1), .unset, .unset, .unset, .unset] [(.ref b2)])) _
    refine XS.dup X35.here hx rfl (hb hby at_76) rfl rfl ?_
    show Steps p.tables e below (T35.setTop (mkF m 77 #[.val (.int p1), .unset, .unset, .unset, .unset] [(.ref b2), (.ref b2)])) _
    refine XS.bipush X35.here hx rfl (hb hby at_77) ?_
    show Steps p.tables e below (T35.setTop (mkF m 79 #[.val (.int p1), .unset, .unset, .unset, .unset] [(.int (11 : Int32)), (.ref b2), (.ref b2)])) _
    refine st37 _ ?_
    show Steps p.tables e below (T37.setTop (mkF m 82 #[.val (.int p1), .unset, .unset, .unset, .unset] [(.ref (w 11)), (.int (11 : Int32)), (.ref b2), (.ref b2)])) _
    refine st38 _ ?_
    show Steps p.tables e below (T38.setTop (mkF m 83 #[.val (.int p1), .unset, .unset, .unset, .unset] [(.ref b2)])) _
    refine XS.dup X38.here hx rfl (hb hby at_83) rfl rfl ?_
    show Steps p.tables e below (T38.setTop (mkF m 84 #[.val (.int p1), .unset, .unset, .unset, .unset] [(.ref b2), (.ref b2)])) _
    refine XS.bipush X38.here hx rfl (hb hby at_84) ?_
    show Steps p.tables e below (T38.setTop (mkF m 86 #[.val (.int p1), .unset, .unset, .unset, .unset] [(.int (12 : Int32)), (.ref b2), (.ref b2)])) _
    refine st40 _ ?_
    show Steps p.tables e below (T40.setTop (mkF m 89 #[.val (.int p1), .unset, .unset, .unset, .unset] [(.ref (w 12)), (.int (12 : Int32)), (.ref b2), (.ref b2)])) _
    refine st41 _ ?_
    show Steps p.tables e below (T41.setTop (mkF m 90 #[.val (.int p1), .unset, .unset, .unset, .unset] [(.ref b2)])) _
    refine XS.dup X41.here hx rfl (hb hby at_90) rfl rfl ?_
    show Steps p.tables e below (T41.setTop (mkF m 91 #[.val (.int p1), .unset, .unset, .unset, .unset] [(.ref b2), (.ref b2)])) _
    refine XS.bipush X41.here hx rfl (hb hby at_91) ?_
    show Steps p.tables e below (T41.setTop (mkF m 93 #[.val (.int p1), .unset, .unset, .unset, .unset] [(.int (13 : Int32)), (.ref b2), (.ref b2)])) _
    refine st43 _ ?_
    show Steps p.tables e below (T43.setTop (mkF m 96 #[.val (.int p1), .unset, .unset, .unset, .unset] [(.ref (w 13)), (.int (13 : Int32)), (.ref b2), (.ref b2)])) _
    refine st44 _ ?_
    show Steps p.tables e below (T44.setTop (mkF m 97 #[.val (.int p1), .unset, .unset, .unset, .unset] [(.ref b2)])) _
    refine XS.dup X44.here hx rfl (hb hby at_97) rfl rfl ?_
    show Steps p.tables e below (T44.setTop (mkF m 98 #[.val (.int p1), .unset, .unset, .unset, .unset] [(.ref b2), (.ref b2)])) _
    refine XS.bipush X44.here hx rfl (hb hby at_98) ?_
    show Steps p.tables e below (T44.setTop (mkF m 100 #[.val (.int p1), .unset, .unset, .unset, .unset] [(.int (14 : Int32)), (.ref b2), (.ref b2)])) _
    refine st46 _ ?_
    show Steps p.tables e below (T46.setTop (mkF m 103 #[.val (.int p1), .unset, .unset, .unset, .unset] [(.ref (w 14)), (.int (14 : Int32)), (.ref b2), (.ref b2)])) _
    refine st47 _ ?_
    show Steps p.tables e below (T47.setTop (mkF m 104 #[.val (.int p1), .unset, .unset, .unset, .unset] [(.ref b2)])) _
    refine XS.dup X47.here hx rfl (hb hby at_104) rfl rfl ?_
    show Steps p.tables e below (T47.setTop (mkF m 105 #[.val (.int p1), .unset, .unset, .unset, .unset] [(.ref b2), (.ref b2)])) _
    refine XS.bipush X47.here hx rfl (hb hby at_105) ?_
    show Steps p.tables e below (T47.setTop (mkF m 107 #[.val (.int p1), .unset, .unset, .unset, .unset] [(.int (15 : Int32)), (.ref b2), (.ref b2)])) _
    refine st49 _ ?_
    show Steps p.tables e below (T49.setTop (mkF m 110 #[.val (.int p1), .unset, .unset, .unset, .unset] [(.ref (w 15)), (.int (15 : Int32)), (.ref b2), (.ref b2)])) _
    refine st50 _ ?_
    show Steps p.tables e below (T50.setTop (mkF m 111 #[.val (.int p1), .unset, .unset, .unset, .unset] [(.ref b2)])) _
    refine XS.astoreN X50.here hx rfl (hb hby at_111) rfl rfl (l' := #[.val (.int p1), .val (.ref b2), .unset, .unset, .unset]) rfl ?_
    show Steps p.tables e below (T50.setTop (mkF m 112 #[.val (.int p1), .val (.ref b2), .unset, .unset, .unset] [])) _
    refine XS.iloadN X50.here hx rfl (hb hby at_112) rfl ?_
    show Steps p.tables e below (T50.setTop (mkF m 113 #[.val (.int p1), .val (.ref b2), .unset, .unset, .unset] [(.int p1)])) _
    refine XS.bipush X50.here hx rfl (hb hby at_113) ?_
    show Steps p.tables e below (T50.setTop (mkF m 115 #[.val (.int p1), .val (.ref b2), .unset, .unset, .unset] [(.int (15 : Int32)), (.int p1)])) _
    refine XS.iand X50.here hx rfl (hb hby at_115) rfl ?_
    show Steps p.tables e below (T50.setTop (mkF m 116 #[.val (.int p1), .val (.ref b2), .unset, .unset, .unset] [(.int (p1 &&& (15 : Int32)))])) _
    refine XS.istoreN X50.here hx rfl (hb hby at_116) rfl (l' := #[.val (.int p1), .val (.ref b2), .val (.int (p1 &&& (15 : Int32))), .unset, .unset]) rfl ?_
    show Steps p.tables e below (T50.setTop (mkF m 117 #[.val (.int p1), .val (.ref b2), .val (.int (p1 &&& (15 : Int32))), .unset, .unset] [])) _
    refine XS.aloadN X50.here hx rfl (hb hby at_117) rfl rfl ?_
    show Steps p.tables e below (T50.setTop (mkF m 118 #[.val (.int p1), .val (.ref b2), .val (.int (p1 &&& (15 : Int32))), .unset, .unset] [(.ref b2)])) _
    refine XS.iloadN X50.here hx rfl (hb hby at_118) rfl ?_
    show Steps p.tables e below (T50.setTop (mkF m 119 #[.val (.int p1), .val (.ref b2), .val (.int (p1 &&& (15 : Int32))), .unset, .unset] [(.int (p1 &&& (15 : Int32))), (.ref b2)])) _
    refine X50.aaload hx (j := (p1 &&& (15 : Int32))) (v := (.ref (w k))) (by rw [e50]; exact Ar_b2.1) (State.isArrayOf_alike hZ.alike Ar_b2.2.1) rfl Ar_b2.2.2 hin119 hat119 (g := (mkF m 119 #[.val (.int p1), .val (.ref b2), .val (.int (p1 &&& (15 : Int32))), .unset, .unset] [(.int (p1 &&& (15 : Int32))), (.ref b2)])) rfl rfl (hb hby at_119) _ ?_
    show Steps p.tables e below (T50.setTop (mkF m 120 #[.val (.int p1), .val (.ref b2), .val (.int (p1 &&& (15 : Int32))), .unset, .unset] [(.ref (w k))])) _
    refine XS.astoreN X50.here hx rfl (hb hby at_120) rfl rfl (l' := #[.val (.int p1), .val (.ref b2), .val (.int (p1 &&& (15 : Int32))), .val (.ref (w k)), .unset]) rfl ?_
    show Steps p.tables e below (T50.setTop (mkF m 121 #[.val (.int p1), .val (.ref b2), .val (.int (p1 &&& (15 : Int32))), .val (.ref (w k)), .unset] [])) _
    refine XS.aloadN X50.here hx rfl (hb hby at_121) rfl rfl ?_
    show Steps p.tables e below (T50.setTop (mkF m 122 #[.val (.int p1), .val (.ref b2), .val (.int (p1 &&& (15 : Int32))), .val (.ref (w k)), .unset] [(.ref (w k))])) _
    refine st52 _ ?_
    show Steps p.tables e below (T52.setTop (mkF m 125 #[.val (.int p1), .val (.ref b2), .val (.int (p1 &&& (15 : Int32))), .val (.ref (w k)), .unset] [(.int (own_exp k))])) _
    refine XS.istore X52.here hx rfl (hb hby at_125) rfl (l' := #[.val (.int p1), .val (.ref b2), .val (.int (p1 &&& (15 : Int32))), .val (.ref (w k)), .val (.int (own_exp k))]) rfl ?_
    show Steps p.tables e below (T52.setTop (mkF m 127 #[.val (.int p1), .val (.ref b2), .val (.int (p1 &&& (15 : Int32))), .val (.ref (w k)), .val (.int (own_exp k))] [])) _
    refine XS.aloadN X52.here hx rfl (hb hby at_127) rfl rfl ?_
    show Steps p.tables e below (T52.setTop (mkF m 128 #[.val (.int p1), .val (.ref b2), .val (.int (p1 &&& (15 : Int32))), .val (.ref (w k)), .val (.int (own_exp k))] [(.ref (w k))])) _
    refine st53 _ ?_
    show Steps p.tables e below (T53.setTop (mkF m 131 #[.val (.int p1), .val (.ref b2), .val (.int (p1 &&& (15 : Int32))), .val (.ref (w k)), .val (.int (own_exp k))] [(.int (own_exp k))])) _
    refine XS.iload X53.here hx rfl (hb hby at_131) rfl ?_
    show Steps p.tables e below (T53.setTop (mkF m 133 #[.val (.int p1), .val (.ref b2), .val (.int (p1 &&& (15 : Int32))), .val (.ref (w k)), .val (.int (own_exp k))] [(.int (own_exp k)), (.int (own_exp k))])) _
    refine XS.icmpNo X53.here hx rfl (hb hby at_133) rfl (teq (rfl : own_exp k = own_exp k)).2 ?_
    show Steps p.tables e below (T53.setTop (mkF m 136 #[.val (.int p1), .val (.ref b2), .val (.int (p1 &&& (15 : Int32))), .val (.ref (w k)), .val (.int (own_exp k))] [])) _
    refine XS.iconst X53.here hx rfl (hb hby at_136) ?_
    show Steps p.tables e below (T53.setTop (mkF m 137 #[.val (.int p1), .val (.ref b2), .val (.int (p1 &&& (15 : Int32))), .val (.ref (w k)), .val (.int (own_exp k))] [(.int (1 : Int32))])) _
    refine XS.goto X53.here hx rfl (pc0 := 137) (pc' := 141) rfl (hb hby at_137) (by decide) (by decide) ?_
    show Steps p.tables e below (T53.setTop (mkF m 141 #[.val (.int p1), .val (.ref b2), .val (.int (p1 &&& (15 : Int32))), .val (.ref (w k)), .val (.int (own_exp k))] [(.int (1 : Int32))])) _
    exact retN X53 hx (t := .boolean) Bd.returns (by simp) (hb hby at_141) hr
  · show Q0 Z p1 h0 n0 _ T53.heap _
    exact ⟨rfl, N53⟩
-- 5. FROM THE CASE'S WORDS TO rm0, AND THE OWED THEOREMS
set_option maxRecDepth 65536 in
set_option maxHeartbeats 40000000 in
theorem comes_1 {Post : Tables → Env → Array Value → State → Outcome → State → Prop} (hpost : ∀ tb e args s v u, (limb_1_1.after args s (.returned v) u = true ∧ limb_1_2.after args s (.returned v) u = true ∧ True) → FrameEnd s (.returned v) u (Jvm.fieldLocs frame_1_writes args s ++ Jvm.arrayLocs frame_1_arrays args s ++ Jvm.staticLocs frame_1_statics s) 16 128 → Post tb e args s (.returned v) u) :
    ArmFor flags0 classFile x code maxLocals ret World_1 tables_1 room_1 Calls_1 rest_1 Pre_1 Post := by
  intro l hfl _ _ p e ha hc hk s m args below hf hA hF happ hP
  obtain ⟨hcalls, hrest, hpre⟩ := hP
  obtain ⟨-, -, -, hnamed, -, -, -, hat⟩ := (Spec.applies_iff hf).mp happ
  obtain ⟨hg, hn⟩ := and_e (Cond.before_iff.mp (show (Jvm.Cond.and given_1 narrow_1).before args s = true from hpre))
  obtain ⟨g54, g55⟩ := and_e hg
  obtain ⟨w0, rfl⟩ : ∃ w0 : Value, args = #[w0] := by
    have hs : args.size = 1 := by simpa [Cond.value, given_1] using g54
    obtain ⟨L⟩ := args
    match L, hs with
    | [w0], _ => exact ⟨w0, rfl⟩
  have hw := fun d (hd : d ∈ tables_1) => atoms_spec (ws := Jvm.Cond.code x code maxLocals ret :: tables_1) hat d (List.mem_cons_of_mem _ hd)
  have hfit : Fit s := fun {y c} hc i hi => by
    obtain ⟨ha, rfl⟩ := Array.getElem?_eq_some_iff.mp hc
    have q := List.all_eq_true.mp ((Array.all_eq_true_iff_forall_mem.mp hF) _ (Array.getElem_mem ha)) i (List.mem_range.mpr hi)
    simpa [Array.getElem?_eq_getElem hi] using q
  obtain ⟨i0, ei0⟩ := is_v g55
  obtain rfl : w0 = (.int i0) := Option.some.inj ei0
  obtain ⟨c0, hn⟩ := and_e hn
  obtain ⟨c1, hn⟩ := and_e hn
  obtain ⟨c2, hn⟩ := and_e hn
  obtain ⟨c3, hn⟩ := and_e hn
  obtain ⟨c4, hn⟩ := and_e hn
  obtain ⟨c5, hn⟩ := and_e hn
  obtain ⟨c6, hn⟩ := and_e hn
  obtain ⟨c7, hn⟩ := and_e hn
  obtain ⟨c8, hn⟩ := and_e hn
  obtain ⟨c9, hn⟩ := and_e hn
  obtain ⟨c10, hn⟩ := and_e hn
  obtain ⟨c11, hn⟩ := and_e hn
  obtain ⟨c12, hn⟩ := and_e hn
  obtain ⟨c13, hn⟩ := and_e hn
  obtain ⟨c14, hn⟩ := and_e hn
  obtain ⟨c15, hn⟩ := and_e hn
  obtain ⟨c16, hn⟩ := and_e hn
  obtain ⟨c17, hn⟩ := and_e hn
  obtain ⟨c18, hn⟩ := and_e hn
  obtain ⟨c19, hn⟩ := and_e hn
  obtain ⟨c20, hn⟩ := and_e hn
  obtain ⟨c21, hn⟩ := and_e hn
  obtain ⟨c22, hn⟩ := and_e hn
  obtain ⟨c23, hn⟩ := and_e hn
  obtain ⟨c24, hn⟩ := and_e hn
  obtain ⟨c25, hn⟩ := and_e hn
  obtain ⟨c26, hn⟩ := and_e hn
  obtain ⟨c27, hn⟩ := and_e hn
  obtain ⟨c28, hn⟩ := and_e hn
  obtain ⟨c29, hn⟩ := and_e hn
  obtain ⟨c30, hn⟩ := and_e hn
  obtain ⟨c31, hn⟩ := and_e hn
  obtain ⟨c32, hn⟩ := and_e hn
  obtain ⟨c33, hn⟩ := and_e hn
  obtain ⟨c34, hn⟩ := and_e hn
  obtain ⟨c35, hn⟩ := and_e hn
  obtain ⟨c36, hn⟩ := and_e hn
  obtain ⟨c37, hn⟩ := and_e hn
  obtain ⟨c38, hn⟩ := and_e hn
  have c39 := hn
  obtain ⟨a0, v0⟩ := exa_v c0
  have E0 := Exa.start v0 c0
  have F0 := Fld.start (own_ord v0 c16)
  obtain ⟨a1, v1⟩ := exa_v c1
  have E1 := Exa.start v1 c1
  have F1 := Fld.start (own_ord v1 c17)
  obtain ⟨a2, v2⟩ := exa_v c2
  have E2 := Exa.start v2 c2
  have F2 := Fld.start (own_ord v2 c26)
  obtain ⟨a3, v3⟩ := exa_v c3
  have E3 := Exa.start v3 c3
  have F3 := Fld.start (own_ord v3 c23)
  obtain ⟨a4, v4⟩ := exa_v c4
  have E4 := Exa.start v4 c4
  have F4 := Fld.start (own_ord v4 c29)
  obtain ⟨a5, v5⟩ := exa_v c5
  have E5 := Exa.start v5 c5
  have F5 := Fld.start (own_ord v5 c33)
  obtain ⟨a6, v6⟩ := exa_v c6
  have E6 := Exa.start v6 c6
  have F6 := Fld.start (own_ord v6 c31)
  obtain ⟨a7, v7⟩ := exa_v c7
  have E7 := Exa.start v7 c7
  have F7 := Fld.start (own_ord v7 c25)
  obtain ⟨a8, v8⟩ := exa_v c8
  have E8 := Exa.start v8 c8
  have F8 := Fld.start (own_ord v8 c28)
  obtain ⟨a9, v9⟩ := exa_v c9
  have E9 := Exa.start v9 c9
  have F9 := Fld.start (own_ord v9 c32)
  obtain ⟨a10, v10⟩ := exa_v c10
  have E10 := Exa.start v10 c10
  have F10 := Fld.start (own_ord v10 c24)
  obtain ⟨a11, v11⟩ := exa_v c11
  have E11 := Exa.start v11 c11
  have F11 := Fld.start (own_ord v11 c27)
  obtain ⟨a12, v12⟩ := exa_v c12
  have E12 := Exa.start v12 c12
  have F12 := Fld.start (own_ord v12 c30)
  obtain ⟨a13, v13⟩ := exa_v c13
  have E13 := Exa.start v13 c13
  have F13 := Fld.start (own_ord v13 c20)
  obtain ⟨a14, v14⟩ := exa_v c14
  have E14 := Exa.start v14 c14
  have F14 := Fld.start (own_ord v14 c18)
  obtain ⟨a15, v15⟩ := exa_v c15
  have E15 := Exa.start v15 c15
  have F15 := Fld.start (own_ord v15 c19)
  have S0 := Sta.start v0 (Or.inr ⟨hw _ (List.mem_of_getElem? (i := 3) rfl), hw _ (List.mem_of_getElem? (i := 4) rfl)⟩)
  have S1 := Sta.start v1 (Or.inr ⟨hw _ (List.mem_of_getElem? (i := 3) rfl), hw _ (List.mem_of_getElem? (i := 7) rfl)⟩)
  have S2 := Sta.start v2 (Or.inr ⟨hw _ (List.mem_of_getElem? (i := 3) rfl), hw _ (List.mem_of_getElem? (i := 9) rfl)⟩)
  have S3 := Sta.start v3 (Or.inr ⟨hw _ (List.mem_of_getElem? (i := 3) rfl), hw _ (List.mem_of_getElem? (i := 11) rfl)⟩)
  have S4 := Sta.start v4 (Or.inr ⟨hw _ (List.mem_of_getElem? (i := 3) rfl), hw _ (List.mem_of_getElem? (i := 13) rfl)⟩)
  have S5 := Sta.start v5 (Or.inr ⟨hw _ (List.mem_of_getElem? (i := 3) rfl), hw _ (List.mem_of_getElem? (i := 15) rfl)⟩)
  have S6 := Sta.start v6 (Or.inr ⟨hw _ (List.mem_of_getElem? (i := 3) rfl), hw _ (List.mem_of_getElem? (i := 17) rfl)⟩)
  have S7 := Sta.start v7 (Or.inr ⟨hw _ (List.mem_of_getElem? (i := 3) rfl), hw _ (List.mem_of_getElem? (i := 19) rfl)⟩)
  have S8 := Sta.start v8 (Or.inr ⟨hw _ (List.mem_of_getElem? (i := 3) rfl), hw _ (List.mem_of_getElem? (i := 21) rfl)⟩)
  have S9 := Sta.start v9 (Or.inr ⟨hw _ (List.mem_of_getElem? (i := 3) rfl), hw _ (List.mem_of_getElem? (i := 23) rfl)⟩)
  have S10 := Sta.start v10 (Or.inr ⟨hw _ (List.mem_of_getElem? (i := 3) rfl), hw _ (List.mem_of_getElem? (i := 25) rfl)⟩)
  have S11 := Sta.start v11 (Or.inr ⟨hw _ (List.mem_of_getElem? (i := 3) rfl), hw _ (List.mem_of_getElem? (i := 27) rfl)⟩)
  have S12 := Sta.start v12 (Or.inr ⟨hw _ (List.mem_of_getElem? (i := 3) rfl), hw _ (List.mem_of_getElem? (i := 29) rfl)⟩)
  have S13 := Sta.start v13 (Or.inr ⟨hw _ (List.mem_of_getElem? (i := 3) rfl), hw _ (List.mem_of_getElem? (i := 31) rfl)⟩)
  have S14 := Sta.start v14 (Or.inr ⟨hw _ (List.mem_of_getElem? (i := 3) rfl), hw _ (List.mem_of_getElem? (i := 33) rfl)⟩)
  have S15 := Sta.start v15 (Or.inr ⟨hw _ (List.mem_of_getElem? (i := 3) rfl), hw _ (List.mem_of_getElem? (i := 35) rfl)⟩)
  obtain ⟨sm, vm⟩ := arr_v c21
  have Sm := Sta.start vm (Or.inr ⟨hw _ (List.mem_of_getElem? (i := 45) rfl), hw _ (List.mem_of_getElem? (i := 46) rfl)⟩)
  obtain ⟨cm, Am⟩ := Arr.start vm c21
  have m0 := elem_in (eqv_i (Term.int_eval _) c34) vm (Term.int_eval _) Am.1
  have m1 := elem_in (eqv_i (Term.int_eval _) c35) vm (Term.int_eval _) Am.1
  have m13 := elem_in (eqv_i (Term.int_eval _) c37) vm (Term.int_eval _) Am.1
  have m14 := elem_in (eqv_i (Term.int_eval _) c38) vm (Term.int_eval _) Am.1
  have m15 := elem_in (eqv_i (Term.int_eval _) c39) vm (Term.int_eval _) Am.1
  have mid := own_mid hfit vm Am c36
  have hsz : 16 ≤ cm.slots.size := Nat.lt_of_not_le fun q => m15.1 (Or.inr q)
  have hat : ∀ k, k < 16 → cm.slots[k]? = some (.int (own_map k)) := by
    intro k hk
    match k, hk with
    | 0, _ => exact m0.2
    | 1, _ => exact m1.2
    | 13, _ => exact m13.2
    | 14, _ => exact m14.2
    | 15, _ => exact m15.2
    | 2, _ => exact mid (2 : Int32) (by decide) (by decide) (by decide) (Nat.lt_of_lt_of_le (by decide) hsz)
    | 3, _ => exact mid (3 : Int32) (by decide) (by decide) (by decide) (Nat.lt_of_lt_of_le (by decide) hsz)
    | 4, _ => exact mid (4 : Int32) (by decide) (by decide) (by decide) (Nat.lt_of_lt_of_le (by decide) hsz)
    | 5, _ => exact mid (5 : Int32) (by decide) (by decide) (by decide) (Nat.lt_of_lt_of_le (by decide) hsz)
    | 6, _ => exact mid (6 : Int32) (by decide) (by decide) (by decide) (Nat.lt_of_lt_of_le (by decide) hsz)
    | 7, _ => exact mid (7 : Int32) (by decide) (by decide) (by decide) (Nat.lt_of_lt_of_le (by decide) hsz)
    | 8, _ => exact mid (8 : Int32) (by decide) (by decide) (by decide) (Nat.lt_of_lt_of_le (by decide) hsz)
    | 9, _ => exact mid (9 : Int32) (by decide) (by decide) (by decide) (Nat.lt_of_lt_of_le (by decide) hsz)
    | 10, _ => exact mid (10 : Int32) (by decide) (by decide) (by decide) (Nat.lt_of_lt_of_le (by decide) hsz)
    | 11, _ => exact mid (11 : Int32) (by decide) (by decide) (by decide) (Nat.lt_of_lt_of_le (by decide) hsz)
    | 12, _ => exact mid (12 : Int32) (by decide) (by decide) (by decide) (Nat.lt_of_lt_of_le (by decide) hsz)
    | n + 16, h => exact absurd h (by omega)
  obtain ⟨w, hwd⟩ : ∃ w : Nat → Addr, w = fun k => ([a0, a1, a2, a3, a4, a5, a6, a7, a8, a9, a10, a11, a12, a13, a14, a15] : List Addr).getD k 0 := ⟨_, rfl⟩
  have EW : ∀ k, k < 16 → Exa s s.heap (w k) "com/example/grantline/grantline/authz/OauthError" := by
    intro k hk; subst hwd
    match k, hk with
    | 0, _ => exact E0
    | 1, _ => exact E1
    | 2, _ => exact E2
    | 3, _ => exact E3
    | 4, _ => exact E4
    | 5, _ => exact E5
    | 6, _ => exact E6
    | 7, _ => exact E7
    | 8, _ => exact E8
    | 9, _ => exact E9
    | 10, _ => exact E10
    | 11, _ => exact E11
    | 12, _ => exact E12
    | 13, _ => exact E13
    | 14, _ => exact E14
    | 15, _ => exact E15
    | n + 16, h => exact absurd h (by omega)
  have FW0 : ∀ k, k < 16 → Fld s s.heap (w k) "java/lang/Enum" "ordinal" "I" (.int (Int32.ofNat k)) := by
    intro k hk; subst hwd
    match k, hk with
    | 0, _ => exact F0
    | 1, _ => exact F1
    | 2, _ => exact F2
    | 3, _ => exact F3
    | 4, _ => exact F4
    | 5, _ => exact F5
    | 6, _ => exact F6
    | 7, _ => exact F7
    | 8, _ => exact F8
    | 9, _ => exact F9
    | 10, _ => exact F10
    | 11, _ => exact F11
    | 12, _ => exact F12
    | 13, _ => exact F13
    | 14, _ => exact F14
    | 15, _ => exact F15
    | n + 16, h => exact absurd h (by omega)
  have FW : ∀ k, k < 16 → ∀ od : Int32, ¬ od < 0 → od.toNatClampNeg = k → Fld s s.heap (w k) "java/lang/Enum" "ordinal" "I" (.int od) := by
    intro k hk od h0 ho
    have e : od = Int32.ofNat k := by
      have q := (back32 h0).1
      rw [ho] at q
      exact q.symm
    rw [e]; exact FW0 k hk
  have inj : ∀ i j, i < 16 → j < 16 → w i = w j → i = j := by
    intro i j hi hj q
    have f1 := FW0 i hi
    have f2 := FW0 j hj
    rw [q] at f1
    have e := own_fld f1 f2
    have e2 := congrArg Int32.toInt (Value.int.inj e)
    have g : ∀ k, k < 16 → (Int32.ofNat k).toInt = k := fun k hk => by
      rw [Int32.toInt_ofNat_of_lt (by omega)]
    rw [g i hi, g j hj] at e2
    omega
  have T0 : Sta s s.heap "com/example/grantline/grantline/authz/OauthError" "INVALID_REQUEST" "Lcom/example/grantline/grantline/authz/OauthError;" (.ref (w 0)) := by subst hwd; exact S0
  have T1 : Sta s s.heap "com/example/grantline/grantline/authz/OauthError" "INVALID_CLIENT" "Lcom/example/grantline/grantline/authz/OauthError;" (.ref (w 1)) := by subst hwd; exact S1
  have T2 : Sta s s.heap "com/example/grantline/grantline/authz/OauthError" "INVALID_GRANT" "Lcom/example/grantline/grantline/authz/OauthError;" (.ref (w 2)) := by subst hwd; exact S2
  have T3 : Sta s s.heap "com/example/grantline/grantline/authz/OauthError" "UNAUTHORIZED_CLIENT" "Lcom/example/grantline/grantline/authz/OauthError;" (.ref (w 3)) := by subst hwd; exact S3
  have T4 : Sta s s.heap "com/example/grantline/grantline/authz/OauthError" "UNSUPPORTED_GRANT_TYPE" "Lcom/example/grantline/grantline/authz/OauthError;" (.ref (w 4)) := by subst hwd; exact S4
  have T5 : Sta s s.heap "com/example/grantline/grantline/authz/OauthError" "UNSUPPORTED_RESPONSE_TYPE" "Lcom/example/grantline/grantline/authz/OauthError;" (.ref (w 5)) := by subst hwd; exact S5
  have T6 : Sta s s.heap "com/example/grantline/grantline/authz/OauthError" "INVALID_SCOPE" "Lcom/example/grantline/grantline/authz/OauthError;" (.ref (w 6)) := by subst hwd; exact S6
  have T7 : Sta s s.heap "com/example/grantline/grantline/authz/OauthError" "ACCESS_DENIED" "Lcom/example/grantline/grantline/authz/OauthError;" (.ref (w 7)) := by subst hwd; exact S7
  have T8 : Sta s s.heap "com/example/grantline/grantline/authz/OauthError" "LOGIN_REQUIRED" "Lcom/example/grantline/grantline/authz/OauthError;" (.ref (w 8)) := by subst hwd; exact S8
  have T9 : Sta s s.heap "com/example/grantline/grantline/authz/OauthError" "CONSENT_REQUIRED" "Lcom/example/grantline/grantline/authz/OauthError;" (.ref (w 9)) := by subst hwd; exact S9
  have T10 : Sta s s.heap "com/example/grantline/grantline/authz/OauthError" "AUTHORIZATION_PENDING" "Lcom/example/grantline/grantline/authz/OauthError;" (.ref (w 10)) := by subst hwd; exact S10
  have T11 : Sta s s.heap "com/example/grantline/grantline/authz/OauthError" "SLOW_DOWN" "Lcom/example/grantline/grantline/authz/OauthError;" (.ref (w 11)) := by subst hwd; exact S11
  have T12 : Sta s s.heap "com/example/grantline/grantline/authz/OauthError" "EXPIRED_TOKEN" "Lcom/example/grantline/grantline/authz/OauthError;" (.ref (w 12)) := by subst hwd; exact S12
  have T13 : Sta s s.heap "com/example/grantline/grantline/authz/OauthError" "TEMPORARILY_UNAVAILABLE" "Lcom/example/grantline/grantline/authz/OauthError;" (.ref (w 13)) := by subst hwd; exact S13
  have T14 : Sta s s.heap "com/example/grantline/grantline/authz/OauthError" "INVALID_TOKEN" "Lcom/example/grantline/grantline/authz/OauthError;" (.ref (w 14)) := by subst hwd; exact S14
  have T15 : Sta s s.heap "com/example/grantline/grantline/authz/OauthError" "INSUFFICIENT_SCOPE" "Lcom/example/grantline/grantline/authz/OauthError;" (.ref (w 15)) := by subst hwd; exact S15
  obtain ⟨n, o, h1, h2, h3, _, L, rfl, ⟨rfl, N⟩, hq⟩ := rm0 l s _ hw tables_1 i0 w sm cm s.heap s.heap.size (Nat.le_refl _) T0 T1 T2 T3 T4 T5 T6 T7 T8 T9 T10 T11 T12 T13 T14 T15 inj EW FW Sm Am hsz hat p e ha hc hk s m _ below hf ((Spec.applies_iff_loose hf).mp happ).1 ⟨rfl, State.Warmed39.refl s, rfl⟩ trivial
  refine ⟨n, _, h1, h2, h3, hpost _ _ _ _ _ _ ⟨Cond.after_iff.mpr rfl, Cond.after_iff.mpr (eq_i res_at (Term.int_eval (1)) rfl), trivial⟩ ⟨hq.1, hq.2.1, (hq.2.2.sift fun y hy => Or.inr (N y hy)).mono (by decide) (by decide)⟩⟩
theorem main_1_1 : Claimed_1_1 := comes_1 fun _ _ _ _ _ _ h hF => ⟨h.1, hF⟩
theorem main_1_2 : Claimed_1_2 := comes_1 fun _ _ _ _ _ _ h hF => ⟨h.2.1, hF⟩
end Jvm.Pilot.@@N@@
namespace Jvm.Pilot.@@N@@
open Jvm Jvm.ClassFile Sem Op Lib Jvm.Free Jvm.Stand Jvm.Pilot.@@N@@.Jvm.D
/-! MADE BY PROGRAM (witnessworld.py) out of the Statement's table words and the real class files: 15 classes; the members and pool entries that the words name. The judged class is class 1, her method 1. -/
namespace start1
open Jvm.ClassFile
def u (s : String) : CpInfo := .utf8 (stringToUtf16 s)
/-- a pool by its gaps: so many unusable entries, then the entry; so many at the end -/
def gap : Nat → List CpInfo → List CpInfo
  | 0, r => r
  | n + 1, r => .unusable :: gap n r
def poolList (es : List (Nat × CpInfo)) (last : Nat) : List CpInfo := es.foldr (fun e r => gap e.1 (e.2 :: r)) (gap last [])
def pool (es : List (Nat × CpInfo)) (last : Nat) : Array CpInfo := ⟨poolList es last⟩
def fileOf (pool : Array CpInfo) (this : Nat) (attrs : Array Attribute := #[]) (ms : Array MethodInfo := #[]) (fl : Nat := 33) (sup : Nat := 0) (ifs : Array Nat := #[]) (fds : Array FieldInfo := #[]) : ClassFile where
  minorVersion := 0
  majorVersion := 65
  constantPool := pool
  accessFlags := fl
  thisClass := this
  superClass := sup
  interfaces := ifs
  fields := fds
  methods := ms
  attributes := attrs
def plain (name : String) (sup : Option ClassId) : Class where
  name := name
  kind := .ordinary
  loader := none
  accessFlags := 33
  super := sup
  interfaces := #[]
  cf := none
  fields := #[]
  methods := #[]
  instanceTypes := #[]
  staticTypes := #[]
  resolved := #[]
  callSites := []
  init := .initialized
  statics := none
  mirror := none

def pool0 : Array CpInfo := pool [(5, u "<init>"), (0, u "()V"), (1, .class_ 10), (1, u "java/lang/Object")] 113

def k0m0 : Method := { name := "<init>", desc := "()V", sig := { parameters := [], returnType := none }, accessFlags := 1, code := none }
/-- java/lang/Object -/
def k0 : Class := { plain "java/lang/Object" none with
  accessFlags := 33
  interfaces := #[]
  cf := some (fileOf pool0 8 #[] #[{ accessFlags := 1, nameIndex := 5, descriptorIndex := 6, attributes := #[] }] 33 0 #[] #[])
  fields := #[]
  methods := #[k0m0]
  instanceTypes := #[]
  staticTypes := #[]
  resolved := Array.replicate 124 none
  statics := none }

def pool1 : Array CpInfo := pool [(2, .class_ 4), (1, u "java/lang/Object"), (0, u "<init>"), (0, u "()V"), (0, .class_ 8), (0, u "com/example/grantline/grantline/authz/OauthError"), (0, .fieldref 7 10), (0, .nameAndType 11 12), (0, u "INVALID_REQUEST"), (0, u "Lcom/example/grantline/grantline/authz/OauthError;"), (0, .fieldref 7 14), (0, .nameAndType 15 12), (0, u "INVALID_CLIENT"), (0, .fieldref 7 17), (0, .nameAndType 18 12), (0, u "INVALID_GRANT"), (0, .fieldref 7 20), (0, .nameAndType 21 12), (0, u "UNAUTHORIZED_CLIENT"), (0, .fieldref 7 23), (0, .nameAndType 24 12), (0, u "UNSUPPORTED_GRANT_TYPE"), (0, .fieldref 7 26), (0, .nameAndType 27 12), (0, u "UNSUPPORTED_RESPONSE_TYPE"), (0, .fieldref 7 29), (0, .nameAndType 30 12), (0, u "INVALID_SCOPE"), (0, .fieldref 7 32), (0, .nameAndType 33 12), (0, u "ACCESS_DENIED"), (0, .fieldref 7 35), (0, .nameAndType 36 12), (0, u "LOGIN_REQUIRED"), (0, .fieldref 7 38), (0, .nameAndType 39 12), (0, u "CONSENT_REQUIRED"), (0, .fieldref 7 41), (0, .nameAndType 42 12), (0, u "AUTHORIZATION_PENDING"), (0, .fieldref 7 44), (0, .nameAndType 45 12), (0, u "SLOW_DOWN"), (0, .fieldref 7 47), (0, .nameAndType 48 12), (0, u "EXPIRED_TOKEN"), (0, .fieldref 7 50), (0, .nameAndType 51 12), (0, u "TEMPORARILY_UNAVAILABLE"), (0, .fieldref 7 53), (0, .nameAndType 54 12), (0, u "INVALID_TOKEN"), (0, .fieldref 7 56), (0, .nameAndType 57 12), (0, u "INSUFFICIENT_SCOPE"), (0, .methodref 59 60), (0, .class_ 61), (0, .nameAndType 62 63), (0, u "com/example/grantline/grantline/server/ClientRequestsStatusOfPinLaw"), (0, u "expectedStatus"), (0, u "(Lcom/example/grantline/grantline/authz/OauthError;)I"), (0, .methodref 65 66), (0, .class_ 67), (0, .nameAndType 68 63), (0, u "com/example/grantline/grantline/server/ClientRequests"), (0, u "statusOf"), (2, u "law"), (0, u "(I)Z")] 5

def k1m0 : Method := { name := "<init>", desc := "()V", sig := { parameters := [], returnType := none }, accessFlags := 2, code := none }
def k1c1 : Code := { maxStack := 4, maxLocals := 5, code := code, exceptionTable := #[], attributes := #[] }
def k1m1 : Method := { name := "law", desc := "(I)Z", sig := { parameters := [.int], returnType := some .boolean }, accessFlags := 9, code := some k1c1 }
def k1c2 : Code := { maxStack := 2, maxLocals := 1, code := method_3_code, exceptionTable := #[], attributes := #[] }
def k1m2 : Method := { name := "expectedStatus", desc := "(Lcom/example/grantline/grantline/authz/OauthError;)I", sig := { parameters := [(.object "com/example/grantline/grantline/authz/OauthError")], returnType := some .int }, accessFlags := 10, code := some k1c2 }
/-- com/example/grantline/grantline/server/ClientRequestsStatusOfPinLaw -/
def k1 : Class := { plain "com/example/grantline/grantline/server/ClientRequestsStatusOfPinLaw" (some 0) with
  accessFlags := 49
  interfaces := #[]
  cf := some (fileOf pool1 59 #[] #[{ accessFlags := 2, nameIndex := 5, descriptorIndex := 6, attributes := #[] }, { accessFlags := 9, nameIndex := 71, descriptorIndex := 72, attributes := #[] }, { accessFlags := 10, nameIndex := 62, descriptorIndex := 63, attributes := #[] }] 49 2 #[] #[])
  fields := #[]
  methods := #[k1m0, k1m1, k1m2]
  instanceTypes := #[]
  staticTypes := #[]
  resolved := Array.replicate 78 none
  statics := none }

def pool2 : Array CpInfo := pool [(1, .class_ 2), (0, u "java/lang/constant/Constable"), (0, .class_ 4), (0, u "java/lang/Object")] 6

/-- java/lang/constant/Constable -/
def k2 : Class := { plain "java/lang/constant/Constable" (some 0) with
  accessFlags := 1537
  interfaces := #[]
  cf := some (fileOf pool2 1 #[] #[] 1537 3 #[] #[])
  fields := #[]
  methods := #[]
  instanceTypes := #[]
  staticTypes := #[]
  resolved := Array.replicate 11 none
  statics := none }

def pool3 : Array CpInfo := pool [(1, .class_ 2), (0, u "java/lang/Comparable"), (0, .class_ 4), (0, u "java/lang/Object")] 7

/-- java/lang/Comparable -/
def k3 : Class := { plain "java/lang/Comparable" (some 0) with
  accessFlags := 1537
  interfaces := #[]
  cf := some (fileOf pool3 1 #[] #[] 1537 3 #[] #[])
  fields := #[]
  methods := #[]
  instanceTypes := #[]
  staticTypes := #[]
  resolved := Array.replicate 12 none
  statics := none }

def pool4 : Array CpInfo := pool [(1, .class_ 2), (0, u "java/io/Serializable"), (0, .class_ 4), (0, u "java/lang/Object")] 2

/-- java/io/Serializable -/
def k4 : Class := { plain "java/io/Serializable" (some 0) with
  accessFlags := 1537
  interfaces := #[]
  cf := some (fileOf pool4 1 #[] #[] 1537 3 #[] #[])
  fields := #[]
  methods := #[]
  instanceTypes := #[]
  staticTypes := #[]
  resolved := Array.replicate 7 none
  statics := none }

def pool5 : Array CpInfo := pool [(2, .class_ 4), (1, u "java/lang/Enum"), (0, u "name"), (0, u "Ljava/lang/String;"), (0, .fieldref 2 8), (0, .nameAndType 9 10), (0, u "ordinal"), (0, u "I"), (1, .class_ 14), (1, u "java/lang/Object"), (4, u "hash"), (86, .class_ 108), (1, u "java/lang/Enum$EnumDesc"), (2, .class_ 112), (0, u "java/lang/constant/Constable"), (0, .class_ 114), (0, u "java/lang/Comparable"), (0, .class_ 116), (0, u "java/io/Serializable"), (9, u "()I")] 77

def k5c0 : Code := { maxStack := 1, maxLocals := 1, code := jdk_37_method_2_code, exceptionTable := #[], attributes := #[] }
def k5m0 : Method := { name := "ordinal", desc := "()I", sig := { parameters := [], returnType := some .int }, accessFlags := 17, code := some k5c0 }
/-- java/lang/Enum -/
def k5 : Class := { plain "java/lang/Enum" (some 0) with
  accessFlags := 1057
  interfaces := #[2, 3, 4]
  cf := some (fileOf pool5 2 #[.nestMembers #[106]] #[{ accessFlags := 17, nameIndex := 9, descriptorIndex := 126, attributes := #[] }] 1057 12 #[111, 113, 115] #[{ accessFlags := 18, nameIndex := 5, descriptorIndex := 6, attributes := #[] }, { accessFlags := 18, nameIndex := 9, descriptorIndex := 10, attributes := #[] }, { accessFlags := 2, nameIndex := 19, descriptorIndex := 10, attributes := #[] }])
  fields := #[{ name := "name", type := (.object "java/lang/String"), accessFlags := 18, slot := 0, constantValue := 0 }, { name := "ordinal", type := .int, accessFlags := 18, slot := 1, constantValue := 0 }, { name := "hash", type := .int, accessFlags := 2, slot := 2, constantValue := 0 }]
  methods := #[k5m0]
  instanceTypes := #[(.object "java/lang/String"), .int, .int]
  staticTypes := #[]
  resolved := Array.replicate 204 none
  statics := none }

def pool6 : Array CpInfo := pool [(1, .class_ 2), (0, u "com/example/grantline/grantline/authz/OauthError"), (2, u "INVALID_REQUEST"), (0, u "Lcom/example/grantline/grantline/authz/OauthError;"), (2, u "INVALID_CLIENT"), (2, u "INVALID_GRANT"), (2, u "UNAUTHORIZED_CLIENT"), (2, u "UNSUPPORTED_GRANT_TYPE"), (2, u "UNSUPPORTED_RESPONSE_TYPE"), (2, u "INVALID_SCOPE"), (2, u "ACCESS_DENIED"), (2, u "LOGIN_REQUIRED"), (2, u "CONSENT_REQUIRED"), (2, u "AUTHORIZATION_PENDING"), (2, u "SLOW_DOWN"), (2, u "EXPIRED_TOKEN"), (2, u "TEMPORARILY_UNAVAILABLE"), (2, u "INVALID_TOKEN"), (2, u "INSUFFICIENT_SCOPE"), (2, u "$VALUES"), (0, u "[Lcom/example/grantline/grantline/authz/OauthError;"), (6, .class_ 64), (1, u "java/lang/Enum"), (8, u "code"), (0, u "Ljava/lang/String;")] 68

/-- com/example/grantline/grantline/authz/OauthError -/
def k6 : Class := { plain "com/example/grantline/grantline/authz/OauthError" (some 5) with
  accessFlags := 16433
  interfaces := #[]
  cf := some (fileOf pool6 1 #[] #[] 16433 62 #[] #[{ accessFlags := 16409, nameIndex := 5, descriptorIndex := 6, attributes := #[] }, { accessFlags := 16409, nameIndex := 9, descriptorIndex := 6, attributes := #[] }, { accessFlags := 16409, nameIndex := 12, descriptorIndex := 6, attributes := #[] }, { accessFlags := 16409, nameIndex := 15, descriptorIndex := 6, attributes := #[] }, { accessFlags := 16409, nameIndex := 18, descriptorIndex := 6, attributes := #[] }, { accessFlags := 16409, nameIndex := 21, descriptorIndex := 6, attributes := #[] }, { accessFlags := 16409, nameIndex := 24, descriptorIndex := 6, attributes := #[] }, { accessFlags := 16409, nameIndex := 27, descriptorIndex := 6, attributes := #[] }, { accessFlags := 16409, nameIndex := 30, descriptorIndex := 6, attributes := #[] }, { accessFlags := 16409, nameIndex := 33, descriptorIndex := 6, attributes := #[] }, { accessFlags := 16409, nameIndex := 36, descriptorIndex := 6, attributes := #[] }, { accessFlags := 16409, nameIndex := 39, descriptorIndex := 6, attributes := #[] }, { accessFlags := 16409, nameIndex := 42, descriptorIndex := 6, attributes := #[] }, { accessFlags := 16409, nameIndex := 45, descriptorIndex := 6, attributes := #[] }, { accessFlags := 16409, nameIndex := 48, descriptorIndex := 6, attributes := #[] }, { accessFlags := 16409, nameIndex := 51, descriptorIndex := 6, attributes := #[] }, { accessFlags := 18, nameIndex := 73, descriptorIndex := 74, attributes := #[] }, { accessFlags := 4122, nameIndex := 54, descriptorIndex := 55, attributes := #[] }])
  fields := #[{ name := "INVALID_REQUEST", type := (.object "com/example/grantline/grantline/authz/OauthError"), accessFlags := 16409, slot := 0, constantValue := 0 }, { name := "INVALID_CLIENT", type := (.object "com/example/grantline/grantline/authz/OauthError"), accessFlags := 16409, slot := 1, constantValue := 0 }, { name := "INVALID_GRANT", type := (.object "com/example/grantline/grantline/authz/OauthError"), accessFlags := 16409, slot := 2, constantValue := 0 }, { name := "UNAUTHORIZED_CLIENT", type := (.object "com/example/grantline/grantline/authz/OauthError"), accessFlags := 16409, slot := 3, constantValue := 0 }, { name := "UNSUPPORTED_GRANT_TYPE", type := (.object "com/example/grantline/grantline/authz/OauthError"), accessFlags := 16409, slot := 4, constantValue := 0 }, { name := "UNSUPPORTED_RESPONSE_TYPE", type := (.object "com/example/grantline/grantline/authz/OauthError"), accessFlags := 16409, slot := 5, constantValue := 0 }, { name := "INVALID_SCOPE", type := (.object "com/example/grantline/grantline/authz/OauthError"), accessFlags := 16409, slot := 6, constantValue := 0 }, { name := "ACCESS_DENIED", type := (.object "com/example/grantline/grantline/authz/OauthError"), accessFlags := 16409, slot := 7, constantValue := 0 }, { name := "LOGIN_REQUIRED", type := (.object "com/example/grantline/grantline/authz/OauthError"), accessFlags := 16409, slot := 8, constantValue := 0 }, { name := "CONSENT_REQUIRED", type := (.object "com/example/grantline/grantline/authz/OauthError"), accessFlags := 16409, slot := 9, constantValue := 0 }, { name := "AUTHORIZATION_PENDING", type := (.object "com/example/grantline/grantline/authz/OauthError"), accessFlags := 16409, slot := 10, constantValue := 0 }, { name := "SLOW_DOWN", type := (.object "com/example/grantline/grantline/authz/OauthError"), accessFlags := 16409, slot := 11, constantValue := 0 }, { name := "EXPIRED_TOKEN", type := (.object "com/example/grantline/grantline/authz/OauthError"), accessFlags := 16409, slot := 12, constantValue := 0 }, { name := "TEMPORARILY_UNAVAILABLE", type := (.object "com/example/grantline/grantline/authz/OauthError"), accessFlags := 16409, slot := 13, constantValue := 0 }, { name := "INVALID_TOKEN", type := (.object "com/example/grantline/grantline/authz/OauthError"), accessFlags := 16409, slot := 14, constantValue := 0 }, { name := "INSUFFICIENT_SCOPE", type := (.object "com/example/grantline/grantline/authz/OauthError"), accessFlags := 16409, slot := 15, constantValue := 0 }, { name := "code", type := (.object "java/lang/String"), accessFlags := 18, slot := 3, constantValue := 0 }, { name := "$VALUES", type := (.array (.object "com/example/grantline/grantline/authz/OauthError")), accessFlags := 4122, slot := 16, constantValue := 0 }]
  methods := #[]
  instanceTypes := #[(.object "java/lang/String"), .int, .int, (.object "java/lang/String")]
  staticTypes := #[(.object "com/example/grantline/grantline/authz/OauthError"), (.object "com/example/grantline/grantline/authz/OauthError"), (.object "com/example/grantline/grantline/authz/OauthError"), (.object "com/example/grantline/grantline/authz/OauthError"), (.object "com/example/grantline/grantline/authz/OauthError"), (.object "com/example/grantline/grantline/authz/OauthError"), (.object "com/example/grantline/grantline/authz/OauthError"), (.object "com/example/grantline/grantline/authz/OauthError"), (.object "com/example/grantline/grantline/authz/OauthError"), (.object "com/example/grantline/grantline/authz/OauthError"), (.object "com/example/grantline/grantline/authz/OauthError"), (.object "com/example/grantline/grantline/authz/OauthError"), (.object "com/example/grantline/grantline/authz/OauthError"), (.object "com/example/grantline/grantline/authz/OauthError"), (.object "com/example/grantline/grantline/authz/OauthError"), (.object "com/example/grantline/grantline/authz/OauthError"), (.array (.object "com/example/grantline/grantline/authz/OauthError"))]
  resolved := Array.replicate 143 none
  statics := some 0 }

def pool7 : Array CpInfo := pool [(2, .class_ 4), (1, u "java/lang/Object"), (6, u "tokenEndpoint"), (2, .class_ 16), (1, u "com/example/grantline/grantline/server/ClientRequests"), (0, u "Lcom/example/grantline/grantline/authz/TokenEndpoint;"), (2, u "deviceAuthorizationEndpoint"), (3, u "Lcom/example/grantline/grantline/authz/DeviceAuthorizationEndpoint;"), (2, u "introspectionEndpoint"), (3, u "Lcom/example/grantline/grantline/authz/IntrospectionEndpoint;"), (2, u "revocationEndpoint"), (3, u "Lcom/example/grantline/grantline/authz/RevocationEndpoint;"), (2, u "userinfoEndpoint"), (3, u "Lcom/example/grantline/grantline/authz/UserinfoEndpoint;"), (2, u "devicePage"), (0, u "Ljava/lang/String;"), (2, u "addresses"), (0, u "Lcom/example/grantline/grantline/server/ClientAddress;"), (22, u "()I"), (53, .class_ 132), (1, u "com/example/grantline/grantline/authz/OauthError"), (72, u "statusOf"), (0, u "(Lcom/example/grantline/grantline/authz/OauthError;)I"), (11, .class_ 220), (1, u "com/example/grantline/grantline/server/ClientRequests$Decision"), (9, .fieldref 231 232), (0, .class_ 233), (0, .nameAndType 234 235), (0, u "com/example/grantline/grantline/server/ClientRequests$1"), (0, u "$SwitchMap$com$example$grantline$grantline$authz$OauthError"), (0, u "[I"), (0, .methodref 130 237), (0, .nameAndType 238 76), (0, u "ordinal"), (169, u "SECRET_METHODS"), (0, u "Ljava/util/List;"), (0, u "BEARER")] 62

def k7c0 : Code := { maxStack := 2, maxLocals := 1, code := prog_127_method_9_code, exceptionTable := #[], attributes := #[] }
def k7m0 : Method := { name := "statusOf", desc := "(Lcom/example/grantline/grantline/authz/OauthError;)I", sig := { parameters := [(.object "com/example/grantline/grantline/authz/OauthError")], returnType := some .int }, accessFlags := 8, code := some k7c0 }
/-- com/example/grantline/grantline/server/ClientRequests -/
def k7 : Class := { plain "com/example/grantline/grantline/server/ClientRequests" (some 0) with
  accessFlags := 48
  interfaces := #[]
  cf := some (fileOf pool7 14 #[.nestMembers #[231, 218]] #[{ accessFlags := 8, nameIndex := 205, descriptorIndex := 206, attributes := #[] }] 48 2 #[] #[{ accessFlags := 26, nameIndex := 410, descriptorIndex := 49, attributes := #[] }, { accessFlags := 24, nameIndex := 408, descriptorIndex := 409, attributes := #[] }, { accessFlags := 18, nameIndex := 11, descriptorIndex := 17, attributes := #[] }, { accessFlags := 18, nameIndex := 20, descriptorIndex := 24, attributes := #[] }, { accessFlags := 18, nameIndex := 27, descriptorIndex := 31, attributes := #[] }, { accessFlags := 18, nameIndex := 34, descriptorIndex := 38, attributes := #[] }, { accessFlags := 18, nameIndex := 41, descriptorIndex := 45, attributes := #[] }, { accessFlags := 18, nameIndex := 48, descriptorIndex := 49, attributes := #[] }, { accessFlags := 18, nameIndex := 52, descriptorIndex := 53, attributes := #[] }])
  fields := #[{ name := "BEARER", type := (.object "java/lang/String"), accessFlags := 26, slot := 0, constantValue := 0 }, { name := "SECRET_METHODS", type := (.object "java/util/List"), accessFlags := 24, slot := 1, constantValue := 0 }, { name := "tokenEndpoint", type := (.object "com/example/grantline/grantline/authz/TokenEndpoint"), accessFlags := 18, slot := 0, constantValue := 0 }, { name := "deviceAuthorizationEndpoint", type := (.object "com/example/grantline/grantline/authz/DeviceAuthorizationEndpoint"), accessFlags := 18, slot := 1, constantValue := 0 }, { name := "introspectionEndpoint", type := (.object "com/example/grantline/grantline/authz/IntrospectionEndpoint"), accessFlags := 18, slot := 2, constantValue := 0 }, { name := "revocationEndpoint", type := (.object "com/example/grantline/grantline/authz/RevocationEndpoint"), accessFlags := 18, slot := 3, constantValue := 0 }, { name := "userinfoEndpoint", type := (.object "com/example/grantline/grantline/authz/UserinfoEndpoint"), accessFlags := 18, slot := 4, constantValue := 0 }, { name := "devicePage", type := (.object "java/lang/String"), accessFlags := 18, slot := 5, constantValue := 0 }, { name := "addresses", type := (.object "com/example/grantline/grantline/server/ClientAddress"), accessFlags := 18, slot := 6, constantValue := 0 }]
  methods := #[k7m0]
  instanceTypes := #[(.object "com/example/grantline/grantline/authz/TokenEndpoint"), (.object "com/example/grantline/grantline/authz/DeviceAuthorizationEndpoint"), (.object "com/example/grantline/grantline/authz/IntrospectionEndpoint"), (.object "com/example/grantline/grantline/authz/RevocationEndpoint"), (.object "com/example/grantline/grantline/authz/UserinfoEndpoint"), (.object "java/lang/String"), (.object "com/example/grantline/grantline/server/ClientAddress")]
  staticTypes := #[(.object "java/lang/String"), (.object "java/util/List")]
  resolved := Array.replicate 473 none
  statics := none }

def pool8 : Array CpInfo := pool [(8, .class_ 10), (1, u "com/example/grantline/grantline/server/ClientRequests$1"), (0, u "$SwitchMap$com$example$grantline$grantline$authz$OauthError"), (0, u "[I"), (19, .class_ 33), (0, u "java/lang/Object"), (8, .class_ 43), (0, u "com/example/grantline/grantline/server/ClientRequests")] 2

/-- com/example/grantline/grantline/server/ClientRequests$1 -/
def k8 : Class := { plain "com/example/grantline/grantline/server/ClientRequests$1" (some 0) with
  accessFlags := 4128
  interfaces := #[]
  cf := some (fileOf pool8 8 #[.nestHost 42] #[] 4128 32 #[] #[{ accessFlags := 4120, nameIndex := 11, descriptorIndex := 12, attributes := #[] }])
  fields := #[{ name := "$SwitchMap$com$example$grantline$grantline$authz$OauthError", type := (.array .int), accessFlags := 4120, slot := 0, constantValue := 0 }]
  methods := #[]
  instanceTypes := #[]
  staticTypes := #[(.array .int)]
  resolved := Array.replicate 46 none
  statics := some 1 }

def pool9 : Array CpInfo := pool [(1, u "java/lang/Cloneable"), (0, .class_ 1), (0, u "java/lang/Object"), (0, .class_ 3)] 3

/-- java/lang/Cloneable -/
def k9 : Class := { plain "java/lang/Cloneable" (some 0) with
  accessFlags := 1537
  interfaces := #[]
  cf := some (fileOf pool9 2 #[] #[] 1537 4 #[] #[])
  fields := #[]
  methods := #[]
  instanceTypes := #[]
  staticTypes := #[]
  resolved := Array.replicate 8 none
  statics := none }

/-- the primitive byte -/
def k10 : Class := { plain "byte" none with kind := .primitive 'B', accessFlags := 0x411 }
/-- [B -/
def k11 : Class := { plain "[B" (some 0) with kind := .array 10 .byte, interfaces := #[9, 4], accessFlags := 1041 }

/-- the primitive int -/
def k12 : Class := { plain "int" none with kind := .primitive 'I', accessFlags := 0x411 }
/-- [I -/
def k13 : Class := { plain "[I" (some 0) with kind := .array 12 .int, interfaces := #[9, 4], accessFlags := 1041 }

/-- [Lcom/example/grantline/grantline/authz/OauthError; -/
def k14 : Class := { plain "[Lcom/example/grantline/grantline/authz/OauthError;" (some 0) with kind := .array 6 (.object "com/example/grantline/grantline/authz/OauthError"), interfaces := #[9, 4], accessFlags := 1041 }

def heap : Heap := #[{ cls := 6, slots := #[.ref 2, .ref 3, .ref 4, .ref 5, .ref 6, .ref 7, .ref 8, .ref 9, .ref 10, .ref 11, .ref 12, .ref 13, .ref 14, .ref 15, .ref 16, .ref 17, .null], vm := .statics 6 },
  { cls := 8, slots := #[.ref 18], vm := .statics 8 },
  { cls := 6, slots := #[.null, .int 0, .int 0, .null], vm := .none },
  { cls := 6, slots := #[.null, .int 1, .int 0, .null], vm := .none },
  { cls := 6, slots := #[.null, .int 2, .int 0, .null], vm := .none },
  { cls := 6, slots := #[.null, .int 3, .int 0, .null], vm := .none },
  { cls := 6, slots := #[.null, .int 4, .int 0, .null], vm := .none },
  { cls := 6, slots := #[.null, .int 5, .int 0, .null], vm := .none },
  { cls := 6, slots := #[.null, .int 6, .int 0, .null], vm := .none },
  { cls := 6, slots := #[.null, .int 7, .int 0, .null], vm := .none },
  { cls := 6, slots := #[.null, .int 8, .int 0, .null], vm := .none },
  { cls := 6, slots := #[.null, .int 9, .int 0, .null], vm := .none },
  { cls := 6, slots := #[.null, .int 10, .int 0, .null], vm := .none },
  { cls := 6, slots := #[.null, .int 11, .int 0, .null], vm := .none },
  { cls := 6, slots := #[.null, .int 12, .int 0, .null], vm := .none },
  { cls := 6, slots := #[.null, .int 13, .int 0, .null], vm := .none },
  { cls := 6, slots := #[.null, .int 14, .int 0, .null], vm := .none },
  { cls := 6, slots := #[.null, .int 15, .int 0, .null], vm := .none },
  { cls := 13, slots := #[.int 0, .int 1, .int 0, .int 0, .int 0, .int 0, .int 0, .int 0, .int 0, .int 0, .int 0, .int 0, .int 0, .int 4, .int 2, .int 3], vm := .none }]
def classes : Array Class := #[k0, k1, k2, k3, k4, k5, k6, k7, k8, k9, k10, k11, k12, k13, k14]
def interned : List (Array UInt16 × Addr) := []
def slotsUsed : Nat := 98
def theMethod : MethodId := ⟨1, 1⟩
def args0 : Array Value := #[.int 5]
def aboutOver (below : List Frame) : State where
  vm := { classes := classes, interned := interned.toArray }
  heap := heap
  slotsUsed := slotsUsed
  threads := #[{ frames := .invoking theMethod args0 :: below }]
def below0 : List Frame := [.native { method := ⟨0, 0⟩, args := #[] }]
def about1 : State := aboutOver below0
def p0 : Program := .bare "" "" ""
def e0 : Env := launch0.env 0 0 0
theorem w_frames : about1.frames = Frame.invoking theMethod args0 :: below0 := rfl
set_option maxRecDepth 65536 in
theorem w_args : argsFit about1.vm theMethod args0 = true := by decide +kernel
set_option maxRecDepth 65536 in
theorem w_heap : heapFits about1 = true := by decide +kernel
set_option maxRecDepth 65536 in
theorem w_runnable : about1.curStatus? = some .runnable := by decide +kernel
set_option maxRecDepth 65536 in
theorem w_alone : about1.alone = true := by decide +kernel
set_option maxRecDepth 65536 in
theorem w_named : about1.methodNamed? x = some theMethod := by decide +kernel
set_option maxRecDepth 65536 in
theorem w_hears : about1.hears theMethod below0 = true := by decide +kernel
set_option maxRecDepth 65536 in
theorem w_ripe : about1.ripe theMethod args0 below0 = true := by decide +kernel
theorem w_running : about1.status = .running := rfl
set_option maxRecDepth 65536 in
theorem w_room : about1.hasRoom e0.platform room_1 = true :=
  launch0.hasRoom_least _ room_1 (by decide +kernel) (by decide +kernel) (by decide +kernel) (by decide +kernel) (by decide +kernel) (by decide +kernel)
theorem allAtoms_all (ts : List Jvm.Cond) (a : Array Jvm.Value) (st : Jvm.State) : (allAtoms ts).before a st = ts.all (fun c => c.before a st) := by
  induction ts with
  | nil => rfl
  | cons c t ih =>
    show (Jvm.Cond.and c (allAtoms t)).before a st = _
    rw [Jvm.Cond.before_and, ih, List.all_cons]
def words1 : List Jvm.Cond := Jvm.Cond.code x code maxLocals ret :: tables_1
/-- a 'code' word, met by the world's own term for the bytes: nothing is compared byte by byte -/
theorem code_word {y : MethodName} {bytes : ByteArray} {mx : Nat} {rt : Option FieldType} {a : Array Value} {s : State} {m : MethodId} {meth : Method} {c : Code} (h1 : s.methodNamed? y = some m) (h2 : s.vm.method? m = some meth) (h3 : meth.code = some c) (h4 : c.code = bytes)
    (h5 : (c.maxLocals == mx && c.exceptionTable.isEmpty && decide (c.maxStack ≤ mostOperands) && decide (meth.sig.returnType = rt) && !meth.locks && decide (parseMethodDescriptor y.desc = some meth.sig)) = true) : (Jvm.Cond.code y bytes mx rt).before a s = true := by
  simp only [Bool.and_eq_true, beq_iff_eq, Bool.not_eq_true', decide_eq_true_eq] at h5
  obtain ⟨⟨⟨⟨⟨g1, g2⟩, g3⟩, g4⟩, g5⟩, g6⟩ := h5
  simp [Cond.before, Cond.holds, Cond.value, h1, h2, h3, h4, g1, g2, g3, g4, g5, g6]
def isCode : Jvm.Cond → Bool
  | .code _ _ _ _ => true
  | _ => false
theorem all_split {L : List Jvm.Cond} {P : Jvm.Cond → Bool} (h1 : L.all (fun c => isCode c || P c) = true) (h2 : ∀ c ∈ L.filter isCode, P c = true) : L.all P = true := by
  refine List.all_eq_true.mpr fun c hc => ?_
  have h := List.all_eq_true.mp h1 c hc
  rcases Bool.eq_false_or_eq_true (isCode c) with hi | hi
  · exact h2 c (List.mem_filter.mpr ⟨hc, hi⟩)
  · simpa [hi] using h
set_option maxRecDepth 65536 in
theorem w_c0 : (Jvm.Cond.code x code maxLocals ret).before args0 about1 = true := code_word (m := ⟨1, 1⟩) (meth := k1m1) (c := k1c1) (by decide +kernel) rfl rfl rfl (by decide +kernel)
set_option maxRecDepth 65536 in
theorem w_c1 : (Jvm.Cond.code ({ cls := "com/example/grantline/grantline/server/ClientRequestsStatusOfPinLaw", name := "expectedStatus", desc := "(Lcom/example/grantline/grantline/authz/OauthError;)I" } : Jvm.MethodName) method_3_code (1 : Nat) (Option.some Jvm.ClassFile.FieldType.int)).before args0 about1 = true := code_word (m := ⟨1, 2⟩) (meth := k1m2) (c := k1c2) (by decide +kernel) rfl rfl rfl (by decide +kernel)
set_option maxRecDepth 65536 in
theorem w_c2 : (Jvm.Cond.code ({ cls := "com/example/grantline/grantline/server/ClientRequests", name := "statusOf", desc := "(Lcom/example/grantline/grantline/authz/OauthError;)I" } : Jvm.MethodName) prog_127_method_9_code (1 : Nat) (Option.some Jvm.ClassFile.FieldType.int)).before args0 about1 = true := code_word (m := ⟨7, 0⟩) (meth := k7m0) (c := k7c0) (by decide +kernel) rfl rfl rfl (by decide +kernel)
set_option maxRecDepth 65536 in
theorem w_c3 : (Jvm.Cond.code ({ cls := "java/lang/Enum", name := "ordinal", desc := "()I" } : Jvm.MethodName) jdk_37_method_2_code (1 : Nat) (Option.some Jvm.ClassFile.FieldType.int)).before args0 about1 = true := code_word (m := ⟨5, 0⟩) (meth := k5m0) (c := k5c0) (by decide +kernel) rfl rfl rfl (by decide +kernel)
def codes1 : List Jvm.Cond := [Jvm.Cond.code x code maxLocals ret, Jvm.Cond.code ({ cls := "com/example/grantline/grantline/server/ClientRequestsStatusOfPinLaw", name := "expectedStatus", desc := "(Lcom/example/grantline/grantline/authz/OauthError;)I" } : Jvm.MethodName) method_3_code (1 : Nat) (Option.some Jvm.ClassFile.FieldType.int), Jvm.Cond.code ({ cls := "com/example/grantline/grantline/server/ClientRequests", name := "statusOf", desc := "(Lcom/example/grantline/grantline/authz/OauthError;)I" } : Jvm.MethodName) prog_127_method_9_code (1 : Nat) (Option.some Jvm.ClassFile.FieldType.int), Jvm.Cond.code ({ cls := "java/lang/Enum", name := "ordinal", desc := "()I" } : Jvm.MethodName) jdk_37_method_2_code (1 : Nat) (Option.some Jvm.ClassFile.FieldType.int)]
set_option maxRecDepth 65536 in
theorem codes_eq : words1.filter isCode = codes1 := rfl
theorem w_codes : ∀ c ∈ words1.filter isCode, c.before args0 about1 = true := by
  rw [codes_eq]
  intro c hc
  simp only [codes1, List.mem_cons, List.not_mem_nil, or_false] at hc
  rcases hc with rfl | rfl | rfl | rfl
  · exact w_c0
  · exact w_c1
  · exact w_c2
  · exact w_c3
set_option maxRecDepth 65536 in
theorem w_t1 : (words1.take 24).all (fun c => isCode c || c.before args0 about1) = true := by decide +kernel
set_option maxRecDepth 65536 in
theorem w_t2 : ((words1.drop 24).take 24).all (fun c => isCode c || c.before args0 about1) = true := by decide +kernel
set_option maxRecDepth 65536 in
theorem w_t3 : ((words1.drop 24).drop 24).all (fun c => isCode c || c.before args0 about1) = true := by decide +kernel
theorem w_tables : (allAtoms (Jvm.Cond.code x code maxLocals ret :: tables_1)).before args0 about1 = true := by
  rw [allAtoms_all]
  show words1.all (fun c => c.before args0 about1) = true
  refine all_split ?_ w_codes
  rw [← List.take_append_drop 24 words1, List.all_append, w_t1, ← List.take_append_drop 24 (words1.drop 24), List.all_append, w_t2, w_t3]
  rfl
set_option maxRecDepth 65536 in
theorem w_case : (Jvm.Cond.and given_1 narrow_1).before args0 about1 = true := by decide +kernel
theorem w_applies : (headSpec (Jvm.Cond.code x code maxLocals ret :: tables_1) room_1).applies x e0.platform about1 = true :=
  (Spec.applies_iff w_frames).mpr ⟨w_running, w_runnable, w_alone, w_named, w_hears, w_ripe, w_room, w_tables⟩
theorem atStart : AtStart classFile x code maxLocals ret World_1 tables_1 room_1 Calls_1 rest_1 Pre_1 launch0 p0 e0 about1 theMethod args0 below0 :=
  ⟨lists_1, trivial, launch0.admits_env _ _ _, launch0.least_env, fairChoices_fair.cas, fairChoices_fair.clock, w_frames, w_args, w_heap, w_applies, trivial, trivial, w_case⟩
end start1
theorem witness_1 : WitnessClaimed_1 := ⟨start1.p0, start1.e0, start1.about1, start1.theMethod, start1.args0, start1.below0, start1.atStart⟩
end Jvm.Pilot.@@N@@
