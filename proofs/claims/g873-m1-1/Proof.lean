import JvmDerived
import JvmDerived.Pilot.@@N@@Statement
import JvmDerived.Pilot.@@N@@Code
set_option linter.unusedVariables false
set_option linter.unusedSimpArgs false
namespace Jvm.RoadKit
open Sem ClassFile Op Lib Jvm.Stand Jvm.Free Jvm.LawKit
section New
variable {p : Program} {l : Launch} {e : Env} {R : Room} {s : State} {m : MethodId} {args : Array Value} {below : List Frame} {meth : Method} {c : Code} {T : State} {locs : List Loc} {cells slots : Nat}
theorem retI (X : Stand p l e R s m args below meth c T locs cells slots) (hx : p.tables.exec = Jvm.exec) {pc : Nat} {Ls : Array Slot} {z : Int32} {rest : List Value} (hret : meth.sig.returnType = some .int) (hd : decode c.code pc = .ok (.ireturn, 1)) {fs : List Frame}
    (hl : ∀ (f : JFrame) (acts : List Action), f.method = m → f.locked = none → f.entered = [] → (doReturn e (T.setTop f) acts (some (.int z))).1 = T.setFrames fs) : Steps p.tables e below (T.setTop (mkF m pc Ls (.int z :: rest))) (T.setFrames fs) := by
  have hm' : T.vm.method? m = some meth := X.method'
  have hn : narrow .int (.int z) = .int z := rfl
  show Steps p.tables e below (T.setTop { method := m, pc := pc, locals := Ls, stack := _ :: rest, locked := none }) _
  jvm_step X.here [X.here.top, hx, hd, hm', hret, hn]
  first | (intro acts; rw [hl _ acts rfl rfl rfl]) | rw [hl _ _ rfl rfl rfl]
  exact Steps.refl _
end New
end Jvm.RoadKit
namespace Jvm.Pilot.@@N@@
open Jvm Jvm.ClassFile Sem Op Lib Jvm.Free Jvm.Stand Jvm.LawKit Jvm.RoadKit Bundle Jvm.Pilot.@@N@@.Jvm.D
abbrev uu : Slot := .unset
def QV (r : Option Value) (h0 : Heap) (n0 : Nat) (v : Option Value) (h : Heap) (L : List Loc) : Prop := v = r ∧ Fr n0 L ∧ h = h0
open Jvm.Free.Fl in
theorem own_div {a b : Int64} (h : b ≠ 0) : NoNaN64 (FP.ddiv (FP.l2d a) (FP.l2d b)) := ((ddiv_mag (l2d_mag a) (l2d_big h) (by decide) (by decide)).fin (by decide)).noNaN
theorem own_l2d (a : Int64) : Jvm.Free.Fl.NoNaN64 (FP.l2d a) := nn_w rfl
theorem own_b {a : Int64} (h : 0 ≤ a.toInt ∧ a.toInt < 8000000) : B53 a := ⟨by omega, by omega⟩
theorem own_add {a b : Int64} (ha : 0 ≤ a.toInt ∧ a.toInt < 4000000) (hb : 0 ≤ b.toInt ∧ b.toInt < 4000000) : (a + b).toInt = a.toInt + b.toInt := add64 ⟨by omega, by omega⟩ ⟨by omega, by omega⟩
theorem d1_0 : decode prog_49_method_4_code 0 = .ok (.aload_n 0, 1) := by decide +kernel
theorem d1_1 : decode prog_49_method_4_code 1 = .ok (.getstatic 3, 3) := by decide +kernel
theorem d1_4 : decode prog_49_method_4_code 4 = .ok (.if_acmp .eq 10, 3) := by decide +kernel
theorem d1_7 : decode prog_49_method_4_code 7 = .ok (.aload_n 0, 1) := by decide +kernel
theorem d1_8 : decode prog_49_method_4_code 8 = .ok (.getstatic 7, 3) := by decide +kernel
theorem d1_11 : decode prog_49_method_4_code 11 = .ok (.if_acmp .ne 21, 3) := by decide +kernel
theorem d1_14 : decode prog_49_method_4_code 14 = .ok (.aload_n 1, 1) := by decide +kernel
theorem d1_15 : decode prog_49_method_4_code 15 = .ok (.aload_n 0, 1) := by decide +kernel
theorem d1_16 : decode prog_49_method_4_code 16 = .ok (.getstatic 3, 3) := by decide +kernel
theorem d1_19 : decode prog_49_method_4_code 19 = .ok (.if_acmp .ne 7, 3) := by decide +kernel
theorem d1_22 : decode prog_49_method_4_code 22 = .ok (.iconst 0, 1) := by decide +kernel
theorem d1_23 : decode prog_49_method_4_code 23 = .ok (.goto 7, 3) := by decide +kernel
theorem d1_26 : decode prog_49_method_4_code 26 = .ok (.aload_n 1, 1) := by decide +kernel
theorem d1_27 : decode prog_49_method_4_code 27 = .ok (.arraylength, 1) := by decide +kernel
theorem d1_28 : decode prog_49_method_4_code 28 = .ok (.iconst 1, 1) := by decide +kernel
theorem d1_29 : decode prog_49_method_4_code 29 = .ok (.isub, 1) := by decide +kernel
theorem d1_30 : decode prog_49_method_4_code 30 = .ok (.daload, 1) := by decide +kernel
theorem d1_31 : decode prog_49_method_4_code 31 = .ok (.dreturn, 1) := by decide +kernel
theorem d1_32 : decode prog_49_method_4_code 32 = .ok (.dconst 0, 1) := by decide +kernel
theorem d1_33 : decode prog_49_method_4_code 33 = .ok (.dstore_n 2, 1) := by decide +kernel
theorem d1_34 : decode prog_49_method_4_code 34 = .ok (.aload_n 1, 1) := by decide +kernel
theorem d1_35 : decode prog_49_method_4_code 35 = .ok (.astore 4, 2) := by decide +kernel
theorem d1_37 : decode prog_49_method_4_code 37 = .ok (.aload 4, 2) := by decide +kernel
theorem d1_39 : decode prog_49_method_4_code 39 = .ok (.arraylength, 1) := by decide +kernel
theorem d1_40 : decode prog_49_method_4_code 40 = .ok (.istore 5, 2) := by decide +kernel
theorem d1_42 : decode prog_49_method_4_code 42 = .ok (.iconst 0, 1) := by decide +kernel
theorem d1_43 : decode prog_49_method_4_code 43 = .ok (.istore 6, 2) := by decide +kernel
theorem d1_45 : decode prog_49_method_4_code 45 = .ok (.iload 6, 2) := by decide +kernel
theorem d1_47 : decode prog_49_method_4_code 47 = .ok (.iload 5, 2) := by decide +kernel
theorem d1_49 : decode prog_49_method_4_code 49 = .ok (.if_icmp .ge 21, 3) := by decide +kernel
theorem d1_52 : decode prog_49_method_4_code 52 = .ok (.aload 4, 2) := by decide +kernel
theorem d1_54 : decode prog_49_method_4_code 54 = .ok (.iload 6, 2) := by decide +kernel
theorem d1_56 : decode prog_49_method_4_code 56 = .ok (.daload, 1) := by decide +kernel
theorem d1_57 : decode prog_49_method_4_code 57 = .ok (.dstore 7, 2) := by decide +kernel
theorem d1_59 : decode prog_49_method_4_code 59 = .ok (.dload_n 2, 1) := by decide +kernel
theorem d1_60 : decode prog_49_method_4_code 60 = .ok (.dload 7, 2) := by decide +kernel
theorem d1_62 : decode prog_49_method_4_code 62 = .ok (.dadd, 1) := by decide +kernel
theorem d1_63 : decode prog_49_method_4_code 63 = .ok (.dstore_n 2, 1) := by decide +kernel
theorem d1_64 : decode prog_49_method_4_code 64 = .ok (.iinc 6 1, 3) := by decide +kernel
theorem d1_67 : decode prog_49_method_4_code 67 = .ok (.goto (-22), 3) := by decide +kernel
theorem d1_70 : decode prog_49_method_4_code 70 = .ok (.aload_n 0, 1) := by decide +kernel
theorem d1_71 : decode prog_49_method_4_code 71 = .ok (.getstatic 13, 3) := by decide +kernel
theorem d1_74 : decode prog_49_method_4_code 74 = .ok (.if_acmp .ne 7, 3) := by decide +kernel
theorem d1_77 : decode prog_49_method_4_code 77 = .ok (.dload_n 2, 1) := by decide +kernel
theorem d1_78 : decode prog_49_method_4_code 78 = .ok (.goto 8, 3) := by decide +kernel
theorem d1_81 : decode prog_49_method_4_code 81 = .ok (.dload_n 2, 1) := by decide +kernel
theorem d1_82 : decode prog_49_method_4_code 82 = .ok (.aload_n 1, 1) := by decide +kernel
theorem d1_83 : decode prog_49_method_4_code 83 = .ok (.arraylength, 1) := by decide +kernel
theorem d1_84 : decode prog_49_method_4_code 84 = .ok (.i2d, 1) := by decide +kernel
theorem d1_85 : decode prog_49_method_4_code 85 = .ok (.ddiv, 1) := by decide +kernel
theorem d1_86 : decode prog_49_method_4_code 86 = .ok (.dreturn, 1) := by decide +kernel
theorem pn_1 : plainName "com/example/tiebreaker/tiebreaker/engine/search/DecayFunction$MultiValueMode" = true := by first | (simp [plainName, overriddenIn]; done) | decide +kernel
theorem ef_1 (m : MethodId) (x0 x1 : Addr) : entryFrame m #[(.ref x0), (.ref x1)] 9 = mkF m 0 #[.val (.ref x0), .val (.ref x1), uu, uu, uu, uu, uu, uu, uu] [] := by first | (simp [entryFrame, mkF, argsToLocals, Value.category]; done) | rfl
theorem own_s0 {x0 : Int64} (b0 : 0 ≤ x0.toInt ∧ x0.toInt < 4000000) : FP.dadd (FP.l2d 0) (FP.l2d x0) = FP.l2d x0 := by
  rw [dadd_w ⟨by decide, by decide⟩ (own_b ⟨by omega, by omega⟩), Int64.zero_add]
theorem own_s1 {x0 x1 : Int64} (b0 : 0 ≤ x0.toInt ∧ x0.toInt < 4000000) (b1 : 0 ≤ x1.toInt ∧ x1.toInt < 4000000) : FP.dadd (FP.l2d x0) (FP.l2d x1) = FP.l2d (x0 + x1) :=
  dadd_w (own_b ⟨by omega, by omega⟩) (own_b ⟨by omega, by omega⟩)
theorem own_s2 {x0 x1 x2 : Int64} (b0 : 0 ≤ x0.toInt ∧ x0.toInt < 4000000) (b1 : 0 ≤ x1.toInt ∧ x1.toInt < 4000000) (b2 : 0 ≤ x2.toInt ∧ x2.toInt < 4000000) : FP.dadd (FP.l2d (x0 + x1)) (FP.l2d x2) = FP.l2d ((x0 + x1) + x2) :=
  dadd_w (own_b (by have := own_add b0 b1; omega)) (own_b ⟨by omega, by omega⟩)
set_option maxRecDepth 65536 in
set_option maxHeartbeats 40000000 in
theorem rm1_MIN_1 (l : Launch) (Z : State) (a0 : Array Value) (hw : ∀ d ∈ tables_1, d.before a0 Z = true) (ws : List Jvm.Cond) (a2 : Addr) (wMIN wMAX wAVG wSUM : Addr) (x0 : Int64) (h0 : Heap) (n0 : Nat) (Z0 : n0 ≤ h0.size) (S_MIN : Sta Z h0 "com/example/tiebreaker/tiebreaker/engine/search/DecayFunction$MultiValueMode" "MIN" "Lcom/example/tiebreaker/tiebreaker/engine/search/DecayFunction$MultiValueMode;" (.ref wMIN)) (S_MAX : Sta Z h0 "com/example/tiebreaker/tiebreaker/engine/search/DecayFunction$MultiValueMode" "MAX" "Lcom/example/tiebreaker/tiebreaker/engine/search/DecayFunction$MultiValueMode;" (.ref wMAX)) (S_AVG : Sta Z h0 "com/example/tiebreaker/tiebreaker/engine/search/DecayFunction$MultiValueMode" "AVG" "Lcom/example/tiebreaker/tiebreaker/engine/search/DecayFunction$MultiValueMode;" (.ref wAVG)) (S_SUM : Sta Z h0 "com/example/tiebreaker/tiebreaker/engine/search/DecayFunction$MultiValueMode" "SUM" "Lcom/example/tiebreaker/tiebreaker/engine/search/DecayFunction$MultiValueMode;" (.ref wSUM)) (nXI : ¬ wMAX = wMIN) (nAI : ¬ wAVG = wMIN) (nAX : ¬ wAVG = wMAX) (nSI : ¬ wSUM = wMIN) (nSX : ¬ wSUM = wMAX) (nAS : ¬ wAVG = wSUM) (cl : Cell) (Ar : Arr Z h0 a2 cl .double) (Sz : cl.slots.size = (1 : Int32).toNatClampNeg) (Nn : ¬ (1 : Int32) < 0) (hat0 : cl.slots[0]? = some (.double (FP.l2d x0))) (b0 : 0 ≤ x0.toInt ∧ x0.toInt < 4000000) :
    MetFree l (⟨"com/example/tiebreaker/tiebreaker/engine/search/DecayFunction$MultiValueMode", "pick", "([D)D"⟩ : MethodName) (head1 (Jvm.Cond.code (⟨"com/example/tiebreaker/tiebreaker/engine/search/DecayFunction$MultiValueMode", "pick", "([D)D"⟩ : MethodName) prog_49_method_4_code 9 (some .double) :: ws) ({ frames := 0, cells := 0, slots := 0, locals := 0 } : Room)) (fun a U => a = #[(.ref wMIN), (.ref a2)] ∧ Z.Warmed39 U.vm ∧ U.heap = h0) (fun _ _ _ _ _ => True) (fun _ U o U' => ∃ v L, o = .returned v ∧ QV (some (.double (FP.l2d x0))) h0 n0 v U'.heap L ∧ FrameEnd U o U' L ({ frames := 0, cells := 0, slots := 0, locals := 0 } : Room).cells ({ frames := 0, cells := 0, slots := 0, locals := 0 } : Room).slots) := by
  refine MetFree.of_bodySF (plainFor_of_name pn_1) hisR ?_
  intro p e s m args below meth c s₁ Bd hml0 hP hK
  obtain ⟨rfl, hZ, hh⟩ := hP
  have hx := Bd.exec
  have hby := Bd.bytes
  have hml : c.maxLocals = 9 := hml0
  have hown : s.vm.findClass "com/example/tiebreaker/tiebreaker/engine/search/DecayFunction$MultiValueMode" = some m.cls := findClass_of_methodNamed Bd.named
  have X0 : Stand p l e ({ frames := 0, cells := 0, slots := 0, locals := 0 } : Room) s m #[(.ref wMIN), (.ref a2)] below meth c s₁ [] 0 0 := Stand.of_body Bd
  have e0 : s₁.heap = h0 := by rw [← hh, Bd.state]; rfl
  have N0 := Fr.nil n0
  have pre0 : ∀ t, Steps p.tables e below (s₁.setTop (mkF m 0 #[.val (.ref wMIN), .val (.ref a2), uu, uu, uu, uu, uu, uu, uu] [])) t → Steps p.tables e below (s₁.setTop (entryFrame m #[(.ref wMIN), (.ref a2)] 9)) t := fun t k => castTop (ef_1 m wMIN a2) k
  obtain ⟨T50, X50, e50, st50⟩ := getS2 X0 hx hZ hown (host := "") (Or.inl (hw _ (List.mem_of_getElem? (i := 11) rfl))) Via.refl e0 S_MIN (g := (mkF m 1 #[.val (.ref wMIN), .val (.ref a2), uu, uu, uu, uu, uu, uu, uu] [(.ref wMIN)])) rfl (hb hby d1_1)
  obtain ⟨T51, X51, e51, st51⟩ := getS2 X50 hx hZ hown (host := "") (Or.inl (hw _ (List.mem_of_getElem? (i := 11) rfl))) Via.refl e50 S_MIN (g := (mkF m 16 #[.val (.ref wMIN), .val (.ref a2), uu, uu, uu, uu, uu, uu, uu] [(.ref wMIN), (.ref a2)])) rfl (hb hby d1_16)
  obtain ⟨fs, hr, hrun, hended, hW, hsame⟩ := X51.leave (v := some (.double (FP.l2d x0))) (fun h => by rw [Bd.returns] at h; cases h)
  refine ⟨_, _, pre0 _ ?_, hrun, hended, _, _, rfl, ?_, ⟨_, rfl⟩, hW, hsame.mono (by decide) (by decide)⟩
  · show Steps p.tables e below (s₁.setTop (mkF m 0 #[.val (.ref wMIN), .val (.ref a2), uu, uu, uu, uu, uu, uu, uu] [])) _
    refine XS.aloadN X0.here hx rfl (hb hby d1_0) rfl rfl ?_
    show Steps p.tables e below (s₁.setTop (mkF m 1 #[.val (.ref wMIN), .val (.ref a2), uu, uu, uu, uu, uu, uu, uu] [(.ref wMIN)])) _
    refine st50 _ ?_
    show Steps p.tables e below (T50.setTop (mkF m 4 #[.val (.ref wMIN), .val (.ref a2), uu, uu, uu, uu, uu, uu, uu] [(.ref wMIN), (.ref wMIN)])) _
    refine Jvm.RoadKit.acmp (g := (mkF m 4 #[.val (.ref wMIN), .val (.ref a2), uu, uu, uu, uu, uu, uu, uu] [(.ref wMIN), (.ref wMIN)])) X50 hx rfl rfl rfl (pc0 := 4) (pc' := 14) (same := true) rfl (hb hby d1_4) rfl (decide_eq_true rfl) (by decide) (by decide) ?_
    show Steps p.tables e below (T50.setTop (mkF m 14 #[.val (.ref wMIN), .val (.ref a2), uu, uu, uu, uu, uu, uu, uu] [])) _
    refine XS.aloadN X50.here hx rfl (hb hby d1_14) rfl rfl ?_
    show Steps p.tables e below (T50.setTop (mkF m 15 #[.val (.ref wMIN), .val (.ref a2), uu, uu, uu, uu, uu, uu, uu] [(.ref a2)])) _
    refine XS.aloadN X50.here hx rfl (hb hby d1_15) rfl rfl ?_
    show Steps p.tables e below (T50.setTop (mkF m 16 #[.val (.ref wMIN), .val (.ref a2), uu, uu, uu, uu, uu, uu, uu] [(.ref wMIN), (.ref a2)])) _
    refine st51 _ ?_
    show Steps p.tables e below (T51.setTop (mkF m 19 #[.val (.ref wMIN), .val (.ref a2), uu, uu, uu, uu, uu, uu, uu] [(.ref wMIN), (.ref wMIN), (.ref a2)])) _
    refine Jvm.RoadKit.acmp (g := (mkF m 19 #[.val (.ref wMIN), .val (.ref a2), uu, uu, uu, uu, uu, uu, uu] [(.ref wMIN), (.ref wMIN), (.ref a2)])) X51 hx rfl rfl rfl (pc0 := 19) (pc' := 22) (same := true) rfl (hb hby d1_19) rfl (decide_eq_true rfl) (by decide) (by decide) ?_
    show Steps p.tables e below (T51.setTop (mkF m 22 #[.val (.ref wMIN), .val (.ref a2), uu, uu, uu, uu, uu, uu, uu] [(.ref a2)])) _
    refine XS.iconst X51.here hx rfl (hb hby d1_22) ?_
    show Steps p.tables e below (T51.setTop (mkF m 23 #[.val (.ref wMIN), .val (.ref a2), uu, uu, uu, uu, uu, uu, uu] [(.int (0 : Int32)), (.ref a2)])) _
    refine XS.goto X51.here hx rfl (pc0 := 23) (pc' := 30) rfl (hb hby d1_23) (by decide) (by decide) ?_
    show Steps p.tables e below (T51.setTop (mkF m 30 #[.val (.ref wMIN), .val (.ref a2), uu, uu, uu, uu, uu, uu, uu] [(.int (0 : Int32)), (.ref a2)])) _
    refine X51.daload hx (j := (0 : Int32)) (v := (.double (FP.l2d x0))) (by rw [e51]; exact Ar.1) (State.isArrayOf_alike hZ.alike Ar.2.1) Ar.2.2 (inb_of Sz (by decide)) (by rw [show ((0 : Int32)).toNatClampNeg = 0 by decide]; exact hat0) (g := (mkF m 30 #[.val (.ref wMIN), .val (.ref a2), uu, uu, uu, uu, uu, uu, uu] [(.int (0 : Int32)), (.ref a2)])) rfl rfl (hb hby d1_30) _ ?_
    show Steps p.tables e below (T51.setTop (mkF m 31 #[.val (.ref wMIN), .val (.ref a2), uu, uu, uu, uu, uu, uu, uu] [(.double (FP.l2d x0))])) _
    exact retOut X51 hx (t := .double) Bd.returns rfl (Or.inr (Or.inr (Or.inl ⟨rfl, rfl, _, rfl⟩))) (hb hby d1_31) hr
  · show QV (some (.double (FP.l2d x0))) h0 n0 _ T51.heap _
    rw [e51]
    exact ⟨rfl, N0, rfl⟩
set_option maxRecDepth 65536 in
set_option maxHeartbeats 40000000 in
theorem rm1_MIN_2 (l : Launch) (Z : State) (a0 : Array Value) (hw : ∀ d ∈ tables_1, d.before a0 Z = true) (ws : List Jvm.Cond) (a2 : Addr) (wMIN wMAX wAVG wSUM : Addr) (x0 x1 : Int64) (h0 : Heap) (n0 : Nat) (Z0 : n0 ≤ h0.size) (S_MIN : Sta Z h0 "com/example/tiebreaker/tiebreaker/engine/search/DecayFunction$MultiValueMode" "MIN" "Lcom/example/tiebreaker/tiebreaker/engine/search/DecayFunction$MultiValueMode;" (.ref wMIN)) (S_MAX : Sta Z h0 "com/example/tiebreaker/tiebreaker/engine/search/DecayFunction$MultiValueMode" "MAX" "Lcom/example/tiebreaker/tiebreaker/engine/search/DecayFunction$MultiValueMode;" (.ref wMAX)) (S_AVG : Sta Z h0 "com/example/tiebreaker/tiebreaker/engine/search/DecayFunction$MultiValueMode" "AVG" "Lcom/example/tiebreaker/tiebreaker/engine/search/DecayFunction$MultiValueMode;" (.ref wAVG)) (S_SUM : Sta Z h0 "com/example/tiebreaker/tiebreaker/engine/search/DecayFunction$MultiValueMode" "SUM" "Lcom/example/tiebreaker/tiebreaker/engine/search/DecayFunction$MultiValueMode;" (.ref wSUM)) (nXI : ¬ wMAX = wMIN) (nAI : ¬ wAVG = wMIN) (nAX : ¬ wAVG = wMAX) (nSI : ¬ wSUM = wMIN) (nSX : ¬ wSUM = wMAX) (nAS : ¬ wAVG = wSUM) (cl : Cell) (Ar : Arr Z h0 a2 cl .double) (Sz : cl.slots.size = (2 : Int32).toNatClampNeg) (Nn : ¬ (2 : Int32) < 0) (hat0 : cl.slots[0]? = some (.double (FP.l2d x0))) (hat1 : cl.slots[1]? = some (.double (FP.l2d x1))) (b0 : 0 ≤ x0.toInt ∧ x0.toInt < 4000000) (b1 : 0 ≤ x1.toInt ∧ x1.toInt < 4000000) :
    MetFree l (⟨"com/example/tiebreaker/tiebreaker/engine/search/DecayFunction$MultiValueMode", "pick", "([D)D"⟩ : MethodName) (head1 (Jvm.Cond.code (⟨"com/example/tiebreaker/tiebreaker/engine/search/DecayFunction$MultiValueMode", "pick", "([D)D"⟩ : MethodName) prog_49_method_4_code 9 (some .double) :: ws) ({ frames := 0, cells := 0, slots := 0, locals := 0 } : Room)) (fun a U => a = #[(.ref wMIN), (.ref a2)] ∧ Z.Warmed39 U.vm ∧ U.heap = h0) (fun _ _ _ _ _ => True) (fun _ U o U' => ∃ v L, o = .returned v ∧ QV (some (.double (FP.l2d x0))) h0 n0 v U'.heap L ∧ FrameEnd U o U' L ({ frames := 0, cells := 0, slots := 0, locals := 0 } : Room).cells ({ frames := 0, cells := 0, slots := 0, locals := 0 } : Room).slots) := by
  refine MetFree.of_bodySF (plainFor_of_name pn_1) hisR ?_
  intro p e s m args below meth c s₁ Bd hml0 hP hK
  obtain ⟨rfl, hZ, hh⟩ := hP
  have hx := Bd.exec
  have hby := Bd.bytes
  have hml : c.maxLocals = 9 := hml0
  have hown : s.vm.findClass "com/example/tiebreaker/tiebreaker/engine/search/DecayFunction$MultiValueMode" = some m.cls := findClass_of_methodNamed Bd.named
  have X0 : Stand p l e ({ frames := 0, cells := 0, slots := 0, locals := 0 } : Room) s m #[(.ref wMIN), (.ref a2)] below meth c s₁ [] 0 0 := Stand.of_body Bd
  have e0 : s₁.heap = h0 := by rw [← hh, Bd.state]; rfl
  have N0 := Fr.nil n0
  have pre0 : ∀ t, Steps p.tables e below (s₁.setTop (mkF m 0 #[.val (.ref wMIN), .val (.ref a2), uu, uu, uu, uu, uu, uu, uu] [])) t → Steps p.tables e below (s₁.setTop (entryFrame m #[(.ref wMIN), (.ref a2)] 9)) t := fun t k => castTop (ef_1 m wMIN a2) k
  obtain ⟨T50, X50, e50, st50⟩ := getS2 X0 hx hZ hown (host := "") (Or.inl (hw _ (List.mem_of_getElem? (i := 11) rfl))) Via.refl e0 S_MIN (g := (mkF m 1 #[.val (.ref wMIN), .val (.ref a2), uu, uu, uu, uu, uu, uu, uu] [(.ref wMIN)])) rfl (hb hby d1_1)
  obtain ⟨T51, X51, e51, st51⟩ := getS2 X50 hx hZ hown (host := "") (Or.inl (hw _ (List.mem_of_getElem? (i := 11) rfl))) Via.refl e50 S_MIN (g := (mkF m 16 #[.val (.ref wMIN), .val (.ref a2), uu, uu, uu, uu, uu, uu, uu] [(.ref wMIN), (.ref a2)])) rfl (hb hby d1_16)
  obtain ⟨fs, hr, hrun, hended, hW, hsame⟩ := X51.leave (v := some (.double (FP.l2d x0))) (fun h => by rw [Bd.returns] at h; cases h)
  refine ⟨_, _, pre0 _ ?_, hrun, hended, _, _, rfl, ?_, ⟨_, rfl⟩, hW, hsame.mono (by decide) (by decide)⟩
  · show Steps p.tables e below (s₁.setTop (mkF m 0 #[.val (.ref wMIN), .val (.ref a2), uu, uu, uu, uu, uu, uu, uu] [])) _
    refine XS.aloadN X0.here hx rfl (hb hby d1_0) rfl rfl ?_
    show Steps p.tables e below (s₁.setTop (mkF m 1 #[.val (.ref wMIN), .val (.ref a2), uu, uu, uu, uu, uu, uu, uu] [(.ref wMIN)])) _
    refine st50 _ ?_
    show Steps p.tables e below (T50.setTop (mkF m 4 #[.val (.ref wMIN), .val (.ref a2), uu, uu, uu, uu, uu, uu, uu] [(.ref wMIN), (.ref wMIN)])) _
    refine Jvm.RoadKit.acmp (g := (mkF m 4 #[.val (.ref wMIN), .val (.ref a2), uu, uu, uu, uu, uu, uu, uu] [(.ref wMIN), (.ref wMIN)])) X50 hx rfl rfl rfl (pc0 := 4) (pc' := 14) (same := true) rfl (hb hby d1_4) rfl (decide_eq_true rfl) (by decide) (by decide) ?_
    show Steps p.tables e below (T50.setTop (mkF m 14 #[.val (.ref wMIN), .val (.ref a2), uu, uu, uu, uu, uu, uu, uu] [])) _
    refine XS.aloadN X50.here hx rfl (hb hby d1_14) rfl rfl ?_
    show Steps p.tables e below (T50.setTop (mkF m 15 #[.val (.ref wMIN), .val (.ref a2), uu, uu, uu, uu, uu, uu, uu] [(.ref a2)])) _
    refine XS.aloadN X50.here hx rfl (hb hby d1_15) rfl rfl ?_
    show Steps p.tables e below (T50.setTop (mkF m 16 #[.val (.ref wMIN), .val (.ref a2), uu, uu, uu, uu, uu, uu, uu] [(.ref wMIN), (.ref a2)])) _
    refine st51 _ ?_
    show Steps p.tables e below (T51.setTop (mkF m 19 #[.val (.ref wMIN), .val (.ref a2), uu, uu, uu, uu, uu, uu, uu] [(.ref wMIN), (.ref wMIN), (.ref a2)])) _
    refine Jvm.RoadKit.acmp (g := (mkF m 19 #[.val (.ref wMIN), .val (.ref a2), uu, uu, uu, uu, uu, uu, uu] [(.ref wMIN), (.ref wMIN), (.ref a2)])) X51 hx rfl rfl rfl (pc0 := 19) (pc' := 22) (same := true) rfl (hb hby d1_19) rfl (decide_eq_true rfl) (by decide) (by decide) ?_
    show Steps p.tables e below (T51.setTop (mkF m 22 #[.val (.ref wMIN), .val (.ref a2), uu, uu, uu, uu, uu, uu, uu] [(.ref a2)])) _
    refine XS.iconst X51.here hx rfl (hb hby d1_22) ?_
    show Steps p.tables e below (T51.setTop (mkF m 23 #[.val (.ref wMIN), .val (.ref a2), uu, uu, uu, uu, uu, uu, uu] [(.int (0 : Int32)), (.ref a2)])) _
    refine XS.goto X51.here hx rfl (pc0 := 23) (pc' := 30) rfl (hb hby d1_23) (by decide) (by decide) ?_
    show Steps p.tables e below (T51.setTop (mkF m 30 #[.val (.ref wMIN), .val (.ref a2), uu, uu, uu, uu, uu, uu, uu] [(.int (0 : Int32)), (.ref a2)])) _
    refine X51.daload hx (j := (0 : Int32)) (v := (.double (FP.l2d x0))) (by rw [e51]; exact Ar.1) (State.isArrayOf_alike hZ.alike Ar.2.1) Ar.2.2 (inb_of Sz (by decide)) (by rw [show ((0 : Int32)).toNatClampNeg = 0 by decide]; exact hat0) (g := (mkF m 30 #[.val (.ref wMIN), .val (.ref a2), uu, uu, uu, uu, uu, uu, uu] [(.int (0 : Int32)), (.ref a2)])) rfl rfl (hb hby d1_30) _ ?_
    show Steps p.tables e below (T51.setTop (mkF m 31 #[.val (.ref wMIN), .val (.ref a2), uu, uu, uu, uu, uu, uu, uu] [(.double (FP.l2d x0))])) _
    exact retOut X51 hx (t := .double) Bd.returns rfl (Or.inr (Or.inr (Or.inl ⟨rfl, rfl, _, rfl⟩))) (hb hby d1_31) hr
  · show QV (some (.double (FP.l2d x0))) h0 n0 _ T51.heap _
    rw [e51]
    exact ⟨rfl, N0, rfl⟩
set_option maxRecDepth 65536 in
set_option maxHeartbeats 40000000 in
theorem rm1_MIN_3 (l : Launch) (Z : State) (a0 : Array Value) (hw : ∀ d ∈ tables_1, d.before a0 Z = true) (ws : List Jvm.Cond) (a2 : Addr) (wMIN wMAX wAVG wSUM : Addr) (x0 x1 x2 : Int64) (h0 : Heap) (n0 : Nat) (Z0 : n0 ≤ h0.size) (S_MIN : Sta Z h0 "com/example/tiebreaker/tiebreaker/engine/search/DecayFunction$MultiValueMode" "MIN" "Lcom/example/tiebreaker/tiebreaker/engine/search/DecayFunction$MultiValueMode;" (.ref wMIN)) (S_MAX : Sta Z h0 "com/example/tiebreaker/tiebreaker/engine/search/DecayFunction$MultiValueMode" "MAX" "Lcom/example/tiebreaker/tiebreaker/engine/search/DecayFunction$MultiValueMode;" (.ref wMAX)) (S_AVG : Sta Z h0 "com/example/tiebreaker/tiebreaker/engine/search/DecayFunction$MultiValueMode" "AVG" "Lcom/example/tiebreaker/tiebreaker/engine/search/DecayFunction$MultiValueMode;" (.ref wAVG)) (S_SUM : Sta Z h0 "com/example/tiebreaker/tiebreaker/engine/search/DecayFunction$MultiValueMode" "SUM" "Lcom/example/tiebreaker/tiebreaker/engine/search/DecayFunction$MultiValueMode;" (.ref wSUM)) (nXI : ¬ wMAX = wMIN) (nAI : ¬ wAVG = wMIN) (nAX : ¬ wAVG = wMAX) (nSI : ¬ wSUM = wMIN) (nSX : ¬ wSUM = wMAX) (nAS : ¬ wAVG = wSUM) (cl : Cell) (Ar : Arr Z h0 a2 cl .double) (Sz : cl.slots.size = (3 : Int32).toNatClampNeg) (Nn : ¬ (3 : Int32) < 0) (hat0 : cl.slots[0]? = some (.double (FP.l2d x0))) (hat1 : cl.slots[1]? = some (.double (FP.l2d x1))) (hat2 : cl.slots[2]? = some (.double (FP.l2d x2))) (b0 : 0 ≤ x0.toInt ∧ x0.toInt < 4000000) (b1 : 0 ≤ x1.toInt ∧ x1.toInt < 4000000) (b2 : 0 ≤ x2.toInt ∧ x2.toInt < 4000000) :
    MetFree l (⟨"com/example/tiebreaker/tiebreaker/engine/search/DecayFunction$MultiValueMode", "pick", "([D)D"⟩ : MethodName) (head1 (Jvm.Cond.code (⟨"com/example/tiebreaker/tiebreaker/engine/search/DecayFunction$MultiValueMode", "pick", "([D)D"⟩ : MethodName) prog_49_method_4_code 9 (some .double) :: ws) ({ frames := 0, cells := 0, slots := 0, locals := 0 } : Room)) (fun a U => a = #[(.ref wMIN), (.ref a2)] ∧ Z.Warmed39 U.vm ∧ U.heap = h0) (fun _ _ _ _ _ => True) (fun _ U o U' => ∃ v L, o = .returned v ∧ QV (some (.double (FP.l2d x0))) h0 n0 v U'.heap L ∧ FrameEnd U o U' L ({ frames := 0, cells := 0, slots := 0, locals := 0 } : Room).cells ({ frames := 0, cells := 0, slots := 0, locals := 0 } : Room).slots) := by
  refine MetFree.of_bodySF (plainFor_of_name pn_1) hisR ?_
  intro p e s m args below meth c s₁ Bd hml0 hP hK
  obtain ⟨rfl, hZ, hh⟩ := hP
  have hx := Bd.exec
  have hby := Bd.bytes
  have hml : c.maxLocals = 9 := hml0
  have hown : s.vm.findClass "com/example/tiebreaker/tiebreaker/engine/search/DecayFunction$MultiValueMode" = some m.cls := findClass_of_methodNamed Bd.named
  have X0 : Stand p l e ({ frames := 0, cells := 0, slots := 0, locals := 0 } : Room) s m #[(.ref wMIN), (.ref a2)] below meth c s₁ [] 0 0 := Stand.of_body Bd
  have e0 : s₁.heap = h0 := by rw [← hh, Bd.state]; rfl
  have N0 := Fr.nil n0
  have pre0 : ∀ t, Steps p.tables e below (s₁.setTop (mkF m 0 #[.val (.ref wMIN), .val (.ref a2), uu, uu, uu, uu, uu, uu, uu] [])) t → Steps p.tables e below (s₁.setTop (entryFrame m #[(.ref wMIN), (.ref a2)] 9)) t := fun t k => castTop (ef_1 m wMIN a2) k
  obtain ⟨T50, X50, e50, st50⟩ := getS2 X0 hx hZ hown (host := "") (Or.inl (hw _ (List.mem_of_getElem? (i := 11) rfl))) Via.refl e0 S_MIN (g := (mkF m 1 #[.val (.ref wMIN), .val (.ref a2), uu, uu, uu, uu, uu, uu, uu] [(.ref wMIN)])) rfl (hb hby d1_1)
  obtain ⟨T51, X51, e51, st51⟩ := getS2 X50 hx hZ hown (host := "") (Or.inl (hw _ (List.mem_of_getElem? (i := 11) rfl))) Via.refl e50 S_MIN (g := (mkF m 16 #[.val (.ref wMIN), .val (.ref a2), uu, uu, uu, uu, uu, uu, uu] [(.ref wMIN), (.ref a2)])) rfl (hb hby d1_16)
  obtain ⟨fs, hr, hrun, hended, hW, hsame⟩ := X51.leave (v := some (.double (FP.l2d x0))) (fun h => by rw [Bd.returns] at h; cases h)
  refine ⟨_, _, pre0 _ ?_, hrun, hended, _, _, rfl, ?_, ⟨_, rfl⟩, hW, hsame.mono (by decide) (by decide)⟩
  · show Steps p.tables e below (s₁.setTop (mkF m 0 #[.val (.ref wMIN), .val (.ref a2), uu, uu, uu, uu, uu, uu, uu] [])) _
    refine XS.aloadN X0.here hx rfl (hb hby d1_0) rfl rfl ?_
    show Steps p.tables e below (s₁.setTop (mkF m 1 #[.val (.ref wMIN), .val (.ref a2), uu, uu, uu, uu, uu, uu, uu] [(.ref wMIN)])) _
    refine st50 _ ?_
    show Steps p.tables e below (T50.setTop (mkF m 4 #[.val (.ref wMIN), .val (.ref a2), uu, uu, uu, uu, uu, uu, uu] [(.ref wMIN), (.ref wMIN)])) _
    refine Jvm.RoadKit.acmp (g := (mkF m 4 #[.val (.ref wMIN), .val (.ref a2), uu, uu, uu, uu, uu, uu, uu] [(.ref wMIN), (.ref wMIN)])) X50 hx rfl rfl rfl (pc0 := 4) (pc' := 14) (same := true) rfl (hb hby d1_4) rfl (decide_eq_true rfl) (by decide) (by decide) ?_
    show Steps p.tables e below (T50.setTop (mkF m 14 #[.val (.ref wMIN), .val (.ref a2), uu, uu, uu, uu, uu, uu, uu] [])) _
    refine XS.aloadN X50.here hx rfl (hb hby d1_14) rfl rfl ?_
    show Steps p.tables e below (T50.setTop (mkF m 15 #[.val (.ref wMIN), .val (.ref a2), uu, uu, uu, uu, uu, uu, uu] [(.ref a2)])) _
    refine XS.aloadN X50.here hx rfl (hb hby d1_15) rfl rfl ?_
    show Steps p.tables e below (T50.setTop (mkF m 16 #[.val (.ref wMIN), .val (.ref a2), uu, uu, uu, uu, uu, uu, uu] [(.ref wMIN), (.ref a2)])) _
    refine st51 _ ?_
    show Steps p.tables e below (T51.setTop (mkF m 19 #[.val (.ref wMIN), .val (.ref a2), uu, uu, uu, uu, uu, uu, uu] [(.ref wMIN), (.ref wMIN), (.ref a2)])) _
    refine Jvm.RoadKit.acmp (g := (mkF m 19 #[.val (.ref wMIN), .val (.ref a2), uu, uu, uu, uu, uu, uu, uu] [(.ref wMIN), (.ref wMIN), (.ref a2)])) X51 hx rfl rfl rfl (pc0 := 19) (pc' := 22) (same := true) rfl (hb hby d1_19) rfl (decide_eq_true rfl) (by decide) (by decide) ?_
    show Steps p.tables e below (T51.setTop (mkF m 22 #[.val (.ref wMIN), .val (.ref a2), uu, uu, uu, uu, uu, uu, uu] [(.ref a2)])) _
    refine XS.iconst X51.here hx rfl (hb hby d1_22) ?_
    show Steps p.tables e below (T51.setTop (mkF m 23 #[.val (.ref wMIN), .val (.ref a2), uu, uu, uu, uu, uu, uu, uu] [(.int (0 : Int32)), (.ref a2)])) _
    refine XS.goto X51.here hx rfl (pc0 := 23) (pc' := 30) rfl (hb hby d1_23) (by decide) (by decide) ?_
    show Steps p.tables e below (T51.setTop (mkF m 30 #[.val (.ref wMIN), .val (.ref a2), uu, uu, uu, uu, uu, uu, uu] [(.int (0 : Int32)), (.ref a2)])) _
    refine X51.daload hx (j := (0 : Int32)) (v := (.double (FP.l2d x0))) (by rw [e51]; exact Ar.1) (State.isArrayOf_alike hZ.alike Ar.2.1) Ar.2.2 (inb_of Sz (by decide)) (by rw [show ((0 : Int32)).toNatClampNeg = 0 by decide]; exact hat0) (g := (mkF m 30 #[.val (.ref wMIN), .val (.ref a2), uu, uu, uu, uu, uu, uu, uu] [(.int (0 : Int32)), (.ref a2)])) rfl rfl (hb hby d1_30) _ ?_
    show Steps p.tables e below (T51.setTop (mkF m 31 #[.val (.ref wMIN), .val (.ref a2), uu, uu, uu, uu, uu, uu, uu] [(.double (FP.l2d x0))])) _
    exact retOut X51 hx (t := .double) Bd.returns rfl (Or.inr (Or.inr (Or.inl ⟨rfl, rfl, _, rfl⟩))) (hb hby d1_31) hr
  · show QV (some (.double (FP.l2d x0))) h0 n0 _ T51.heap _
    rw [e51]
    exact ⟨rfl, N0, rfl⟩
set_option maxRecDepth 65536 in
set_option maxHeartbeats 40000000 in
theorem rm1_MAX_1 (l : Launch) (Z : State) (a0 : Array Value) (hw : ∀ d ∈ tables_1, d.before a0 Z = true) (ws : List Jvm.Cond) (a2 : Addr) (wMIN wMAX wAVG wSUM : Addr) (x0 : Int64) (h0 : Heap) (n0 : Nat) (Z0 : n0 ≤ h0.size) (S_MIN : Sta Z h0 "com/example/tiebreaker/tiebreaker/engine/search/DecayFunction$MultiValueMode" "MIN" "Lcom/example/tiebreaker/tiebreaker/engine/search/DecayFunction$MultiValueMode;" (.ref wMIN)) (S_MAX : Sta Z h0 "com/example/tiebreaker/tiebreaker/engine/search/DecayFunction$MultiValueMode" "MAX" "Lcom/example/tiebreaker/tiebreaker/engine/search/DecayFunction$MultiValueMode;" (.ref wMAX)) (S_AVG : Sta Z h0 "com/example/tiebreaker/tiebreaker/engine/search/DecayFunction$MultiValueMode" "AVG" "Lcom/example/tiebreaker/tiebreaker/engine/search/DecayFunction$MultiValueMode;" (.ref wAVG)) (S_SUM : Sta Z h0 "com/example/tiebreaker/tiebreaker/engine/search/DecayFunction$MultiValueMode" "SUM" "Lcom/example/tiebreaker/tiebreaker/engine/search/DecayFunction$MultiValueMode;" (.ref wSUM)) (nXI : ¬ wMAX = wMIN) (nAI : ¬ wAVG = wMIN) (nAX : ¬ wAVG = wMAX) (nSI : ¬ wSUM = wMIN) (nSX : ¬ wSUM = wMAX) (nAS : ¬ wAVG = wSUM) (cl : Cell) (Ar : Arr Z h0 a2 cl .double) (Sz : cl.slots.size = (1 : Int32).toNatClampNeg) (Nn : ¬ (1 : Int32) < 0) (hat0 : cl.slots[0]? = some (.double (FP.l2d x0))) (b0 : 0 ≤ x0.toInt ∧ x0.toInt < 4000000) :
    MetFree l (⟨"com/example/tiebreaker/tiebreaker/engine/search/DecayFunction$MultiValueMode", "pick", "([D)D"⟩ : MethodName) (head1 (Jvm.Cond.code (⟨"com/example/tiebreaker/tiebreaker/engine/search/DecayFunction$MultiValueMode", "pick", "([D)D"⟩ : MethodName) prog_49_method_4_code 9 (some .double) :: ws) ({ frames := 0, cells := 0, slots := 0, locals := 0 } : Room)) (fun a U => a = #[(.ref wMAX), (.ref a2)] ∧ Z.Warmed39 U.vm ∧ U.heap = h0) (fun _ _ _ _ _ => True) (fun _ U o U' => ∃ v L, o = .returned v ∧ QV (some (.double (FP.l2d x0))) h0 n0 v U'.heap L ∧ FrameEnd U o U' L ({ frames := 0, cells := 0, slots := 0, locals := 0 } : Room).cells ({ frames := 0, cells := 0, slots := 0, locals := 0 } : Room).slots) := by
  refine MetFree.of_bodySF (plainFor_of_name pn_1) hisR ?_
  intro p e s m args below meth c s₁ Bd hml0 hP hK
  obtain ⟨rfl, hZ, hh⟩ := hP
  have hx := Bd.exec
  have hby := Bd.bytes
  have hml : c.maxLocals = 9 := hml0
  have hown : s.vm.findClass "com/example/tiebreaker/tiebreaker/engine/search/DecayFunction$MultiValueMode" = some m.cls := findClass_of_methodNamed Bd.named
  have X0 : Stand p l e ({ frames := 0, cells := 0, slots := 0, locals := 0 } : Room) s m #[(.ref wMAX), (.ref a2)] below meth c s₁ [] 0 0 := Stand.of_body Bd
  have e0 : s₁.heap = h0 := by rw [← hh, Bd.state]; rfl
  have N0 := Fr.nil n0
  have pre0 : ∀ t, Steps p.tables e below (s₁.setTop (mkF m 0 #[.val (.ref wMAX), .val (.ref a2), uu, uu, uu, uu, uu, uu, uu] [])) t → Steps p.tables e below (s₁.setTop (entryFrame m #[(.ref wMAX), (.ref a2)] 9)) t := fun t k => castTop (ef_1 m wMAX a2) k
  obtain ⟨T50, X50, e50, st50⟩ := getS2 X0 hx hZ hown (host := "") (Or.inl (hw _ (List.mem_of_getElem? (i := 11) rfl))) Via.refl e0 S_MIN (g := (mkF m 1 #[.val (.ref wMAX), .val (.ref a2), uu, uu, uu, uu, uu, uu, uu] [(.ref wMAX)])) rfl (hb hby d1_1)
  obtain ⟨T51, X51, e51, st51⟩ := getS2 X50 hx hZ hown (host := "") (Or.inl (hw _ (List.mem_of_getElem? (i := 14) rfl))) Via.refl e50 S_MAX (g := (mkF m 8 #[.val (.ref wMAX), .val (.ref a2), uu, uu, uu, uu, uu, uu, uu] [(.ref wMAX)])) rfl (hb hby d1_8)
  obtain ⟨T52, X52, e52, st52⟩ := getS2 X51 hx hZ hown (host := "") (Or.inl (hw _ (List.mem_of_getElem? (i := 11) rfl))) Via.refl e51 S_MIN (g := (mkF m 16 #[.val (.ref wMAX), .val (.ref a2), uu, uu, uu, uu, uu, uu, uu] [(.ref wMAX), (.ref a2)])) rfl (hb hby d1_16)
  obtain ⟨fs, hr, hrun, hended, hW, hsame⟩ := X52.leave (v := some (.double (FP.l2d x0))) (fun h => by rw [Bd.returns] at h; cases h)
  refine ⟨_, _, pre0 _ ?_, hrun, hended, _, _, rfl, ?_, ⟨_, rfl⟩, hW, hsame.mono (by decide) (by decide)⟩
  · show Steps p.tables e below (s₁.setTop (mkF m 0 #[.val (.ref wMAX), .val (.ref a2), uu, uu, uu, uu, uu, uu, uu] [])) _
    refine XS.aloadN X0.here hx rfl (hb hby d1_0) rfl rfl ?_
    show Steps p.tables e below (s₁.setTop (mkF m 1 #[.val (.ref wMAX), .val (.ref a2), uu, uu, uu, uu, uu, uu, uu] [(.ref wMAX)])) _
    refine st50 _ ?_
    show Steps p.tables e below (T50.setTop (mkF m 4 #[.val (.ref wMAX), .val (.ref a2), uu, uu, uu, uu, uu, uu, uu] [(.ref wMIN), (.ref wMAX)])) _
    refine Jvm.RoadKit.acmp (g := (mkF m 4 #[.val (.ref wMAX), .val (.ref a2), uu, uu, uu, uu, uu, uu, uu] [(.ref wMIN), (.ref wMAX)])) X50 hx rfl rfl rfl (pc0 := 4) (pc' := 7) (same := false) rfl (hb hby d1_4) rfl (decide_eq_false fun q => (nXI : ¬ (wMAX = wMIN)) (Value.ref.inj q)) (by decide) (by decide) ?_
    show Steps p.tables e below (T50.setTop (mkF m 7 #[.val (.ref wMAX), .val (.ref a2), uu, uu, uu, uu, uu, uu, uu] [])) _
    refine XS.aloadN X50.here hx rfl (hb hby d1_7) rfl rfl ?_
    show Steps p.tables e below (T50.setTop (mkF m 8 #[.val (.ref wMAX), .val (.ref a2), uu, uu, uu, uu, uu, uu, uu] [(.ref wMAX)])) _
    refine st51 _ ?_
    show Steps p.tables e below (T51.setTop (mkF m 11 #[.val (.ref wMAX), .val (.ref a2), uu, uu, uu, uu, uu, uu, uu] [(.ref wMAX), (.ref wMAX)])) _
    refine Jvm.RoadKit.acmp (g := (mkF m 11 #[.val (.ref wMAX), .val (.ref a2), uu, uu, uu, uu, uu, uu, uu] [(.ref wMAX), (.ref wMAX)])) X51 hx rfl rfl rfl (pc0 := 11) (pc' := 14) (same := true) rfl (hb hby d1_11) rfl (decide_eq_true rfl) (by decide) (by decide) ?_
    show Steps p.tables e below (T51.setTop (mkF m 14 #[.val (.ref wMAX), .val (.ref a2), uu, uu, uu, uu, uu, uu, uu] [])) _
    refine XS.aloadN X51.here hx rfl (hb hby d1_14) rfl rfl ?_
    show Steps p.tables e below (T51.setTop (mkF m 15 #[.val (.ref wMAX), .val (.ref a2), uu, uu, uu, uu, uu, uu, uu] [(.ref a2)])) _
    refine XS.aloadN X51.here hx rfl (hb hby d1_15) rfl rfl ?_
    show Steps p.tables e below (T51.setTop (mkF m 16 #[.val (.ref wMAX), .val (.ref a2), uu, uu, uu, uu, uu, uu, uu] [(.ref wMAX), (.ref a2)])) _
    refine st52 _ ?_
    show Steps p.tables e below (T52.setTop (mkF m 19 #[.val (.ref wMAX), .val (.ref a2), uu, uu, uu, uu, uu, uu, uu] [(.ref wMIN), (.ref wMAX), (.ref a2)])) _
    refine Jvm.RoadKit.acmp (g := (mkF m 19 #[.val (.ref wMAX), .val (.ref a2), uu, uu, uu, uu, uu, uu, uu] [(.ref wMIN), (.ref wMAX), (.ref a2)])) X52 hx rfl rfl rfl (pc0 := 19) (pc' := 26) (same := false) rfl (hb hby d1_19) rfl (decide_eq_false fun q => (nXI : ¬ (wMAX = wMIN)) (Value.ref.inj q)) (by decide) (by decide) ?_
    show Steps p.tables e below (T52.setTop (mkF m 26 #[.val (.ref wMAX), .val (.ref a2), uu, uu, uu, uu, uu, uu, uu] [(.ref a2)])) _
    refine XS.aloadN X52.here hx rfl (hb hby d1_26) rfl rfl ?_
    show Steps p.tables e below (T52.setTop (mkF m 27 #[.val (.ref wMAX), .val (.ref a2), uu, uu, uu, uu, uu, uu, uu] [(.ref a2), (.ref a2)])) _
    refine X52.arraylength hx (by rw [e52]; exact Ar.1) (State.isArrayOf_alike hZ.alike Ar.2.1) (g := (mkF m 27 #[.val (.ref wMAX), .val (.ref a2), uu, uu, uu, uu, uu, uu, uu] [(.ref a2), (.ref a2)])) rfl rfl (hb hby d1_27) _ ?_
    rw [len_of Sz Nn]
    show Steps p.tables e below (T52.setTop (mkF m 28 #[.val (.ref wMAX), .val (.ref a2), uu, uu, uu, uu, uu, uu, uu] [(.int (1 : Int32)), (.ref a2)])) _
    refine XS.iconst X52.here hx rfl (hb hby d1_28) ?_
    show Steps p.tables e below (T52.setTop (mkF m 29 #[.val (.ref wMAX), .val (.ref a2), uu, uu, uu, uu, uu, uu, uu] [(.int (1 : Int32)), (.int (1 : Int32)), (.ref a2)])) _
    refine XS.isub X52.here hx rfl (hb hby d1_29) rfl ?_
    show Steps p.tables e below (T52.setTop (mkF m 30 #[.val (.ref wMAX), .val (.ref a2), uu, uu, uu, uu, uu, uu, uu] [(.int ((1 : Int32) - (1 : Int32))), (.ref a2)])) _
    refine X52.daload hx (j := ((1 : Int32) - (1 : Int32))) (v := (.double (FP.l2d x0))) (by rw [e52]; exact Ar.1) (State.isArrayOf_alike hZ.alike Ar.2.1) Ar.2.2 (inb_of Sz (by decide)) (by rw [show (((1 : Int32) - (1 : Int32))).toNatClampNeg = 0 by decide]; exact hat0) (g := (mkF m 30 #[.val (.ref wMAX), .val (.ref a2), uu, uu, uu, uu, uu, uu, uu] [(.int ((1 : Int32) - (1 : Int32))), (.ref a2)])) rfl rfl (hb hby d1_30) _ ?_
    show Steps p.tables e below (T52.setTop (mkF m 31 #[.val (.ref wMAX), .val (.ref a2), uu, uu, uu, uu, uu, uu, uu] [(.double (FP.l2d x0))])) _
    exact retOut X52 hx (t := .double) Bd.returns rfl (Or.inr (Or.inr (Or.inl ⟨rfl, rfl, _, rfl⟩))) (hb hby d1_31) hr
  · show QV (some (.double (FP.l2d x0))) h0 n0 _ T52.heap _
    rw [e52]
    exact ⟨rfl, N0, rfl⟩
set_option maxRecDepth 65536 in
set_option maxHeartbeats 40000000 in
theorem rm1_MAX_2 (l : Launch) (Z : State) (a0 : Array Value) (hw : ∀ d ∈ tables_1, d.before a0 Z = true) (ws : List Jvm.Cond) (a2 : Addr) (wMIN wMAX wAVG wSUM : Addr) (x0 x1 : Int64) (h0 : Heap) (n0 : Nat) (Z0 : n0 ≤ h0.size) (S_MIN : Sta Z h0 "com/example/tiebreaker/tiebreaker/engine/search/DecayFunction$MultiValueMode" "MIN" "Lcom/example/tiebreaker/tiebreaker/engine/search/DecayFunction$MultiValueMode;" (.ref wMIN)) (S_MAX : Sta Z h0 "com/example/tiebreaker/tiebreaker/engine/search/DecayFunction$MultiValueMode" "MAX" "Lcom/example/tiebreaker/tiebreaker/engine/search/DecayFunction$MultiValueMode;" (.ref wMAX)) (S_AVG : Sta Z h0 "com/example/tiebreaker/tiebreaker/engine/search/DecayFunction$MultiValueMode" "AVG" "Lcom/example/tiebreaker/tiebreaker/engine/search/DecayFunction$MultiValueMode;" (.ref wAVG)) (S_SUM : Sta Z h0 "com/example/tiebreaker/tiebreaker/engine/search/DecayFunction$MultiValueMode" "SUM" "Lcom/example/tiebreaker/tiebreaker/engine/search/DecayFunction$MultiValueMode;" (.ref wSUM)) (nXI : ¬ wMAX = wMIN) (nAI : ¬ wAVG = wMIN) (nAX : ¬ wAVG = wMAX) (nSI : ¬ wSUM = wMIN) (nSX : ¬ wSUM = wMAX) (nAS : ¬ wAVG = wSUM) (cl : Cell) (Ar : Arr Z h0 a2 cl .double) (Sz : cl.slots.size = (2 : Int32).toNatClampNeg) (Nn : ¬ (2 : Int32) < 0) (hat0 : cl.slots[0]? = some (.double (FP.l2d x0))) (hat1 : cl.slots[1]? = some (.double (FP.l2d x1))) (b0 : 0 ≤ x0.toInt ∧ x0.toInt < 4000000) (b1 : 0 ≤ x1.toInt ∧ x1.toInt < 4000000) :
    MetFree l (⟨"com/example/tiebreaker/tiebreaker/engine/search/DecayFunction$MultiValueMode", "pick", "([D)D"⟩ : MethodName) (head1 (Jvm.Cond.code (⟨"com/example/tiebreaker/tiebreaker/engine/search/DecayFunction$MultiValueMode", "pick", "([D)D"⟩ : MethodName) prog_49_method_4_code 9 (some .double) :: ws) ({ frames := 0, cells := 0, slots := 0, locals := 0 } : Room)) (fun a U => a = #[(.ref wMAX), (.ref a2)] ∧ Z.Warmed39 U.vm ∧ U.heap = h0) (fun _ _ _ _ _ => True) (fun _ U o U' => ∃ v L, o = .returned v ∧ QV (some (.double (FP.l2d x1))) h0 n0 v U'.heap L ∧ FrameEnd U o U' L ({ frames := 0, cells := 0, slots := 0, locals := 0 } : Room).cells ({ frames := 0, cells := 0, slots := 0, locals := 0 } : Room).slots) := by
  refine MetFree.of_bodySF (plainFor_of_name pn_1) hisR ?_
  intro p e s m args below meth c s₁ Bd hml0 hP hK
  obtain ⟨rfl, hZ, hh⟩ := hP
  have hx := Bd.exec
  have hby := Bd.bytes
  have hml : c.maxLocals = 9 := hml0
  have hown : s.vm.findClass "com/example/tiebreaker/tiebreaker/engine/search/DecayFunction$MultiValueMode" = some m.cls := findClass_of_methodNamed Bd.named
  have X0 : Stand p l e ({ frames := 0, cells := 0, slots := 0, locals := 0 } : Room) s m #[(.ref wMAX), (.ref a2)] below meth c s₁ [] 0 0 := Stand.of_body Bd
  have e0 : s₁.heap = h0 := by rw [← hh, Bd.state]; rfl
  have N0 := Fr.nil n0
  have pre0 : ∀ t, Steps p.tables e below (s₁.setTop (mkF m 0 #[.val (.ref wMAX), .val (.ref a2), uu, uu, uu, uu, uu, uu, uu] [])) t → Steps p.tables e below (s₁.setTop (entryFrame m #[(.ref wMAX), (.ref a2)] 9)) t := fun t k => castTop (ef_1 m wMAX a2) k
  obtain ⟨T50, X50, e50, st50⟩ := getS2 X0 hx hZ hown (host := "") (Or.inl (hw _ (List.mem_of_getElem? (i := 11) rfl))) Via.refl e0 S_MIN (g := (mkF m 1 #[.val (.ref wMAX), .val (.ref a2), uu, uu, uu, uu, uu, uu, uu] [(.ref wMAX)])) rfl (hb hby d1_1)
  obtain ⟨T51, X51, e51, st51⟩ := getS2 X50 hx hZ hown (host := "") (Or.inl (hw _ (List.mem_of_getElem? (i := 14) rfl))) Via.refl e50 S_MAX (g := (mkF m 8 #[.val (.ref wMAX), .val (.ref a2), uu, uu, uu, uu, uu, uu, uu] [(.ref wMAX)])) rfl (hb hby d1_8)
  obtain ⟨T52, X52, e52, st52⟩ := getS2 X51 hx hZ hown (host := "") (Or.inl (hw _ (List.mem_of_getElem? (i := 11) rfl))) Via.refl e51 S_MIN (g := (mkF m 16 #[.val (.ref wMAX), .val (.ref a2), uu, uu, uu, uu, uu, uu, uu] [(.ref wMAX), (.ref a2)])) rfl (hb hby d1_16)
  obtain ⟨fs, hr, hrun, hended, hW, hsame⟩ := X52.leave (v := some (.double (FP.l2d x1))) (fun h => by rw [Bd.returns] at h; cases h)
  refine ⟨_, _, pre0 _ ?_, hrun, hended, _, _, rfl, ?_, ⟨_, rfl⟩, hW, hsame.mono (by decide) (by decide)⟩
  · show Steps p.tables e below (s₁.setTop (mkF m 0 #[.val (.ref wMAX), .val (.ref a2), uu, uu, uu, uu, uu, uu, uu] [])) _
    refine XS.aloadN X0.here hx rfl (hb hby d1_0) rfl rfl ?_
    show Steps p.tables e below (s₁.setTop (mkF m 1 #[.val (.ref wMAX), .val (.ref a2), uu, uu, uu, uu, uu, uu, uu] [(.ref wMAX)])) _
    refine st50 _ ?_
    show Steps p.tables e below (T50.setTop (mkF m 4 #[.val (.ref wMAX), .val (.ref a2), uu, uu, uu, uu, uu, uu, uu] [(.ref wMIN), (.ref wMAX)])) _
    refine Jvm.RoadKit.acmp (g := (mkF m 4 #[.val (.ref wMAX), .val (.ref a2), uu, uu, uu, uu, uu, uu, uu] [(.ref wMIN), (.ref wMAX)])) X50 hx rfl rfl rfl (pc0 := 4) (pc' := 7) (same := false) rfl (hb hby d1_4) rfl (decide_eq_false fun q => (nXI : ¬ (wMAX = wMIN)) (Value.ref.inj q)) (by decide) (by decide) ?_
    show Steps p.tables e below (T50.setTop (mkF m 7 #[.val (.ref wMAX), .val (.ref a2), uu, uu, uu, uu, uu, uu, uu] [])) _
    refine XS.aloadN X50.here hx rfl (hb hby d1_7) rfl rfl ?_
    show Steps p.tables e below (T50.setTop (mkF m 8 #[.val (.ref wMAX), .val (.ref a2), uu, uu, uu, uu, uu, uu, uu] [(.ref wMAX)])) _
    refine st51 _ ?_
    show Steps p.tables e below (T51.setTop (mkF m 11 #[.val (.ref wMAX), .val (.ref a2), uu, uu, uu, uu, uu, uu, uu] [(.ref wMAX), (.ref wMAX)])) _
    refine Jvm.RoadKit.acmp (g := (mkF m 11 #[.val (.ref wMAX), .val (.ref a2), uu, uu, uu, uu, uu, uu, uu] [(.ref wMAX), (.ref wMAX)])) X51 hx rfl rfl rfl (pc0 := 11) (pc' := 14) (same := true) rfl (hb hby d1_11) rfl (decide_eq_true rfl) (by decide) (by decide) ?_
    show Steps p.tables e below (T51.setTop (mkF m 14 #[.val (.ref wMAX), .val (.ref a2), uu, uu, uu, uu, uu, uu, uu] [])) _
    refine XS.aloadN X51.here hx rfl (hb hby d1_14) rfl rfl ?_
    show Steps p.tables e below (T51.setTop (mkF m 15 #[.val (.ref wMAX), .val (.ref a2), uu, uu, uu, uu, uu, uu, uu] [(.ref a2)])) _
    refine XS.aloadN X51.here hx rfl (hb hby d1_15) rfl rfl ?_
    show Steps p.tables e below (T51.setTop (mkF m 16 #[.val (.ref wMAX), .val (.ref a2), uu, uu, uu, uu, uu, uu, uu] [(.ref wMAX), (.ref a2)])) _
    refine st52 _ ?_
    show Steps p.tables e below (T52.setTop (mkF m 19 #[.val (.ref wMAX), .val (.ref a2), uu, uu, uu, uu, uu, uu, uu] [(.ref wMIN), (.ref wMAX), (.ref a2)])) _
    refine Jvm.RoadKit.acmp (g := (mkF m 19 #[.val (.ref wMAX), .val (.ref a2), uu, uu, uu, uu, uu, uu, uu] [(.ref wMIN), (.ref wMAX), (.ref a2)])) X52 hx rfl rfl rfl (pc0 := 19) (pc' := 26) (same := false) rfl (hb hby d1_19) rfl (decide_eq_false fun q => (nXI : ¬ (wMAX = wMIN)) (Value.ref.inj q)) (by decide) (by decide) ?_
    show Steps p.tables e below (T52.setTop (mkF m 26 #[.val (.ref wMAX), .val (.ref a2), uu, uu, uu, uu, uu, uu, uu] [(.ref a2)])) _
    refine XS.aloadN X52.here hx rfl (hb hby d1_26) rfl rfl ?_
    show Steps p.tables e below (T52.setTop (mkF m 27 #[.val (.ref wMAX), .val (.ref a2), uu, uu, uu, uu, uu, uu, uu] [(.ref a2), (.ref a2)])) _
    refine X52.arraylength hx (by rw [e52]; exact Ar.1) (State.isArrayOf_alike hZ.alike Ar.2.1) (g := (mkF m 27 #[.val (.ref wMAX), .val (.ref a2), uu, uu, uu, uu, uu, uu, uu] [(.ref a2), (.ref a2)])) rfl rfl (hb hby d1_27) _ ?_
    rw [len_of Sz Nn]
    show Steps p.tables e below (T52.setTop (mkF m 28 #[.val (.ref wMAX), .val (.ref a2), uu, uu, uu, uu, uu, uu, uu] [(.int (2 : Int32)), (.ref a2)])) _
    refine XS.iconst X52.here hx rfl (hb hby d1_28) ?_
    show Steps p.tables e below (T52.setTop (mkF m 29 #[.val (.ref wMAX), .val (.ref a2), uu, uu, uu, uu, uu, uu, uu] [(.int (1 : Int32)), (.int (2 : Int32)), (.ref a2)])) _
    refine XS.isub X52.here hx rfl (hb hby d1_29) rfl ?_
    show Steps p.tables e below (T52.setTop (mkF m 30 #[.val (.ref wMAX), .val (.ref a2), uu, uu, uu, uu, uu, uu, uu] [(.int ((2 : Int32) - (1 : Int32))), (.ref a2)])) _
    refine X52.daload hx (j := ((2 : Int32) - (1 : Int32))) (v := (.double (FP.l2d x1))) (by rw [e52]; exact Ar.1) (State.isArrayOf_alike hZ.alike Ar.2.1) Ar.2.2 (inb_of Sz (by decide)) (by rw [show (((2 : Int32) - (1 : Int32))).toNatClampNeg = 1 by decide]; exact hat1) (g := (mkF m 30 #[.val (.ref wMAX), .val (.ref a2), uu, uu, uu, uu, uu, uu, uu] [(.int ((2 : Int32) - (1 : Int32))), (.ref a2)])) rfl rfl (hb hby d1_30) _ ?_
    show Steps p.tables e below (T52.setTop (mkF m 31 #[.val (.ref wMAX), .val (.ref a2), uu, uu, uu, uu, uu, uu, uu] [(.double (FP.l2d x1))])) _
    exact retOut X52 hx (t := .double) Bd.returns rfl (Or.inr (Or.inr (Or.inl ⟨rfl, rfl, _, rfl⟩))) (hb hby d1_31) hr
  · show QV (some (.double (FP.l2d x1))) h0 n0 _ T52.heap _
    rw [e52]
    exact ⟨rfl, N0, rfl⟩
set_option maxRecDepth 65536 in
set_option maxHeartbeats 40000000 in
theorem rm1_MAX_3 (l : Launch) (Z : State) (a0 : Array Value) (hw : ∀ d ∈ tables_1, d.before a0 Z = true) (ws : List Jvm.Cond) (a2 : Addr) (wMIN wMAX wAVG wSUM : Addr) (x0 x1 x2 : Int64) (h0 : Heap) (n0 : Nat) (Z0 : n0 ≤ h0.size) (S_MIN : Sta Z h0 "com/example/tiebreaker/tiebreaker/engine/search/DecayFunction$MultiValueMode" "MIN" "Lcom/example/tiebreaker/tiebreaker/engine/search/DecayFunction$MultiValueMode;" (.ref wMIN)) (S_MAX : Sta Z h0 "com/example/tiebreaker/tiebreaker/engine/search/DecayFunction$MultiValueMode" "MAX" "Lcom/example/tiebreaker/tiebreaker/engine/search/DecayFunction$MultiValueMode;" (.ref wMAX)) (S_AVG : Sta Z h0 "com/example/tiebreaker/tiebreaker/engine/search/DecayFunction$MultiValueMode" "AVG" "Lcom/example/tiebreaker/tiebreaker/engine/search/DecayFunction$MultiValueMode;" (.ref wAVG)) (S_SUM : Sta Z h0 "com/example/tiebreaker/tiebreaker/engine/search/DecayFunction$MultiValueMode" "SUM" "Lcom/example/tiebreaker/tiebreaker/engine/search/DecayFunction$MultiValueMode;" (.ref wSUM)) (nXI : ¬ wMAX = wMIN) (nAI : ¬ wAVG = wMIN) (nAX : ¬ wAVG = wMAX) (nSI : ¬ wSUM = wMIN) (nSX : ¬ wSUM = wMAX) (nAS : ¬ wAVG = wSUM) (cl : Cell) (Ar : Arr Z h0 a2 cl .double) (Sz : cl.slots.size = (3 : Int32).toNatClampNeg) (Nn : ¬ (3 : Int32) < 0) (hat0 : cl.slots[0]? = some (.double (FP.l2d x0))) (hat1 : cl.slots[1]? = some (.double (FP.l2d x1))) (hat2 : cl.slots[2]? = some (.double (FP.l2d x2))) (b0 : 0 ≤ x0.toInt ∧ x0.toInt < 4000000) (b1 : 0 ≤ x1.toInt ∧ x1.toInt < 4000000) (b2 : 0 ≤ x2.toInt ∧ x2.toInt < 4000000) :
    MetFree l (⟨"com/example/tiebreaker/tiebreaker/engine/search/DecayFunction$MultiValueMode", "pick", "([D)D"⟩ : MethodName) (head1 (Jvm.Cond.code (⟨"com/example/tiebreaker/tiebreaker/engine/search/DecayFunction$MultiValueMode", "pick", "([D)D"⟩ : MethodName) prog_49_method_4_code 9 (some .double) :: ws) ({ frames := 0, cells := 0, slots := 0, locals := 0 } : Room)) (fun a U => a = #[(.ref wMAX), (.ref a2)] ∧ Z.Warmed39 U.vm ∧ U.heap = h0) (fun _ _ _ _ _ => True) (fun _ U o U' => ∃ v L, o = .returned v ∧ QV (some (.double (FP.l2d x2))) h0 n0 v U'.heap L ∧ FrameEnd U o U' L ({ frames := 0, cells := 0, slots := 0, locals := 0 } : Room).cells ({ frames := 0, cells := 0, slots := 0, locals := 0 } : Room).slots) := by
  refine MetFree.of_bodySF (plainFor_of_name pn_1) hisR ?_
  intro p e s m args below meth c s₁ Bd hml0 hP hK
  obtain ⟨rfl, hZ, hh⟩ := hP
  have hx := Bd.exec
  have hby := Bd.bytes
  have hml : c.maxLocals = 9 := hml0
  have hown : s.vm.findClass "com/example/tiebreaker/tiebreaker/engine/search/DecayFunction$MultiValueMode" = some m.cls := findClass_of_methodNamed Bd.named
  have X0 : Stand p l e ({ frames := 0, cells := 0, slots := 0, locals := 0 } : Room) s m #[(.ref wMAX), (.ref a2)] below meth c s₁ [] 0 0 := Stand.of_body Bd
  have e0 : s₁.heap = h0 := by rw [← hh, Bd.state]; rfl
  have N0 := Fr.nil n0
  have pre0 : ∀ t, Steps p.tables e below (s₁.setTop (mkF m 0 #[.val (.ref wMAX), .val (.ref a2), uu, uu, uu, uu, uu, uu, uu] [])) t → Steps p.tables e below (s₁.setTop (entryFrame m #[(.ref wMAX), (.ref a2)] 9)) t := fun t k => castTop (ef_1 m wMAX a2) k
  obtain ⟨T50, X50, e50, st50⟩ := getS2 X0 hx hZ hown (host := "") (Or.inl (hw _ (List.mem_of_getElem? (i := 11) rfl))) Via.refl e0 S_MIN (g := (mkF m 1 #[.val (.ref wMAX), .val (.ref a2), uu, uu, uu, uu, uu, uu, uu] [(.ref wMAX)])) rfl (hb hby d1_1)
  obtain ⟨T51, X51, e51, st51⟩ := getS2 X50 hx hZ hown (host := "") (Or.inl (hw _ (List.mem_of_getElem? (i := 14) rfl))) Via.refl e50 S_MAX (g := (mkF m 8 #[.val (.ref wMAX), .val (.ref a2), uu, uu, uu, uu, uu, uu, uu] [(.ref wMAX)])) rfl (hb hby d1_8)
  obtain ⟨T52, X52, e52, st52⟩ := getS2 X51 hx hZ hown (host := "") (Or.inl (hw _ (List.mem_of_getElem? (i := 11) rfl))) Via.refl e51 S_MIN (g := (mkF m 16 #[.val (.ref wMAX), .val (.ref a2), uu, uu, uu, uu, uu, uu, uu] [(.ref wMAX), (.ref a2)])) rfl (hb hby d1_16)
  obtain ⟨fs, hr, hrun, hended, hW, hsame⟩ := X52.leave (v := some (.double (FP.l2d x2))) (fun h => by rw [Bd.returns] at h; cases h)
  refine ⟨_, _, pre0 _ ?_, hrun, hended, _, _, rfl, ?_, ⟨_, rfl⟩, hW, hsame.mono (by decide) (by decide)⟩
  · show Steps p.tables e below (s₁.setTop (mkF m 0 #[.val (.ref wMAX), .val (.ref a2), uu, uu, uu, uu, uu, uu, uu] [])) _
    refine XS.aloadN X0.here hx rfl (hb hby d1_0) rfl rfl ?_
    show Steps p.tables e below (s₁.setTop (mkF m 1 #[.val (.ref wMAX), .val (.ref a2), uu, uu, uu, uu, uu, uu, uu] [(.ref wMAX)])) _
    refine st50 _ ?_
    show Steps p.tables e below (T50.setTop (mkF m 4 #[.val (.ref wMAX), .val (.ref a2), uu, uu, uu, uu, uu, uu, uu] [(.ref wMIN), (.ref wMAX)])) _
    refine Jvm.RoadKit.acmp (g := (mkF m 4 #[.val (.ref wMAX), .val (.ref a2), uu, uu, uu, uu, uu, uu, uu] [(.ref wMIN), (.ref wMAX)])) X50 hx rfl rfl rfl (pc0 := 4) (pc' := 7) (same := false) rfl (hb hby d1_4) rfl (decide_eq_false fun q => (nXI : ¬ (wMAX = wMIN)) (Value.ref.inj q)) (by decide) (by decide) ?_
    show Steps p.tables e below (T50.setTop (mkF m 7 #[.val (.ref wMAX), .val (.ref a2), uu, uu, uu, uu, uu, uu, uu] [])) _
    refine XS.aloadN X50.here hx rfl (hb hby d1_7) rfl rfl ?_
    show Steps p.tables e below (T50.setTop (mkF m 8 #[.val (.ref wMAX), .val (.ref a2), uu, uu, uu, uu, uu, uu, uu] [(.ref wMAX)])) _
    refine st51 _ ?_
    show Steps p.tables e below (T51.setTop (mkF m 11 #[.val (.ref wMAX), .val (.ref a2), uu, uu, uu, uu, uu, uu, uu] [(.ref wMAX), (.ref wMAX)])) _
    refine Jvm.RoadKit.acmp (g := (mkF m 11 #[.val (.ref wMAX), .val (.ref a2), uu, uu, uu, uu, uu, uu, uu] [(.ref wMAX), (.ref wMAX)])) X51 hx rfl rfl rfl (pc0 := 11) (pc' := 14) (same := true) rfl (hb hby d1_11) rfl (decide_eq_true rfl) (by decide) (by decide) ?_
    show Steps p.tables e below (T51.setTop (mkF m 14 #[.val (.ref wMAX), .val (.ref a2), uu, uu, uu, uu, uu, uu, uu] [])) _
    refine XS.aloadN X51.here hx rfl (hb hby d1_14) rfl rfl ?_
    show Steps p.tables e below (T51.setTop (mkF m 15 #[.val (.ref wMAX), .val (.ref a2), uu, uu, uu, uu, uu, uu, uu] [(.ref a2)])) _
    refine XS.aloadN X51.here hx rfl (hb hby d1_15) rfl rfl ?_
    show Steps p.tables e below (T51.setTop (mkF m 16 #[.val (.ref wMAX), .val (.ref a2), uu, uu, uu, uu, uu, uu, uu] [(.ref wMAX), (.ref a2)])) _
    refine st52 _ ?_
    show Steps p.tables e below (T52.setTop (mkF m 19 #[.val (.ref wMAX), .val (.ref a2), uu, uu, uu, uu, uu, uu, uu] [(.ref wMIN), (.ref wMAX), (.ref a2)])) _
    refine Jvm.RoadKit.acmp (g := (mkF m 19 #[.val (.ref wMAX), .val (.ref a2), uu, uu, uu, uu, uu, uu, uu] [(.ref wMIN), (.ref wMAX), (.ref a2)])) X52 hx rfl rfl rfl (pc0 := 19) (pc' := 26) (same := false) rfl (hb hby d1_19) rfl (decide_eq_false fun q => (nXI : ¬ (wMAX = wMIN)) (Value.ref.inj q)) (by decide) (by decide) ?_
    show Steps p.tables e below (T52.setTop (mkF m 26 #[.val (.ref wMAX), .val (.ref a2), uu, uu, uu, uu, uu, uu, uu] [(.ref a2)])) _
    refine XS.aloadN X52.here hx rfl (hb hby d1_26) rfl rfl ?_
    show Steps p.tables e below (T52.setTop (mkF m 27 #[.val (.ref wMAX), .val (.ref a2), uu, uu, uu, uu, uu, uu, uu] [(.ref a2), (.ref a2)])) _
    refine X52.arraylength hx (by rw [e52]; exact Ar.1) (State.isArrayOf_alike hZ.alike Ar.2.1) (g := (mkF m 27 #[.val (.ref wMAX), .val (.ref a2), uu, uu, uu, uu, uu, uu, uu] [(.ref a2), (.ref a2)])) rfl rfl (hb hby d1_27) _ ?_
    rw [len_of Sz Nn]
    show Steps p.tables e below (T52.setTop (mkF m 28 #[.val (.ref wMAX), .val (.ref a2), uu, uu, uu, uu, uu, uu, uu] [(.int (3 : Int32)), (.ref a2)])) _
    refine XS.iconst X52.here hx rfl (hb hby d1_28) ?_
    show Steps p.tables e below (T52.setTop (mkF m 29 #[.val (.ref wMAX), .val (.ref a2), uu, uu, uu, uu, uu, uu, uu] [(.int (1 : Int32)), (.int (3 : Int32)), (.ref a2)])) _
    refine XS.isub X52.here hx rfl (hb hby d1_29) rfl ?_
    show Steps p.tables e below (T52.setTop (mkF m 30 #[.val (.ref wMAX), .val (.ref a2), uu, uu, uu, uu, uu, uu, uu] [(.int ((3 : Int32) - (1 : Int32))), (.ref a2)])) _
    refine X52.daload hx (j := ((3 : Int32) - (1 : Int32))) (v := (.double (FP.l2d x2))) (by rw [e52]; exact Ar.1) (State.isArrayOf_alike hZ.alike Ar.2.1) Ar.2.2 (inb_of Sz (by decide)) (by rw [show (((3 : Int32) - (1 : Int32))).toNatClampNeg = 2 by decide]; exact hat2) (g := (mkF m 30 #[.val (.ref wMAX), .val (.ref a2), uu, uu, uu, uu, uu, uu, uu] [(.int ((3 : Int32) - (1 : Int32))), (.ref a2)])) rfl rfl (hb hby d1_30) _ ?_
    show Steps p.tables e below (T52.setTop (mkF m 31 #[.val (.ref wMAX), .val (.ref a2), uu, uu, uu, uu, uu, uu, uu] [(.double (FP.l2d x2))])) _
    exact retOut X52 hx (t := .double) Bd.returns rfl (Or.inr (Or.inr (Or.inl ⟨rfl, rfl, _, rfl⟩))) (hb hby d1_31) hr
  · show QV (some (.double (FP.l2d x2))) h0 n0 _ T52.heap _
    rw [e52]
    exact ⟨rfl, N0, rfl⟩
set_option maxRecDepth 65536 in
set_option maxHeartbeats 40000000 in
theorem rm1_AVG_1 (l : Launch) (Z : State) (a0 : Array Value) (hw : ∀ d ∈ tables_1, d.before a0 Z = true) (ws : List Jvm.Cond) (a2 : Addr) (wMIN wMAX wAVG wSUM : Addr) (x0 : Int64) (h0 : Heap) (n0 : Nat) (Z0 : n0 ≤ h0.size) (S_MIN : Sta Z h0 "com/example/tiebreaker/tiebreaker/engine/search/DecayFunction$MultiValueMode" "MIN" "Lcom/example/tiebreaker/tiebreaker/engine/search/DecayFunction$MultiValueMode;" (.ref wMIN)) (S_MAX : Sta Z h0 "com/example/tiebreaker/tiebreaker/engine/search/DecayFunction$MultiValueMode" "MAX" "Lcom/example/tiebreaker/tiebreaker/engine/search/DecayFunction$MultiValueMode;" (.ref wMAX)) (S_AVG : Sta Z h0 "com/example/tiebreaker/tiebreaker/engine/search/DecayFunction$MultiValueMode" "AVG" "Lcom/example/tiebreaker/tiebreaker/engine/search/DecayFunction$MultiValueMode;" (.ref wAVG)) (S_SUM : Sta Z h0 "com/example/tiebreaker/tiebreaker/engine/search/DecayFunction$MultiValueMode" "SUM" "Lcom/example/tiebreaker/tiebreaker/engine/search/DecayFunction$MultiValueMode;" (.ref wSUM)) (nXI : ¬ wMAX = wMIN) (nAI : ¬ wAVG = wMIN) (nAX : ¬ wAVG = wMAX) (nSI : ¬ wSUM = wMIN) (nSX : ¬ wSUM = wMAX) (nAS : ¬ wAVG = wSUM) (cl : Cell) (Ar : Arr Z h0 a2 cl .double) (Sz : cl.slots.size = (1 : Int32).toNatClampNeg) (Nn : ¬ (1 : Int32) < 0) (hat0 : cl.slots[0]? = some (.double (FP.l2d x0))) (b0 : 0 ≤ x0.toInt ∧ x0.toInt < 4000000) :
    MetFree l (⟨"com/example/tiebreaker/tiebreaker/engine/search/DecayFunction$MultiValueMode", "pick", "([D)D"⟩ : MethodName) (head1 (Jvm.Cond.code (⟨"com/example/tiebreaker/tiebreaker/engine/search/DecayFunction$MultiValueMode", "pick", "([D)D"⟩ : MethodName) prog_49_method_4_code 9 (some .double) :: ws) ({ frames := 0, cells := 0, slots := 0, locals := 0 } : Room)) (fun a U => a = #[(.ref wAVG), (.ref a2)] ∧ Z.Warmed39 U.vm ∧ U.heap = h0) (fun _ _ _ _ _ => True) (fun _ U o U' => ∃ v L, o = .returned v ∧ QV (some (.double (FP.ddiv (FP.l2d x0) (FP.l2d (1 : Int32).toInt64)))) h0 n0 v U'.heap L ∧ FrameEnd U o U' L ({ frames := 0, cells := 0, slots := 0, locals := 0 } : Room).cells ({ frames := 0, cells := 0, slots := 0, locals := 0 } : Room).slots) := by
  refine MetFree.of_bodySF (plainFor_of_name pn_1) hisR ?_
  intro p e s m args below meth c s₁ Bd hml0 hP hK
  obtain ⟨rfl, hZ, hh⟩ := hP
  have hx := Bd.exec
  have hby := Bd.bytes
  have hml : c.maxLocals = 9 := hml0
  have hown : s.vm.findClass "com/example/tiebreaker/tiebreaker/engine/search/DecayFunction$MultiValueMode" = some m.cls := findClass_of_methodNamed Bd.named
  have X0 : Stand p l e ({ frames := 0, cells := 0, slots := 0, locals := 0 } : Room) s m #[(.ref wAVG), (.ref a2)] below meth c s₁ [] 0 0 := Stand.of_body Bd
  have e0 : s₁.heap = h0 := by rw [← hh, Bd.state]; rfl
  have N0 := Fr.nil n0
  have pre0 : ∀ t, Steps p.tables e below (s₁.setTop (mkF m 0 #[.val (.ref wAVG), .val (.ref a2), uu, uu, uu, uu, uu, uu, uu] [])) t → Steps p.tables e below (s₁.setTop (entryFrame m #[(.ref wAVG), (.ref a2)] 9)) t := fun t k => castTop (ef_1 m wAVG a2) k
  obtain ⟨T50, X50, e50, st50⟩ := getS2 X0 hx hZ hown (host := "") (Or.inl (hw _ (List.mem_of_getElem? (i := 11) rfl))) Via.refl e0 S_MIN (g := (mkF m 1 #[.val (.ref wAVG), .val (.ref a2), uu, uu, uu, uu, uu, uu, uu] [(.ref wAVG)])) rfl (hb hby d1_1)
  obtain ⟨T51, X51, e51, st51⟩ := getS2 X50 hx hZ hown (host := "") (Or.inl (hw _ (List.mem_of_getElem? (i := 14) rfl))) Via.refl e50 S_MAX (g := (mkF m 8 #[.val (.ref wAVG), .val (.ref a2), uu, uu, uu, uu, uu, uu, uu] [(.ref wAVG)])) rfl (hb hby d1_8)
  obtain ⟨T52, X52, e52, st52⟩ := getS2 X51 hx hZ hown (host := "") (Or.inl (hw _ (List.mem_of_getElem? (i := 16) rfl))) Via.refl e51 S_SUM (g := (mkF m 71 #[.val (.ref wAVG), .val (.ref a2), .val (.double (FP.l2d x0)), .second, .val (.ref a2), .val (.int (1 : Int32)), .val (.int ((0 : Int32) + (1 : Int32))), .val (.double (FP.l2d x0)), .second] [(.ref wAVG)])) rfl (hb hby d1_71)
  obtain ⟨fs, hr, hrun, hended, hW, hsame⟩ := X52.leave (v := some (.double (FP.ddiv (FP.l2d x0) (FP.l2d (1 : Int32).toInt64)))) (fun h => by rw [Bd.returns] at h; cases h)
  refine ⟨_, _, pre0 _ ?_, hrun, hended, _, _, rfl, ?_, ⟨_, rfl⟩, hW, hsame.mono (by decide) (by decide)⟩
  · show Steps p.tables e below (s₁.setTop (mkF m 0 #[.val (.ref wAVG), .val (.ref a2), uu, uu, uu, uu, uu, uu, uu] [])) _
    refine XS.aloadN X0.here hx rfl (hb hby d1_0) rfl rfl ?_
    show Steps p.tables e below (s₁.setTop (mkF m 1 #[.val (.ref wAVG), .val (.ref a2), uu, uu, uu, uu, uu, uu, uu] [(.ref wAVG)])) _
    refine st50 _ ?_
    show Steps p.tables e below (T50.setTop (mkF m 4 #[.val (.ref wAVG), .val (.ref a2), uu, uu, uu, uu, uu, uu, uu] [(.ref wMIN), (.ref wAVG)])) _
    refine Jvm.RoadKit.acmp (g := (mkF m 4 #[.val (.ref wAVG), .val (.ref a2), uu, uu, uu, uu, uu, uu, uu] [(.ref wMIN), (.ref wAVG)])) X50 hx rfl rfl rfl (pc0 := 4) (pc' := 7) (same := false) rfl (hb hby d1_4) rfl (decide_eq_false fun q => (nAI : ¬ (wAVG = wMIN)) (Value.ref.inj q)) (by decide) (by decide) ?_
    show Steps p.tables e below (T50.setTop (mkF m 7 #[.val (.ref wAVG), .val (.ref a2), uu, uu, uu, uu, uu, uu, uu] [])) _
    refine XS.aloadN X50.here hx rfl (hb hby d1_7) rfl rfl ?_
    show Steps p.tables e below (T50.setTop (mkF m 8 #[.val (.ref wAVG), .val (.ref a2), uu, uu, uu, uu, uu, uu, uu] [(.ref wAVG)])) _
    refine st51 _ ?_
    show Steps p.tables e below (T51.setTop (mkF m 11 #[.val (.ref wAVG), .val (.ref a2), uu, uu, uu, uu, uu, uu, uu] [(.ref wMAX), (.ref wAVG)])) _
    refine Jvm.RoadKit.acmp (g := (mkF m 11 #[.val (.ref wAVG), .val (.ref a2), uu, uu, uu, uu, uu, uu, uu] [(.ref wMAX), (.ref wAVG)])) X51 hx rfl rfl rfl (pc0 := 11) (pc' := 32) (same := false) rfl (hb hby d1_11) rfl (decide_eq_false fun q => (nAX : ¬ (wAVG = wMAX)) (Value.ref.inj q)) (by decide) (by decide) ?_
    show Steps p.tables e below (T51.setTop (mkF m 32 #[.val (.ref wAVG), .val (.ref a2), uu, uu, uu, uu, uu, uu, uu] [])) _
    refine XS.dconst0 X51.here hx rfl (hb hby d1_32) (v := FP.l2d 0) (by decide +kernel) ?_
    show Steps p.tables e below (T51.setTop (mkF m 33 #[.val (.ref wAVG), .val (.ref a2), uu, uu, uu, uu, uu, uu, uu] [(.double (FP.l2d 0))])) _
    refine XS.dstoreN X51.here hx rfl (hb hby d1_33) rfl (l' := #[.val (.ref wAVG), .val (.ref a2), .val (.double (FP.l2d 0)), .second, uu, uu, uu, uu, uu]) rfl ?_
    show Steps p.tables e below (T51.setTop (mkF m 34 #[.val (.ref wAVG), .val (.ref a2), .val (.double (FP.l2d 0)), .second, uu, uu, uu, uu, uu] [])) _
    refine XS.aloadN X51.here hx rfl (hb hby d1_34) rfl rfl ?_
    show Steps p.tables e below (T51.setTop (mkF m 35 #[.val (.ref wAVG), .val (.ref a2), .val (.double (FP.l2d 0)), .second, uu, uu, uu, uu, uu] [(.ref a2)])) _
    refine XS.astore X51.here hx rfl (hb hby d1_35) rfl rfl (l' := #[.val (.ref wAVG), .val (.ref a2), .val (.double (FP.l2d 0)), .second, .val (.ref a2), uu, uu, uu, uu]) rfl ?_
    show Steps p.tables e below (T51.setTop (mkF m 37 #[.val (.ref wAVG), .val (.ref a2), .val (.double (FP.l2d 0)), .second, .val (.ref a2), uu, uu, uu, uu] [])) _
    refine XS.aload X51.here hx rfl (hb hby d1_37) rfl rfl ?_
    show Steps p.tables e below (T51.setTop (mkF m 39 #[.val (.ref wAVG), .val (.ref a2), .val (.double (FP.l2d 0)), .second, .val (.ref a2), uu, uu, uu, uu] [(.ref a2)])) _
    refine X51.arraylength hx (by rw [e51]; exact Ar.1) (State.isArrayOf_alike hZ.alike Ar.2.1) (g := (mkF m 39 #[.val (.ref wAVG), .val (.ref a2), .val (.double (FP.l2d 0)), .second, .val (.ref a2), uu, uu, uu, uu] [(.ref a2)])) rfl rfl (hb hby d1_39) _ ?_
    rw [len_of Sz Nn]
    show Steps p.tables e below (T51.setTop (mkF m 40 #[.val (.ref wAVG), .val (.ref a2), .val (.double (FP.l2d 0)), .second, .val (.ref a2), uu, uu, uu, uu] [(.int (1 : Int32))])) _
    refine XS.istore X51.here hx rfl (hb hby d1_40) rfl (l' := #[.val (.ref wAVG), .val (.ref a2), .val (.double (FP.l2d 0)), .second, .val (.ref a2), .val (.int (1 : Int32)), uu, uu, uu]) rfl ?_
    show Steps p.tables e below (T51.setTop (mkF m 42 #[.val (.ref wAVG), .val (.ref a2), .val (.double (FP.l2d 0)), .second, .val (.ref a2), .val (.int (1 : Int32)), uu, uu, uu] [])) _
    refine XS.iconst X51.here hx rfl (hb hby d1_42) ?_
    show Steps p.tables e below (T51.setTop (mkF m 43 #[.val (.ref wAVG), .val (.ref a2), .val (.double (FP.l2d 0)), .second, .val (.ref a2), .val (.int (1 : Int32)), uu, uu, uu] [(.int (0 : Int32))])) _
    refine XS.istore X51.here hx rfl (hb hby d1_43) rfl (l' := #[.val (.ref wAVG), .val (.ref a2), .val (.double (FP.l2d 0)), .second, .val (.ref a2), .val (.int (1 : Int32)), .val (.int (0 : Int32)), uu, uu]) rfl ?_
    show Steps p.tables e below (T51.setTop (mkF m 45 #[.val (.ref wAVG), .val (.ref a2), .val (.double (FP.l2d 0)), .second, .val (.ref a2), .val (.int (1 : Int32)), .val (.int (0 : Int32)), uu, uu] [])) _
    refine XS.iload X51.here hx rfl (hb hby d1_45) rfl ?_
    show Steps p.tables e below (T51.setTop (mkF m 47 #[.val (.ref wAVG), .val (.ref a2), .val (.double (FP.l2d 0)), .second, .val (.ref a2), .val (.int (1 : Int32)), .val (.int (0 : Int32)), uu, uu] [(.int (0 : Int32))])) _
    refine XS.iload X51.here hx rfl (hb hby d1_47) rfl ?_
    show Steps p.tables e below (T51.setTop (mkF m 49 #[.val (.ref wAVG), .val (.ref a2), .val (.double (FP.l2d 0)), .second, .val (.ref a2), .val (.int (1 : Int32)), .val (.int (0 : Int32)), uu, uu] [(.int (1 : Int32)), (.int (0 : Int32))])) _
    refine XS.icmpNo X51.here hx rfl (hb hby d1_49) rfl (tlt (by decide : (0 : Int32) < (1 : Int32))).2.1 ?_
    show Steps p.tables e below (T51.setTop (mkF m 52 #[.val (.ref wAVG), .val (.ref a2), .val (.double (FP.l2d 0)), .second, .val (.ref a2), .val (.int (1 : Int32)), .val (.int (0 : Int32)), uu, uu] [])) _
    refine XS.aload X51.here hx rfl (hb hby d1_52) rfl rfl ?_
    show Steps p.tables e below (T51.setTop (mkF m 54 #[.val (.ref wAVG), .val (.ref a2), .val (.double (FP.l2d 0)), .second, .val (.ref a2), .val (.int (1 : Int32)), .val (.int (0 : Int32)), uu, uu] [(.ref a2)])) _
    refine XS.iload X51.here hx rfl (hb hby d1_54) rfl ?_
    show Steps p.tables e below (T51.setTop (mkF m 56 #[.val (.ref wAVG), .val (.ref a2), .val (.double (FP.l2d 0)), .second, .val (.ref a2), .val (.int (1 : Int32)), .val (.int (0 : Int32)), uu, uu] [(.int (0 : Int32)), (.ref a2)])) _
    refine X51.daload hx (j := (0 : Int32)) (v := (.double (FP.l2d x0))) (by rw [e51]; exact Ar.1) (State.isArrayOf_alike hZ.alike Ar.2.1) Ar.2.2 (inb_of Sz (by decide)) (by rw [show ((0 : Int32)).toNatClampNeg = 0 by decide]; exact hat0) (g := (mkF m 56 #[.val (.ref wAVG), .val (.ref a2), .val (.double (FP.l2d 0)), .second, .val (.ref a2), .val (.int (1 : Int32)), .val (.int (0 : Int32)), uu, uu] [(.int (0 : Int32)), (.ref a2)])) rfl rfl (hb hby d1_56) _ ?_
    show Steps p.tables e below (T51.setTop (mkF m 57 #[.val (.ref wAVG), .val (.ref a2), .val (.double (FP.l2d 0)), .second, .val (.ref a2), .val (.int (1 : Int32)), .val (.int (0 : Int32)), uu, uu] [(.double (FP.l2d x0))])) _
    refine XS.dstore X51.here hx rfl (hb hby d1_57) rfl (l' := #[.val (.ref wAVG), .val (.ref a2), .val (.double (FP.l2d 0)), .second, .val (.ref a2), .val (.int (1 : Int32)), .val (.int (0 : Int32)), .val (.double (FP.l2d x0)), .second]) rfl ?_
    show Steps p.tables e below (T51.setTop (mkF m 59 #[.val (.ref wAVG), .val (.ref a2), .val (.double (FP.l2d 0)), .second, .val (.ref a2), .val (.int (1 : Int32)), .val (.int (0 : Int32)), .val (.double (FP.l2d x0)), .second] [])) _
    refine XS.dloadN X51.here hx rfl (hb hby d1_59) rfl ?_
    show Steps p.tables e below (T51.setTop (mkF m 60 #[.val (.ref wAVG), .val (.ref a2), .val (.double (FP.l2d 0)), .second, .val (.ref a2), .val (.int (1 : Int32)), .val (.int (0 : Int32)), .val (.double (FP.l2d x0)), .second] [(.double (FP.l2d 0))])) _
    refine XS.dload X51.here hx rfl (hb hby d1_60) rfl ?_
    show Steps p.tables e below (T51.setTop (mkF m 62 #[.val (.ref wAVG), .val (.ref a2), .val (.double (FP.l2d 0)), .second, .val (.ref a2), .val (.int (1 : Int32)), .val (.int (0 : Int32)), .val (.double (FP.l2d x0)), .second] [(.double (FP.l2d x0)), (.double (FP.l2d 0))])) _
    refine XS.daddS X51.here hx rfl (hb hby d1_62) rfl (nn_w (own_s0 b0)) (v := FP.l2d x0) (own_s0 b0) ?_
    show Steps p.tables e below (T51.setTop (mkF m 63 #[.val (.ref wAVG), .val (.ref a2), .val (.double (FP.l2d 0)), .second, .val (.ref a2), .val (.int (1 : Int32)), .val (.int (0 : Int32)), .val (.double (FP.l2d x0)), .second] [(.double (FP.l2d x0))])) _
    refine XS.dstoreN X51.here hx rfl (hb hby d1_63) rfl (l' := #[.val (.ref wAVG), .val (.ref a2), .val (.double (FP.l2d x0)), .second, .val (.ref a2), .val (.int (1 : Int32)), .val (.int (0 : Int32)), .val (.double (FP.l2d x0)), .second]) rfl ?_
    show Steps p.tables e below (T51.setTop (mkF m 64 #[.val (.ref wAVG), .val (.ref a2), .val (.double (FP.l2d x0)), .second, .val (.ref a2), .val (.int (1 : Int32)), .val (.int (0 : Int32)), .val (.double (FP.l2d x0)), .second] [])) _
    refine XS.iinc X51.here hx rfl (hb hby d1_64) rfl (l' := #[.val (.ref wAVG), .val (.ref a2), .val (.double (FP.l2d x0)), .second, .val (.ref a2), .val (.int (1 : Int32)), .val (.int ((0 : Int32) + (1 : Int32))), .val (.double (FP.l2d x0)), .second]) rfl ?_
    show Steps p.tables e below (T51.setTop (mkF m 67 #[.val (.ref wAVG), .val (.ref a2), .val (.double (FP.l2d x0)), .second, .val (.ref a2), .val (.int (1 : Int32)), .val (.int ((0 : Int32) + (1 : Int32))), .val (.double (FP.l2d x0)), .second] [])) _
    refine XS.goto X51.here hx rfl (pc0 := 67) (pc' := 45) rfl (hb hby d1_67) (by decide) (by decide) ?_
    show Steps p.tables e below (T51.setTop (mkF m 45 #[.val (.ref wAVG), .val (.ref a2), .val (.double (FP.l2d x0)), .second, .val (.ref a2), .val (.int (1 : Int32)), .val (.int ((0 : Int32) + (1 : Int32))), .val (.double (FP.l2d x0)), .second] [])) _
    refine XS.iload X51.here hx rfl (hb hby d1_45) rfl ?_
    show Steps p.tables e below (T51.setTop (mkF m 47 #[.val (.ref wAVG), .val (.ref a2), .val (.double (FP.l2d x0)), .second, .val (.ref a2), .val (.int (1 : Int32)), .val (.int ((0 : Int32) + (1 : Int32))), .val (.double (FP.l2d x0)), .second] [(.int ((0 : Int32) + (1 : Int32)))])) _
    refine XS.iload X51.here hx rfl (hb hby d1_47) rfl ?_
    show Steps p.tables e below (T51.setTop (mkF m 49 #[.val (.ref wAVG), .val (.ref a2), .val (.double (FP.l2d x0)), .second, .val (.ref a2), .val (.int (1 : Int32)), .val (.int ((0 : Int32) + (1 : Int32))), .val (.double (FP.l2d x0)), .second] [(.int (1 : Int32)), (.int ((0 : Int32) + (1 : Int32)))])) _
    refine XS.icmpYes X51.here hx rfl (pc0 := 49) (pc' := 70) rfl (hb hby d1_49) rfl (flt (by decide : ¬ (((0 : Int32) + (1 : Int32)) < (1 : Int32)))).2.1 (by decide) (by decide) ?_
    show Steps p.tables e below (T51.setTop (mkF m 70 #[.val (.ref wAVG), .val (.ref a2), .val (.double (FP.l2d x0)), .second, .val (.ref a2), .val (.int (1 : Int32)), .val (.int ((0 : Int32) + (1 : Int32))), .val (.double (FP.l2d x0)), .second] [])) _
    refine XS.aloadN X51.here hx rfl (hb hby d1_70) rfl rfl ?_
    show Steps p.tables e below (T51.setTop (mkF m 71 #[.val (.ref wAVG), .val (.ref a2), .val (.double (FP.l2d x0)), .second, .val (.ref a2), .val (.int (1 : Int32)), .val (.int ((0 : Int32) + (1 : Int32))), .val (.double (FP.l2d x0)), .second] [(.ref wAVG)])) _
    refine st52 _ ?_
    show Steps p.tables e below (T52.setTop (mkF m 74 #[.val (.ref wAVG), .val (.ref a2), .val (.double (FP.l2d x0)), .second, .val (.ref a2), .val (.int (1 : Int32)), .val (.int ((0 : Int32) + (1 : Int32))), .val (.double (FP.l2d x0)), .second] [(.ref wSUM), (.ref wAVG)])) _
    refine Jvm.RoadKit.acmp (g := (mkF m 74 #[.val (.ref wAVG), .val (.ref a2), .val (.double (FP.l2d x0)), .second, .val (.ref a2), .val (.int (1 : Int32)), .val (.int ((0 : Int32) + (1 : Int32))), .val (.double (FP.l2d x0)), .second] [(.ref wSUM), (.ref wAVG)])) X52 hx rfl rfl rfl (pc0 := 74) (pc' := 81) (same := false) rfl (hb hby d1_74) rfl (decide_eq_false fun q => (nAS : ¬ (wAVG = wSUM)) (Value.ref.inj q)) (by decide) (by decide) ?_
    show Steps p.tables e below (T52.setTop (mkF m 81 #[.val (.ref wAVG), .val (.ref a2), .val (.double (FP.l2d x0)), .second, .val (.ref a2), .val (.int (1 : Int32)), .val (.int ((0 : Int32) + (1 : Int32))), .val (.double (FP.l2d x0)), .second] [])) _
    refine XS.dloadN X52.here hx rfl (hb hby d1_81) rfl ?_
    show Steps p.tables e below (T52.setTop (mkF m 82 #[.val (.ref wAVG), .val (.ref a2), .val (.double (FP.l2d x0)), .second, .val (.ref a2), .val (.int (1 : Int32)), .val (.int ((0 : Int32) + (1 : Int32))), .val (.double (FP.l2d x0)), .second] [(.double (FP.l2d x0))])) _
    refine XS.aloadN X52.here hx rfl (hb hby d1_82) rfl rfl ?_
    show Steps p.tables e below (T52.setTop (mkF m 83 #[.val (.ref wAVG), .val (.ref a2), .val (.double (FP.l2d x0)), .second, .val (.ref a2), .val (.int (1 : Int32)), .val (.int ((0 : Int32) + (1 : Int32))), .val (.double (FP.l2d x0)), .second] [(.ref a2), (.double (FP.l2d x0))])) _
    refine X52.arraylength hx (by rw [e52]; exact Ar.1) (State.isArrayOf_alike hZ.alike Ar.2.1) (g := (mkF m 83 #[.val (.ref wAVG), .val (.ref a2), .val (.double (FP.l2d x0)), .second, .val (.ref a2), .val (.int (1 : Int32)), .val (.int ((0 : Int32) + (1 : Int32))), .val (.double (FP.l2d x0)), .second] [(.ref a2), (.double (FP.l2d x0))])) rfl rfl (hb hby d1_83) _ ?_
    rw [len_of Sz Nn]
    show Steps p.tables e below (T52.setTop (mkF m 84 #[.val (.ref wAVG), .val (.ref a2), .val (.double (FP.l2d x0)), .second, .val (.ref a2), .val (.int (1 : Int32)), .val (.int ((0 : Int32) + (1 : Int32))), .val (.double (FP.l2d x0)), .second] [(.int (1 : Int32)), (.double (FP.l2d x0))])) _
    refine XS.i2dS X52.here hx rfl (hb hby d1_84) rfl (v := FP.l2d (1 : Int32).toInt64) (i2d_w _) ?_
    show Steps p.tables e below (T52.setTop (mkF m 85 #[.val (.ref wAVG), .val (.ref a2), .val (.double (FP.l2d x0)), .second, .val (.ref a2), .val (.int (1 : Int32)), .val (.int ((0 : Int32) + (1 : Int32))), .val (.double (FP.l2d x0)), .second] [(.double (FP.l2d (1 : Int32).toInt64)), (.double (FP.l2d x0))])) _
    refine XS.ddivS X52.here hx rfl (hb hby d1_85) rfl (own_div (by decide)) rfl ?_
    show Steps p.tables e below (T52.setTop (mkF m 86 #[.val (.ref wAVG), .val (.ref a2), .val (.double (FP.l2d x0)), .second, .val (.ref a2), .val (.int (1 : Int32)), .val (.int ((0 : Int32) + (1 : Int32))), .val (.double (FP.l2d x0)), .second] [(.double (FP.ddiv (FP.l2d x0) (FP.l2d (1 : Int32).toInt64)))])) _
    exact retOut X52 hx (t := .double) Bd.returns rfl (Or.inr (Or.inr (Or.inl ⟨rfl, rfl, _, rfl⟩))) (hb hby d1_86) hr
  · show QV (some (.double (FP.ddiv (FP.l2d x0) (FP.l2d (1 : Int32).toInt64)))) h0 n0 _ T52.heap _
    rw [e52]
    exact ⟨rfl, N0, rfl⟩
set_option maxRecDepth 65536 in
set_option maxHeartbeats 40000000 in
theorem rm1_AVG_2 (l : Launch) (Z : State) (a0 : Array Value) (hw : ∀ d ∈ tables_1, d.before a0 Z = true) (ws : List Jvm.Cond) (a2 : Addr) (wMIN wMAX wAVG wSUM : Addr) (x0 x1 : Int64) (h0 : Heap) (n0 : Nat) (Z0 : n0 ≤ h0.size) (S_MIN : Sta Z h0 "com/example/tiebreaker/tiebreaker/engine/search/DecayFunction$MultiValueMode" "MIN" "Lcom/example/tiebreaker/tiebreaker/engine/search/DecayFunction$MultiValueMode;" (.ref wMIN)) (S_MAX : Sta Z h0 "com/example/tiebreaker/tiebreaker/engine/search/DecayFunction$MultiValueMode" "MAX" "Lcom/example/tiebreaker/tiebreaker/engine/search/DecayFunction$MultiValueMode;" (.ref wMAX)) (S_AVG : Sta Z h0 "com/example/tiebreaker/tiebreaker/engine/search/DecayFunction$MultiValueMode" "AVG" "Lcom/example/tiebreaker/tiebreaker/engine/search/DecayFunction$MultiValueMode;" (.ref wAVG)) (S_SUM : Sta Z h0 "com/example/tiebreaker/tiebreaker/engine/search/DecayFunction$MultiValueMode" "SUM" "Lcom/example/tiebreaker/tiebreaker/engine/search/DecayFunction$MultiValueMode;" (.ref wSUM)) (nXI : ¬ wMAX = wMIN) (nAI : ¬ wAVG = wMIN) (nAX : ¬ wAVG = wMAX) (nSI : ¬ wSUM = wMIN) (nSX : ¬ wSUM = wMAX) (nAS : ¬ wAVG = wSUM) (cl : Cell) (Ar : Arr Z h0 a2 cl .double) (Sz : cl.slots.size = (2 : Int32).toNatClampNeg) (Nn : ¬ (2 : Int32) < 0) (hat0 : cl.slots[0]? = some (.double (FP.l2d x0))) (hat1 : cl.slots[1]? = some (.double (FP.l2d x1))) (b0 : 0 ≤ x0.toInt ∧ x0.toInt < 4000000) (b1 : 0 ≤ x1.toInt ∧ x1.toInt < 4000000) :
    MetFree l (⟨"com/example/tiebreaker/tiebreaker/engine/search/DecayFunction$MultiValueMode", "pick", "([D)D"⟩ : MethodName) (head1 (Jvm.Cond.code (⟨"com/example/tiebreaker/tiebreaker/engine/search/DecayFunction$MultiValueMode", "pick", "([D)D"⟩ : MethodName) prog_49_method_4_code 9 (some .double) :: ws) ({ frames := 0, cells := 0, slots := 0, locals := 0 } : Room)) (fun a U => a = #[(.ref wAVG), (.ref a2)] ∧ Z.Warmed39 U.vm ∧ U.heap = h0) (fun _ _ _ _ _ => True) (fun _ U o U' => ∃ v L, o = .returned v ∧ QV (some (.double (FP.ddiv (FP.l2d (x0 + x1)) (FP.l2d (2 : Int32).toInt64)))) h0 n0 v U'.heap L ∧ FrameEnd U o U' L ({ frames := 0, cells := 0, slots := 0, locals := 0 } : Room).cells ({ frames := 0, cells := 0, slots := 0, locals := 0 } : Room).slots) := by
  refine MetFree.of_bodySF (plainFor_of_name pn_1) hisR ?_
  intro p e s m args below meth c s₁ Bd hml0 hP hK
  obtain ⟨rfl, hZ, hh⟩ := hP
  have hx := Bd.exec
  have hby := Bd.bytes
  have hml : c.maxLocals = 9 := hml0
  have hown : s.vm.findClass "com/example/tiebreaker/tiebreaker/engine/search/DecayFunction$MultiValueMode" = some m.cls := findClass_of_methodNamed Bd.named
  have X0 : Stand p l e ({ frames := 0, cells := 0, slots := 0, locals := 0 } : Room) s m #[(.ref wAVG), (.ref a2)] below meth c s₁ [] 0 0 := Stand.of_body Bd
  have e0 : s₁.heap = h0 := by rw [← hh, Bd.state]; rfl
  have N0 := Fr.nil n0
  have pre0 : ∀ t, Steps p.tables e below (s₁.setTop (mkF m 0 #[.val (.ref wAVG), .val (.ref a2), uu, uu, uu, uu, uu, uu, uu] [])) t → Steps p.tables e below (s₁.setTop (entryFrame m #[(.ref wAVG), (.ref a2)] 9)) t := fun t k => castTop (ef_1 m wAVG a2) k
  obtain ⟨T50, X50, e50, st50⟩ := getS2 X0 hx hZ hown (host := "") (Or.inl (hw _ (List.mem_of_getElem? (i := 11) rfl))) Via.refl e0 S_MIN (g := (mkF m 1 #[.val (.ref wAVG), .val (.ref a2), uu, uu, uu, uu, uu, uu, uu] [(.ref wAVG)])) rfl (hb hby d1_1)
  obtain ⟨T51, X51, e51, st51⟩ := getS2 X50 hx hZ hown (host := "") (Or.inl (hw _ (List.mem_of_getElem? (i := 14) rfl))) Via.refl e50 S_MAX (g := (mkF m 8 #[.val (.ref wAVG), .val (.ref a2), uu, uu, uu, uu, uu, uu, uu] [(.ref wAVG)])) rfl (hb hby d1_8)
  obtain ⟨T52, X52, e52, st52⟩ := getS2 X51 hx hZ hown (host := "") (Or.inl (hw _ (List.mem_of_getElem? (i := 16) rfl))) Via.refl e51 S_SUM (g := (mkF m 71 #[.val (.ref wAVG), .val (.ref a2), .val (.double (FP.l2d (x0 + x1))), .second, .val (.ref a2), .val (.int (2 : Int32)), .val (.int (((0 : Int32) + (1 : Int32)) + (1 : Int32))), .val (.double (FP.l2d x1)), .second] [(.ref wAVG)])) rfl (hb hby d1_71)
  obtain ⟨fs, hr, hrun, hended, hW, hsame⟩ := X52.leave (v := some (.double (FP.ddiv (FP.l2d (x0 + x1)) (FP.l2d (2 : Int32).toInt64)))) (fun h => by rw [Bd.returns] at h; cases h)
  refine ⟨_, _, pre0 _ ?_, hrun, hended, _, _, rfl, ?_, ⟨_, rfl⟩, hW, hsame.mono (by decide) (by decide)⟩
  · show Steps p.tables e below (s₁.setTop (mkF m 0 #[.val (.ref wAVG), .val (.ref a2), uu, uu, uu, uu, uu, uu, uu] [])) _
    refine XS.aloadN X0.here hx rfl (hb hby d1_0) rfl rfl ?_
    show Steps p.tables e below (s₁.setTop (mkF m 1 #[.val (.ref wAVG), .val (.ref a2), uu, uu, uu, uu, uu, uu, uu] [(.ref wAVG)])) _
    refine st50 _ ?_
    show Steps p.tables e below (T50.setTop (mkF m 4 #[.val (.ref wAVG), .val (.ref a2), uu, uu, uu, uu, uu, uu, uu] [(.ref wMIN), (.ref wAVG)])) _
    refine Jvm.RoadKit.acmp (g := (mkF m 4 #[.val (.ref wAVG), .val (.ref a2), uu, uu, uu, uu, uu, uu, uu] [(.ref wMIN), (.ref wAVG)])) X50 hx rfl rfl rfl (pc0 := 4) (pc' := 7) (same := false) rfl (hb hby d1_4) rfl (decide_eq_false fun q => (nAI : ¬ (wAVG = wMIN)) (Value.ref.inj q)) (by decide) (by decide) ?_
    show Steps p.tables e below (T50.setTop (mkF m 7 #[.val (.ref wAVG), .val (.ref a2), uu, uu, uu, uu, uu, uu, uu] [])) _
    refine XS.aloadN X50.here hx rfl (hb hby d1_7) rfl rfl ?_
    show Steps p.tables e below (T50.setTop (mkF m 8 #[.val (.ref wAVG), .val (.ref a2), uu, uu, uu, uu, uu, uu, uu] [(.ref wAVG)])) _
    refine st51 _ ?_
    show Steps p.tables e below (T51.setTop (mkF m 11 #[.val (.ref wAVG), .val (.ref a2), uu, uu, uu, uu, uu, uu, uu] [(.ref wMAX), (.ref wAVG)])) _
    refine Jvm.RoadKit.acmp (g := (mkF m 11 #[.val (.ref wAVG), .val (.ref a2), uu, uu, uu, uu, uu, uu, uu] [(.ref wMAX), (.ref wAVG)])) X51 hx rfl rfl rfl (pc0 := 11) (pc' := 32) (same := false) rfl (hb hby d1_11) rfl (decide_eq_false fun q => (nAX : ¬ (wAVG = wMAX)) (Value.ref.inj q)) (by decide) (by decide) ?_
    show Steps p.tables e below (T51.setTop (mkF m 32 #[.val (.ref wAVG), .val (.ref a2), uu, uu, uu, uu, uu, uu, uu] [])) _
    refine XS.dconst0 X51.here hx rfl (hb hby d1_32) (v := FP.l2d 0) (by decide +kernel) ?_
    show Steps p.tables e below (T51.setTop (mkF m 33 #[.val (.ref wAVG), .val (.ref a2), uu, uu, uu, uu, uu, uu, uu] [(.double (FP.l2d 0))])) _
    refine XS.dstoreN X51.here hx rfl (hb hby d1_33) rfl (l' := #[.val (.ref wAVG), .val (.ref a2), .val (.double (FP.l2d 0)), .second, uu, uu, uu, uu, uu]) rfl ?_
    show Steps p.tables e below (T51.setTop (mkF m 34 #[.val (.ref wAVG), .val (.ref a2), .val (.double (FP.l2d 0)), .second, uu, uu, uu, uu, uu] [])) _
    refine XS.aloadN X51.here hx rfl (hb hby d1_34) rfl rfl ?_
    show Steps p.tables e below (T51.setTop (mkF m 35 #[.val (.ref wAVG), .val (.ref a2), .val (.double (FP.l2d 0)), .second, uu, uu, uu, uu, uu] [(.ref a2)])) _
    refine XS.astore X51.here hx rfl (hb hby d1_35) rfl rfl (l' := #[.val (.ref wAVG), .val (.ref a2), .val (.double (FP.l2d 0)), .second, .val (.ref a2), uu, uu, uu, uu]) rfl ?_
    show Steps p.tables e below (T51.setTop (mkF m 37 #[.val (.ref wAVG), .val (.ref a2), .val (.double (FP.l2d 0)), .second, .val (.ref a2), uu, uu, uu, uu] [])) _
    refine XS.aload X51.here hx rfl (hb hby d1_37) rfl rfl ?_
    show Steps p.tables e below (T51.setTop (mkF m 39 #[.val (.ref wAVG), .val (.ref a2), .val (.double (FP.l2d 0)), .second, .val (.ref a2), uu, uu, uu, uu] [(.ref a2)])) _
    refine X51.arraylength hx (by rw [e51]; exact Ar.1) (State.isArrayOf_alike hZ.alike Ar.2.1) (g := (mkF m 39 #[.val (.ref wAVG), .val (.ref a2), .val (.double (FP.l2d 0)), .second, .val (.ref a2), uu, uu, uu, uu] [(.ref a2)])) rfl rfl (hb hby d1_39) _ ?_
    rw [len_of Sz Nn]
    show Steps p.tables e below (T51.setTop (mkF m 40 #[.val (.ref wAVG), .val (.ref a2), .val (.double (FP.l2d 0)), .second, .val (.ref a2), uu, uu, uu, uu] [(.int (2 : Int32))])) _
    refine XS.istore X51.here hx rfl (hb hby d1_40) rfl (l' := #[.val (.ref wAVG), .val (.ref a2), .val (.double (FP.l2d 0)), .second, .val (.ref a2), .val (.int (2 : Int32)), uu, uu, uu]) rfl ?_
    show Steps p.tables e below (T51.setTop (mkF m 42 #[.val (.ref wAVG), .val (.ref a2), .val (.double (FP.l2d 0)), .second, .val (.ref a2), .val (.int (2 : Int32)), uu, uu, uu] [])) _
    refine XS.iconst X51.here hx rfl (hb hby d1_42) ?_
    show Steps p.tables e below (T51.setTop (mkF m 43 #[.val (.ref wAVG), .val (.ref a2), .val (.double (FP.l2d 0)), .second, .val (.ref a2), .val (.int (2 : Int32)), uu, uu, uu] [(.int (0 : Int32))])) _
    refine XS.istore X51.here hx rfl (hb hby d1_43) rfl (l' := #[.val (.ref wAVG), .val (.ref a2), .val (.double (FP.l2d 0)), .second, .val (.ref a2), .val (.int (2 : Int32)), .val (.int (0 : Int32)), uu, uu]) rfl ?_
    show Steps p.tables e below (T51.setTop (mkF m 45 #[.val (.ref wAVG), .val (.ref a2), .val (.double (FP.l2d 0)), .second, .val (.ref a2), .val (.int (2 : Int32)), .val (.int (0 : Int32)), uu, uu] [])) _
    refine XS.iload X51.here hx rfl (hb hby d1_45) rfl ?_
    show Steps p.tables e below (T51.setTop (mkF m 47 #[.val (.ref wAVG), .val (.ref a2), .val (.double (FP.l2d 0)), .second, .val (.ref a2), .val (.int (2 : Int32)), .val (.int (0 : Int32)), uu, uu] [(.int (0 : Int32))])) _
    refine XS.iload X51.here hx rfl (hb hby d1_47) rfl ?_
    show Steps p.tables e below (T51.setTop (mkF m 49 #[.val (.ref wAVG), .val (.ref a2), .val (.double (FP.l2d 0)), .second, .val (.ref a2), .val (.int (2 : Int32)), .val (.int (0 : Int32)), uu, uu] [(.int (2 : Int32)), (.int (0 : Int32))])) _
    refine XS.icmpNo X51.here hx rfl (hb hby d1_49) rfl (tlt (by decide : (0 : Int32) < (2 : Int32))).2.1 ?_
    show Steps p.tables e below (T51.setTop (mkF m 52 #[.val (.ref wAVG), .val (.ref a2), .val (.double (FP.l2d 0)), .second, .val (.ref a2), .val (.int (2 : Int32)), .val (.int (0 : Int32)), uu, uu] [])) _
    refine XS.aload X51.here hx rfl (hb hby d1_52) rfl rfl ?_
    show Steps p.tables e below (T51.setTop (mkF m 54 #[.val (.ref wAVG), .val (.ref a2), .val (.double (FP.l2d 0)), .second, .val (.ref a2), .val (.int (2 : Int32)), .val (.int (0 : Int32)), uu, uu] [(.ref a2)])) _
    refine XS.iload X51.here hx rfl (hb hby d1_54) rfl ?_
    show Steps p.tables e below (T51.setTop (mkF m 56 #[.val (.ref wAVG), .val (.ref a2), .val (.double (FP.l2d 0)), .second, .val (.ref a2), .val (.int (2 : Int32)), .val (.int (0 : Int32)), uu, uu] [(.int (0 : Int32)), (.ref a2)])) _
    refine X51.daload hx (j := (0 : Int32)) (v := (.double (FP.l2d x0))) (by rw [e51]; exact Ar.1) (State.isArrayOf_alike hZ.alike Ar.2.1) Ar.2.2 (inb_of Sz (by decide)) (by rw [show ((0 : Int32)).toNatClampNeg = 0 by decide]; exact hat0) (g := (mkF m 56 #[.val (.ref wAVG), .val (.ref a2), .val (.double (FP.l2d 0)), .second, .val (.ref a2), .val (.int (2 : Int32)), .val (.int (0 : Int32)), uu, uu] [(.int (0 : Int32)), (.ref a2)])) rfl rfl (hb hby d1_56) _ ?_
    show Steps p.tables e below (T51.setTop (mkF m 57 #[.val (.ref wAVG), .val (.ref a2), .val (.double (FP.l2d 0)), .second, .val (.ref a2), .val (.int (2 : Int32)), .val (.int (0 : Int32)), uu, uu] [(.double (FP.l2d x0))])) _
    refine XS.dstore X51.here hx rfl (hb hby d1_57) rfl (l' := #[.val (.ref wAVG), .val (.ref a2), .val (.double (FP.l2d 0)), .second, .val (.ref a2), .val (.int (2 : Int32)), .val (.int (0 : Int32)), .val (.double (FP.l2d x0)), .second]) rfl ?_
    show Steps p.tables e below (T51.setTop (mkF m 59 #[.val (.ref wAVG), .val (.ref a2), .val (.double (FP.l2d 0)), .second, .val (.ref a2), .val (.int (2 : Int32)), .val (.int (0 : Int32)), .val (.double (FP.l2d x0)), .second] [])) _
    refine XS.dloadN X51.here hx rfl (hb hby d1_59) rfl ?_
    show Steps p.tables e below (T51.setTop (mkF m 60 #[.val (.ref wAVG), .val (.ref a2), .val (.double (FP.l2d 0)), .second, .val (.ref a2), .val (.int (2 : Int32)), .val (.int (0 : Int32)), .val (.double (FP.l2d x0)), .second] [(.double (FP.l2d 0))])) _
    refine XS.dload X51.here hx rfl (hb hby d1_60) rfl ?_
    show Steps p.tables e below (T51.setTop (mkF m 62 #[.val (.ref wAVG), .val (.ref a2), .val (.double (FP.l2d 0)), .second, .val (.ref a2), .val (.int (2 : Int32)), .val (.int (0 : Int32)), .val (.double (FP.l2d x0)), .second] [(.double (FP.l2d x0)), (.double (FP.l2d 0))])) _
    refine XS.daddS X51.here hx rfl (hb hby d1_62) rfl (nn_w (own_s0 b0)) (v := FP.l2d x0) (own_s0 b0) ?_
    show Steps p.tables e below (T51.setTop (mkF m 63 #[.val (.ref wAVG), .val (.ref a2), .val (.double (FP.l2d 0)), .second, .val (.ref a2), .val (.int (2 : Int32)), .val (.int (0 : Int32)), .val (.double (FP.l2d x0)), .second] [(.double (FP.l2d x0))])) _
    refine XS.dstoreN X51.here hx rfl (hb hby d1_63) rfl (l' := #[.val (.ref wAVG), .val (.ref a2), .val (.double (FP.l2d x0)), .second, .val (.ref a2), .val (.int (2 : Int32)), .val (.int (0 : Int32)), .val (.double (FP.l2d x0)), .second]) rfl ?_
    show Steps p.tables e below (T51.setTop (mkF m 64 #[.val (.ref wAVG), .val (.ref a2), .val (.double (FP.l2d x0)), .second, .val (.ref a2), .val (.int (2 : Int32)), .val (.int (0 : Int32)), .val (.double (FP.l2d x0)), .second] [])) _
    refine XS.iinc X51.here hx rfl (hb hby d1_64) rfl (l' := #[.val (.ref wAVG), .val (.ref a2), .val (.double (FP.l2d x0)), .second, .val (.ref a2), .val (.int (2 : Int32)), .val (.int ((0 : Int32) + (1 : Int32))), .val (.double (FP.l2d x0)), .second]) rfl ?_
    show Steps p.tables e below (T51.setTop (mkF m 67 #[.val (.ref wAVG), .val (.ref a2), .val (.double (FP.l2d x0)), .second, .val (.ref a2), .val (.int (2 : Int32)), .val (.int ((0 : Int32) + (1 : Int32))), .val (.double (FP.l2d x0)), .second] [])) _
    refine XS.goto X51.here hx rfl (pc0 := 67) (pc' := 45) rfl (hb hby d1_67) (by decide) (by decide) ?_
    show Steps p.tables e below (T51.setTop (mkF m 45 #[.val (.ref wAVG), .val (.ref a2), .val (.double (FP.l2d x0)), .second, .val (.ref a2), .val (.int (2 : Int32)), .val (.int ((0 : Int32) + (1 : Int32))), .val (.double (FP.l2d x0)), .second] [])) _
    refine XS.iload X51.here hx rfl (hb hby d1_45) rfl ?_
    show Steps p.tables e below (T51.setTop (mkF m 47 #[.val (.ref wAVG), .val (.ref a2), .val (.double (FP.l2d x0)), .second, .val (.ref a2), .val (.int (2 : Int32)), .val (.int ((0 : Int32) + (1 : Int32))), .val (.double (FP.l2d x0)), .second] [(.int ((0 : Int32) + (1 : Int32)))])) _
    refine XS.iload X51.here hx rfl (hb hby d1_47) rfl ?_
    show Steps p.tables e below (T51.setTop (mkF m 49 #[.val (.ref wAVG), .val (.ref a2), .val (.double (FP.l2d x0)), .second, .val (.ref a2), .val (.int (2 : Int32)), .val (.int ((0 : Int32) + (1 : Int32))), .val (.double (FP.l2d x0)), .second] [(.int (2 : Int32)), (.int ((0 : Int32) + (1 : Int32)))])) _
    refine XS.icmpNo X51.here hx rfl (hb hby d1_49) rfl (tlt (by decide : ((0 : Int32) + (1 : Int32)) < (2 : Int32))).2.1 ?_
    show Steps p.tables e below (T51.setTop (mkF m 52 #[.val (.ref wAVG), .val (.ref a2), .val (.double (FP.l2d x0)), .second, .val (.ref a2), .val (.int (2 : Int32)), .val (.int ((0 : Int32) + (1 : Int32))), .val (.double (FP.l2d x0)), .second] [])) _
    refine XS.aload X51.here hx rfl (hb hby d1_52) rfl rfl ?_
    show Steps p.tables e below (T51.setTop (mkF m 54 #[.val (.ref wAVG), .val (.ref a2), .val (.double (FP.l2d x0)), .second, .val (.ref a2), .val (.int (2 : Int32)), .val (.int ((0 : Int32) + (1 : Int32))), .val (.double (FP.l2d x0)), .second] [(.ref a2)])) _
    refine XS.iload X51.here hx rfl (hb hby d1_54) rfl ?_
    show Steps p.tables e below (T51.setTop (mkF m 56 #[.val (.ref wAVG), .val (.ref a2), .val (.double (FP.l2d x0)), .second, .val (.ref a2), .val (.int (2 : Int32)), .val (.int ((0 : Int32) + (1 : Int32))), .val (.double (FP.l2d x0)), .second] [(.int ((0 : Int32) + (1 : Int32))), (.ref a2)])) _
    refine X51.daload hx (j := ((0 : Int32) + (1 : Int32))) (v := (.double (FP.l2d x1))) (by rw [e51]; exact Ar.1) (State.isArrayOf_alike hZ.alike Ar.2.1) Ar.2.2 (inb_of Sz (by decide)) (by rw [show (((0 : Int32) + (1 : Int32))).toNatClampNeg = 1 by decide]; exact hat1) (g := (mkF m 56 #[.val (.ref wAVG), .val (.ref a2), .val (.double (FP.l2d x0)), .second, .val (.ref a2), .val (.int (2 : Int32)), .val (.int ((0 : Int32) + (1 : Int32))), .val (.double (FP.l2d x0)), .second] [(.int ((0 : Int32) + (1 : Int32))), (.ref a2)])) rfl rfl (hb hby d1_56) _ ?_
    show Steps p.tables e below (T51.setTop (mkF m 57 #[.val (.ref wAVG), .val (.ref a2), .val (.double (FP.l2d x0)), .second, .val (.ref a2), .val (.int (2 : Int32)), .val (.int ((0 : Int32) + (1 : Int32))), .val (.double (FP.l2d x0)), .second] [(.double (FP.l2d x1))])) _
    refine XS.dstore X51.here hx rfl (hb hby d1_57) rfl (l' := #[.val (.ref wAVG), .val (.ref a2), .val (.double (FP.l2d x0)), .second, .val (.ref a2), .val (.int (2 : Int32)), .val (.int ((0 : Int32) + (1 : Int32))), .val (.double (FP.l2d x1)), .second]) rfl ?_
    show Steps p.tables e below (T51.setTop (mkF m 59 #[.val (.ref wAVG), .val (.ref a2), .val (.double (FP.l2d x0)), .second, .val (.ref a2), .val (.int (2 : Int32)), .val (.int ((0 : Int32) + (1 : Int32))), .val (.double (FP.l2d x1)), .second] [])) _
    refine XS.dloadN X51.here hx rfl (hb hby d1_59) rfl ?_
    show Steps p.tables e below (T51.setTop (mkF m 60 #[.val (.ref wAVG), .val (.ref a2), .val (.double (FP.l2d x0)), .second, .val (.ref a2), .val (.int (2 : Int32)), .val (.int ((0 : Int32) + (1 : Int32))), .val (.double (FP.l2d x1)), .second] [(.double (FP.l2d x0))])) _
    refine XS.dload X51.here hx rfl (hb hby d1_60) rfl ?_
    show Steps p.tables e below (T51.setTop (mkF m 62 #[.val (.ref wAVG), .val (.ref a2), .val (.double (FP.l2d x0)), .second, .val (.ref a2), .val (.int (2 : Int32)), .val (.int ((0 : Int32) + (1 : Int32))), .val (.double (FP.l2d x1)), .second] [(.double (FP.l2d x1)), (.double (FP.l2d x0))])) _
    refine XS.daddS X51.here hx rfl (hb hby d1_62) rfl (nn_w (own_s1 b0 b1)) (v := FP.l2d (x0 + x1)) (own_s1 b0 b1) ?_
    show Steps p.tables e below (T51.setTop (mkF m 63 #[.val (.ref wAVG), .val (.ref a2), .val (.double (FP.l2d x0)), .second, .val (.ref a2), .val (.int (2 : Int32)), .val (.int ((0 : Int32) + (1 : Int32))), .val (.double (FP.l2d x1)), .second] [(.double (FP.l2d (x0 + x1)))])) _
    refine XS.dstoreN X51.here hx rfl (hb hby d1_63) rfl (l' := #[.val (.ref wAVG), .val (.ref a2), .val (.double (FP.l2d (x0 + x1))), .second, .val (.ref a2), .val (.int (2 : Int32)), .val (.int ((0 : Int32) + (1 : Int32))), .val (.double (FP.l2d x1)), .second]) rfl ?_
    show Steps p.tables e below (T51.setTop (mkF m 64 #[.val (.ref wAVG), .val (.ref a2), .val (.double (FP.l2d (x0 + x1))), .second, .val (.ref a2), .val (.int (2 : Int32)), .val (.int ((0 : Int32) + (1 : Int32))), .val (.double (FP.l2d x1)), .second] [])) _
    refine XS.iinc X51.here hx rfl (hb hby d1_64) rfl (l' := #[.val (.ref wAVG), .val (.ref a2), .val (.double (FP.l2d (x0 + x1))), .second, .val (.ref a2), .val (.int (2 : Int32)), .val (.int (((0 : Int32) + (1 : Int32)) + (1 : Int32))), .val (.double (FP.l2d x1)), .second]) rfl ?_
    show Steps p.tables e below (T51.setTop (mkF m 67 #[.val (.ref wAVG), .val (.ref a2), .val (.double (FP.l2d (x0 + x1))), .second, .val (.ref a2), .val (.int (2 : Int32)), .val (.int (((0 : Int32) + (1 : Int32)) + (1 : Int32))), .val (.double (FP.l2d x1)), .second] [])) _
    refine XS.goto X51.here hx rfl (pc0 := 67) (pc' := 45) rfl (hb hby d1_67) (by decide) (by decide) ?_
    show Steps p.tables e below (T51.setTop (mkF m 45 #[.val (.ref wAVG), .val (.ref a2), .val (.double (FP.l2d (x0 + x1))), .second, .val (.ref a2), .val (.int (2 : Int32)), .val (.int (((0 : Int32) + (1 : Int32)) + (1 : Int32))), .val (.double (FP.l2d x1)), .second] [])) _
    refine XS.iload X51.here hx rfl (hb hby d1_45) rfl ?_
    show Steps p.tables e below (T51.setTop (mkF m 47 #[.val (.ref wAVG), .val (.ref a2), .val (.double (FP.l2d (x0 + x1))), .second, .val (.ref a2), .val (.int (2 : Int32)), .val (.int (((0 : Int32) + (1 : Int32)) + (1 : Int32))), .val (.double (FP.l2d x1)), .second] [(.int (((0 : Int32) + (1 : Int32)) + (1 : Int32)))])) _
    refine XS.iload X51.here hx rfl (hb hby d1_47) rfl ?_
    show Steps p.tables e below (T51.setTop (mkF m 49 #[.val (.ref wAVG), .val (.ref a2), .val (.double (FP.l2d (x0 + x1))), .second, .val (.ref a2), .val (.int (2 : Int32)), .val (.int (((0 : Int32) + (1 : Int32)) + (1 : Int32))), .val (.double (FP.l2d x1)), .second] [(.int (2 : Int32)), (.int (((0 : Int32) + (1 : Int32)) + (1 : Int32)))])) _
    refine XS.icmpYes X51.here hx rfl (pc0 := 49) (pc' := 70) rfl (hb hby d1_49) rfl (flt (by decide : ¬ ((((0 : Int32) + (1 : Int32)) + (1 : Int32)) < (2 : Int32)))).2.1 (by decide) (by decide) ?_
    show Steps p.tables e below (T51.setTop (mkF m 70 #[.val (.ref wAVG), .val (.ref a2), .val (.double (FP.l2d (x0 + x1))), .second, .val (.ref a2), .val (.int (2 : Int32)), .val (.int (((0 : Int32) + (1 : Int32)) + (1 : Int32))), .val (.double (FP.l2d x1)), .second] [])) _
    refine XS.aloadN X51.here hx rfl (hb hby d1_70) rfl rfl ?_
    show Steps p.tables e below (T51.setTop (mkF m 71 #[.val (.ref wAVG), .val (.ref a2), .val (.double (FP.l2d (x0 + x1))), .second, .val (.ref a2), .val (.int (2 : Int32)), .val (.int (((0 : Int32) + (1 : Int32)) + (1 : Int32))), .val (.double (FP.l2d x1)), .second] [(.ref wAVG)])) _
    refine st52 _ ?_
    show Steps p.tables e below (T52.setTop (mkF m 74 #[.val (.ref wAVG), .val (.ref a2), .val (.double (FP.l2d (x0 + x1))), .second, .val (.ref a2), .val (.int (2 : Int32)), .val (.int (((0 : Int32) + (1 : Int32)) + (1 : Int32))), .val (.double (FP.l2d x1)), .second] [(.ref wSUM), (.ref wAVG)])) _
    refine Jvm.RoadKit.acmp (g := (mkF m 74 #[.val (.ref wAVG), .val (.ref a2), .val (.double (FP.l2d (x0 + x1))), .second, .val (.ref a2), .val (.int (2 : Int32)), .val (.int (((0 : Int32) + (1 : Int32)) + (1 : Int32))), .val (.double (FP.l2d x1)), .second] [(.ref wSUM), (.ref wAVG)])) X52 hx rfl rfl rfl (pc0 := 74) (pc' := 81) (same := false) rfl (hb hby d1_74) rfl (decide_eq_false fun q => (nAS : ¬ (wAVG = wSUM)) (Value.ref.inj q)) (by decide) (by decide) ?_
    show Steps p.tables e below (T52.setTop (mkF m 81 #[.val (.ref wAVG), .val (.ref a2), .val (.double (FP.l2d (x0 + x1))), .second, .val (.ref a2), .val (.int (2 : Int32)), .val (.int (((0 : Int32) + (1 : Int32)) + (1 : Int32))), .val (.double (FP.l2d x1)), .second] [])) _
    refine XS.dloadN X52.here hx rfl (hb hby d1_81) rfl ?_
    show Steps p.tables e below (T52.setTop (mkF m 82 #[.val (.ref wAVG), .val (.ref a2), .val (.double (FP.l2d (x0 + x1))), .second, .val (.ref a2), .val (.int (2 : Int32)), .val (.int (((0 : Int32) + (1 : Int32)) + (1 : Int32))), .val (.double (FP.l2d x1)), .second] [(.double (FP.l2d (x0 + x1)))])) _
    refine XS.aloadN X52.here hx rfl (hb hby d1_82) rfl rfl ?_
    show Steps p.tables e below (T52.setTop (mkF m 83 #[.val (.ref wAVG), .val (.ref a2), .val (.double (FP.l2d (x0 + x1))), .second, .val (.ref a2), .val (.int (2 : Int32)), .val (.int (((0 : Int32) + (1 : Int32)) + (1 : Int32))), .val (.double (FP.l2d x1)), .second] [(.ref a2), (.double (FP.l2d (x0 + x1)))])) _
    refine X52.arraylength hx (by rw [e52]; exact Ar.1) (State.isArrayOf_alike hZ.alike Ar.2.1) (g := (mkF m 83 #[.val (.ref wAVG), .val (.ref a2), .val (.double (FP.l2d (x0 + x1))), .second, .val (.ref a2), .val (.int (2 : Int32)), .val (.int (((0 : Int32) + (1 : Int32)) + (1 : Int32))), .val (.double (FP.l2d x1)), .second] [(.ref a2), (.double (FP.l2d (x0 + x1)))])) rfl rfl (hb hby d1_83) _ ?_
    rw [len_of Sz Nn]
    show Steps p.tables e below (T52.setTop (mkF m 84 #[.val (.ref wAVG), .val (.ref a2), .val (.double (FP.l2d (x0 + x1))), .second, .val (.ref a2), .val (.int (2 : Int32)), .val (.int (((0 : Int32) + (1 : Int32)) + (1 : Int32))), .val (.double (FP.l2d x1)), .second] [(.int (2 : Int32)), (.double (FP.l2d (x0 + x1)))])) _
    refine XS.i2dS X52.here hx rfl (hb hby d1_84) rfl (v := FP.l2d (2 : Int32).toInt64) (i2d_w _) ?_
    show Steps p.tables e below (T52.setTop (mkF m 85 #[.val (.ref wAVG), .val (.ref a2), .val (.double (FP.l2d (x0 + x1))), .second, .val (.ref a2), .val (.int (2 : Int32)), .val (.int (((0 : Int32) + (1 : Int32)) + (1 : Int32))), .val (.double (FP.l2d x1)), .second] [(.double (FP.l2d (2 : Int32).toInt64)), (.double (FP.l2d (x0 + x1)))])) _
    refine XS.ddivS X52.here hx rfl (hb hby d1_85) rfl (own_div (by decide)) rfl ?_
    show Steps p.tables e below (T52.setTop (mkF m 86 #[.val (.ref wAVG), .val (.ref a2), .val (.double (FP.l2d (x0 + x1))), .second, .val (.ref a2), .val (.int (2 : Int32)), .val (.int (((0 : Int32) + (1 : Int32)) + (1 : Int32))), .val (.double (FP.l2d x1)), .second] [(.double (FP.ddiv (FP.l2d (x0 + x1)) (FP.l2d (2 : Int32).toInt64)))])) _
    exact retOut X52 hx (t := .double) Bd.returns rfl (Or.inr (Or.inr (Or.inl ⟨rfl, rfl, _, rfl⟩))) (hb hby d1_86) hr
  · show QV (some (.double (FP.ddiv (FP.l2d (x0 + x1)) (FP.l2d (2 : Int32).toInt64)))) h0 n0 _ T52.heap _
    rw [e52]
    exact ⟨rfl, N0, rfl⟩
set_option maxRecDepth 65536 in
set_option maxHeartbeats 40000000 in
theorem rm1_AVG_3 (l : Launch) (Z : State) (a0 : Array Value) (hw : ∀ d ∈ tables_1, d.before a0 Z = true) (ws : List Jvm.Cond) (a2 : Addr) (wMIN wMAX wAVG wSUM : Addr) (x0 x1 x2 : Int64) (h0 : Heap) (n0 : Nat) (Z0 : n0 ≤ h0.size) (S_MIN : Sta Z h0 "com/example/tiebreaker/tiebreaker/engine/search/DecayFunction$MultiValueMode" "MIN" "Lcom/example/tiebreaker/tiebreaker/engine/search/DecayFunction$MultiValueMode;" (.ref wMIN)) (S_MAX : Sta Z h0 "com/example/tiebreaker/tiebreaker/engine/search/DecayFunction$MultiValueMode" "MAX" "Lcom/example/tiebreaker/tiebreaker/engine/search/DecayFunction$MultiValueMode;" (.ref wMAX)) (S_AVG : Sta Z h0 "com/example/tiebreaker/tiebreaker/engine/search/DecayFunction$MultiValueMode" "AVG" "Lcom/example/tiebreaker/tiebreaker/engine/search/DecayFunction$MultiValueMode;" (.ref wAVG)) (S_SUM : Sta Z h0 "com/example/tiebreaker/tiebreaker/engine/search/DecayFunction$MultiValueMode" "SUM" "Lcom/example/tiebreaker/tiebreaker/engine/search/DecayFunction$MultiValueMode;" (.ref wSUM)) (nXI : ¬ wMAX = wMIN) (nAI : ¬ wAVG = wMIN) (nAX : ¬ wAVG = wMAX) (nSI : ¬ wSUM = wMIN) (nSX : ¬ wSUM = wMAX) (nAS : ¬ wAVG = wSUM) (cl : Cell) (Ar : Arr Z h0 a2 cl .double) (Sz : cl.slots.size = (3 : Int32).toNatClampNeg) (Nn : ¬ (3 : Int32) < 0) (hat0 : cl.slots[0]? = some (.double (FP.l2d x0))) (hat1 : cl.slots[1]? = some (.double (FP.l2d x1))) (hat2 : cl.slots[2]? = some (.double (FP.l2d x2))) (b0 : 0 ≤ x0.toInt ∧ x0.toInt < 4000000) (b1 : 0 ≤ x1.toInt ∧ x1.toInt < 4000000) (b2 : 0 ≤ x2.toInt ∧ x2.toInt < 4000000) :
    MetFree l (⟨"com/example/tiebreaker/tiebreaker/engine/search/DecayFunction$MultiValueMode", "pick", "([D)D"⟩ : MethodName) (head1 (Jvm.Cond.code (⟨"com/example/tiebreaker/tiebreaker/engine/search/DecayFunction$MultiValueMode", "pick", "([D)D"⟩ : MethodName) prog_49_method_4_code 9 (some .double) :: ws) ({ frames := 0, cells := 0, slots := 0, locals := 0 } : Room)) (fun a U => a = #[(.ref wAVG), (.ref a2)] ∧ Z.Warmed39 U.vm ∧ U.heap = h0) (fun _ _ _ _ _ => True) (fun _ U o U' => ∃ v L, o = .returned v ∧ QV (some (.double (FP.ddiv (FP.l2d ((x0 + x1) + x2)) (FP.l2d (3 : Int32).toInt64)))) h0 n0 v U'.heap L ∧ FrameEnd U o U' L ({ frames := 0, cells := 0, slots := 0, locals := 0 } : Room).cells ({ frames := 0, cells := 0, slots := 0, locals := 0 } : Room).slots) := by
  refine MetFree.of_bodySF (plainFor_of_name pn_1) hisR ?_
  intro p e s m args below meth c s₁ Bd hml0 hP hK
  obtain ⟨rfl, hZ, hh⟩ := hP
  have hx := Bd.exec
  have hby := Bd.bytes
  have hml : c.maxLocals = 9 := hml0
  have hown : s.vm.findClass "com/example/tiebreaker/tiebreaker/engine/search/DecayFunction$MultiValueMode" = some m.cls := findClass_of_methodNamed Bd.named
  have X0 : Stand p l e ({ frames := 0, cells := 0, slots := 0, locals := 0 } : Room) s m #[(.ref wAVG), (.ref a2)] below meth c s₁ [] 0 0 := Stand.of_body Bd
  have e0 : s₁.heap = h0 := by rw [← hh, Bd.state]; rfl
  have N0 := Fr.nil n0
  have pre0 : ∀ t, Steps p.tables e below (s₁.setTop (mkF m 0 #[.val (.ref wAVG), .val (.ref a2), uu, uu, uu, uu, uu, uu, uu] [])) t → Steps p.tables e below (s₁.setTop (entryFrame m #[(.ref wAVG), (.ref a2)] 9)) t := fun t k => castTop (ef_1 m wAVG a2) k
  obtain ⟨T50, X50, e50, st50⟩ := getS2 X0 hx hZ hown (host := "") (Or.inl (hw _ (List.mem_of_getElem? (i := 11) rfl))) Via.refl e0 S_MIN (g := (mkF m 1 #[.val (.ref wAVG), .val (.ref a2), uu, uu, uu, uu, uu, uu, uu] [(.ref wAVG)])) rfl (hb hby d1_1)
  obtain ⟨T51, X51, e51, st51⟩ := getS2 X50 hx hZ hown (host := "") (Or.inl (hw _ (List.mem_of_getElem? (i := 14) rfl))) Via.refl e50 S_MAX (g := (mkF m 8 #[.val (.ref wAVG), .val (.ref a2), uu, uu, uu, uu, uu, uu, uu] [(.ref wAVG)])) rfl (hb hby d1_8)
  obtain ⟨T52, X52, e52, st52⟩ := getS2 X51 hx hZ hown (host := "") (Or.inl (hw _ (List.mem_of_getElem? (i := 16) rfl))) Via.refl e51 S_SUM (g := (mkF m 71 #[.val (.ref wAVG), .val (.ref a2), .val (.double (FP.l2d ((x0 + x1) + x2))), .second, .val (.ref a2), .val (.int (3 : Int32)), .val (.int ((((0 : Int32) + (1 : Int32)) + (1 : Int32)) + (1 : Int32))), .val (.double (FP.l2d x2)), .second] [(.ref wAVG)])) rfl (hb hby d1_71)
  obtain ⟨fs, hr, hrun, hended, hW, hsame⟩ := X52.leave (v := some (.double (FP.ddiv (FP.l2d ((x0 + x1) + x2)) (FP.l2d (3 : Int32).toInt64)))) (fun h => by rw [Bd.returns] at h; cases h)
  refine ⟨_, _, pre0 _ ?_, hrun, hended, _, _, rfl, ?_, ⟨_, rfl⟩, hW, hsame.mono (by decide) (by decide)⟩
  · show Steps p.tables e below (s₁.setTop (mkF m 0 #[.val (.ref wAVG), .val (.ref a2), uu, uu, uu, uu, uu, uu, uu] [])) _
    refine XS.aloadN X0.here hx rfl (hb hby d1_0) rfl rfl ?_
    show Steps p.tables e below (s₁.setTop (mkF m 1 #[.val (.ref wAVG), .val (.ref a2), uu, uu, uu, uu, uu, uu, uu] [(.ref wAVG)])) _
    refine st50 _ ?_
    show Steps p.tables e below (T50.setTop (mkF m 4 #[.val (.ref wAVG), .val (.ref a2), uu, uu, uu, uu, uu, uu, uu] [(.ref wMIN), (.ref wAVG)])) _
    refine Jvm.RoadKit.acmp (g := (mkF m 4 #[.val (.ref wAVG), .val (.ref a2), uu, uu, uu, uu, uu, uu, uu] [(.ref wMIN), (.ref wAVG)])) X50 hx rfl rfl rfl (pc0 := 4) (pc' := 7) (same := false) rfl (hb hby d1_4) rfl (decide_eq_false fun q => (nAI : ¬ (wAVG = wMIN)) (Value.ref.inj q)) (by decide) (by decide) ?_
    show Steps p.tables e below (T50.setTop (mkF m 7 #[.val (.ref wAVG), .val (.ref a2), uu, uu, uu, uu, uu, uu, uu] [])) _
    refine XS.aloadN X50.here hx rfl (hb hby d1_7) rfl rfl ?_
    show Steps p.tables e below (T50.setTop (mkF m 8 #[.val (.ref wAVG), .val (.ref a2), uu, uu, uu, uu, uu, uu, uu] [(.ref wAVG)])) _
    refine st51 _ ?_
    show Steps p.tables e below (T51.setTop (mkF m 11 #[.val (.ref wAVG), .val (.ref a2), uu, uu, uu, uu, uu, uu, uu] [(.ref wMAX), (.ref wAVG)])) _
    refine Jvm.RoadKit.acmp (g := (mkF m 11 #[.val (.ref wAVG), .val (.ref a2), uu, uu, uu, uu, uu, uu, uu] [(.ref wMAX), (.ref wAVG)])) X51 hx rfl rfl rfl (pc0 := 11) (pc' := 32) (same := false) rfl (hb hby d1_11) rfl (decide_eq_false fun q => (nAX : ¬ (wAVG = wMAX)) (Value.ref.inj q)) (by decide) (by decide) ?_
    show Steps p.tables e below (T51.setTop (mkF m 32 #[.val (.ref wAVG), .val (.ref a2), uu, uu, uu, uu, uu, uu, uu] [])) _
    refine XS.dconst0 X51.here hx rfl (hb hby d1_32) (v := FP.l2d 0) (by decide +kernel) ?_
    show Steps p.tables e below (T51.setTop (mkF m 33 #[.val (.ref wAVG), .val (.ref a2), uu, uu, uu, uu, uu, uu, uu] [(.double (FP.l2d 0))])) _
    refine XS.dstoreN X51.here hx rfl (hb hby d1_33) rfl (l' := #[.val (.ref wAVG), .val (.ref a2), .val (.double (FP.l2d 0)), .second, uu, uu, uu, uu, uu]) rfl ?_
    show Steps p.tables e below (T51.setTop (mkF m 34 #[.val (.ref wAVG), .val (.ref a2), .val (.double (FP.l2d 0)), .second, uu, uu, uu, uu, uu] [])) _
    refine XS.aloadN X51.here hx rfl (hb hby d1_34) rfl rfl ?_
    show Steps p.tables e below (T51.setTop (mkF m 35 #[.val (.ref wAVG), .val (.ref a2), .val (.double (FP.l2d 0)), .second, uu, uu, uu, uu, uu] [(.ref a2)])) _
    refine XS.astore X51.here hx rfl (hb hby d1_35) rfl rfl (l' := #[.val (.ref wAVG), .val (.ref a2), .val (.double (FP.l2d 0)), .second, .val (.ref a2), uu, uu, uu, uu]) rfl ?_
    show Steps p.tables e below (T51.setTop (mkF m 37 #[.val (.ref wAVG), .val (.ref a2), .val (.double (FP.l2d 0)), .second, .val (.ref a2), uu, uu, uu, uu] [])) _
    refine XS.aload X51.here hx rfl (hb hby d1_37) rfl rfl ?_
    show Steps p.tables e below (T51.setTop (mkF m 39 #[.val (.ref wAVG), .val (.ref a2), .val (.double (FP.l2d 0)), .second, .val (.ref a2), uu, uu, uu, uu] [(.ref a2)])) _
    refine X51.arraylength hx (by rw [e51]; exact Ar.1) (State.isArrayOf_alike hZ.alike Ar.2.1) (g := (mkF m 39 #[.val (.ref wAVG), .val (.ref a2), .val (.double (FP.l2d 0)), .second, .val (.ref a2), uu, uu, uu, uu] [(.ref a2)])) rfl rfl (hb hby d1_39) _ ?_
    rw [len_of Sz Nn]
    show Steps p.tables e below (T51.setTop (mkF m 40 #[.val (.ref wAVG), .val (.ref a2), .val (.double (FP.l2d 0)), .second, .val (.ref a2), uu, uu, uu, uu] [(.int (3 : Int32))])) _
    refine XS.istore X51.here hx rfl (hb hby d1_40) rfl (l' := #[.val (.ref wAVG), .val (.ref a2), .val (.double (FP.l2d 0)), .second, .val (.ref a2), .val (.int (3 : Int32)), uu, uu, uu]) rfl ?_
    show Steps p.tables e below (T51.setTop (mkF m 42 #[.val (.ref wAVG), .val (.ref a2), .val (.double (FP.l2d 0)), .second, .val (.ref a2), .val (.int (3 : Int32)), uu, uu, uu] [])) _
    refine XS.iconst X51.here hx rfl (hb hby d1_42) ?_
    show Steps p.tables e below (T51.setTop (mkF m 43 #[.val (.ref wAVG), .val (.ref a2), .val (.double (FP.l2d 0)), .second, .val (.ref a2), .val (.int (3 : Int32)), uu, uu, uu] [(.int (0 : Int32))])) _
    refine XS.istore X51.here hx rfl (hb hby d1_43) rfl (l' := #[.val (.ref wAVG), .val (.ref a2), .val (.double (FP.l2d 0)), .second, .val (.ref a2), .val (.int (3 : Int32)), .val (.int (0 : Int32)), uu, uu]) rfl ?_
    show Steps p.tables e below (T51.setTop (mkF m 45 #[.val (.ref wAVG), .val (.ref a2), .val (.double (FP.l2d 0)), .second, .val (.ref a2), .val (.int (3 : Int32)), .val (.int (0 : Int32)), uu, uu] [])) _
    refine XS.iload X51.here hx rfl (hb hby d1_45) rfl ?_
    show Steps p.tables e below (T51.setTop (mkF m 47 #[.val (.ref wAVG), .val (.ref a2), .val (.double (FP.l2d 0)), .second, .val (.ref a2), .val (.int (3 : Int32)), .val (.int (0 : Int32)), uu, uu] [(.int (0 : Int32))])) _
    refine XS.iload X51.here hx rfl (hb hby d1_47) rfl ?_
    show Steps p.tables e below (T51.setTop (mkF m 49 #[.val (.ref wAVG), .val (.ref a2), .val (.double (FP.l2d 0)), .second, .val (.ref a2), .val (.int (3 : Int32)), .val (.int (0 : Int32)), uu, uu] [(.int (3 : Int32)), (.int (0 : Int32))])) _
    refine XS.icmpNo X51.here hx rfl (hb hby d1_49) rfl (tlt (by decide : (0 : Int32) < (3 : Int32))).2.1 ?_
    show Steps p.tables e below (T51.setTop (mkF m 52 #[.val (.ref wAVG), .val (.ref a2), .val (.double (FP.l2d 0)), .second, .val (.ref a2), .val (.int (3 : Int32)), .val (.int (0 : Int32)), uu, uu] [])) _
    refine XS.aload X51.here hx rfl (hb hby d1_52) rfl rfl ?_
    show Steps p.tables e below (T51.setTop (mkF m 54 #[.val (.ref wAVG), .val (.ref a2), .val (.double (FP.l2d 0)), .second, .val (.ref a2), .val (.int (3 : Int32)), .val (.int (0 : Int32)), uu, uu] [(.ref a2)])) _
    refine XS.iload X51.here hx rfl (hb hby d1_54) rfl ?_
    show Steps p.tables e below (T51.setTop (mkF m 56 #[.val (.ref wAVG), .val (.ref a2), .val (.double (FP.l2d 0)), .second, .val (.ref a2), .val (.int (3 : Int32)), .val (.int (0 : Int32)), uu, uu] [(.int (0 : Int32)), (.ref a2)])) _
    refine X51.daload hx (j := (0 : Int32)) (v := (.double (FP.l2d x0))) (by rw [e51]; exact Ar.1) (State.isArrayOf_alike hZ.alike Ar.2.1) Ar.2.2 (inb_of Sz (by decide)) (by rw [show ((0 : Int32)).toNatClampNeg = 0 by decide]; exact hat0) (g := (mkF m 56 #[.val (.ref wAVG), .val (.ref a2), .val (.double (FP.l2d 0)), .second, .val (.ref a2), .val (.int (3 : Int32)), .val (.int (0 : Int32)), uu, uu] [(.int (0 : Int32)), (.ref a2)])) rfl rfl (hb hby d1_56) _ ?_
    show Steps p.tables e below (T51.setTop (mkF m 57 #[.val (.ref wAVG), .val (.ref a2), .val (.double (FP.l2d 0)), .second, .val (.ref a2), .val (.int (3 : Int32)), .val (.int (0 : Int32)), uu, uu] [(.double (FP.l2d x0))])) _
    refine XS.dstore X51.here hx rfl (hb hby d1_57) rfl (l' := #[.val (.ref wAVG), .val (.ref a2), .val (.double (FP.l2d 0)), .second, .val (.ref a2), .val (.int (3 : Int32)), .val (.int (0 : Int32)), .val (.double (FP.l2d x0)), .second]) rfl ?_
    show Steps p.tables e below (T51.setTop (mkF m 59 #[.val (.ref wAVG), .val (.ref a2), .val (.double (FP.l2d 0)), .second, .val (.ref a2), .val (.int (3 : Int32)), .val (.int (0 : Int32)), .val (.double (FP.l2d x0)), .second] [])) _
    refine XS.dloadN X51.here hx rfl (hb hby d1_59) rfl ?_
    show Steps p.tables e below (T51.setTop (mkF m 60 #[.val (.ref wAVG), .val (.ref a2), .val (.double (FP.l2d 0)), .second, .val (.ref a2), .val (.int (3 : Int32)), .val (.int (0 : Int32)), .val (.double (FP.l2d x0)), .second] [(.double (FP.l2d 0))])) _
    refine XS.dload X51.here hx rfl (hb hby d1_60) rfl ?_
    show Steps p.tables e below (T51.setTop (mkF m 62 #[.val (.ref wAVG), .val (.ref a2), .val (.double (FP.l2d 0)), .second, .val (.ref a2), .val (.int (3 : Int32)), .val (.int (0 : Int32)), .val (.double (FP.l2d x0)), .second] [(.double (FP.l2d x0)), (.double (FP.l2d 0))])) _
    refine XS.daddS X51.here hx rfl (hb hby d1_62) rfl (nn_w (own_s0 b0)) (v := FP.l2d x0) (own_s0 b0) ?_
    show Steps p.tables e below (T51.setTop (mkF m 63 #[.val (.ref wAVG), .val (.ref a2), .val (.double (FP.l2d 0)), .second, .val (.ref a2), .val (.int (3 : Int32)), .val (.int (0 : Int32)), .val (.double (FP.l2d x0)), .second] [(.double (FP.l2d x0))])) _
    refine XS.dstoreN X51.here hx rfl (hb hby d1_63) rfl (l' := #[.val (.ref wAVG), .val (.ref a2), .val (.double (FP.l2d x0)), .second, .val (.ref a2), .val (.int (3 : Int32)), .val (.int (0 : Int32)), .val (.double (FP.l2d x0)), .second]) rfl ?_
    show Steps p.tables e below (T51.setTop (mkF m 64 #[.val (.ref wAVG), .val (.ref a2), .val (.double (FP.l2d x0)), .second, .val (.ref a2), .val (.int (3 : Int32)), .val (.int (0 : Int32)), .val (.double (FP.l2d x0)), .second] [])) _
    refine XS.iinc X51.here hx rfl (hb hby d1_64) rfl (l' := #[.val (.ref wAVG), .val (.ref a2), .val (.double (FP.l2d x0)), .second, .val (.ref a2), .val (.int (3 : Int32)), .val (.int ((0 : Int32) + (1 : Int32))), .val (.double (FP.l2d x0)), .second]) rfl ?_
    show Steps p.tables e below (T51.setTop (mkF m 67 #[.val (.ref wAVG), .val (.ref a2), .val (.double (FP.l2d x0)), .second, .val (.ref a2), .val (.int (3 : Int32)), .val (.int ((0 : Int32) + (1 : Int32))), .val (.double (FP.l2d x0)), .second] [])) _
    refine XS.goto X51.here hx rfl (pc0 := 67) (pc' := 45) rfl (hb hby d1_67) (by decide) (by decide) ?_
    show Steps p.tables e below (T51.setTop (mkF m 45 #[.val (.ref wAVG), .val (.ref a2), .val (.double (FP.l2d x0)), .second, .val (.ref a2), .val (.int (3 : Int32)), .val (.int ((0 : Int32) + (1 : Int32))), .val (.double (FP.l2d x0)), .second] [])) _
    refine XS.iload X51.here hx rfl (hb hby d1_45) rfl ?_
    show Steps p.tables e below (T51.setTop (mkF m 47 #[.val (.ref wAVG), .val (.ref a2), .val (.double (FP.l2d x0)), .second, .val (.ref a2), .val (.int (3 : Int32)), .val (.int ((0 : Int32) + (1 : Int32))), .val (.double (FP.l2d x0)), .second] [(.int ((0 : Int32) + (1 : Int32)))])) _
    refine XS.iload X51.here hx rfl (hb hby d1_47) rfl ?_
    show Steps p.tables e below (T51.setTop (mkF m 49 #[.val (.ref wAVG), .val (.ref a2), .val (.double (FP.l2d x0)), .second, .val (.ref a2), .val (.int (3 : Int32)), .val (.int ((0 : Int32) + (1 : Int32))), .val (.double (FP.l2d x0)), .second] [(.int (3 : Int32)), (.int ((0 : Int32) + (1 : Int32)))])) _
    refine XS.icmpNo X51.here hx rfl (hb hby d1_49) rfl (tlt (by decide : ((0 : Int32) + (1 : Int32)) < (3 : Int32))).2.1 ?_
    show Steps p.tables e below (T51.setTop (mkF m 52 #[.val (.ref wAVG), .val (.ref a2), .val (.double (FP.l2d x0)), .second, .val (.ref a2), .val (.int (3 : Int32)), .val (.int ((0 : Int32) + (1 : Int32))), .val (.double (FP.l2d x0)), .second] [])) _
    refine XS.aload X51.here hx rfl (hb hby d1_52) rfl rfl ?_
    show Steps p.tables e below (T51.setTop (mkF m 54 #[.val (.ref wAVG), .val (.ref a2), .val (.double (FP.l2d x0)), .second, .val (.ref a2), .val (.int (3 : Int32)), .val (.int ((0 : Int32) + (1 : Int32))), .val (.double (FP.l2d x0)), .second] [(.ref a2)])) _
    refine XS.iload X51.here hx rfl (hb hby d1_54) rfl ?_
    show Steps p.tables e below (T51.setTop (mkF m 56 #[.val (.ref wAVG), .val (.ref a2), .val (.double (FP.l2d x0)), .second, .val (.ref a2), .val (.int (3 : Int32)), .val (.int ((0 : Int32) + (1 : Int32))), .val (.double (FP.l2d x0)), .second] [(.int ((0 : Int32) + (1 : Int32))), (.ref a2)])) _
    refine X51.daload hx (j := ((0 : Int32) + (1 : Int32))) (v := (.double (FP.l2d x1))) (by rw [e51]; exact Ar.1) (State.isArrayOf_alike hZ.alike Ar.2.1) Ar.2.2 (inb_of Sz (by decide)) (by rw [show (((0 : Int32) + (1 : Int32))).toNatClampNeg = 1 by decide]; exact hat1) (g := (mkF m 56 #[.val (.ref wAVG), .val (.ref a2), .val (.double (FP.l2d x0)), .second, .val (.ref a2), .val (.int (3 : Int32)), .val (.int ((0 : Int32) + (1 : Int32))), .val (.double (FP.l2d x0)), .second] [(.int ((0 : Int32) + (1 : Int32))), (.ref a2)])) rfl rfl (hb hby d1_56) _ ?_
    show Steps p.tables e below (T51.setTop (mkF m 57 #[.val (.ref wAVG), .val (.ref a2), .val (.double (FP.l2d x0)), .second, .val (.ref a2), .val (.int (3 : Int32)), .val (.int ((0 : Int32) + (1 : Int32))), .val (.double (FP.l2d x0)), .second] [(.double (FP.l2d x1))])) _
    refine XS.dstore X51.here hx rfl (hb hby d1_57) rfl (l' := #[.val (.ref wAVG), .val (.ref a2), .val (.double (FP.l2d x0)), .second, .val (.ref a2), .val (.int (3 : Int32)), .val (.int ((0 : Int32) + (1 : Int32))), .val (.double (FP.l2d x1)), .second]) rfl ?_
    show Steps p.tables e below (T51.setTop (mkF m 59 #[.val (.ref wAVG), .val (.ref a2), .val (.double (FP.l2d x0)), .second, .val (.ref a2), .val (.int (3 : Int32)), .val (.int ((0 : Int32) + (1 : Int32))), .val (.double (FP.l2d x1)), .second] [])) _
    refine XS.dloadN X51.here hx rfl (hb hby d1_59) rfl ?_
    show Steps p.tables e below (T51.setTop (mkF m 60 #[.val (.ref wAVG), .val (.ref a2), .val (.double (FP.l2d x0)), .second, .val (.ref a2), .val (.int (3 : Int32)), .val (.int ((0 : Int32) + (1 : Int32))), .val (.double (FP.l2d x1)), .second] [(.double (FP.l2d x0))])) _
    refine XS.dload X51.here hx rfl (hb hby d1_60) rfl ?_
    show Steps p.tables e below (T51.setTop (mkF m 62 #[.val (.ref wAVG), .val (.ref a2), .val (.double (FP.l2d x0)), .second, .val (.ref a2), .val (.int (3 : Int32)), .val (.int ((0 : Int32) + (1 : Int32))), .val (.double (FP.l2d x1)), .second] [(.double (FP.l2d x1)), (.double (FP.l2d x0))])) _
    refine XS.daddS X51.here hx rfl (hb hby d1_62) rfl (nn_w (own_s1 b0 b1)) (v := FP.l2d (x0 + x1)) (own_s1 b0 b1) ?_
    show Steps p.tables e below (T51.setTop (mkF m 63 #[.val (.ref wAVG), .val (.ref a2), .val (.double (FP.l2d x0)), .second, .val (.ref a2), .val (.int (3 : Int32)), .val (.int ((0 : Int32) + (1 : Int32))), .val (.double (FP.l2d x1)), .second] [(.double (FP.l2d (x0 + x1)))])) _
    refine XS.dstoreN X51.here hx rfl (hb hby d1_63) rfl (l' := #[.val (.ref wAVG), .val (.ref a2), .val (.double (FP.l2d (x0 + x1))), .second, .val (.ref a2), .val (.int (3 : Int32)), .val (.int ((0 : Int32) + (1 : Int32))), .val (.double (FP.l2d x1)), .second]) rfl ?_
    show Steps p.tables e below (T51.setTop (mkF m 64 #[.val (.ref wAVG), .val (.ref a2), .val (.double (FP.l2d (x0 + x1))), .second, .val (.ref a2), .val (.int (3 : Int32)), .val (.int ((0 : Int32) + (1 : Int32))), .val (.double (FP.l2d x1)), .second] [])) _
    refine XS.iinc X51.here hx rfl (hb hby d1_64) rfl (l' := #[.val (.ref wAVG), .val (.ref a2), .val (.double (FP.l2d (x0 + x1))), .second, .val (.ref a2), .val (.int (3 : Int32)), .val (.int (((0 : Int32) + (1 : Int32)) + (1 : Int32))), .val (.double (FP.l2d x1)), .second]) rfl ?_
    show Steps p.tables e below (T51.setTop (mkF m 67 #[.val (.ref wAVG), .val (.ref a2), .val (.double (FP.l2d (x0 + x1))), .second, .val (.ref a2), .val (.int (3 : Int32)), .val (.int (((0 : Int32) + (1 : Int32)) + (1 : Int32))), .val (.double (FP.l2d x1)), .second] [])) _
    refine XS.goto X51.here hx rfl (pc0 := 67) (pc' := 45) rfl (hb hby d1_67) (by decide) (by decide) ?_
    show Steps p.tables e below (T51.setTop (mkF m 45 #[.val (.ref wAVG), .val (.ref a2), .val (.double (FP.l2d (x0 + x1))), .second, .val (.ref a2), .val (.int (3 : Int32)), .val (.int (((0 : Int32) + (1 : Int32)) + (1 : Int32))), .val (.double (FP.l2d x1)), .second] [])) _
    refine XS.iload X51.here hx rfl (hb hby d1_45) rfl ?_
    show Steps p.tables e below (T51.setTop (mkF m 47 #[.val (.ref wAVG), .val (.ref a2), .val (.double (FP.l2d (x0 + x1))), .second, .val (.ref a2), .val (.int (3 : Int32)), .val (.int (((0 : Int32) + (1 : Int32)) + (1 : Int32))), .val (.double (FP.l2d x1)), .second] [(.int (((0 : Int32) + (1 : Int32)) + (1 : Int32)))])) _
    refine XS.iload X51.here hx rfl (hb hby d1_47) rfl ?_
    show Steps p.tables e below (T51.setTop (mkF m 49 #[.val (.ref wAVG), .val (.ref a2), .val (.double (FP.l2d (x0 + x1))), .second, .val (.ref a2), .val (.int (3 : Int32)), .val (.int (((0 : Int32) + (1 : Int32)) + (1 : Int32))), .val (.double (FP.l2d x1)), .second] [(.int (3 : Int32)), (.int (((0 : Int32) + (1 : Int32)) + (1 : Int32)))])) _
    refine XS.icmpNo X51.here hx rfl (hb hby d1_49) rfl (tlt (by decide : (((0 : Int32) + (1 : Int32)) + (1 : Int32)) < (3 : Int32))).2.1 ?_
    show Steps p.tables e below (T51.setTop (mkF m 52 #[.val (.ref wAVG), .val (.ref a2), .val (.double (FP.l2d (x0 + x1))), .second, .val (.ref a2), .val (.int (3 : Int32)), .val (.int (((0 : Int32) + (1 : Int32)) + (1 : Int32))), .val (.double (FP.l2d x1)), .second] [])) _
    refine XS.aload X51.here hx rfl (hb hby d1_52) rfl rfl ?_
    show Steps p.tables e below (T51.setTop (mkF m 54 #[.val (.ref wAVG), .val (.ref a2), .val (.double (FP.l2d (x0 + x1))), .second, .val (.ref a2), .val (.int (3 : Int32)), .val (.int (((0 : Int32) + (1 : Int32)) + (1 : Int32))), .val (.double (FP.l2d x1)), .second] [(.ref a2)])) _
    refine XS.iload X51.here hx rfl (hb hby d1_54) rfl ?_
    show Steps p.tables e below (T51.setTop (mkF m 56 #[.val (.ref wAVG), .val (.ref a2), .val (.double (FP.l2d (x0 + x1))), .second, .val (.ref a2), .val (.int (3 : Int32)), .val (.int (((0 : Int32) + (1 : Int32)) + (1 : Int32))), .val (.double (FP.l2d x1)), .second] [(.int (((0 : Int32) + (1 : Int32)) + (1 : Int32))), (.ref a2)])) _
    refine X51.daload hx (j := (((0 : Int32) + (1 : Int32)) + (1 : Int32))) (v := (.double (FP.l2d x2))) (by rw [e51]; exact Ar.1) (State.isArrayOf_alike hZ.alike Ar.2.1) Ar.2.2 (inb_of Sz (by decide)) (by rw [show ((((0 : Int32) + (1 : Int32)) + (1 : Int32))).toNatClampNeg = 2 by decide]; exact hat2) (g := (mkF m 56 #[.val (.ref wAVG), .val (.ref a2), .val (.double (FP.l2d (x0 + x1))), .second, .val (.ref a2), .val (.int (3 : Int32)), .val (.int (((0 : Int32) + (1 : Int32)) + (1 : Int32))), .val (.double (FP.l2d x1)), .second] [(.int (((0 : Int32) + (1 : Int32)) + (1 : Int32))), (.ref a2)])) rfl rfl (hb hby d1_56) _ ?_
    show Steps p.tables e below (T51.setTop (mkF m 57 #[.val (.ref wAVG), .val (.ref a2), .val (.double (FP.l2d (x0 + x1))), .second, .val (.ref a2), .val (.int (3 : Int32)), .val (.int (((0 : Int32) + (1 : Int32)) + (1 : Int32))), .val (.double (FP.l2d x1)), .second] [(.double (FP.l2d x2))])) _
    refine XS.dstore X51.here hx rfl (hb hby d1_57) rfl (l' := #[.val (.ref wAVG), .val (.ref a2), .val (.double (FP.l2d (x0 + x1))), .second, .val (.ref a2), .val (.int (3 : Int32)), .val (.int (((0 : Int32) + (1 : Int32)) + (1 : Int32))), .val (.double (FP.l2d x2)), .second]) rfl ?_
    show Steps p.tables e below (T51.setTop (mkF m 59 #[.val (.ref wAVG), .val (.ref a2), .val (.double (FP.l2d (x0 + x1))), .second, .val (.ref a2), .val (.int (3 : Int32)), .val (.int (((0 : Int32) + (1 : Int32)) + (1 : Int32))), .val (.double (FP.l2d x2)), .second] [])) _
    refine XS.dloadN X51.here hx rfl (hb hby d1_59) rfl ?_
    show Steps p.tables e below (T51.setTop (mkF m 60 #[.val (.ref wAVG), .val (.ref a2), .val (.double (FP.l2d (x0 + x1))), .second, .val (.ref a2), .val (.int (3 : Int32)), .val (.int (((0 : Int32) + (1 : Int32)) + (1 : Int32))), .val (.double (FP.l2d x2)), .second] [(.double (FP.l2d (x0 + x1)))])) _
    refine XS.dload X51.here hx rfl (hb hby d1_60) rfl ?_
    show Steps p.tables e below (T51.setTop (mkF m 62 #[.val (.ref wAVG), .val (.ref a2), .val (.double (FP.l2d (x0 + x1))), .second, .val (.ref a2), .val (.int (3 : Int32)), .val (.int (((0 : Int32) + (1 : Int32)) + (1 : Int32))), .val (.double (FP.l2d x2)), .second] [(.double (FP.l2d x2)), (.double (FP.l2d (x0 + x1)))])) _
    refine XS.daddS X51.here hx rfl (hb hby d1_62) rfl (nn_w (own_s2 b0 b1 b2)) (v := FP.l2d ((x0 + x1) + x2)) (own_s2 b0 b1 b2) ?_
    show Steps p.tables e below (T51.setTop (mkF m 63 #[.val (.ref wAVG), .val (.ref a2), .val (.double (FP.l2d (x0 + x1))), .second, .val (.ref a2), .val (.int (3 : Int32)), .val (.int (((0 : Int32) + (1 : Int32)) + (1 : Int32))), .val (.double (FP.l2d x2)), .second] [(.double (FP.l2d ((x0 + x1) + x2)))])) _
    refine XS.dstoreN X51.here hx rfl (hb hby d1_63) rfl (l' := #[.val (.ref wAVG), .val (.ref a2), .val (.double (FP.l2d ((x0 + x1) + x2))), .second, .val (.ref a2), .val (.int (3 : Int32)), .val (.int (((0 : Int32) + (1 : Int32)) + (1 : Int32))), .val (.double (FP.l2d x2)), .second]) rfl ?_
    show Steps p.tables e below (T51.setTop (mkF m 64 #[.val (.ref wAVG), .val (.ref a2), .val (.double (FP.l2d ((x0 + x1) + x2))), .second, .val (.ref a2), .val (.int (3 : Int32)), .val (.int (((0 : Int32) + (1 : Int32)) + (1 : Int32))), .val (.double (FP.l2d x2)), .second] [])) _
    refine XS.iinc X51.here hx rfl (hb hby d1_64) rfl (l' := #[.val (.ref wAVG), .val (.ref a2), .val (.double (FP.l2d ((x0 + x1) + x2))), .second, .val (.ref a2), .val (.int (3 : Int32)), .val (.int ((((0 : Int32) + (1 : Int32)) + (1 : Int32)) + (1 : Int32))), .val (.double (FP.l2d x2)), .second]) rfl ?_
    show Steps p.tables e below (T51.setTop (mkF m 67 #[.val (.ref wAVG), .val (.ref a2), .val (.double (FP.l2d ((x0 + x1) + x2))), .second, .val (.ref a2), .val (.int (3 : Int32)), .val (.int ((((0 : Int32) + (1 : Int32)) + (1 : Int32)) + (1 : Int32))), .val (.double (FP.l2d x2)), .second] [])) _
    refine XS.goto X51.here hx rfl (pc0 := 67) (pc' := 45) rfl (hb hby d1_67) (by decide) (by decide) ?_
    show Steps p.tables e below (T51.setTop (mkF m 45 #[.val (.ref wAVG), .val (.ref a2), .val (.double (FP.l2d ((x0 + x1) + x2))), .second, .val (.ref a2), .val (.int (3 : Int32)), .val (.int ((((0 : Int32) + (1 : Int32)) + (1 : Int32)) + (1 : Int32))), .val (.double (FP.l2d x2)), .second] [])) _
    refine XS.iload X51.here hx rfl (hb hby d1_45) rfl ?_
    show Steps p.tables e below (T51.setTop (mkF m 47 #[.val (.ref wAVG), .val (.ref a2), .val (.double (FP.l2d ((x0 + x1) + x2))), .second, .val (.ref a2), .val (.int (3 : Int32)), .val (.int ((((0 : Int32) + (1 : Int32)) + (1 : Int32)) + (1 : Int32))), .val (.double (FP.l2d x2)), .second] [(.int ((((0 : Int32) + (1 : Int32)) + (1 : Int32)) + (1 : Int32)))])) _
    refine XS.iload X51.here hx rfl (hb hby d1_47) rfl ?_
    show Steps p.tables e below (T51.setTop (mkF m 49 #[.val (.ref wAVG), .val (.ref a2), .val (.double (FP.l2d ((x0 + x1) + x2))), .second, .val (.ref a2), .val (.int (3 : Int32)), .val (.int ((((0 : Int32) + (1 : Int32)) + (1 : Int32)) + (1 : Int32))), .val (.double (FP.l2d x2)), .second] [(.int (3 : Int32)), (.int ((((0 : Int32) + (1 : Int32)) + (1 : Int32)) + (1 : Int32)))])) _
    refine XS.icmpYes X51.here hx rfl (pc0 := 49) (pc' := 70) rfl (hb hby d1_49) rfl (flt (by decide : ¬ (((((0 : Int32) + (1 : Int32)) + (1 : Int32)) + (1 : Int32)) < (3 : Int32)))).2.1 (by decide) (by decide) ?_
    show Steps p.tables e below (T51.setTop (mkF m 70 #[.val (.ref wAVG), .val (.ref a2), .val (.double (FP.l2d ((x0 + x1) + x2))), .second, .val (.ref a2), .val (.int (3 : Int32)), .val (.int ((((0 : Int32) + (1 : Int32)) + (1 : Int32)) + (1 : Int32))), .val (.double (FP.l2d x2)), .second] [])) _
    refine XS.aloadN X51.here hx rfl (hb hby d1_70) rfl rfl ?_
    show Steps p.tables e below (T51.setTop (mkF m 71 #[.val (.ref wAVG), .val (.ref a2), .val (.double (FP.l2d ((x0 + x1) + x2))), .second, .val (.ref a2), .val (.int (3 : Int32)), .val (.int ((((0 : Int32) + (1 : Int32)) + (1 : Int32)) + (1 : Int32))), .val (.double (FP.l2d x2)), .second] [(.ref wAVG)])) _
    refine st52 _ ?_
    show Steps p.tables e below (T52.setTop (mkF m 74 #[.val (.ref wAVG), .val (.ref a2), .val (.double (FP.l2d ((x0 + x1) + x2))), .second, .val (.ref a2), .val (.int (3 : Int32)), .val (.int ((((0 : Int32) + (1 : Int32)) + (1 : Int32)) + (1 : Int32))), .val (.double (FP.l2d x2)), .second] [(.ref wSUM), (.ref wAVG)])) _
    refine Jvm.RoadKit.acmp (g := (mkF m 74 #[.val (.ref wAVG), .val (.ref a2), .val (.double (FP.l2d ((x0 + x1) + x2))), .second, .val (.ref a2), .val (.int (3 : Int32)), .val (.int ((((0 : Int32) + (1 : Int32)) + (1 : Int32)) + (1 : Int32))), .val (.double (FP.l2d x2)), .second] [(.ref wSUM), (.ref wAVG)])) X52 hx rfl rfl rfl (pc0 := 74) (pc' := 81) (same := false) rfl (hb hby d1_74) rfl (decide_eq_false fun q => (nAS : ¬ (wAVG = wSUM)) (Value.ref.inj q)) (by decide) (by decide) ?_
    show Steps p.tables e below (T52.setTop (mkF m 81 #[.val (.ref wAVG), .val (.ref a2), .val (.double (FP.l2d ((x0 + x1) + x2))), .second, .val (.ref a2), .val (.int (3 : Int32)), .val (.int ((((0 : Int32) + (1 : Int32)) + (1 : Int32)) + (1 : Int32))), .val (.double (FP.l2d x2)), .second] [])) _
    refine XS.dloadN X52.here hx rfl (hb hby d1_81) rfl ?_
    show Steps p.tables e below (T52.setTop (mkF m 82 #[.val (.ref wAVG), .val (.ref a2), .val (.double (FP.l2d ((x0 + x1) + x2))), .second, .val (.ref a2), .val (.int (3 : Int32)), .val (.int ((((0 : Int32) + (1 : Int32)) + (1 : Int32)) + (1 : Int32))), .val (.double (FP.l2d x2)), .second] [(.double (FP.l2d ((x0 + x1) + x2)))])) _
    refine XS.aloadN X52.here hx rfl (hb hby d1_82) rfl rfl ?_
    show Steps p.tables e below (T52.setTop (mkF m 83 #[.val (.ref wAVG), .val (.ref a2), .val (.double (FP.l2d ((x0 + x1) + x2))), .second, .val (.ref a2), .val (.int (3 : Int32)), .val (.int ((((0 : Int32) + (1 : Int32)) + (1 : Int32)) + (1 : Int32))), .val (.double (FP.l2d x2)), .second] [(.ref a2), (.double (FP.l2d ((x0 + x1) + x2)))])) _
    refine X52.arraylength hx (by rw [e52]; exact Ar.1) (State.isArrayOf_alike hZ.alike Ar.2.1) (g := (mkF m 83 #[.val (.ref wAVG), .val (.ref a2), .val (.double (FP.l2d ((x0 + x1) + x2))), .second, .val (.ref a2), .val (.int (3 : Int32)), .val (.int ((((0 : Int32) + (1 : Int32)) + (1 : Int32)) + (1 : Int32))), .val (.double (FP.l2d x2)), .second] [(.ref a2), (.double (FP.l2d ((x0 + x1) + x2)))])) rfl rfl (hb hby d1_83) _ ?_
    rw [len_of Sz Nn]
    show Steps p.tables e below (T52.setTop (mkF m 84 #[.val (.ref wAVG), .val (.ref a2), .val (.double (FP.l2d ((x0 + x1) + x2))), .second, .val (.ref a2), .val (.int (3 : Int32)), .val (.int ((((0 : Int32) + (1 : Int32)) + (1 : Int32)) + (1 : Int32))), .val (.double (FP.l2d x2)), .second] [(.int (3 : Int32)), (.double (FP.l2d ((x0 + x1) + x2)))])) _
    refine XS.i2dS X52.here hx rfl (hb hby d1_84) rfl (v := FP.l2d (3 : Int32).toInt64) (i2d_w _) ?_
    show Steps p.tables e below (T52.setTop (mkF m 85 #[.val (.ref wAVG), .val (.ref a2), .val (.double (FP.l2d ((x0 + x1) + x2))), .second, .val (.ref a2), .val (.int (3 : Int32)), .val (.int ((((0 : Int32) + (1 : Int32)) + (1 : Int32)) + (1 : Int32))), .val (.double (FP.l2d x2)), .second] [(.double (FP.l2d (3 : Int32).toInt64)), (.double (FP.l2d ((x0 + x1) + x2)))])) _
    refine XS.ddivS X52.here hx rfl (hb hby d1_85) rfl (own_div (by decide)) rfl ?_
    show Steps p.tables e below (T52.setTop (mkF m 86 #[.val (.ref wAVG), .val (.ref a2), .val (.double (FP.l2d ((x0 + x1) + x2))), .second, .val (.ref a2), .val (.int (3 : Int32)), .val (.int ((((0 : Int32) + (1 : Int32)) + (1 : Int32)) + (1 : Int32))), .val (.double (FP.l2d x2)), .second] [(.double (FP.ddiv (FP.l2d ((x0 + x1) + x2)) (FP.l2d (3 : Int32).toInt64)))])) _
    exact retOut X52 hx (t := .double) Bd.returns rfl (Or.inr (Or.inr (Or.inl ⟨rfl, rfl, _, rfl⟩))) (hb hby d1_86) hr
  · show QV (some (.double (FP.ddiv (FP.l2d ((x0 + x1) + x2)) (FP.l2d (3 : Int32).toInt64)))) h0 n0 _ T52.heap _
    rw [e52]
    exact ⟨rfl, N0, rfl⟩
set_option maxRecDepth 65536 in
set_option maxHeartbeats 40000000 in
theorem rm1_SUM_1 (l : Launch) (Z : State) (a0 : Array Value) (hw : ∀ d ∈ tables_1, d.before a0 Z = true) (ws : List Jvm.Cond) (a2 : Addr) (wMIN wMAX wAVG wSUM : Addr) (x0 : Int64) (h0 : Heap) (n0 : Nat) (Z0 : n0 ≤ h0.size) (S_MIN : Sta Z h0 "com/example/tiebreaker/tiebreaker/engine/search/DecayFunction$MultiValueMode" "MIN" "Lcom/example/tiebreaker/tiebreaker/engine/search/DecayFunction$MultiValueMode;" (.ref wMIN)) (S_MAX : Sta Z h0 "com/example/tiebreaker/tiebreaker/engine/search/DecayFunction$MultiValueMode" "MAX" "Lcom/example/tiebreaker/tiebreaker/engine/search/DecayFunction$MultiValueMode;" (.ref wMAX)) (S_AVG : Sta Z h0 "com/example/tiebreaker/tiebreaker/engine/search/DecayFunction$MultiValueMode" "AVG" "Lcom/example/tiebreaker/tiebreaker/engine/search/DecayFunction$MultiValueMode;" (.ref wAVG)) (S_SUM : Sta Z h0 "com/example/tiebreaker/tiebreaker/engine/search/DecayFunction$MultiValueMode" "SUM" "Lcom/example/tiebreaker/tiebreaker/engine/search/DecayFunction$MultiValueMode;" (.ref wSUM)) (nXI : ¬ wMAX = wMIN) (nAI : ¬ wAVG = wMIN) (nAX : ¬ wAVG = wMAX) (nSI : ¬ wSUM = wMIN) (nSX : ¬ wSUM = wMAX) (nAS : ¬ wAVG = wSUM) (cl : Cell) (Ar : Arr Z h0 a2 cl .double) (Sz : cl.slots.size = (1 : Int32).toNatClampNeg) (Nn : ¬ (1 : Int32) < 0) (hat0 : cl.slots[0]? = some (.double (FP.l2d x0))) (b0 : 0 ≤ x0.toInt ∧ x0.toInt < 4000000) :
    MetFree l (⟨"com/example/tiebreaker/tiebreaker/engine/search/DecayFunction$MultiValueMode", "pick", "([D)D"⟩ : MethodName) (head1 (Jvm.Cond.code (⟨"com/example/tiebreaker/tiebreaker/engine/search/DecayFunction$MultiValueMode", "pick", "([D)D"⟩ : MethodName) prog_49_method_4_code 9 (some .double) :: ws) ({ frames := 0, cells := 0, slots := 0, locals := 0 } : Room)) (fun a U => a = #[(.ref wSUM), (.ref a2)] ∧ Z.Warmed39 U.vm ∧ U.heap = h0) (fun _ _ _ _ _ => True) (fun _ U o U' => ∃ v L, o = .returned v ∧ QV (some (.double (FP.l2d x0))) h0 n0 v U'.heap L ∧ FrameEnd U o U' L ({ frames := 0, cells := 0, slots := 0, locals := 0 } : Room).cells ({ frames := 0, cells := 0, slots := 0, locals := 0 } : Room).slots) := by
  refine MetFree.of_bodySF (plainFor_of_name pn_1) hisR ?_
  intro p e s m args below meth c s₁ Bd hml0 hP hK
  obtain ⟨rfl, hZ, hh⟩ := hP
  have hx := Bd.exec
  have hby := Bd.bytes
  have hml : c.maxLocals = 9 := hml0
  have hown : s.vm.findClass "com/example/tiebreaker/tiebreaker/engine/search/DecayFunction$MultiValueMode" = some m.cls := findClass_of_methodNamed Bd.named
  have X0 : Stand p l e ({ frames := 0, cells := 0, slots := 0, locals := 0 } : Room) s m #[(.ref wSUM), (.ref a2)] below meth c s₁ [] 0 0 := Stand.of_body Bd
  have e0 : s₁.heap = h0 := by rw [← hh, Bd.state]; rfl
  have N0 := Fr.nil n0
  have pre0 : ∀ t, Steps p.tables e below (s₁.setTop (mkF m 0 #[.val (.ref wSUM), .val (.ref a2), uu, uu, uu, uu, uu, uu, uu] [])) t → Steps p.tables e below (s₁.setTop (entryFrame m #[(.ref wSUM), (.ref a2)] 9)) t := fun t k => castTop (ef_1 m wSUM a2) k
  obtain ⟨T50, X50, e50, st50⟩ := getS2 X0 hx hZ hown (host := "") (Or.inl (hw _ (List.mem_of_getElem? (i := 11) rfl))) Via.refl e0 S_MIN (g := (mkF m 1 #[.val (.ref wSUM), .val (.ref a2), uu, uu, uu, uu, uu, uu, uu] [(.ref wSUM)])) rfl (hb hby d1_1)
  obtain ⟨T51, X51, e51, st51⟩ := getS2 X50 hx hZ hown (host := "") (Or.inl (hw _ (List.mem_of_getElem? (i := 14) rfl))) Via.refl e50 S_MAX (g := (mkF m 8 #[.val (.ref wSUM), .val (.ref a2), uu, uu, uu, uu, uu, uu, uu] [(.ref wSUM)])) rfl (hb hby d1_8)
  obtain ⟨T52, X52, e52, st52⟩ := getS2 X51 hx hZ hown (host := "") (Or.inl (hw _ (List.mem_of_getElem? (i := 16) rfl))) Via.refl e51 S_SUM (g := (mkF m 71 #[.val (.ref wSUM), .val (.ref a2), .val (.double (FP.l2d x0)), .second, .val (.ref a2), .val (.int (1 : Int32)), .val (.int ((0 : Int32) + (1 : Int32))), .val (.double (FP.l2d x0)), .second] [(.ref wSUM)])) rfl (hb hby d1_71)
  obtain ⟨fs, hr, hrun, hended, hW, hsame⟩ := X52.leave (v := some (.double (FP.l2d x0))) (fun h => by rw [Bd.returns] at h; cases h)
  refine ⟨_, _, pre0 _ ?_, hrun, hended, _, _, rfl, ?_, ⟨_, rfl⟩, hW, hsame.mono (by decide) (by decide)⟩
  · show Steps p.tables e below (s₁.setTop (mkF m 0 #[.val (.ref wSUM), .val (.ref a2), uu, uu, uu, uu, uu, uu, uu] [])) _
    refine XS.aloadN X0.here hx rfl (hb hby d1_0) rfl rfl ?_
    show Steps p.tables e below (s₁.setTop (mkF m 1 #[.val (.ref wSUM), .val (.ref a2), uu, uu, uu, uu, uu, uu, uu] [(.ref wSUM)])) _
    refine st50 _ ?_
    show Steps p.tables e below (T50.setTop (mkF m 4 #[.val (.ref wSUM), .val (.ref a2), uu, uu, uu, uu, uu, uu, uu] [(.ref wMIN), (.ref wSUM)])) _
    refine Jvm.RoadKit.acmp (g := (mkF m 4 #[.val (.ref wSUM), .val (.ref a2), uu, uu, uu, uu, uu, uu, uu] [(.ref wMIN), (.ref wSUM)])) X50 hx rfl rfl rfl (pc0 := 4) (pc' := 7) (same := false) rfl (hb hby d1_4) rfl (decide_eq_false fun q => (nSI : ¬ (wSUM = wMIN)) (Value.ref.inj q)) (by decide) (by decide) ?_
    show Steps p.tables e below (T50.setTop (mkF m 7 #[.val (.ref wSUM), .val (.ref a2), uu, uu, uu, uu, uu, uu, uu] [])) _
    refine XS.aloadN X50.here hx rfl (hb hby d1_7) rfl rfl ?_
    show Steps p.tables e below (T50.setTop (mkF m 8 #[.val (.ref wSUM), .val (.ref a2), uu, uu, uu, uu, uu, uu, uu] [(.ref wSUM)])) _
    refine st51 _ ?_
    show Steps p.tables e below (T51.setTop (mkF m 11 #[.val (.ref wSUM), .val (.ref a2), uu, uu, uu, uu, uu, uu, uu] [(.ref wMAX), (.ref wSUM)])) _
    refine Jvm.RoadKit.acmp (g := (mkF m 11 #[.val (.ref wSUM), .val (.ref a2), uu, uu, uu, uu, uu, uu, uu] [(.ref wMAX), (.ref wSUM)])) X51 hx rfl rfl rfl (pc0 := 11) (pc' := 32) (same := false) rfl (hb hby d1_11) rfl (decide_eq_false fun q => (nSX : ¬ (wSUM = wMAX)) (Value.ref.inj q)) (by decide) (by decide) ?_
    show Steps p.tables e below (T51.setTop (mkF m 32 #[.val (.ref wSUM), .val (.ref a2), uu, uu, uu, uu, uu, uu, uu] [])) _
    refine XS.dconst0 X51.here hx rfl (hb hby d1_32) (v := FP.l2d 0) (by decide +kernel) ?_
    show Steps p.tables e below (T51.setTop (mkF m 33 #[.val (.ref wSUM), .val (.ref a2), uu, uu, uu, uu, uu, uu, uu] [(.double (FP.l2d 0))])) _
    refine XS.dstoreN X51.here hx rfl (hb hby d1_33) rfl (l' := #[.val (.ref wSUM), .val (.ref a2), .val (.double (FP.l2d 0)), .second, uu, uu, uu, uu, uu]) rfl ?_
    show Steps p.tables e below (T51.setTop (mkF m 34 #[.val (.ref wSUM), .val (.ref a2), .val (.double (FP.l2d 0)), .second, uu, uu, uu, uu, uu] [])) _
    refine XS.aloadN X51.here hx rfl (hb hby d1_34) rfl rfl ?_
    show Steps p.tables e below (T51.setTop (mkF m 35 #[.val (.ref wSUM), .val (.ref a2), .val (.double (FP.l2d 0)), .second, uu, uu, uu, uu, uu] [(.ref a2)])) _
    refine XS.astore X51.here hx rfl (hb hby d1_35) rfl rfl (l' := #[.val (.ref wSUM), .val (.ref a2), .val (.double (FP.l2d 0)), .second, .val (.ref a2), uu, uu, uu, uu]) rfl ?_
    show Steps p.tables e below (T51.setTop (mkF m 37 #[.val (.ref wSUM), .val (.ref a2), .val (.double (FP.l2d 0)), .second, .val (.ref a2), uu, uu, uu, uu] [])) _
    refine XS.aload X51.here hx rfl (hb hby d1_37) rfl rfl ?_
    show Steps p.tables e below (T51.setTop (mkF m 39 #[.val (.ref wSUM), .val (.ref a2), .val (.double (FP.l2d 0)), .second, .val (.ref a2), uu, uu, uu, uu] [(.ref a2)])) _
    refine X51.arraylength hx (by rw [e51]; exact Ar.1) (State.isArrayOf_alike hZ.alike Ar.2.1) (g := (mkF m 39 #[.val (.ref wSUM), .val (.ref a2), .val (.double (FP.l2d 0)), .second, .val (.ref a2), uu, uu, uu, uu] [(.ref a2)])) rfl rfl (hb hby d1_39) _ ?_
    rw [len_of Sz Nn]
    show Steps p.tables e below (T51.setTop (mkF m 40 #[.val (.ref wSUM), .val (.ref a2), .val (.double (FP.l2d 0)), .second, .val (.ref a2), uu, uu, uu, uu] [(.int (1 : Int32))])) _
    refine XS.istore X51.here hx rfl (hb hby d1_40) rfl (l' := #[.val (.ref wSUM), .val (.ref a2), .val (.double (FP.l2d 0)), .second, .val (.ref a2), .val (.int (1 : Int32)), uu, uu, uu]) rfl ?_
    show Steps p.tables e below (T51.setTop (mkF m 42 #[.val (.ref wSUM), .val (.ref a2), .val (.double (FP.l2d 0)), .second, .val (.ref a2), .val (.int (1 : Int32)), uu, uu, uu] [])) _
    refine XS.iconst X51.here hx rfl (hb hby d1_42) ?_
    show Steps p.tables e below (T51.setTop (mkF m 43 #[.val (.ref wSUM), .val (.ref a2), .val (.double (FP.l2d 0)), .second, .val (.ref a2), .val (.int (1 : Int32)), uu, uu, uu] [(.int (0 : Int32))])) _
    refine XS.istore X51.here hx rfl (hb hby d1_43) rfl (l' := #[.val (.ref wSUM), .val (.ref a2), .val (.double (FP.l2d 0)), .second, .val (.ref a2), .val (.int (1 : Int32)), .val (.int (0 : Int32)), uu, uu]) rfl ?_
    show Steps p.tables e below (T51.setTop (mkF m 45 #[.val (.ref wSUM), .val (.ref a2), .val (.double (FP.l2d 0)), .second, .val (.ref a2), .val (.int (1 : Int32)), .val (.int (0 : Int32)), uu, uu] [])) _
    refine XS.iload X51.here hx rfl (hb hby d1_45) rfl ?_
    show Steps p.tables e below (T51.setTop (mkF m 47 #[.val (.ref wSUM), .val (.ref a2), .val (.double (FP.l2d 0)), .second, .val (.ref a2), .val (.int (1 : Int32)), .val (.int (0 : Int32)), uu, uu] [(.int (0 : Int32))])) _
    refine XS.iload X51.here hx rfl (hb hby d1_47) rfl ?_
    show Steps p.tables e below (T51.setTop (mkF m 49 #[.val (.ref wSUM), .val (.ref a2), .val (.double (FP.l2d 0)), .second, .val (.ref a2), .val (.int (1 : Int32)), .val (.int (0 : Int32)), uu, uu] [(.int (1 : Int32)), (.int (0 : Int32))])) _
    refine XS.icmpNo X51.here hx rfl (hb hby d1_49) rfl (tlt (by decide : (0 : Int32) < (1 : Int32))).2.1 ?_
    show Steps p.tables e below (T51.setTop (mkF m 52 #[.val (.ref wSUM), .val (.ref a2), .val (.double (FP.l2d 0)), .second, .val (.ref a2), .val (.int (1 : Int32)), .val (.int (0 : Int32)), uu, uu] [])) _
    refine XS.aload X51.here hx rfl (hb hby d1_52) rfl rfl ?_
    show Steps p.tables e below (T51.setTop (mkF m 54 #[.val (.ref wSUM), .val (.ref a2), .val (.double (FP.l2d 0)), .second, .val (.ref a2), .val (.int (1 : Int32)), .val (.int (0 : Int32)), uu, uu] [(.ref a2)])) _
    refine XS.iload X51.here hx rfl (hb hby d1_54) rfl ?_
    show Steps p.tables e below (T51.setTop (mkF m 56 #[.val (.ref wSUM), .val (.ref a2), .val (.double (FP.l2d 0)), .second, .val (.ref a2), .val (.int (1 : Int32)), .val (.int (0 : Int32)), uu, uu] [(.int (0 : Int32)), (.ref a2)])) _
    refine X51.daload hx (j := (0 : Int32)) (v := (.double (FP.l2d x0))) (by rw [e51]; exact Ar.1) (State.isArrayOf_alike hZ.alike Ar.2.1) Ar.2.2 (inb_of Sz (by decide)) (by rw [show ((0 : Int32)).toNatClampNeg = 0 by decide]; exact hat0) (g := (mkF m 56 #[.val (.ref wSUM), .val (.ref a2), .val (.double (FP.l2d 0)), .second, .val (.ref a2), .val (.int (1 : Int32)), .val (.int (0 : Int32)), uu, uu] [(.int (0 : Int32)), (.ref a2)])) rfl rfl (hb hby d1_56) _ ?_
    show Steps p.tables e below (T51.setTop (mkF m 57 #[.val (.ref wSUM), .val (.ref a2), .val (.double (FP.l2d 0)), .second, .val (.ref a2), .val (.int (1 : Int32)), .val (.int (0 : Int32)), uu, uu] [(.double (FP.l2d x0))])) _
    refine XS.dstore X51.here hx rfl (hb hby d1_57) rfl (l' := #[.val (.ref wSUM), .val (.ref a2), .val (.double (FP.l2d 0)), .second, .val (.ref a2), .val (.int (1 : Int32)), .val (.int (0 : Int32)), .val (.double (FP.l2d x0)), .second]) rfl ?_
    show Steps p.tables e below (T51.setTop (mkF m 59 #[.val (.ref wSUM), .val (.ref a2), .val (.double (FP.l2d 0)), .second, .val (.ref a2), .val (.int (1 : Int32)), .val (.int (0 : Int32)), .val (.double (FP.l2d x0)), .second] [])) _
    refine XS.dloadN X51.here hx rfl (hb hby d1_59) rfl ?_
    show Steps p.tables e below (T51.setTop (mkF m 60 #[.val (.ref wSUM), .val (.ref a2), .val (.double (FP.l2d 0)), .second, .val (.ref a2), .val (.int (1 : Int32)), .val (.int (0 : Int32)), .val (.double (FP.l2d x0)), .second] [(.double (FP.l2d 0))])) _
    refine XS.dload X51.here hx rfl (hb hby d1_60) rfl ?_
    show Steps p.tables e below (T51.setTop (mkF m 62 #[.val (.ref wSUM), .val (.ref a2), .val (.double (FP.l2d 0)), .second, .val (.ref a2), .val (.int (1 : Int32)), .val (.int (0 : Int32)), .val (.double (FP.l2d x0)), .second] [(.double (FP.l2d x0)), (.double (FP.l2d 0))])) _
    refine XS.daddS X51.here hx rfl (hb hby d1_62) rfl (nn_w (own_s0 b0)) (v := FP.l2d x0) (own_s0 b0) ?_
    show Steps p.tables e below (T51.setTop (mkF m 63 #[.val (.ref wSUM), .val (.ref a2), .val (.double (FP.l2d 0)), .second, .val (.ref a2), .val (.int (1 : Int32)), .val (.int (0 : Int32)), .val (.double (FP.l2d x0)), .second] [(.double (FP.l2d x0))])) _
    refine XS.dstoreN X51.here hx rfl (hb hby d1_63) rfl (l' := #[.val (.ref wSUM), .val (.ref a2), .val (.double (FP.l2d x0)), .second, .val (.ref a2), .val (.int (1 : Int32)), .val (.int (0 : Int32)), .val (.double (FP.l2d x0)), .second]) rfl ?_
    show Steps p.tables e below (T51.setTop (mkF m 64 #[.val (.ref wSUM), .val (.ref a2), .val (.double (FP.l2d x0)), .second, .val (.ref a2), .val (.int (1 : Int32)), .val (.int (0 : Int32)), .val (.double (FP.l2d x0)), .second] [])) _
    refine XS.iinc X51.here hx rfl (hb hby d1_64) rfl (l' := #[.val (.ref wSUM), .val (.ref a2), .val (.double (FP.l2d x0)), .second, .val (.ref a2), .val (.int (1 : Int32)), .val (.int ((0 : Int32) + (1 : Int32))), .val (.double (FP.l2d x0)), .second]) rfl ?_
    show Steps p.tables e below (T51.setTop (mkF m 67 #[.val (.ref wSUM), .val (.ref a2), .val (.double (FP.l2d x0)), .second, .val (.ref a2), .val (.int (1 : Int32)), .val (.int ((0 : Int32) + (1 : Int32))), .val (.double (FP.l2d x0)), .second] [])) _
    refine XS.goto X51.here hx rfl (pc0 := 67) (pc' := 45) rfl (hb hby d1_67) (by decide) (by decide) ?_
    show Steps p.tables e below (T51.setTop (mkF m 45 #[.val (.ref wSUM), .val (.ref a2), .val (.double (FP.l2d x0)), .second, .val (.ref a2), .val (.int (1 : Int32)), .val (.int ((0 : Int32) + (1 : Int32))), .val (.double (FP.l2d x0)), .second] [])) _
    refine XS.iload X51.here hx rfl (hb hby d1_45) rfl ?_
    show Steps p.tables e below (T51.setTop (mkF m 47 #[.val (.ref wSUM), .val (.ref a2), .val (.double (FP.l2d x0)), .second, .val (.ref a2), .val (.int (1 : Int32)), .val (.int ((0 : Int32) + (1 : Int32))), .val (.double (FP.l2d x0)), .second] [(.int ((0 : Int32) + (1 : Int32)))])) _
    refine XS.iload X51.here hx rfl (hb hby d1_47) rfl ?_
    show Steps p.tables e below (T51.setTop (mkF m 49 #[.val (.ref wSUM), .val (.ref a2), .val (.double (FP.l2d x0)), .second, .val (.ref a2), .val (.int (1 : Int32)), .val (.int ((0 : Int32) + (1 : Int32))), .val (.double (FP.l2d x0)), .second] [(.int (1 : Int32)), (.int ((0 : Int32) + (1 : Int32)))])) _
    refine XS.icmpYes X51.here hx rfl (pc0 := 49) (pc' := 70) rfl (hb hby d1_49) rfl (flt (by decide : ¬ (((0 : Int32) + (1 : Int32)) < (1 : Int32)))).2.1 (by decide) (by decide) ?_
    show Steps p.tables e below (T51.setTop (mkF m 70 #[.val (.ref wSUM), .val (.ref a2), .val (.double (FP.l2d x0)), .second, .val (.ref a2), .val (.int (1 : Int32)), .val (.int ((0 : Int32) + (1 : Int32))), .val (.double (FP.l2d x0)), .second] [])) _
    refine XS.aloadN X51.here hx rfl (hb hby d1_70) rfl rfl ?_
    show Steps p.tables e below (T51.setTop (mkF m 71 #[.val (.ref wSUM), .val (.ref a2), .val (.double (FP.l2d x0)), .second, .val (.ref a2), .val (.int (1 : Int32)), .val (.int ((0 : Int32) + (1 : Int32))), .val (.double (FP.l2d x0)), .second] [(.ref wSUM)])) _
    refine st52 _ ?_
    show Steps p.tables e below (T52.setTop (mkF m 74 #[.val (.ref wSUM), .val (.ref a2), .val (.double (FP.l2d x0)), .second, .val (.ref a2), .val (.int (1 : Int32)), .val (.int ((0 : Int32) + (1 : Int32))), .val (.double (FP.l2d x0)), .second] [(.ref wSUM), (.ref wSUM)])) _
    refine Jvm.RoadKit.acmp (g := (mkF m 74 #[.val (.ref wSUM), .val (.ref a2), .val (.double (FP.l2d x0)), .second, .val (.ref a2), .val (.int (1 : Int32)), .val (.int ((0 : Int32) + (1 : Int32))), .val (.double (FP.l2d x0)), .second] [(.ref wSUM), (.ref wSUM)])) X52 hx rfl rfl rfl (pc0 := 74) (pc' := 77) (same := true) rfl (hb hby d1_74) rfl (decide_eq_true rfl) (by decide) (by decide) ?_
    show Steps p.tables e below (T52.setTop (mkF m 77 #[.val (.ref wSUM), .val (.ref a2), .val (.double (FP.l2d x0)), .second, .val (.ref a2), .val (.int (1 : Int32)), .val (.int ((0 : Int32) + (1 : Int32))), .val (.double (FP.l2d x0)), .second] [])) _
    refine XS.dloadN X52.here hx rfl (hb hby d1_77) rfl ?_
    show Steps p.tables e below (T52.setTop (mkF m 78 #[.val (.ref wSUM), .val (.ref a2), .val (.double (FP.l2d x0)), .second, .val (.ref a2), .val (.int (1 : Int32)), .val (.int ((0 : Int32) + (1 : Int32))), .val (.double (FP.l2d x0)), .second] [(.double (FP.l2d x0))])) _
    refine XS.goto X52.here hx rfl (pc0 := 78) (pc' := 86) rfl (hb hby d1_78) (by decide) (by decide) ?_
    show Steps p.tables e below (T52.setTop (mkF m 86 #[.val (.ref wSUM), .val (.ref a2), .val (.double (FP.l2d x0)), .second, .val (.ref a2), .val (.int (1 : Int32)), .val (.int ((0 : Int32) + (1 : Int32))), .val (.double (FP.l2d x0)), .second] [(.double (FP.l2d x0))])) _
    exact retOut X52 hx (t := .double) Bd.returns rfl (Or.inr (Or.inr (Or.inl ⟨rfl, rfl, _, rfl⟩))) (hb hby d1_86) hr
  · show QV (some (.double (FP.l2d x0))) h0 n0 _ T52.heap _
    rw [e52]
    exact ⟨rfl, N0, rfl⟩
set_option maxRecDepth 65536 in
set_option maxHeartbeats 40000000 in
theorem rm1_SUM_2 (l : Launch) (Z : State) (a0 : Array Value) (hw : ∀ d ∈ tables_1, d.before a0 Z = true) (ws : List Jvm.Cond) (a2 : Addr) (wMIN wMAX wAVG wSUM : Addr) (x0 x1 : Int64) (h0 : Heap) (n0 : Nat) (Z0 : n0 ≤ h0.size) (S_MIN : Sta Z h0 "com/example/tiebreaker/tiebreaker/engine/search/DecayFunction$MultiValueMode" "MIN" "Lcom/example/tiebreaker/tiebreaker/engine/search/DecayFunction$MultiValueMode;" (.ref wMIN)) (S_MAX : Sta Z h0 "com/example/tiebreaker/tiebreaker/engine/search/DecayFunction$MultiValueMode" "MAX" "Lcom/example/tiebreaker/tiebreaker/engine/search/DecayFunction$MultiValueMode;" (.ref wMAX)) (S_AVG : Sta Z h0 "com/example/tiebreaker/tiebreaker/engine/search/DecayFunction$MultiValueMode" "AVG" "Lcom/example/tiebreaker/tiebreaker/engine/search/DecayFunction$MultiValueMode;" (.ref wAVG)) (S_SUM : Sta Z h0 "com/example/tiebreaker/tiebreaker/engine/search/DecayFunction$MultiValueMode" "SUM" "Lcom/example/tiebreaker/tiebreaker/engine/search/DecayFunction$MultiValueMode;" (.ref wSUM)) (nXI : ¬ wMAX = wMIN) (nAI : ¬ wAVG = wMIN) (nAX : ¬ wAVG = wMAX) (nSI : ¬ wSUM = wMIN) (nSX : ¬ wSUM = wMAX) (nAS : ¬ wAVG = wSUM) (cl : Cell) (Ar : Arr Z h0 a2 cl .double) (Sz : cl.slots.size = (2 : Int32).toNatClampNeg) (Nn : ¬ (2 : Int32) < 0) (hat0 : cl.slots[0]? = some (.double (FP.l2d x0))) (hat1 : cl.slots[1]? = some (.double (FP.l2d x1))) (b0 : 0 ≤ x0.toInt ∧ x0.toInt < 4000000) (b1 : 0 ≤ x1.toInt ∧ x1.toInt < 4000000) :
    MetFree l (⟨"com/example/tiebreaker/tiebreaker/engine/search/DecayFunction$MultiValueMode", "pick", "([D)D"⟩ : MethodName) (head1 (Jvm.Cond.code (⟨"com/example/tiebreaker/tiebreaker/engine/search/DecayFunction$MultiValueMode", "pick", "([D)D"⟩ : MethodName) prog_49_method_4_code 9 (some .double) :: ws) ({ frames := 0, cells := 0, slots := 0, locals := 0 } : Room)) (fun a U => a = #[(.ref wSUM), (.ref a2)] ∧ Z.Warmed39 U.vm ∧ U.heap = h0) (fun _ _ _ _ _ => True) (fun _ U o U' => ∃ v L, o = .returned v ∧ QV (some (.double (FP.l2d (x0 + x1)))) h0 n0 v U'.heap L ∧ FrameEnd U o U' L ({ frames := 0, cells := 0, slots := 0, locals := 0 } : Room).cells ({ frames := 0, cells := 0, slots := 0, locals := 0 } : Room).slots) := by
  refine MetFree.of_bodySF (plainFor_of_name pn_1) hisR ?_
  intro p e s m args below meth c s₁ Bd hml0 hP hK
  obtain ⟨rfl, hZ, hh⟩ := hP
  have hx := Bd.exec
  have hby := Bd.bytes
  have hml : c.maxLocals = 9 := hml0
  have hown : s.vm.findClass "com/example/tiebreaker/tiebreaker/engine/search/DecayFunction$MultiValueMode" = some m.cls := findClass_of_methodNamed Bd.named
  have X0 : Stand p l e ({ frames := 0, cells := 0, slots := 0, locals := 0 } : Room) s m #[(.ref wSUM), (.ref a2)] below meth c s₁ [] 0 0 := Stand.of_body Bd
  have e0 : s₁.heap = h0 := by rw [← hh, Bd.state]; rfl
  have N0 := Fr.nil n0
  have pre0 : ∀ t, Steps p.tables e below (s₁.setTop (mkF m 0 #[.val (.ref wSUM), .val (.ref a2), uu, uu, uu, uu, uu, uu, uu] [])) t → Steps p.tables e below (s₁.setTop (entryFrame m #[(.ref wSUM), (.ref a2)] 9)) t := fun t k => castTop (ef_1 m wSUM a2) k
  obtain ⟨T50, X50, e50, st50⟩ := getS2 X0 hx hZ hown (host := "") (Or.inl (hw _ (List.mem_of_getElem? (i := 11) rfl))) Via.refl e0 S_MIN (g := (mkF m 1 #[.val (.ref wSUM), .val (.ref a2), uu, uu, uu, uu, uu, uu, uu] [(.ref wSUM)])) rfl (hb hby d1_1)
  obtain ⟨T51, X51, e51, st51⟩ := getS2 X50 hx hZ hown (host := "") (Or.inl (hw _ (List.mem_of_getElem? (i := 14) rfl))) Via.refl e50 S_MAX (g := (mkF m 8 #[.val (.ref wSUM), .val (.ref a2), uu, uu, uu, uu, uu, uu, uu] [(.ref wSUM)])) rfl (hb hby d1_8)
  obtain ⟨T52, X52, e52, st52⟩ := getS2 X51 hx hZ hown (host := "") (Or.inl (hw _ (List.mem_of_getElem? (i := 16) rfl))) Via.refl e51 S_SUM (g := (mkF m 71 #[.val (.ref wSUM), .val (.ref a2), .val (.double (FP.l2d (x0 + x1))), .second, .val (.ref a2), .val (.int (2 : Int32)), .val (.int (((0 : Int32) + (1 : Int32)) + (1 : Int32))), .val (.double (FP.l2d x1)), .second] [(.ref wSUM)])) rfl (hb hby d1_71)
  obtain ⟨fs, hr, hrun, hended, hW, hsame⟩ := X52.leave (v := some (.double (FP.l2d (x0 + x1)))) (fun h => by rw [Bd.returns] at h; cases h)
  refine ⟨_, _, pre0 _ ?_, hrun, hended, _, _, rfl, ?_, ⟨_, rfl⟩, hW, hsame.mono (by decide) (by decide)⟩
  · show Steps p.tables e below (s₁.setTop (mkF m 0 #[.val (.ref wSUM), .val (.ref a2), uu, uu, uu, uu, uu, uu, uu] [])) _
    refine XS.aloadN X0.here hx rfl (hb hby d1_0) rfl rfl ?_
    show Steps p.tables e below (s₁.setTop (mkF m 1 #[.val (.ref wSUM), .val (.ref a2), uu, uu, uu, uu, uu, uu, uu] [(.ref wSUM)])) _
    refine st50 _ ?_
    show Steps p.tables e below (T50.setTop (mkF m 4 #[.val (.ref wSUM), .val (.ref a2), uu, uu, uu, uu, uu, uu, uu] [(.ref wMIN), (.ref wSUM)])) _
    refine Jvm.RoadKit.acmp (g := (mkF m 4 #[.val (.ref wSUM), .val (.ref a2), uu, uu, uu, uu, uu, uu, uu] [(.ref wMIN), (.ref wSUM)])) X50 hx rfl rfl rfl (pc0 := 4) (pc' := 7) (same := false) rfl (hb hby d1_4) rfl (decide_eq_false fun q => (nSI : ¬ (wSUM = wMIN)) (Value.ref.inj q)) (by decide) (by decide) ?_
    show Steps p.tables e below (T50.setTop (mkF m 7 #[.val (.ref wSUM), .val (.ref a2), uu, uu, uu, uu, uu, uu, uu] [])) _
    refine XS.aloadN X50.here hx rfl (hb hby d1_7) rfl rfl ?_
    show Steps p.tables e below (T50.setTop (mkF m 8 #[.val (.ref wSUM), .val (.ref a2), uu, uu, uu, uu, uu, uu, uu] [(.ref wSUM)])) _
    refine st51 _ ?_
    show Steps p.tables e below (T51.setTop (mkF m 11 #[.val (.ref wSUM), .val (.ref a2), uu, uu, uu, uu, uu, uu, uu] [(.ref wMAX), (.ref wSUM)])) _
    refine Jvm.RoadKit.acmp (g := (mkF m 11 #[.val (.ref wSUM), .val (.ref a2), uu, uu, uu, uu, uu, uu, uu] [(.ref wMAX), (.ref wSUM)])) X51 hx rfl rfl rfl (pc0 := 11) (pc' := 32) (same := false) rfl (hb hby d1_11) rfl (decide_eq_false fun q => (nSX : ¬ (wSUM = wMAX)) (Value.ref.inj q)) (by decide) (by decide) ?_
    show Steps p.tables e below (T51.setTop (mkF m 32 #[.val (.ref wSUM), .val (.ref a2), uu, uu, uu, uu, uu, uu, uu] [])) _
    refine XS.dconst0 X51.here hx rfl (hb hby d1_32) (v := FP.l2d 0) (by decide +kernel) ?_
    show Steps p.tables e below (T51.setTop (mkF m 33 #[.val (.ref wSUM), .val (.ref a2), uu, uu, uu, uu, uu, uu, uu] [(.double (FP.l2d 0))])) _
    refine XS.dstoreN X51.here hx rfl (hb hby d1_33) rfl (l' := #[.val (.ref wSUM), .val (.ref a2), .val (.double (FP.l2d 0)), .second, uu, uu, uu, uu, uu]) rfl ?_
    show Steps p.tables e below (T51.setTop (mkF m 34 #[.val (.ref wSUM), .val (.ref a2), .val (.double (FP.l2d 0)), .second, uu, uu, uu, uu, uu] [])) _
    refine XS.aloadN X51.here hx rfl (hb hby d1_34) rfl rfl ?_
    show Steps p.tables e below (T51.setTop (mkF m 35 #[.val (.ref wSUM), .val (.ref a2), .val (.double (FP.l2d 0)), .second, uu, uu, uu, uu, uu] [(.ref a2)])) _
    refine XS.astore X51.here hx rfl (hb hby d1_35) rfl rfl (l' := #[.val (.ref wSUM), .val (.ref a2), .val (.double (FP.l2d 0)), .second, .val (.ref a2), uu, uu, uu, uu]) rfl ?_
    show Steps p.tables e below (T51.setTop (mkF m 37 #[.val (.ref wSUM), .val (.ref a2), .val (.double (FP.l2d 0)), .second, .val (.ref a2), uu, uu, uu, uu] [])) _
    refine XS.aload X51.here hx rfl (hb hby d1_37) rfl rfl ?_
    show Steps p.tables e below (T51.setTop (mkF m 39 #[.val (.ref wSUM), .val (.ref a2), .val (.double (FP.l2d 0)), .second, .val (.ref a2), uu, uu, uu, uu] [(.ref a2)])) _
    refine X51.arraylength hx (by rw [e51]; exact Ar.1) (State.isArrayOf_alike hZ.alike Ar.2.1) (g := (mkF m 39 #[.val (.ref wSUM), .val (.ref a2), .val (.double (FP.l2d 0)), .second, .val (.ref a2), uu, uu, uu, uu] [(.ref a2)])) rfl rfl (hb hby d1_39) _ ?_
    rw [len_of Sz Nn]
    show Steps p.tables e below (T51.setTop (mkF m 40 #[.val (.ref wSUM), .val (.ref a2), .val (.double (FP.l2d 0)), .second, .val (.ref a2), uu, uu, uu, uu] [(.int (2 : Int32))])) _
    refine XS.istore X51.here hx rfl (hb hby d1_40) rfl (l' := #[.val (.ref wSUM), .val (.ref a2), .val (.double (FP.l2d 0)), .second, .val (.ref a2), .val (.int (2 : Int32)), uu, uu, uu]) rfl ?_
    show Steps p.tables e below (T51.setTop (mkF m 42 #[.val (.ref wSUM), .val (.ref a2), .val (.double (FP.l2d 0)), .second, .val (.ref a2), .val (.int (2 : Int32)), uu, uu, uu] [])) _
    refine XS.iconst X51.here hx rfl (hb hby d1_42) ?_
    show Steps p.tables e below (T51.setTop (mkF m 43 #[.val (.ref wSUM), .val (.ref a2), .val (.double (FP.l2d 0)), .second, .val (.ref a2), .val (.int (2 : Int32)), uu, uu, uu] [(.int (0 : Int32))])) _
    refine XS.istore X51.here hx rfl (hb hby d1_43) rfl (l' := #[.val (.ref wSUM), .val (.ref a2), .val (.double (FP.l2d 0)), .second, .val (.ref a2), .val (.int (2 : Int32)), .val (.int (0 : Int32)), uu, uu]) rfl ?_
    show Steps p.tables e below (T51.setTop (mkF m 45 #[.val (.ref wSUM), .val (.ref a2), .val (.double (FP.l2d 0)), .second, .val (.ref a2), .val (.int (2 : Int32)), .val (.int (0 : Int32)), uu, uu] [])) _
    refine XS.iload X51.here hx rfl (hb hby d1_45) rfl ?_
    show Steps p.tables e below (T51.setTop (mkF m 47 #[.val (.ref wSUM), .val (.ref a2), .val (.double (FP.l2d 0)), .second, .val (.ref a2), .val (.int (2 : Int32)), .val (.int (0 : Int32)), uu, uu] [(.int (0 : Int32))])) _
    refine XS.iload X51.here hx rfl (hb hby d1_47) rfl ?_
    show Steps p.tables e below (T51.setTop (mkF m 49 #[.val (.ref wSUM), .val (.ref a2), .val (.double (FP.l2d 0)), .second, .val (.ref a2), .val (.int (2 : Int32)), .val (.int (0 : Int32)), uu, uu] [(.int (2 : Int32)), (.int (0 : Int32))])) _
    refine XS.icmpNo X51.here hx rfl (hb hby d1_49) rfl (tlt (by decide : (0 : Int32) < (2 : Int32))).2.1 ?_
    show Steps p.tables e below (T51.setTop (mkF m 52 #[.val (.ref wSUM), .val (.ref a2), .val (.double (FP.l2d 0)), .second, .val (.ref a2), .val (.int (2 : Int32)), .val (.int (0 : Int32)), uu, uu] [])) _
    refine XS.aload X51.here hx rfl (hb hby d1_52) rfl rfl ?_
    show Steps p.tables e below (T51.setTop (mkF m 54 #[.val (.ref wSUM), .val (.ref a2), .val (.double (FP.l2d 0)), .second, .val (.ref a2), .val (.int (2 : Int32)), .val (.int (0 : Int32)), uu, uu] [(.ref a2)])) _
    refine XS.iload X51.here hx rfl (hb hby d1_54) rfl ?_
    show Steps p.tables e below (T51.setTop (mkF m 56 #[.val (.ref wSUM), .val (.ref a2), .val (.double (FP.l2d 0)), .second, .val (.ref a2), .val (.int (2 : Int32)), .val (.int (0 : Int32)), uu, uu] [(.int (0 : Int32)), (.ref a2)])) _
    refine X51.daload hx (j := (0 : Int32)) (v := (.double (FP.l2d x0))) (by rw [e51]; exact Ar.1) (State.isArrayOf_alike hZ.alike Ar.2.1) Ar.2.2 (inb_of Sz (by decide)) (by rw [show ((0 : Int32)).toNatClampNeg = 0 by decide]; exact hat0) (g := (mkF m 56 #[.val (.ref wSUM), .val (.ref a2), .val (.double (FP.l2d 0)), .second, .val (.ref a2), .val (.int (2 : Int32)), .val (.int (0 : Int32)), uu, uu] [(.int (0 : Int32)), (.ref a2)])) rfl rfl (hb hby d1_56) _ ?_
    show Steps p.tables e below (T51.setTop (mkF m 57 #[.val (.ref wSUM), .val (.ref a2), .val (.double (FP.l2d 0)), .second, .val (.ref a2), .val (.int (2 : Int32)), .val (.int (0 : Int32)), uu, uu] [(.double (FP.l2d x0))])) _
    refine XS.dstore X51.here hx rfl (hb hby d1_57) rfl (l' := #[.val (.ref wSUM), .val (.ref a2), .val (.double (FP.l2d 0)), .second, .val (.ref a2), .val (.int (2 : Int32)), .val (.int (0 : Int32)), .val (.double (FP.l2d x0)), .second]) rfl ?_
    show Steps p.tables e below (T51.setTop (mkF m 59 #[.val (.ref wSUM), .val (.ref a2), .val (.double (FP.l2d 0)), .second, .val (.ref a2), .val (.int (2 : Int32)), .val (.int (0 : Int32)), .val (.double (FP.l2d x0)), .second] [])) _
    refine XS.dloadN X51.here hx rfl (hb hby d1_59) rfl ?_
    show Steps p.tables e below (T51.setTop (mkF m 60 #[.val (.ref wSUM), .val (.ref a2), .val (.double (FP.l2d 0)), .second, .val (.ref a2), .val (.int (2 : Int32)), .val (.int (0 : Int32)), .val (.double (FP.l2d x0)), .second] [(.double (FP.l2d 0))])) _
    refine XS.dload X51.here hx rfl (hb hby d1_60) rfl ?_
    show Steps p.tables e below (T51.setTop (mkF m 62 #[.val (.ref wSUM), .val (.ref a2), .val (.double (FP.l2d 0)), .second, .val (.ref a2), .val (.int (2 : Int32)), .val (.int (0 : Int32)), .val (.double (FP.l2d x0)), .second] [(.double (FP.l2d x0)), (.double (FP.l2d 0))])) _
    refine XS.daddS X51.here hx rfl (hb hby d1_62) rfl (nn_w (own_s0 b0)) (v := FP.l2d x0) (own_s0 b0) ?_
    show Steps p.tables e below (T51.setTop (mkF m 63 #[.val (.ref wSUM), .val (.ref a2), .val (.double (FP.l2d 0)), .second, .val (.ref a2), .val (.int (2 : Int32)), .val (.int (0 : Int32)), .val (.double (FP.l2d x0)), .second] [(.double (FP.l2d x0))])) _
    refine XS.dstoreN X51.here hx rfl (hb hby d1_63) rfl (l' := #[.val (.ref wSUM), .val (.ref a2), .val (.double (FP.l2d x0)), .second, .val (.ref a2), .val (.int (2 : Int32)), .val (.int (0 : Int32)), .val (.double (FP.l2d x0)), .second]) rfl ?_
    show Steps p.tables e below (T51.setTop (mkF m 64 #[.val (.ref wSUM), .val (.ref a2), .val (.double (FP.l2d x0)), .second, .val (.ref a2), .val (.int (2 : Int32)), .val (.int (0 : Int32)), .val (.double (FP.l2d x0)), .second] [])) _
    refine XS.iinc X51.here hx rfl (hb hby d1_64) rfl (l' := #[.val (.ref wSUM), .val (.ref a2), .val (.double (FP.l2d x0)), .second, .val (.ref a2), .val (.int (2 : Int32)), .val (.int ((0 : Int32) + (1 : Int32))), .val (.double (FP.l2d x0)), .second]) rfl ?_
    show Steps p.tables e below (T51.setTop (mkF m 67 #[.val (.ref wSUM), .val (.ref a2), .val (.double (FP.l2d x0)), .second, .val (.ref a2), .val (.int (2 : Int32)), .val (.int ((0 : Int32) + (1 : Int32))), .val (.double (FP.l2d x0)), .second] [])) _
    refine XS.goto X51.here hx rfl (pc0 := 67) (pc' := 45) rfl (hb hby d1_67) (by decide) (by decide) ?_
    show Steps p.tables e below (T51.setTop (mkF m 45 #[.val (.ref wSUM), .val (.ref a2), .val (.double (FP.l2d x0)), .second, .val (.ref a2), .val (.int (2 : Int32)), .val (.int ((0 : Int32) + (1 : Int32))), .val (.double (FP.l2d x0)), .second] [])) _
    refine XS.iload X51.here hx rfl (hb hby d1_45) rfl ?_
    show Steps p.tables e below (T51.setTop (mkF m 47 #[.val (.ref wSUM), .val (.ref a2), .val (.double (FP.l2d x0)), .second, .val (.ref a2), .val (.int (2 : Int32)), .val (.int ((0 : Int32) + (1 : Int32))), .val (.double (FP.l2d x0)), .second] [(.int ((0 : Int32) + (1 : Int32)))])) _
    refine XS.iload X51.here hx rfl (hb hby d1_47) rfl ?_
    show Steps p.tables e below (T51.setTop (mkF m 49 #[.val (.ref wSUM), .val (.ref a2), .val (.double (FP.l2d x0)), .second, .val (.ref a2), .val (.int (2 : Int32)), .val (.int ((0 : Int32) + (1 : Int32))), .val (.double (FP.l2d x0)), .second] [(.int (2 : Int32)), (.int ((0 : Int32) + (1 : Int32)))])) _
    refine XS.icmpNo X51.here hx rfl (hb hby d1_49) rfl (tlt (by decide : ((0 : Int32) + (1 : Int32)) < (2 : Int32))).2.1 ?_
    show Steps p.tables e below (T51.setTop (mkF m 52 #[.val (.ref wSUM), .val (.ref a2), .val (.double (FP.l2d x0)), .second, .val (.ref a2), .val (.int (2 : Int32)), .val (.int ((0 : Int32) + (1 : Int32))), .val (.double (FP.l2d x0)), .second] [])) _
    refine XS.aload X51.here hx rfl (hb hby d1_52) rfl rfl ?_
    show Steps p.tables e below (T51.setTop (mkF m 54 #[.val (.ref wSUM), .val (.ref a2), .val (.double (FP.l2d x0)), .second, .val (.ref a2), .val (.int (2 : Int32)), .val (.int ((0 : Int32) + (1 : Int32))), .val (.double (FP.l2d x0)), .second] [(.ref a2)])) _
    refine XS.iload X51.here hx rfl (hb hby d1_54) rfl ?_
    show Steps p.tables e below (T51.setTop (mkF m 56 #[.val (.ref wSUM), .val (.ref a2), .val (.double (FP.l2d x0)), .second, .val (.ref a2), .val (.int (2 : Int32)), .val (.int ((0 : Int32) + (1 : Int32))), .val (.double (FP.l2d x0)), .second] [(.int ((0 : Int32) + (1 : Int32))), (.ref a2)])) _
    refine X51.daload hx (j := ((0 : Int32) + (1 : Int32))) (v := (.double (FP.l2d x1))) (by rw [e51]; exact Ar.1) (State.isArrayOf_alike hZ.alike Ar.2.1) Ar.2.2 (inb_of Sz (by decide)) (by rw [show (((0 : Int32) + (1 : Int32))).toNatClampNeg = 1 by decide]; exact hat1) (g := (mkF m 56 #[.val (.ref wSUM), .val (.ref a2), .val (.double (FP.l2d x0)), .second, .val (.ref a2), .val (.int (2 : Int32)), .val (.int ((0 : Int32) + (1 : Int32))), .val (.double (FP.l2d x0)), .second] [(.int ((0 : Int32) + (1 : Int32))), (.ref a2)])) rfl rfl (hb hby d1_56) _ ?_
    show Steps p.tables e below (T51.setTop (mkF m 57 #[.val (.ref wSUM), .val (.ref a2), .val (.double (FP.l2d x0)), .second, .val (.ref a2), .val (.int (2 : Int32)), .val (.int ((0 : Int32) + (1 : Int32))), .val (.double (FP.l2d x0)), .second] [(.double (FP.l2d x1))])) _
    refine XS.dstore X51.here hx rfl (hb hby d1_57) rfl (l' := #[.val (.ref wSUM), .val (.ref a2), .val (.double (FP.l2d x0)), .second, .val (.ref a2), .val (.int (2 : Int32)), .val (.int ((0 : Int32) + (1 : Int32))), .val (.double (FP.l2d x1)), .second]) rfl ?_
    show Steps p.tables e below (T51.setTop (mkF m 59 #[.val (.ref wSUM), .val (.ref a2), .val (.double (FP.l2d x0)), .second, .val (.ref a2), .val (.int (2 : Int32)), .val (.int ((0 : Int32) + (1 : Int32))), .val (.double (FP.l2d x1)), .second] [])) _
    refine XS.dloadN X51.here hx rfl (hb hby d1_59) rfl ?_
    show Steps p.tables e below (T51.setTop (mkF m 60 #[.val (.ref wSUM), .val (.ref a2), .val (.double (FP.l2d x0)), .second, .val (.ref a2), .val (.int (2 : Int32)), .val (.int ((0 : Int32) + (1 : Int32))), .val (.double (FP.l2d x1)), .second] [(.double (FP.l2d x0))])) _
    refine XS.dload X51.here hx rfl (hb hby d1_60) rfl ?_
    show Steps p.tables e below (T51.setTop (mkF m 62 #[.val (.ref wSUM), .val (.ref a2), .val (.double (FP.l2d x0)), .second, .val (.ref a2), .val (.int (2 : Int32)), .val (.int ((0 : Int32) + (1 : Int32))), .val (.double (FP.l2d x1)), .second] [(.double (FP.l2d x1)), (.double (FP.l2d x0))])) _
    refine XS.daddS X51.here hx rfl (hb hby d1_62) rfl (nn_w (own_s1 b0 b1)) (v := FP.l2d (x0 + x1)) (own_s1 b0 b1) ?_
    show Steps p.tables e below (T51.setTop (mkF m 63 #[.val (.ref wSUM), .val (.ref a2), .val (.double (FP.l2d x0)), .second, .val (.ref a2), .val (.int (2 : Int32)), .val (.int ((0 : Int32) + (1 : Int32))), .val (.double (FP.l2d x1)), .second] [(.double (FP.l2d (x0 + x1)))])) _
    refine XS.dstoreN X51.here hx rfl (hb hby d1_63) rfl (l' := #[.val (.ref wSUM), .val (.ref a2), .val (.double (FP.l2d (x0 + x1))), .second, .val (.ref a2), .val (.int (2 : Int32)), .val (.int ((0 : Int32) + (1 : Int32))), .val (.double (FP.l2d x1)), .second]) rfl ?_
    show Steps p.tables e below (T51.setTop (mkF m 64 #[.val (.ref wSUM), .val (.ref a2), .val (.double (FP.l2d (x0 + x1))), .second, .val (.ref a2), .val (.int (2 : Int32)), .val (.int ((0 : Int32) + (1 : Int32))), .val (.double (FP.l2d x1)), .second] [])) _
    refine XS.iinc X51.here hx rfl (hb hby d1_64) rfl (l' := #[.val (.ref wSUM), .val (.ref a2), .val (.double (FP.l2d (x0 + x1))), .second, .val (.ref a2), .val (.int (2 : Int32)), .val (.int (((0 : Int32) + (1 : Int32)) + (1 : Int32))), .val (.double (FP.l2d x1)), .second]) rfl ?_
    show Steps p.tables e below (T51.setTop (mkF m 67 #[.val (.ref wSUM), .val (.ref a2), .val (.double (FP.l2d (x0 + x1))), .second, .val (.ref a2), .val (.int (2 : Int32)), .val (.int (((0 : Int32) + (1 : Int32)) + (1 : Int32))), .val (.double (FP.l2d x1)), .second] [])) _
    refine XS.goto X51.here hx rfl (pc0 := 67) (pc' := 45) rfl (hb hby d1_67) (by decide) (by decide) ?_
    show Steps p.tables e below (T51.setTop (mkF m 45 #[.val (.ref wSUM), .val (.ref a2), .val (.double (FP.l2d (x0 + x1))), .second, .val (.ref a2), .val (.int (2 : Int32)), .val (.int (((0 : Int32) + (1 : Int32)) + (1 : Int32))), .val (.double (FP.l2d x1)), .second] [])) _
    refine XS.iload X51.here hx rfl (hb hby d1_45) rfl ?_
    show Steps p.tables e below (T51.setTop (mkF m 47 #[.val (.ref wSUM), .val (.ref a2), .val (.double (FP.l2d (x0 + x1))), .second, .val (.ref a2), .val (.int (2 : Int32)), .val (.int (((0 : Int32) + (1 : Int32)) + (1 : Int32))), .val (.double (FP.l2d x1)), .second] [(.int (((0 : Int32) + (1 : Int32)) + (1 : Int32)))])) _
    refine XS.iload X51.here hx rfl (hb hby d1_47) rfl ?_
    show Steps p.tables e below (T51.setTop (mkF m 49 #[.val (.ref wSUM), .val (.ref a2), .val (.double (FP.l2d (x0 + x1))), .second, .val (.ref a2), .val (.int (2 : Int32)), .val (.int (((0 : Int32) + (1 : Int32)) + (1 : Int32))), .val (.double (FP.l2d x1)), .second] [(.int (2 : Int32)), (.int (((0 : Int32) + (1 : Int32)) + (1 : Int32)))])) _
    refine XS.icmpYes X51.here hx rfl (pc0 := 49) (pc' := 70) rfl (hb hby d1_49) rfl (flt (by decide : ¬ ((((0 : Int32) + (1 : Int32)) + (1 : Int32)) < (2 : Int32)))).2.1 (by decide) (by decide) ?_
    show Steps p.tables e below (T51.setTop (mkF m 70 #[.val (.ref wSUM), .val (.ref a2), .val (.double (FP.l2d (x0 + x1))), .second, .val (.ref a2), .val (.int (2 : Int32)), .val (.int (((0 : Int32) + (1 : Int32)) + (1 : Int32))), .val (.double (FP.l2d x1)), .second] [])) _
    refine XS.aloadN X51.here hx rfl (hb hby d1_70) rfl rfl ?_
    show Steps p.tables e below (T51.setTop (mkF m 71 #[.val (.ref wSUM), .val (.ref a2), .val (.double (FP.l2d (x0 + x1))), .second, .val (.ref a2), .val (.int (2 : Int32)), .val (.int (((0 : Int32) + (1 : Int32)) + (1 : Int32))), .val (.double (FP.l2d x1)), .second] [(.ref wSUM)])) _
    refine st52 _ ?_
    show Steps p.tables e below (T52.setTop (mkF m 74 #[.val (.ref wSUM), .val (.ref a2), .val (.double (FP.l2d (x0 + x1))), .second, .val (.ref a2), .val (.int (2 : Int32)), .val (.int (((0 : Int32) + (1 : Int32)) + (1 : Int32))), .val (.double (FP.l2d x1)), .second] [(.ref wSUM), (.ref wSUM)])) _
    refine Jvm.RoadKit.acmp (g := (mkF m 74 #[.val (.ref wSUM), .val (.ref a2), .val (.double (FP.l2d (x0 + x1))), .second, .val (.ref a2), .val (.int (2 : Int32)), .val (.int (((0 : Int32) + (1 : Int32)) + (1 : Int32))), .val (.double (FP.l2d x1)), .second] [(.ref wSUM), (.ref wSUM)])) X52 hx rfl rfl rfl (pc0 := 74) (pc' := 77) (same := true) rfl (hb hby d1_74) rfl (decide_eq_true rfl) (by decide) (by decide) ?_
    show Steps p.tables e below (T52.setTop (mkF m 77 #[.val (.ref wSUM), .val (.ref a2), .val (.double (FP.l2d (x0 + x1))), .second, .val (.ref a2), .val (.int (2 : Int32)), .val (.int (((0 : Int32) + (1 : Int32)) + (1 : Int32))), .val (.double (FP.l2d x1)), .second] [])) _
    refine XS.dloadN X52.here hx rfl (hb hby d1_77) rfl ?_
    show Steps p.tables e below (T52.setTop (mkF m 78 #[.val (.ref wSUM), .val (.ref a2), .val (.double (FP.l2d (x0 + x1))), .second, .val (.ref a2), .val (.int (2 : Int32)), .val (.int (((0 : Int32) + (1 : Int32)) + (1 : Int32))), .val (.double (FP.l2d x1)), .second] [(.double (FP.l2d (x0 + x1)))])) _
    refine XS.goto X52.here hx rfl (pc0 := 78) (pc' := 86) rfl (hb hby d1_78) (by decide) (by decide) ?_
    show Steps p.tables e below (T52.setTop (mkF m 86 #[.val (.ref wSUM), .val (.ref a2), .val (.double (FP.l2d (x0 + x1))), .second, .val (.ref a2), .val (.int (2 : Int32)), .val (.int (((0 : Int32) + (1 : Int32)) + (1 : Int32))), .val (.double (FP.l2d x1)), .second] [(.double (FP.l2d (x0 + x1)))])) _
    exact retOut X52 hx (t := .double) Bd.returns rfl (Or.inr (Or.inr (Or.inl ⟨rfl, rfl, _, rfl⟩))) (hb hby d1_86) hr
  · show QV (some (.double (FP.l2d (x0 + x1)))) h0 n0 _ T52.heap _
    rw [e52]
    exact ⟨rfl, N0, rfl⟩
set_option maxRecDepth 65536 in
set_option maxHeartbeats 40000000 in
theorem rm1_SUM_3 (l : Launch) (Z : State) (a0 : Array Value) (hw : ∀ d ∈ tables_1, d.before a0 Z = true) (ws : List Jvm.Cond) (a2 : Addr) (wMIN wMAX wAVG wSUM : Addr) (x0 x1 x2 : Int64) (h0 : Heap) (n0 : Nat) (Z0 : n0 ≤ h0.size) (S_MIN : Sta Z h0 "com/example/tiebreaker/tiebreaker/engine/search/DecayFunction$MultiValueMode" "MIN" "Lcom/example/tiebreaker/tiebreaker/engine/search/DecayFunction$MultiValueMode;" (.ref wMIN)) (S_MAX : Sta Z h0 "com/example/tiebreaker/tiebreaker/engine/search/DecayFunction$MultiValueMode" "MAX" "Lcom/example/tiebreaker/tiebreaker/engine/search/DecayFunction$MultiValueMode;" (.ref wMAX)) (S_AVG : Sta Z h0 "com/example/tiebreaker/tiebreaker/engine/search/DecayFunction$MultiValueMode" "AVG" "Lcom/example/tiebreaker/tiebreaker/engine/search/DecayFunction$MultiValueMode;" (.ref wAVG)) (S_SUM : Sta Z h0 "com/example/tiebreaker/tiebreaker/engine/search/DecayFunction$MultiValueMode" "SUM" "Lcom/example/tiebreaker/tiebreaker/engine/search/DecayFunction$MultiValueMode;" (.ref wSUM)) (nXI : ¬ wMAX = wMIN) (nAI : ¬ wAVG = wMIN) (nAX : ¬ wAVG = wMAX) (nSI : ¬ wSUM = wMIN) (nSX : ¬ wSUM = wMAX) (nAS : ¬ wAVG = wSUM) (cl : Cell) (Ar : Arr Z h0 a2 cl .double) (Sz : cl.slots.size = (3 : Int32).toNatClampNeg) (Nn : ¬ (3 : Int32) < 0) (hat0 : cl.slots[0]? = some (.double (FP.l2d x0))) (hat1 : cl.slots[1]? = some (.double (FP.l2d x1))) (hat2 : cl.slots[2]? = some (.double (FP.l2d x2))) (b0 : 0 ≤ x0.toInt ∧ x0.toInt < 4000000) (b1 : 0 ≤ x1.toInt ∧ x1.toInt < 4000000) (b2 : 0 ≤ x2.toInt ∧ x2.toInt < 4000000) :
    MetFree l (⟨"com/example/tiebreaker/tiebreaker/engine/search/DecayFunction$MultiValueMode", "pick", "([D)D"⟩ : MethodName) (head1 (Jvm.Cond.code (⟨"com/example/tiebreaker/tiebreaker/engine/search/DecayFunction$MultiValueMode", "pick", "([D)D"⟩ : MethodName) prog_49_method_4_code 9 (some .double) :: ws) ({ frames := 0, cells := 0, slots := 0, locals := 0 } : Room)) (fun a U => a = #[(.ref wSUM), (.ref a2)] ∧ Z.Warmed39 U.vm ∧ U.heap = h0) (fun _ _ _ _ _ => True) (fun _ U o U' => ∃ v L, o = .returned v ∧ QV (some (.double (FP.l2d ((x0 + x1) + x2)))) h0 n0 v U'.heap L ∧ FrameEnd U o U' L ({ frames := 0, cells := 0, slots := 0, locals := 0 } : Room).cells ({ frames := 0, cells := 0, slots := 0, locals := 0 } : Room).slots) := by
  refine MetFree.of_bodySF (plainFor_of_name pn_1) hisR ?_
  intro p e s m args below meth c s₁ Bd hml0 hP hK
  obtain ⟨rfl, hZ, hh⟩ := hP
  have hx := Bd.exec
  have hby := Bd.bytes
  have hml : c.maxLocals = 9 := hml0
  have hown : s.vm.findClass "com/example/tiebreaker/tiebreaker/engine/search/DecayFunction$MultiValueMode" = some m.cls := findClass_of_methodNamed Bd.named
  have X0 : Stand p l e ({ frames := 0, cells := 0, slots := 0, locals := 0 } : Room) s m #[(.ref wSUM), (.ref a2)] below meth c s₁ [] 0 0 := Stand.of_body Bd
  have e0 : s₁.heap = h0 := by rw [← hh, Bd.state]; rfl
  have N0 := Fr.nil n0
  have pre0 : ∀ t, Steps p.tables e below (s₁.setTop (mkF m 0 #[.val (.ref wSUM), .val (.ref a2), uu, uu, uu, uu, uu, uu, uu] [])) t → Steps p.tables e below (s₁.setTop (entryFrame m #[(.ref wSUM), (.ref a2)] 9)) t := fun t k => castTop (ef_1 m wSUM a2) k
  obtain ⟨T50, X50, e50, st50⟩ := getS2 X0 hx hZ hown (host := "") (Or.inl (hw _ (List.mem_of_getElem? (i := 11) rfl))) Via.refl e0 S_MIN (g := (mkF m 1 #[.val (.ref wSUM), .val (.ref a2), uu, uu, uu, uu, uu, uu, uu] [(.ref wSUM)])) rfl (hb hby d1_1)
  obtain ⟨T51, X51, e51, st51⟩ := getS2 X50 hx hZ hown (host := "") (Or.inl (hw _ (List.mem_of_getElem? (i := 14) rfl))) Via.refl e50 S_MAX (g := (mkF m 8 #[.val (.ref wSUM), .val (.ref a2), uu, uu, uu, uu, uu, uu, uu] [(.ref wSUM)])) rfl (hb hby d1_8)
  obtain ⟨T52, X52, e52, st52⟩ := getS2 X51 hx hZ hown (host := "") (Or.inl (hw _ (List.mem_of_getElem? (i := 16) rfl))) Via.refl e51 S_SUM (g := (mkF m 71 #[.val (.ref wSUM), .val (.ref a2), .val (.double (FP.l2d ((x0 + x1) + x2))), .second, .val (.ref a2), .val (.int (3 : Int32)), .val (.int ((((0 : Int32) + (1 : Int32)) + (1 : Int32)) + (1 : Int32))), .val (.double (FP.l2d x2)), .second] [(.ref wSUM)])) rfl (hb hby d1_71)
  obtain ⟨fs, hr, hrun, hended, hW, hsame⟩ := X52.leave (v := some (.double (FP.l2d ((x0 + x1) + x2)))) (fun h => by rw [Bd.returns] at h; cases h)
  refine ⟨_, _, pre0 _ ?_, hrun, hended, _, _, rfl, ?_, ⟨_, rfl⟩, hW, hsame.mono (by decide) (by decide)⟩
  · show Steps p.tables e below (s₁.setTop (mkF m 0 #[.val (.ref wSUM), .val (.ref a2), uu, uu, uu, uu, uu, uu, uu] [])) _
    refine XS.aloadN X0.here hx rfl (hb hby d1_0) rfl rfl ?_
    show Steps p.tables e below (s₁.setTop (mkF m 1 #[.val (.ref wSUM), .val (.ref a2), uu, uu, uu, uu, uu, uu, uu] [(.ref wSUM)])) _
    refine st50 _ ?_
    show Steps p.tables e below (T50.setTop (mkF m 4 #[.val (.ref wSUM), .val (.ref a2), uu, uu, uu, uu, uu, uu, uu] [(.ref wMIN), (.ref wSUM)])) _
    refine Jvm.RoadKit.acmp (g := (mkF m 4 #[.val (.ref wSUM), .val (.ref a2), uu, uu, uu, uu, uu, uu, uu] [(.ref wMIN), (.ref wSUM)])) X50 hx rfl rfl rfl (pc0 := 4) (pc' := 7) (same := false) rfl (hb hby d1_4) rfl (decide_eq_false fun q => (nSI : ¬ (wSUM = wMIN)) (Value.ref.inj q)) (by decide) (by decide) ?_
    show Steps p.tables e below (T50.setTop (mkF m 7 #[.val (.ref wSUM), .val (.ref a2), uu, uu, uu, uu, uu, uu, uu] [])) _
    refine XS.aloadN X50.here hx rfl (hb hby d1_7) rfl rfl ?_
    show Steps p.tables e below (T50.setTop (mkF m 8 #[.val (.ref wSUM), .val (.ref a2), uu, uu, uu, uu, uu, uu, uu] [(.ref wSUM)])) _
    refine st51 _ ?_
    show Steps p.tables e below (T51.setTop (mkF m 11 #[.val (.ref wSUM), .val (.ref a2), uu, uu, uu, uu, uu, uu, uu] [(.ref wMAX), (.ref wSUM)])) _
    refine Jvm.RoadKit.acmp (g := (mkF m 11 #[.val (.ref wSUM), .val (.ref a2), uu, uu, uu, uu, uu, uu, uu] [(.ref wMAX), (.ref wSUM)])) X51 hx rfl rfl rfl (pc0 := 11) (pc' := 32) (same := false) rfl (hb hby d1_11) rfl (decide_eq_false fun q => (nSX : ¬ (wSUM = wMAX)) (Value.ref.inj q)) (by decide) (by decide) ?_
    show Steps p.tables e below (T51.setTop (mkF m 32 #[.val (.ref wSUM), .val (.ref a2), uu, uu, uu, uu, uu, uu, uu] [])) _
    refine XS.dconst0 X51.here hx rfl (hb hby d1_32) (v := FP.l2d 0) (by decide +kernel) ?_
    show Steps p.tables e below (T51.setTop (mkF m 33 #[.val (.ref wSUM), .val (.ref a2), uu, uu, uu, uu, uu, uu, uu] [(.double (FP.l2d 0))])) _
    refine XS.dstoreN X51.here hx rfl (hb hby d1_33) rfl (l' := #[.val (.ref wSUM), .val (.ref a2), .val (.double (FP.l2d 0)), .second, uu, uu, uu, uu, uu]) rfl ?_
    show Steps p.tables e below (T51.setTop (mkF m 34 #[.val (.ref wSUM), .val (.ref a2), .val (.double (FP.l2d 0)), .second, uu, uu, uu, uu, uu] [])) _
    refine XS.aloadN X51.here hx rfl (hb hby d1_34) rfl rfl ?_
    show Steps p.tables e below (T51.setTop (mkF m 35 #[.val (.ref wSUM), .val (.ref a2), .val (.double (FP.l2d 0)), .second, uu, uu, uu, uu, uu] [(.ref a2)])) _
    refine XS.astore X51.here hx rfl (hb hby d1_35) rfl rfl (l' := #[.val (.ref wSUM), .val (.ref a2), .val (.double (FP.l2d 0)), .second, .val (.ref a2), uu, uu, uu, uu]) rfl ?_
    show Steps p.tables e below (T51.setTop (mkF m 37 #[.val (.ref wSUM), .val (.ref a2), .val (.double (FP.l2d 0)), .second, .val (.ref a2), uu, uu, uu, uu] [])) _
    refine XS.aload X51.here hx rfl (hb hby d1_37) rfl rfl ?_
    show Steps p.tables e below (T51.setTop (mkF m 39 #[.val (.ref wSUM), .val (.ref a2), .val (.double (FP.l2d 0)), .second, .val (.ref a2), uu, uu, uu, uu] [(.ref a2)])) _
    refine X51.arraylength hx (by rw [e51]; exact Ar.1) (State.isArrayOf_alike hZ.alike Ar.2.1) (g := (mkF m 39 #[.val (.ref wSUM), .val (.ref a2), .val (.double (FP.l2d 0)), .second, .val (.ref a2), uu, uu, uu, uu] [(.ref a2)])) rfl rfl (hb hby d1_39) _ ?_
    rw [len_of Sz Nn]
    show Steps p.tables e below (T51.setTop (mkF m 40 #[.val (.ref wSUM), .val (.ref a2), .val (.double (FP.l2d 0)), .second, .val (.ref a2), uu, uu, uu, uu] [(.int (3 : Int32))])) _
    refine XS.istore X51.here hx rfl (hb hby d1_40) rfl (l' := #[.val (.ref wSUM), .val (.ref a2), .val (.double (FP.l2d 0)), .second, .val (.ref a2), .val (.int (3 : Int32)), uu, uu, uu]) rfl ?_
    show Steps p.tables e below (T51.setTop (mkF m 42 #[.val (.ref wSUM), .val (.ref a2), .val (.double (FP.l2d 0)), .second, .val (.ref a2), .val (.int (3 : Int32)), uu, uu, uu] [])) _
    refine XS.iconst X51.here hx rfl (hb hby d1_42) ?_
    show Steps p.tables e below (T51.setTop (mkF m 43 #[.val (.ref wSUM), .val (.ref a2), .val (.double (FP.l2d 0)), .second, .val (.ref a2), .val (.int (3 : Int32)), uu, uu, uu] [(.int (0 : Int32))])) _
    refine XS.istore X51.here hx rfl (hb hby d1_43) rfl (l' := #[.val (.ref wSUM), .val (.ref a2), .val (.double (FP.l2d 0)), .second, .val (.ref a2), .val (.int (3 : Int32)), .val (.int (0 : Int32)), uu, uu]) rfl ?_
    show Steps p.tables e below (T51.setTop (mkF m 45 #[.val (.ref wSUM), .val (.ref a2), .val (.double (FP.l2d 0)), .second, .val (.ref a2), .val (.int (3 : Int32)), .val (.int (0 : Int32)), uu, uu] [])) _
    refine XS.iload X51.here hx rfl (hb hby d1_45) rfl ?_
    show Steps p.tables e below (T51.setTop (mkF m 47 #[.val (.ref wSUM), .val (.ref a2), .val (.double (FP.l2d 0)), .second, .val (.ref a2), .val (.int (3 : Int32)), .val (.int (0 : Int32)), uu, uu] [(.int (0 : Int32))])) _
    refine XS.iload X51.here hx rfl (hb hby d1_47) rfl ?_
    show Steps p.tables e below (T51.setTop (mkF m 49 #[.val (.ref wSUM), .val (.ref a2), .val (.double (FP.l2d 0)), .second, .val (.ref a2), .val (.int (3 : Int32)), .val (.int (0 : Int32)), uu, uu] [(.int (3 : Int32)), (.int (0 : Int32))])) _
    refine XS.icmpNo X51.here hx rfl (hb hby d1_49) rfl (tlt (by decide : (0 : Int32) < (3 : Int32))).2.1 ?_
    show Steps p.tables e below (T51.setTop (mkF m 52 #[.val (.ref wSUM), .val (.ref a2), .val (.double (FP.l2d 0)), .second, .val (.ref a2), .val (.int (3 : Int32)), .val (.int (0 : Int32)), uu, uu] [])) _
    refine XS.aload X51.here hx rfl (hb hby d1_52) rfl rfl ?_
    show Steps p.tables e below (T51.setTop (mkF m 54 #[.val (.ref wSUM), .val (.ref a2), .val (.double (FP.l2d 0)), .second, .val (.ref a2), .val (.int (3 : Int32)), .val (.int (0 : Int32)), uu, uu] [(.ref a2)])) _
    refine XS.iload X51.here hx rfl (hb hby d1_54) rfl ?_
    show Steps p.tables e below (T51.setTop (mkF m 56 #[.val (.ref wSUM), .val (.ref a2), .val (.double (FP.l2d 0)), .second, .val (.ref a2), .val (.int (3 : Int32)), .val (.int (0 : Int32)), uu, uu] [(.int (0 : Int32)), (.ref a2)])) _
    refine X51.daload hx (j := (0 : Int32)) (v := (.double (FP.l2d x0))) (by rw [e51]; exact Ar.1) (State.isArrayOf_alike hZ.alike Ar.2.1) Ar.2.2 (inb_of Sz (by decide)) (by rw [show ((0 : Int32)).toNatClampNeg = 0 by decide]; exact hat0) (g := (mkF m 56 #[.val (.ref wSUM), .val (.ref a2), .val (.double (FP.l2d 0)), .second, .val (.ref a2), .val (.int (3 : Int32)), .val (.int (0 : Int32)), uu, uu] [(.int (0 : Int32)), (.ref a2)])) rfl rfl (hb hby d1_56) _ ?_
    show Steps p.tables e below (T51.setTop (mkF m 57 #[.val (.ref wSUM), .val (.ref a2), .val (.double (FP.l2d 0)), .second, .val (.ref a2), .val (.int (3 : Int32)), .val (.int (0 : Int32)), uu, uu] [(.double (FP.l2d x0))])) _
    refine XS.dstore X51.here hx rfl (hb hby d1_57) rfl (l' := #[.val (.ref wSUM), .val (.ref a2), .val (.double (FP.l2d 0)), .second, .val (.ref a2), .val (.int (3 : Int32)), .val (.int (0 : Int32)), .val (.double (FP.l2d x0)), .second]) rfl ?_
    show Steps p.tables e below (T51.setTop (mkF m 59 #[.val (.ref wSUM), .val (.ref a2), .val (.double (FP.l2d 0)), .second, .val (.ref a2), .val (.int (3 : Int32)), .val (.int (0 : Int32)), .val (.double (FP.l2d x0)), .second] [])) _
    refine XS.dloadN X51.here hx rfl (hb hby d1_59) rfl ?_
    show Steps p.tables e below (T51.setTop (mkF m 60 #[.val (.ref wSUM), .val (.ref a2), .val (.double (FP.l2d 0)), .second, .val (.ref a2), .val (.int (3 : Int32)), .val (.int (0 : Int32)), .val (.double (FP.l2d x0)), .second] [(.double (FP.l2d 0))])) _
    refine XS.dload X51.here hx rfl (hb hby d1_60) rfl ?_
    show Steps p.tables e below (T51.setTop (mkF m 62 #[.val (.ref wSUM), .val (.ref a2), .val (.double (FP.l2d 0)), .second, .val (.ref a2), .val (.int (3 : Int32)), .val (.int (0 : Int32)), .val (.double (FP.l2d x0)), .second] [(.double (FP.l2d x0)), (.double (FP.l2d 0))])) _
    refine XS.daddS X51.here hx rfl (hb hby d1_62) rfl (nn_w (own_s0 b0)) (v := FP.l2d x0) (own_s0 b0) ?_
    show Steps p.tables e below (T51.setTop (mkF m 63 #[.val (.ref wSUM), .val (.ref a2), .val (.double (FP.l2d 0)), .second, .val (.ref a2), .val (.int (3 : Int32)), .val (.int (0 : Int32)), .val (.double (FP.l2d x0)), .second] [(.double (FP.l2d x0))])) _
    refine XS.dstoreN X51.here hx rfl (hb hby d1_63) rfl (l' := #[.val (.ref wSUM), .val (.ref a2), .val (.double (FP.l2d x0)), .second, .val (.ref a2), .val (.int (3 : Int32)), .val (.int (0 : Int32)), .val (.double (FP.l2d x0)), .second]) rfl ?_
    show Steps p.tables e below (T51.setTop (mkF m 64 #[.val (.ref wSUM), .val (.ref a2), .val (.double (FP.l2d x0)), .second, .val (.ref a2), .val (.int (3 : Int32)), .val (.int (0 : Int32)), .val (.double (FP.l2d x0)), .second] [])) _
    refine XS.iinc X51.here hx rfl (hb hby d1_64) rfl (l' := #[.val (.ref wSUM), .val (.ref a2), .val (.double (FP.l2d x0)), .second, .val (.ref a2), .val (.int (3 : Int32)), .val (.int ((0 : Int32) + (1 : Int32))), .val (.double (FP.l2d x0)), .second]) rfl ?_
    show Steps p.tables e below (T51.setTop (mkF m 67 #[.val (.ref wSUM), .val (.ref a2), .val (.double (FP.l2d x0)), .second, .val (.ref a2), .val (.int (3 : Int32)), .val (.int ((0 : Int32) + (1 : Int32))), .val (.double (FP.l2d x0)), .second] [])) _
    refine XS.goto X51.here hx rfl (pc0 := 67) (pc' := 45) rfl (hb hby d1_67) (by decide) (by decide) ?_
    show Steps p.tables e below (T51.setTop (mkF m 45 #[.val (.ref wSUM), .val (.ref a2), .val (.double (FP.l2d x0)), .second, .val (.ref a2), .val (.int (3 : Int32)), .val (.int ((0 : Int32) + (1 : Int32))), .val (.double (FP.l2d x0)), .second] [])) _
    refine XS.iload X51.here hx rfl (hb hby d1_45) rfl ?_
    show Steps p.tables e below (T51.setTop (mkF m 47 #[.val (.ref wSUM), .val (.ref a2), .val (.double (FP.l2d x0)), .second, .val (.ref a2), .val (.int (3 : Int32)), .val (.int ((0 : Int32) + (1 : Int32))), .val (.double (FP.l2d x0)), .second] [(.int ((0 : Int32) + (1 : Int32)))])) _
    refine XS.iload X51.here hx rfl (hb hby d1_47) rfl ?_
    show Steps p.tables e below (T51.setTop (mkF m 49 #[.val (.ref wSUM), .val (.ref a2), .val (.double (FP.l2d x0)), .second, .val (.ref a2), .val (.int (3 : Int32)), .val (.int ((0 : Int32) + (1 : Int32))), .val (.double (FP.l2d x0)), .second] [(.int (3 : Int32)), (.int ((0 : Int32) + (1 : Int32)))])) _
    refine XS.icmpNo X51.here hx rfl (hb hby d1_49) rfl (tlt (by decide : ((0 : Int32) + (1 : Int32)) < (3 : Int32))).2.1 ?_
    show Steps p.tables e below (T51.setTop (mkF m 52 #[.val (.ref wSUM), .val (.ref a2), .val (.double (FP.l2d x0)), .second, .val (.ref a2), .val (.int (3 : Int32)), .val (.int ((0 : Int32) + (1 : Int32))), .val (.double (FP.l2d x0)), .second] [])) _
    refine XS.aload X51.here hx rfl (hb hby d1_52) rfl rfl ?_
    show Steps p.tables e below (T51.setTop (mkF m 54 #[.val (.ref wSUM), .val (.ref a2), .val (.double (FP.l2d x0)), .second, .val (.ref a2), .val (.int (3 : Int32)), .val (.int ((0 : Int32) + (1 : Int32))), .val (.double (FP.l2d x0)), .second] [(.ref a2)])) _
    refine XS.iload X51.here hx rfl (hb hby d1_54) rfl ?_
    show Steps p.tables e below (T51.setTop (mkF m 56 #[.val (.ref wSUM), .val (.ref a2), .val (.double (FP.l2d x0)), .second, .val (.ref a2), .val (.int (3 : Int32)), .val (.int ((0 : Int32) + (1 : Int32))), .val (.double (FP.l2d x0)), .second] [(.int ((0 : Int32) + (1 : Int32))), (.ref a2)])) _
    refine X51.daload hx (j := ((0 : Int32) + (1 : Int32))) (v := (.double (FP.l2d x1))) (by rw [e51]; exact Ar.1) (State.isArrayOf_alike hZ.alike Ar.2.1) Ar.2.2 (inb_of Sz (by decide)) (by rw [show (((0 : Int32) + (1 : Int32))).toNatClampNeg = 1 by decide]; exact hat1) (g := (mkF m 56 #[.val (.ref wSUM), .val (.ref a2), .val (.double (FP.l2d x0)), .second, .val (.ref a2), .val (.int (3 : Int32)), .val (.int ((0 : Int32) + (1 : Int32))), .val (.double (FP.l2d x0)), .second] [(.int ((0 : Int32) + (1 : Int32))), (.ref a2)])) rfl rfl (hb hby d1_56) _ ?_
    show Steps p.tables e below (T51.setTop (mkF m 57 #[.val (.ref wSUM), .val (.ref a2), .val (.double (FP.l2d x0)), .second, .val (.ref a2), .val (.int (3 : Int32)), .val (.int ((0 : Int32) + (1 : Int32))), .val (.double (FP.l2d x0)), .second] [(.double (FP.l2d x1))])) _
    refine XS.dstore X51.here hx rfl (hb hby d1_57) rfl (l' := #[.val (.ref wSUM), .val (.ref a2), .val (.double (FP.l2d x0)), .second, .val (.ref a2), .val (.int (3 : Int32)), .val (.int ((0 : Int32) + (1 : Int32))), .val (.double (FP.l2d x1)), .second]) rfl ?_
    show Steps p.tables e below (T51.setTop (mkF m 59 #[.val (.ref wSUM), .val (.ref a2), .val (.double (FP.l2d x0)), .second, .val (.ref a2), .val (.int (3 : Int32)), .val (.int ((0 : Int32) + (1 : Int32))), .val (.double (FP.l2d x1)), .second] [])) _
    refine XS.dloadN X51.here hx rfl (hb hby d1_59) rfl ?_
    show Steps p.tables e below (T51.setTop (mkF m 60 #[.val (.ref wSUM), .val (.ref a2), .val (.double (FP.l2d x0)), .second, .val (.ref a2), .val (.int (3 : Int32)), .val (.int ((0 : Int32) + (1 : Int32))), .val (.double (FP.l2d x1)), .second] [(.double (FP.l2d x0))])) _
    refine XS.dload X51.here hx rfl (hb hby d1_60) rfl ?_
    show Steps p.tables e below (T51.setTop (mkF m 62 #[.val (.ref wSUM), .val (.ref a2), .val (.double (FP.l2d x0)), .second, .val (.ref a2), .val (.int (3 : Int32)), .val (.int ((0 : Int32) + (1 : Int32))), .val (.double (FP.l2d x1)), .second] [(.double (FP.l2d x1)), (.double (FP.l2d x0))])) _
    refine XS.daddS X51.here hx rfl (hb hby d1_62) rfl (nn_w (own_s1 b0 b1)) (v := FP.l2d (x0 + x1)) (own_s1 b0 b1) ?_
    show Steps p.tables e below (T51.setTop (mkF m 63 #[.val (.ref wSUM), .val (.ref a2), .val (.double (FP.l2d x0)), .second, .val (.ref a2), .val (.int (3 : Int32)), .val (.int ((0 : Int32) + (1 : Int32))), .val (.double (FP.l2d x1)), .second] [(.double (FP.l2d (x0 + x1)))])) _
    refine XS.dstoreN X51.here hx rfl (hb hby d1_63) rfl (l' := #[.val (.ref wSUM), .val (.ref a2), .val (.double (FP.l2d (x0 + x1))), .second, .val (.ref a2), .val (.int (3 : Int32)), .val (.int ((0 : Int32) + (1 : Int32))), .val (.double (FP.l2d x1)), .second]) rfl ?_
    show Steps p.tables e below (T51.setTop (mkF m 64 #[.val (.ref wSUM), .val (.ref a2), .val (.double (FP.l2d (x0 + x1))), .second, .val (.ref a2), .val (.int (3 : Int32)), .val (.int ((0 : Int32) + (1 : Int32))), .val (.double (FP.l2d x1)), .second] [])) _
    refine XS.iinc X51.here hx rfl (hb hby d1_64) rfl (l' := #[.val (.ref wSUM), .val (.ref a2), .val (.double (FP.l2d (x0 + x1))), .second, .val (.ref a2), .val (.int (3 : Int32)), .val (.int (((0 : Int32) + (1 : Int32)) + (1 : Int32))), .val (.double (FP.l2d x1)), .second]) rfl ?_
    show Steps p.tables e below (T51.setTop (mkF m 67 #[.val (.ref wSUM), .val (.ref a2), .val (.double (FP.l2d (x0 + x1))), .second, .val (.ref a2), .val (.int (3 : Int32)), .val (.int (((0 : Int32) + (1 : Int32)) + (1 : Int32))), .val (.double (FP.l2d x1)), .second] [])) _
    refine XS.goto X51.here hx rfl (pc0 := 67) (pc' := 45) rfl (hb hby d1_67) (by decide) (by decide) ?_
    show Steps p.tables e below (T51.setTop (mkF m 45 #[.val (.ref wSUM), .val (.ref a2), .val (.double (FP.l2d (x0 + x1))), .second, .val (.ref a2), .val (.int (3 : Int32)), .val (.int (((0 : Int32) + (1 : Int32)) + (1 : Int32))), .val (.double (FP.l2d x1)), .second] [])) _
    refine XS.iload X51.here hx rfl (hb hby d1_45) rfl ?_
    show Steps p.tables e below (T51.setTop (mkF m 47 #[.val (.ref wSUM), .val (.ref a2), .val (.double (FP.l2d (x0 + x1))), .second, .val (.ref a2), .val (.int (3 : Int32)), .val (.int (((0 : Int32) + (1 : Int32)) + (1 : Int32))), .val (.double (FP.l2d x1)), .second] [(.int (((0 : Int32) + (1 : Int32)) + (1 : Int32)))])) _
    refine XS.iload X51.here hx rfl (hb hby d1_47) rfl ?_
    show Steps p.tables e below (T51.setTop (mkF m 49 #[.val (.ref wSUM), .val (.ref a2), .val (.double (FP.l2d (x0 + x1))), .second, .val (.ref a2), .val (.int (3 : Int32)), .val (.int (((0 : Int32) + (1 : Int32)) + (1 : Int32))), .val (.double (FP.l2d x1)), .second] [(.int (3 : Int32)), (.int (((0 : Int32) + (1 : Int32)) + (1 : Int32)))])) _
    refine XS.icmpNo X51.here hx rfl (hb hby d1_49) rfl (tlt (by decide : (((0 : Int32) + (1 : Int32)) + (1 : Int32)) < (3 : Int32))).2.1 ?_
    show Steps p.tables e below (T51.setTop (mkF m 52 #[.val (.ref wSUM), .val (.ref a2), .val (.double (FP.l2d (x0 + x1))), .second, .val (.ref a2), .val (.int (3 : Int32)), .val (.int (((0 : Int32) + (1 : Int32)) + (1 : Int32))), .val (.double (FP.l2d x1)), .second] [])) _
    refine XS.aload X51.here hx rfl (hb hby d1_52) rfl rfl ?_
    show Steps p.tables e below (T51.setTop (mkF m 54 #[.val (.ref wSUM), .val (.ref a2), .val (.double (FP.l2d (x0 + x1))), .second, .val (.ref a2), .val (.int (3 : Int32)), .val (.int (((0 : Int32) + (1 : Int32)) + (1 : Int32))), .val (.double (FP.l2d x1)), .second] [(.ref a2)])) _
    refine XS.iload X51.here hx rfl (hb hby d1_54) rfl ?_
    show Steps p.tables e below (T51.setTop (mkF m 56 #[.val (.ref wSUM), .val (.ref a2), .val (.double (FP.l2d (x0 + x1))), .second, .val (.ref a2), .val (.int (3 : Int32)), .val (.int (((0 : Int32) + (1 : Int32)) + (1 : Int32))), .val (.double (FP.l2d x1)), .second] [(.int (((0 : Int32) + (1 : Int32)) + (1 : Int32))), (.ref a2)])) _
    refine X51.daload hx (j := (((0 : Int32) + (1 : Int32)) + (1 : Int32))) (v := (.double (FP.l2d x2))) (by rw [e51]; exact Ar.1) (State.isArrayOf_alike hZ.alike Ar.2.1) Ar.2.2 (inb_of Sz (by decide)) (by rw [show ((((0 : Int32) + (1 : Int32)) + (1 : Int32))).toNatClampNeg = 2 by decide]; exact hat2) (g := (mkF m 56 #[.val (.ref wSUM), .val (.ref a2), .val (.double (FP.l2d (x0 + x1))), .second, .val (.ref a2), .val (.int (3 : Int32)), .val (.int (((0 : Int32) + (1 : Int32)) + (1 : Int32))), .val (.double (FP.l2d x1)), .second] [(.int (((0 : Int32) + (1 : Int32)) + (1 : Int32))), (.ref a2)])) rfl rfl (hb hby d1_56) _ ?_
    show Steps p.tables e below (T51.setTop (mkF m 57 #[.val (.ref wSUM), .val (.ref a2), .val (.double (FP.l2d (x0 + x1))), .second, .val (.ref a2), .val (.int (3 : Int32)), .val (.int (((0 : Int32) + (1 : Int32)) + (1 : Int32))), .val (.double (FP.l2d x1)), .second] [(.double (FP.l2d x2))])) _
    refine XS.dstore X51.here hx rfl (hb hby d1_57) rfl (l' := #[.val (.ref wSUM), .val (.ref a2), .val (.double (FP.l2d (x0 + x1))), .second, .val (.ref a2), .val (.int (3 : Int32)), .val (.int (((0 : Int32) + (1 : Int32)) + (1 : Int32))), .val (.double (FP.l2d x2)), .second]) rfl ?_
    show Steps p.tables e below (T51.setTop (mkF m 59 #[.val (.ref wSUM), .val (.ref a2), .val (.double (FP.l2d (x0 + x1))), .second, .val (.ref a2), .val (.int (3 : Int32)), .val (.int (((0 : Int32) + (1 : Int32)) + (1 : Int32))), .val (.double (FP.l2d x2)), .second] [])) _
    refine XS.dloadN X51.here hx rfl (hb hby d1_59) rfl ?_
    show Steps p.tables e below (T51.setTop (mkF m 60 #[.val (.ref wSUM), .val (.ref a2), .val (.double (FP.l2d (x0 + x1))), .second, .val (.ref a2), .val (.int (3 : Int32)), .val (.int (((0 : Int32) + (1 : Int32)) + (1 : Int32))), .val (.double (FP.l2d x2)), .second] [(.double (FP.l2d (x0 + x1)))])) _
    refine XS.dload X51.here hx rfl (hb hby d1_60) rfl ?_
    show Steps p.tables e below (T51.setTop (mkF m 62 #[.val (.ref wSUM), .val (.ref a2), .val (.double (FP.l2d (x0 + x1))), .second, .val (.ref a2), .val (.int (3 : Int32)), .val (.int (((0 : Int32) + (1 : Int32)) + (1 : Int32))), .val (.double (FP.l2d x2)), .second] [(.double (FP.l2d x2)), (.double (FP.l2d (x0 + x1)))])) _
    refine XS.daddS X51.here hx rfl (hb hby d1_62) rfl (nn_w (own_s2 b0 b1 b2)) (v := FP.l2d ((x0 + x1) + x2)) (own_s2 b0 b1 b2) ?_
    show Steps p.tables e below (T51.setTop (mkF m 63 #[.val (.ref wSUM), .val (.ref a2), .val (.double (FP.l2d (x0 + x1))), .second, .val (.ref a2), .val (.int (3 : Int32)), .val (.int (((0 : Int32) + (1 : Int32)) + (1 : Int32))), .val (.double (FP.l2d x2)), .second] [(.double (FP.l2d ((x0 + x1) + x2)))])) _
    refine XS.dstoreN X51.here hx rfl (hb hby d1_63) rfl (l' := #[.val (.ref wSUM), .val (.ref a2), .val (.double (FP.l2d ((x0 + x1) + x2))), .second, .val (.ref a2), .val (.int (3 : Int32)), .val (.int (((0 : Int32) + (1 : Int32)) + (1 : Int32))), .val (.double (FP.l2d x2)), .second]) rfl ?_
    show Steps p.tables e below (T51.setTop (mkF m 64 #[.val (.ref wSUM), .val (.ref a2), .val (.double (FP.l2d ((x0 + x1) + x2))), .second, .val (.ref a2), .val (.int (3 : Int32)), .val (.int (((0 : Int32) + (1 : Int32)) + (1 : Int32))), .val (.double (FP.l2d x2)), .second] [])) _
    refine XS.iinc X51.here hx rfl (hb hby d1_64) rfl (l' := #[.val (.ref wSUM), .val (.ref a2), .val (.double (FP.l2d ((x0 + x1) + x2))), .second, .val (.ref a2), .val (.int (3 : Int32)), .val (.int ((((0 : Int32) + (1 : Int32)) + (1 : Int32)) + (1 : Int32))), .val (.double (FP.l2d x2)), .second]) rfl ?_
    show Steps p.tables e below (T51.setTop (mkF m 67 #[.val (.ref wSUM), .val (.ref a2), .val (.double (FP.l2d ((x0 + x1) + x2))), .second, .val (.ref a2), .val (.int (3 : Int32)), .val (.int ((((0 : Int32) + (1 : Int32)) + (1 : Int32)) + (1 : Int32))), .val (.double (FP.l2d x2)), .second] [])) _
    refine XS.goto X51.here hx rfl (pc0 := 67) (pc' := 45) rfl (hb hby d1_67) (by decide) (by decide) ?_
    show Steps p.tables e below (T51.setTop (mkF m 45 #[.val (.ref wSUM), .val (.ref a2), .val (.double (FP.l2d ((x0 + x1) + x2))), .second, .val (.ref a2), .val (.int (3 : Int32)), .val (.int ((((0 : Int32) + (1 : Int32)) + (1 : Int32)) + (1 : Int32))), .val (.double (FP.l2d x2)), .second] [])) _
    refine XS.iload X51.here hx rfl (hb hby d1_45) rfl ?_
    show Steps p.tables e below (T51.setTop (mkF m 47 #[.val (.ref wSUM), .val (.ref a2), .val (.double (FP.l2d ((x0 + x1) + x2))), .second, .val (.ref a2), .val (.int (3 : Int32)), .val (.int ((((0 : Int32) + (1 : Int32)) + (1 : Int32)) + (1 : Int32))), .val (.double (FP.l2d x2)), .second] [(.int ((((0 : Int32) + (1 : Int32)) + (1 : Int32)) + (1 : Int32)))])) _
    refine XS.iload X51.here hx rfl (hb hby d1_47) rfl ?_
    show Steps p.tables e below (T51.setTop (mkF m 49 #[.val (.ref wSUM), .val (.ref a2), .val (.double (FP.l2d ((x0 + x1) + x2))), .second, .val (.ref a2), .val (.int (3 : Int32)), .val (.int ((((0 : Int32) + (1 : Int32)) + (1 : Int32)) + (1 : Int32))), .val (.double (FP.l2d x2)), .second] [(.int (3 : Int32)), (.int ((((0 : Int32) + (1 : Int32)) + (1 : Int32)) + (1 : Int32)))])) _
    refine XS.icmpYes X51.here hx rfl (pc0 := 49) (pc' := 70) rfl (hb hby d1_49) rfl (flt (by decide : ¬ (((((0 : Int32) + (1 : Int32)) + (1 : Int32)) + (1 : Int32)) < (3 : Int32)))).2.1 (by decide) (by decide) ?_
    show Steps p.tables e below (T51.setTop (mkF m 70 #[.val (.ref wSUM), .val (.ref a2), .val (.double (FP.l2d ((x0 + x1) + x2))), .second, .val (.ref a2), .val (.int (3 : Int32)), .val (.int ((((0 : Int32) + (1 : Int32)) + (1 : Int32)) + (1 : Int32))), .val (.double (FP.l2d x2)), .second] [])) _
    refine XS.aloadN X51.here hx rfl (hb hby d1_70) rfl rfl ?_
    show Steps p.tables e below (T51.setTop (mkF m 71 #[.val (.ref wSUM), .val (.ref a2), .val (.double (FP.l2d ((x0 + x1) + x2))), .second, .val (.ref a2), .val (.int (3 : Int32)), .val (.int ((((0 : Int32) + (1 : Int32)) + (1 : Int32)) + (1 : Int32))), .val (.double (FP.l2d x2)), .second] [(.ref wSUM)])) _
    refine st52 _ ?_
    show Steps p.tables e below (T52.setTop (mkF m 74 #[.val (.ref wSUM), .val (.ref a2), .val (.double (FP.l2d ((x0 + x1) + x2))), .second, .val (.ref a2), .val (.int (3 : Int32)), .val (.int ((((0 : Int32) + (1 : Int32)) + (1 : Int32)) + (1 : Int32))), .val (.double (FP.l2d x2)), .second] [(.ref wSUM), (.ref wSUM)])) _
    refine Jvm.RoadKit.acmp (g := (mkF m 74 #[.val (.ref wSUM), .val (.ref a2), .val (.double (FP.l2d ((x0 + x1) + x2))), .second, .val (.ref a2), .val (.int (3 : Int32)), .val (.int ((((0 : Int32) + (1 : Int32)) + (1 : Int32)) + (1 : Int32))), .val (.double (FP.l2d x2)), .second] [(.ref wSUM), (.ref wSUM)])) X52 hx rfl rfl rfl (pc0 := 74) (pc' := 77) (same := true) rfl (hb hby d1_74) rfl (decide_eq_true rfl) (by decide) (by decide) ?_
    show Steps p.tables e below (T52.setTop (mkF m 77 #[.val (.ref wSUM), .val (.ref a2), .val (.double (FP.l2d ((x0 + x1) + x2))), .second, .val (.ref a2), .val (.int (3 : Int32)), .val (.int ((((0 : Int32) + (1 : Int32)) + (1 : Int32)) + (1 : Int32))), .val (.double (FP.l2d x2)), .second] [])) _
    refine XS.dloadN X52.here hx rfl (hb hby d1_77) rfl ?_
    show Steps p.tables e below (T52.setTop (mkF m 78 #[.val (.ref wSUM), .val (.ref a2), .val (.double (FP.l2d ((x0 + x1) + x2))), .second, .val (.ref a2), .val (.int (3 : Int32)), .val (.int ((((0 : Int32) + (1 : Int32)) + (1 : Int32)) + (1 : Int32))), .val (.double (FP.l2d x2)), .second] [(.double (FP.l2d ((x0 + x1) + x2)))])) _
    refine XS.goto X52.here hx rfl (pc0 := 78) (pc' := 86) rfl (hb hby d1_78) (by decide) (by decide) ?_
    show Steps p.tables e below (T52.setTop (mkF m 86 #[.val (.ref wSUM), .val (.ref a2), .val (.double (FP.l2d ((x0 + x1) + x2))), .second, .val (.ref a2), .val (.int (3 : Int32)), .val (.int ((((0 : Int32) + (1 : Int32)) + (1 : Int32)) + (1 : Int32))), .val (.double (FP.l2d x2)), .second] [(.double (FP.l2d ((x0 + x1) + x2)))])) _
    exact retOut X52 hx (t := .double) Bd.returns rfl (Or.inr (Or.inr (Or.inl ⟨rfl, rfl, _, rfl⟩))) (hb hby d1_86) hr
  · show QV (some (.double (FP.l2d ((x0 + x1) + x2)))) h0 n0 _ T52.heap _
    rw [e52]
    exact ⟨rfl, N0, rfl⟩
def Q0 (h0 : Heap) (n0 : Nat) (v : Option Value) (h : Heap) (L : List Loc) : Prop := v = some (.int (1 : Int32)) ∧ Fr n0 L
theorem pn_0 : plainName "com/example/tiebreaker/tiebreaker/engine/search/MultiValueModePickPinLaw" = true := by first | (simp [plainName, overriddenIn]; done) | decide +kernel
theorem pd_0 : parseMethodDescriptor "([D)D" = some ⟨[.array .double], some .double⟩ := by decide +kernel
theorem ef_0 (m : MethodId) (x0 x1 x2 x3 x4 : Int32) : entryFrame m #[(.int x0), (.int x1), (.int x2), (.int x3), (.int x4)] maxLocals = mkF m 0 #[.val (.int x0), .val (.int x1), .val (.int x2), .val (.int x3), .val (.int x4), uu, uu, uu, uu, uu, uu, uu, uu, uu, uu, uu, uu, uu, uu, uu, uu, uu, uu] [] := by first | (simp [entryFrame, mkF, argsToLocals, Value.category, maxLocals]; done) | rfl
theorem own_sta {Z : State} {h h' : Heap} {C n dd : String} {v : Value} (F : Sta Z h C n dd v) (K : Keep h h' []) : Sta Z h' C n dd v := by
  obtain ⟨cf, i, k, f, st, cell, h1, h2, h3, h4, h5, r⟩ := F
  exact ⟨cf, i, k, f, st, cell, h1, h2, h3, h4, K.2.1 _ _ h5 (by simp), r⟩
set_option maxRecDepth 65536 in
set_option maxHeartbeats 40000000 in
theorem rm0_0_1 (l : Launch) (Z : State) (a0 : Array Value) (hw : ∀ d ∈ tables_1, d.before a0 Z = true) (ws : List Jvm.Cond) (p1 p2 p3 p4 p5 : Int32) (wMIN wMAX wAVG wSUM : Addr) (x0 y1 y2 : Int64) (h0 : Heap) (n0 : Nat) (Z0 : n0 ≤ h0.size) (S_MIN : Sta Z h0 "com/example/tiebreaker/tiebreaker/engine/search/DecayFunction$MultiValueMode" "MIN" "Lcom/example/tiebreaker/tiebreaker/engine/search/DecayFunction$MultiValueMode;" (.ref wMIN)) (S_MAX : Sta Z h0 "com/example/tiebreaker/tiebreaker/engine/search/DecayFunction$MultiValueMode" "MAX" "Lcom/example/tiebreaker/tiebreaker/engine/search/DecayFunction$MultiValueMode;" (.ref wMAX)) (S_AVG : Sta Z h0 "com/example/tiebreaker/tiebreaker/engine/search/DecayFunction$MultiValueMode" "AVG" "Lcom/example/tiebreaker/tiebreaker/engine/search/DecayFunction$MultiValueMode;" (.ref wAVG)) (S_SUM : Sta Z h0 "com/example/tiebreaker/tiebreaker/engine/search/DecayFunction$MultiValueMode" "SUM" "Lcom/example/tiebreaker/tiebreaker/engine/search/DecayFunction$MultiValueMode;" (.ref wSUM)) (nXI : ¬ wMAX = wMIN) (nAI : ¬ wAVG = wMIN) (nAX : ¬ wAVG = wMAX) (nSI : ¬ wSUM = wMIN) (nSX : ¬ wSUM = wMAX) (nAS : ¬ wAVG = wSUM) (E_m : Exa Z h0 wMIN "com/example/tiebreaker/tiebreaker/engine/search/DecayFunction$MultiValueMode") (hx0 : x0 = (p3 &&& (1048575 : Int32)).toInt64) (hy1 : y1 = (p4 &&& (1048575 : Int32)).toInt64) (hy2 : y2 = (p5 &&& (1048575 : Int32)).toInt64) (b0 : 0 ≤ x0.toInt ∧ x0.toInt < 4000000) (b1 : 0 ≤ (x0 + y1).toInt ∧ (x0 + y1).toInt < 4000000) (b2 : 0 ≤ ((x0 + y1) + y2).toInt ∧ ((x0 + y1) + y2).toInt < 4000000) (hm : (p1 &&& (3 : Int32)) = (0 : Int32)) (hn : (((p2 &&& (2147483647 : Int32)) % (3 : Int32)) + (1 : Int32)) = (1 : Int32)) :
    MetFree l x (head1 (Jvm.Cond.code x code maxLocals ret :: ws) room_1) (fun a U => a = #[(.int p1), (.int p2), (.int p3), (.int p4), (.int p5)] ∧ Z.Warmed39 U.vm ∧ U.heap = h0) (fun _ _ _ _ _ => True) (fun _ U o U' => ∃ v L, o = .returned v ∧ Q0 h0 n0 v U'.heap L ∧ FrameEnd U o U' L room_1.cells room_1.slots) := by
  refine MetFree.of_bodySF (plainFor_of_name pn_0) hisR ?_
  intro p e s m args below meth c s₁ Bd hml0 hP hK
  obtain ⟨rfl, hZ, hh⟩ := hP
  have hx := Bd.exec
  have hby := Bd.bytes
  have hml : c.maxLocals = 23 := hml0
  have hown : s.vm.findClass "com/example/tiebreaker/tiebreaker/engine/search/MultiValueModePickPinLaw" = some m.cls := findClass_of_methodNamed Bd.named
  have X0 : Stand p l e room_1 s m #[(.int p1), (.int p2), (.int p3), (.int p4), (.int p5)] below meth c s₁ [] 0 0 := Stand.of_body Bd
  have e0 : s₁.heap = h0 := by rw [← hh, Bd.state]; rfl
  have N0 := Fr.nil n0
  have pre0 : ∀ t, Steps p.tables e below (s₁.setTop (mkF m 0 #[.val (.int p1), .val (.int p2), .val (.int p3), .val (.int p4), .val (.int p5), uu, uu, uu, uu, uu, uu, uu, uu, uu, uu, uu, uu, uu, uu, uu, uu, uu, uu] [])) t → Steps p.tables e below (s₁.setTop (entryFrame m #[(.int p1), (.int p2), (.int p3), (.int p4), (.int p5)] maxLocals)) t := fun t k => castTop (ef_0 m p1 p2 p3 p4 p5) k
  obtain ⟨T50, X50, e50, st50⟩ := getS2 X0 hx hZ hown (host := "") (Or.inl (hw _ (List.mem_of_getElem? (i := 0) rfl))) Via.refl e0 S_MIN (g := (mkF m 10 #[.val (.int p1), .val (.int p2), .val (.int p3), .val (.int p4), .val (.int p5), .val (.int (0 : Int32)), uu, uu, uu, uu, uu, uu, uu, uu, uu, uu, uu, uu, uu, uu, uu, uu, uu] [])) rfl (hb hby at_10)
  obtain ⟨Ta, ha, ka, Xa, ea, Ea, Aa, sta_⟩ := newP X50 hx hZ (hw _ (List.mem_of_getElem? (i := 5) rfl)) e50 (g := (mkF m 90 #[.val (.int p1), .val (.int p2), .val (.int p3), .val (.int p4), .val (.int p5), .val (.int (0 : Int32)), .val (.ref wMIN), .val (.int (1 : Int32)), .val (.long x0), .second, .val (.long (x0 + y1)), .second, .val (.long ((x0 + y1) + y2)), .second, uu, uu, uu, uu, uu, uu, uu, uu, uu] [(.int (1 : Int32))])) rfl (hb hby at_90) rfl (by decide) (cap := 1) (by decide) (by decide) (by decide) (by decide)
  obtain ⟨b, gb⟩ : ∃ z, z = h0.size := ⟨_, rfl⟩
  rw [← gb] at Aa sta_
  have V0 : Arv Z ha b ka .double (1 : Int32) [] (.double (FP.l2d 0)) := Arv.newD Aa (by decide)
  have Vp : Arv Z ha b ka .double (1 : Int32) (List.replicate 1 (.double (FP.l2d 0))) (.double (FP.l2d 0)) := V0.pad (pad_rep [] (.double (FP.l2d 0)) 1)
  have g_b : n0 ≤ b := Nat.le_trans Z0 (Nat.le_of_eq gb.symm)
  have sz_b : h0.size ≤ b := Nat.le_of_eq gb.symm
  have Ka : Keep h0 ha [] := (Keep.refl h0 []).ext Ea
  obtain ⟨cl0, Ar0, q0, Sz0, M0, H0, U0⟩ := Vp
  obtain ⟨Td0, hd0, Xd0, ed0, Wd0, std0⟩ := stD Xa hx hZ ea Ar0 (j := (0 : Int32)) (inb_of Sz0 (by decide)) (g := (mkF m 97 #[.val (.int p1), .val (.int p2), .val (.int p3), .val (.int p4), .val (.int p5), .val (.int (0 : Int32)), .val (.ref wMIN), .val (.int (1 : Int32)), .val (.long x0), .second, .val (.long (x0 + y1)), .second, .val (.long ((x0 + y1) + y2)), .second, uu, uu, uu, uu, uu, uu, uu, uu, uu] [(.double (FP.l2d x0)), (.int (0 : Int32)), (.ref b), (.ref b)])) rfl rfl (hb hby at_97)
  have V1 := Arv.set Ar0 q0 Sz0 M0 H0 U0 (v := (.double (FP.l2d x0))) rfl Wd0 0 rfl (by simp)
  have Nd0 := Fr.snoc Xd0 N0 g_b
  have Kd0 : Keep h0 hd0 [] := Ka.wr Wd0 (Or.inr sz_b)
  have KK : Keep h0 hd0 [] := Kd0
  obtain ⟨cl, Ar, -, Sz, Nn, Hh, -⟩ := V1
  have hat0 : cl.slots[0]? = some (.double (FP.l2d x0)) := Hh 0 (by rw [Sz]; decide)
  obtain ⟨cq, kq, qa, qb, qc⟩ := isOf hZ ed0 (E_m.keep KK)
  obtain ⟨_, _, ⟨Tc, Lc, kc, nc⟩, -, Xc, ⟨Lcc, hQc, lc, yc, zc⟩, stc⟩ := Xd0.virtualBack hx (y := (⟨"com/example/tiebreaker/tiebreaker/engine/search/DecayFunction$MultiValueMode", "pick", "([D)D"⟩ : MethodName)) (z := (⟨"com/example/tiebreaker/tiebreaker/engine/search/DecayFunction$MultiValueMode", "pick", "([D)D"⟩ : MethodName)) hown (mvT hZ (hw _ (List.mem_of_getElem? (i := 6) rfl))) (mvT hZ (hw _ (List.mem_of_getElem? (i := 7) rfl))) (notFace_of_selects (args := #[]) (mvT hZ (hw _ (List.mem_of_getElem? (i := 9) rfl)))) (mvT hZ (hw _ (List.mem_of_getElem? (i := 9) rfl))) (mvT hZ (hw _ (List.mem_of_getElem? (i := 8) rfl))) (by decide) (backOf (W := 0) (rm1_MIN_1 l Z a0 hw [] b wMIN wMAX wAVG wSUM x0 hd0 n0 (Nat.le_trans Z0 KK.1) (own_sta S_MIN KK) (own_sta S_MAX KK) (own_sta S_AVG KK) (own_sta S_SUM KK) nXI nAI nAX nSI nSX nAS cl Ar Sz Nn hat0 b0) hZ (hw _ (List.mem_of_getElem? (i := 10) rfl)) (hw _ (List.mem_of_getElem? (i := 1) rfl)) (by decide) (by decide)) qa qc (g := (mkF m 267 #[.val (.int p1), .val (.int p2), .val (.int p3), .val (.int p4), .val (.int p5), .val (.int (0 : Int32)), .val (.ref wMIN), .val (.int (1 : Int32)), .val (.long x0), .second, .val (.long (x0 + y1)), .second, .val (.long ((x0 + y1) + y2)), .second, .val (.ref b), .val (.long x0), .second, .val (.long x0), .second, .val (.double (FP.l2d x0)), .second, uu, uu] [(.ref b), (.ref wMIN)])) rfl (by rw [hml]; rfl) (Steps.refl _) (argsL := [(.ref b)]) (rest := []) (lenOf pd_0 rfl) rfl (by show 2 * 0 + _ ≤ _; exact Nat.le_of_eq rfl) (hb hby at_267) (fun _ _ => ⟨rfl, ed0, (by decide : 0 + 1 + 0 ≤ _), (by decide : 0 + 1 + 0 ≤ _)⟩)
  dsimp only [Pt.U, Pt.locs, Pt.cells, Pt.slots] at Xc lc yc zc stc hQc
  subst lc yc zc
  obtain ⟨rfl, Ncq, ec⟩ := hQc
  have Nc := Fr.app Nd0 Ncq
  obtain ⟨fs, hr, hrun, hended, hW, hsame⟩ := Xc.leave (v := some (.int (1 : Int32))) (fun h => by rw [Bd.returns] at h; cases h)
  refine ⟨_, _, pre0 _ ?_, hrun, hended, _, _, rfl, ?_, ⟨_, rfl⟩, hW, hsame.mono (by decide) (by decide)⟩
  · show Steps p.tables e below (s₁.setTop (mkF m 0 #[.val (.int p1), .val (.int p2), .val (.int p3), .val (.int p4), .val (.int p5), uu, uu, uu, uu, uu, uu, uu, uu, uu, uu, uu, uu, uu, uu, uu, uu, uu, uu] [])) _
    refine XS.iloadN X0.here hx rfl (hb hby at_0) rfl ?_
    show Steps p.tables e below (s₁.setTop (mkF m 1 #[.val (.int p1), .val (.int p2), .val (.int p3), .val (.int p4), .val (.int p5), uu, uu, uu, uu, uu, uu, uu, uu, uu, uu, uu, uu, uu, uu, uu, uu, uu, uu] [(.int p1)])) _
    refine XS.iconst X0.here hx rfl (hb hby at_1) ?_
    show Steps p.tables e below (s₁.setTop (mkF m 2 #[.val (.int p1), .val (.int p2), .val (.int p3), .val (.int p4), .val (.int p5), uu, uu, uu, uu, uu, uu, uu, uu, uu, uu, uu, uu, uu, uu, uu, uu, uu, uu] [(.int (3 : Int32)), (.int p1)])) _
    refine XS.iand X0.here hx rfl (hb hby at_2) rfl ?_
    show Steps p.tables e below (s₁.setTop (mkF m 3 #[.val (.int p1), .val (.int p2), .val (.int p3), .val (.int p4), .val (.int p5), uu, uu, uu, uu, uu, uu, uu, uu, uu, uu, uu, uu, uu, uu, uu, uu, uu, uu] [(.int (p1 &&& (3 : Int32)))])) _
    rw [hm]
    show Steps p.tables e below (s₁.setTop (mkF m 3 #[.val (.int p1), .val (.int p2), .val (.int p3), .val (.int p4), .val (.int p5), uu, uu, uu, uu, uu, uu, uu, uu, uu, uu, uu, uu, uu, uu, uu, uu, uu, uu] [(.int (0 : Int32))])) _
    refine XS.istore X0.here hx rfl (hb hby at_3) rfl (l' := #[.val (.int p1), .val (.int p2), .val (.int p3), .val (.int p4), .val (.int p5), .val (.int (0 : Int32)), uu, uu, uu, uu, uu, uu, uu, uu, uu, uu, uu, uu, uu, uu, uu, uu, uu]) rfl ?_
    show Steps p.tables e below (s₁.setTop (mkF m 5 #[.val (.int p1), .val (.int p2), .val (.int p3), .val (.int p4), .val (.int p5), .val (.int (0 : Int32)), uu, uu, uu, uu, uu, uu, uu, uu, uu, uu, uu, uu, uu, uu, uu, uu, uu] [])) _
    refine XS.iload X0.here hx rfl (hb hby at_5) rfl ?_
    show Steps p.tables e below (s₁.setTop (mkF m 7 #[.val (.int p1), .val (.int p2), .val (.int p3), .val (.int p4), .val (.int p5), .val (.int (0 : Int32)), uu, uu, uu, uu, uu, uu, uu, uu, uu, uu, uu, uu, uu, uu, uu, uu, uu] [(.int (0 : Int32))])) _
    refine XS.ifNo X0.here hx rfl (hb hby at_7) rfl ((if0 _ _).trans (teq (by decide : (0 : Int32) = (0 : Int32))).2) ?_
    show Steps p.tables e below (s₁.setTop (mkF m 10 #[.val (.int p1), .val (.int p2), .val (.int p3), .val (.int p4), .val (.int p5), .val (.int (0 : Int32)), uu, uu, uu, uu, uu, uu, uu, uu, uu, uu, uu, uu, uu, uu, uu, uu, uu] [])) _
    refine st50 _ ?_
    show Steps p.tables e below (T50.setTop (mkF m 13 #[.val (.int p1), .val (.int p2), .val (.int p3), .val (.int p4), .val (.int p5), .val (.int (0 : Int32)), uu, uu, uu, uu, uu, uu, uu, uu, uu, uu, uu, uu, uu, uu, uu, uu, uu] [(.ref wMIN)])) _
    refine XS.goto X50.here hx rfl (pc0 := 13) (pc' := 43) rfl (hb hby at_13) (by decide) (by decide) ?_
    show Steps p.tables e below (T50.setTop (mkF m 43 #[.val (.int p1), .val (.int p2), .val (.int p3), .val (.int p4), .val (.int p5), .val (.int (0 : Int32)), uu, uu, uu, uu, uu, uu, uu, uu, uu, uu, uu, uu, uu, uu, uu, uu, uu] [(.ref wMIN)])) _
    refine XS.astore X50.here hx rfl (hb hby at_43) rfl rfl (l' := #[.val (.int p1), .val (.int p2), .val (.int p3), .val (.int p4), .val (.int p5), .val (.int (0 : Int32)), .val (.ref wMIN), uu, uu, uu, uu, uu, uu, uu, uu, uu, uu, uu, uu, uu, uu, uu, uu]) rfl ?_
    show Steps p.tables e below (T50.setTop (mkF m 45 #[.val (.int p1), .val (.int p2), .val (.int p3), .val (.int p4), .val (.int p5), .val (.int (0 : Int32)), .val (.ref wMIN), uu, uu, uu, uu, uu, uu, uu, uu, uu, uu, uu, uu, uu, uu, uu, uu] [])) _
    refine XS.iloadN X50.here hx rfl (hb hby at_45) rfl ?_
    show Steps p.tables e below (T50.setTop (mkF m 46 #[.val (.int p1), .val (.int p2), .val (.int p3), .val (.int p4), .val (.int p5), .val (.int (0 : Int32)), .val (.ref wMIN), uu, uu, uu, uu, uu, uu, uu, uu, uu, uu, uu, uu, uu, uu, uu, uu] [(.int p2)])) _
    refine X50.ldcInt hx hown (mvT hZ (hw _ (List.mem_of_getElem? (i := 3) rfl))) (g := (mkF m 46 #[.val (.int p1), .val (.int p2), .val (.int p3), .val (.int p4), .val (.int p5), .val (.int (0 : Int32)), .val (.ref wMIN), uu, uu, uu, uu, uu, uu, uu, uu, uu, uu, uu, uu, uu, uu, uu, uu] [(.int p2)])) rfl (hb hby at_46) _ ?_
    show Steps p.tables e below (T50.setTop (mkF m 48 #[.val (.int p1), .val (.int p2), .val (.int p3), .val (.int p4), .val (.int p5), .val (.int (0 : Int32)), .val (.ref wMIN), uu, uu, uu, uu, uu, uu, uu, uu, uu, uu, uu, uu, uu, uu, uu, uu] [(.int (2147483647 : Int32)), (.int p2)])) _
    refine XS.iand X50.here hx rfl (hb hby at_48) rfl ?_
    show Steps p.tables e below (T50.setTop (mkF m 49 #[.val (.int p1), .val (.int p2), .val (.int p3), .val (.int p4), .val (.int p5), .val (.int (0 : Int32)), .val (.ref wMIN), uu, uu, uu, uu, uu, uu, uu, uu, uu, uu, uu, uu, uu, uu, uu, uu] [(.int (p2 &&& (2147483647 : Int32)))])) _
    refine XS.iconst X50.here hx rfl (hb hby at_49) ?_
    show Steps p.tables e below (T50.setTop (mkF m 50 #[.val (.int p1), .val (.int p2), .val (.int p3), .val (.int p4), .val (.int p5), .val (.int (0 : Int32)), .val (.ref wMIN), uu, uu, uu, uu, uu, uu, uu, uu, uu, uu, uu, uu, uu, uu, uu, uu] [(.int (3 : Int32)), (.int (p2 &&& (2147483647 : Int32)))])) _
    refine iremM X50 hx rfl (hb hby at_50) rfl (by decide) ?_
    show Steps p.tables e below (T50.setTop (mkF m 51 #[.val (.int p1), .val (.int p2), .val (.int p3), .val (.int p4), .val (.int p5), .val (.int (0 : Int32)), .val (.ref wMIN), uu, uu, uu, uu, uu, uu, uu, uu, uu, uu, uu, uu, uu, uu, uu, uu] [(.int ((p2 &&& (2147483647 : Int32)) % (3 : Int32)))])) _
    refine XS.iconst X50.here hx rfl (hb hby at_51) ?_
    show Steps p.tables e below (T50.setTop (mkF m 52 #[.val (.int p1), .val (.int p2), .val (.int p3), .val (.int p4), .val (.int p5), .val (.int (0 : Int32)), .val (.ref wMIN), uu, uu, uu, uu, uu, uu, uu, uu, uu, uu, uu, uu, uu, uu, uu, uu] [(.int (1 : Int32)), (.int ((p2 &&& (2147483647 : Int32)) % (3 : Int32)))])) _
    refine XS.iadd X50.here hx rfl (hb hby at_52) rfl ?_
    show Steps p.tables e below (T50.setTop (mkF m 53 #[.val (.int p1), .val (.int p2), .val (.int p3), .val (.int p4), .val (.int p5), .val (.int (0 : Int32)), .val (.ref wMIN), uu, uu, uu, uu, uu, uu, uu, uu, uu, uu, uu, uu, uu, uu, uu, uu] [(.int (((p2 &&& (2147483647 : Int32)) % (3 : Int32)) + (1 : Int32)))])) _
    rw [hn]
    show Steps p.tables e below (T50.setTop (mkF m 53 #[.val (.int p1), .val (.int p2), .val (.int p3), .val (.int p4), .val (.int p5), .val (.int (0 : Int32)), .val (.ref wMIN), uu, uu, uu, uu, uu, uu, uu, uu, uu, uu, uu, uu, uu, uu, uu, uu] [(.int (1 : Int32))])) _
    refine XS.istore X50.here hx rfl (hb hby at_53) rfl (l' := #[.val (.int p1), .val (.int p2), .val (.int p3), .val (.int p4), .val (.int p5), .val (.int (0 : Int32)), .val (.ref wMIN), .val (.int (1 : Int32)), uu, uu, uu, uu, uu, uu, uu, uu, uu, uu, uu, uu, uu, uu, uu]) rfl ?_
    show Steps p.tables e below (T50.setTop (mkF m 55 #[.val (.int p1), .val (.int p2), .val (.int p3), .val (.int p4), .val (.int p5), .val (.int (0 : Int32)), .val (.ref wMIN), .val (.int (1 : Int32)), uu, uu, uu, uu, uu, uu, uu, uu, uu, uu, uu, uu, uu, uu, uu] [])) _
    refine XS.iloadN X50.here hx rfl (hb hby at_55) rfl ?_
    show Steps p.tables e below (T50.setTop (mkF m 56 #[.val (.int p1), .val (.int p2), .val (.int p3), .val (.int p4), .val (.int p5), .val (.int (0 : Int32)), .val (.ref wMIN), .val (.int (1 : Int32)), uu, uu, uu, uu, uu, uu, uu, uu, uu, uu, uu, uu, uu, uu, uu] [(.int p3)])) _
    refine X50.ldcInt hx hown (mvT hZ (hw _ (List.mem_of_getElem? (i := 4) rfl))) (g := (mkF m 56 #[.val (.int p1), .val (.int p2), .val (.int p3), .val (.int p4), .val (.int p5), .val (.int (0 : Int32)), .val (.ref wMIN), .val (.int (1 : Int32)), uu, uu, uu, uu, uu, uu, uu, uu, uu, uu, uu, uu, uu, uu, uu] [(.int p3)])) rfl (hb hby at_56) _ ?_
    show Steps p.tables e below (T50.setTop (mkF m 58 #[.val (.int p1), .val (.int p2), .val (.int p3), .val (.int p4), .val (.int p5), .val (.int (0 : Int32)), .val (.ref wMIN), .val (.int (1 : Int32)), uu, uu, uu, uu, uu, uu, uu, uu, uu, uu, uu, uu, uu, uu, uu] [(.int (1048575 : Int32)), (.int p3)])) _
    refine XS.iand X50.here hx rfl (hb hby at_58) rfl ?_
    show Steps p.tables e below (T50.setTop (mkF m 59 #[.val (.int p1), .val (.int p2), .val (.int p3), .val (.int p4), .val (.int p5), .val (.int (0 : Int32)), .val (.ref wMIN), .val (.int (1 : Int32)), uu, uu, uu, uu, uu, uu, uu, uu, uu, uu, uu, uu, uu, uu, uu] [(.int (p3 &&& (1048575 : Int32)))])) _
    refine XS.i2l X50.here hx rfl (hb hby at_59) rfl ?_
    show Steps p.tables e below (T50.setTop (mkF m 60 #[.val (.int p1), .val (.int p2), .val (.int p3), .val (.int p4), .val (.int p5), .val (.int (0 : Int32)), .val (.ref wMIN), .val (.int (1 : Int32)), uu, uu, uu, uu, uu, uu, uu, uu, uu, uu, uu, uu, uu, uu, uu] [(.long ((p3 &&& (1048575 : Int32)).toInt64))])) _
    rw [← hx0]
    show Steps p.tables e below (T50.setTop (mkF m 60 #[.val (.int p1), .val (.int p2), .val (.int p3), .val (.int p4), .val (.int p5), .val (.int (0 : Int32)), .val (.ref wMIN), .val (.int (1 : Int32)), uu, uu, uu, uu, uu, uu, uu, uu, uu, uu, uu, uu, uu, uu, uu] [(.long x0)])) _
    refine XS.lstore X50.here hx rfl (hb hby at_60) rfl (l' := #[.val (.int p1), .val (.int p2), .val (.int p3), .val (.int p4), .val (.int p5), .val (.int (0 : Int32)), .val (.ref wMIN), .val (.int (1 : Int32)), .val (.long x0), .second, uu, uu, uu, uu, uu, uu, uu, uu, uu, uu, uu, uu, uu]) rfl ?_
    show Steps p.tables e below (T50.setTop (mkF m 62 #[.val (.int p1), .val (.int p2), .val (.int p3), .val (.int p4), .val (.int p5), .val (.int (0 : Int32)), .val (.ref wMIN), .val (.int (1 : Int32)), .val (.long x0), .second, uu, uu, uu, uu, uu, uu, uu, uu, uu, uu, uu, uu, uu] [])) _
    refine XS.lload X50.here hx rfl (hb hby at_62) rfl ?_
    show Steps p.tables e below (T50.setTop (mkF m 64 #[.val (.int p1), .val (.int p2), .val (.int p3), .val (.int p4), .val (.int p5), .val (.int (0 : Int32)), .val (.ref wMIN), .val (.int (1 : Int32)), .val (.long x0), .second, uu, uu, uu, uu, uu, uu, uu, uu, uu, uu, uu, uu, uu] [(.long x0)])) _
    refine XS.iloadN X50.here hx rfl (hb hby at_64) rfl ?_
    show Steps p.tables e below (T50.setTop (mkF m 65 #[.val (.int p1), .val (.int p2), .val (.int p3), .val (.int p4), .val (.int p5), .val (.int (0 : Int32)), .val (.ref wMIN), .val (.int (1 : Int32)), .val (.long x0), .second, uu, uu, uu, uu, uu, uu, uu, uu, uu, uu, uu, uu, uu] [(.int p4), (.long x0)])) _
    refine X50.ldcInt hx hown (mvT hZ (hw _ (List.mem_of_getElem? (i := 4) rfl))) (g := (mkF m 65 #[.val (.int p1), .val (.int p2), .val (.int p3), .val (.int p4), .val (.int p5), .val (.int (0 : Int32)), .val (.ref wMIN), .val (.int (1 : Int32)), .val (.long x0), .second, uu, uu, uu, uu, uu, uu, uu, uu, uu, uu, uu, uu, uu] [(.int p4), (.long x0)])) rfl (hb hby at_65) _ ?_
    show Steps p.tables e below (T50.setTop (mkF m 67 #[.val (.int p1), .val (.int p2), .val (.int p3), .val (.int p4), .val (.int p5), .val (.int (0 : Int32)), .val (.ref wMIN), .val (.int (1 : Int32)), .val (.long x0), .second, uu, uu, uu, uu, uu, uu, uu, uu, uu, uu, uu, uu, uu] [(.int (1048575 : Int32)), (.int p4), (.long x0)])) _
    refine XS.iand X50.here hx rfl (hb hby at_67) rfl ?_
    show Steps p.tables e below (T50.setTop (mkF m 68 #[.val (.int p1), .val (.int p2), .val (.int p3), .val (.int p4), .val (.int p5), .val (.int (0 : Int32)), .val (.ref wMIN), .val (.int (1 : Int32)), .val (.long x0), .second, uu, uu, uu, uu, uu, uu, uu, uu, uu, uu, uu, uu, uu] [(.int (p4 &&& (1048575 : Int32))), (.long x0)])) _
    refine XS.i2l X50.here hx rfl (hb hby at_68) rfl ?_
    show Steps p.tables e below (T50.setTop (mkF m 69 #[.val (.int p1), .val (.int p2), .val (.int p3), .val (.int p4), .val (.int p5), .val (.int (0 : Int32)), .val (.ref wMIN), .val (.int (1 : Int32)), .val (.long x0), .second, uu, uu, uu, uu, uu, uu, uu, uu, uu, uu, uu, uu, uu] [(.long ((p4 &&& (1048575 : Int32)).toInt64)), (.long x0)])) _
    rw [← hy1]
    show Steps p.tables e below (T50.setTop (mkF m 69 #[.val (.int p1), .val (.int p2), .val (.int p3), .val (.int p4), .val (.int p5), .val (.int (0 : Int32)), .val (.ref wMIN), .val (.int (1 : Int32)), .val (.long x0), .second, uu, uu, uu, uu, uu, uu, uu, uu, uu, uu, uu, uu, uu] [(.long y1), (.long x0)])) _
    refine XS.ladd X50.here hx rfl (hb hby at_69) rfl ?_
    show Steps p.tables e below (T50.setTop (mkF m 70 #[.val (.int p1), .val (.int p2), .val (.int p3), .val (.int p4), .val (.int p5), .val (.int (0 : Int32)), .val (.ref wMIN), .val (.int (1 : Int32)), .val (.long x0), .second, uu, uu, uu, uu, uu, uu, uu, uu, uu, uu, uu, uu, uu] [(.long (x0 + y1))])) _
    refine XS.lstore X50.here hx rfl (hb hby at_70) rfl (l' := #[.val (.int p1), .val (.int p2), .val (.int p3), .val (.int p4), .val (.int p5), .val (.int (0 : Int32)), .val (.ref wMIN), .val (.int (1 : Int32)), .val (.long x0), .second, .val (.long (x0 + y1)), .second, uu, uu, uu, uu, uu, uu, uu, uu, uu, uu, uu]) rfl ?_
    show Steps p.tables e below (T50.setTop (mkF m 72 #[.val (.int p1), .val (.int p2), .val (.int p3), .val (.int p4), .val (.int p5), .val (.int (0 : Int32)), .val (.ref wMIN), .val (.int (1 : Int32)), .val (.long x0), .second, .val (.long (x0 + y1)), .second, uu, uu, uu, uu, uu, uu, uu, uu, uu, uu, uu] [])) _
    refine XS.lload X50.here hx rfl (hb hby at_72) rfl ?_
    show Steps p.tables e below (T50.setTop (mkF m 74 #[.val (.int p1), .val (.int p2), .val (.int p3), .val (.int p4), .val (.int p5), .val (.int (0 : Int32)), .val (.ref wMIN), .val (.int (1 : Int32)), .val (.long x0), .second, .val (.long (x0 + y1)), .second, uu, uu, uu, uu, uu, uu, uu, uu, uu, uu, uu] [(.long (x0 + y1))])) _
    refine XS.iload X50.here hx rfl (hb hby at_74) rfl ?_
    show Steps p.tables e below (T50.setTop (mkF m 76 #[.val (.int p1), .val (.int p2), .val (.int p3), .val (.int p4), .val (.int p5), .val (.int (0 : Int32)), .val (.ref wMIN), .val (.int (1 : Int32)), .val (.long x0), .second, .val (.long (x0 + y1)), .second, uu, uu, uu, uu, uu, uu, uu, uu, uu, uu, uu] [(.int p5), (.long (x0 + y1))])) _
    refine X50.ldcInt hx hown (mvT hZ (hw _ (List.mem_of_getElem? (i := 4) rfl))) (g := (mkF m 76 #[.val (.int p1), .val (.int p2), .val (.int p3), .val (.int p4), .val (.int p5), .val (.int (0 : Int32)), .val (.ref wMIN), .val (.int (1 : Int32)), .val (.long x0), .second, .val (.long (x0 + y1)), .second, uu, uu, uu, uu, uu, uu, uu, uu, uu, uu, uu] [(.int p5), (.long (x0 + y1))])) rfl (hb hby at_76) _ ?_
    show Steps p.tables e below (T50.setTop (mkF m 78 #[.val (.int p1), .val (.int p2), .val (.int p3), .val (.int p4), .val (.int p5), .val (.int (0 : Int32)), .val (.ref wMIN), .val (.int (1 : Int32)), .val (.long x0), .second, .val (.long (x0 + y1)), .second, uu, uu, uu, uu, uu, uu, uu, uu, uu, uu, uu] [(.int (1048575 : Int32)), (.int p5), (.long (x0 + y1))])) _
    refine XS.iand X50.here hx rfl (hb hby at_78) rfl ?_
    show Steps p.tables e below (T50.setTop (mkF m 79 #[.val (.int p1), .val (.int p2), .val (.int p3), .val (.int p4), .val (.int p5), .val (.int (0 : Int32)), .val (.ref wMIN), .val (.int (1 : Int32)), .val (.long x0), .second, .val (.long (x0 + y1)), .second, uu, uu, uu, uu, uu, uu, uu, uu, uu, uu, uu] [(.int (p5 &&& (1048575 : Int32))), (.long (x0 + y1))])) _
    refine XS.i2l X50.here hx rfl (hb hby at_79) rfl ?_
    show Steps p.tables e below (T50.setTop (mkF m 80 #[.val (.int p1), .val (.int p2), .val (.int p3), .val (.int p4), .val (.int p5), .val (.int (0 : Int32)), .val (.ref wMIN), .val (.int (1 : Int32)), .val (.long x0), .second, .val (.long (x0 + y1)), .second, uu, uu, uu, uu, uu, uu, uu, uu, uu, uu, uu] [(.long ((p5 &&& (1048575 : Int32)).toInt64)), (.long (x0 + y1))])) _
    rw [← hy2]
    show Steps p.tables e below (T50.setTop (mkF m 80 #[.val (.int p1), .val (.int p2), .val (.int p3), .val (.int p4), .val (.int p5), .val (.int (0 : Int32)), .val (.ref wMIN), .val (.int (1 : Int32)), .val (.long x0), .second, .val (.long (x0 + y1)), .second, uu, uu, uu, uu, uu, uu, uu, uu, uu, uu, uu] [(.long y2), (.long (x0 + y1))])) _
    refine XS.ladd X50.here hx rfl (hb hby at_80) rfl ?_
    show Steps p.tables e below (T50.setTop (mkF m 81 #[.val (.int p1), .val (.int p2), .val (.int p3), .val (.int p4), .val (.int p5), .val (.int (0 : Int32)), .val (.ref wMIN), .val (.int (1 : Int32)), .val (.long x0), .second, .val (.long (x0 + y1)), .second, uu, uu, uu, uu, uu, uu, uu, uu, uu, uu, uu] [(.long ((x0 + y1) + y2))])) _
    refine XS.lstore X50.here hx rfl (hb hby at_81) rfl (l' := #[.val (.int p1), .val (.int p2), .val (.int p3), .val (.int p4), .val (.int p5), .val (.int (0 : Int32)), .val (.ref wMIN), .val (.int (1 : Int32)), .val (.long x0), .second, .val (.long (x0 + y1)), .second, .val (.long ((x0 + y1) + y2)), .second, uu, uu, uu, uu, uu, uu, uu, uu, uu]) rfl ?_
    show Steps p.tables e below (T50.setTop (mkF m 83 #[.val (.int p1), .val (.int p2), .val (.int p3), .val (.int p4), .val (.int p5), .val (.int (0 : Int32)), .val (.ref wMIN), .val (.int (1 : Int32)), .val (.long x0), .second, .val (.long (x0 + y1)), .second, .val (.long ((x0 + y1) + y2)), .second, uu, uu, uu, uu, uu, uu, uu, uu, uu] [])) _
    refine XS.iload X50.here hx rfl (hb hby at_83) rfl ?_
    show Steps p.tables e below (T50.setTop (mkF m 85 #[.val (.int p1), .val (.int p2), .val (.int p3), .val (.int p4), .val (.int p5), .val (.int (0 : Int32)), .val (.ref wMIN), .val (.int (1 : Int32)), .val (.long x0), .second, .val (.long (x0 + y1)), .second, .val (.long ((x0 + y1) + y2)), .second, uu, uu, uu, uu, uu, uu, uu, uu, uu] [(.int (1 : Int32))])) _
    refine XS.iconst X50.here hx rfl (hb hby at_85) ?_
    show Steps p.tables e below (T50.setTop (mkF m 86 #[.val (.int p1), .val (.int p2), .val (.int p3), .val (.int p4), .val (.int p5), .val (.int (0 : Int32)), .val (.ref wMIN), .val (.int (1 : Int32)), .val (.long x0), .second, .val (.long (x0 + y1)), .second, .val (.long ((x0 + y1) + y2)), .second, uu, uu, uu, uu, uu, uu, uu, uu, uu] [(.int (1 : Int32)), (.int (1 : Int32))])) _
    refine XS.icmpNo X50.here hx rfl (hb hby at_86) rfl (teq (by decide : (1 : Int32) = (1 : Int32))).2 ?_
    show Steps p.tables e below (T50.setTop (mkF m 89 #[.val (.int p1), .val (.int p2), .val (.int p3), .val (.int p4), .val (.int p5), .val (.int (0 : Int32)), .val (.ref wMIN), .val (.int (1 : Int32)), .val (.long x0), .second, .val (.long (x0 + y1)), .second, .val (.long ((x0 + y1) + y2)), .second, uu, uu, uu, uu, uu, uu, uu, uu, uu] [])) _
    refine XS.iconst X50.here hx rfl (hb hby at_89) ?_
    show Steps p.tables e below (T50.setTop (mkF m 90 #[.val (.int p1), .val (.int p2), .val (.int p3), .val (.int p4), .val (.int p5), .val (.int (0 : Int32)), .val (.ref wMIN), .val (.int (1 : Int32)), .val (.long x0), .second, .val (.long (x0 + y1)), .second, .val (.long ((x0 + y1) + y2)), .second, uu, uu, uu, uu, uu, uu, uu, uu, uu] [(.int (1 : Int32))])) _
    refine sta_ _ ?_
    show Steps p.tables e below (Ta.setTop (mkF m 92 #[.val (.int p1), .val (.int p2), .val (.int p3), .val (.int p4), .val (.int p5), .val (.int (0 : Int32)), .val (.ref wMIN), .val (.int (1 : Int32)), .val (.long x0), .second, .val (.long (x0 + y1)), .second, .val (.long ((x0 + y1) + y2)), .second, uu, uu, uu, uu, uu, uu, uu, uu, uu] [(.ref b)])) _
    refine XS.dup Xa.here hx rfl (hb hby at_92) rfl rfl ?_
    show Steps p.tables e below (Ta.setTop (mkF m 93 #[.val (.int p1), .val (.int p2), .val (.int p3), .val (.int p4), .val (.int p5), .val (.int (0 : Int32)), .val (.ref wMIN), .val (.int (1 : Int32)), .val (.long x0), .second, .val (.long (x0 + y1)), .second, .val (.long ((x0 + y1) + y2)), .second, uu, uu, uu, uu, uu, uu, uu, uu, uu] [(.ref b), (.ref b)])) _
    refine XS.iconst Xa.here hx rfl (hb hby at_93) ?_
    show Steps p.tables e below (Ta.setTop (mkF m 94 #[.val (.int p1), .val (.int p2), .val (.int p3), .val (.int p4), .val (.int p5), .val (.int (0 : Int32)), .val (.ref wMIN), .val (.int (1 : Int32)), .val (.long x0), .second, .val (.long (x0 + y1)), .second, .val (.long ((x0 + y1) + y2)), .second, uu, uu, uu, uu, uu, uu, uu, uu, uu] [(.int (0 : Int32)), (.ref b), (.ref b)])) _
    refine XS.lload Xa.here hx rfl (hb hby at_94) rfl ?_
    show Steps p.tables e below (Ta.setTop (mkF m 96 #[.val (.int p1), .val (.int p2), .val (.int p3), .val (.int p4), .val (.int p5), .val (.int (0 : Int32)), .val (.ref wMIN), .val (.int (1 : Int32)), .val (.long x0), .second, .val (.long (x0 + y1)), .second, .val (.long ((x0 + y1) + y2)), .second, uu, uu, uu, uu, uu, uu, uu, uu, uu] [(.long x0), (.int (0 : Int32)), (.ref b), (.ref b)])) _
    refine XS.l2dS Xa.here hx rfl (hb hby at_96) rfl (v := FP.l2d x0) rfl ?_
    show Steps p.tables e below (Ta.setTop (mkF m 97 #[.val (.int p1), .val (.int p2), .val (.int p3), .val (.int p4), .val (.int p5), .val (.int (0 : Int32)), .val (.ref wMIN), .val (.int (1 : Int32)), .val (.long x0), .second, .val (.long (x0 + y1)), .second, .val (.long ((x0 + y1) + y2)), .second, uu, uu, uu, uu, uu, uu, uu, uu, uu] [(.double (FP.l2d x0)), (.int (0 : Int32)), (.ref b), (.ref b)])) _
    refine std0 _ ?_
    show Steps p.tables e below (Td0.setTop (mkF m 98 #[.val (.int p1), .val (.int p2), .val (.int p3), .val (.int p4), .val (.int p5), .val (.int (0 : Int32)), .val (.ref wMIN), .val (.int (1 : Int32)), .val (.long x0), .second, .val (.long (x0 + y1)), .second, .val (.long ((x0 + y1) + y2)), .second, uu, uu, uu, uu, uu, uu, uu, uu, uu] [(.ref b)])) _
    refine XS.astore Xd0.here hx rfl (hb hby at_98) rfl rfl (l' := #[.val (.int p1), .val (.int p2), .val (.int p3), .val (.int p4), .val (.int p5), .val (.int (0 : Int32)), .val (.ref wMIN), .val (.int (1 : Int32)), .val (.long x0), .second, .val (.long (x0 + y1)), .second, .val (.long ((x0 + y1) + y2)), .second, .val (.ref b), uu, uu, uu, uu, uu, uu, uu, uu]) rfl ?_
    show Steps p.tables e below (Td0.setTop (mkF m 100 #[.val (.int p1), .val (.int p2), .val (.int p3), .val (.int p4), .val (.int p5), .val (.int (0 : Int32)), .val (.ref wMIN), .val (.int (1 : Int32)), .val (.long x0), .second, .val (.long (x0 + y1)), .second, .val (.long ((x0 + y1) + y2)), .second, .val (.ref b), uu, uu, uu, uu, uu, uu, uu, uu] [])) _
    refine XS.goto Xd0.here hx rfl (pc0 := 100) (pc' := 152) rfl (hb hby at_100) (by decide) (by decide) ?_
    show Steps p.tables e below (Td0.setTop (mkF m 152 #[.val (.int p1), .val (.int p2), .val (.int p3), .val (.int p4), .val (.int p5), .val (.int (0 : Int32)), .val (.ref wMIN), .val (.int (1 : Int32)), .val (.long x0), .second, .val (.long (x0 + y1)), .second, .val (.long ((x0 + y1) + y2)), .second, .val (.ref b), uu, uu, uu, uu, uu, uu, uu, uu] [])) _
    refine XS.iload Xd0.here hx rfl (hb hby at_152) rfl ?_
    show Steps p.tables e below (Td0.setTop (mkF m 154 #[.val (.int p1), .val (.int p2), .val (.int p3), .val (.int p4), .val (.int p5), .val (.int (0 : Int32)), .val (.ref wMIN), .val (.int (1 : Int32)), .val (.long x0), .second, .val (.long (x0 + y1)), .second, .val (.long ((x0 + y1) + y2)), .second, .val (.ref b), uu, uu, uu, uu, uu, uu, uu, uu] [(.int (1 : Int32))])) _
    refine XS.iconst Xd0.here hx rfl (hb hby at_154) ?_
    show Steps p.tables e below (Td0.setTop (mkF m 155 #[.val (.int p1), .val (.int p2), .val (.int p3), .val (.int p4), .val (.int p5), .val (.int (0 : Int32)), .val (.ref wMIN), .val (.int (1 : Int32)), .val (.long x0), .second, .val (.long (x0 + y1)), .second, .val (.long ((x0 + y1) + y2)), .second, .val (.ref b), uu, uu, uu, uu, uu, uu, uu, uu] [(.int (1 : Int32)), (.int (1 : Int32))])) _
    refine XS.icmpNo Xd0.here hx rfl (hb hby at_155) rfl (teq (by decide : (1 : Int32) = (1 : Int32))).2 ?_
    show Steps p.tables e below (Td0.setTop (mkF m 158 #[.val (.int p1), .val (.int p2), .val (.int p3), .val (.int p4), .val (.int p5), .val (.int (0 : Int32)), .val (.ref wMIN), .val (.int (1 : Int32)), .val (.long x0), .second, .val (.long (x0 + y1)), .second, .val (.long ((x0 + y1) + y2)), .second, .val (.ref b), uu, uu, uu, uu, uu, uu, uu, uu] [])) _
    refine XS.lload Xd0.here hx rfl (hb hby at_158) rfl ?_
    show Steps p.tables e below (Td0.setTop (mkF m 160 #[.val (.int p1), .val (.int p2), .val (.int p3), .val (.int p4), .val (.int p5), .val (.int (0 : Int32)), .val (.ref wMIN), .val (.int (1 : Int32)), .val (.long x0), .second, .val (.long (x0 + y1)), .second, .val (.long ((x0 + y1) + y2)), .second, .val (.ref b), uu, uu, uu, uu, uu, uu, uu, uu] [(.long x0)])) _
    refine XS.goto Xd0.here hx rfl (pc0 := 160) (pc' := 176) rfl (hb hby at_160) (by decide) (by decide) ?_
    show Steps p.tables e below (Td0.setTop (mkF m 176 #[.val (.int p1), .val (.int p2), .val (.int p3), .val (.int p4), .val (.int p5), .val (.int (0 : Int32)), .val (.ref wMIN), .val (.int (1 : Int32)), .val (.long x0), .second, .val (.long (x0 + y1)), .second, .val (.long ((x0 + y1) + y2)), .second, .val (.ref b), uu, uu, uu, uu, uu, uu, uu, uu] [(.long x0)])) _
    refine XS.lstore Xd0.here hx rfl (hb hby at_176) rfl (l' := #[.val (.int p1), .val (.int p2), .val (.int p3), .val (.int p4), .val (.int p5), .val (.int (0 : Int32)), .val (.ref wMIN), .val (.int (1 : Int32)), .val (.long x0), .second, .val (.long (x0 + y1)), .second, .val (.long ((x0 + y1) + y2)), .second, .val (.ref b), .val (.long x0), .second, uu, uu, uu, uu, uu, uu]) rfl ?_
    show Steps p.tables e below (Td0.setTop (mkF m 178 #[.val (.int p1), .val (.int p2), .val (.int p3), .val (.int p4), .val (.int p5), .val (.int (0 : Int32)), .val (.ref wMIN), .val (.int (1 : Int32)), .val (.long x0), .second, .val (.long (x0 + y1)), .second, .val (.long ((x0 + y1) + y2)), .second, .val (.ref b), .val (.long x0), .second, uu, uu, uu, uu, uu, uu] [])) _
    refine XS.iload Xd0.here hx rfl (hb hby at_178) rfl ?_
    show Steps p.tables e below (Td0.setTop (mkF m 180 #[.val (.int p1), .val (.int p2), .val (.int p3), .val (.int p4), .val (.int p5), .val (.int (0 : Int32)), .val (.ref wMIN), .val (.int (1 : Int32)), .val (.long x0), .second, .val (.long (x0 + y1)), .second, .val (.long ((x0 + y1) + y2)), .second, .val (.ref b), .val (.long x0), .second, uu, uu, uu, uu, uu, uu] [(.int (1 : Int32))])) _
    refine XS.iconst Xd0.here hx rfl (hb hby at_180) ?_
    show Steps p.tables e below (Td0.setTop (mkF m 181 #[.val (.int p1), .val (.int p2), .val (.int p3), .val (.int p4), .val (.int p5), .val (.int (0 : Int32)), .val (.ref wMIN), .val (.int (1 : Int32)), .val (.long x0), .second, .val (.long (x0 + y1)), .second, .val (.long ((x0 + y1) + y2)), .second, .val (.ref b), .val (.long x0), .second, uu, uu, uu, uu, uu, uu] [(.int (1 : Int32)), (.int (1 : Int32))])) _
    refine XS.icmpNo Xd0.here hx rfl (hb hby at_181) rfl (teq (by decide : (1 : Int32) = (1 : Int32))).2 ?_
    show Steps p.tables e below (Td0.setTop (mkF m 184 #[.val (.int p1), .val (.int p2), .val (.int p3), .val (.int p4), .val (.int p5), .val (.int (0 : Int32)), .val (.ref wMIN), .val (.int (1 : Int32)), .val (.long x0), .second, .val (.long (x0 + y1)), .second, .val (.long ((x0 + y1) + y2)), .second, .val (.ref b), .val (.long x0), .second, uu, uu, uu, uu, uu, uu] [])) _
    refine XS.lload Xd0.here hx rfl (hb hby at_184) rfl ?_
    show Steps p.tables e below (Td0.setTop (mkF m 186 #[.val (.int p1), .val (.int p2), .val (.int p3), .val (.int p4), .val (.int p5), .val (.int (0 : Int32)), .val (.ref wMIN), .val (.int (1 : Int32)), .val (.long x0), .second, .val (.long (x0 + y1)), .second, .val (.long ((x0 + y1) + y2)), .second, .val (.ref b), .val (.long x0), .second, uu, uu, uu, uu, uu, uu] [(.long x0)])) _
    refine XS.goto Xd0.here hx rfl (pc0 := 186) (pc' := 211) rfl (hb hby at_186) (by decide) (by decide) ?_
    show Steps p.tables e below (Td0.setTop (mkF m 211 #[.val (.int p1), .val (.int p2), .val (.int p3), .val (.int p4), .val (.int p5), .val (.int (0 : Int32)), .val (.ref wMIN), .val (.int (1 : Int32)), .val (.long x0), .second, .val (.long (x0 + y1)), .second, .val (.long ((x0 + y1) + y2)), .second, .val (.ref b), .val (.long x0), .second, uu, uu, uu, uu, uu, uu] [(.long x0)])) _
    refine XS.lstore Xd0.here hx rfl (hb hby at_211) rfl (l' := #[.val (.int p1), .val (.int p2), .val (.int p3), .val (.int p4), .val (.int p5), .val (.int (0 : Int32)), .val (.ref wMIN), .val (.int (1 : Int32)), .val (.long x0), .second, .val (.long (x0 + y1)), .second, .val (.long ((x0 + y1) + y2)), .second, .val (.ref b), .val (.long x0), .second, .val (.long x0), .second, uu, uu, uu, uu]) rfl ?_
    show Steps p.tables e below (Td0.setTop (mkF m 213 #[.val (.int p1), .val (.int p2), .val (.int p3), .val (.int p4), .val (.int p5), .val (.int (0 : Int32)), .val (.ref wMIN), .val (.int (1 : Int32)), .val (.long x0), .second, .val (.long (x0 + y1)), .second, .val (.long ((x0 + y1) + y2)), .second, .val (.ref b), .val (.long x0), .second, .val (.long x0), .second, uu, uu, uu, uu] [])) _
    refine XS.iload Xd0.here hx rfl (hb hby at_213) rfl ?_
    show Steps p.tables e below (Td0.setTop (mkF m 215 #[.val (.int p1), .val (.int p2), .val (.int p3), .val (.int p4), .val (.int p5), .val (.int (0 : Int32)), .val (.ref wMIN), .val (.int (1 : Int32)), .val (.long x0), .second, .val (.long (x0 + y1)), .second, .val (.long ((x0 + y1) + y2)), .second, .val (.ref b), .val (.long x0), .second, .val (.long x0), .second, uu, uu, uu, uu] [(.int (0 : Int32))])) _
    refine XS.ifNo Xd0.here hx rfl (hb hby at_215) rfl ((if0 _ _).trans (teq (by decide : (0 : Int32) = (0 : Int32))).2) ?_
    show Steps p.tables e below (Td0.setTop (mkF m 218 #[.val (.int p1), .val (.int p2), .val (.int p3), .val (.int p4), .val (.int p5), .val (.int (0 : Int32)), .val (.ref wMIN), .val (.int (1 : Int32)), .val (.long x0), .second, .val (.long (x0 + y1)), .second, .val (.long ((x0 + y1) + y2)), .second, .val (.ref b), .val (.long x0), .second, .val (.long x0), .second, uu, uu, uu, uu] [])) _
    refine XS.lload Xd0.here hx rfl (hb hby at_218) rfl ?_
    show Steps p.tables e below (Td0.setTop (mkF m 220 #[.val (.int p1), .val (.int p2), .val (.int p3), .val (.int p4), .val (.int p5), .val (.int (0 : Int32)), .val (.ref wMIN), .val (.int (1 : Int32)), .val (.long x0), .second, .val (.long (x0 + y1)), .second, .val (.long ((x0 + y1) + y2)), .second, .val (.ref b), .val (.long x0), .second, .val (.long x0), .second, uu, uu, uu, uu] [(.long x0)])) _
    refine XS.l2dS Xd0.here hx rfl (hb hby at_220) rfl (v := FP.l2d x0) rfl ?_
    show Steps p.tables e below (Td0.setTop (mkF m 221 #[.val (.int p1), .val (.int p2), .val (.int p3), .val (.int p4), .val (.int p5), .val (.int (0 : Int32)), .val (.ref wMIN), .val (.int (1 : Int32)), .val (.long x0), .second, .val (.long (x0 + y1)), .second, .val (.long ((x0 + y1) + y2)), .second, .val (.ref b), .val (.long x0), .second, .val (.long x0), .second, uu, uu, uu, uu] [(.double (FP.l2d x0))])) _
    refine XS.dstore Xd0.here hx rfl (hb hby at_221) rfl (l' := #[.val (.int p1), .val (.int p2), .val (.int p3), .val (.int p4), .val (.int p5), .val (.int (0 : Int32)), .val (.ref wMIN), .val (.int (1 : Int32)), .val (.long x0), .second, .val (.long (x0 + y1)), .second, .val (.long ((x0 + y1) + y2)), .second, .val (.ref b), .val (.long x0), .second, .val (.long x0), .second, .val (.double (FP.l2d x0)), .second, uu, uu]) rfl ?_
    show Steps p.tables e below (Td0.setTop (mkF m 223 #[.val (.int p1), .val (.int p2), .val (.int p3), .val (.int p4), .val (.int p5), .val (.int (0 : Int32)), .val (.ref wMIN), .val (.int (1 : Int32)), .val (.long x0), .second, .val (.long (x0 + y1)), .second, .val (.long ((x0 + y1) + y2)), .second, .val (.ref b), .val (.long x0), .second, .val (.long x0), .second, .val (.double (FP.l2d x0)), .second, uu, uu] [])) _
    refine XS.goto Xd0.here hx rfl (pc0 := 223) (pc' := 263) rfl (hb hby at_223) (by decide) (by decide) ?_
    show Steps p.tables e below (Td0.setTop (mkF m 263 #[.val (.int p1), .val (.int p2), .val (.int p3), .val (.int p4), .val (.int p5), .val (.int (0 : Int32)), .val (.ref wMIN), .val (.int (1 : Int32)), .val (.long x0), .second, .val (.long (x0 + y1)), .second, .val (.long ((x0 + y1) + y2)), .second, .val (.ref b), .val (.long x0), .second, .val (.long x0), .second, .val (.double (FP.l2d x0)), .second, uu, uu] [])) _
    refine XS.aload Xd0.here hx rfl (hb hby at_263) rfl rfl ?_
    show Steps p.tables e below (Td0.setTop (mkF m 265 #[.val (.int p1), .val (.int p2), .val (.int p3), .val (.int p4), .val (.int p5), .val (.int (0 : Int32)), .val (.ref wMIN), .val (.int (1 : Int32)), .val (.long x0), .second, .val (.long (x0 + y1)), .second, .val (.long ((x0 + y1) + y2)), .second, .val (.ref b), .val (.long x0), .second, .val (.long x0), .second, .val (.double (FP.l2d x0)), .second, uu, uu] [(.ref wMIN)])) _
    refine XS.aload Xd0.here hx rfl (hb hby at_265) rfl rfl ?_
    show Steps p.tables e below (Td0.setTop (mkF m 267 #[.val (.int p1), .val (.int p2), .val (.int p3), .val (.int p4), .val (.int p5), .val (.int (0 : Int32)), .val (.ref wMIN), .val (.int (1 : Int32)), .val (.long x0), .second, .val (.long (x0 + y1)), .second, .val (.long ((x0 + y1) + y2)), .second, .val (.ref b), .val (.long x0), .second, .val (.long x0), .second, .val (.double (FP.l2d x0)), .second, uu, uu] [(.ref b), (.ref wMIN)])) _
    refine stc.trans ?_
    show Steps p.tables e below (Tc.setTop (mkF m 270 #[.val (.int p1), .val (.int p2), .val (.int p3), .val (.int p4), .val (.int p5), .val (.int (0 : Int32)), .val (.ref wMIN), .val (.int (1 : Int32)), .val (.long x0), .second, .val (.long (x0 + y1)), .second, .val (.long ((x0 + y1) + y2)), .second, .val (.ref b), .val (.long x0), .second, .val (.long x0), .second, .val (.double (FP.l2d x0)), .second, uu, uu] [(.double (FP.l2d x0))])) _
    refine XS.dstore Xc.here hx rfl (hb hby at_270) rfl (l' := #[.val (.int p1), .val (.int p2), .val (.int p3), .val (.int p4), .val (.int p5), .val (.int (0 : Int32)), .val (.ref wMIN), .val (.int (1 : Int32)), .val (.long x0), .second, .val (.long (x0 + y1)), .second, .val (.long ((x0 + y1) + y2)), .second, .val (.ref b), .val (.long x0), .second, .val (.long x0), .second, .val (.double (FP.l2d x0)), .second, .val (.double (FP.l2d x0)), .second]) rfl ?_
    show Steps p.tables e below (Tc.setTop (mkF m 272 #[.val (.int p1), .val (.int p2), .val (.int p3), .val (.int p4), .val (.int p5), .val (.int (0 : Int32)), .val (.ref wMIN), .val (.int (1 : Int32)), .val (.long x0), .second, .val (.long (x0 + y1)), .second, .val (.long ((x0 + y1) + y2)), .second, .val (.ref b), .val (.long x0), .second, .val (.long x0), .second, .val (.double (FP.l2d x0)), .second, .val (.double (FP.l2d x0)), .second] [])) _
    refine XS.dload Xc.here hx rfl (hb hby at_272) rfl ?_
    show Steps p.tables e below (Tc.setTop (mkF m 274 #[.val (.int p1), .val (.int p2), .val (.int p3), .val (.int p4), .val (.int p5), .val (.int (0 : Int32)), .val (.ref wMIN), .val (.int (1 : Int32)), .val (.long x0), .second, .val (.long (x0 + y1)), .second, .val (.long ((x0 + y1) + y2)), .second, .val (.ref b), .val (.long x0), .second, .val (.long x0), .second, .val (.double (FP.l2d x0)), .second, .val (.double (FP.l2d x0)), .second] [(.double (FP.l2d x0))])) _
    refine XS.dload Xc.here hx rfl (hb hby at_274) rfl ?_
    show Steps p.tables e below (Tc.setTop (mkF m 276 #[.val (.int p1), .val (.int p2), .val (.int p3), .val (.int p4), .val (.int p5), .val (.int (0 : Int32)), .val (.ref wMIN), .val (.int (1 : Int32)), .val (.long x0), .second, .val (.long (x0 + y1)), .second, .val (.long ((x0 + y1) + y2)), .second, .val (.ref b), .val (.long x0), .second, .val (.long x0), .second, .val (.double (FP.l2d x0)), .second, .val (.double (FP.l2d x0)), .second] [(.double (FP.l2d x0)), (.double (FP.l2d x0))])) _
    refine XS.dcmpS Xc.here hx rfl (hb hby at_276) rfl (v := (0 : Int32)) (dcmpV_self (own_l2d _) _) ?_
    show Steps p.tables e below (Tc.setTop (mkF m 277 #[.val (.int p1), .val (.int p2), .val (.int p3), .val (.int p4), .val (.int p5), .val (.int (0 : Int32)), .val (.ref wMIN), .val (.int (1 : Int32)), .val (.long x0), .second, .val (.long (x0 + y1)), .second, .val (.long ((x0 + y1) + y2)), .second, .val (.ref b), .val (.long x0), .second, .val (.long x0), .second, .val (.double (FP.l2d x0)), .second, .val (.double (FP.l2d x0)), .second] [(.int (0 : Int32))])) _
    refine XS.ifNo Xc.here hx rfl (hb hby at_277) rfl ((if0 _ _).trans (teq (by decide : (0 : Int32) = (0 : Int32))).2) ?_
    show Steps p.tables e below (Tc.setTop (mkF m 280 #[.val (.int p1), .val (.int p2), .val (.int p3), .val (.int p4), .val (.int p5), .val (.int (0 : Int32)), .val (.ref wMIN), .val (.int (1 : Int32)), .val (.long x0), .second, .val (.long (x0 + y1)), .second, .val (.long ((x0 + y1) + y2)), .second, .val (.ref b), .val (.long x0), .second, .val (.long x0), .second, .val (.double (FP.l2d x0)), .second, .val (.double (FP.l2d x0)), .second] [])) _
    refine XS.iconst Xc.here hx rfl (hb hby at_280) ?_
    show Steps p.tables e below (Tc.setTop (mkF m 281 #[.val (.int p1), .val (.int p2), .val (.int p3), .val (.int p4), .val (.int p5), .val (.int (0 : Int32)), .val (.ref wMIN), .val (.int (1 : Int32)), .val (.long x0), .second, .val (.long (x0 + y1)), .second, .val (.long ((x0 + y1) + y2)), .second, .val (.ref b), .val (.long x0), .second, .val (.long x0), .second, .val (.double (FP.l2d x0)), .second, .val (.double (FP.l2d x0)), .second] [(.int (1 : Int32))])) _
    refine XS.goto Xc.here hx rfl (pc0 := 281) (pc' := 285) rfl (hb hby at_281) (by decide) (by decide) ?_
    show Steps p.tables e below (Tc.setTop (mkF m 285 #[.val (.int p1), .val (.int p2), .val (.int p3), .val (.int p4), .val (.int p5), .val (.int (0 : Int32)), .val (.ref wMIN), .val (.int (1 : Int32)), .val (.long x0), .second, .val (.long (x0 + y1)), .second, .val (.long ((x0 + y1) + y2)), .second, .val (.ref b), .val (.long x0), .second, .val (.long x0), .second, .val (.double (FP.l2d x0)), .second, .val (.double (FP.l2d x0)), .second] [(.int (1 : Int32))])) _
    exact retN Xc hx (t := .boolean) Bd.returns (by simp) (hb hby at_285) hr
  · show Q0 h0 n0 _ Tc.heap _
    exact ⟨rfl, Nc⟩
set_option maxRecDepth 65536 in
set_option maxHeartbeats 40000000 in
theorem rm0_0_2 (l : Launch) (Z : State) (a0 : Array Value) (hw : ∀ d ∈ tables_1, d.before a0 Z = true) (ws : List Jvm.Cond) (p1 p2 p3 p4 p5 : Int32) (wMIN wMAX wAVG wSUM : Addr) (x0 y1 y2 : Int64) (h0 : Heap) (n0 : Nat) (Z0 : n0 ≤ h0.size) (S_MIN : Sta Z h0 "com/example/tiebreaker/tiebreaker/engine/search/DecayFunction$MultiValueMode" "MIN" "Lcom/example/tiebreaker/tiebreaker/engine/search/DecayFunction$MultiValueMode;" (.ref wMIN)) (S_MAX : Sta Z h0 "com/example/tiebreaker/tiebreaker/engine/search/DecayFunction$MultiValueMode" "MAX" "Lcom/example/tiebreaker/tiebreaker/engine/search/DecayFunction$MultiValueMode;" (.ref wMAX)) (S_AVG : Sta Z h0 "com/example/tiebreaker/tiebreaker/engine/search/DecayFunction$MultiValueMode" "AVG" "Lcom/example/tiebreaker/tiebreaker/engine/search/DecayFunction$MultiValueMode;" (.ref wAVG)) (S_SUM : Sta Z h0 "com/example/tiebreaker/tiebreaker/engine/search/DecayFunction$MultiValueMode" "SUM" "Lcom/example/tiebreaker/tiebreaker/engine/search/DecayFunction$MultiValueMode;" (.ref wSUM)) (nXI : ¬ wMAX = wMIN) (nAI : ¬ wAVG = wMIN) (nAX : ¬ wAVG = wMAX) (nSI : ¬ wSUM = wMIN) (nSX : ¬ wSUM = wMAX) (nAS : ¬ wAVG = wSUM) (E_m : Exa Z h0 wMIN "com/example/tiebreaker/tiebreaker/engine/search/DecayFunction$MultiValueMode") (hx0 : x0 = (p3 &&& (1048575 : Int32)).toInt64) (hy1 : y1 = (p4 &&& (1048575 : Int32)).toInt64) (hy2 : y2 = (p5 &&& (1048575 : Int32)).toInt64) (b0 : 0 ≤ x0.toInt ∧ x0.toInt < 4000000) (b1 : 0 ≤ (x0 + y1).toInt ∧ (x0 + y1).toInt < 4000000) (b2 : 0 ≤ ((x0 + y1) + y2).toInt ∧ ((x0 + y1) + y2).toInt < 4000000) (hm : (p1 &&& (3 : Int32)) = (0 : Int32)) (hn : (((p2 &&& (2147483647 : Int32)) % (3 : Int32)) + (1 : Int32)) = (2 : Int32)) :
    MetFree l x (head1 (Jvm.Cond.code x code maxLocals ret :: ws) room_1) (fun a U => a = #[(.int p1), (.int p2), (.int p3), (.int p4), (.int p5)] ∧ Z.Warmed39 U.vm ∧ U.heap = h0) (fun _ _ _ _ _ => True) (fun _ U o U' => ∃ v L, o = .returned v ∧ Q0 h0 n0 v U'.heap L ∧ FrameEnd U o U' L room_1.cells room_1.slots) := by
  refine MetFree.of_bodySF (plainFor_of_name pn_0) hisR ?_
  intro p e s m args below meth c s₁ Bd hml0 hP hK
  obtain ⟨rfl, hZ, hh⟩ := hP
  have hx := Bd.exec
  have hby := Bd.bytes
  have hml : c.maxLocals = 23 := hml0
  have hown : s.vm.findClass "com/example/tiebreaker/tiebreaker/engine/search/MultiValueModePickPinLaw" = some m.cls := findClass_of_methodNamed Bd.named
  have X0 : Stand p l e room_1 s m #[(.int p1), (.int p2), (.int p3), (.int p4), (.int p5)] below meth c s₁ [] 0 0 := Stand.of_body Bd
  have e0 : s₁.heap = h0 := by rw [← hh, Bd.state]; rfl
  have N0 := Fr.nil n0
  have pre0 : ∀ t, Steps p.tables e below (s₁.setTop (mkF m 0 #[.val (.int p1), .val (.int p2), .val (.int p3), .val (.int p4), .val (.int p5), uu, uu, uu, uu, uu, uu, uu, uu, uu, uu, uu, uu, uu, uu, uu, uu, uu, uu] [])) t → Steps p.tables e below (s₁.setTop (entryFrame m #[(.int p1), (.int p2), (.int p3), (.int p4), (.int p5)] maxLocals)) t := fun t k => castTop (ef_0 m p1 p2 p3 p4 p5) k
  obtain ⟨T50, X50, e50, st50⟩ := getS2 X0 hx hZ hown (host := "") (Or.inl (hw _ (List.mem_of_getElem? (i := 0) rfl))) Via.refl e0 S_MIN (g := (mkF m 10 #[.val (.int p1), .val (.int p2), .val (.int p3), .val (.int p4), .val (.int p5), .val (.int (0 : Int32)), uu, uu, uu, uu, uu, uu, uu, uu, uu, uu, uu, uu, uu, uu, uu, uu, uu] [])) rfl (hb hby at_10)
  obtain ⟨Ta, ha, ka, Xa, ea, Ea, Aa, sta_⟩ := newP X50 hx hZ (hw _ (List.mem_of_getElem? (i := 5) rfl)) e50 (g := (mkF m 110 #[.val (.int p1), .val (.int p2), .val (.int p3), .val (.int p4), .val (.int p5), .val (.int (0 : Int32)), .val (.ref wMIN), .val (.int (2 : Int32)), .val (.long x0), .second, .val (.long (x0 + y1)), .second, .val (.long ((x0 + y1) + y2)), .second, uu, uu, uu, uu, uu, uu, uu, uu, uu] [(.int (2 : Int32))])) rfl (hb hby at_110) rfl (by decide) (cap := 2) (by decide) (by decide) (by decide) (by decide)
  obtain ⟨b, gb⟩ : ∃ z, z = h0.size := ⟨_, rfl⟩
  rw [← gb] at Aa sta_
  have V0 : Arv Z ha b ka .double (2 : Int32) [] (.double (FP.l2d 0)) := Arv.newD Aa (by decide)
  have Vp : Arv Z ha b ka .double (2 : Int32) (List.replicate 2 (.double (FP.l2d 0))) (.double (FP.l2d 0)) := V0.pad (pad_rep [] (.double (FP.l2d 0)) 2)
  have g_b : n0 ≤ b := Nat.le_trans Z0 (Nat.le_of_eq gb.symm)
  have sz_b : h0.size ≤ b := Nat.le_of_eq gb.symm
  have Ka : Keep h0 ha [] := (Keep.refl h0 []).ext Ea
  obtain ⟨cl0, Ar0, q0, Sz0, M0, H0, U0⟩ := Vp
  obtain ⟨Td0, hd0, Xd0, ed0, Wd0, std0⟩ := stD Xa hx hZ ea Ar0 (j := (0 : Int32)) (inb_of Sz0 (by decide)) (g := (mkF m 117 #[.val (.int p1), .val (.int p2), .val (.int p3), .val (.int p4), .val (.int p5), .val (.int (0 : Int32)), .val (.ref wMIN), .val (.int (2 : Int32)), .val (.long x0), .second, .val (.long (x0 + y1)), .second, .val (.long ((x0 + y1) + y2)), .second, uu, uu, uu, uu, uu, uu, uu, uu, uu] [(.double (FP.l2d x0)), (.int (0 : Int32)), (.ref b), (.ref b)])) rfl rfl (hb hby at_117)
  have V1 := Arv.set Ar0 q0 Sz0 M0 H0 U0 (v := (.double (FP.l2d x0))) rfl Wd0 0 rfl (by simp)
  have Nd0 := Fr.snoc Xd0 N0 g_b
  have Kd0 : Keep h0 hd0 [] := Ka.wr Wd0 (Or.inr sz_b)
  obtain ⟨cl1, Ar1, q1, Sz1, M1, H1, U1⟩ := V1
  obtain ⟨Td1, hd1, Xd1, ed1, Wd1, std1⟩ := stD Xd0 hx hZ ed0 Ar1 (j := (1 : Int32)) (inb_of Sz1 (by decide)) (g := (mkF m 123 #[.val (.int p1), .val (.int p2), .val (.int p3), .val (.int p4), .val (.int p5), .val (.int (0 : Int32)), .val (.ref wMIN), .val (.int (2 : Int32)), .val (.long x0), .second, .val (.long (x0 + y1)), .second, .val (.long ((x0 + y1) + y2)), .second, uu, uu, uu, uu, uu, uu, uu, uu, uu] [(.double (FP.l2d (x0 + y1))), (.int (1 : Int32)), (.ref b), (.ref b)])) rfl rfl (hb hby at_123)
  have V2 := Arv.set Ar1 q1 Sz1 M1 H1 U1 (v := (.double (FP.l2d (x0 + y1)))) rfl Wd1 1 rfl (by simp)
  have Nd1 := Fr.snoc Xd1 Nd0 g_b
  have Kd1 : Keep h0 hd1 [] := Kd0.wr Wd1 (Or.inr sz_b)
  have KK : Keep h0 hd1 [] := Kd1
  obtain ⟨cl, Ar, -, Sz, Nn, Hh, -⟩ := V2
  have hat0 : cl.slots[0]? = some (.double (FP.l2d x0)) := Hh 0 (by rw [Sz]; decide)
  have hat1 : cl.slots[1]? = some (.double (FP.l2d (x0 + y1))) := Hh 1 (by rw [Sz]; decide)
  obtain ⟨cq, kq, qa, qb, qc⟩ := isOf hZ ed1 (E_m.keep KK)
  obtain ⟨_, _, ⟨Tc, Lc, kc, nc⟩, -, Xc, ⟨Lcc, hQc, lc, yc, zc⟩, stc⟩ := Xd1.virtualBack hx (y := (⟨"com/example/tiebreaker/tiebreaker/engine/search/DecayFunction$MultiValueMode", "pick", "([D)D"⟩ : MethodName)) (z := (⟨"com/example/tiebreaker/tiebreaker/engine/search/DecayFunction$MultiValueMode", "pick", "([D)D"⟩ : MethodName)) hown (mvT hZ (hw _ (List.mem_of_getElem? (i := 6) rfl))) (mvT hZ (hw _ (List.mem_of_getElem? (i := 7) rfl))) (notFace_of_selects (args := #[]) (mvT hZ (hw _ (List.mem_of_getElem? (i := 9) rfl)))) (mvT hZ (hw _ (List.mem_of_getElem? (i := 9) rfl))) (mvT hZ (hw _ (List.mem_of_getElem? (i := 8) rfl))) (by decide) (backOf (W := 0) (rm1_MIN_2 l Z a0 hw [] b wMIN wMAX wAVG wSUM x0 (x0 + y1) hd1 n0 (Nat.le_trans Z0 KK.1) (own_sta S_MIN KK) (own_sta S_MAX KK) (own_sta S_AVG KK) (own_sta S_SUM KK) nXI nAI nAX nSI nSX nAS cl Ar Sz Nn hat0 hat1 b0 b1) hZ (hw _ (List.mem_of_getElem? (i := 10) rfl)) (hw _ (List.mem_of_getElem? (i := 1) rfl)) (by decide) (by decide)) qa qc (g := (mkF m 267 #[.val (.int p1), .val (.int p2), .val (.int p3), .val (.int p4), .val (.int p5), .val (.int (0 : Int32)), .val (.ref wMIN), .val (.int (2 : Int32)), .val (.long x0), .second, .val (.long (x0 + y1)), .second, .val (.long ((x0 + y1) + y2)), .second, .val (.ref b), .val (.long (x0 + y1)), .second, .val (.long (x0 + (x0 + y1))), .second, .val (.double (FP.l2d x0)), .second, uu, uu] [(.ref b), (.ref wMIN)])) rfl (by rw [hml]; rfl) (Steps.refl _) (argsL := [(.ref b)]) (rest := []) (lenOf pd_0 rfl) rfl (by show 2 * 0 + _ ≤ _; exact Nat.le_of_eq rfl) (hb hby at_267) (fun _ _ => ⟨rfl, ed1, (by decide : 0 + 1 + 0 ≤ _), (by decide : 0 + 2 + 0 ≤ _)⟩)
  dsimp only [Pt.U, Pt.locs, Pt.cells, Pt.slots] at Xc lc yc zc stc hQc
  subst lc yc zc
  obtain ⟨rfl, Ncq, ec⟩ := hQc
  have Nc := Fr.app Nd1 Ncq
  obtain ⟨fs, hr, hrun, hended, hW, hsame⟩ := Xc.leave (v := some (.int (1 : Int32))) (fun h => by rw [Bd.returns] at h; cases h)
  refine ⟨_, _, pre0 _ ?_, hrun, hended, _, _, rfl, ?_, ⟨_, rfl⟩, hW, hsame.mono (by decide) (by decide)⟩
  · show Steps p.tables e below (s₁.setTop (mkF m 0 #[.val (.int p1), .val (.int p2), .val (.int p3), .val (.int p4), .val (.int p5), uu, uu, uu, uu, uu, uu, uu, uu, uu, uu, uu, uu, uu, uu, uu, uu, uu, uu] [])) _
    refine XS.iloadN X0.here hx rfl (hb hby at_0) rfl ?_
    show Steps p.tables e below (s₁.setTop (mkF m 1 #[.val (.int p1), .val (.int p2), .val (.int p3), .val (.int p4), .val (.int p5), uu, uu, uu, uu, uu, uu, uu, uu, uu, uu, uu, uu, uu, uu, uu, uu, uu, uu] [(.int p1)])) _
    refine XS.iconst X0.here hx rfl (hb hby at_1) ?_
    show Steps p.tables e below (s₁.setTop (mkF m 2 #[.val (.int p1), .val (.int p2), .val (.int p3), .val (.int p4), .val (.int p5), uu, uu, uu, uu, uu, uu, uu, uu, uu, uu, uu, uu, uu, uu, uu, uu, uu, uu] [(.int (3 : Int32)), (.int p1)])) _
    refine XS.iand X0.here hx rfl (hb hby at_2) rfl ?_
    show Steps p.tables e below (s₁.setTop (mkF m 3 #[.val (.int p1), .val (.int p2), .val (.int p3), .val (.int p4), .val (.int p5), uu, uu, uu, uu, uu, uu, uu, uu, uu, uu, uu, uu, uu, uu, uu, uu, uu, uu] [(.int (p1 &&& (3 : Int32)))])) _
    rw [hm]
    show Steps p.tables e below (s₁.setTop (mkF m 3 #[.val (.int p1), .val (.int p2), .val (.int p3), .val (.int p4), .val (.int p5), uu, uu, uu, uu, uu, uu, uu, uu, uu, uu, uu, uu, uu, uu, uu, uu, uu, uu] [(.int (0 : Int32))])) _
    refine XS.istore X0.here hx rfl (hb hby at_3) rfl (l' := #[.val (.int p1), .val (.int p2), .val (.int p3), .val (.int p4), .val (.int p5), .val (.int (0 : Int32)), uu, uu, uu, uu, uu, uu, uu, uu, uu, uu, uu, uu, uu, uu, uu, uu, uu]) rfl ?_
    show Steps p.tables e below (s₁.setTop (mkF m 5 #[.val (.int p1), .val (.int p2), .val (.int p3), .val (.int p4), .val (.int p5), .val (.int (0 : Int32)), uu, uu, uu, uu, uu, uu, uu, uu, uu, uu, uu, uu, uu, uu, uu, uu, uu] [])) _
    refine XS.iload X0.here hx rfl (hb hby at_5) rfl ?_
    show Steps p.tables e below (s₁.setTop (mkF m 7 #[.val (.int p1), .val (.int p2), .val (.int p3), .val (.int p4), .val (.int p5), .val (.int (0 : Int32)), uu, uu, uu, uu, uu, uu, uu, uu, uu, uu, uu, uu, uu, uu, uu, uu, uu] [(.int (0 : Int32))])) _
    refine XS.ifNo X0.here hx rfl (hb hby at_7) rfl ((if0 _ _).trans (teq (by decide : (0 : Int32) = (0 : Int32))).2) ?_
    show Steps p.tables e below (s₁.setTop (mkF m 10 #[.val (.int p1), .val (.int p2), .val (.int p3), .val (.int p4), .val (.int p5), .val (.int (0 : Int32)), uu, uu, uu, uu, uu, uu, uu, uu, uu, uu, uu, uu, uu, uu, uu, uu, uu] [])) _
    refine st50 _ ?_
    show Steps p.tables e below (T50.setTop (mkF m 13 #[.val (.int p1), .val (.int p2), .val (.int p3), .val (.int p4), .val (.int p5), .val (.int (0 : Int32)), uu, uu, uu, uu, uu, uu, uu, uu, uu, uu, uu, uu, uu, uu, uu, uu, uu] [(.ref wMIN)])) _
    refine XS.goto X50.here hx rfl (pc0 := 13) (pc' := 43) rfl (hb hby at_13) (by decide) (by decide) ?_
    show Steps p.tables e below (T50.setTop (mkF m 43 #[.val (.int p1), .val (.int p2), .val (.int p3), .val (.int p4), .val (.int p5), .val (.int (0 : Int32)), uu, uu, uu, uu, uu, uu, uu, uu, uu, uu, uu, uu, uu, uu, uu, uu, uu] [(.ref wMIN)])) _
    refine XS.astore X50.here hx rfl (hb hby at_43) rfl rfl (l' := #[.val (.int p1), .val (.int p2), .val (.int p3), .val (.int p4), .val (.int p5), .val (.int (0 : Int32)), .val (.ref wMIN), uu, uu, uu, uu, uu, uu, uu, uu, uu, uu, uu, uu, uu, uu, uu, uu]) rfl ?_
    show Steps p.tables e below (T50.setTop (mkF m 45 #[.val (.int p1), .val (.int p2), .val (.int p3), .val (.int p4), .val (.int p5), .val (.int (0 : Int32)), .val (.ref wMIN), uu, uu, uu, uu, uu, uu, uu, uu, uu, uu, uu, uu, uu, uu, uu, uu] [])) _
    refine XS.iloadN X50.here hx rfl (hb hby at_45) rfl ?_
    show Steps p.tables e below (T50.setTop (mkF m 46 #[.val (.int p1), .val (.int p2), .val (.int p3), .val (.int p4), .val (.int p5), .val (.int (0 : Int32)), .val (.ref wMIN), uu, uu, uu, uu, uu, uu, uu, uu, uu, uu, uu, uu, uu, uu, uu, uu] [(.int p2)])) _
    refine X50.ldcInt hx hown (mvT hZ (hw _ (List.mem_of_getElem? (i := 3) rfl))) (g := (mkF m 46 #[.val (.int p1), .val (.int p2), .val (.int p3), .val (.int p4), .val (.int p5), .val (.int (0 : Int32)), .val (.ref wMIN), uu, uu, uu, uu, uu, uu, uu, uu, uu, uu, uu, uu, uu, uu, uu, uu] [(.int p2)])) rfl (hb hby at_46) _ ?_
    show Steps p.tables e below (T50.setTop (mkF m 48 #[.val (.int p1), .val (.int p2), .val (.int p3), .val (.int p4), .val (.int p5), .val (.int (0 : Int32)), .val (.ref wMIN), uu, uu, uu, uu, uu, uu, uu, uu, uu, uu, uu, uu, uu, uu, uu, uu] [(.int (2147483647 : Int32)), (.int p2)])) _
    refine XS.iand X50.here hx rfl (hb hby at_48) rfl ?_
    show Steps p.tables e below (T50.setTop (mkF m 49 #[.val (.int p1), .val (.int p2), .val (.int p3), .val (.int p4), .val (.int p5), .val (.int (0 : Int32)), .val (.ref wMIN), uu, uu, uu, uu, uu, uu, uu, uu, uu, uu, uu, uu, uu, uu, uu, uu] [(.int (p2 &&& (2147483647 : Int32)))])) _
    refine XS.iconst X50.here hx rfl (hb hby at_49) ?_
    show Steps p.tables e below (T50.setTop (mkF m 50 #[.val (.int p1), .val (.int p2), .val (.int p3), .val (.int p4), .val (.int p5), .val (.int (0 : Int32)), .val (.ref wMIN), uu, uu, uu, uu, uu, uu, uu, uu, uu, uu, uu, uu, uu, uu, uu, uu] [(.int (3 : Int32)), (.int (p2 &&& (2147483647 : Int32)))])) _
    refine iremM X50 hx rfl (hb hby at_50) rfl (by decide) ?_
    show Steps p.tables e below (T50.setTop (mkF m 51 #[.val (.int p1), .val (.int p2), .val (.int p3), .val (.int p4), .val (.int p5), .val (.int (0 : Int32)), .val (.ref wMIN), uu, uu, uu, uu, uu, uu, uu, uu, uu, uu, uu, uu, uu, uu, uu, uu] [(.int ((p2 &&& (2147483647 : Int32)) % (3 : Int32)))])) _
    refine XS.iconst X50.here hx rfl (hb hby at_51) ?_
    show Steps p.tables e below (T50.setTop (mkF m 52 #[.val (.int p1), .val (.int p2), .val (.int p3), .val (.int p4), .val (.int p5), .val (.int (0 : Int32)), .val (.ref wMIN), uu, uu, uu, uu, uu, uu, uu, uu, uu, uu, uu, uu, uu, uu, uu, uu] [(.int (1 : Int32)), (.int ((p2 &&& (2147483647 : Int32)) % (3 : Int32)))])) _
    refine XS.iadd X50.here hx rfl (hb hby at_52) rfl ?_
    show Steps p.tables e below (T50.setTop (mkF m 53 #[.val (.int p1), .val (.int p2), .val (.int p3), .val (.int p4), .val (.int p5), .val (.int (0 : Int32)), .val (.ref wMIN), uu, uu, uu, uu, uu, uu, uu, uu, uu, uu, uu, uu, uu, uu, uu, uu] [(.int (((p2 &&& (2147483647 : Int32)) % (3 : Int32)) + (1 : Int32)))])) _
    rw [hn]
    show Steps p.tables e below (T50.setTop (mkF m 53 #[.val (.int p1), .val (.int p2), .val (.int p3), .val (.int p4), .val (.int p5), .val (.int (0 : Int32)), .val (.ref wMIN), uu, uu, uu, uu, uu, uu, uu, uu, uu, uu, uu, uu, uu, uu, uu, uu] [(.int (2 : Int32))])) _
    refine XS.istore X50.here hx rfl (hb hby at_53) rfl (l' := #[.val (.int p1), .val (.int p2), .val (.int p3), .val (.int p4), .val (.int p5), .val (.int (0 : Int32)), .val (.ref wMIN), .val (.int (2 : Int32)), uu, uu, uu, uu, uu, uu, uu, uu, uu, uu, uu, uu, uu, uu, uu]) rfl ?_
    show Steps p.tables e below (T50.setTop (mkF m 55 #[.val (.int p1), .val (.int p2), .val (.int p3), .val (.int p4), .val (.int p5), .val (.int (0 : Int32)), .val (.ref wMIN), .val (.int (2 : Int32)), uu, uu, uu, uu, uu, uu, uu, uu, uu, uu, uu, uu, uu, uu, uu] [])) _
    refine XS.iloadN X50.here hx rfl (hb hby at_55) rfl ?_
    show Steps p.tables e below (T50.setTop (mkF m 56 #[.val (.int p1), .val (.int p2), .val (.int p3), .val (.int p4), .val (.int p5), .val (.int (0 : Int32)), .val (.ref wMIN), .val (.int (2 : Int32)), uu, uu, uu, uu, uu, uu, uu, uu, uu, uu, uu, uu, uu, uu, uu] [(.int p3)])) _
    refine X50.ldcInt hx hown (mvT hZ (hw _ (List.mem_of_getElem? (i := 4) rfl))) (g := (mkF m 56 #[.val (.int p1), .val (.int p2), .val (.int p3), .val (.int p4), .val (.int p5), .val (.int (0 : Int32)), .val (.ref wMIN), .val (.int (2 : Int32)), uu, uu, uu, uu, uu, uu, uu, uu, uu, uu, uu, uu, uu, uu, uu] [(.int p3)])) rfl (hb hby at_56) _ ?_
    show Steps p.tables e below (T50.setTop (mkF m 58 #[.val (.int p1), .val (.int p2), .val (.int p3), .val (.int p4), .val (.int p5), .val (.int (0 : Int32)), .val (.ref wMIN), .val (.int (2 : Int32)), uu, uu, uu, uu, uu, uu, uu, uu, uu, uu, uu, uu, uu, uu, uu] [(.int (1048575 : Int32)), (.int p3)])) _
    refine XS.iand X50.here hx rfl (hb hby at_58) rfl ?_
    show Steps p.tables e below (T50.setTop (mkF m 59 #[.val (.int p1), .val (.int p2), .val (.int p3), .val (.int p4), .val (.int p5), .val (.int (0 : Int32)), .val (.ref wMIN), .val (.int (2 : Int32)), uu, uu, uu, uu, uu, uu, uu, uu, uu, uu, uu, uu, uu, uu, uu] [(.int (p3 &&& (1048575 : Int32)))])) _
    refine XS.i2l X50.here hx rfl (hb hby at_59) rfl ?_
    show Steps p.tables e below (T50.setTop (mkF m 60 #[.val (.int p1), .val (.int p2), .val (.int p3), .val (.int p4), .val (.int p5), .val (.int (0 : Int32)), .val (.ref wMIN), .val (.int (2 : Int32)), uu, uu, uu, uu, uu, uu, uu, uu, uu, uu, uu, uu, uu, uu, uu] [(.long ((p3 &&& (1048575 : Int32)).toInt64))])) _
    rw [← hx0]
    show Steps p.tables e below (T50.setTop (mkF m 60 #[.val (.int p1), .val (.int p2), .val (.int p3), .val (.int p4), .val (.int p5), .val (.int (0 : Int32)), .val (.ref wMIN), .val (.int (2 : Int32)), uu, uu, uu, uu, uu, uu, uu, uu, uu, uu, uu, uu, uu, uu, uu] [(.long x0)])) _
    refine XS.lstore X50.here hx rfl (hb hby at_60) rfl (l' := #[.val (.int p1), .val (.int p2), .val (.int p3), .val (.int p4), .val (.int p5), .val (.int (0 : Int32)), .val (.ref wMIN), .val (.int (2 : Int32)), .val (.long x0), .second, uu, uu, uu, uu, uu, uu, uu, uu, uu, uu, uu, uu, uu]) rfl ?_
    show Steps p.tables e below (T50.setTop (mkF m 62 #[.val (.int p1), .val (.int p2), .val (.int p3), .val (.int p4), .val (.int p5), .val (.int (0 : Int32)), .val (.ref wMIN), .val (.int (2 : Int32)), .val (.long x0), .second, uu, uu, uu, uu, uu, uu, uu, uu, uu, uu, uu, uu, uu] [])) _
    refine XS.lload X50.here hx rfl (hb hby at_62) rfl ?_
    show Steps p.tables e below (T50.setTop (mkF m 64 #[.val (.int p1), .val (.int p2), .val (.int p3), .val (.int p4), .val (.int p5), .val (.int (0 : Int32)), .val (.ref wMIN), .val (.int (2 : Int32)), .val (.long x0), .second, uu, uu, uu, uu, uu, uu, uu, uu, uu, uu, uu, uu, uu] [(.long x0)])) _
    refine XS.iloadN X50.here hx rfl (hb hby at_64) rfl ?_
    show Steps p.tables e below (T50.setTop (mkF m 65 #[.val (.int p1), .val (.int p2), .val (.int p3), .val (.int p4), .val (.int p5), .val (.int (0 : Int32)), .val (.ref wMIN), .val (.int (2 : Int32)), .val (.long x0), .second, uu, uu, uu, uu, uu, uu, uu, uu, uu, uu, uu, uu, uu] [(.int p4), (.long x0)])) _
    refine X50.ldcInt hx hown (mvT hZ (hw _ (List.mem_of_getElem? (i := 4) rfl))) (g := (mkF m 65 #[.val (.int p1), .val (.int p2), .val (.int p3), .val (.int p4), .val (.int p5), .val (.int (0 : Int32)), .val (.ref wMIN), .val (.int (2 : Int32)), .val (.long x0), .second, uu, uu, uu, uu, uu, uu, uu, uu, uu, uu, uu, uu, uu] [(.int p4), (.long x0)])) rfl (hb hby at_65) _ ?_
    show Steps p.tables e below (T50.setTop (mkF m 67 #[.val (.int p1), .val (.int p2), .val (.int p3), .val (.int p4), .val (.int p5), .val (.int (0 : Int32)), .val (.ref wMIN), .val (.int (2 : Int32)), .val (.long x0), .second, uu, uu, uu, uu, uu, uu, uu, uu, uu, uu, uu, uu, uu] [(.int (1048575 : Int32)), (.int p4), (.long x0)])) _
    refine XS.iand X50.here hx rfl (hb hby at_67) rfl ?_
    show Steps p.tables e below (T50.setTop (mkF m 68 #[.val (.int p1), .val (.int p2), .val (.int p3), .val (.int p4), .val (.int p5), .val (.int (0 : Int32)), .val (.ref wMIN), .val (.int (2 : Int32)), .val (.long x0), .second, uu, uu, uu, uu, uu, uu, uu, uu, uu, uu, uu, uu, uu] [(.int (p4 &&& (1048575 : Int32))), (.long x0)])) _
    refine XS.i2l X50.here hx rfl (hb hby at_68) rfl ?_
    show Steps p.tables e below (T50.setTop (mkF m 69 #[.val (.int p1), .val (.int p2), .val (.int p3), .val (.int p4), .val (.int p5), .val (.int (0 : Int32)), .val (.ref wMIN), .val (.int (2 : Int32)), .val (.long x0), .second, uu, uu, uu, uu, uu, uu, uu, uu, uu, uu, uu, uu, uu] [(.long ((p4 &&& (1048575 : Int32)).toInt64)), (.long x0)])) _
    rw [← hy1]
    show Steps p.tables e below (T50.setTop (mkF m 69 #[.val (.int p1), .val (.int p2), .val (.int p3), .val (.int p4), .val (.int p5), .val (.int (0 : Int32)), .val (.ref wMIN), .val (.int (2 : Int32)), .val (.long x0), .second, uu, uu, uu, uu, uu, uu, uu, uu, uu, uu, uu, uu, uu] [(.long y1), (.long x0)])) _
    refine XS.ladd X50.here hx rfl (hb hby at_69) rfl ?_
    show Steps p.tables e below (T50.setTop (mkF m 70 #[.val (.int p1), .val (.int p2), .val (.int p3), .val (.int p4), .val (.int p5), .val (.int (0 : Int32)), .val (.ref wMIN), .val (.int (2 : Int32)), .val (.long x0), .second, uu, uu, uu, uu, uu, uu, uu, uu, uu, uu, uu, uu, uu] [(.long (x0 + y1))])) _
    refine XS.lstore X50.here hx rfl (hb hby at_70) rfl (l' := #[.val (.int p1), .val (.int p2), .val (.int p3), .val (.int p4), .val (.int p5), .val (.int (0 : Int32)), .val (.ref wMIN), .val (.int (2 : Int32)), .val (.long x0), .second, .val (.long (x0 + y1)), .second, uu, uu, uu, uu, uu, uu, uu, uu, uu, uu, uu]) rfl ?_
    show Steps p.tables e below (T50.setTop (mkF m 72 #[.val (.int p1), .val (.int p2), .val (.int p3), .val (.int p4), .val (.int p5), .val (.int (0 : Int32)), .val (.ref wMIN), .val (.int (2 : Int32)), .val (.long x0), .second, .val (.long (x0 + y1)), .second, uu, uu, uu, uu, uu, uu, uu, uu, uu, uu, uu] [])) _
    refine XS.lload X50.here hx rfl (hb hby at_72) rfl ?_
    show Steps p.tables e below (T50.setTop (mkF m 74 #[.val (.int p1), .val (.int p2), .val (.int p3), .val (.int p4), .val (.int p5), .val (.int (0 : Int32)), .val (.ref wMIN), .val (.int (2 : Int32)), .val (.long x0), .second, .val (.long (x0 + y1)), .second, uu, uu, uu, uu, uu, uu, uu, uu, uu, uu, uu] [(.long (x0 + y1))])) _
    refine XS.iload X50.here hx rfl (hb hby at_74) rfl ?_
    show Steps p.tables e below (T50.setTop (mkF m 76 #[.val (.int p1), .val (.int p2), .val (.int p3), .val (.int p4), .val (.int p5), .val (.int (0 : Int32)), .val (.ref wMIN), .val (.int (2 : Int32)), .val (.long x0), .second, .val (.long (x0 + y1)), .second, uu, uu, uu, uu, uu, uu, uu, uu, uu, uu, uu] [(.int p5), (.long (x0 + y1))])) _
    refine X50.ldcInt hx hown (mvT hZ (hw _ (List.mem_of_getElem? (i := 4) rfl))) (g := (mkF m 76 #[.val (.int p1), .val (.int p2), .val (.int p3), .val (.int p4), .val (.int p5), .val (.int (0 : Int32)), .val (.ref wMIN), .val (.int (2 : Int32)), .val (.long x0), .second, .val (.long (x0 + y1)), .second, uu, uu, uu, uu, uu, uu, uu, uu, uu, uu, uu] [(.int p5), (.long (x0 + y1))])) rfl (hb hby at_76) _ ?_
    show Steps p.tables e below (T50.setTop (mkF m 78 #[.val (.int p1), .val (.int p2), .val (.int p3), .val (.int p4), .val (.int p5), .val (.int (0 : Int32)), .val (.ref wMIN), .val (.int (2 : Int32)), .val (.long x0), .second, .val (.long (x0 + y1)), .second, uu, uu, uu, uu, uu, uu, uu, uu, uu, uu, uu] [(.int (1048575 : Int32)), (.int p5), (.long (x0 + y1))])) _
    refine XS.iand X50.here hx rfl (hb hby at_78) rfl ?_
    show Steps p.tables e below (T50.setTop (mkF m 79 #[.val (.int p1), .val (.int p2), .val (.int p3), .val (.int p4), .val (.int p5), .val (.int (0 : Int32)), .val (.ref wMIN), .val (.int (2 : Int32)), .val (.long x0), .second, .val (.long (x0 + y1)), .second, uu, uu, uu, uu, uu, uu, uu, uu, uu, uu, uu] [(.int (p5 &&& (1048575 : Int32))), (.long (x0 + y1))])) _
    refine XS.i2l X50.here hx rfl (hb hby at_79) rfl ?_
    show Steps p.tables e below (T50.setTop (mkF m 80 #[.val (.int p1), .val (.int p2), .val (.int p3), .val (.int p4), .val (.int p5), .val (.int (0 : Int32)), .val (.ref wMIN), .val (.int (2 : Int32)), .val (.long x0), .second, .val (.long (x0 + y1)), .second, uu, uu, uu, uu, uu, uu, uu, uu, uu, uu, uu] [(.long ((p5 &&& (1048575 : Int32)).toInt64)), (.long (x0 + y1))])) _
    rw [← hy2]
    show Steps p.tables e below (T50.setTop (mkF m 80 #[.val (.int p1), .val (.int p2), .val (.int p3), .val (.int p4), .val (.int p5), .val (.int (0 : Int32)), .val (.ref wMIN), .val (.int (2 : Int32)), .val (.long x0), .second, .val (.long (x0 + y1)), .second, uu, uu, uu, uu, uu, uu, uu, uu, uu, uu, uu] [(.long y2), (.long (x0 + y1))])) _
    refine XS.ladd X50.here hx rfl (hb hby at_80) rfl ?_
    show Steps p.tables e below (T50.setTop (mkF m 81 #[.val (.int p1), .val (.int p2), .val (.int p3), .val (.int p4), .val (.int p5), .val (.int (0 : Int32)), .val (.ref wMIN), .val (.int (2 : Int32)), .val (.long x0), .second, .val (.long (x0 + y1)), .second, uu, uu, uu, uu, uu, uu, uu, uu, uu, uu, uu] [(.long ((x0 + y1) + y2))])) _
    refine XS.lstore X50.here hx rfl (hb hby at_81) rfl (l' := #[.val (.int p1), .val (.int p2), .val (.int p3), .val (.int p4), .val (.int p5), .val (.int (0 : Int32)), .val (.ref wMIN), .val (.int (2 : Int32)), .val (.long x0), .second, .val (.long (x0 + y1)), .second, .val (.long ((x0 + y1) + y2)), .second, uu, uu, uu, uu, uu, uu, uu, uu, uu]) rfl ?_
    show Steps p.tables e below (T50.setTop (mkF m 83 #[.val (.int p1), .val (.int p2), .val (.int p3), .val (.int p4), .val (.int p5), .val (.int (0 : Int32)), .val (.ref wMIN), .val (.int (2 : Int32)), .val (.long x0), .second, .val (.long (x0 + y1)), .second, .val (.long ((x0 + y1) + y2)), .second, uu, uu, uu, uu, uu, uu, uu, uu, uu] [])) _
    refine XS.iload X50.here hx rfl (hb hby at_83) rfl ?_
    show Steps p.tables e below (T50.setTop (mkF m 85 #[.val (.int p1), .val (.int p2), .val (.int p3), .val (.int p4), .val (.int p5), .val (.int (0 : Int32)), .val (.ref wMIN), .val (.int (2 : Int32)), .val (.long x0), .second, .val (.long (x0 + y1)), .second, .val (.long ((x0 + y1) + y2)), .second, uu, uu, uu, uu, uu, uu, uu, uu, uu] [(.int (2 : Int32))])) _
    refine XS.iconst X50.here hx rfl (hb hby at_85) ?_
    show Steps p.tables e below (T50.setTop (mkF m 86 #[.val (.int p1), .val (.int p2), .val (.int p3), .val (.int p4), .val (.int p5), .val (.int (0 : Int32)), .val (.ref wMIN), .val (.int (2 : Int32)), .val (.long x0), .second, .val (.long (x0 + y1)), .second, .val (.long ((x0 + y1) + y2)), .second, uu, uu, uu, uu, uu, uu, uu, uu, uu] [(.int (1 : Int32)), (.int (2 : Int32))])) _
    refine XS.icmpYes X50.here hx rfl (pc0 := 86) (pc' := 103) rfl (hb hby at_86) rfl (feq (by decide : ¬ ((2 : Int32) = (1 : Int32)))).2 (by decide) (by decide) ?_
    show Steps p.tables e below (T50.setTop (mkF m 103 #[.val (.int p1), .val (.int p2), .val (.int p3), .val (.int p4), .val (.int p5), .val (.int (0 : Int32)), .val (.ref wMIN), .val (.int (2 : Int32)), .val (.long x0), .second, .val (.long (x0 + y1)), .second, .val (.long ((x0 + y1) + y2)), .second, uu, uu, uu, uu, uu, uu, uu, uu, uu] [])) _
    refine XS.iload X50.here hx rfl (hb hby at_103) rfl ?_
    show Steps p.tables e below (T50.setTop (mkF m 105 #[.val (.int p1), .val (.int p2), .val (.int p3), .val (.int p4), .val (.int p5), .val (.int (0 : Int32)), .val (.ref wMIN), .val (.int (2 : Int32)), .val (.long x0), .second, .val (.long (x0 + y1)), .second, .val (.long ((x0 + y1) + y2)), .second, uu, uu, uu, uu, uu, uu, uu, uu, uu] [(.int (2 : Int32))])) _
    refine XS.iconst X50.here hx rfl (hb hby at_105) ?_
    show Steps p.tables e below (T50.setTop (mkF m 106 #[.val (.int p1), .val (.int p2), .val (.int p3), .val (.int p4), .val (.int p5), .val (.int (0 : Int32)), .val (.ref wMIN), .val (.int (2 : Int32)), .val (.long x0), .second, .val (.long (x0 + y1)), .second, .val (.long ((x0 + y1) + y2)), .second, uu, uu, uu, uu, uu, uu, uu, uu, uu] [(.int (2 : Int32)), (.int (2 : Int32))])) _
    refine XS.icmpNo X50.here hx rfl (hb hby at_106) rfl (teq (by decide : (2 : Int32) = (2 : Int32))).2 ?_
    show Steps p.tables e below (T50.setTop (mkF m 109 #[.val (.int p1), .val (.int p2), .val (.int p3), .val (.int p4), .val (.int p5), .val (.int (0 : Int32)), .val (.ref wMIN), .val (.int (2 : Int32)), .val (.long x0), .second, .val (.long (x0 + y1)), .second, .val (.long ((x0 + y1) + y2)), .second, uu, uu, uu, uu, uu, uu, uu, uu, uu] [])) _
    refine XS.iconst X50.here hx rfl (hb hby at_109) ?_
    show Steps p.tables e below (T50.setTop (mkF m 110 #[.val (.int p1), .val (.int p2), .val (.int p3), .val (.int p4), .val (.int p5), .val (.int (0 : Int32)), .val (.ref wMIN), .val (.int (2 : Int32)), .val (.long x0), .second, .val (.long (x0 + y1)), .second, .val (.long ((x0 + y1) + y2)), .second, uu, uu, uu, uu, uu, uu, uu, uu, uu] [(.int (2 : Int32))])) _
    refine sta_ _ ?_
    show Steps p.tables e below (Ta.setTop (mkF m 112 #[.val (.int p1), .val (.int p2), .val (.int p3), .val (.int p4), .val (.int p5), .val (.int (0 : Int32)), .val (.ref wMIN), .val (.int (2 : Int32)), .val (.long x0), .second, .val (.long (x0 + y1)), .second, .val (.long ((x0 + y1) + y2)), .second, uu, uu, uu, uu, uu, uu, uu, uu, uu] [(.ref b)])) _
    refine XS.dup Xa.here hx rfl (hb hby at_112) rfl rfl ?_
    show Steps p.tables e below (Ta.setTop (mkF m 113 #[.val (.int p1), .val (.int p2), .val (.int p3), .val (.int p4), .val (.int p5), .val (.int (0 : Int32)), .val (.ref wMIN), .val (.int (2 : Int32)), .val (.long x0), .second, .val (.long (x0 + y1)), .second, .val (.long ((x0 + y1) + y2)), .second, uu, uu, uu, uu, uu, uu, uu, uu, uu] [(.ref b), (.ref b)])) _
    refine XS.iconst Xa.here hx rfl (hb hby at_113) ?_
    show Steps p.tables e below (Ta.setTop (mkF m 114 #[.val (.int p1), .val (.int p2), .val (.int p3), .val (.int p4), .val (.int p5), .val (.int (0 : Int32)), .val (.ref wMIN), .val (.int (2 : Int32)), .val (.long x0), .second, .val (.long (x0 + y1)), .second, .val (.long ((x0 + y1) + y2)), .second, uu, uu, uu, uu, uu, uu, uu, uu, uu] [(.int (0 : Int32)), (.ref b), (.ref b)])) _
    refine XS.lload Xa.here hx rfl (hb hby at_114) rfl ?_
    show Steps p.tables e below (Ta.setTop (mkF m 116 #[.val (.int p1), .val (.int p2), .val (.int p3), .val (.int p4), .val (.int p5), .val (.int (0 : Int32)), .val (.ref wMIN), .val (.int (2 : Int32)), .val (.long x0), .second, .val (.long (x0 + y1)), .second, .val (.long ((x0 + y1) + y2)), .second, uu, uu, uu, uu, uu, uu, uu, uu, uu] [(.long x0), (.int (0 : Int32)), (.ref b), (.ref b)])) _
    refine XS.l2dS Xa.here hx rfl (hb hby at_116) rfl (v := FP.l2d x0) rfl ?_
    show Steps p.tables e below (Ta.setTop (mkF m 117 #[.val (.int p1), .val (.int p2), .val (.int p3), .val (.int p4), .val (.int p5), .val (.int (0 : Int32)), .val (.ref wMIN), .val (.int (2 : Int32)), .val (.long x0), .second, .val (.long (x0 + y1)), .second, .val (.long ((x0 + y1) + y2)), .second, uu, uu, uu, uu, uu, uu, uu, uu, uu] [(.double (FP.l2d x0)), (.int (0 : Int32)), (.ref b), (.ref b)])) _
    refine std0 _ ?_
    show Steps p.tables e below (Td0.setTop (mkF m 118 #[.val (.int p1), .val (.int p2), .val (.int p3), .val (.int p4), .val (.int p5), .val (.int (0 : Int32)), .val (.ref wMIN), .val (.int (2 : Int32)), .val (.long x0), .second, .val (.long (x0 + y1)), .second, .val (.long ((x0 + y1) + y2)), .second, uu, uu, uu, uu, uu, uu, uu, uu, uu] [(.ref b)])) _
    refine XS.dup Xd0.here hx rfl (hb hby at_118) rfl rfl ?_
    show Steps p.tables e below (Td0.setTop (mkF m 119 #[.val (.int p1), .val (.int p2), .val (.int p3), .val (.int p4), .val (.int p5), .val (.int (0 : Int32)), .val (.ref wMIN), .val (.int (2 : Int32)), .val (.long x0), .second, .val (.long (x0 + y1)), .second, .val (.long ((x0 + y1) + y2)), .second, uu, uu, uu, uu, uu, uu, uu, uu, uu] [(.ref b), (.ref b)])) _
    refine XS.iconst Xd0.here hx rfl (hb hby at_119) ?_
    show Steps p.tables e below (Td0.setTop (mkF m 120 #[.val (.int p1), .val (.int p2), .val (.int p3), .val (.int p4), .val (.int p5), .val (.int (0 : Int32)), .val (.ref wMIN), .val (.int (2 : Int32)), .val (.long x0), .second, .val (.long (x0 + y1)), .second, .val (.long ((x0 + y1) + y2)), .second, uu, uu, uu, uu, uu, uu, uu, uu, uu] [(.int (1 : Int32)), (.ref b), (.ref b)])) _
    refine XS.lload Xd0.here hx rfl (hb hby at_120) rfl ?_
    show Steps p.tables e below (Td0.setTop (mkF m 122 #[.val (.int p1), .val (.int p2), .val (.int p3), .val (.int p4), .val (.int p5), .val (.int (0 : Int32)), .val (.ref wMIN), .val (.int (2 : Int32)), .val (.long x0), .second, .val (.long (x0 + y1)), .second, .val (.long ((x0 + y1) + y2)), .second, uu, uu, uu, uu, uu, uu, uu, uu, uu] [(.long (x0 + y1)), (.int (1 : Int32)), (.ref b), (.ref b)])) _
    refine XS.l2dS Xd0.here hx rfl (hb hby at_122) rfl (v := FP.l2d (x0 + y1)) rfl ?_
    show Steps p.tables e below (Td0.setTop (mkF m 123 #[.val (.int p1), .val (.int p2), .val (.int p3), .val (.int p4), .val (.int p5), .val (.int (0 : Int32)), .val (.ref wMIN), .val (.int (2 : Int32)), .val (.long x0), .second, .val (.long (x0 + y1)), .second, .val (.long ((x0 + y1) + y2)), .second, uu, uu, uu, uu, uu, uu, uu, uu, uu] [(.double (FP.l2d (x0 + y1))), (.int (1 : Int32)), (.ref b), (.ref b)])) _
    refine std1 _ ?_
    show Steps p.tables e below (Td1.setTop (mkF m 124 #[.val (.int p1), .val (.int p2), .val (.int p3), .val (.int p4), .val (.int p5), .val (.int (0 : Int32)), .val (.ref wMIN), .val (.int (2 : Int32)), .val (.long x0), .second, .val (.long (x0 + y1)), .second, .val (.long ((x0 + y1) + y2)), .second, uu, uu, uu, uu, uu, uu, uu, uu, uu] [(.ref b)])) _
    refine XS.astore Xd1.here hx rfl (hb hby at_124) rfl rfl (l' := #[.val (.int p1), .val (.int p2), .val (.int p3), .val (.int p4), .val (.int p5), .val (.int (0 : Int32)), .val (.ref wMIN), .val (.int (2 : Int32)), .val (.long x0), .second, .val (.long (x0 + y1)), .second, .val (.long ((x0 + y1) + y2)), .second, .val (.ref b), uu, uu, uu, uu, uu, uu, uu, uu]) rfl ?_
    show Steps p.tables e below (Td1.setTop (mkF m 126 #[.val (.int p1), .val (.int p2), .val (.int p3), .val (.int p4), .val (.int p5), .val (.int (0 : Int32)), .val (.ref wMIN), .val (.int (2 : Int32)), .val (.long x0), .second, .val (.long (x0 + y1)), .second, .val (.long ((x0 + y1) + y2)), .second, .val (.ref b), uu, uu, uu, uu, uu, uu, uu, uu] [])) _
    refine XS.goto Xd1.here hx rfl (pc0 := 126) (pc' := 152) rfl (hb hby at_126) (by decide) (by decide) ?_
    show Steps p.tables e below (Td1.setTop (mkF m 152 #[.val (.int p1), .val (.int p2), .val (.int p3), .val (.int p4), .val (.int p5), .val (.int (0 : Int32)), .val (.ref wMIN), .val (.int (2 : Int32)), .val (.long x0), .second, .val (.long (x0 + y1)), .second, .val (.long ((x0 + y1) + y2)), .second, .val (.ref b), uu, uu, uu, uu, uu, uu, uu, uu] [])) _
    refine XS.iload Xd1.here hx rfl (hb hby at_152) rfl ?_
    show Steps p.tables e below (Td1.setTop (mkF m 154 #[.val (.int p1), .val (.int p2), .val (.int p3), .val (.int p4), .val (.int p5), .val (.int (0 : Int32)), .val (.ref wMIN), .val (.int (2 : Int32)), .val (.long x0), .second, .val (.long (x0 + y1)), .second, .val (.long ((x0 + y1) + y2)), .second, .val (.ref b), uu, uu, uu, uu, uu, uu, uu, uu] [(.int (2 : Int32))])) _
    refine XS.iconst Xd1.here hx rfl (hb hby at_154) ?_
    show Steps p.tables e below (Td1.setTop (mkF m 155 #[.val (.int p1), .val (.int p2), .val (.int p3), .val (.int p4), .val (.int p5), .val (.int (0 : Int32)), .val (.ref wMIN), .val (.int (2 : Int32)), .val (.long x0), .second, .val (.long (x0 + y1)), .second, .val (.long ((x0 + y1) + y2)), .second, .val (.ref b), uu, uu, uu, uu, uu, uu, uu, uu] [(.int (1 : Int32)), (.int (2 : Int32))])) _
    refine XS.icmpYes Xd1.here hx rfl (pc0 := 155) (pc' := 163) rfl (hb hby at_155) rfl (feq (by decide : ¬ ((2 : Int32) = (1 : Int32)))).2 (by decide) (by decide) ?_
    show Steps p.tables e below (Td1.setTop (mkF m 163 #[.val (.int p1), .val (.int p2), .val (.int p3), .val (.int p4), .val (.int p5), .val (.int (0 : Int32)), .val (.ref wMIN), .val (.int (2 : Int32)), .val (.long x0), .second, .val (.long (x0 + y1)), .second, .val (.long ((x0 + y1) + y2)), .second, .val (.ref b), uu, uu, uu, uu, uu, uu, uu, uu] [])) _
    refine XS.iload Xd1.here hx rfl (hb hby at_163) rfl ?_
    show Steps p.tables e below (Td1.setTop (mkF m 165 #[.val (.int p1), .val (.int p2), .val (.int p3), .val (.int p4), .val (.int p5), .val (.int (0 : Int32)), .val (.ref wMIN), .val (.int (2 : Int32)), .val (.long x0), .second, .val (.long (x0 + y1)), .second, .val (.long ((x0 + y1) + y2)), .second, .val (.ref b), uu, uu, uu, uu, uu, uu, uu, uu] [(.int (2 : Int32))])) _
    refine XS.iconst Xd1.here hx rfl (hb hby at_165) ?_
    show Steps p.tables e below (Td1.setTop (mkF m 166 #[.val (.int p1), .val (.int p2), .val (.int p3), .val (.int p4), .val (.int p5), .val (.int (0 : Int32)), .val (.ref wMIN), .val (.int (2 : Int32)), .val (.long x0), .second, .val (.long (x0 + y1)), .second, .val (.long ((x0 + y1) + y2)), .second, .val (.ref b), uu, uu, uu, uu, uu, uu, uu, uu] [(.int (2 : Int32)), (.int (2 : Int32))])) _
    refine XS.icmpNo Xd1.here hx rfl (hb hby at_166) rfl (teq (by decide : (2 : Int32) = (2 : Int32))).2 ?_
    show Steps p.tables e below (Td1.setTop (mkF m 169 #[.val (.int p1), .val (.int p2), .val (.int p3), .val (.int p4), .val (.int p5), .val (.int (0 : Int32)), .val (.ref wMIN), .val (.int (2 : Int32)), .val (.long x0), .second, .val (.long (x0 + y1)), .second, .val (.long ((x0 + y1) + y2)), .second, .val (.ref b), uu, uu, uu, uu, uu, uu, uu, uu] [])) _
    refine XS.lload Xd1.here hx rfl (hb hby at_169) rfl ?_
    show Steps p.tables e below (Td1.setTop (mkF m 171 #[.val (.int p1), .val (.int p2), .val (.int p3), .val (.int p4), .val (.int p5), .val (.int (0 : Int32)), .val (.ref wMIN), .val (.int (2 : Int32)), .val (.long x0), .second, .val (.long (x0 + y1)), .second, .val (.long ((x0 + y1) + y2)), .second, .val (.ref b), uu, uu, uu, uu, uu, uu, uu, uu] [(.long (x0 + y1))])) _
    refine XS.goto Xd1.here hx rfl (pc0 := 171) (pc' := 176) rfl (hb hby at_171) (by decide) (by decide) ?_
    show Steps p.tables e below (Td1.setTop (mkF m 176 #[.val (.int p1), .val (.int p2), .val (.int p3), .val (.int p4), .val (.int p5), .val (.int (0 : Int32)), .val (.ref wMIN), .val (.int (2 : Int32)), .val (.long x0), .second, .val (.long (x0 + y1)), .second, .val (.long ((x0 + y1) + y2)), .second, .val (.ref b), uu, uu, uu, uu, uu, uu, uu, uu] [(.long (x0 + y1))])) _
    refine XS.lstore Xd1.here hx rfl (hb hby at_176) rfl (l' := #[.val (.int p1), .val (.int p2), .val (.int p3), .val (.int p4), .val (.int p5), .val (.int (0 : Int32)), .val (.ref wMIN), .val (.int (2 : Int32)), .val (.long x0), .second, .val (.long (x0 + y1)), .second, .val (.long ((x0 + y1) + y2)), .second, .val (.ref b), .val (.long (x0 + y1)), .second, uu, uu, uu, uu, uu, uu]) rfl ?_
    show Steps p.tables e below (Td1.setTop (mkF m 178 #[.val (.int p1), .val (.int p2), .val (.int p3), .val (.int p4), .val (.int p5), .val (.int (0 : Int32)), .val (.ref wMIN), .val (.int (2 : Int32)), .val (.long x0), .second, .val (.long (x0 + y1)), .second, .val (.long ((x0 + y1) + y2)), .second, .val (.ref b), .val (.long (x0 + y1)), .second, uu, uu, uu, uu, uu, uu] [])) _
    refine XS.iload Xd1.here hx rfl (hb hby at_178) rfl ?_
    show Steps p.tables e below (Td1.setTop (mkF m 180 #[.val (.int p1), .val (.int p2), .val (.int p3), .val (.int p4), .val (.int p5), .val (.int (0 : Int32)), .val (.ref wMIN), .val (.int (2 : Int32)), .val (.long x0), .second, .val (.long (x0 + y1)), .second, .val (.long ((x0 + y1) + y2)), .second, .val (.ref b), .val (.long (x0 + y1)), .second, uu, uu, uu, uu, uu, uu] [(.int (2 : Int32))])) _
    refine XS.iconst Xd1.here hx rfl (hb hby at_180) ?_
    show Steps p.tables e below (Td1.setTop (mkF m 181 #[.val (.int p1), .val (.int p2), .val (.int p3), .val (.int p4), .val (.int p5), .val (.int (0 : Int32)), .val (.ref wMIN), .val (.int (2 : Int32)), .val (.long x0), .second, .val (.long (x0 + y1)), .second, .val (.long ((x0 + y1) + y2)), .second, .val (.ref b), .val (.long (x0 + y1)), .second, uu, uu, uu, uu, uu, uu] [(.int (1 : Int32)), (.int (2 : Int32))])) _
    refine XS.icmpYes Xd1.here hx rfl (pc0 := 181) (pc' := 189) rfl (hb hby at_181) rfl (feq (by decide : ¬ ((2 : Int32) = (1 : Int32)))).2 (by decide) (by decide) ?_
    show Steps p.tables e below (Td1.setTop (mkF m 189 #[.val (.int p1), .val (.int p2), .val (.int p3), .val (.int p4), .val (.int p5), .val (.int (0 : Int32)), .val (.ref wMIN), .val (.int (2 : Int32)), .val (.long x0), .second, .val (.long (x0 + y1)), .second, .val (.long ((x0 + y1) + y2)), .second, .val (.ref b), .val (.long (x0 + y1)), .second, uu, uu, uu, uu, uu, uu] [])) _
    refine XS.iload Xd1.here hx rfl (hb hby at_189) rfl ?_
    show Steps p.tables e below (Td1.setTop (mkF m 191 #[.val (.int p1), .val (.int p2), .val (.int p3), .val (.int p4), .val (.int p5), .val (.int (0 : Int32)), .val (.ref wMIN), .val (.int (2 : Int32)), .val (.long x0), .second, .val (.long (x0 + y1)), .second, .val (.long ((x0 + y1) + y2)), .second, .val (.ref b), .val (.long (x0 + y1)), .second, uu, uu, uu, uu, uu, uu] [(.int (2 : Int32))])) _
    refine XS.iconst Xd1.here hx rfl (hb hby at_191) ?_
    show Steps p.tables e below (Td1.setTop (mkF m 192 #[.val (.int p1), .val (.int p2), .val (.int p3), .val (.int p4), .val (.int p5), .val (.int (0 : Int32)), .val (.ref wMIN), .val (.int (2 : Int32)), .val (.long x0), .second, .val (.long (x0 + y1)), .second, .val (.long ((x0 + y1) + y2)), .second, .val (.ref b), .val (.long (x0 + y1)), .second, uu, uu, uu, uu, uu, uu] [(.int (2 : Int32)), (.int (2 : Int32))])) _
    refine XS.icmpNo Xd1.here hx rfl (hb hby at_192) rfl (teq (by decide : (2 : Int32) = (2 : Int32))).2 ?_
    show Steps p.tables e below (Td1.setTop (mkF m 195 #[.val (.int p1), .val (.int p2), .val (.int p3), .val (.int p4), .val (.int p5), .val (.int (0 : Int32)), .val (.ref wMIN), .val (.int (2 : Int32)), .val (.long x0), .second, .val (.long (x0 + y1)), .second, .val (.long ((x0 + y1) + y2)), .second, .val (.ref b), .val (.long (x0 + y1)), .second, uu, uu, uu, uu, uu, uu] [])) _
    refine XS.lload Xd1.here hx rfl (hb hby at_195) rfl ?_
    show Steps p.tables e below (Td1.setTop (mkF m 197 #[.val (.int p1), .val (.int p2), .val (.int p3), .val (.int p4), .val (.int p5), .val (.int (0 : Int32)), .val (.ref wMIN), .val (.int (2 : Int32)), .val (.long x0), .second, .val (.long (x0 + y1)), .second, .val (.long ((x0 + y1) + y2)), .second, .val (.ref b), .val (.long (x0 + y1)), .second, uu, uu, uu, uu, uu, uu] [(.long x0)])) _
    refine XS.lload Xd1.here hx rfl (hb hby at_197) rfl ?_
    show Steps p.tables e below (Td1.setTop (mkF m 199 #[.val (.int p1), .val (.int p2), .val (.int p3), .val (.int p4), .val (.int p5), .val (.int (0 : Int32)), .val (.ref wMIN), .val (.int (2 : Int32)), .val (.long x0), .second, .val (.long (x0 + y1)), .second, .val (.long ((x0 + y1) + y2)), .second, .val (.ref b), .val (.long (x0 + y1)), .second, uu, uu, uu, uu, uu, uu] [(.long (x0 + y1)), (.long x0)])) _
    refine XS.ladd Xd1.here hx rfl (hb hby at_199) rfl ?_
    show Steps p.tables e below (Td1.setTop (mkF m 200 #[.val (.int p1), .val (.int p2), .val (.int p3), .val (.int p4), .val (.int p5), .val (.int (0 : Int32)), .val (.ref wMIN), .val (.int (2 : Int32)), .val (.long x0), .second, .val (.long (x0 + y1)), .second, .val (.long ((x0 + y1) + y2)), .second, .val (.ref b), .val (.long (x0 + y1)), .second, uu, uu, uu, uu, uu, uu] [(.long (x0 + (x0 + y1)))])) _
    refine XS.goto Xd1.here hx rfl (pc0 := 200) (pc' := 211) rfl (hb hby at_200) (by decide) (by decide) ?_
    show Steps p.tables e below (Td1.setTop (mkF m 211 #[.val (.int p1), .val (.int p2), .val (.int p3), .val (.int p4), .val (.int p5), .val (.int (0 : Int32)), .val (.ref wMIN), .val (.int (2 : Int32)), .val (.long x0), .second, .val (.long (x0 + y1)), .second, .val (.long ((x0 + y1) + y2)), .second, .val (.ref b), .val (.long (x0 + y1)), .second, uu, uu, uu, uu, uu, uu] [(.long (x0 + (x0 + y1)))])) _
    refine XS.lstore Xd1.here hx rfl (hb hby at_211) rfl (l' := #[.val (.int p1), .val (.int p2), .val (.int p3), .val (.int p4), .val (.int p5), .val (.int (0 : Int32)), .val (.ref wMIN), .val (.int (2 : Int32)), .val (.long x0), .second, .val (.long (x0 + y1)), .second, .val (.long ((x0 + y1) + y2)), .second, .val (.ref b), .val (.long (x0 + y1)), .second, .val (.long (x0 + (x0 + y1))), .second, uu, uu, uu, uu]) rfl ?_
    show Steps p.tables e below (Td1.setTop (mkF m 213 #[.val (.int p1), .val (.int p2), .val (.int p3), .val (.int p4), .val (.int p5), .val (.int (0 : Int32)), .val (.ref wMIN), .val (.int (2 : Int32)), .val (.long x0), .second, .val (.long (x0 + y1)), .second, .val (.long ((x0 + y1) + y2)), .second, .val (.ref b), .val (.long (x0 + y1)), .second, .val (.long (x0 + (x0 + y1))), .second, uu, uu, uu, uu] [])) _
    refine XS.iload Xd1.here hx rfl (hb hby at_213) rfl ?_
    show Steps p.tables e below (Td1.setTop (mkF m 215 #[.val (.int p1), .val (.int p2), .val (.int p3), .val (.int p4), .val (.int p5), .val (.int (0 : Int32)), .val (.ref wMIN), .val (.int (2 : Int32)), .val (.long x0), .second, .val (.long (x0 + y1)), .second, .val (.long ((x0 + y1) + y2)), .second, .val (.ref b), .val (.long (x0 + y1)), .second, .val (.long (x0 + (x0 + y1))), .second, uu, uu, uu, uu] [(.int (0 : Int32))])) _
    refine XS.ifNo Xd1.here hx rfl (hb hby at_215) rfl ((if0 _ _).trans (teq (by decide : (0 : Int32) = (0 : Int32))).2) ?_
    show Steps p.tables e below (Td1.setTop (mkF m 218 #[.val (.int p1), .val (.int p2), .val (.int p3), .val (.int p4), .val (.int p5), .val (.int (0 : Int32)), .val (.ref wMIN), .val (.int (2 : Int32)), .val (.long x0), .second, .val (.long (x0 + y1)), .second, .val (.long ((x0 + y1) + y2)), .second, .val (.ref b), .val (.long (x0 + y1)), .second, .val (.long (x0 + (x0 + y1))), .second, uu, uu, uu, uu] [])) _
    refine XS.lload Xd1.here hx rfl (hb hby at_218) rfl ?_
    show Steps p.tables e below (Td1.setTop (mkF m 220 #[.val (.int p1), .val (.int p2), .val (.int p3), .val (.int p4), .val (.int p5), .val (.int (0 : Int32)), .val (.ref wMIN), .val (.int (2 : Int32)), .val (.long x0), .second, .val (.long (x0 + y1)), .second, .val (.long ((x0 + y1) + y2)), .second, .val (.ref b), .val (.long (x0 + y1)), .second, .val (.long (x0 + (x0 + y1))), .second, uu, uu, uu, uu] [(.long x0)])) _
    refine XS.l2dS Xd1.here hx rfl (hb hby at_220) rfl (v := FP.l2d x0) rfl ?_
    show Steps p.tables e below (Td1.setTop (mkF m 221 #[.val (.int p1), .val (.int p2), .val (.int p3), .val (.int p4), .val (.int p5), .val (.int (0 : Int32)), .val (.ref wMIN), .val (.int (2 : Int32)), .val (.long x0), .second, .val (.long (x0 + y1)), .second, .val (.long ((x0 + y1) + y2)), .second, .val (.ref b), .val (.long (x0 + y1)), .second, .val (.long (x0 + (x0 + y1))), .second, uu, uu, uu, uu] [(.double (FP.l2d x0))])) _
    refine XS.dstore Xd1.here hx rfl (hb hby at_221) rfl (l' := #[.val (.int p1), .val (.int p2), .val (.int p3), .val (.int p4), .val (.int p5), .val (.int (0 : Int32)), .val (.ref wMIN), .val (.int (2 : Int32)), .val (.long x0), .second, .val (.long (x0 + y1)), .second, .val (.long ((x0 + y1) + y2)), .second, .val (.ref b), .val (.long (x0 + y1)), .second, .val (.long (x0 + (x0 + y1))), .second, .val (.double (FP.l2d x0)), .second, uu, uu]) rfl ?_
    show Steps p.tables e below (Td1.setTop (mkF m 223 #[.val (.int p1), .val (.int p2), .val (.int p3), .val (.int p4), .val (.int p5), .val (.int (0 : Int32)), .val (.ref wMIN), .val (.int (2 : Int32)), .val (.long x0), .second, .val (.long (x0 + y1)), .second, .val (.long ((x0 + y1) + y2)), .second, .val (.ref b), .val (.long (x0 + y1)), .second, .val (.long (x0 + (x0 + y1))), .second, .val (.double (FP.l2d x0)), .second, uu, uu] [])) _
    refine XS.goto Xd1.here hx rfl (pc0 := 223) (pc' := 263) rfl (hb hby at_223) (by decide) (by decide) ?_
    show Steps p.tables e below (Td1.setTop (mkF m 263 #[.val (.int p1), .val (.int p2), .val (.int p3), .val (.int p4), .val (.int p5), .val (.int (0 : Int32)), .val (.ref wMIN), .val (.int (2 : Int32)), .val (.long x0), .second, .val (.long (x0 + y1)), .second, .val (.long ((x0 + y1) + y2)), .second, .val (.ref b), .val (.long (x0 + y1)), .second, .val (.long (x0 + (x0 + y1))), .second, .val (.double (FP.l2d x0)), .second, uu, uu] [])) _
    refine XS.aload Xd1.here hx rfl (hb hby at_263) rfl rfl ?_
    show Steps p.tables e below (Td1.setTop (mkF m 265 #[.val (.int p1), .val (.int p2), .val (.int p3), .val (.int p4), .val (.int p5), .val (.int (0 : Int32)), .val (.ref wMIN), .val (.int (2 : Int32)), .val (.long x0), .second, .val (.long (x0 + y1)), .second, .val (.long ((x0 + y1) + y2)), .second, .val (.ref b), .val (.long (x0 + y1)), .second, .val (.long (x0 + (x0 + y1))), .second, .val (.double (FP.l2d x0)), .second, uu, uu] [(.ref wMIN)])) _
    refine XS.aload Xd1.here hx rfl (hb hby at_265) rfl rfl ?_
    show Steps p.tables e below (Td1.setTop (mkF m 267 #[.val (.int p1), .val (.int p2), .val (.int p3), .val (.int p4), .val (.int p5), .val (.int (0 : Int32)), .val (.ref wMIN), .val (.int (2 : Int32)), .val (.long x0), .second, .val (.long (x0 + y1)), .second, .val (.long ((x0 + y1) + y2)), .second, .val (.ref b), .val (.long (x0 + y1)), .second, .val (.long (x0 + (x0 + y1))), .second, .val (.double (FP.l2d x0)), .second, uu, uu] [(.ref b), (.ref wMIN)])) _
    refine stc.trans ?_
    show Steps p.tables e below (Tc.setTop (mkF m 270 #[.val (.int p1), .val (.int p2), .val (.int p3), .val (.int p4), .val (.int p5), .val (.int (0 : Int32)), .val (.ref wMIN), .val (.int (2 : Int32)), .val (.long x0), .second, .val (.long (x0 + y1)), .second, .val (.long ((x0 + y1) + y2)), .second, .val (.ref b), .val (.long (x0 + y1)), .second, .val (.long (x0 + (x0 + y1))), .second, .val (.double (FP.l2d x0)), .second, uu, uu] [(.double (FP.l2d x0))])) _
    refine XS.dstore Xc.here hx rfl (hb hby at_270) rfl (l' := #[.val (.int p1), .val (.int p2), .val (.int p3), .val (.int p4), .val (.int p5), .val (.int (0 : Int32)), .val (.ref wMIN), .val (.int (2 : Int32)), .val (.long x0), .second, .val (.long (x0 + y1)), .second, .val (.long ((x0 + y1) + y2)), .second, .val (.ref b), .val (.long (x0 + y1)), .second, .val (.long (x0 + (x0 + y1))), .second, .val (.double (FP.l2d x0)), .second, .val (.double (FP.l2d x0)), .second]) rfl ?_
    show Steps p.tables e below (Tc.setTop (mkF m 272 #[.val (.int p1), .val (.int p2), .val (.int p3), .val (.int p4), .val (.int p5), .val (.int (0 : Int32)), .val (.ref wMIN), .val (.int (2 : Int32)), .val (.long x0), .second, .val (.long (x0 + y1)), .second, .val (.long ((x0 + y1) + y2)), .second, .val (.ref b), .val (.long (x0 + y1)), .second, .val (.long (x0 + (x0 + y1))), .second, .val (.double (FP.l2d x0)), .second, .val (.double (FP.l2d x0)), .second] [])) _
    refine XS.dload Xc.here hx rfl (hb hby at_272) rfl ?_
    show Steps p.tables e below (Tc.setTop (mkF m 274 #[.val (.int p1), .val (.int p2), .val (.int p3), .val (.int p4), .val (.int p5), .val (.int (0 : Int32)), .val (.ref wMIN), .val (.int (2 : Int32)), .val (.long x0), .second, .val (.long (x0 + y1)), .second, .val (.long ((x0 + y1) + y2)), .second, .val (.ref b), .val (.long (x0 + y1)), .second, .val (.long (x0 + (x0 + y1))), .second, .val (.double (FP.l2d x0)), .second, .val (.double (FP.l2d x0)), .second] [(.double (FP.l2d x0))])) _
    refine XS.dload Xc.here hx rfl (hb hby at_274) rfl ?_
    show Steps p.tables e below (Tc.setTop (mkF m 276 #[.val (.int p1), .val (.int p2), .val (.int p3), .val (.int p4), .val (.int p5), .val (.int (0 : Int32)), .val (.ref wMIN), .val (.int (2 : Int32)), .val (.long x0), .second, .val (.long (x0 + y1)), .second, .val (.long ((x0 + y1) + y2)), .second, .val (.ref b), .val (.long (x0 + y1)), .second, .val (.long (x0 + (x0 + y1))), .second, .val (.double (FP.l2d x0)), .second, .val (.double (FP.l2d x0)), .second] [(.double (FP.l2d x0)), (.double (FP.l2d x0))])) _
    refine XS.dcmpS Xc.here hx rfl (hb hby at_276) rfl (v := (0 : Int32)) (dcmpV_self (own_l2d _) _) ?_
    show Steps p.tables e below (Tc.setTop (mkF m 277 #[.val (.int p1), .val (.int p2), .val (.int p3), .val (.int p4), .val (.int p5), .val (.int (0 : Int32)), .val (.ref wMIN), .val (.int (2 : Int32)), .val (.long x0), .second, .val (.long (x0 + y1)), .second, .val (.long ((x0 + y1) + y2)), .second, .val (.ref b), .val (.long (x0 + y1)), .second, .val (.long (x0 + (x0 + y1))), .second, .val (.double (FP.l2d x0)), .second, .val (.double (FP.l2d x0)), .second] [(.int (0 : Int32))])) _
    refine XS.ifNo Xc.here hx rfl (hb hby at_277) rfl ((if0 _ _).trans (teq (by decide : (0 : Int32) = (0 : Int32))).2) ?_
    show Steps p.tables e below (Tc.setTop (mkF m 280 #[.val (.int p1), .val (.int p2), .val (.int p3), .val (.int p4), .val (.int p5), .val (.int (0 : Int32)), .val (.ref wMIN), .val (.int (2 : Int32)), .val (.long x0), .second, .val (.long (x0 + y1)), .second, .val (.long ((x0 + y1) + y2)), .second, .val (.ref b), .val (.long (x0 + y1)), .second, .val (.long (x0 + (x0 + y1))), .second, .val (.double (FP.l2d x0)), .second, .val (.double (FP.l2d x0)), .second] [])) _
    refine XS.iconst Xc.here hx rfl (hb hby at_280) ?_
    show Steps p.tables e below (Tc.setTop (mkF m 281 #[.val (.int p1), .val (.int p2), .val (.int p3), .val (.int p4), .val (.int p5), .val (.int (0 : Int32)), .val (.ref wMIN), .val (.int (2 : Int32)), .val (.long x0), .second, .val (.long (x0 + y1)), .second, .val (.long ((x0 + y1) + y2)), .second, .val (.ref b), .val (.long (x0 + y1)), .second, .val (.long (x0 + (x0 + y1))), .second, .val (.double (FP.l2d x0)), .second, .val (.double (FP.l2d x0)), .second] [(.int (1 : Int32))])) _
    refine XS.goto Xc.here hx rfl (pc0 := 281) (pc' := 285) rfl (hb hby at_281) (by decide) (by decide) ?_
    show Steps p.tables e below (Tc.setTop (mkF m 285 #[.val (.int p1), .val (.int p2), .val (.int p3), .val (.int p4), .val (.int p5), .val (.int (0 : Int32)), .val (.ref wMIN), .val (.int (2 : Int32)), .val (.long x0), .second, .val (.long (x0 + y1)), .second, .val (.long ((x0 + y1) + y2)), .second, .val (.ref b), .val (.long (x0 + y1)), .second, .val (.long (x0 + (x0 + y1))), .second, .val (.double (FP.l2d x0)), .second, .val (.double (FP.l2d x0)), .second] [(.int (1 : Int32))])) _
    exact retN Xc hx (t := .boolean) Bd.returns (by simp) (hb hby at_285) hr
  · show Q0 h0 n0 _ Tc.heap _
    exact ⟨rfl, Nc⟩
set_option maxRecDepth 65536 in
set_option maxHeartbeats 40000000 in
theorem rm0_0_3 (l : Launch) (Z : State) (a0 : Array Value) (hw : ∀ d ∈ tables_1, d.before a0 Z = true) (ws : List Jvm.Cond) (p1 p2 p3 p4 p5 : Int32) (wMIN wMAX wAVG wSUM : Addr) (x0 y1 y2 : Int64) (h0 : Heap) (n0 : Nat) (Z0 : n0 ≤ h0.size) (S_MIN : Sta Z h0 "com/example/tiebreaker/tiebreaker/engine/search/DecayFunction$MultiValueMode" "MIN" "Lcom/example/tiebreaker/tiebreaker/engine/search/DecayFunction$MultiValueMode;" (.ref wMIN)) (S_MAX : Sta Z h0 "com/example/tiebreaker/tiebreaker/engine/search/DecayFunction$MultiValueMode" "MAX" "Lcom/example/tiebreaker/tiebreaker/engine/search/DecayFunction$MultiValueMode;" (.ref wMAX)) (S_AVG : Sta Z h0 "com/example/tiebreaker/tiebreaker/engine/search/DecayFunction$MultiValueMode" "AVG" "Lcom/example/tiebreaker/tiebreaker/engine/search/DecayFunction$MultiValueMode;" (.ref wAVG)) (S_SUM : Sta Z h0 "com/example/tiebreaker/tiebreaker/engine/search/DecayFunction$MultiValueMode" "SUM" "Lcom/example/tiebreaker/tiebreaker/engine/search/DecayFunction$MultiValueMode;" (.ref wSUM)) (nXI : ¬ wMAX = wMIN) (nAI : ¬ wAVG = wMIN) (nAX : ¬ wAVG = wMAX) (nSI : ¬ wSUM = wMIN) (nSX : ¬ wSUM = wMAX) (nAS : ¬ wAVG = wSUM) (E_m : Exa Z h0 wMIN "com/example/tiebreaker/tiebreaker/engine/search/DecayFunction$MultiValueMode") (hx0 : x0 = (p3 &&& (1048575 : Int32)).toInt64) (hy1 : y1 = (p4 &&& (1048575 : Int32)).toInt64) (hy2 : y2 = (p5 &&& (1048575 : Int32)).toInt64) (b0 : 0 ≤ x0.toInt ∧ x0.toInt < 4000000) (b1 : 0 ≤ (x0 + y1).toInt ∧ (x0 + y1).toInt < 4000000) (b2 : 0 ≤ ((x0 + y1) + y2).toInt ∧ ((x0 + y1) + y2).toInt < 4000000) (hm : (p1 &&& (3 : Int32)) = (0 : Int32)) (hn : (((p2 &&& (2147483647 : Int32)) % (3 : Int32)) + (1 : Int32)) = (3 : Int32)) :
    MetFree l x (head1 (Jvm.Cond.code x code maxLocals ret :: ws) room_1) (fun a U => a = #[(.int p1), (.int p2), (.int p3), (.int p4), (.int p5)] ∧ Z.Warmed39 U.vm ∧ U.heap = h0) (fun _ _ _ _ _ => True) (fun _ U o U' => ∃ v L, o = .returned v ∧ Q0 h0 n0 v U'.heap L ∧ FrameEnd U o U' L room_1.cells room_1.slots) := by
  refine MetFree.of_bodySF (plainFor_of_name pn_0) hisR ?_
  intro p e s m args below meth c s₁ Bd hml0 hP hK
  obtain ⟨rfl, hZ, hh⟩ := hP
  have hx := Bd.exec
  have hby := Bd.bytes
  have hml : c.maxLocals = 23 := hml0
  have hown : s.vm.findClass "com/example/tiebreaker/tiebreaker/engine/search/MultiValueModePickPinLaw" = some m.cls := findClass_of_methodNamed Bd.named
  have X0 : Stand p l e room_1 s m #[(.int p1), (.int p2), (.int p3), (.int p4), (.int p5)] below meth c s₁ [] 0 0 := Stand.of_body Bd
  have e0 : s₁.heap = h0 := by rw [← hh, Bd.state]; rfl
  have N0 := Fr.nil n0
  have pre0 : ∀ t, Steps p.tables e below (s₁.setTop (mkF m 0 #[.val (.int p1), .val (.int p2), .val (.int p3), .val (.int p4), .val (.int p5), uu, uu, uu, uu, uu, uu, uu, uu, uu, uu, uu, uu, uu, uu, uu, uu, uu, uu] [])) t → Steps p.tables e below (s₁.setTop (entryFrame m #[(.int p1), (.int p2), (.int p3), (.int p4), (.int p5)] maxLocals)) t := fun t k => castTop (ef_0 m p1 p2 p3 p4 p5) k
  obtain ⟨T50, X50, e50, st50⟩ := getS2 X0 hx hZ hown (host := "") (Or.inl (hw _ (List.mem_of_getElem? (i := 0) rfl))) Via.refl e0 S_MIN (g := (mkF m 10 #[.val (.int p1), .val (.int p2), .val (.int p3), .val (.int p4), .val (.int p5), .val (.int (0 : Int32)), uu, uu, uu, uu, uu, uu, uu, uu, uu, uu, uu, uu, uu, uu, uu, uu, uu] [])) rfl (hb hby at_10)
  obtain ⟨Ta, ha, ka, Xa, ea, Ea, Aa, sta_⟩ := newP X50 hx hZ (hw _ (List.mem_of_getElem? (i := 5) rfl)) e50 (g := (mkF m 130 #[.val (.int p1), .val (.int p2), .val (.int p3), .val (.int p4), .val (.int p5), .val (.int (0 : Int32)), .val (.ref wMIN), .val (.int (3 : Int32)), .val (.long x0), .second, .val (.long (x0 + y1)), .second, .val (.long ((x0 + y1) + y2)), .second, uu, uu, uu, uu, uu, uu, uu, uu, uu] [(.int (3 : Int32))])) rfl (hb hby at_130) rfl (by decide) (cap := 3) (by decide) (by decide) (by decide) (by decide)
  obtain ⟨b, gb⟩ : ∃ z, z = h0.size := ⟨_, rfl⟩
  rw [← gb] at Aa sta_
  have V0 : Arv Z ha b ka .double (3 : Int32) [] (.double (FP.l2d 0)) := Arv.newD Aa (by decide)
  have Vp : Arv Z ha b ka .double (3 : Int32) (List.replicate 3 (.double (FP.l2d 0))) (.double (FP.l2d 0)) := V0.pad (pad_rep [] (.double (FP.l2d 0)) 3)
  have g_b : n0 ≤ b := Nat.le_trans Z0 (Nat.le_of_eq gb.symm)
  have sz_b : h0.size ≤ b := Nat.le_of_eq gb.symm
  have Ka : Keep h0 ha [] := (Keep.refl h0 []).ext Ea
  obtain ⟨cl0, Ar0, q0, Sz0, M0, H0, U0⟩ := Vp
  obtain ⟨Td0, hd0, Xd0, ed0, Wd0, std0⟩ := stD Xa hx hZ ea Ar0 (j := (0 : Int32)) (inb_of Sz0 (by decide)) (g := (mkF m 137 #[.val (.int p1), .val (.int p2), .val (.int p3), .val (.int p4), .val (.int p5), .val (.int (0 : Int32)), .val (.ref wMIN), .val (.int (3 : Int32)), .val (.long x0), .second, .val (.long (x0 + y1)), .second, .val (.long ((x0 + y1) + y2)), .second, uu, uu, uu, uu, uu, uu, uu, uu, uu] [(.double (FP.l2d x0)), (.int (0 : Int32)), (.ref b), (.ref b)])) rfl rfl (hb hby at_137)
  have V1 := Arv.set Ar0 q0 Sz0 M0 H0 U0 (v := (.double (FP.l2d x0))) rfl Wd0 0 rfl (by simp)
  have Nd0 := Fr.snoc Xd0 N0 g_b
  have Kd0 : Keep h0 hd0 [] := Ka.wr Wd0 (Or.inr sz_b)
  obtain ⟨cl1, Ar1, q1, Sz1, M1, H1, U1⟩ := V1
  obtain ⟨Td1, hd1, Xd1, ed1, Wd1, std1⟩ := stD Xd0 hx hZ ed0 Ar1 (j := (1 : Int32)) (inb_of Sz1 (by decide)) (g := (mkF m 143 #[.val (.int p1), .val (.int p2), .val (.int p3), .val (.int p4), .val (.int p5), .val (.int (0 : Int32)), .val (.ref wMIN), .val (.int (3 : Int32)), .val (.long x0), .second, .val (.long (x0 + y1)), .second, .val (.long ((x0 + y1) + y2)), .second, uu, uu, uu, uu, uu, uu, uu, uu, uu] [(.double (FP.l2d (x0 + y1))), (.int (1 : Int32)), (.ref b), (.ref b)])) rfl rfl (hb hby at_143)
  have V2 := Arv.set Ar1 q1 Sz1 M1 H1 U1 (v := (.double (FP.l2d (x0 + y1)))) rfl Wd1 1 rfl (by simp)
  have Nd1 := Fr.snoc Xd1 Nd0 g_b
  have Kd1 : Keep h0 hd1 [] := Kd0.wr Wd1 (Or.inr sz_b)
  obtain ⟨cl2, Ar2, q2, Sz2, M2, H2, U2⟩ := V2
  obtain ⟨Td2, hd2, Xd2, ed2, Wd2, std2⟩ := stD Xd1 hx hZ ed1 Ar2 (j := (2 : Int32)) (inb_of Sz2 (by decide)) (g := (mkF m 149 #[.val (.int p1), .val (.int p2), .val (.int p3), .val (.int p4), .val (.int p5), .val (.int (0 : Int32)), .val (.ref wMIN), .val (.int (3 : Int32)), .val (.long x0), .second, .val (.long (x0 + y1)), .second, .val (.long ((x0 + y1) + y2)), .second, uu, uu, uu, uu, uu, uu, uu, uu, uu] [(.double (FP.l2d ((x0 + y1) + y2))), (.int (2 : Int32)), (.ref b), (.ref b)])) rfl rfl (hb hby at_149)
  have V3 := Arv.set Ar2 q2 Sz2 M2 H2 U2 (v := (.double (FP.l2d ((x0 + y1) + y2)))) rfl Wd2 2 rfl (by simp)
  have Nd2 := Fr.snoc Xd2 Nd1 g_b
  have Kd2 : Keep h0 hd2 [] := Kd1.wr Wd2 (Or.inr sz_b)
  have KK : Keep h0 hd2 [] := Kd2
  obtain ⟨cl, Ar, -, Sz, Nn, Hh, -⟩ := V3
  have hat0 : cl.slots[0]? = some (.double (FP.l2d x0)) := Hh 0 (by rw [Sz]; decide)
  have hat1 : cl.slots[1]? = some (.double (FP.l2d (x0 + y1))) := Hh 1 (by rw [Sz]; decide)
  have hat2 : cl.slots[2]? = some (.double (FP.l2d ((x0 + y1) + y2))) := Hh 2 (by rw [Sz]; decide)
  obtain ⟨cq, kq, qa, qb, qc⟩ := isOf hZ ed2 (E_m.keep KK)
  obtain ⟨_, _, ⟨Tc, Lc, kc, nc⟩, -, Xc, ⟨Lcc, hQc, lc, yc, zc⟩, stc⟩ := Xd2.virtualBack hx (y := (⟨"com/example/tiebreaker/tiebreaker/engine/search/DecayFunction$MultiValueMode", "pick", "([D)D"⟩ : MethodName)) (z := (⟨"com/example/tiebreaker/tiebreaker/engine/search/DecayFunction$MultiValueMode", "pick", "([D)D"⟩ : MethodName)) hown (mvT hZ (hw _ (List.mem_of_getElem? (i := 6) rfl))) (mvT hZ (hw _ (List.mem_of_getElem? (i := 7) rfl))) (notFace_of_selects (args := #[]) (mvT hZ (hw _ (List.mem_of_getElem? (i := 9) rfl)))) (mvT hZ (hw _ (List.mem_of_getElem? (i := 9) rfl))) (mvT hZ (hw _ (List.mem_of_getElem? (i := 8) rfl))) (by decide) (backOf (W := 0) (rm1_MIN_3 l Z a0 hw [] b wMIN wMAX wAVG wSUM x0 (x0 + y1) ((x0 + y1) + y2) hd2 n0 (Nat.le_trans Z0 KK.1) (own_sta S_MIN KK) (own_sta S_MAX KK) (own_sta S_AVG KK) (own_sta S_SUM KK) nXI nAI nAX nSI nSX nAS cl Ar Sz Nn hat0 hat1 hat2 b0 b1 b2) hZ (hw _ (List.mem_of_getElem? (i := 10) rfl)) (hw _ (List.mem_of_getElem? (i := 1) rfl)) (by decide) (by decide)) qa qc (g := (mkF m 267 #[.val (.int p1), .val (.int p2), .val (.int p3), .val (.int p4), .val (.int p5), .val (.int (0 : Int32)), .val (.ref wMIN), .val (.int (3 : Int32)), .val (.long x0), .second, .val (.long (x0 + y1)), .second, .val (.long ((x0 + y1) + y2)), .second, .val (.ref b), .val (.long ((x0 + y1) + y2)), .second, .val (.long ((x0 + (x0 + y1)) + ((x0 + y1) + y2))), .second, .val (.double (FP.l2d x0)), .second, uu, uu] [(.ref b), (.ref wMIN)])) rfl (by rw [hml]; rfl) (Steps.refl _) (argsL := [(.ref b)]) (rest := []) (lenOf pd_0 rfl) rfl (by show 2 * 0 + _ ≤ _; exact Nat.le_of_eq rfl) (hb hby at_267) (fun _ _ => ⟨rfl, ed2, (by decide : 0 + 1 + 0 ≤ _), (by decide : 0 + 3 + 0 ≤ _)⟩)
  dsimp only [Pt.U, Pt.locs, Pt.cells, Pt.slots] at Xc lc yc zc stc hQc
  subst lc yc zc
  obtain ⟨rfl, Ncq, ec⟩ := hQc
  have Nc := Fr.app Nd2 Ncq
  obtain ⟨fs, hr, hrun, hended, hW, hsame⟩ := Xc.leave (v := some (.int (1 : Int32))) (fun h => by rw [Bd.returns] at h; cases h)
  refine ⟨_, _, pre0 _ ?_, hrun, hended, _, _, rfl, ?_, ⟨_, rfl⟩, hW, hsame.mono (by decide) (by decide)⟩
  · show Steps p.tables e below (s₁.setTop (mkF m 0 #[.val (.int p1), .val (.int p2), .val (.int p3), .val (.int p4), .val (.int p5), uu, uu, uu, uu, uu, uu, uu, uu, uu, uu, uu, uu, uu, uu, uu, uu, uu, uu] [])) _
    refine XS.iloadN X0.here hx rfl (hb hby at_0) rfl ?_
    show Steps p.tables e below (s₁.setTop (mkF m 1 #[.val (.int p1), .val (.int p2), .val (.int p3), .val (.int p4), .val (.int p5), uu, uu, uu, uu, uu, uu, uu, uu, uu, uu, uu, uu, uu, uu, uu, uu, uu, uu] [(.int p1)])) _
    refine XS.iconst X0.here hx rfl (hb hby at_1) ?_
    show Steps p.tables e below (s₁.setTop (mkF m 2 #[.val (.int p1), .val (.int p2), .val (.int p3), .val (.int p4), .val (.int p5), uu, uu, uu, uu, uu, uu, uu, uu, uu, uu, uu, uu, uu, uu, uu, uu, uu, uu] [(.int (3 : Int32)), (.int p1)])) _
    refine XS.iand X0.here hx rfl (hb hby at_2) rfl ?_
    show Steps p.tables e below (s₁.setTop (mkF m 3 #[.val (.int p1), .val (.int p2), .val (.int p3), .val (.int p4), .val (.int p5), uu, uu, uu, uu, uu, uu, uu, uu, uu, uu, uu, uu, uu, uu, uu, uu, uu, uu] [(.int (p1 &&& (3 : Int32)))])) _
    rw [hm]
    show Steps p.tables e below (s₁.setTop (mkF m 3 #[.val (.int p1), .val (.int p2), .val (.int p3), .val (.int p4), .val (.int p5), uu, uu, uu, uu, uu, uu, uu, uu, uu, uu, uu, uu, uu, uu, uu, uu, uu, uu] [(.int (0 : Int32))])) _
    refine XS.istore X0.here hx rfl (hb hby at_3) rfl (l' := #[.val (.int p1), .val (.int p2), .val (.int p3), .val (.int p4), .val (.int p5), .val (.int (0 : Int32)), uu, uu, uu, uu, uu, uu, uu, uu, uu, uu, uu, uu, uu, uu, uu, uu, uu]) rfl ?_
    show Steps p.tables e below (s₁.setTop (mkF m 5 #[.val (.int p1), .val (.int p2), .val (.int p3), .val (.int p4), .val (.int p5), .val (.int (0 : Int32)), uu, uu, uu, uu, uu, uu, uu, uu, uu, uu, uu, uu, uu, uu, uu, uu, uu] [])) _
    refine XS.iload X0.here hx rfl (hb hby at_5) rfl ?_
    show Steps p.tables e below (s₁.setTop (mkF m 7 #[.val (.int p1), .val (.int p2), .val (.int p3), .val (.int p4), .val (.int p5), .val (.int (0 : Int32)), uu, uu, uu, uu, uu, uu, uu, uu, uu, uu, uu, uu, uu, uu, uu, uu, uu] [(.int (0 : Int32))])) _
    refine XS.ifNo X0.here hx rfl (hb hby at_7) rfl ((if0 _ _).trans (teq (by decide : (0 : Int32) = (0 : Int32))).2) ?_
    show Steps p.tables e below (s₁.setTop (mkF m 10 #[.val (.int p1), .val (.int p2), .val (.int p3), .val (.int p4), .val (.int p5), .val (.int (0 : Int32)), uu, uu, uu, uu, uu, uu, uu, uu, uu, uu, uu, uu, uu, uu, uu, uu, uu] [])) _
    refine st50 _ ?_
    show Steps p.tables e below (T50.setTop (mkF m 13 #[.val (.int p1), .val (.int p2), .val (.int p3), .val (.int p4), .val (.int p5), .val (.int (0 : Int32)), uu, uu, uu, uu, uu, uu, uu, uu, uu, uu, uu, uu, uu, uu, uu, uu, uu] [(.ref wMIN)])) _
    refine XS.goto X50.here hx rfl (pc0 := 13) (pc' := 43) rfl (hb hby at_13) (by decide) (by decide) ?_
    show Steps p.tables e below (T50.setTop (mkF m 43 #[.val (.int p1), .val (.int p2), .val (.int p3), .val (.int p4), .val (.int p5), .val (.int (0 : Int32)), uu, uu, uu, uu, uu, uu, uu, uu, uu, uu, uu, uu, uu, uu, uu, uu, uu] [(.ref wMIN)])) _
    refine XS.astore X50.here hx rfl (hb hby at_43) rfl rfl (l' := #[.val (.int p1), .val (.int p2), .val (.int p3), .val (.int p4), .val (.int p5), .val (.int (0 : Int32)), .val (.ref wMIN), uu, uu, uu, uu, uu, uu, uu, uu, uu, uu, uu, uu, uu, uu, uu, uu]) rfl ?_
    show Steps p.tables e below (T50.setTop (mkF m 45 #[.val (.int p1), .val (.int p2), .val (.int p3), .val (.int p4), .val (.int p5), .val (.int (0 : Int32)), .val (.ref wMIN), uu, uu, uu, uu, uu, uu, uu, uu, uu, uu, uu, uu, uu, uu, uu, uu] [])) _
    refine XS.iloadN X50.here hx rfl (hb hby at_45) rfl ?_
    show Steps p.tables e below (T50.setTop (mkF m 46 #[.val (.int p1), .val (.int p2), .val (.int p3), .val (.int p4), .val (.int p5), .val (.int (0 : Int32)), .val (.ref wMIN), uu, uu, uu, uu, uu, uu, uu, uu, uu, uu, uu, uu, uu, uu, uu, uu] [(.int p2)])) _
    refine X50.ldcInt hx hown (mvT hZ (hw _ (List.mem_of_getElem? (i := 3) rfl))) (g := (mkF m 46 #[.val (.int p1), .val (.int p2), .val (.int p3), .val (.int p4), .val (.int p5), .val (.int (0 : Int32)), .val (.ref wMIN), uu, uu, uu, uu, uu, uu, uu, uu, uu, uu, uu, uu, uu, uu, uu, uu] [(.int p2)])) rfl (hb hby at_46) _ ?_
    show Steps p.tables e below (T50.setTop (mkF m 48 #[.val (.int p1), .val (.int p2), .val (.int p3), .val (.int p4), .val (.int p5), .val (.int (0 : Int32)), .val (.ref wMIN), uu, uu, uu, uu, uu, uu, uu, uu, uu, uu, uu, uu, uu, uu, uu, uu] [(.int (2147483647 : Int32)), (.int p2)])) _
    refine XS.iand X50.here hx rfl (hb hby at_48) rfl ?_
    show Steps p.tables e below (T50.setTop (mkF m 49 #[.val (.int p1), .val (.int p2), .val (.int p3), .val (.int p4), .val (.int p5), .val (.int (0 : Int32)), .val (.ref wMIN), uu, uu, uu, uu, uu, uu, uu, uu, uu, uu, uu, uu, uu, uu, uu, uu] [(.int (p2 &&& (2147483647 : Int32)))])) _
    refine XS.iconst X50.here hx rfl (hb hby at_49) ?_
    show Steps p.tables e below (T50.setTop (mkF m 50 #[.val (.int p1), .val (.int p2), .val (.int p3), .val (.int p4), .val (.int p5), .val (.int (0 : Int32)), .val (.ref wMIN), uu, uu, uu, uu, uu, uu, uu, uu, uu, uu, uu, uu, uu, uu, uu, uu] [(.int (3 : Int32)), (.int (p2 &&& (2147483647 : Int32)))])) _
    refine iremM X50 hx rfl (hb hby at_50) rfl (by decide) ?_
    show Steps p.tables e below (T50.setTop (mkF m 51 #[.val (.int p1), .val (.int p2), .val (.int p3), .val (.int p4), .val (.int p5), .val (.int (0 : Int32)), .val (.ref wMIN), uu, uu, uu, uu, uu, uu, uu, uu, uu, uu, uu, uu, uu, uu, uu, uu] [(.int ((p2 &&& (2147483647 : Int32)) % (3 : Int32)))])) _
    refine XS.iconst X50.here hx rfl (hb hby at_51) ?_
    show Steps p.tables e below (T50.setTop (mkF m 52 #[.val (.int p1), .val (.int p2), .val (.int p3), .val (.int p4), .val (.int p5), .val (.int (0 : Int32)), .val (.ref wMIN), uu, uu, uu, uu, uu, uu, uu, uu, uu, uu, uu, uu, uu, uu, uu, uu] [(.int (1 : Int32)), (.int ((p2 &&& (2147483647 : Int32)) % (3 : Int32)))])) _
    refine XS.iadd X50.here hx rfl (hb hby at_52) rfl ?_
    show Steps p.tables e below (T50.setTop (mkF m 53 #[.val (.int p1), .val (.int p2), .val (.int p3), .val (.int p4), .val (.int p5), .val (.int (0 : Int32)), .val (.ref wMIN), uu, uu, uu, uu, uu, uu, uu, uu, uu, uu, uu, uu, uu, uu, uu, uu] [(.int (((p2 &&& (2147483647 : Int32)) % (3 : Int32)) + (1 : Int32)))])) _
    rw [hn]
    show Steps p.tables e below (T50.setTop (mkF m 53 #[.val (.int p1), .val (.int p2), .val (.int p3), .val (.int p4), .val (.int p5), .val (.int (0 : Int32)), .val (.ref wMIN), uu, uu, uu, uu, uu, uu, uu, uu, uu, uu, uu, uu, uu, uu, uu, uu] [(.int (3 : Int32))])) _
    refine XS.istore X50.here hx rfl (hb hby at_53) rfl (l' := #[.val (.int p1), .val (.int p2), .val (.int p3), .val (.int p4), .val (.int p5), .val (.int (0 : Int32)), .val (.ref wMIN), .val (.int (3 : Int32)), uu, uu, uu, uu, uu, uu, uu, uu, uu, uu, uu, uu, uu, uu, uu]) rfl ?_
    show Steps p.tables e below (T50.setTop (mkF m 55 #[.val (.int p1), .val (.int p2), .val (.int p3), .val (.int p4), .val (.int p5), .val (.int (0 : Int32)), .val (.ref wMIN), .val (.int (3 : Int32)), uu, uu, uu, uu, uu, uu, uu, uu, uu, uu, uu, uu, uu, uu, uu] [])) _
    refine XS.iloadN X50.here hx rfl (hb hby at_55) rfl ?_
    show Steps p.tables e below (T50.setTop (mkF m 56 #[.val (.int p1), .val (.int p2), .val (.int p3), .val (.int p4), .val (.int p5), .val (.int (0 : Int32)), .val (.ref wMIN), .val (.int (3 : Int32)), uu, uu, uu, uu, uu, uu, uu, uu, uu, uu, uu, uu, uu, uu, uu] [(.int p3)])) _
    refine X50.ldcInt hx hown (mvT hZ (hw _ (List.mem_of_getElem? (i := 4) rfl))) (g := (mkF m 56 #[.val (.int p1), .val (.int p2), .val (.int p3), .val (.int p4), .val (.int p5), .val (.int (0 : Int32)), .val (.ref wMIN), .val (.int (3 : Int32)), uu, uu, uu, uu, uu, uu, uu, uu, uu, uu, uu, uu, uu, uu, uu] [(.int p3)])) rfl (hb hby at_56) _ ?_
    show Steps p.tables e below (T50.setTop (mkF m 58 #[.val (.int p1), .val (.int p2), .val (.int p3), .val (.int p4), .val (.int p5), .val (.int (0 : Int32)), .val (.ref wMIN), .val (.int (3 : Int32)), uu, uu, uu, uu, uu, uu, uu, uu, uu, uu, uu, uu, uu, uu, uu] [(.int (1048575 : Int32)), (.int p3)])) _
    refine XS.iand X50.here hx rfl (hb hby at_58) rfl ?_
    show Steps p.tables e below (T50.setTop (mkF m 59 #[.val (.int p1), .val (.int p2), .val (.int p3), .val (.int p4), .val (.int p5), .val (.int (0 : Int32)), .val (.ref wMIN), .val (.int (3 : Int32)), uu, uu, uu, uu, uu, uu, uu, uu, uu, uu, uu, uu, uu, uu, uu] [(.int (p3 &&& (1048575 : Int32)))])) _
    refine XS.i2l X50.here hx rfl (hb hby at_59) rfl ?_
    show Steps p.tables e below (T50.setTop (mkF m 60 #[.val (.int p1), .val (.int p2), .val (.int p3), .val (.int p4), .val (.int p5), .val (.int (0 : Int32)), .val (.ref wMIN), .val (.int (3 : Int32)), uu, uu, uu, uu, uu, uu, uu, uu, uu, uu, uu, uu, uu, uu, uu] [(.long ((p3 &&& (1048575 : Int32)).toInt64))])) _
    rw [← hx0]
    show Steps p.tables e below (T50.setTop (mkF m 60 #[.val (.int p1), .val (.int p2), .val (.int p3), .val (.int p4), .val (.int p5), .val (.int (0 : Int32)), .val (.ref wMIN), .val (.int (3 : Int32)), uu, uu, uu, uu, uu, uu, uu, uu, uu, uu, uu, uu, uu, uu, uu] [(.long x0)])) _
    refine XS.lstore X50.here hx rfl (hb hby at_60) rfl (l' := #[.val (.int p1), .val (.int p2), .val (.int p3), .val (.int p4), .val (.int p5), .val (.int (0 : Int32)), .val (.ref wMIN), .val (.int (3 : Int32)), .val (.long x0), .second, uu, uu, uu, uu, uu, uu, uu, uu, uu, uu, uu, uu, uu]) rfl ?_
    show Steps p.tables e below (T50.setTop (mkF m 62 #[.val (.int p1), .val (.int p2), .val (.int p3), .val (.int p4), .val (.int p5), .val (.int (0 : Int32)), .val (.ref wMIN), .val (.int (3 : Int32)), .val (.long x0), .second, uu, uu, uu, uu, uu, uu, uu, uu, uu, uu, uu, uu, uu] [])) _
    refine XS.lload X50.here hx rfl (hb hby at_62) rfl ?_
    show Steps p.tables e below (T50.setTop (mkF m 64 #[.val (.int p1), .val (.int p2), .val (.int p3), .val (.int p4), .val (.int p5), .val (.int (0 : Int32)), .val (.ref wMIN), .val (.int (3 : Int32)), .val (.long x0), .second, uu, uu, uu, uu, uu, uu, uu, uu, uu, uu, uu, uu, uu] [(.long x0)])) _
    refine XS.iloadN X50.here hx rfl (hb hby at_64) rfl ?_
    show Steps p.tables e below (T50.setTop (mkF m 65 #[.val (.int p1), .val (.int p2), .val (.int p3), .val (.int p4), .val (.int p5), .val (.int (0 : Int32)), .val (.ref wMIN), .val (.int (3 : Int32)), .val (.long x0), .second, uu, uu, uu, uu, uu, uu, uu, uu, uu, uu, uu, uu, uu] [(.int p4), (.long x0)])) _
    refine X50.ldcInt hx hown (mvT hZ (hw _ (List.mem_of_getElem? (i := 4) rfl))) (g := (mkF m 65 #[.val (.int p1), .val (.int p2), .val (.int p3), .val (.int p4), .val (.int p5), .val (.int (0 : Int32)), .val (.ref wMIN), .val (.int (3 : Int32)), .val (.long x0), .second, uu, uu, uu, uu, uu, uu, uu, uu, uu, uu, uu, uu, uu] [(.int p4), (.long x0)])) rfl (hb hby at_65) _ ?_
    show Steps p.tables e below (T50.setTop (mkF m 67 #[.val (.int p1), .val (.int p2), .val (.int p3), .val (.int p4), .val (.int p5), .val (.int (0 : Int32)), .val (.ref wMIN), .val (.int (3 : Int32)), .val (.long x0), .second, uu, uu, uu, uu, uu, uu, uu, uu, uu, uu, uu, uu, uu] [(.int (1048575 : Int32)), (.int p4), (.long x0)])) _
    refine XS.iand X50.here hx rfl (hb hby at_67) rfl ?_
    show Steps p.tables e below (T50.setTop (mkF m 68 #[.val (.int p1), .val (.int p2), .val (.int p3), .val (.int p4), .val (.int p5), .val (.int (0 : Int32)), .val (.ref wMIN), .val (.int (3 : Int32)), .val (.long x0), .second, uu, uu, uu, uu, uu, uu, uu, uu, uu, uu, uu, uu, uu] [(.int (p4 &&& (1048575 : Int32))), (.long x0)])) _
    refine XS.i2l X50.here hx rfl (hb hby at_68) rfl ?_
    show Steps p.tables e below (T50.setTop (mkF m 69 #[.val (.int p1), .val (.int p2), .val (.int p3), .val (.int p4), .val (.int p5), .val (.int (0 : Int32)), .val (.ref wMIN), .val (.int (3 : Int32)), .val (.long x0), .second, uu, uu, uu, uu, uu, uu, uu, uu, uu, uu, uu, uu, uu] [(.long ((p4 &&& (1048575 : Int32)).toInt64)), (.long x0)])) _
    rw [← hy1]
    show Steps p.tables e below (T50.setTop (mkF m 69 #[.val (.int p1), .val (.int p2), .val (.int p3), .val (.int p4), .val (.int p5), .val (.int (0 : Int32)), .val (.ref wMIN), .val (.int (3 : Int32)), .val (.long x0), .second, uu, uu, uu, uu, uu, uu, uu, uu, uu, uu, uu, uu, uu] [(.long y1), (.long x0)])) _
    refine XS.ladd X50.here hx rfl (hb hby at_69) rfl ?_
    show Steps p.tables e below (T50.setTop (mkF m 70 #[.val (.int p1), .val (.int p2), .val (.int p3), .val (.int p4), .val (.int p5), .val (.int (0 : Int32)), .val (.ref wMIN), .val (.int (3 : Int32)), .val (.long x0), .second, uu, uu, uu, uu, uu, uu, uu, uu, uu, uu, uu, uu, uu] [(.long (x0 + y1))])) _
    refine XS.lstore X50.here hx rfl (hb hby at_70) rfl (l' := #[.val (.int p1), .val (.int p2), .val (.int p3), .val (.int p4), .val (.int p5), .val (.int (0 : Int32)), .val (.ref wMIN), .val (.int (3 : Int32)), .val (.long x0), .second, .val (.long (x0 + y1)), .second, uu, uu, uu, uu, uu, uu, uu, uu, uu, uu, uu]) rfl ?_
    show Steps p.tables e below (T50.setTop (mkF m 72 #[.val (.int p1), .val (.int p2), .val (.int p3), .val (.int p4), .val (.int p5), .val (.int (0 : Int32)), .val (.ref wMIN), .val (.int (3 : Int32)), .val (.long x0), .second, .val (.long (x0 + y1)), .second, uu, uu, uu, uu, uu, uu, uu, uu, uu, uu, uu] [])) _
    refine XS.lload X50.here hx rfl (hb hby at_72) rfl ?_
    show Steps p.tables e below (T50.setTop (mkF m 74 #[.val (.int p1), .val (.int p2), .val (.int p3), .val (.int p4), .val (.int p5), .val (.int (0 : Int32)), .val (.ref wMIN), .val (.int (3 : Int32)), .val (.long x0), .second, .val (.long (x0 + y1)), .second, uu, uu, uu, uu, uu, uu, uu, uu, uu, uu, uu] [(.long (x0 + y1))])) _
    refine XS.iload X50.here hx rfl (hb hby at_74) rfl ?_
    show Steps p.tables e below (T50.setTop (mkF m 76 #[.val (.int p1), .val (.int p2), .val (.int p3), .val (.int p4), .val (.int p5), .val (.int (0 : Int32)), .val (.ref wMIN), .val (.int (3 : Int32)), .val (.long x0), .second, .val (.long (x0 + y1)), .second, uu, uu, uu, uu, uu, uu, uu, uu, uu, uu, uu] [(.int p5), (.long (x0 + y1))])) _
    refine X50.ldcInt hx hown (mvT hZ (hw _ (List.mem_of_getElem? (i := 4) rfl))) (g := (mkF m 76 #[.val (.int p1), .val (.int p2), .val (.int p3), .val (.int p4), .val (.int p5), .val (.int (0 : Int32)), .val (.ref wMIN), .val (.int (3 : Int32)), .val (.long x0), .second, .val (.long (x0 + y1)), .second, uu, uu, uu, uu, uu, uu, uu, uu, uu, uu, uu] [(.int p5), (.long (x0 + y1))])) rfl (hb hby at_76) _ ?_
    show Steps p.tables e below (T50.setTop (mkF m 78 #[.val (.int p1), .val (.int p2), .val (.int p3), .val (.int p4), .val (.int p5), .val (.int (0 : Int32)), .val (.ref wMIN), .val (.int (3 : Int32)), .val (.long x0), .second, .val (.long (x0 + y1)), .second, uu, uu, uu, uu, uu, uu, uu, uu, uu, uu, uu] [(.int (1048575 : Int32)), (.int p5), (.long (x0 + y1))])) _
    refine XS.iand X50.here hx rfl (hb hby at_78) rfl ?_
    show Steps p.tables e below (T50.setTop (mkF m 79 #[.val (.int p1), .val (.int p2), .val (.int p3), .val (.int p4), .val (.int p5), .val (.int (0 : Int32)), .val (.ref wMIN), .val (.int (3 : Int32)), .val (.long x0), .second, .val (.long (x0 + y1)), .second, uu, uu, uu, uu, uu, uu, uu, uu, uu, uu, uu] [(.int (p5 &&& (1048575 : Int32))), (.long (x0 + y1))])) _
    refine XS.i2l X50.here hx rfl (hb hby at_79) rfl ?_
    show Steps p.tables e below (T50.setTop (mkF m 80 #[.val (.int p1), .val (.int p2), .val (.int p3), .val (.int p4), .val (.int p5), .val (.int (0 : Int32)), .val (.ref wMIN), .val (.int (3 : Int32)), .val (.long x0), .second, .val (.long (x0 + y1)), .second, uu, uu, uu, uu, uu, uu, uu, uu, uu, uu, uu] [(.long ((p5 &&& (1048575 : Int32)).toInt64)), (.long (x0 + y1))])) _
    rw [← hy2]
    show Steps p.tables e below (T50.setTop (mkF m 80 #[.val (.int p1), .val (.int p2), .val (.int p3), .val (.int p4), .val (.int p5), .val (.int (0 : Int32)), .val (.ref wMIN), .val (.int (3 : Int32)), .val (.long x0), .second, .val (.long (x0 + y1)), .second, uu, uu, uu, uu, uu, uu, uu, uu, uu, uu, uu] [(.long y2), (.long (x0 + y1))])) _
    refine XS.ladd X50.here hx rfl (hb hby at_80) rfl ?_
    show Steps p.tables e below (T50.setTop (mkF m 81 #[.val (.int p1), .val (.int p2), .val (.int p3), .val (.int p4), .val (.int p5), .val (.int (0 : Int32)), .val (.ref wMIN), .val (.int (3 : Int32)), .val (.long x0), .second, .val (.long (x0 + y1)), .second, uu, uu, uu, uu, uu, uu, uu, uu, uu, uu, uu] [(.long ((x0 + y1) + y2))])) _
    refine XS.lstore X50.here hx rfl (hb hby at_81) rfl (l' := #[.val (.int p1), .val (.int p2), .val (.int p3), .val (.int p4), .val (.int p5), .val (.int (0 : Int32)), .val (.ref wMIN), .val (.int (3 : Int32)), .val (.long x0), .second, .val (.long (x0 + y1)), .second, .val (.long ((x0 + y1) + y2)), .second, uu, uu, uu, uu, uu, uu, uu, uu, uu]) rfl ?_
    show Steps p.tables e below (T50.setTop (mkF m 83 #[.val (.int p1), .val (.int p2), .val (.int p3), .val (.int p4), .val (.int p5), .val (.int (0 : Int32)), .val (.ref wMIN), .val (.int (3 : Int32)), .val (.long x0), .second, .val (.long (x0 + y1)), .second, .val (.long ((x0 + y1) + y2)), .second, uu, uu, uu, uu, uu, uu, uu, uu, uu] [])) _
    refine XS.iload X50.here hx rfl (hb hby at_83) rfl ?_
    show Steps p.tables e below (T50.setTop (mkF m 85 #[.val (.int p1), .val (.int p2), .val (.int p3), .val (.int p4), .val (.int p5), .val (.int (0 : Int32)), .val (.ref wMIN), .val (.int (3 : Int32)), .val (.long x0), .second, .val (.long (x0 + y1)), .second, .val (.long ((x0 + y1) + y2)), .second, uu, uu, uu, uu, uu, uu, uu, uu, uu] [(.int (3 : Int32))])) _
    refine XS.iconst X50.here hx rfl (hb hby at_85) ?_
    show Steps p.tables e below (T50.setTop (mkF m 86 #[.val (.int p1), .val (.int p2), .val (.int p3), .val (.int p4), .val (.int p5), .val (.int (0 : Int32)), .val (.ref wMIN), .val (.int (3 : Int32)), .val (.long x0), .second, .val (.long (x0 + y1)), .second, .val (.long ((x0 + y1) + y2)), .second, uu, uu, uu, uu, uu, uu, uu, uu, uu] [(.int (1 : Int32)), (.int (3 : Int32))])) _
    refine XS.icmpYes X50.here hx rfl (pc0 := 86) (pc' := 103) rfl (hb hby at_86) rfl (feq (by decide : ¬ ((3 : Int32) = (1 : Int32)))).2 (by decide) (by decide) ?_
    show Steps p.tables e below (T50.setTop (mkF m 103 #[.val (.int p1), .val (.int p2), .val (.int p3), .val (.int p4), .val (.int p5), .val (.int (0 : Int32)), .val (.ref wMIN), .val (.int (3 : Int32)), .val (.long x0), .second, .val (.long (x0 + y1)), .second, .val (.long ((x0 + y1) + y2)), .second, uu, uu, uu, uu, uu, uu, uu, uu, uu] [])) _
    refine XS.iload X50.here hx rfl (hb hby at_103) rfl ?_
    show Steps p.tables e below (T50.setTop (mkF m 105 #[.val (.int p1), .val (.int p2), .val (.int p3), .val (.int p4), .val (.int p5), .val (.int (0 : Int32)), .val (.ref wMIN), .val (.int (3 : Int32)), .val (.long x0), .second, .val (.long (x0 + y1)), .second, .val (.long ((x0 + y1) + y2)), .second, uu, uu, uu, uu, uu, uu, uu, uu, uu] [(.int (3 : Int32))])) _
    refine XS.iconst X50.here hx rfl (hb hby at_105) ?_
    show Steps p.tables e below (T50.setTop (mkF m 106 #[.val (.int p1), .val (.int p2), .val (.int p3), .val (.int p4), .val (.int p5), .val (.int (0 : Int32)), .val (.ref wMIN), .val (.int (3 : Int32)), .val (.long x0), .second, .val (.long (x0 + y1)), .second, .val (.long ((x0 + y1) + y2)), .second, uu, uu, uu, uu, uu, uu, uu, uu, uu] [(.int (2 : Int32)), (.int (3 : Int32))])) _
    refine XS.icmpYes X50.here hx rfl (pc0 := 106) (pc' := 129) rfl (hb hby at_106) rfl (feq (by decide : ¬ ((3 : Int32) = (2 : Int32)))).2 (by decide) (by decide) ?_
    show Steps p.tables e below (T50.setTop (mkF m 129 #[.val (.int p1), .val (.int p2), .val (.int p3), .val (.int p4), .val (.int p5), .val (.int (0 : Int32)), .val (.ref wMIN), .val (.int (3 : Int32)), .val (.long x0), .second, .val (.long (x0 + y1)), .second, .val (.long ((x0 + y1) + y2)), .second, uu, uu, uu, uu, uu, uu, uu, uu, uu] [])) _
    refine XS.iconst X50.here hx rfl (hb hby at_129) ?_
    show Steps p.tables e below (T50.setTop (mkF m 130 #[.val (.int p1), .val (.int p2), .val (.int p3), .val (.int p4), .val (.int p5), .val (.int (0 : Int32)), .val (.ref wMIN), .val (.int (3 : Int32)), .val (.long x0), .second, .val (.long (x0 + y1)), .second, .val (.long ((x0 + y1) + y2)), .second, uu, uu, uu, uu, uu, uu, uu, uu, uu] [(.int (3 : Int32))])) _
    refine sta_ _ ?_
    show Steps p.tables e below (Ta.setTop (mkF m 132 #[.val (.int p1), .val (.int p2), .val (.int p3), .val (.int p4), .val (.int p5), .val (.int (0 : Int32)), .val (.ref wMIN), .val (.int (3 : Int32)), .val (.long x0), .second, .val (.long (x0 + y1)), .second, .val (.long ((x0 + y1) + y2)), .second, uu, uu, uu, uu, uu, uu, uu, uu, uu] [(.ref b)])) _
    refine XS.dup Xa.here hx rfl (hb hby at_132) rfl rfl ?_
    show Steps p.tables e below (Ta.setTop (mkF m 133 #[.val (.int p1), .val (.int p2), .val (.int p3), .val (.int p4), .val (.int p5), .val (.int (0 : Int32)), .val (.ref wMIN), .val (.int (3 : Int32)), .val (.long x0), .second, .val (.long (x0 + y1)), .second, .val (.long ((x0 + y1) + y2)), .second, uu, uu, uu, uu, uu, uu, uu, uu, uu] [(.ref b), (.ref b)])) _
    refine XS.iconst Xa.here hx rfl (hb hby at_133) ?_
    show Steps p.tables e below (Ta.setTop (mkF m 134 #[.val (.int p1), .val (.int p2), .val (.int p3), .val (.int p4), .val (.int p5), .val (.int (0 : Int32)), .val (.ref wMIN), .val (.int (3 : Int32)), .val (.long x0), .second, .val (.long (x0 + y1)), .second, .val (.long ((x0 + y1) + y2)), .second, uu, uu, uu, uu, uu, uu, uu, uu, uu] [(.int (0 : Int32)), (.ref b), (.ref b)])) _
    refine XS.lload Xa.here hx rfl (hb hby at_134) rfl ?_
    show Steps p.tables e below (Ta.setTop (mkF m 136 #[.val (.int p1), .val (.int p2), .val (.int p3), .val (.int p4), .val (.int p5), .val (.int (0 : Int32)), .val (.ref wMIN), .val (.int (3 : Int32)), .val (.long x0), .second, .val (.long (x0 + y1)), .second, .val (.long ((x0 + y1) + y2)), .second, uu, uu, uu, uu, uu, uu, uu, uu, uu] [(.long x0), (.int (0 : Int32)), (.ref b), (.ref b)])) _
    refine XS.l2dS Xa.here hx rfl (hb hby at_136) rfl (v := FP.l2d x0) rfl ?_
    show Steps p.tables e below (Ta.setTop (mkF m 137 #[.val (.int p1), .val (.int p2), .val (.int p3), .val (.int p4), .val (.int p5), .val (.int (0 : Int32)), .val (.ref wMIN), .val (.int (3 : Int32)), .val (.long x0), .second, .val (.long (x0 + y1)), .second, .val (.long ((x0 + y1) + y2)), .second, uu, uu, uu, uu, uu, uu, uu, uu, uu] [(.double (FP.l2d x0)), (.int (0 : Int32)), (.ref b), (.ref b)])) _
    refine std0 _ ?_
    show Steps p.tables e below (Td0.setTop (mkF m 138 #[.val (.int p1), .val (.int p2), .val (.int p3), .val (.int p4), .val (.int p5), .val (.int (0 : Int32)), .val (.ref wMIN), .val (.int (3 : Int32)), .val (.long x0), .second, .val (.long (x0 + y1)), .second, .val (.long ((x0 + y1) + y2)), .second, uu, uu, uu, uu, uu, uu, uu, uu, uu] [(.ref b)])) _
    refine XS.dup Xd0.here hx rfl (hb hby at_138) rfl rfl ?_
    show Steps p.tables e below (Td0.setTop (mkF m 139 #[.val (.int p1), .val (.int p2), .val (.int p3), .val (.int p4), .val (.int p5), .val (.int (0 : Int32)), .val (.ref wMIN), .val (.int (3 : Int32)), .val (.long x0), .second, .val (.long (x0 + y1)), .second, .val (.long ((x0 + y1) + y2)), .second, uu, uu, uu, uu, uu, uu, uu, uu, uu] [(.ref b), (.ref b)])) _
    refine XS.iconst Xd0.here hx rfl (hb hby at_139) ?_
    show Steps p.tables e below (Td0.setTop (mkF m 140 #[.val (.int p1), .val (.int p2), .val (.int p3), .val (.int p4), .val (.int p5), .val (.int (0 : Int32)), .val (.ref wMIN), .val (.int (3 : Int32)), .val (.long x0), .second, .val (.long (x0 + y1)), .second, .val (.long ((x0 + y1) + y2)), .second, uu, uu, uu, uu, uu, uu, uu, uu, uu] [(.int (1 : Int32)), (.ref b), (.ref b)])) _
    refine XS.lload Xd0.here hx rfl (hb hby at_140) rfl ?_
    show Steps p.tables e below (Td0.setTop (mkF m 142 #[.val (.int p1), .val (.int p2), .val (.int p3), .val (.int p4), .val (.int p5), .val (.int (0 : Int32)), .val (.ref wMIN), .val (.int (3 : Int32)), .val (.long x0), .second, .val (.long (x0 + y1)), .second, .val (.long ((x0 + y1) + y2)), .second, uu, uu, uu, uu, uu, uu, uu, uu, uu] [(.long (x0 + y1)), (.int (1 : Int32)), (.ref b), (.ref b)])) _
    refine XS.l2dS Xd0.here hx rfl (hb hby at_142) rfl (v := FP.l2d (x0 + y1)) rfl ?_
    show Steps p.tables e below (Td0.setTop (mkF m 143 #[.val (.int p1), .val (.int p2), .val (.int p3), .val (.int p4), .val (.int p5), .val (.int (0 : Int32)), .val (.ref wMIN), .val (.int (3 : Int32)), .val (.long x0), .second, .val (.long (x0 + y1)), .second, .val (.long ((x0 + y1) + y2)), .second, uu, uu, uu, uu, uu, uu, uu, uu, uu] [(.double (FP.l2d (x0 + y1))), (.int (1 : Int32)), (.ref b), (.ref b)])) _
    refine std1 _ ?_
    show Steps p.tables e below (Td1.setTop (mkF m 144 #[.val (.int p1), .val (.int p2), .val (.int p3), .val (.int p4), .val (.int p5), .val (.int (0 : Int32)), .val (.ref wMIN), .val (.int (3 : Int32)), .val (.long x0), .second, .val (.long (x0 + y1)), .second, .val (.long ((x0 + y1) + y2)), .second, uu, uu, uu, uu, uu, uu, uu, uu, uu] [(.ref b)])) _
    refine XS.dup Xd1.here hx rfl (hb hby at_144) rfl rfl ?_
    show Steps p.tables e below (Td1.setTop (mkF m 145 #[.val (.int p1), .val (.int p2), .val (.int p3), .val (.int p4), .val (.int p5), .val (.int (0 : Int32)), .val (.ref wMIN), .val (.int (3 : Int32)), .val (.long x0), .second, .val (.long (x0 + y1)), .second, .val (.long ((x0 + y1) + y2)), .second, uu, uu, uu, uu, uu, uu, uu, uu, uu] [(.ref b), (.ref b)])) _
    refine XS.iconst Xd1.here hx rfl (hb hby at_145) ?_
    show Steps p.tables e below (Td1.setTop (mkF m 146 #[.val (.int p1), .val (.int p2), .val (.int p3), .val (.int p4), .val (.int p5), .val (.int (0 : Int32)), .val (.ref wMIN), .val (.int (3 : Int32)), .val (.long x0), .second, .val (.long (x0 + y1)), .second, .val (.long ((x0 + y1) + y2)), .second, uu, uu, uu, uu, uu, uu, uu, uu, uu] [(.int (2 : Int32)), (.ref b), (.ref b)])) _
    refine XS.lload Xd1.here hx rfl (hb hby at_146) rfl ?_
    show Steps p.tables e below (Td1.setTop (mkF m 148 #[.val (.int p1), .val (.int p2), .val (.int p3), .val (.int p4), .val (.int p5), .val (.int (0 : Int32)), .val (.ref wMIN), .val (.int (3 : Int32)), .val (.long x0), .second, .val (.long (x0 + y1)), .second, .val (.long ((x0 + y1) + y2)), .second, uu, uu, uu, uu, uu, uu, uu, uu, uu] [(.long ((x0 + y1) + y2)), (.int (2 : Int32)), (.ref b), (.ref b)])) _
    refine XS.l2dS Xd1.here hx rfl (hb hby at_148) rfl (v := FP.l2d ((x0 + y1) + y2)) rfl ?_
    show Steps p.tables e below (Td1.setTop (mkF m 149 #[.val (.int p1), .val (.int p2), .val (.int p3), .val (.int p4), .val (.int p5), .val (.int (0 : Int32)), .val (.ref wMIN), .val (.int (3 : Int32)), .val (.long x0), .second, .val (.long (x0 + y1)), .second, .val (.long ((x0 + y1) + y2)), .second, uu, uu, uu, uu, uu, uu, uu, uu, uu] [(.double (FP.l2d ((x0 + y1) + y2))), (.int (2 : Int32)), (.ref b), (.ref b)])) _
    refine std2 _ ?_
    show Steps p.tables e below (Td2.setTop (mkF m 150 #[.val (.int p1), .val (.int p2), .val (.int p3), .val (.int p4), .val (.int p5), .val (.int (0 : Int32)), .val (.ref wMIN), .val (.int (3 : Int32)), .val (.long x0), .second, .val (.long (x0 + y1)), .second, .val (.long ((x0 + y1) + y2)), .second, uu, uu, uu, uu, uu, uu, uu, uu, uu] [(.ref b)])) _
    refine XS.astore Xd2.here hx rfl (hb hby at_150) rfl rfl (l' := #[.val (.int p1), .val (.int p2), .val (.int p3), .val (.int p4), .val (.int p5), .val (.int (0 : Int32)), .val (.ref wMIN), .val (.int (3 : Int32)), .val (.long x0), .second, .val (.long (x0 + y1)), .second, .val (.long ((x0 + y1) + y2)), .second, .val (.ref b), uu, uu, uu, uu, uu, uu, uu, uu]) rfl ?_
    show Steps p.tables e below (Td2.setTop (mkF m 152 #[.val (.int p1), .val (.int p2), .val (.int p3), .val (.int p4), .val (.int p5), .val (.int (0 : Int32)), .val (.ref wMIN), .val (.int (3 : Int32)), .val (.long x0), .second, .val (.long (x0 + y1)), .second, .val (.long ((x0 + y1) + y2)), .second, .val (.ref b), uu, uu, uu, uu, uu, uu, uu, uu] [])) _
    refine XS.iload Xd2.here hx rfl (hb hby at_152) rfl ?_
    show Steps p.tables e below (Td2.setTop (mkF m 154 #[.val (.int p1), .val (.int p2), .val (.int p3), .val (.int p4), .val (.int p5), .val (.int (0 : Int32)), .val (.ref wMIN), .val (.int (3 : Int32)), .val (.long x0), .second, .val (.long (x0 + y1)), .second, .val (.long ((x0 + y1) + y2)), .second, .val (.ref b), uu, uu, uu, uu, uu, uu, uu, uu] [(.int (3 : Int32))])) _
    refine XS.iconst Xd2.here hx rfl (hb hby at_154) ?_
    show Steps p.tables e below (Td2.setTop (mkF m 155 #[.val (.int p1), .val (.int p2), .val (.int p3), .val (.int p4), .val (.int p5), .val (.int (0 : Int32)), .val (.ref wMIN), .val (.int (3 : Int32)), .val (.long x0), .second, .val (.long (x0 + y1)), .second, .val (.long ((x0 + y1) + y2)), .second, .val (.ref b), uu, uu, uu, uu, uu, uu, uu, uu] [(.int (1 : Int32)), (.int (3 : Int32))])) _
    refine XS.icmpYes Xd2.here hx rfl (pc0 := 155) (pc' := 163) rfl (hb hby at_155) rfl (feq (by decide : ¬ ((3 : Int32) = (1 : Int32)))).2 (by decide) (by decide) ?_
    show Steps p.tables e below (Td2.setTop (mkF m 163 #[.val (.int p1), .val (.int p2), .val (.int p3), .val (.int p4), .val (.int p5), .val (.int (0 : Int32)), .val (.ref wMIN), .val (.int (3 : Int32)), .val (.long x0), .second, .val (.long (x0 + y1)), .second, .val (.long ((x0 + y1) + y2)), .second, .val (.ref b), uu, uu, uu, uu, uu, uu, uu, uu] [])) _
    refine XS.iload Xd2.here hx rfl (hb hby at_163) rfl ?_
    show Steps p.tables e below (Td2.setTop (mkF m 165 #[.val (.int p1), .val (.int p2), .val (.int p3), .val (.int p4), .val (.int p5), .val (.int (0 : Int32)), .val (.ref wMIN), .val (.int (3 : Int32)), .val (.long x0), .second, .val (.long (x0 + y1)), .second, .val (.long ((x0 + y1) + y2)), .second, .val (.ref b), uu, uu, uu, uu, uu, uu, uu, uu] [(.int (3 : Int32))])) _
    refine XS.iconst Xd2.here hx rfl (hb hby at_165) ?_
    show Steps p.tables e below (Td2.setTop (mkF m 166 #[.val (.int p1), .val (.int p2), .val (.int p3), .val (.int p4), .val (.int p5), .val (.int (0 : Int32)), .val (.ref wMIN), .val (.int (3 : Int32)), .val (.long x0), .second, .val (.long (x0 + y1)), .second, .val (.long ((x0 + y1) + y2)), .second, .val (.ref b), uu, uu, uu, uu, uu, uu, uu, uu] [(.int (2 : Int32)), (.int (3 : Int32))])) _
    refine XS.icmpYes Xd2.here hx rfl (pc0 := 166) (pc' := 174) rfl (hb hby at_166) rfl (feq (by decide : ¬ ((3 : Int32) = (2 : Int32)))).2 (by decide) (by decide) ?_
    show Steps p.tables e below (Td2.setTop (mkF m 174 #[.val (.int p1), .val (.int p2), .val (.int p3), .val (.int p4), .val (.int p5), .val (.int (0 : Int32)), .val (.ref wMIN), .val (.int (3 : Int32)), .val (.long x0), .second, .val (.long (x0 + y1)), .second, .val (.long ((x0 + y1) + y2)), .second, .val (.ref b), uu, uu, uu, uu, uu, uu, uu, uu] [])) _
    refine XS.lload Xd2.here hx rfl (hb hby at_174) rfl ?_
    show Steps p.tables e below (Td2.setTop (mkF m 176 #[.val (.int p1), .val (.int p2), .val (.int p3), .val (.int p4), .val (.int p5), .val (.int (0 : Int32)), .val (.ref wMIN), .val (.int (3 : Int32)), .val (.long x0), .second, .val (.long (x0 + y1)), .second, .val (.long ((x0 + y1) + y2)), .second, .val (.ref b), uu, uu, uu, uu, uu, uu, uu, uu] [(.long ((x0 + y1) + y2))])) _
    refine XS.lstore Xd2.here hx rfl (hb hby at_176) rfl (l' := #[.val (.int p1), .val (.int p2), .val (.int p3), .val (.int p4), .val (.int p5), .val (.int (0 : Int32)), .val (.ref wMIN), .val (.int (3 : Int32)), .val (.long x0), .second, .val (.long (x0 + y1)), .second, .val (.long ((x0 + y1) + y2)), .second, .val (.ref b), .val (.long ((x0 + y1) + y2)), .second, uu, uu, uu, uu, uu, uu]) rfl ?_
    show Steps p.tables e below (Td2.setTop (mkF m 178 #[.val (.int p1), .val (.int p2), .val (.int p3), .val (.int p4), .val (.int p5), .val (.int (0 : Int32)), .val (.ref wMIN), .val (.int (3 : Int32)), .val (.long x0), .second, .val (.long (x0 + y1)), .second, .val (.long ((x0 + y1) + y2)), .second, .val (.ref b), .val (.long ((x0 + y1) + y2)), .second, uu, uu, uu, uu, uu, uu] [])) _
    refine XS.iload Xd2.here hx rfl (hb hby at_178) rfl ?_
    show Steps p.tables e below (Td2.setTop (mkF m 180 #[.val (.int p1), .val (.int p2), .val (.int p3), .val (.int p4), .val (.int p5), .val (.int (0 : Int32)), .val (.ref wMIN), .val (.int (3 : Int32)), .val (.long x0), .second, .val (.long (x0 + y1)), .second, .val (.long ((x0 + y1) + y2)), .second, .val (.ref b), .val (.long ((x0 + y1) + y2)), .second, uu, uu, uu, uu, uu, uu] [(.int (3 : Int32))])) _
    refine XS.iconst Xd2.here hx rfl (hb hby at_180) ?_
    show Steps p.tables e below (Td2.setTop (mkF m 181 #[.val (.int p1), .val (.int p2), .val (.int p3), .val (.int p4), .val (.int p5), .val (.int (0 : Int32)), .val (.ref wMIN), .val (.int (3 : Int32)), .val (.long x0), .second, .val (.long (x0 + y1)), .second, .val (.long ((x0 + y1) + y2)), .second, .val (.ref b), .val (.long ((x0 + y1) + y2)), .second, uu, uu, uu, uu, uu, uu] [(.int (1 : Int32)), (.int (3 : Int32))])) _
    refine XS.icmpYes Xd2.here hx rfl (pc0 := 181) (pc' := 189) rfl (hb hby at_181) rfl (feq (by decide : ¬ ((3 : Int32) = (1 : Int32)))).2 (by decide) (by decide) ?_
    show Steps p.tables e below (Td2.setTop (mkF m 189 #[.val (.int p1), .val (.int p2), .val (.int p3), .val (.int p4), .val (.int p5), .val (.int (0 : Int32)), .val (.ref wMIN), .val (.int (3 : Int32)), .val (.long x0), .second, .val (.long (x0 + y1)), .second, .val (.long ((x0 + y1) + y2)), .second, .val (.ref b), .val (.long ((x0 + y1) + y2)), .second, uu, uu, uu, uu, uu, uu] [])) _
    refine XS.iload Xd2.here hx rfl (hb hby at_189) rfl ?_
    show Steps p.tables e below (Td2.setTop (mkF m 191 #[.val (.int p1), .val (.int p2), .val (.int p3), .val (.int p4), .val (.int p5), .val (.int (0 : Int32)), .val (.ref wMIN), .val (.int (3 : Int32)), .val (.long x0), .second, .val (.long (x0 + y1)), .second, .val (.long ((x0 + y1) + y2)), .second, .val (.ref b), .val (.long ((x0 + y1) + y2)), .second, uu, uu, uu, uu, uu, uu] [(.int (3 : Int32))])) _
    refine XS.iconst Xd2.here hx rfl (hb hby at_191) ?_
    show Steps p.tables e below (Td2.setTop (mkF m 192 #[.val (.int p1), .val (.int p2), .val (.int p3), .val (.int p4), .val (.int p5), .val (.int (0 : Int32)), .val (.ref wMIN), .val (.int (3 : Int32)), .val (.long x0), .second, .val (.long (x0 + y1)), .second, .val (.long ((x0 + y1) + y2)), .second, .val (.ref b), .val (.long ((x0 + y1) + y2)), .second, uu, uu, uu, uu, uu, uu] [(.int (2 : Int32)), (.int (3 : Int32))])) _
    refine XS.icmpYes Xd2.here hx rfl (pc0 := 192) (pc' := 203) rfl (hb hby at_192) rfl (feq (by decide : ¬ ((3 : Int32) = (2 : Int32)))).2 (by decide) (by decide) ?_
    show Steps p.tables e below (Td2.setTop (mkF m 203 #[.val (.int p1), .val (.int p2), .val (.int p3), .val (.int p4), .val (.int p5), .val (.int (0 : Int32)), .val (.ref wMIN), .val (.int (3 : Int32)), .val (.long x0), .second, .val (.long (x0 + y1)), .second, .val (.long ((x0 + y1) + y2)), .second, .val (.ref b), .val (.long ((x0 + y1) + y2)), .second, uu, uu, uu, uu, uu, uu] [])) _
    refine XS.lload Xd2.here hx rfl (hb hby at_203) rfl ?_
    show Steps p.tables e below (Td2.setTop (mkF m 205 #[.val (.int p1), .val (.int p2), .val (.int p3), .val (.int p4), .val (.int p5), .val (.int (0 : Int32)), .val (.ref wMIN), .val (.int (3 : Int32)), .val (.long x0), .second, .val (.long (x0 + y1)), .second, .val (.long ((x0 + y1) + y2)), .second, .val (.ref b), .val (.long ((x0 + y1) + y2)), .second, uu, uu, uu, uu, uu, uu] [(.long x0)])) _
    refine XS.lload Xd2.here hx rfl (hb hby at_205) rfl ?_
    show Steps p.tables e below (Td2.setTop (mkF m 207 #[.val (.int p1), .val (.int p2), .val (.int p3), .val (.int p4), .val (.int p5), .val (.int (0 : Int32)), .val (.ref wMIN), .val (.int (3 : Int32)), .val (.long x0), .second, .val (.long (x0 + y1)), .second, .val (.long ((x0 + y1) + y2)), .second, .val (.ref b), .val (.long ((x0 + y1) + y2)), .second, uu, uu, uu, uu, uu, uu] [(.long (x0 + y1)), (.long x0)])) _
    refine XS.ladd Xd2.here hx rfl (hb hby at_207) rfl ?_
    show Steps p.tables e below (Td2.setTop (mkF m 208 #[.val (.int p1), .val (.int p2), .val (.int p3), .val (.int p4), .val (.int p5), .val (.int (0 : Int32)), .val (.ref wMIN), .val (.int (3 : Int32)), .val (.long x0), .second, .val (.long (x0 + y1)), .second, .val (.long ((x0 + y1) + y2)), .second, .val (.ref b), .val (.long ((x0 + y1) + y2)), .second, uu, uu, uu, uu, uu, uu] [(.long (x0 + (x0 + y1)))])) _
    refine XS.lload Xd2.here hx rfl (hb hby at_208) rfl ?_
    show Steps p.tables e below (Td2.setTop (mkF m 210 #[.val (.int p1), .val (.int p2), .val (.int p3), .val (.int p4), .val (.int p5), .val (.int (0 : Int32)), .val (.ref wMIN), .val (.int (3 : Int32)), .val (.long x0), .second, .val (.long (x0 + y1)), .second, .val (.long ((x0 + y1) + y2)), .second, .val (.ref b), .val (.long ((x0 + y1) + y2)), .second, uu, uu, uu, uu, uu, uu] [(.long ((x0 + y1) + y2)), (.long (x0 + (x0 + y1)))])) _
    refine XS.ladd Xd2.here hx rfl (hb hby at_210) rfl ?_
    show Steps p.tables e below (Td2.setTop (mkF m 211 #[.val (.int p1), .val (.int p2), .val (.int p3), .val (.int p4), .val (.int p5), .val (.int (0 : Int32)), .val (.ref wMIN), .val (.int (3 : Int32)), .val (.long x0), .second, .val (.long (x0 + y1)), .second, .val (.long ((x0 + y1) + y2)), .second, .val (.ref b), .val (.long ((x0 + y1) + y2)), .second, uu, uu, uu, uu, uu, uu] [(.long ((x0 + (x0 + y1)) + ((x0 + y1) + y2)))])) _
    refine XS.lstore Xd2.here hx rfl (hb hby at_211) rfl (l' := #[.val (.int p1), .val (.int p2), .val (.int p3), .val (.int p4), .val (.int p5), .val (.int (0 : Int32)), .val (.ref wMIN), .val (.int (3 : Int32)), .val (.long x0), .second, .val (.long (x0 + y1)), .second, .val (.long ((x0 + y1) + y2)), .second, .val (.ref b), .val (.long ((x0 + y1) + y2)), .second, .val (.long ((x0 + (x0 + y1)) + ((x0 + y1) + y2))), .second, uu, uu, uu, uu]) rfl ?_
    show Steps p.tables e below (Td2.setTop (mkF m 213 #[.val (.int p1), .val (.int p2), .val (.int p3), .val (.int p4), .val (.int p5), .val (.int (0 : Int32)), .val (.ref wMIN), .val (.int (3 : Int32)), .val (.long x0), .second, .val (.long (x0 + y1)), .second, .val (.long ((x0 + y1) + y2)), .second, .val (.ref b), .val (.long ((x0 + y1) + y2)), .second, .val (.long ((x0 + (x0 + y1)) + ((x0 + y1) + y2))), .second, uu, uu, uu, uu] [])) _
    refine XS.iload Xd2.here hx rfl (hb hby at_213) rfl ?_
    show Steps p.tables e below (Td2.setTop (mkF m 215 #[.val (.int p1), .val (.int p2), .val (.int p3), .val (.int p4), .val (.int p5), .val (.int (0 : Int32)), .val (.ref wMIN), .val (.int (3 : Int32)), .val (.long x0), .second, .val (.long (x0 + y1)), .second, .val (.long ((x0 + y1) + y2)), .second, .val (.ref b), .val (.long ((x0 + y1) + y2)), .second, .val (.long ((x0 + (x0 + y1)) + ((x0 + y1) + y2))), .second, uu, uu, uu, uu] [(.int (0 : Int32))])) _
    refine XS.ifNo Xd2.here hx rfl (hb hby at_215) rfl ((if0 _ _).trans (teq (by decide : (0 : Int32) = (0 : Int32))).2) ?_
    show Steps p.tables e below (Td2.setTop (mkF m 218 #[.val (.int p1), .val (.int p2), .val (.int p3), .val (.int p4), .val (.int p5), .val (.int (0 : Int32)), .val (.ref wMIN), .val (.int (3 : Int32)), .val (.long x0), .second, .val (.long (x0 + y1)), .second, .val (.long ((x0 + y1) + y2)), .second, .val (.ref b), .val (.long ((x0 + y1) + y2)), .second, .val (.long ((x0 + (x0 + y1)) + ((x0 + y1) + y2))), .second, uu, uu, uu, uu] [])) _
    refine XS.lload Xd2.here hx rfl (hb hby at_218) rfl ?_
    show Steps p.tables e below (Td2.setTop (mkF m 220 #[.val (.int p1), .val (.int p2), .val (.int p3), .val (.int p4), .val (.int p5), .val (.int (0 : Int32)), .val (.ref wMIN), .val (.int (3 : Int32)), .val (.long x0), .second, .val (.long (x0 + y1)), .second, .val (.long ((x0 + y1) + y2)), .second, .val (.ref b), .val (.long ((x0 + y1) + y2)), .second, .val (.long ((x0 + (x0 + y1)) + ((x0 + y1) + y2))), .second, uu, uu, uu, uu] [(.long x0)])) _
    refine XS.l2dS Xd2.here hx rfl (hb hby at_220) rfl (v := FP.l2d x0) rfl ?_
    show Steps p.tables e below (Td2.setTop (mkF m 221 #[.val (.int p1), .val (.int p2), .val (.int p3), .val (.int p4), .val (.int p5), .val (.int (0 : Int32)), .val (.ref wMIN), .val (.int (3 : Int32)), .val (.long x0), .second, .val (.long (x0 + y1)), .second, .val (.long ((x0 + y1) + y2)), .second, .val (.ref b), .val (.long ((x0 + y1) + y2)), .second, .val (.long ((x0 + (x0 + y1)) + ((x0 + y1) + y2))), .second, uu, uu, uu, uu] [(.double (FP.l2d x0))])) _
    refine XS.dstore Xd2.here hx rfl (hb hby at_221) rfl (l' := #[.val (.int p1), .val (.int p2), .val (.int p3), .val (.int p4), .val (.int p5), .val (.int (0 : Int32)), .val (.ref wMIN), .val (.int (3 : Int32)), .val (.long x0), .second, .val (.long (x0 + y1)), .second, .val (.long ((x0 + y1) + y2)), .second, .val (.ref b), .val (.long ((x0 + y1) + y2)), .second, .val (.long ((x0 + (x0 + y1)) + ((x0 + y1) + y2))), .second, .val (.double (FP.l2d x0)), .second, uu, uu]) rfl ?_
    show Steps p.tables e below (Td2.setTop (mkF m 223 #[.val (.int p1), .val (.int p2), .val (.int p3), .val (.int p4), .val (.int p5), .val (.int (0 : Int32)), .val (.ref wMIN), .val (.int (3 : Int32)), .val (.long x0), .second, .val (.long (x0 + y1)), .second, .val (.long ((x0 + y1) + y2)), .second, .val (.ref b), .val (.long ((x0 + y1) + y2)), .second, .val (.long ((x0 + (x0 + y1)) + ((x0 + y1) + y2))), .second, .val (.double (FP.l2d x0)), .second, uu, uu] [])) _
    refine XS.goto Xd2.here hx rfl (pc0 := 223) (pc' := 263) rfl (hb hby at_223) (by decide) (by decide) ?_
    show Steps p.tables e below (Td2.setTop (mkF m 263 #[.val (.int p1), .val (.int p2), .val (.int p3), .val (.int p4), .val (.int p5), .val (.int (0 : Int32)), .val (.ref wMIN), .val (.int (3 : Int32)), .val (.long x0), .second, .val (.long (x0 + y1)), .second, .val (.long ((x0 + y1) + y2)), .second, .val (.ref b), .val (.long ((x0 + y1) + y2)), .second, .val (.long ((x0 + (x0 + y1)) + ((x0 + y1) + y2))), .second, .val (.double (FP.l2d x0)), .second, uu, uu] [])) _
    refine XS.aload Xd2.here hx rfl (hb hby at_263) rfl rfl ?_
    show Steps p.tables e below (Td2.setTop (mkF m 265 #[.val (.int p1), .val (.int p2), .val (.int p3), .val (.int p4), .val (.int p5), .val (.int (0 : Int32)), .val (.ref wMIN), .val (.int (3 : Int32)), .val (.long x0), .second, .val (.long (x0 + y1)), .second, .val (.long ((x0 + y1) + y2)), .second, .val (.ref b), .val (.long ((x0 + y1) + y2)), .second, .val (.long ((x0 + (x0 + y1)) + ((x0 + y1) + y2))), .second, .val (.double (FP.l2d x0)), .second, uu, uu] [(.ref wMIN)])) _
    refine XS.aload Xd2.here hx rfl (hb hby at_265) rfl rfl ?_
    show Steps p.tables e below (Td2.setTop (mkF m 267 #[.val (.int p1), .val (.int p2), .val (.int p3), .val (.int p4), .val (.int p5), .val (.int (0 : Int32)), .val (.ref wMIN), .val (.int (3 : Int32)), .val (.long x0), .second, .val (.long (x0 + y1)), .second, .val (.long ((x0 + y1) + y2)), .second, .val (.ref b), .val (.long ((x0 + y1) + y2)), .second, .val (.long ((x0 + (x0 + y1)) + ((x0 + y1) + y2))), .second, .val (.double (FP.l2d x0)), .second, uu, uu] [(.ref b), (.ref wMIN)])) _
    refine stc.trans ?_
    show Steps p.tables e below (Tc.setTop (mkF m 270 #[.val (.int p1), .val (.int p2), .val (.int p3), .val (.int p4), .val (.int p5), .val (.int (0 : Int32)), .val (.ref wMIN), .val (.int (3 : Int32)), .val (.long x0), .second, .val (.long (x0 + y1)), .second, .val (.long ((x0 + y1) + y2)), .second, .val (.ref b), .val (.long ((x0 + y1) + y2)), .second, .val (.long ((x0 + (x0 + y1)) + ((x0 + y1) + y2))), .second, .val (.double (FP.l2d x0)), .second, uu, uu] [(.double (FP.l2d x0))])) _
    refine XS.dstore Xc.here hx rfl (hb hby at_270) rfl (l' := #[.val (.int p1), .val (.int p2), .val (.int p3), .val (.int p4), .val (.int p5), .val (.int (0 : Int32)), .val (.ref wMIN), .val (.int (3 : Int32)), .val (.long x0), .second, .val (.long (x0 + y1)), .second, .val (.long ((x0 + y1) + y2)), .second, .val (.ref b), .val (.long ((x0 + y1) + y2)), .second, .val (.long ((x0 + (x0 + y1)) + ((x0 + y1) + y2))), .second, .val (.double (FP.l2d x0)), .second, .val (.double (FP.l2d x0)), .second]) rfl ?_
    show Steps p.tables e below (Tc.setTop (mkF m 272 #[.val (.int p1), .val (.int p2), .val (.int p3), .val (.int p4), .val (.int p5), .val (.int (0 : Int32)), .val (.ref wMIN), .val (.int (3 : Int32)), .val (.long x0), .second, .val (.long (x0 + y1)), .second, .val (.long ((x0 + y1) + y2)), .second, .val (.ref b), .val (.long ((x0 + y1) + y2)), .second, .val (.long ((x0 + (x0 + y1)) + ((x0 + y1) + y2))), .second, .val (.double (FP.l2d x0)), .second, .val (.double (FP.l2d x0)), .second] [])) _
    refine XS.dload Xc.here hx rfl (hb hby at_272) rfl ?_
    show Steps p.tables e below (Tc.setTop (mkF m 274 #[.val (.int p1), .val (.int p2), .val (.int p3), .val (.int p4), .val (.int p5), .val (.int (0 : Int32)), .val (.ref wMIN), .val (.int (3 : Int32)), .val (.long x0), .second, .val (.long (x0 + y1)), .second, .val (.long ((x0 + y1) + y2)), .second, .val (.ref b), .val (.long ((x0 + y1) + y2)), .second, .val (.long ((x0 + (x0 + y1)) + ((x0 + y1) + y2))), .second, .val (.double (FP.l2d x0)), .second, .val (.double (FP.l2d x0)), .second] [(.double (FP.l2d x0))])) _
    refine XS.dload Xc.here hx rfl (hb hby at_274) rfl ?_
    show Steps p.tables e below (Tc.setTop (mkF m 276 #[.val (.int p1), .val (.int p2), .val (.int p3), .val (.int p4), .val (.int p5), .val (.int (0 : Int32)), .val (.ref wMIN), .val (.int (3 : Int32)), .val (.long x0), .second, .val (.long (x0 + y1)), .second, .val (.long ((x0 + y1) + y2)), .second, .val (.ref b), .val (.long ((x0 + y1) + y2)), .second, .val (.long ((x0 + (x0 + y1)) + ((x0 + y1) + y2))), .second, .val (.double (FP.l2d x0)), .second, .val (.double (FP.l2d x0)), .second] [(.double (FP.l2d x0)), (.double (FP.l2d x0))])) _
    refine XS.dcmpS Xc.here hx rfl (hb hby at_276) rfl (v := (0 : Int32)) (dcmpV_self (own_l2d _) _) ?_
    show Steps p.tables e below (Tc.setTop (mkF m 277 #[.val (.int p1), .val (.int p2), .val (.int p3), .val (.int p4), .val (.int p5), .val (.int (0 : Int32)), .val (.ref wMIN), .val (.int (3 : Int32)), .val (.long x0), .second, .val (.long (x0 + y1)), .second, .val (.long ((x0 + y1) + y2)), .second, .val (.ref b), .val (.long ((x0 + y1) + y2)), .second, .val (.long ((x0 + (x0 + y1)) + ((x0 + y1) + y2))), .second, .val (.double (FP.l2d x0)), .second, .val (.double (FP.l2d x0)), .second] [(.int (0 : Int32))])) _
    refine XS.ifNo Xc.here hx rfl (hb hby at_277) rfl ((if0 _ _).trans (teq (by decide : (0 : Int32) = (0 : Int32))).2) ?_
    show Steps p.tables e below (Tc.setTop (mkF m 280 #[.val (.int p1), .val (.int p2), .val (.int p3), .val (.int p4), .val (.int p5), .val (.int (0 : Int32)), .val (.ref wMIN), .val (.int (3 : Int32)), .val (.long x0), .second, .val (.long (x0 + y1)), .second, .val (.long ((x0 + y1) + y2)), .second, .val (.ref b), .val (.long ((x0 + y1) + y2)), .second, .val (.long ((x0 + (x0 + y1)) + ((x0 + y1) + y2))), .second, .val (.double (FP.l2d x0)), .second, .val (.double (FP.l2d x0)), .second] [])) _
    refine XS.iconst Xc.here hx rfl (hb hby at_280) ?_
    show Steps p.tables e below (Tc.setTop (mkF m 281 #[.val (.int p1), .val (.int p2), .val (.int p3), .val (.int p4), .val (.int p5), .val (.int (0 : Int32)), .val (.ref wMIN), .val (.int (3 : Int32)), .val (.long x0), .second, .val (.long (x0 + y1)), .second, .val (.long ((x0 + y1) + y2)), .second, .val (.ref b), .val (.long ((x0 + y1) + y2)), .second, .val (.long ((x0 + (x0 + y1)) + ((x0 + y1) + y2))), .second, .val (.double (FP.l2d x0)), .second, .val (.double (FP.l2d x0)), .second] [(.int (1 : Int32))])) _
    refine XS.goto Xc.here hx rfl (pc0 := 281) (pc' := 285) rfl (hb hby at_281) (by decide) (by decide) ?_
    show Steps p.tables e below (Tc.setTop (mkF m 285 #[.val (.int p1), .val (.int p2), .val (.int p3), .val (.int p4), .val (.int p5), .val (.int (0 : Int32)), .val (.ref wMIN), .val (.int (3 : Int32)), .val (.long x0), .second, .val (.long (x0 + y1)), .second, .val (.long ((x0 + y1) + y2)), .second, .val (.ref b), .val (.long ((x0 + y1) + y2)), .second, .val (.long ((x0 + (x0 + y1)) + ((x0 + y1) + y2))), .second, .val (.double (FP.l2d x0)), .second, .val (.double (FP.l2d x0)), .second] [(.int (1 : Int32))])) _
    exact retN Xc hx (t := .boolean) Bd.returns (by simp) (hb hby at_285) hr
  · show Q0 h0 n0 _ Tc.heap _
    exact ⟨rfl, Nc⟩
set_option maxRecDepth 65536 in
set_option maxHeartbeats 40000000 in
theorem rm0_1_1 (l : Launch) (Z : State) (a0 : Array Value) (hw : ∀ d ∈ tables_1, d.before a0 Z = true) (ws : List Jvm.Cond) (p1 p2 p3 p4 p5 : Int32) (wMIN wMAX wAVG wSUM : Addr) (x0 y1 y2 : Int64) (h0 : Heap) (n0 : Nat) (Z0 : n0 ≤ h0.size) (S_MIN : Sta Z h0 "com/example/tiebreaker/tiebreaker/engine/search/DecayFunction$MultiValueMode" "MIN" "Lcom/example/tiebreaker/tiebreaker/engine/search/DecayFunction$MultiValueMode;" (.ref wMIN)) (S_MAX : Sta Z h0 "com/example/tiebreaker/tiebreaker/engine/search/DecayFunction$MultiValueMode" "MAX" "Lcom/example/tiebreaker/tiebreaker/engine/search/DecayFunction$MultiValueMode;" (.ref wMAX)) (S_AVG : Sta Z h0 "com/example/tiebreaker/tiebreaker/engine/search/DecayFunction$MultiValueMode" "AVG" "Lcom/example/tiebreaker/tiebreaker/engine/search/DecayFunction$MultiValueMode;" (.ref wAVG)) (S_SUM : Sta Z h0 "com/example/tiebreaker/tiebreaker/engine/search/DecayFunction$MultiValueMode" "SUM" "Lcom/example/tiebreaker/tiebreaker/engine/search/DecayFunction$MultiValueMode;" (.ref wSUM)) (nXI : ¬ wMAX = wMIN) (nAI : ¬ wAVG = wMIN) (nAX : ¬ wAVG = wMAX) (nSI : ¬ wSUM = wMIN) (nSX : ¬ wSUM = wMAX) (nAS : ¬ wAVG = wSUM) (E_m : Exa Z h0 wMAX "com/example/tiebreaker/tiebreaker/engine/search/DecayFunction$MultiValueMode") (hx0 : x0 = (p3 &&& (1048575 : Int32)).toInt64) (hy1 : y1 = (p4 &&& (1048575 : Int32)).toInt64) (hy2 : y2 = (p5 &&& (1048575 : Int32)).toInt64) (b0 : 0 ≤ x0.toInt ∧ x0.toInt < 4000000) (b1 : 0 ≤ (x0 + y1).toInt ∧ (x0 + y1).toInt < 4000000) (b2 : 0 ≤ ((x0 + y1) + y2).toInt ∧ ((x0 + y1) + y2).toInt < 4000000) (hm : (p1 &&& (3 : Int32)) = (1 : Int32)) (hn : (((p2 &&& (2147483647 : Int32)) % (3 : Int32)) + (1 : Int32)) = (1 : Int32)) :
    MetFree l x (head1 (Jvm.Cond.code x code maxLocals ret :: ws) room_1) (fun a U => a = #[(.int p1), (.int p2), (.int p3), (.int p4), (.int p5)] ∧ Z.Warmed39 U.vm ∧ U.heap = h0) (fun _ _ _ _ _ => True) (fun _ U o U' => ∃ v L, o = .returned v ∧ Q0 h0 n0 v U'.heap L ∧ FrameEnd U o U' L room_1.cells room_1.slots) := by
  refine MetFree.of_bodySF (plainFor_of_name pn_0) hisR ?_
  intro p e s m args below meth c s₁ Bd hml0 hP hK
  obtain ⟨rfl, hZ, hh⟩ := hP
  have hx := Bd.exec
  have hby := Bd.bytes
  have hml : c.maxLocals = 23 := hml0
  have hown : s.vm.findClass "com/example/tiebreaker/tiebreaker/engine/search/MultiValueModePickPinLaw" = some m.cls := findClass_of_methodNamed Bd.named
  have X0 : Stand p l e room_1 s m #[(.int p1), (.int p2), (.int p3), (.int p4), (.int p5)] below meth c s₁ [] 0 0 := Stand.of_body Bd
  have e0 : s₁.heap = h0 := by rw [← hh, Bd.state]; rfl
  have N0 := Fr.nil n0
  have pre0 : ∀ t, Steps p.tables e below (s₁.setTop (mkF m 0 #[.val (.int p1), .val (.int p2), .val (.int p3), .val (.int p4), .val (.int p5), uu, uu, uu, uu, uu, uu, uu, uu, uu, uu, uu, uu, uu, uu, uu, uu, uu, uu] [])) t → Steps p.tables e below (s₁.setTop (entryFrame m #[(.int p1), (.int p2), (.int p3), (.int p4), (.int p5)] maxLocals)) t := fun t k => castTop (ef_0 m p1 p2 p3 p4 p5) k
  obtain ⟨T50, X50, e50, st50⟩ := getS2 X0 hx hZ hown (host := "") (Or.inl (hw _ (List.mem_of_getElem? (i := 19) rfl))) Via.refl e0 S_MAX (g := (mkF m 22 #[.val (.int p1), .val (.int p2), .val (.int p3), .val (.int p4), .val (.int p5), .val (.int (1 : Int32)), uu, uu, uu, uu, uu, uu, uu, uu, uu, uu, uu, uu, uu, uu, uu, uu, uu] [])) rfl (hb hby at_22)
  obtain ⟨Ta, ha, ka, Xa, ea, Ea, Aa, sta_⟩ := newP X50 hx hZ (hw _ (List.mem_of_getElem? (i := 5) rfl)) e50 (g := (mkF m 90 #[.val (.int p1), .val (.int p2), .val (.int p3), .val (.int p4), .val (.int p5), .val (.int (1 : Int32)), .val (.ref wMAX), .val (.int (1 : Int32)), .val (.long x0), .second, .val (.long (x0 + y1)), .second, .val (.long ((x0 + y1) + y2)), .second, uu, uu, uu, uu, uu, uu, uu, uu, uu] [(.int (1 : Int32))])) rfl (hb hby at_90) rfl (by decide) (cap := 1) (by decide) (by decide) (by decide) (by decide)
  obtain ⟨b, gb⟩ : ∃ z, z = h0.size := ⟨_, rfl⟩
  rw [← gb] at Aa sta_
  have V0 : Arv Z ha b ka .double (1 : Int32) [] (.double (FP.l2d 0)) := Arv.newD Aa (by decide)
  have Vp : Arv Z ha b ka .double (1 : Int32) (List.replicate 1 (.double (FP.l2d 0))) (.double (FP.l2d 0)) := V0.pad (pad_rep [] (.double (FP.l2d 0)) 1)
  have g_b : n0 ≤ b := Nat.le_trans Z0 (Nat.le_of_eq gb.symm)
  have sz_b : h0.size ≤ b := Nat.le_of_eq gb.symm
  have Ka : Keep h0 ha [] := (Keep.refl h0 []).ext Ea
  obtain ⟨cl0, Ar0, q0, Sz0, M0, H0, U0⟩ := Vp
  obtain ⟨Td0, hd0, Xd0, ed0, Wd0, std0⟩ := stD Xa hx hZ ea Ar0 (j := (0 : Int32)) (inb_of Sz0 (by decide)) (g := (mkF m 97 #[.val (.int p1), .val (.int p2), .val (.int p3), .val (.int p4), .val (.int p5), .val (.int (1 : Int32)), .val (.ref wMAX), .val (.int (1 : Int32)), .val (.long x0), .second, .val (.long (x0 + y1)), .second, .val (.long ((x0 + y1) + y2)), .second, uu, uu, uu, uu, uu, uu, uu, uu, uu] [(.double (FP.l2d x0)), (.int (0 : Int32)), (.ref b), (.ref b)])) rfl rfl (hb hby at_97)
  have V1 := Arv.set Ar0 q0 Sz0 M0 H0 U0 (v := (.double (FP.l2d x0))) rfl Wd0 0 rfl (by simp)
  have Nd0 := Fr.snoc Xd0 N0 g_b
  have Kd0 : Keep h0 hd0 [] := Ka.wr Wd0 (Or.inr sz_b)
  have KK : Keep h0 hd0 [] := Kd0
  obtain ⟨cl, Ar, -, Sz, Nn, Hh, -⟩ := V1
  have hat0 : cl.slots[0]? = some (.double (FP.l2d x0)) := Hh 0 (by rw [Sz]; decide)
  obtain ⟨cq, kq, qa, qb, qc⟩ := isOf hZ ed0 (E_m.keep KK)
  obtain ⟨_, _, ⟨Tc, Lc, kc, nc⟩, -, Xc, ⟨Lcc, hQc, lc, yc, zc⟩, stc⟩ := Xd0.virtualBack hx (y := (⟨"com/example/tiebreaker/tiebreaker/engine/search/DecayFunction$MultiValueMode", "pick", "([D)D"⟩ : MethodName)) (z := (⟨"com/example/tiebreaker/tiebreaker/engine/search/DecayFunction$MultiValueMode", "pick", "([D)D"⟩ : MethodName)) hown (mvT hZ (hw _ (List.mem_of_getElem? (i := 6) rfl))) (mvT hZ (hw _ (List.mem_of_getElem? (i := 7) rfl))) (notFace_of_selects (args := #[]) (mvT hZ (hw _ (List.mem_of_getElem? (i := 9) rfl)))) (mvT hZ (hw _ (List.mem_of_getElem? (i := 9) rfl))) (mvT hZ (hw _ (List.mem_of_getElem? (i := 8) rfl))) (by decide) (backOf (W := 0) (rm1_MAX_1 l Z a0 hw [] b wMIN wMAX wAVG wSUM x0 hd0 n0 (Nat.le_trans Z0 KK.1) (own_sta S_MIN KK) (own_sta S_MAX KK) (own_sta S_AVG KK) (own_sta S_SUM KK) nXI nAI nAX nSI nSX nAS cl Ar Sz Nn hat0 b0) hZ (hw _ (List.mem_of_getElem? (i := 10) rfl)) (hw _ (List.mem_of_getElem? (i := 1) rfl)) (by decide) (by decide)) qa qc (g := (mkF m 267 #[.val (.int p1), .val (.int p2), .val (.int p3), .val (.int p4), .val (.int p5), .val (.int (1 : Int32)), .val (.ref wMAX), .val (.int (1 : Int32)), .val (.long x0), .second, .val (.long (x0 + y1)), .second, .val (.long ((x0 + y1) + y2)), .second, .val (.ref b), .val (.long x0), .second, .val (.long x0), .second, .val (.double (FP.l2d x0)), .second, uu, uu] [(.ref b), (.ref wMAX)])) rfl (by rw [hml]; rfl) (Steps.refl _) (argsL := [(.ref b)]) (rest := []) (lenOf pd_0 rfl) rfl (by show 2 * 0 + _ ≤ _; exact Nat.le_of_eq rfl) (hb hby at_267) (fun _ _ => ⟨rfl, ed0, (by decide : 0 + 1 + 0 ≤ _), (by decide : 0 + 1 + 0 ≤ _)⟩)
  dsimp only [Pt.U, Pt.locs, Pt.cells, Pt.slots] at Xc lc yc zc stc hQc
  subst lc yc zc
  obtain ⟨rfl, Ncq, ec⟩ := hQc
  have Nc := Fr.app Nd0 Ncq
  obtain ⟨fs, hr, hrun, hended, hW, hsame⟩ := Xc.leave (v := some (.int (1 : Int32))) (fun h => by rw [Bd.returns] at h; cases h)
  refine ⟨_, _, pre0 _ ?_, hrun, hended, _, _, rfl, ?_, ⟨_, rfl⟩, hW, hsame.mono (by decide) (by decide)⟩
  · show Steps p.tables e below (s₁.setTop (mkF m 0 #[.val (.int p1), .val (.int p2), .val (.int p3), .val (.int p4), .val (.int p5), uu, uu, uu, uu, uu, uu, uu, uu, uu, uu, uu, uu, uu, uu, uu, uu, uu, uu] [])) _
    refine XS.iloadN X0.here hx rfl (hb hby at_0) rfl ?_
    show Steps p.tables e below (s₁.setTop (mkF m 1 #[.val (.int p1), .val (.int p2), .val (.int p3), .val (.int p4), .val (.int p5), uu, uu, uu, uu, uu, uu, uu, uu, uu, uu, uu, uu, uu, uu, uu, uu, uu, uu] [(.int p1)])) _
    refine XS.iconst X0.here hx rfl (hb hby at_1) ?_
    show Steps p.tables e below (s₁.setTop (mkF m 2 #[.val (.int p1), .val (.int p2), .val (.int p3), .val (.int p4), .val (.int p5), uu, uu, uu, uu, uu, uu, uu, uu, uu, uu, uu, uu, uu, uu, uu, uu, uu, uu] [(.int (3 : Int32)), (.int p1)])) _
    refine XS.iand X0.here hx rfl (hb hby at_2) rfl ?_
    show Steps p.tables e below (s₁.setTop (mkF m 3 #[.val (.int p1), .val (.int p2), .val (.int p3), .val (.int p4), .val (.int p5), uu, uu, uu, uu, uu, uu, uu, uu, uu, uu, uu, uu, uu, uu, uu, uu, uu, uu] [(.int (p1 &&& (3 : Int32)))])) _
    rw [hm]
    show Steps p.tables e below (s₁.setTop (mkF m 3 #[.val (.int p1), .val (.int p2), .val (.int p3), .val (.int p4), .val (.int p5), uu, uu, uu, uu, uu, uu, uu, uu, uu, uu, uu, uu, uu, uu, uu, uu, uu, uu] [(.int (1 : Int32))])) _
    refine XS.istore X0.here hx rfl (hb hby at_3) rfl (l' := #[.val (.int p1), .val (.int p2), .val (.int p3), .val (.int p4), .val (.int p5), .val (.int (1 : Int32)), uu, uu, uu, uu, uu, uu, uu, uu, uu, uu, uu, uu, uu, uu, uu, uu, uu]) rfl ?_
    show Steps p.tables e below (s₁.setTop (mkF m 5 #[.val (.int p1), .val (.int p2), .val (.int p3), .val (.int p4), .val (.int p5), .val (.int (1 : Int32)), uu, uu, uu, uu, uu, uu, uu, uu, uu, uu, uu, uu, uu, uu, uu, uu, uu] [])) _
    refine XS.iload X0.here hx rfl (hb hby at_5) rfl ?_
    show Steps p.tables e below (s₁.setTop (mkF m 7 #[.val (.int p1), .val (.int p2), .val (.int p3), .val (.int p4), .val (.int p5), .val (.int (1 : Int32)), uu, uu, uu, uu, uu, uu, uu, uu, uu, uu, uu, uu, uu, uu, uu, uu, uu] [(.int (1 : Int32))])) _
    refine XS.ifYes X0.here hx rfl (pc0 := 7) (pc' := 16) rfl (hb hby at_7) rfl ((if0 _ _).trans (feq (by decide : ¬ ((1 : Int32) = (0 : Int32)))).2) (by decide) (by decide) ?_
    show Steps p.tables e below (s₁.setTop (mkF m 16 #[.val (.int p1), .val (.int p2), .val (.int p3), .val (.int p4), .val (.int p5), .val (.int (1 : Int32)), uu, uu, uu, uu, uu, uu, uu, uu, uu, uu, uu, uu, uu, uu, uu, uu, uu] [])) _
    refine XS.iload X0.here hx rfl (hb hby at_16) rfl ?_
    show Steps p.tables e below (s₁.setTop (mkF m 18 #[.val (.int p1), .val (.int p2), .val (.int p3), .val (.int p4), .val (.int p5), .val (.int (1 : Int32)), uu, uu, uu, uu, uu, uu, uu, uu, uu, uu, uu, uu, uu, uu, uu, uu, uu] [(.int (1 : Int32))])) _
    refine XS.iconst X0.here hx rfl (hb hby at_18) ?_
    show Steps p.tables e below (s₁.setTop (mkF m 19 #[.val (.int p1), .val (.int p2), .val (.int p3), .val (.int p4), .val (.int p5), .val (.int (1 : Int32)), uu, uu, uu, uu, uu, uu, uu, uu, uu, uu, uu, uu, uu, uu, uu, uu, uu] [(.int (1 : Int32)), (.int (1 : Int32))])) _
    refine XS.icmpNo X0.here hx rfl (hb hby at_19) rfl (teq (by decide : (1 : Int32) = (1 : Int32))).2 ?_
    show Steps p.tables e below (s₁.setTop (mkF m 22 #[.val (.int p1), .val (.int p2), .val (.int p3), .val (.int p4), .val (.int p5), .val (.int (1 : Int32)), uu, uu, uu, uu, uu, uu, uu, uu, uu, uu, uu, uu, uu, uu, uu, uu, uu] [])) _
    refine st50 _ ?_
    show Steps p.tables e below (T50.setTop (mkF m 25 #[.val (.int p1), .val (.int p2), .val (.int p3), .val (.int p4), .val (.int p5), .val (.int (1 : Int32)), uu, uu, uu, uu, uu, uu, uu, uu, uu, uu, uu, uu, uu, uu, uu, uu, uu] [(.ref wMAX)])) _
    refine XS.goto X50.here hx rfl (pc0 := 25) (pc' := 43) rfl (hb hby at_25) (by decide) (by decide) ?_
    show Steps p.tables e below (T50.setTop (mkF m 43 #[.val (.int p1), .val (.int p2), .val (.int p3), .val (.int p4), .val (.int p5), .val (.int (1 : Int32)), uu, uu, uu, uu, uu, uu, uu, uu, uu, uu, uu, uu, uu, uu, uu, uu, uu] [(.ref wMAX)])) _
    refine XS.astore X50.here hx rfl (hb hby at_43) rfl rfl (l' := #[.val (.int p1), .val (.int p2), .val (.int p3), .val (.int p4), .val (.int p5), .val (.int (1 : Int32)), .val (.ref wMAX), uu, uu, uu, uu, uu, uu, uu, uu, uu, uu, uu, uu, uu, uu, uu, uu]) rfl ?_
    show Steps p.tables e below (T50.setTop (mkF m 45 #[.val (.int p1), .val (.int p2), .val (.int p3), .val (.int p4), .val (.int p5), .val (.int (1 : Int32)), .val (.ref wMAX), uu, uu, uu, uu, uu, uu, uu, uu, uu, uu, uu, uu, uu, uu, uu, uu] [])) _
    refine XS.iloadN X50.here hx rfl (hb hby at_45) rfl ?_
    show Steps p.tables e below (T50.setTop (mkF m 46 #[.val (.int p1), .val (.int p2), .val (.int p3), .val (.int p4), .val (.int p5), .val (.int (1 : Int32)), .val (.ref wMAX), uu, uu, uu, uu, uu, uu, uu, uu, uu, uu, uu, uu, uu, uu, uu, uu] [(.int p2)])) _
    refine X50.ldcInt hx hown (mvT hZ (hw _ (List.mem_of_getElem? (i := 3) rfl))) (g := (mkF m 46 #[.val (.int p1), .val (.int p2), .val (.int p3), .val (.int p4), .val (.int p5), .val (.int (1 : Int32)), .val (.ref wMAX), uu, uu, uu, uu, uu, uu, uu, uu, uu, uu, uu, uu, uu, uu, uu, uu] [(.int p2)])) rfl (hb hby at_46) _ ?_
    show Steps p.tables e below (T50.setTop (mkF m 48 #[.val (.int p1), .val (.int p2), .val (.int p3), .val (.int p4), .val (.int p5), .val (.int (1 : Int32)), .val (.ref wMAX), uu, uu, uu, uu, uu, uu, uu, uu, uu, uu, uu, uu, uu, uu, uu, uu] [(.int (2147483647 : Int32)), (.int p2)])) _
    refine XS.iand X50.here hx rfl (hb hby at_48) rfl ?_
    show Steps p.tables e below (T50.setTop (mkF m 49 #[.val (.int p1), .val (.int p2), .val (.int p3), .val (.int p4), .val (.int p5), .val (.int (1 : Int32)), .val (.ref wMAX), uu, uu, uu, uu, uu, uu, uu, uu, uu, uu, uu, uu, uu, uu, uu, uu] [(.int (p2 &&& (2147483647 : Int32)))])) _
    refine XS.iconst X50.here hx rfl (hb hby at_49) ?_
    show Steps p.tables e below (T50.setTop (mkF m 50 #[.val (.int p1), .val (.int p2), .val (.int p3), .val (.int p4), .val (.int p5), .val (.int (1 : Int32)), .val (.ref wMAX), uu, uu, uu, uu, uu, uu, uu, uu, uu, uu, uu, uu, uu, uu, uu, uu] [(.int (3 : Int32)), (.int (p2 &&& (2147483647 : Int32)))])) _
    refine iremM X50 hx rfl (hb hby at_50) rfl (by decide) ?_
    show Steps p.tables e below (T50.setTop (mkF m 51 #[.val (.int p1), .val (.int p2), .val (.int p3), .val (.int p4), .val (.int p5), .val (.int (1 : Int32)), .val (.ref wMAX), uu, uu, uu, uu, uu, uu, uu, uu, uu, uu, uu, uu, uu, uu, uu, uu] [(.int ((p2 &&& (2147483647 : Int32)) % (3 : Int32)))])) _
    refine XS.iconst X50.here hx rfl (hb hby at_51) ?_
    show Steps p.tables e below (T50.setTop (mkF m 52 #[.val (.int p1), .val (.int p2), .val (.int p3), .val (.int p4), .val (.int p5), .val (.int (1 : Int32)), .val (.ref wMAX), uu, uu, uu, uu, uu, uu, uu, uu, uu, uu, uu, uu, uu, uu, uu, uu] [(.int (1 : Int32)), (.int ((p2 &&& (2147483647 : Int32)) % (3 : Int32)))])) _
    refine XS.iadd X50.here hx rfl (hb hby at_52) rfl ?_
    show Steps p.tables e below (T50.setTop (mkF m 53 #[.val (.int p1), .val (.int p2), .val (.int p3), .val (.int p4), .val (.int p5), .val (.int (1 : Int32)), .val (.ref wMAX), uu, uu, uu, uu, uu, uu, uu, uu, uu, uu, uu, uu, uu, uu, uu, uu] [(.int (((p2 &&& (2147483647 : Int32)) % (3 : Int32)) + (1 : Int32)))])) _
    rw [hn]
    show Steps p.tables e below (T50.setTop (mkF m 53 #[.val (.int p1), .val (.int p2), .val (.int p3), .val (.int p4), .val (.int p5), .val (.int (1 : Int32)), .val (.ref wMAX), uu, uu, uu, uu, uu, uu, uu, uu, uu, uu, uu, uu, uu, uu, uu, uu] [(.int (1 : Int32))])) _
    refine XS.istore X50.here hx rfl (hb hby at_53) rfl (l' := #[.val (.int p1), .val (.int p2), .val (.int p3), .val (.int p4), .val (.int p5), .val (.int (1 : Int32)), .val (.ref wMAX), .val (.int (1 : Int32)), uu, uu, uu, uu, uu, uu, uu, uu, uu, uu, uu, uu, uu, uu, uu]) rfl ?_
    show Steps p.tables e below (T50.setTop (mkF m 55 #[.val (.int p1), .val (.int p2), .val (.int p3), .val (.int p4), .val (.int p5), .val (.int (1 : Int32)), .val (.ref wMAX), .val (.int (1 : Int32)), uu, uu, uu, uu, uu, uu, uu, uu, uu, uu, uu, uu, uu, uu, uu] [])) _
    refine XS.iloadN X50.here hx rfl (hb hby at_55) rfl ?_
    show Steps p.tables e below (T50.setTop (mkF m 56 #[.val (.int p1), .val (.int p2), .val (.int p3), .val (.int p4), .val (.int p5), .val (.int (1 : Int32)), .val (.ref wMAX), .val (.int (1 : Int32)), uu, uu, uu, uu, uu, uu, uu, uu, uu, uu, uu, uu, uu, uu, uu] [(.int p3)])) _
    refine X50.ldcInt hx hown (mvT hZ (hw _ (List.mem_of_getElem? (i := 4) rfl))) (g := (mkF m 56 #[.val (.int p1), .val (.int p2), .val (.int p3), .val (.int p4), .val (.int p5), .val (.int (1 : Int32)), .val (.ref wMAX), .val (.int (1 : Int32)), uu, uu, uu, uu, uu, uu, uu, uu, uu, uu, uu, uu, uu, uu, uu] [(.int p3)])) rfl (hb hby at_56) _ ?_
    show Steps p.tables e below (T50.setTop (mkF m 58 #[.val (.int p1), .val (.int p2), .val (.int p3), .val (.int p4), .val (.int p5), .val (.int (1 : Int32)), .val (.ref wMAX), .val (.int (1 : Int32)), uu, uu, uu, uu, uu, uu, uu, uu, uu, uu, uu, uu, uu, uu, uu] [(.int (1048575 : Int32)), (.int p3)])) _
    refine XS.iand X50.here hx rfl (hb hby at_58) rfl ?_
    show Steps p.tables e below (T50.setTop (mkF m 59 #[.val (.int p1), .val (.int p2), .val (.int p3), .val (.int p4), .val (.int p5), .val (.int (1 : Int32)), .val (.ref wMAX), .val (.int (1 : Int32)), uu, uu, uu, uu, uu, uu, uu, uu, uu, uu, uu, uu, uu, uu, uu] [(.int (p3 &&& (1048575 : Int32)))])) _
    refine XS.i2l X50.here hx rfl (hb hby at_59) rfl ?_
    show Steps p.tables e below (T50.setTop (mkF m 60 #[.val (.int p1), .val (.int p2), .val (.int p3), .val (.int p4), .val (.int p5), .val (.int (1 : Int32)), .val (.ref wMAX), .val (.int (1 : Int32)), uu, uu, uu, uu, uu, uu, uu, uu, uu, uu, uu, uu, uu, uu, uu] [(.long ((p3 &&& (1048575 : Int32)).toInt64))])) _
    rw [← hx0]
    show Steps p.tables e below (T50.setTop (mkF m 60 #[.val (.int p1), .val (.int p2), .val (.int p3), .val (.int p4), .val (.int p5), .val (.int (1 : Int32)), .val (.ref wMAX), .val (.int (1 : Int32)), uu, uu, uu, uu, uu, uu, uu, uu, uu, uu, uu, uu, uu, uu, uu] [(.long x0)])) _
    refine XS.lstore X50.here hx rfl (hb hby at_60) rfl (l' := #[.val (.int p1), .val (.int p2), .val (.int p3), .val (.int p4), .val (.int p5), .val (.int (1 : Int32)), .val (.ref wMAX), .val (.int (1 : Int32)), .val (.long x0), .second, uu, uu, uu, uu, uu, uu, uu, uu, uu, uu, uu, uu, uu]) rfl ?_
    show Steps p.tables e below (T50.setTop (mkF m 62 #[.val (.int p1), .val (.int p2), .val (.int p3), .val (.int p4), .val (.int p5), .val (.int (1 : Int32)), .val (.ref wMAX), .val (.int (1 : Int32)), .val (.long x0), .second, uu, uu, uu, uu, uu, uu, uu, uu, uu, uu, uu, uu, uu] [])) _
    refine XS.lload X50.here hx rfl (hb hby at_62) rfl ?_
    show Steps p.tables e below (T50.setTop (mkF m 64 #[.val (.int p1), .val (.int p2), .val (.int p3), .val (.int p4), .val (.int p5), .val (.int (1 : Int32)), .val (.ref wMAX), .val (.int (1 : Int32)), .val (.long x0), .second, uu, uu, uu, uu, uu, uu, uu, uu, uu, uu, uu, uu, uu] [(.long x0)])) _
    refine XS.iloadN X50.here hx rfl (hb hby at_64) rfl ?_
    show Steps p.tables e below (T50.setTop (mkF m 65 #[.val (.int p1), .val (.int p2), .val (.int p3), .val (.int p4), .val (.int p5), .val (.int (1 : Int32)), .val (.ref wMAX), .val (.int (1 : Int32)), .val (.long x0), .second, uu, uu, uu, uu, uu, uu, uu, uu, uu, uu, uu, uu, uu] [(.int p4), (.long x0)])) _
    refine X50.ldcInt hx hown (mvT hZ (hw _ (List.mem_of_getElem? (i := 4) rfl))) (g := (mkF m 65 #[.val (.int p1), .val (.int p2), .val (.int p3), .val (.int p4), .val (.int p5), .val (.int (1 : Int32)), .val (.ref wMAX), .val (.int (1 : Int32)), .val (.long x0), .second, uu, uu, uu, uu, uu, uu, uu, uu, uu, uu, uu, uu, uu] [(.int p4), (.long x0)])) rfl (hb hby at_65) _ ?_
    show Steps p.tables e below (T50.setTop (mkF m 67 #[.val (.int p1), .val (.int p2), .val (.int p3), .val (.int p4), .val (.int p5), .val (.int (1 : Int32)), .val (.ref wMAX), .val (.int (1 : Int32)), .val (.long x0), .second, uu, uu, uu, uu, uu, uu, uu, uu, uu, uu, uu, uu, uu] [(.int (1048575 : Int32)), (.int p4), (.long x0)])) _
    refine XS.iand X50.here hx rfl (hb hby at_67) rfl ?_
    show Steps p.tables e below (T50.setTop (mkF m 68 #[.val (.int p1), .val (.int p2), .val (.int p3), .val (.int p4), .val (.int p5), .val (.int (1 : Int32)), .val (.ref wMAX), .val (.int (1 : Int32)), .val (.long x0), .second, uu, uu, uu, uu, uu, uu, uu, uu, uu, uu, uu, uu, uu] [(.int (p4 &&& (1048575 : Int32))), (.long x0)])) _
    refine XS.i2l X50.here hx rfl (hb hby at_68) rfl ?_
    show Steps p.tables e below (T50.setTop (mkF m 69 #[.val (.int p1), .val (.int p2), .val (.int p3), .val (.int p4), .val (.int p5), .val (.int (1 : Int32)), .val (.ref wMAX), .val (.int (1 : Int32)), .val (.long x0), .second, uu, uu, uu, uu, uu, uu, uu, uu, uu, uu, uu, uu, uu] [(.long ((p4 &&& (1048575 : Int32)).toInt64)), (.long x0)])) _
    rw [← hy1]
    show Steps p.tables e below (T50.setTop (mkF m 69 #[.val (.int p1), .val (.int p2), .val (.int p3), .val (.int p4), .val (.int p5), .val (.int (1 : Int32)), .val (.ref wMAX), .val (.int (1 : Int32)), .val (.long x0), .second, uu, uu, uu, uu, uu, uu, uu, uu, uu, uu, uu, uu, uu] [(.long y1), (.long x0)])) _
    refine XS.ladd X50.here hx rfl (hb hby at_69) rfl ?_
    show Steps p.tables e below (T50.setTop (mkF m 70 #[.val (.int p1), .val (.int p2), .val (.int p3), .val (.int p4), .val (.int p5), .val (.int (1 : Int32)), .val (.ref wMAX), .val (.int (1 : Int32)), .val (.long x0), .second, uu, uu, uu, uu, uu, uu, uu, uu, uu, uu, uu, uu, uu] [(.long (x0 + y1))])) _
    refine XS.lstore X50.here hx rfl (hb hby at_70) rfl (l' := #[.val (.int p1), .val (.int p2), .val (.int p3), .val (.int p4), .val (.int p5), .val (.int (1 : Int32)), .val (.ref wMAX), .val (.int (1 : Int32)), .val (.long x0), .second, .val (.long (x0 + y1)), .second, uu, uu, uu, uu, uu, uu, uu, uu, uu, uu, uu]) rfl ?_
    show Steps p.tables e below (T50.setTop (mkF m 72 #[.val (.int p1), .val (.int p2), .val (.int p3), .val (.int p4), .val (.int p5), .val (.int (1 : Int32)), .val (.ref wMAX), .val (.int (1 : Int32)), .val (.long x0), .second, .val (.long (x0 + y1)), .second, uu, uu, uu, uu, uu, uu, uu, uu, uu, uu, uu] [])) _
    refine XS.lload X50.here hx rfl (hb hby at_72) rfl ?_
    show Steps p.tables e below (T50.setTop (mkF m 74 #[.val (.int p1), .val (.int p2), .val (.int p3), .val (.int p4), .val (.int p5), .val (.int (1 : Int32)), .val (.ref wMAX), .val (.int (1 : Int32)), .val (.long x0), .second, .val (.long (x0 + y1)), .second, uu, uu, uu, uu, uu, uu, uu, uu, uu, uu, uu] [(.long (x0 + y1))])) _
    refine XS.iload X50.here hx rfl (hb hby at_74) rfl ?_
    show Steps p.tables e below (T50.setTop (mkF m 76 #[.val (.int p1), .val (.int p2), .val (.int p3), .val (.int p4), .val (.int p5), .val (.int (1 : Int32)), .val (.ref wMAX), .val (.int (1 : Int32)), .val (.long x0), .second, .val (.long (x0 + y1)), .second, uu, uu, uu, uu, uu, uu, uu, uu, uu, uu, uu] [(.int p5), (.long (x0 + y1))])) _
    refine X50.ldcInt hx hown (mvT hZ (hw _ (List.mem_of_getElem? (i := 4) rfl))) (g := (mkF m 76 #[.val (.int p1), .val (.int p2), .val (.int p3), .val (.int p4), .val (.int p5), .val (.int (1 : Int32)), .val (.ref wMAX), .val (.int (1 : Int32)), .val (.long x0), .second, .val (.long (x0 + y1)), .second, uu, uu, uu, uu, uu, uu, uu, uu, uu, uu, uu] [(.int p5), (.long (x0 + y1))])) rfl (hb hby at_76) _ ?_
    show Steps p.tables e below (T50.setTop (mkF m 78 #[.val (.int p1), .val (.int p2), .val (.int p3), .val (.int p4), .val (.int p5), .val (.int (1 : Int32)), .val (.ref wMAX), .val (.int (1 : Int32)), .val (.long x0), .second, .val (.long (x0 + y1)), .second, uu, uu, uu, uu, uu, uu, uu, uu, uu, uu, uu] [(.int (1048575 : Int32)), (.int p5), (.long (x0 + y1))])) _
    refine XS.iand X50.here hx rfl (hb hby at_78) rfl ?_
    show Steps p.tables e below (T50.setTop (mkF m 79 #[.val (.int p1), .val (.int p2), .val (.int p3), .val (.int p4), .val (.int p5), .val (.int (1 : Int32)), .val (.ref wMAX), .val (.int (1 : Int32)), .val (.long x0), .second, .val (.long (x0 + y1)), .second, uu, uu, uu, uu, uu, uu, uu, uu, uu, uu, uu] [(.int (p5 &&& (1048575 : Int32))), (.long (x0 + y1))])) _
    refine XS.i2l X50.here hx rfl (hb hby at_79) rfl ?_
    show Steps p.tables e below (T50.setTop (mkF m 80 #[.val (.int p1), .val (.int p2), .val (.int p3), .val (.int p4), .val (.int p5), .val (.int (1 : Int32)), .val (.ref wMAX), .val (.int (1 : Int32)), .val (.long x0), .second, .val (.long (x0 + y1)), .second, uu, uu, uu, uu, uu, uu, uu, uu, uu, uu, uu] [(.long ((p5 &&& (1048575 : Int32)).toInt64)), (.long (x0 + y1))])) _
    rw [← hy2]
    show Steps p.tables e below (T50.setTop (mkF m 80 #[.val (.int p1), .val (.int p2), .val (.int p3), .val (.int p4), .val (.int p5), .val (.int (1 : Int32)), .val (.ref wMAX), .val (.int (1 : Int32)), .val (.long x0), .second, .val (.long (x0 + y1)), .second, uu, uu, uu, uu, uu, uu, uu, uu, uu, uu, uu] [(.long y2), (.long (x0 + y1))])) _
    refine XS.ladd X50.here hx rfl (hb hby at_80) rfl ?_
    show Steps p.tables e below (T50.setTop (mkF m 81 #[.val (.int p1), .val (.int p2), .val (.int p3), .val (.int p4), .val (.int p5), .val (.int (1 : Int32)), .val (.ref wMAX), .val (.int (1 : Int32)), .val (.long x0), .second, .val (.long (x0 + y1)), .second, uu, uu, uu, uu, uu, uu, uu, uu, uu, uu, uu] [(.long ((x0 + y1) + y2))])) _
    refine XS.lstore X50.here hx rfl (hb hby at_81) rfl (l' := #[.val (.int p1), .val (.int p2), .val (.int p3), .val (.int p4), .val (.int p5), .val (.int (1 : Int32)), .val (.ref wMAX), .val (.int (1 : Int32)), .val (.long x0), .second, .val (.long (x0 + y1)), .second, .val (.long ((x0 + y1) + y2)), .second, uu, uu, uu, uu, uu, uu, uu, uu, uu]) rfl ?_
    show Steps p.tables e below (T50.setTop (mkF m 83 #[.val (.int p1), .val (.int p2), .val (.int p3), .val (.int p4), .val (.int p5), .val (.int (1 : Int32)), .val (.ref wMAX), .val (.int (1 : Int32)), .val (.long x0), .second, .val (.long (x0 + y1)), .second, .val (.long ((x0 + y1) + y2)), .second, uu, uu, uu, uu, uu, uu, uu, uu, uu] [])) _
    refine XS.iload X50.here hx rfl (hb hby at_83) rfl ?_
    show Steps p.tables e below (T50.setTop (mkF m 85 #[.val (.int p1), .val (.int p2), .val (.int p3), .val (.int p4), .val (.int p5), .val (.int (1 : Int32)), .val (.ref wMAX), .val (.int (1 : Int32)), .val (.long x0), .second, .val (.long (x0 + y1)), .second, .val (.long ((x0 + y1) + y2)), .second, uu, uu, uu, uu, uu, uu, uu, uu, uu] [(.int (1 : Int32))])) _
    refine XS.iconst X50.here hx rfl (hb hby at_85) ?_
    show Steps p.tables e below (T50.setTop (mkF m 86 #[.val (.int p1), .val (.int p2), .val (.int p3), .val (.int p4), .val (.int p5), .val (.int (1 : Int32)), .val (.ref wMAX), .val (.int (1 : Int32)), .val (.long x0), .second, .val (.long (x0 + y1)), .second, .val (.long ((x0 + y1) + y2)), .second, uu, uu, uu, uu, uu, uu, uu, uu, uu] [(.int (1 : Int32)), (.int (1 : Int32))])) _
    refine XS.icmpNo X50.here hx rfl (hb hby at_86) rfl (teq (by decide : (1 : Int32) = (1 : Int32))).2 ?_
    show Steps p.tables e below (T50.setTop (mkF m 89 #[.val (.int p1), .val (.int p2), .val (.int p3), .val (.int p4), .val (.int p5), .val (.int (1 : Int32)), .val (.ref wMAX), .val (.int (1 : Int32)), .val (.long x0), .second, .val (.long (x0 + y1)), .second, .val (.long ((x0 + y1) + y2)), .second, uu, uu, uu, uu, uu, uu, uu, uu, uu] [])) _
    refine XS.iconst X50.here hx rfl (hb hby at_89) ?_
    show Steps p.tables e below (T50.setTop (mkF m 90 #[.val (.int p1), .val (.int p2), .val (.int p3), .val (.int p4), .val (.int p5), .val (.int (1 : Int32)), .val (.ref wMAX), .val (.int (1 : Int32)), .val (.long x0), .second, .val (.long (x0 + y1)), .second, .val (.long ((x0 + y1) + y2)), .second, uu, uu, uu, uu, uu, uu, uu, uu, uu] [(.int (1 : Int32))])) _
    refine sta_ _ ?_
    show Steps p.tables e below (Ta.setTop (mkF m 92 #[.val (.int p1), .val (.int p2), .val (.int p3), .val (.int p4), .val (.int p5), .val (.int (1 : Int32)), .val (.ref wMAX), .val (.int (1 : Int32)), .val (.long x0), .second, .val (.long (x0 + y1)), .second, .val (.long ((x0 + y1) + y2)), .second, uu, uu, uu, uu, uu, uu, uu, uu, uu] [(.ref b)])) _
    refine XS.dup Xa.here hx rfl (hb hby at_92) rfl rfl ?_
    show Steps p.tables e below (Ta.setTop (mkF m 93 #[.val (.int p1), .val (.int p2), .val (.int p3), .val (.int p4), .val (.int p5), .val (.int (1 : Int32)), .val (.ref wMAX), .val (.int (1 : Int32)), .val (.long x0), .second, .val (.long (x0 + y1)), .second, .val (.long ((x0 + y1) + y2)), .second, uu, uu, uu, uu, uu, uu, uu, uu, uu] [(.ref b), (.ref b)])) _
    refine XS.iconst Xa.here hx rfl (hb hby at_93) ?_
    show Steps p.tables e below (Ta.setTop (mkF m 94 #[.val (.int p1), .val (.int p2), .val (.int p3), .val (.int p4), .val (.int p5), .val (.int (1 : Int32)), .val (.ref wMAX), .val (.int (1 : Int32)), .val (.long x0), .second, .val (.long (x0 + y1)), .second, .val (.long ((x0 + y1) + y2)), .second, uu, uu, uu, uu, uu, uu, uu, uu, uu] [(.int (0 : Int32)), (.ref b), (.ref b)])) _
    refine XS.lload Xa.here hx rfl (hb hby at_94) rfl ?_
    show Steps p.tables e below (Ta.setTop (mkF m 96 #[.val (.int p1), .val (.int p2), .val (.int p3), .val (.int p4), .val (.int p5), .val (.int (1 : Int32)), .val (.ref wMAX), .val (.int (1 : Int32)), .val (.long x0), .second, .val (.long (x0 + y1)), .second, .val (.long ((x0 + y1) + y2)), .second, uu, uu, uu, uu, uu, uu, uu, uu, uu] [(.long x0), (.int (0 : Int32)), (.ref b), (.ref b)])) _
    refine XS.l2dS Xa.here hx rfl (hb hby at_96) rfl (v := FP.l2d x0) rfl ?_
    show Steps p.tables e below (Ta.setTop (mkF m 97 #[.val (.int p1), .val (.int p2), .val (.int p3), .val (.int p4), .val (.int p5), .val (.int (1 : Int32)), .val (.ref wMAX), .val (.int (1 : Int32)), .val (.long x0), .second, .val (.long (x0 + y1)), .second, .val (.long ((x0 + y1) + y2)), .second, uu, uu, uu, uu, uu, uu, uu, uu, uu] [(.double (FP.l2d x0)), (.int (0 : Int32)), (.ref b), (.ref b)])) _
    refine std0 _ ?_
    show Steps p.tables e below (Td0.setTop (mkF m 98 #[.val (.int p1), .val (.int p2), .val (.int p3), .val (.int p4), .val (.int p5), .val (.int (1 : Int32)), .val (.ref wMAX), .val (.int (1 : Int32)), .val (.long x0), .second, .val (.long (x0 + y1)), .second, .val (.long ((x0 + y1) + y2)), .second, uu, uu, uu, uu, uu, uu, uu, uu, uu] [(.ref b)])) _
    refine XS.astore Xd0.here hx rfl (hb hby at_98) rfl rfl (l' := #[.val (.int p1), .val (.int p2), .val (.int p3), .val (.int p4), .val (.int p5), .val (.int (1 : Int32)), .val (.ref wMAX), .val (.int (1 : Int32)), .val (.long x0), .second, .val (.long (x0 + y1)), .second, .val (.long ((x0 + y1) + y2)), .second, .val (.ref b), uu, uu, uu, uu, uu, uu, uu, uu]) rfl ?_
    show Steps p.tables e below (Td0.setTop (mkF m 100 #[.val (.int p1), .val (.int p2), .val (.int p3), .val (.int p4), .val (.int p5), .val (.int (1 : Int32)), .val (.ref wMAX), .val (.int (1 : Int32)), .val (.long x0), .second, .val (.long (x0 + y1)), .second, .val (.long ((x0 + y1) + y2)), .second, .val (.ref b), uu, uu, uu, uu, uu, uu, uu, uu] [])) _
    refine XS.goto Xd0.here hx rfl (pc0 := 100) (pc' := 152) rfl (hb hby at_100) (by decide) (by decide) ?_
    show Steps p.tables e below (Td0.setTop (mkF m 152 #[.val (.int p1), .val (.int p2), .val (.int p3), .val (.int p4), .val (.int p5), .val (.int (1 : Int32)), .val (.ref wMAX), .val (.int (1 : Int32)), .val (.long x0), .second, .val (.long (x0 + y1)), .second, .val (.long ((x0 + y1) + y2)), .second, .val (.ref b), uu, uu, uu, uu, uu, uu, uu, uu] [])) _
    refine XS.iload Xd0.here hx rfl (hb hby at_152) rfl ?_
    show Steps p.tables e below (Td0.setTop (mkF m 154 #[.val (.int p1), .val (.int p2), .val (.int p3), .val (.int p4), .val (.int p5), .val (.int (1 : Int32)), .val (.ref wMAX), .val (.int (1 : Int32)), .val (.long x0), .second, .val (.long (x0 + y1)), .second, .val (.long ((x0 + y1) + y2)), .second, .val (.ref b), uu, uu, uu, uu, uu, uu, uu, uu] [(.int (1 : Int32))])) _
    refine XS.iconst Xd0.here hx rfl (hb hby at_154) ?_
    show Steps p.tables e below (Td0.setTop (mkF m 155 #[.val (.int p1), .val (.int p2), .val (.int p3), .val (.int p4), .val (.int p5), .val (.int (1 : Int32)), .val (.ref wMAX), .val (.int (1 : Int32)), .val (.long x0), .second, .val (.long (x0 + y1)), .second, .val (.long ((x0 + y1) + y2)), .second, .val (.ref b), uu, uu, uu, uu, uu, uu, uu, uu] [(.int (1 : Int32)), (.int (1 : Int32))])) _
    refine XS.icmpNo Xd0.here hx rfl (hb hby at_155) rfl (teq (by decide : (1 : Int32) = (1 : Int32))).2 ?_
    show Steps p.tables e below (Td0.setTop (mkF m 158 #[.val (.int p1), .val (.int p2), .val (.int p3), .val (.int p4), .val (.int p5), .val (.int (1 : Int32)), .val (.ref wMAX), .val (.int (1 : Int32)), .val (.long x0), .second, .val (.long (x0 + y1)), .second, .val (.long ((x0 + y1) + y2)), .second, .val (.ref b), uu, uu, uu, uu, uu, uu, uu, uu] [])) _
    refine XS.lload Xd0.here hx rfl (hb hby at_158) rfl ?_
    show Steps p.tables e below (Td0.setTop (mkF m 160 #[.val (.int p1), .val (.int p2), .val (.int p3), .val (.int p4), .val (.int p5), .val (.int (1 : Int32)), .val (.ref wMAX), .val (.int (1 : Int32)), .val (.long x0), .second, .val (.long (x0 + y1)), .second, .val (.long ((x0 + y1) + y2)), .second, .val (.ref b), uu, uu, uu, uu, uu, uu, uu, uu] [(.long x0)])) _
    refine XS.goto Xd0.here hx rfl (pc0 := 160) (pc' := 176) rfl (hb hby at_160) (by decide) (by decide) ?_
    show Steps p.tables e below (Td0.setTop (mkF m 176 #[.val (.int p1), .val (.int p2), .val (.int p3), .val (.int p4), .val (.int p5), .val (.int (1 : Int32)), .val (.ref wMAX), .val (.int (1 : Int32)), .val (.long x0), .second, .val (.long (x0 + y1)), .second, .val (.long ((x0 + y1) + y2)), .second, .val (.ref b), uu, uu, uu, uu, uu, uu, uu, uu] [(.long x0)])) _
    refine XS.lstore Xd0.here hx rfl (hb hby at_176) rfl (l' := #[.val (.int p1), .val (.int p2), .val (.int p3), .val (.int p4), .val (.int p5), .val (.int (1 : Int32)), .val (.ref wMAX), .val (.int (1 : Int32)), .val (.long x0), .second, .val (.long (x0 + y1)), .second, .val (.long ((x0 + y1) + y2)), .second, .val (.ref b), .val (.long x0), .second, uu, uu, uu, uu, uu, uu]) rfl ?_
    show Steps p.tables e below (Td0.setTop (mkF m 178 #[.val (.int p1), .val (.int p2), .val (.int p3), .val (.int p4), .val (.int p5), .val (.int (1 : Int32)), .val (.ref wMAX), .val (.int (1 : Int32)), .val (.long x0), .second, .val (.long (x0 + y1)), .second, .val (.long ((x0 + y1) + y2)), .second, .val (.ref b), .val (.long x0), .second, uu, uu, uu, uu, uu, uu] [])) _
    refine XS.iload Xd0.here hx rfl (hb hby at_178) rfl ?_
    show Steps p.tables e below (Td0.setTop (mkF m 180 #[.val (.int p1), .val (.int p2), .val (.int p3), .val (.int p4), .val (.int p5), .val (.int (1 : Int32)), .val (.ref wMAX), .val (.int (1 : Int32)), .val (.long x0), .second, .val (.long (x0 + y1)), .second, .val (.long ((x0 + y1) + y2)), .second, .val (.ref b), .val (.long x0), .second, uu, uu, uu, uu, uu, uu] [(.int (1 : Int32))])) _
    refine XS.iconst Xd0.here hx rfl (hb hby at_180) ?_
    show Steps p.tables e below (Td0.setTop (mkF m 181 #[.val (.int p1), .val (.int p2), .val (.int p3), .val (.int p4), .val (.int p5), .val (.int (1 : Int32)), .val (.ref wMAX), .val (.int (1 : Int32)), .val (.long x0), .second, .val (.long (x0 + y1)), .second, .val (.long ((x0 + y1) + y2)), .second, .val (.ref b), .val (.long x0), .second, uu, uu, uu, uu, uu, uu] [(.int (1 : Int32)), (.int (1 : Int32))])) _
    refine XS.icmpNo Xd0.here hx rfl (hb hby at_181) rfl (teq (by decide : (1 : Int32) = (1 : Int32))).2 ?_
    show Steps p.tables e below (Td0.setTop (mkF m 184 #[.val (.int p1), .val (.int p2), .val (.int p3), .val (.int p4), .val (.int p5), .val (.int (1 : Int32)), .val (.ref wMAX), .val (.int (1 : Int32)), .val (.long x0), .second, .val (.long (x0 + y1)), .second, .val (.long ((x0 + y1) + y2)), .second, .val (.ref b), .val (.long x0), .second, uu, uu, uu, uu, uu, uu] [])) _
    refine XS.lload Xd0.here hx rfl (hb hby at_184) rfl ?_
    show Steps p.tables e below (Td0.setTop (mkF m 186 #[.val (.int p1), .val (.int p2), .val (.int p3), .val (.int p4), .val (.int p5), .val (.int (1 : Int32)), .val (.ref wMAX), .val (.int (1 : Int32)), .val (.long x0), .second, .val (.long (x0 + y1)), .second, .val (.long ((x0 + y1) + y2)), .second, .val (.ref b), .val (.long x0), .second, uu, uu, uu, uu, uu, uu] [(.long x0)])) _
    refine XS.goto Xd0.here hx rfl (pc0 := 186) (pc' := 211) rfl (hb hby at_186) (by decide) (by decide) ?_
    show Steps p.tables e below (Td0.setTop (mkF m 211 #[.val (.int p1), .val (.int p2), .val (.int p3), .val (.int p4), .val (.int p5), .val (.int (1 : Int32)), .val (.ref wMAX), .val (.int (1 : Int32)), .val (.long x0), .second, .val (.long (x0 + y1)), .second, .val (.long ((x0 + y1) + y2)), .second, .val (.ref b), .val (.long x0), .second, uu, uu, uu, uu, uu, uu] [(.long x0)])) _
    refine XS.lstore Xd0.here hx rfl (hb hby at_211) rfl (l' := #[.val (.int p1), .val (.int p2), .val (.int p3), .val (.int p4), .val (.int p5), .val (.int (1 : Int32)), .val (.ref wMAX), .val (.int (1 : Int32)), .val (.long x0), .second, .val (.long (x0 + y1)), .second, .val (.long ((x0 + y1) + y2)), .second, .val (.ref b), .val (.long x0), .second, .val (.long x0), .second, uu, uu, uu, uu]) rfl ?_
    show Steps p.tables e below (Td0.setTop (mkF m 213 #[.val (.int p1), .val (.int p2), .val (.int p3), .val (.int p4), .val (.int p5), .val (.int (1 : Int32)), .val (.ref wMAX), .val (.int (1 : Int32)), .val (.long x0), .second, .val (.long (x0 + y1)), .second, .val (.long ((x0 + y1) + y2)), .second, .val (.ref b), .val (.long x0), .second, .val (.long x0), .second, uu, uu, uu, uu] [])) _
    refine XS.iload Xd0.here hx rfl (hb hby at_213) rfl ?_
    show Steps p.tables e below (Td0.setTop (mkF m 215 #[.val (.int p1), .val (.int p2), .val (.int p3), .val (.int p4), .val (.int p5), .val (.int (1 : Int32)), .val (.ref wMAX), .val (.int (1 : Int32)), .val (.long x0), .second, .val (.long (x0 + y1)), .second, .val (.long ((x0 + y1) + y2)), .second, .val (.ref b), .val (.long x0), .second, .val (.long x0), .second, uu, uu, uu, uu] [(.int (1 : Int32))])) _
    refine XS.ifYes Xd0.here hx rfl (pc0 := 215) (pc' := 226) rfl (hb hby at_215) rfl ((if0 _ _).trans (feq (by decide : ¬ ((1 : Int32) = (0 : Int32)))).2) (by decide) (by decide) ?_
    show Steps p.tables e below (Td0.setTop (mkF m 226 #[.val (.int p1), .val (.int p2), .val (.int p3), .val (.int p4), .val (.int p5), .val (.int (1 : Int32)), .val (.ref wMAX), .val (.int (1 : Int32)), .val (.long x0), .second, .val (.long (x0 + y1)), .second, .val (.long ((x0 + y1) + y2)), .second, .val (.ref b), .val (.long x0), .second, .val (.long x0), .second, uu, uu, uu, uu] [])) _
    refine XS.iload Xd0.here hx rfl (hb hby at_226) rfl ?_
    show Steps p.tables e below (Td0.setTop (mkF m 228 #[.val (.int p1), .val (.int p2), .val (.int p3), .val (.int p4), .val (.int p5), .val (.int (1 : Int32)), .val (.ref wMAX), .val (.int (1 : Int32)), .val (.long x0), .second, .val (.long (x0 + y1)), .second, .val (.long ((x0 + y1) + y2)), .second, .val (.ref b), .val (.long x0), .second, .val (.long x0), .second, uu, uu, uu, uu] [(.int (1 : Int32))])) _
    refine XS.iconst Xd0.here hx rfl (hb hby at_228) ?_
    show Steps p.tables e below (Td0.setTop (mkF m 229 #[.val (.int p1), .val (.int p2), .val (.int p3), .val (.int p4), .val (.int p5), .val (.int (1 : Int32)), .val (.ref wMAX), .val (.int (1 : Int32)), .val (.long x0), .second, .val (.long (x0 + y1)), .second, .val (.long ((x0 + y1) + y2)), .second, .val (.ref b), .val (.long x0), .second, .val (.long x0), .second, uu, uu, uu, uu] [(.int (1 : Int32)), (.int (1 : Int32))])) _
    refine XS.icmpNo Xd0.here hx rfl (hb hby at_229) rfl (teq (by decide : (1 : Int32) = (1 : Int32))).2 ?_
    show Steps p.tables e below (Td0.setTop (mkF m 232 #[.val (.int p1), .val (.int p2), .val (.int p3), .val (.int p4), .val (.int p5), .val (.int (1 : Int32)), .val (.ref wMAX), .val (.int (1 : Int32)), .val (.long x0), .second, .val (.long (x0 + y1)), .second, .val (.long ((x0 + y1) + y2)), .second, .val (.ref b), .val (.long x0), .second, .val (.long x0), .second, uu, uu, uu, uu] [])) _
    refine XS.lload Xd0.here hx rfl (hb hby at_232) rfl ?_
    show Steps p.tables e below (Td0.setTop (mkF m 234 #[.val (.int p1), .val (.int p2), .val (.int p3), .val (.int p4), .val (.int p5), .val (.int (1 : Int32)), .val (.ref wMAX), .val (.int (1 : Int32)), .val (.long x0), .second, .val (.long (x0 + y1)), .second, .val (.long ((x0 + y1) + y2)), .second, .val (.ref b), .val (.long x0), .second, .val (.long x0), .second, uu, uu, uu, uu] [(.long x0)])) _
    refine XS.l2dS Xd0.here hx rfl (hb hby at_234) rfl (v := FP.l2d x0) rfl ?_
    show Steps p.tables e below (Td0.setTop (mkF m 235 #[.val (.int p1), .val (.int p2), .val (.int p3), .val (.int p4), .val (.int p5), .val (.int (1 : Int32)), .val (.ref wMAX), .val (.int (1 : Int32)), .val (.long x0), .second, .val (.long (x0 + y1)), .second, .val (.long ((x0 + y1) + y2)), .second, .val (.ref b), .val (.long x0), .second, .val (.long x0), .second, uu, uu, uu, uu] [(.double (FP.l2d x0))])) _
    refine XS.dstore Xd0.here hx rfl (hb hby at_235) rfl (l' := #[.val (.int p1), .val (.int p2), .val (.int p3), .val (.int p4), .val (.int p5), .val (.int (1 : Int32)), .val (.ref wMAX), .val (.int (1 : Int32)), .val (.long x0), .second, .val (.long (x0 + y1)), .second, .val (.long ((x0 + y1) + y2)), .second, .val (.ref b), .val (.long x0), .second, .val (.long x0), .second, .val (.double (FP.l2d x0)), .second, uu, uu]) rfl ?_
    show Steps p.tables e below (Td0.setTop (mkF m 237 #[.val (.int p1), .val (.int p2), .val (.int p3), .val (.int p4), .val (.int p5), .val (.int (1 : Int32)), .val (.ref wMAX), .val (.int (1 : Int32)), .val (.long x0), .second, .val (.long (x0 + y1)), .second, .val (.long ((x0 + y1) + y2)), .second, .val (.ref b), .val (.long x0), .second, .val (.long x0), .second, .val (.double (FP.l2d x0)), .second, uu, uu] [])) _
    refine XS.goto Xd0.here hx rfl (pc0 := 237) (pc' := 263) rfl (hb hby at_237) (by decide) (by decide) ?_
    show Steps p.tables e below (Td0.setTop (mkF m 263 #[.val (.int p1), .val (.int p2), .val (.int p3), .val (.int p4), .val (.int p5), .val (.int (1 : Int32)), .val (.ref wMAX), .val (.int (1 : Int32)), .val (.long x0), .second, .val (.long (x0 + y1)), .second, .val (.long ((x0 + y1) + y2)), .second, .val (.ref b), .val (.long x0), .second, .val (.long x0), .second, .val (.double (FP.l2d x0)), .second, uu, uu] [])) _
    refine XS.aload Xd0.here hx rfl (hb hby at_263) rfl rfl ?_
    show Steps p.tables e below (Td0.setTop (mkF m 265 #[.val (.int p1), .val (.int p2), .val (.int p3), .val (.int p4), .val (.int p5), .val (.int (1 : Int32)), .val (.ref wMAX), .val (.int (1 : Int32)), .val (.long x0), .second, .val (.long (x0 + y1)), .second, .val (.long ((x0 + y1) + y2)), .second, .val (.ref b), .val (.long x0), .second, .val (.long x0), .second, .val (.double (FP.l2d x0)), .second, uu, uu] [(.ref wMAX)])) _
    refine XS.aload Xd0.here hx rfl (hb hby at_265) rfl rfl ?_
    show Steps p.tables e below (Td0.setTop (mkF m 267 #[.val (.int p1), .val (.int p2), .val (.int p3), .val (.int p4), .val (.int p5), .val (.int (1 : Int32)), .val (.ref wMAX), .val (.int (1 : Int32)), .val (.long x0), .second, .val (.long (x0 + y1)), .second, .val (.long ((x0 + y1) + y2)), .second, .val (.ref b), .val (.long x0), .second, .val (.long x0), .second, .val (.double (FP.l2d x0)), .second, uu, uu] [(.ref b), (.ref wMAX)])) _
    refine stc.trans ?_
    show Steps p.tables e below (Tc.setTop (mkF m 270 #[.val (.int p1), .val (.int p2), .val (.int p3), .val (.int p4), .val (.int p5), .val (.int (1 : Int32)), .val (.ref wMAX), .val (.int (1 : Int32)), .val (.long x0), .second, .val (.long (x0 + y1)), .second, .val (.long ((x0 + y1) + y2)), .second, .val (.ref b), .val (.long x0), .second, .val (.long x0), .second, .val (.double (FP.l2d x0)), .second, uu, uu] [(.double (FP.l2d x0))])) _
    refine XS.dstore Xc.here hx rfl (hb hby at_270) rfl (l' := #[.val (.int p1), .val (.int p2), .val (.int p3), .val (.int p4), .val (.int p5), .val (.int (1 : Int32)), .val (.ref wMAX), .val (.int (1 : Int32)), .val (.long x0), .second, .val (.long (x0 + y1)), .second, .val (.long ((x0 + y1) + y2)), .second, .val (.ref b), .val (.long x0), .second, .val (.long x0), .second, .val (.double (FP.l2d x0)), .second, .val (.double (FP.l2d x0)), .second]) rfl ?_
    show Steps p.tables e below (Tc.setTop (mkF m 272 #[.val (.int p1), .val (.int p2), .val (.int p3), .val (.int p4), .val (.int p5), .val (.int (1 : Int32)), .val (.ref wMAX), .val (.int (1 : Int32)), .val (.long x0), .second, .val (.long (x0 + y1)), .second, .val (.long ((x0 + y1) + y2)), .second, .val (.ref b), .val (.long x0), .second, .val (.long x0), .second, .val (.double (FP.l2d x0)), .second, .val (.double (FP.l2d x0)), .second] [])) _
    refine XS.dload Xc.here hx rfl (hb hby at_272) rfl ?_
    show Steps p.tables e below (Tc.setTop (mkF m 274 #[.val (.int p1), .val (.int p2), .val (.int p3), .val (.int p4), .val (.int p5), .val (.int (1 : Int32)), .val (.ref wMAX), .val (.int (1 : Int32)), .val (.long x0), .second, .val (.long (x0 + y1)), .second, .val (.long ((x0 + y1) + y2)), .second, .val (.ref b), .val (.long x0), .second, .val (.long x0), .second, .val (.double (FP.l2d x0)), .second, .val (.double (FP.l2d x0)), .second] [(.double (FP.l2d x0))])) _
    refine XS.dload Xc.here hx rfl (hb hby at_274) rfl ?_
    show Steps p.tables e below (Tc.setTop (mkF m 276 #[.val (.int p1), .val (.int p2), .val (.int p3), .val (.int p4), .val (.int p5), .val (.int (1 : Int32)), .val (.ref wMAX), .val (.int (1 : Int32)), .val (.long x0), .second, .val (.long (x0 + y1)), .second, .val (.long ((x0 + y1) + y2)), .second, .val (.ref b), .val (.long x0), .second, .val (.long x0), .second, .val (.double (FP.l2d x0)), .second, .val (.double (FP.l2d x0)), .second] [(.double (FP.l2d x0)), (.double (FP.l2d x0))])) _
    refine XS.dcmpS Xc.here hx rfl (hb hby at_276) rfl (v := (0 : Int32)) (dcmpV_self (own_l2d _) _) ?_
    show Steps p.tables e below (Tc.setTop (mkF m 277 #[.val (.int p1), .val (.int p2), .val (.int p3), .val (.int p4), .val (.int p5), .val (.int (1 : Int32)), .val (.ref wMAX), .val (.int (1 : Int32)), .val (.long x0), .second, .val (.long (x0 + y1)), .second, .val (.long ((x0 + y1) + y2)), .second, .val (.ref b), .val (.long x0), .second, .val (.long x0), .second, .val (.double (FP.l2d x0)), .second, .val (.double (FP.l2d x0)), .second] [(.int (0 : Int32))])) _
    refine XS.ifNo Xc.here hx rfl (hb hby at_277) rfl ((if0 _ _).trans (teq (by decide : (0 : Int32) = (0 : Int32))).2) ?_
    show Steps p.tables e below (Tc.setTop (mkF m 280 #[.val (.int p1), .val (.int p2), .val (.int p3), .val (.int p4), .val (.int p5), .val (.int (1 : Int32)), .val (.ref wMAX), .val (.int (1 : Int32)), .val (.long x0), .second, .val (.long (x0 + y1)), .second, .val (.long ((x0 + y1) + y2)), .second, .val (.ref b), .val (.long x0), .second, .val (.long x0), .second, .val (.double (FP.l2d x0)), .second, .val (.double (FP.l2d x0)), .second] [])) _
    refine XS.iconst Xc.here hx rfl (hb hby at_280) ?_
    show Steps p.tables e below (Tc.setTop (mkF m 281 #[.val (.int p1), .val (.int p2), .val (.int p3), .val (.int p4), .val (.int p5), .val (.int (1 : Int32)), .val (.ref wMAX), .val (.int (1 : Int32)), .val (.long x0), .second, .val (.long (x0 + y1)), .second, .val (.long ((x0 + y1) + y2)), .second, .val (.ref b), .val (.long x0), .second, .val (.long x0), .second, .val (.double (FP.l2d x0)), .second, .val (.double (FP.l2d x0)), .second] [(.int (1 : Int32))])) _
    refine XS.goto Xc.here hx rfl (pc0 := 281) (pc' := 285) rfl (hb hby at_281) (by decide) (by decide) ?_
    show Steps p.tables e below (Tc.setTop (mkF m 285 #[.val (.int p1), .val (.int p2), .val (.int p3), .val (.int p4), .val (.int p5), .val (.int (1 : Int32)), .val (.ref wMAX), .val (.int (1 : Int32)), .val (.long x0), .second, .val (.long (x0 + y1)), .second, .val (.long ((x0 + y1) + y2)), .second, .val (.ref b), .val (.long x0), .second, .val (.long x0), .second, .val (.double (FP.l2d x0)), .second, .val (.double (FP.l2d x0)), .second] [(.int (1 : Int32))])) _
    exact retN Xc hx (t := .boolean) Bd.returns (by simp) (hb hby at_285) hr
  · show Q0 h0 n0 _ Tc.heap _
    exact ⟨rfl, Nc⟩
set_option maxRecDepth 65536 in
set_option maxHeartbeats 40000000 in
theorem rm0_1_2 (l : Launch) (Z : State) (a0 : Array Value) (hw : ∀ d ∈ tables_1, d.before a0 Z = true) (ws : List Jvm.Cond) (p1 p2 p3 p4 p5 : Int32) (wMIN wMAX wAVG wSUM : Addr) (x0 y1 y2 : Int64) (h0 : Heap) (n0 : Nat) (Z0 : n0 ≤ h0.size) (S_MIN : Sta Z h0 "com/example/tiebreaker/tiebreaker/engine/search/DecayFunction$MultiValueMode" "MIN" "Lcom/example/tiebreaker/tiebreaker/engine/search/DecayFunction$MultiValueMode;" (.ref wMIN)) (S_MAX : Sta Z h0 "com/example/tiebreaker/tiebreaker/engine/search/DecayFunction$MultiValueMode" "MAX" "Lcom/example/tiebreaker/tiebreaker/engine/search/DecayFunction$MultiValueMode;" (.ref wMAX)) (S_AVG : Sta Z h0 "com/example/tiebreaker/tiebreaker/engine/search/DecayFunction$MultiValueMode" "AVG" "Lcom/example/tiebreaker/tiebreaker/engine/search/DecayFunction$MultiValueMode;" (.ref wAVG)) (S_SUM : Sta Z h0 "com/example/tiebreaker/tiebreaker/engine/search/DecayFunction$MultiValueMode" "SUM" "Lcom/example/tiebreaker/tiebreaker/engine/search/DecayFunction$MultiValueMode;" (.ref wSUM)) (nXI : ¬ wMAX = wMIN) (nAI : ¬ wAVG = wMIN) (nAX : ¬ wAVG = wMAX) (nSI : ¬ wSUM = wMIN) (nSX : ¬ wSUM = wMAX) (nAS : ¬ wAVG = wSUM) (E_m : Exa Z h0 wMAX "com/example/tiebreaker/tiebreaker/engine/search/DecayFunction$MultiValueMode") (hx0 : x0 = (p3 &&& (1048575 : Int32)).toInt64) (hy1 : y1 = (p4 &&& (1048575 : Int32)).toInt64) (hy2 : y2 = (p5 &&& (1048575 : Int32)).toInt64) (b0 : 0 ≤ x0.toInt ∧ x0.toInt < 4000000) (b1 : 0 ≤ (x0 + y1).toInt ∧ (x0 + y1).toInt < 4000000) (b2 : 0 ≤ ((x0 + y1) + y2).toInt ∧ ((x0 + y1) + y2).toInt < 4000000) (hm : (p1 &&& (3 : Int32)) = (1 : Int32)) (hn : (((p2 &&& (2147483647 : Int32)) % (3 : Int32)) + (1 : Int32)) = (2 : Int32)) :
    MetFree l x (head1 (Jvm.Cond.code x code maxLocals ret :: ws) room_1) (fun a U => a = #[(.int p1), (.int p2), (.int p3), (.int p4), (.int p5)] ∧ Z.Warmed39 U.vm ∧ U.heap = h0) (fun _ _ _ _ _ => True) (fun _ U o U' => ∃ v L, o = .returned v ∧ Q0 h0 n0 v U'.heap L ∧ FrameEnd U o U' L room_1.cells room_1.slots) := by
  refine MetFree.of_bodySF (plainFor_of_name pn_0) hisR ?_
  intro p e s m args below meth c s₁ Bd hml0 hP hK
  obtain ⟨rfl, hZ, hh⟩ := hP
  have hx := Bd.exec
  have hby := Bd.bytes
  have hml : c.maxLocals = 23 := hml0
  have hown : s.vm.findClass "com/example/tiebreaker/tiebreaker/engine/search/MultiValueModePickPinLaw" = some m.cls := findClass_of_methodNamed Bd.named
  have X0 : Stand p l e room_1 s m #[(.int p1), (.int p2), (.int p3), (.int p4), (.int p5)] below meth c s₁ [] 0 0 := Stand.of_body Bd
  have e0 : s₁.heap = h0 := by rw [← hh, Bd.state]; rfl
  have N0 := Fr.nil n0
  have pre0 : ∀ t, Steps p.tables e below (s₁.setTop (mkF m 0 #[.val (.int p1), .val (.int p2), .val (.int p3), .val (.int p4), .val (.int p5), uu, uu, uu, uu, uu, uu, uu, uu, uu, uu, uu, uu, uu, uu, uu, uu, uu, uu] [])) t → Steps p.tables e below (s₁.setTop (entryFrame m #[(.int p1), (.int p2), (.int p3), (.int p4), (.int p5)] maxLocals)) t := fun t k => castTop (ef_0 m p1 p2 p3 p4 p5) k
  obtain ⟨T50, X50, e50, st50⟩ := getS2 X0 hx hZ hown (host := "") (Or.inl (hw _ (List.mem_of_getElem? (i := 19) rfl))) Via.refl e0 S_MAX (g := (mkF m 22 #[.val (.int p1), .val (.int p2), .val (.int p3), .val (.int p4), .val (.int p5), .val (.int (1 : Int32)), uu, uu, uu, uu, uu, uu, uu, uu, uu, uu, uu, uu, uu, uu, uu, uu, uu] [])) rfl (hb hby at_22)
  obtain ⟨Ta, ha, ka, Xa, ea, Ea, Aa, sta_⟩ := newP X50 hx hZ (hw _ (List.mem_of_getElem? (i := 5) rfl)) e50 (g := (mkF m 110 #[.val (.int p1), .val (.int p2), .val (.int p3), .val (.int p4), .val (.int p5), .val (.int (1 : Int32)), .val (.ref wMAX), .val (.int (2 : Int32)), .val (.long x0), .second, .val (.long (x0 + y1)), .second, .val (.long ((x0 + y1) + y2)), .second, uu, uu, uu, uu, uu, uu, uu, uu, uu] [(.int (2 : Int32))])) rfl (hb hby at_110) rfl (by decide) (cap := 2) (by decide) (by decide) (by decide) (by decide)
  obtain ⟨b, gb⟩ : ∃ z, z = h0.size := ⟨_, rfl⟩
  rw [← gb] at Aa sta_
  have V0 : Arv Z ha b ka .double (2 : Int32) [] (.double (FP.l2d 0)) := Arv.newD Aa (by decide)
  have Vp : Arv Z ha b ka .double (2 : Int32) (List.replicate 2 (.double (FP.l2d 0))) (.double (FP.l2d 0)) := V0.pad (pad_rep [] (.double (FP.l2d 0)) 2)
  have g_b : n0 ≤ b := Nat.le_trans Z0 (Nat.le_of_eq gb.symm)
  have sz_b : h0.size ≤ b := Nat.le_of_eq gb.symm
  have Ka : Keep h0 ha [] := (Keep.refl h0 []).ext Ea
  obtain ⟨cl0, Ar0, q0, Sz0, M0, H0, U0⟩ := Vp
  obtain ⟨Td0, hd0, Xd0, ed0, Wd0, std0⟩ := stD Xa hx hZ ea Ar0 (j := (0 : Int32)) (inb_of Sz0 (by decide)) (g := (mkF m 117 #[.val (.int p1), .val (.int p2), .val (.int p3), .val (.int p4), .val (.int p5), .val (.int (1 : Int32)), .val (.ref wMAX), .val (.int (2 : Int32)), .val (.long x0), .second, .val (.long (x0 + y1)), .second, .val (.long ((x0 + y1) + y2)), .second, uu, uu, uu, uu, uu, uu, uu, uu, uu] [(.double (FP.l2d x0)), (.int (0 : Int32)), (.ref b), (.ref b)])) rfl rfl (hb hby at_117)
  have V1 := Arv.set Ar0 q0 Sz0 M0 H0 U0 (v := (.double (FP.l2d x0))) rfl Wd0 0 rfl (by simp)
  have Nd0 := Fr.snoc Xd0 N0 g_b
  have Kd0 : Keep h0 hd0 [] := Ka.wr Wd0 (Or.inr sz_b)
  obtain ⟨cl1, Ar1, q1, Sz1, M1, H1, U1⟩ := V1
  obtain ⟨Td1, hd1, Xd1, ed1, Wd1, std1⟩ := stD Xd0 hx hZ ed0 Ar1 (j := (1 : Int32)) (inb_of Sz1 (by decide)) (g := (mkF m 123 #[.val (.int p1), .val (.int p2), .val (.int p3), .val (.int p4), .val (.int p5), .val (.int (1 : Int32)), .val (.ref wMAX), .val (.int (2 : Int32)), .val (.long x0), .second, .val (.long (x0 + y1)), .second, .val (.long ((x0 + y1) + y2)), .second, uu, uu, uu, uu, uu, uu, uu, uu, uu] [(.double (FP.l2d (x0 + y1))), (.int (1 : Int32)), (.ref b), (.ref b)])) rfl rfl (hb hby at_123)
  have V2 := Arv.set Ar1 q1 Sz1 M1 H1 U1 (v := (.double (FP.l2d (x0 + y1)))) rfl Wd1 1 rfl (by simp)
  have Nd1 := Fr.snoc Xd1 Nd0 g_b
  have Kd1 : Keep h0 hd1 [] := Kd0.wr Wd1 (Or.inr sz_b)
  have KK : Keep h0 hd1 [] := Kd1
  obtain ⟨cl, Ar, -, Sz, Nn, Hh, -⟩ := V2
  have hat0 : cl.slots[0]? = some (.double (FP.l2d x0)) := Hh 0 (by rw [Sz]; decide)
  have hat1 : cl.slots[1]? = some (.double (FP.l2d (x0 + y1))) := Hh 1 (by rw [Sz]; decide)
  obtain ⟨cq, kq, qa, qb, qc⟩ := isOf hZ ed1 (E_m.keep KK)
  obtain ⟨_, _, ⟨Tc, Lc, kc, nc⟩, -, Xc, ⟨Lcc, hQc, lc, yc, zc⟩, stc⟩ := Xd1.virtualBack hx (y := (⟨"com/example/tiebreaker/tiebreaker/engine/search/DecayFunction$MultiValueMode", "pick", "([D)D"⟩ : MethodName)) (z := (⟨"com/example/tiebreaker/tiebreaker/engine/search/DecayFunction$MultiValueMode", "pick", "([D)D"⟩ : MethodName)) hown (mvT hZ (hw _ (List.mem_of_getElem? (i := 6) rfl))) (mvT hZ (hw _ (List.mem_of_getElem? (i := 7) rfl))) (notFace_of_selects (args := #[]) (mvT hZ (hw _ (List.mem_of_getElem? (i := 9) rfl)))) (mvT hZ (hw _ (List.mem_of_getElem? (i := 9) rfl))) (mvT hZ (hw _ (List.mem_of_getElem? (i := 8) rfl))) (by decide) (backOf (W := 0) (rm1_MAX_2 l Z a0 hw [] b wMIN wMAX wAVG wSUM x0 (x0 + y1) hd1 n0 (Nat.le_trans Z0 KK.1) (own_sta S_MIN KK) (own_sta S_MAX KK) (own_sta S_AVG KK) (own_sta S_SUM KK) nXI nAI nAX nSI nSX nAS cl Ar Sz Nn hat0 hat1 b0 b1) hZ (hw _ (List.mem_of_getElem? (i := 10) rfl)) (hw _ (List.mem_of_getElem? (i := 1) rfl)) (by decide) (by decide)) qa qc (g := (mkF m 267 #[.val (.int p1), .val (.int p2), .val (.int p3), .val (.int p4), .val (.int p5), .val (.int (1 : Int32)), .val (.ref wMAX), .val (.int (2 : Int32)), .val (.long x0), .second, .val (.long (x0 + y1)), .second, .val (.long ((x0 + y1) + y2)), .second, .val (.ref b), .val (.long (x0 + y1)), .second, .val (.long (x0 + (x0 + y1))), .second, .val (.double (FP.l2d (x0 + y1))), .second, uu, uu] [(.ref b), (.ref wMAX)])) rfl (by rw [hml]; rfl) (Steps.refl _) (argsL := [(.ref b)]) (rest := []) (lenOf pd_0 rfl) rfl (by show 2 * 0 + _ ≤ _; exact Nat.le_of_eq rfl) (hb hby at_267) (fun _ _ => ⟨rfl, ed1, (by decide : 0 + 1 + 0 ≤ _), (by decide : 0 + 2 + 0 ≤ _)⟩)
  dsimp only [Pt.U, Pt.locs, Pt.cells, Pt.slots] at Xc lc yc zc stc hQc
  subst lc yc zc
  obtain ⟨rfl, Ncq, ec⟩ := hQc
  have Nc := Fr.app Nd1 Ncq
  obtain ⟨fs, hr, hrun, hended, hW, hsame⟩ := Xc.leave (v := some (.int (1 : Int32))) (fun h => by rw [Bd.returns] at h; cases h)
  refine ⟨_, _, pre0 _ ?_, hrun, hended, _, _, rfl, ?_, ⟨_, rfl⟩, hW, hsame.mono (by decide) (by decide)⟩
  · show Steps p.tables e below (s₁.setTop (mkF m 0 #[.val (.int p1), .val (.int p2), .val (.int p3), .val (.int p4), .val (.int p5), uu, uu, uu, uu, uu, uu, uu, uu, uu, uu, uu, uu, uu, uu, uu, uu, uu, uu] [])) _
    refine XS.iloadN X0.here hx rfl (hb hby at_0) rfl ?_
    show Steps p.tables e below (s₁.setTop (mkF m 1 #[.val (.int p1), .val (.int p2), .val (.int p3), .val (.int p4), .val (.int p5), uu, uu, uu, uu, uu, uu, uu, uu, uu, uu, uu, uu, uu, uu, uu, uu, uu, uu] [(.int p1)])) _
    refine XS.iconst X0.here hx rfl (hb hby at_1) ?_
    show Steps p.tables e below (s₁.setTop (mkF m 2 #[.val (.int p1), .val (.int p2), .val (.int p3), .val (.int p4), .val (.int p5), uu, uu, uu, uu, uu, uu, uu, uu, uu, uu, uu, uu, uu, uu, uu, uu, uu, uu] [(.int (3 : Int32)), (.int p1)])) _
    refine XS.iand X0.here hx rfl (hb hby at_2) rfl ?_
    show Steps p.tables e below (s₁.setTop (mkF m 3 #[.val (.int p1), .val (.int p2), .val (.int p3), .val (.int p4), .val (.int p5), uu, uu, uu, uu, uu, uu, uu, uu, uu, uu, uu, uu, uu, uu, uu, uu, uu, uu] [(.int (p1 &&& (3 : Int32)))])) _
    rw [hm]
    show Steps p.tables e below (s₁.setTop (mkF m 3 #[.val (.int p1), .val (.int p2), .val (.int p3), .val (.int p4), .val (.int p5), uu, uu, uu, uu, uu, uu, uu, uu, uu, uu, uu, uu, uu, uu, uu, uu, uu, uu] [(.int (1 : Int32))])) _
    refine XS.istore X0.here hx rfl (hb hby at_3) rfl (l' := #[.val (.int p1), .val (.int p2), .val (.int p3), .val (.int p4), .val (.int p5), .val (.int (1 : Int32)), uu, uu, uu, uu, uu, uu, uu, uu, uu, uu, uu, uu, uu, uu, uu, uu, uu]) rfl ?_
    show Steps p.tables e below (s₁.setTop (mkF m 5 #[.val (.int p1), .val (.int p2), .val (.int p3), .val (.int p4), .val (.int p5), .val (.int (1 : Int32)), uu, uu, uu, uu, uu, uu, uu, uu, uu, uu, uu, uu, uu, uu, uu, uu, uu] [])) _
    refine XS.iload X0.here hx rfl (hb hby at_5) rfl ?_
    show Steps p.tables e below (s₁.setTop (mkF m 7 #[.val (.int p1), .val (.int p2), .val (.int p3), .val (.int p4), .val (.int p5), .val (.int (1 : Int32)), uu, uu, uu, uu, uu, uu, uu, uu, uu, uu, uu, uu, uu, uu, uu, uu, uu] [(.int (1 : Int32))])) _
    refine XS.ifYes X0.here hx rfl (pc0 := 7) (pc' := 16) rfl (hb hby at_7) rfl ((if0 _ _).trans (feq (by decide : ¬ ((1 : Int32) = (0 : Int32)))).2) (by decide) (by decide) ?_
    show Steps p.tables e below (s₁.setTop (mkF m 16 #[.val (.int p1), .val (.int p2), .val (.int p3), .val (.int p4), .val (.int p5), .val (.int (1 : Int32)), uu, uu, uu, uu, uu, uu, uu, uu, uu, uu, uu, uu, uu, uu, uu, uu, uu] [])) _
    refine XS.iload X0.here hx rfl (hb hby at_16) rfl ?_
    show Steps p.tables e below (s₁.setTop (mkF m 18 #[.val (.int p1), .val (.int p2), .val (.int p3), .val (.int p4), .val (.int p5), .val (.int (1 : Int32)), uu, uu, uu, uu, uu, uu, uu, uu, uu, uu, uu, uu, uu, uu, uu, uu, uu] [(.int (1 : Int32))])) _
    refine XS.iconst X0.here hx rfl (hb hby at_18) ?_
    show Steps p.tables e below (s₁.setTop (mkF m 19 #[.val (.int p1), .val (.int p2), .val (.int p3), .val (.int p4), .val (.int p5), .val (.int (1 : Int32)), uu, uu, uu, uu, uu, uu, uu, uu, uu, uu, uu, uu, uu, uu, uu, uu, uu] [(.int (1 : Int32)), (.int (1 : Int32))])) _
    refine XS.icmpNo X0.here hx rfl (hb hby at_19) rfl (teq (by decide : (1 : Int32) = (1 : Int32))).2 ?_
    show Steps p.tables e below (s₁.setTop (mkF m 22 #[.val (.int p1), .val (.int p2), .val (.int p3), .val (.int p4), .val (.int p5), .val (.int (1 : Int32)), uu, uu, uu, uu, uu, uu, uu, uu, uu, uu, uu, uu, uu, uu, uu, uu, uu] [])) _
    refine st50 _ ?_
    show Steps p.tables e below (T50.setTop (mkF m 25 #[.val (.int p1), .val (.int p2), .val (.int p3), .val (.int p4), .val (.int p5), .val (.int (1 : Int32)), uu, uu, uu, uu, uu, uu, uu, uu, uu, uu, uu, uu, uu, uu, uu, uu, uu] [(.ref wMAX)])) _
    refine XS.goto X50.here hx rfl (pc0 := 25) (pc' := 43) rfl (hb hby at_25) (by decide) (by decide) ?_
    show Steps p.tables e below (T50.setTop (mkF m 43 #[.val (.int p1), .val (.int p2), .val (.int p3), .val (.int p4), .val (.int p5), .val (.int (1 : Int32)), uu, uu, uu, uu, uu, uu, uu, uu, uu, uu, uu, uu, uu, uu, uu, uu, uu] [(.ref wMAX)])) _
    refine XS.astore X50.here hx rfl (hb hby at_43) rfl rfl (l' := #[.val (.int p1), .val (.int p2), .val (.int p3), .val (.int p4), .val (.int p5), .val (.int (1 : Int32)), .val (.ref wMAX), uu, uu, uu, uu, uu, uu, uu, uu, uu, uu, uu, uu, uu, uu, uu, uu]) rfl ?_
    show Steps p.tables e below (T50.setTop (mkF m 45 #[.val (.int p1), .val (.int p2), .val (.int p3), .val (.int p4), .val (.int p5), .val (.int (1 : Int32)), .val (.ref wMAX), uu, uu, uu, uu, uu, uu, uu, uu, uu, uu, uu, uu, uu, uu, uu, uu] [])) _
    refine XS.iloadN X50.here hx rfl (hb hby at_45) rfl ?_
    show Steps p.tables e below (T50.setTop (mkF m 46 #[.val (.int p1), .val (.int p2), .val (.int p3), .val (.int p4), .val (.int p5), .val (.int (1 : Int32)), .val (.ref wMAX), uu, uu, uu, uu, uu, uu, uu, uu, uu, uu, uu, uu, uu, uu, uu, uu] [(.int p2)])) _
    refine X50.ldcInt hx hown (mvT hZ (hw _ (List.mem_of_getElem? (i := 3) rfl))) (g := (mkF m 46 #[.val (.int p1), .val (.int p2), .val (.int p3), .val (.int p4), .val (.int p5), .val (.int (1 : Int32)), .val (.ref wMAX), uu, uu, uu, uu, uu, uu, uu, uu, uu, uu, uu, uu, uu, uu, uu, uu] [(.int p2)])) rfl (hb hby at_46) _ ?_
    show Steps p.tables e below (T50.setTop (mkF m 48 #[.val (.int p1), .val (.int p2), .val (.int p3), .val (.int p4), .val (.int p5), .val (.int (1 : Int32)), .val (.ref wMAX), uu, uu, uu, uu, uu, uu, uu, uu, uu, uu, uu, uu, uu, uu, uu, uu] [(.int (2147483647 : Int32)), (.int p2)])) _
    refine XS.iand X50.here hx rfl (hb hby at_48) rfl ?_
    show Steps p.tables e below (T50.setTop (mkF m 49 #[.val (.int p1), .val (.int p2), .val (.int p3), .val (.int p4), .val (.int p5), .val (.int (1 : Int32)), .val (.ref wMAX), uu, uu, uu, uu, uu, uu, uu, uu, uu, uu, uu, uu, uu, uu, uu, uu] [(.int (p2 &&& (2147483647 : Int32)))])) _
    refine XS.iconst X50.here hx rfl (hb hby at_49) ?_
    show Steps p.tables e below (T50.setTop (mkF m 50 #[.val (.int p1), .val (.int p2), .val (.int p3), .val (.int p4), .val (.int p5), .val (.int (1 : Int32)), .val (.ref wMAX), uu, uu, uu, uu, uu, uu, uu, uu, uu, uu, uu, uu, uu, uu, uu, uu] [(.int (3 : Int32)), (.int (p2 &&& (2147483647 : Int32)))])) _
    refine iremM X50 hx rfl (hb hby at_50) rfl (by decide) ?_
    show Steps p.tables e below (T50.setTop (mkF m 51 #[.val (.int p1), .val (.int p2), .val (.int p3), .val (.int p4), .val (.int p5), .val (.int (1 : Int32)), .val (.ref wMAX), uu, uu, uu, uu, uu, uu, uu, uu, uu, uu, uu, uu, uu, uu, uu, uu] [(.int ((p2 &&& (2147483647 : Int32)) % (3 : Int32)))])) _
    refine XS.iconst X50.here hx rfl (hb hby at_51) ?_
    show Steps p.tables e below (T50.setTop (mkF m 52 #[.val (.int p1), .val (.int p2), .val (.int p3), .val (.int p4), .val (.int p5), .val (.int (1 : Int32)), .val (.ref wMAX), uu, uu, uu, uu, uu, uu, uu, uu, uu, uu, uu, uu, uu, uu, uu, uu] [(.int (1 : Int32)), (.int ((p2 &&& (2147483647 : Int32)) % (3 : Int32)))])) _
    refine XS.iadd X50.here hx rfl (hb hby at_52) rfl ?_
    show Steps p.tables e below (T50.setTop (mkF m 53 #[.val (.int p1), .val (.int p2), .val (.int p3), .val (.int p4), .val (.int p5), .val (.int (1 : Int32)), .val (.ref wMAX), uu, uu, uu, uu, uu, uu, uu, uu, uu, uu, uu, uu, uu, uu, uu, uu] [(.int (((p2 &&& (2147483647 : Int32)) % (3 : Int32)) + (1 : Int32)))])) _
    rw [hn]
    show Steps p.tables e below (T50.setTop (mkF m 53 #[.val (.int p1), .val (.int p2), .val (.int p3), .val (.int p4), .val (.int p5), .val (.int (1 : Int32)), .val (.ref wMAX), uu, uu, uu, uu, uu, uu, uu, uu, uu, uu, uu, uu, uu, uu, uu, uu] [(.int (2 : Int32))])) _
    refine XS.istore X50.here hx rfl (hb hby at_53) rfl (l' := #[.val (.int p1), .val (.int p2), .val (.int p3), .val (.int p4), .val (.int p5), .val (.int (1 : Int32)), .val (.ref wMAX), .val (.int (2 : Int32)), uu, uu, uu, uu, uu, uu, uu, uu, uu, uu, uu, uu, uu, uu, uu]) rfl ?_
    show Steps p.tables e below (T50.setTop (mkF m 55 #[.val (.int p1), .val (.int p2), .val (.int p3), .val (.int p4), .val (.int p5), .val (.int (1 : Int32)), .val (.ref wMAX), .val (.int (2 : Int32)), uu, uu, uu, uu, uu, uu, uu, uu, uu, uu, uu, uu, uu, uu, uu] [])) _
    refine XS.iloadN X50.here hx rfl (hb hby at_55) rfl ?_
    show Steps p.tables e below (T50.setTop (mkF m 56 #[.val (.int p1), .val (.int p2), .val (.int p3), .val (.int p4), .val (.int p5), .val (.int (1 : Int32)), .val (.ref wMAX), .val (.int (2 : Int32)), uu, uu, uu, uu, uu, uu, uu, uu, uu, uu, uu, uu, uu, uu, uu] [(.int p3)])) _
    refine X50.ldcInt hx hown (mvT hZ (hw _ (List.mem_of_getElem? (i := 4) rfl))) (g := (mkF m 56 #[.val (.int p1), .val (.int p2), .val (.int p3), .val (.int p4), .val (.int p5), .val (.int (1 : Int32)), .val (.ref wMAX), .val (.int (2 : Int32)), uu, uu, uu, uu, uu, uu, uu, uu, uu, uu, uu, uu, uu, uu, uu] [(.int p3)])) rfl (hb hby at_56) _ ?_
    show Steps p.tables e below (T50.setTop (mkF m 58 #[.val (.int p1), .val (.int p2), .val (.int p3), .val (.int p4), .val (.int p5), .val (.int (1 : Int32)), .val (.ref wMAX), .val (.int (2 : Int32)), uu, uu, uu, uu, uu, uu, uu, uu, uu, uu, uu, uu, uu, uu, uu] [(.int (1048575 : Int32)), (.int p3)])) _
    refine XS.iand X50.here hx rfl (hb hby at_58) rfl ?_
    show Steps p.tables e below (T50.setTop (mkF m 59 #[.val (.int p1), .val (.int p2), .val (.int p3), .val (.int p4), .val (.int p5), .val (.int (1 : Int32)), .val (.ref wMAX), .val (.int (2 : Int32)), uu, uu, uu, uu, uu, uu, uu, uu, uu, uu, uu, uu, uu, uu, uu] [(.int (p3 &&& (1048575 : Int32)))])) _
    refine XS.i2l X50.here hx rfl (hb hby at_59) rfl ?_
    show Steps p.tables e below (T50.setTop (mkF m 60 #[.val (.int p1), .val (.int p2), .val (.int p3), .val (.int p4), .val (.int p5), .val (.int (1 : Int32)), .val (.ref wMAX), .val (.int (2 : Int32)), uu, uu, uu, uu, uu, uu, uu, uu, uu, uu, uu, uu, uu, uu, uu] [(.long ((p3 &&& (1048575 : Int32)).toInt64))])) _
    rw [← hx0]
    show Steps p.tables e below (T50.setTop (mkF m 60 #[.val (.int p1), .val (.int p2), .val (.int p3), .val (.int p4), .val (.int p5), .val (.int (1 : Int32)), .val (.ref wMAX), .val (.int (2 : Int32)), uu, uu, uu, uu, uu, uu, uu, uu, uu, uu, uu, uu, uu, uu, uu] [(.long x0)])) _
    refine XS.lstore X50.here hx rfl (hb hby at_60) rfl (l' := #[.val (.int p1), .val (.int p2), .val (.int p3), .val (.int p4), .val (.int p5), .val (.int (1 : Int32)), .val (.ref wMAX), .val (.int (2 : Int32)), .val (.long x0), .second, uu, uu, uu, uu, uu, uu, uu, uu, uu, uu, uu, uu, uu]) rfl ?_
    show Steps p.tables e below (T50.setTop (mkF m 62 #[.val (.int p1), .val (.int p2), .val (.int p3), .val (.int p4), .val (.int p5), .val (.int (1 : Int32)), .val (.ref wMAX), .val (.int (2 : Int32)), .val (.long x0), .second, uu, uu, uu, uu, uu, uu, uu, uu, uu, uu, uu, uu, uu] [])) _
    refine XS.lload X50.here hx rfl (hb hby at_62) rfl ?_
    show Steps p.tables e below (T50.setTop (mkF m 64 #[.val (.int p1), .val (.int p2), .val (.int p3), .val (.int p4), .val (.int p5), .val (.int (1 : Int32)), .val (.ref wMAX), .val (.int (2 : Int32)), .val (.long x0), .second, uu, uu, uu, uu, uu, uu, uu, uu, uu, uu, uu, uu, uu] [(.long x0)])) _
    refine XS.iloadN X50.here hx rfl (hb hby at_64) rfl ?_
    show Steps p.tables e below (T50.setTop (mkF m 65 #[.val (.int p1), .val (.int p2), .val (.int p3), .val (.int p4), .val (.int p5), .val (.int (1 : Int32)), .val (.ref wMAX), .val (.int (2 : Int32)), .val (.long x0), .second, uu, uu, uu, uu, uu, uu, uu, uu, uu, uu, uu, uu, uu] [(.int p4), (.long x0)])) _
    refine X50.ldcInt hx hown (mvT hZ (hw _ (List.mem_of_getElem? (i := 4) rfl))) (g := (mkF m 65 #[.val (.int p1), .val (.int p2), .val (.int p3), .val (.int p4), .val (.int p5), .val (.int (1 : Int32)), .val (.ref wMAX), .val (.int (2 : Int32)), .val (.long x0), .second, uu, uu, uu, uu, uu, uu, uu, uu, uu, uu, uu, uu, uu] [(.int p4), (.long x0)])) rfl (hb hby at_65) _ ?_
    show Steps p.tables e below (T50.setTop (mkF m 67 #[.val (.int p1), .val (.int p2), .val (.int p3), .val (.int p4), .val (.int p5), .val (.int (1 : Int32)), .val (.ref wMAX), .val (.int (2 : Int32)), .val (.long x0), .second, uu, uu, uu, uu, uu, uu, uu, uu, uu, uu, uu, uu, uu] [(.int (1048575 : Int32)), (.int p4), (.long x0)])) _
    refine XS.iand X50.here hx rfl (hb hby at_67) rfl ?_
    show Steps p.tables e below (T50.setTop (mkF m 68 #[.val (.int p1), .val (.int p2), .val (.int p3), .val (.int p4), .val (.int p5), .val (.int (1 : Int32)), .val (.ref wMAX), .val (.int (2 : Int32)), .val (.long x0), .second, uu, uu, uu, uu, uu, uu, uu, uu, uu, uu, uu, uu, uu] [(.int (p4 &&& (1048575 : Int32))), (.long x0)])) _
    refine XS.i2l X50.here hx rfl (hb hby at_68) rfl ?_
    show Steps p.tables e below (T50.setTop (mkF m 69 #[.val (.int p1), .val (.int p2), .val (.int p3), .val (.int p4), .val (.int p5), .val (.int (1 : Int32)), .val (.ref wMAX), .val (.int (2 : Int32)), .val (.long x0), .second, uu, uu, uu, uu, uu, uu, uu, uu, uu, uu, uu, uu, uu] [(.long ((p4 &&& (1048575 : Int32)).toInt64)), (.long x0)])) _
    rw [← hy1]
    show Steps p.tables e below (T50.setTop (mkF m 69 #[.val (.int p1), .val (.int p2), .val (.int p3), .val (.int p4), .val (.int p5), .val (.int (1 : Int32)), .val (.ref wMAX), .val (.int (2 : Int32)), .val (.long x0), .second, uu, uu, uu, uu, uu, uu, uu, uu, uu, uu, uu, uu, uu] [(.long y1), (.long x0)])) _
    refine XS.ladd X50.here hx rfl (hb hby at_69) rfl ?_
    show Steps p.tables e below (T50.setTop (mkF m 70 #[.val (.int p1), .val (.int p2), .val (.int p3), .val (.int p4), .val (.int p5), .val (.int (1 : Int32)), .val (.ref wMAX), .val (.int (2 : Int32)), .val (.long x0), .second, uu, uu, uu, uu, uu, uu, uu, uu, uu, uu, uu, uu, uu] [(.long (x0 + y1))])) _
    refine XS.lstore X50.here hx rfl (hb hby at_70) rfl (l' := #[.val (.int p1), .val (.int p2), .val (.int p3), .val (.int p4), .val (.int p5), .val (.int (1 : Int32)), .val (.ref wMAX), .val (.int (2 : Int32)), .val (.long x0), .second, .val (.long (x0 + y1)), .second, uu, uu, uu, uu, uu, uu, uu, uu, uu, uu, uu]) rfl ?_
    show Steps p.tables e below (T50.setTop (mkF m 72 #[.val (.int p1), .val (.int p2), .val (.int p3), .val (.int p4), .val (.int p5), .val (.int (1 : Int32)), .val (.ref wMAX), .val (.int (2 : Int32)), .val (.long x0), .second, .val (.long (x0 + y1)), .second, uu, uu, uu, uu, uu, uu, uu, uu, uu, uu, uu] [])) _
    refine XS.lload X50.here hx rfl (hb hby at_72) rfl ?_
    show Steps p.tables e below (T50.setTop (mkF m 74 #[.val (.int p1), .val (.int p2), .val (.int p3), .val (.int p4), .val (.int p5), .val (.int (1 : Int32)), .val (.ref wMAX), .val (.int (2 : Int32)), .val (.long x0), .second, .val (.long (x0 + y1)), .second, uu, uu, uu, uu, uu, uu, uu, uu, uu, uu, uu] [(.long (x0 + y1))])) _
    refine XS.iload X50.here hx rfl (hb hby at_74) rfl ?_
    show Steps p.tables e below (T50.setTop (mkF m 76 #[.val (.int p1), .val (.int p2), .val (.int p3), .val (.int p4), .val (.int p5), .val (.int (1 : Int32)), .val (.ref wMAX), .val (.int (2 : Int32)), .val (.long x0), .second, .val (.long (x0 + y1)), .second, uu, uu, uu, uu, uu, uu, uu, uu, uu, uu, uu] [(.int p5), (.long (x0 + y1))])) _
    refine X50.ldcInt hx hown (mvT hZ (hw _ (List.mem_of_getElem? (i := 4) rfl))) (g := (mkF m 76 #[.val (.int p1), .val (.int p2), .val (.int p3), .val (.int p4), .val (.int p5), .val (.int (1 : Int32)), .val (.ref wMAX), .val (.int (2 : Int32)), .val (.long x0), .second, .val (.long (x0 + y1)), .second, uu, uu, uu, uu, uu, uu, uu, uu, uu, uu, uu] [(.int p5), (.long (x0 + y1))])) rfl (hb hby at_76) _ ?_
    show Steps p.tables e below (T50.setTop (mkF m 78 #[.val (.int p1), .val (.int p2), .val (.int p3), .val (.int p4), .val (.int p5), .val (.int (1 : Int32)), .val (.ref wMAX), .val (.int (2 : Int32)), .val (.long x0), .second, .val (.long (x0 + y1)), .second, uu, uu, uu, uu, uu, uu, uu, uu, uu, uu, uu] [(.int (1048575 : Int32)), (.int p5), (.long (x0 + y1))])) _
    refine XS.iand X50.here hx rfl (hb hby at_78) rfl ?_
    show Steps p.tables e below (T50.setTop (mkF m 79 #[.val (.int p1), .val (.int p2), .val (.int p3), .val (.int p4), .val (.int p5), .val (.int (1 : Int32)), .val (.ref wMAX), .val (.int (2 : Int32)), .val (.long x0), .second, .val (.long (x0 + y1)), .second, uu, uu, uu, uu, uu, uu, uu, uu, uu, uu, uu] [(.int (p5 &&& (1048575 : Int32))), (.long (x0 + y1))])) _
    refine XS.i2l X50.here hx rfl (hb hby at_79) rfl ?_
    show Steps p.tables e below (T50.setTop (mkF m 80 #[.val (.int p1), .val (.int p2), .val (.int p3), .val (.int p4), .val (.int p5), .val (.int (1 : Int32)), .val (.ref wMAX), .val (.int (2 : Int32)), .val (.long x0), .second, .val (.long (x0 + y1)), .second, uu, uu, uu, uu, uu, uu, uu, uu, uu, uu, uu] [(.long ((p5 &&& (1048575 : Int32)).toInt64)), (.long (x0 + y1))])) _
    rw [← hy2]
    show Steps p.tables e below (T50.setTop (mkF m 80 #[.val (.int p1), .val (.int p2), .val (.int p3), .val (.int p4), .val (.int p5), .val (.int (1 : Int32)), .val (.ref wMAX), .val (.int (2 : Int32)), .val (.long x0), .second, .val (.long (x0 + y1)), .second, uu, uu, uu, uu, uu, uu, uu, uu, uu, uu, uu] [(.long y2), (.long (x0 + y1))])) _
    refine XS.ladd X50.here hx rfl (hb hby at_80) rfl ?_
    show Steps p.tables e below (T50.setTop (mkF m 81 #[.val (.int p1), .val (.int p2), .val (.int p3), .val (.int p4), .val (.int p5), .val (.int (1 : Int32)), .val (.ref wMAX), .val (.int (2 : Int32)), .val (.long x0), .second, .val (.long (x0 + y1)), .second, uu, uu, uu, uu, uu, uu, uu, uu, uu, uu, uu] [(.long ((x0 + y1) + y2))])) _
    refine XS.lstore X50.here hx rfl (hb hby at_81) rfl (l' := #[.val (.int p1), .val (.int p2), .val (.int p3), .val (.int p4), .val (.int p5), .val (.int (1 : Int32)), .val (.ref wMAX), .val (.int (2 : Int32)), .val (.long x0), .second, .val (.long (x0 + y1)), .second, .val (.long ((x0 + y1) + y2)), .second, uu, uu, uu, uu, uu, uu, uu, uu, uu]) rfl ?_
    show Steps p.tables e below (T50.setTop (mkF m 83 #[.val (.int p1), .val (.int p2), .val (.int p3), .val (.int p4), .val (.int p5), .val (.int (1 : Int32)), .val (.ref wMAX), .val (.int (2 : Int32)), .val (.long x0), .second, .val (.long (x0 + y1)), .second, .val (.long ((x0 + y1) + y2)), .second, uu, uu, uu, uu, uu, uu, uu, uu, uu] [])) _
    refine XS.iload X50.here hx rfl (hb hby at_83) rfl ?_
    show Steps p.tables e below (T50.setTop (mkF m 85 #[.val (.int p1), .val (.int p2), .val (.int p3), .val (.int p4), .val (.int p5), .val (.int (1 : Int32)), .val (.ref wMAX), .val (.int (2 : Int32)), .val (.long x0), .second, .val (.long (x0 + y1)), .second, .val (.long ((x0 + y1) + y2)), .second, uu, uu, uu, uu, uu, uu, uu, uu, uu] [(.int (2 : Int32))])) _
    refine XS.iconst X50.here hx rfl (hb hby at_85) ?_
    show Steps p.tables e below (T50.setTop (mkF m 86 #[.val (.int p1), .val (.int p2), .val (.int p3), .val (.int p4), .val (.int p5), .val (.int (1 : Int32)), .val (.ref wMAX), .val (.int (2 : Int32)), .val (.long x0), .second, .val (.long (x0 + y1)), .second, .val (.long ((x0 + y1) + y2)), .second, uu, uu, uu, uu, uu, uu, uu, uu, uu] [(.int (1 : Int32)), (.int (2 : Int32))])) _
    refine XS.icmpYes X50.here hx rfl (pc0 := 86) (pc' := 103) rfl (hb hby at_86) rfl (feq (by decide : ¬ ((2 : Int32) = (1 : Int32)))).2 (by decide) (by decide) ?_
    show Steps p.tables e below (T50.setTop (mkF m 103 #[.val (.int p1), .val (.int p2), .val (.int p3), .val (.int p4), .val (.int p5), .val (.int (1 : Int32)), .val (.ref wMAX), .val (.int (2 : Int32)), .val (.long x0), .second, .val (.long (x0 + y1)), .second, .val (.long ((x0 + y1) + y2)), .second, uu, uu, uu, uu, uu, uu, uu, uu, uu] [])) _
    refine XS.iload X50.here hx rfl (hb hby at_103) rfl ?_
    show Steps p.tables e below (T50.setTop (mkF m 105 #[.val (.int p1), .val (.int p2), .val (.int p3), .val (.int p4), .val (.int p5), .val (.int (1 : Int32)), .val (.ref wMAX), .val (.int (2 : Int32)), .val (.long x0), .second, .val (.long (x0 + y1)), .second, .val (.long ((x0 + y1) + y2)), .second, uu, uu, uu, uu, uu, uu, uu, uu, uu] [(.int (2 : Int32))])) _
    refine XS.iconst X50.here hx rfl (hb hby at_105) ?_
    show Steps p.tables e below (T50.setTop (mkF m 106 #[.val (.int p1), .val (.int p2), .val (.int p3), .val (.int p4), .val (.int p5), .val (.int (1 : Int32)), .val (.ref wMAX), .val (.int (2 : Int32)), .val (.long x0), .second, .val (.long (x0 + y1)), .second, .val (.long ((x0 + y1) + y2)), .second, uu, uu, uu, uu, uu, uu, uu, uu, uu] [(.int (2 : Int32)), (.int (2 : Int32))])) _
    refine XS.icmpNo X50.here hx rfl (hb hby at_106) rfl (teq (by decide : (2 : Int32) = (2 : Int32))).2 ?_
    show Steps p.tables e below (T50.setTop (mkF m 109 #[.val (.int p1), .val (.int p2), .val (.int p3), .val (.int p4), .val (.int p5), .val (.int (1 : Int32)), .val (.ref wMAX), .val (.int (2 : Int32)), .val (.long x0), .second, .val (.long (x0 + y1)), .second, .val (.long ((x0 + y1) + y2)), .second, uu, uu, uu, uu, uu, uu, uu, uu, uu] [])) _
    refine XS.iconst X50.here hx rfl (hb hby at_109) ?_
    show Steps p.tables e below (T50.setTop (mkF m 110 #[.val (.int p1), .val (.int p2), .val (.int p3), .val (.int p4), .val (.int p5), .val (.int (1 : Int32)), .val (.ref wMAX), .val (.int (2 : Int32)), .val (.long x0), .second, .val (.long (x0 + y1)), .second, .val (.long ((x0 + y1) + y2)), .second, uu, uu, uu, uu, uu, uu, uu, uu, uu] [(.int (2 : Int32))])) _
    refine sta_ _ ?_
    show Steps p.tables e below (Ta.setTop (mkF m 112 #[.val (.int p1), .val (.int p2), .val (.int p3), .val (.int p4), .val (.int p5), .val (.int (1 : Int32)), .val (.ref wMAX), .val (.int (2 : Int32)), .val (.long x0), .second, .val (.long (x0 + y1)), .second, .val (.long ((x0 + y1) + y2)), .second, uu, uu, uu, uu, uu, uu, uu, uu, uu] [(.ref b)])) _
    refine XS.dup Xa.here hx rfl (hb hby at_112) rfl rfl ?_
    show Steps p.tables e below (Ta.setTop (mkF m 113 #[.val (.int p1), .val (.int p2), .val (.int p3), .val (.int p4), .val (.int p5), .val (.int (1 : Int32)), .val (.ref wMAX), .val (.int (2 : Int32)), .val (.long x0), .second, .val (.long (x0 + y1)), .second, .val (.long ((x0 + y1) + y2)), .second, uu, uu, uu, uu, uu, uu, uu, uu, uu] [(.ref b), (.ref b)])) _
    refine XS.iconst Xa.here hx rfl (hb hby at_113) ?_
    show Steps p.tables e below (Ta.setTop (mkF m 114 #[.val (.int p1), .val (.int p2), .val (.int p3), .val (.int p4), .val (.int p5), .val (.int (1 : Int32)), .val (.ref wMAX), .val (.int (2 : Int32)), .val (.long x0), .second, .val (.long (x0 + y1)), .second, .val (.long ((x0 + y1) + y2)), .second, uu, uu, uu, uu, uu, uu, uu, uu, uu] [(.int (0 : Int32)), (.ref b), (.ref b)])) _
    refine XS.lload Xa.here hx rfl (hb hby at_114) rfl ?_
    show Steps p.tables e below (Ta.setTop (mkF m 116 #[.val (.int p1), .val (.int p2), .val (.int p3), .val (.int p4), .val (.int p5), .val (.int (1 : Int32)), .val (.ref wMAX), .val (.int (2 : Int32)), .val (.long x0), .second, .val (.long (x0 + y1)), .second, .val (.long ((x0 + y1) + y2)), .second, uu, uu, uu, uu, uu, uu, uu, uu, uu] [(.long x0), (.int (0 : Int32)), (.ref b), (.ref b)])) _
    refine XS.l2dS Xa.here hx rfl (hb hby at_116) rfl (v := FP.l2d x0) rfl ?_
    show Steps p.tables e below (Ta.setTop (mkF m 117 #[.val (.int p1), .val (.int p2), .val (.int p3), .val (.int p4), .val (.int p5), .val (.int (1 : Int32)), .val (.ref wMAX), .val (.int (2 : Int32)), .val (.long x0), .second, .val (.long (x0 + y1)), .second, .val (.long ((x0 + y1) + y2)), .second, uu, uu, uu, uu, uu, uu, uu, uu, uu] [(.double (FP.l2d x0)), (.int (0 : Int32)), (.ref b), (.ref b)])) _
    refine std0 _ ?_
    show Steps p.tables e below (Td0.setTop (mkF m 118 #[.val (.int p1), .val (.int p2), .val (.int p3), .val (.int p4), .val (.int p5), .val (.int (1 : Int32)), .val (.ref wMAX), .val (.int (2 : Int32)), .val (.long x0), .second, .val (.long (x0 + y1)), .second, .val (.long ((x0 + y1) + y2)), .second, uu, uu, uu, uu, uu, uu, uu, uu, uu] [(.ref b)])) _
    refine XS.dup Xd0.here hx rfl (hb hby at_118) rfl rfl ?_
    show Steps p.tables e below (Td0.setTop (mkF m 119 #[.val (.int p1), .val (.int p2), .val (.int p3), .val (.int p4), .val (.int p5), .val (.int (1 : Int32)), .val (.ref wMAX), .val (.int (2 : Int32)), .val (.long x0), .second, .val (.long (x0 + y1)), .second, .val (.long ((x0 + y1) + y2)), .second, uu, uu, uu, uu, uu, uu, uu, uu, uu] [(.ref b), (.ref b)])) _
    refine XS.iconst Xd0.here hx rfl (hb hby at_119) ?_
    show Steps p.tables e below (Td0.setTop (mkF m 120 #[.val (.int p1), .val (.int p2), .val (.int p3), .val (.int p4), .val (.int p5), .val (.int (1 : Int32)), .val (.ref wMAX), .val (.int (2 : Int32)), .val (.long x0), .second, .val (.long (x0 + y1)), .second, .val (.long ((x0 + y1) + y2)), .second, uu, uu, uu, uu, uu, uu, uu, uu, uu] [(.int (1 : Int32)), (.ref b), (.ref b)])) _
    refine XS.lload Xd0.here hx rfl (hb hby at_120) rfl ?_
    show Steps p.tables e below (Td0.setTop (mkF m 122 #[.val (.int p1), .val (.int p2), .val (.int p3), .val (.int p4), .val (.int p5), .val (.int (1 : Int32)), .val (.ref wMAX), .val (.int (2 : Int32)), .val (.long x0), .second, .val (.long (x0 + y1)), .second, .val (.long ((x0 + y1) + y2)), .second, uu, uu, uu, uu, uu, uu, uu, uu, uu] [(.long (x0 + y1)), (.int (1 : Int32)), (.ref b), (.ref b)])) _
    refine XS.l2dS Xd0.here hx rfl (hb hby at_122) rfl (v := FP.l2d (x0 + y1)) rfl ?_
    show Steps p.tables e below (Td0.setTop (mkF m 123 #[.val (.int p1), .val (.int p2), .val (.int p3), .val (.int p4), .val (.int p5), .val (.int (1 : Int32)), .val (.ref wMAX), .val (.int (2 : Int32)), .val (.long x0), .second, .val (.long (x0 + y1)), .second, .val (.long ((x0 + y1) + y2)), .second, uu, uu, uu, uu, uu, uu, uu, uu, uu] [(.double (FP.l2d (x0 + y1))), (.int (1 : Int32)), (.ref b), (.ref b)])) _
    refine std1 _ ?_
    show Steps p.tables e below (Td1.setTop (mkF m 124 #[.val (.int p1), .val (.int p2), .val (.int p3), .val (.int p4), .val (.int p5), .val (.int (1 : Int32)), .val (.ref wMAX), .val (.int (2 : Int32)), .val (.long x0), .second, .val (.long (x0 + y1)), .second, .val (.long ((x0 + y1) + y2)), .second, uu, uu, uu, uu, uu, uu, uu, uu, uu] [(.ref b)])) _
    refine XS.astore Xd1.here hx rfl (hb hby at_124) rfl rfl (l' := #[.val (.int p1), .val (.int p2), .val (.int p3), .val (.int p4), .val (.int p5), .val (.int (1 : Int32)), .val (.ref wMAX), .val (.int (2 : Int32)), .val (.long x0), .second, .val (.long (x0 + y1)), .second, .val (.long ((x0 + y1) + y2)), .second, .val (.ref b), uu, uu, uu, uu, uu, uu, uu, uu]) rfl ?_
    show Steps p.tables e below (Td1.setTop (mkF m 126 #[.val (.int p1), .val (.int p2), .val (.int p3), .val (.int p4), .val (.int p5), .val (.int (1 : Int32)), .val (.ref wMAX), .val (.int (2 : Int32)), .val (.long x0), .second, .val (.long (x0 + y1)), .second, .val (.long ((x0 + y1) + y2)), .second, .val (.ref b), uu, uu, uu, uu, uu, uu, uu, uu] [])) _
    refine XS.goto Xd1.here hx rfl (pc0 := 126) (pc' := 152) rfl (hb hby at_126) (by decide) (by decide) ?_
    show Steps p.tables e below (Td1.setTop (mkF m 152 #[.val (.int p1), .val (.int p2), .val (.int p3), .val (.int p4), .val (.int p5), .val (.int (1 : Int32)), .val (.ref wMAX), .val (.int (2 : Int32)), .val (.long x0), .second, .val (.long (x0 + y1)), .second, .val (.long ((x0 + y1) + y2)), .second, .val (.ref b), uu, uu, uu, uu, uu, uu, uu, uu] [])) _
    refine XS.iload Xd1.here hx rfl (hb hby at_152) rfl ?_
    show Steps p.tables e below (Td1.setTop (mkF m 154 #[.val (.int p1), .val (.int p2), .val (.int p3), .val (.int p4), .val (.int p5), .val (.int (1 : Int32)), .val (.ref wMAX), .val (.int (2 : Int32)), .val (.long x0), .second, .val (.long (x0 + y1)), .second, .val (.long ((x0 + y1) + y2)), .second, .val (.ref b), uu, uu, uu, uu, uu, uu, uu, uu] [(.int (2 : Int32))])) _
    refine XS.iconst Xd1.here hx rfl (hb hby at_154) ?_
    show Steps p.tables e below (Td1.setTop (mkF m 155 #[.val (.int p1), .val (.int p2), .val (.int p3), .val (.int p4), .val (.int p5), .val (.int (1 : Int32)), .val (.ref wMAX), .val (.int (2 : Int32)), .val (.long x0), .second, .val (.long (x0 + y1)), .second, .val (.long ((x0 + y1) + y2)), .second, .val (.ref b), uu, uu, uu, uu, uu, uu, uu, uu] [(.int (1 : Int32)), (.int (2 : Int32))])) _
    refine XS.icmpYes Xd1.here hx rfl (pc0 := 155) (pc' := 163) rfl (hb hby at_155) rfl (feq (by decide : ¬ ((2 : Int32) = (1 : Int32)))).2 (by decide) (by decide) ?_
    show Steps p.tables e below (Td1.setTop (mkF m 163 #[.val (.int p1), .val (.int p2), .val (.int p3), .val (.int p4), .val (.int p5), .val (.int (1 : Int32)), .val (.ref wMAX), .val (.int (2 : Int32)), .val (.long x0), .second, .val (.long (x0 + y1)), .second, .val (.long ((x0 + y1) + y2)), .second, .val (.ref b), uu, uu, uu, uu, uu, uu, uu, uu] [])) _
    refine XS.iload Xd1.here hx rfl (hb hby at_163) rfl ?_
    show Steps p.tables e below (Td1.setTop (mkF m 165 #[.val (.int p1), .val (.int p2), .val (.int p3), .val (.int p4), .val (.int p5), .val (.int (1 : Int32)), .val (.ref wMAX), .val (.int (2 : Int32)), .val (.long x0), .second, .val (.long (x0 + y1)), .second, .val (.long ((x0 + y1) + y2)), .second, .val (.ref b), uu, uu, uu, uu, uu, uu, uu, uu] [(.int (2 : Int32))])) _
    refine XS.iconst Xd1.here hx rfl (hb hby at_165) ?_
    show Steps p.tables e below (Td1.setTop (mkF m 166 #[.val (.int p1), .val (.int p2), .val (.int p3), .val (.int p4), .val (.int p5), .val (.int (1 : Int32)), .val (.ref wMAX), .val (.int (2 : Int32)), .val (.long x0), .second, .val (.long (x0 + y1)), .second, .val (.long ((x0 + y1) + y2)), .second, .val (.ref b), uu, uu, uu, uu, uu, uu, uu, uu] [(.int (2 : Int32)), (.int (2 : Int32))])) _
    refine XS.icmpNo Xd1.here hx rfl (hb hby at_166) rfl (teq (by decide : (2 : Int32) = (2 : Int32))).2 ?_
    show Steps p.tables e below (Td1.setTop (mkF m 169 #[.val (.int p1), .val (.int p2), .val (.int p3), .val (.int p4), .val (.int p5), .val (.int (1 : Int32)), .val (.ref wMAX), .val (.int (2 : Int32)), .val (.long x0), .second, .val (.long (x0 + y1)), .second, .val (.long ((x0 + y1) + y2)), .second, .val (.ref b), uu, uu, uu, uu, uu, uu, uu, uu] [])) _
    refine XS.lload Xd1.here hx rfl (hb hby at_169) rfl ?_
    show Steps p.tables e below (Td1.setTop (mkF m 171 #[.val (.int p1), .val (.int p2), .val (.int p3), .val (.int p4), .val (.int p5), .val (.int (1 : Int32)), .val (.ref wMAX), .val (.int (2 : Int32)), .val (.long x0), .second, .val (.long (x0 + y1)), .second, .val (.long ((x0 + y1) + y2)), .second, .val (.ref b), uu, uu, uu, uu, uu, uu, uu, uu] [(.long (x0 + y1))])) _
    refine XS.goto Xd1.here hx rfl (pc0 := 171) (pc' := 176) rfl (hb hby at_171) (by decide) (by decide) ?_
    show Steps p.tables e below (Td1.setTop (mkF m 176 #[.val (.int p1), .val (.int p2), .val (.int p3), .val (.int p4), .val (.int p5), .val (.int (1 : Int32)), .val (.ref wMAX), .val (.int (2 : Int32)), .val (.long x0), .second, .val (.long (x0 + y1)), .second, .val (.long ((x0 + y1) + y2)), .second, .val (.ref b), uu, uu, uu, uu, uu, uu, uu, uu] [(.long (x0 + y1))])) _
    refine XS.lstore Xd1.here hx rfl (hb hby at_176) rfl (l' := #[.val (.int p1), .val (.int p2), .val (.int p3), .val (.int p4), .val (.int p5), .val (.int (1 : Int32)), .val (.ref wMAX), .val (.int (2 : Int32)), .val (.long x0), .second, .val (.long (x0 + y1)), .second, .val (.long ((x0 + y1) + y2)), .second, .val (.ref b), .val (.long (x0 + y1)), .second, uu, uu, uu, uu, uu, uu]) rfl ?_
    show Steps p.tables e below (Td1.setTop (mkF m 178 #[.val (.int p1), .val (.int p2), .val (.int p3), .val (.int p4), .val (.int p5), .val (.int (1 : Int32)), .val (.ref wMAX), .val (.int (2 : Int32)), .val (.long x0), .second, .val (.long (x0 + y1)), .second, .val (.long ((x0 + y1) + y2)), .second, .val (.ref b), .val (.long (x0 + y1)), .second, uu, uu, uu, uu, uu, uu] [])) _
    refine XS.iload Xd1.here hx rfl (hb hby at_178) rfl ?_
    show Steps p.tables e below (Td1.setTop (mkF m 180 #[.val (.int p1), .val (.int p2), .val (.int p3), .val (.int p4), .val (.int p5), .val (.int (1 : Int32)), .val (.ref wMAX), .val (.int (2 : Int32)), .val (.long x0), .second, .val (.long (x0 + y1)), .second, .val (.long ((x0 + y1) + y2)), .second, .val (.ref b), .val (.long (x0 + y1)), .second, uu, uu, uu, uu, uu, uu] [(.int (2 : Int32))])) _
    refine XS.iconst Xd1.here hx rfl (hb hby at_180) ?_
    show Steps p.tables e below (Td1.setTop (mkF m 181 #[.val (.int p1), .val (.int p2), .val (.int p3), .val (.int p4), .val (.int p5), .val (.int (1 : Int32)), .val (.ref wMAX), .val (.int (2 : Int32)), .val (.long x0), .second, .val (.long (x0 + y1)), .second, .val (.long ((x0 + y1) + y2)), .second, .val (.ref b), .val (.long (x0 + y1)), .second, uu, uu, uu, uu, uu, uu] [(.int (1 : Int32)), (.int (2 : Int32))])) _
    refine XS.icmpYes Xd1.here hx rfl (pc0 := 181) (pc' := 189) rfl (hb hby at_181) rfl (feq (by decide : ¬ ((2 : Int32) = (1 : Int32)))).2 (by decide) (by decide) ?_
    show Steps p.tables e below (Td1.setTop (mkF m 189 #[.val (.int p1), .val (.int p2), .val (.int p3), .val (.int p4), .val (.int p5), .val (.int (1 : Int32)), .val (.ref wMAX), .val (.int (2 : Int32)), .val (.long x0), .second, .val (.long (x0 + y1)), .second, .val (.long ((x0 + y1) + y2)), .second, .val (.ref b), .val (.long (x0 + y1)), .second, uu, uu, uu, uu, uu, uu] [])) _
    refine XS.iload Xd1.here hx rfl (hb hby at_189) rfl ?_
    show Steps p.tables e below (Td1.setTop (mkF m 191 #[.val (.int p1), .val (.int p2), .val (.int p3), .val (.int p4), .val (.int p5), .val (.int (1 : Int32)), .val (.ref wMAX), .val (.int (2 : Int32)), .val (.long x0), .second, .val (.long (x0 + y1)), .second, .val (.long ((x0 + y1) + y2)), .second, .val (.ref b), .val (.long (x0 + y1)), .second, uu, uu, uu, uu, uu, uu] [(.int (2 : Int32))])) _
    refine XS.iconst Xd1.here hx rfl (hb hby at_191) ?_
    show Steps p.tables e below (Td1.setTop (mkF m 192 #[.val (.int p1), .val (.int p2), .val (.int p3), .val (.int p4), .val (.int p5), .val (.int (1 : Int32)), .val (.ref wMAX), .val (.int (2 : Int32)), .val (.long x0), .second, .val (.long (x0 + y1)), .second, .val (.long ((x0 + y1) + y2)), .second, .val (.ref b), .val (.long (x0 + y1)), .second, uu, uu, uu, uu, uu, uu] [(.int (2 : Int32)), (.int (2 : Int32))])) _
    refine XS.icmpNo Xd1.here hx rfl (hb hby at_192) rfl (teq (by decide : (2 : Int32) = (2 : Int32))).2 ?_
    show Steps p.tables e below (Td1.setTop (mkF m 195 #[.val (.int p1), .val (.int p2), .val (.int p3), .val (.int p4), .val (.int p5), .val (.int (1 : Int32)), .val (.ref wMAX), .val (.int (2 : Int32)), .val (.long x0), .second, .val (.long (x0 + y1)), .second, .val (.long ((x0 + y1) + y2)), .second, .val (.ref b), .val (.long (x0 + y1)), .second, uu, uu, uu, uu, uu, uu] [])) _
    refine XS.lload Xd1.here hx rfl (hb hby at_195) rfl ?_
    show Steps p.tables e below (Td1.setTop (mkF m 197 #[.val (.int p1), .val (.int p2), .val (.int p3), .val (.int p4), .val (.int p5), .val (.int (1 : Int32)), .val (.ref wMAX), .val (.int (2 : Int32)), .val (.long x0), .second, .val (.long (x0 + y1)), .second, .val (.long ((x0 + y1) + y2)), .second, .val (.ref b), .val (.long (x0 + y1)), .second, uu, uu, uu, uu, uu, uu] [(.long x0)])) _
    refine XS.lload Xd1.here hx rfl (hb hby at_197) rfl ?_
    show Steps p.tables e below (Td1.setTop (mkF m 199 #[.val (.int p1), .val (.int p2), .val (.int p3), .val (.int p4), .val (.int p5), .val (.int (1 : Int32)), .val (.ref wMAX), .val (.int (2 : Int32)), .val (.long x0), .second, .val (.long (x0 + y1)), .second, .val (.long ((x0 + y1) + y2)), .second, .val (.ref b), .val (.long (x0 + y1)), .second, uu, uu, uu, uu, uu, uu] [(.long (x0 + y1)), (.long x0)])) _
    refine XS.ladd Xd1.here hx rfl (hb hby at_199) rfl ?_
    show Steps p.tables e below (Td1.setTop (mkF m 200 #[.val (.int p1), .val (.int p2), .val (.int p3), .val (.int p4), .val (.int p5), .val (.int (1 : Int32)), .val (.ref wMAX), .val (.int (2 : Int32)), .val (.long x0), .second, .val (.long (x0 + y1)), .second, .val (.long ((x0 + y1) + y2)), .second, .val (.ref b), .val (.long (x0 + y1)), .second, uu, uu, uu, uu, uu, uu] [(.long (x0 + (x0 + y1)))])) _
    refine XS.goto Xd1.here hx rfl (pc0 := 200) (pc' := 211) rfl (hb hby at_200) (by decide) (by decide) ?_
    show Steps p.tables e below (Td1.setTop (mkF m 211 #[.val (.int p1), .val (.int p2), .val (.int p3), .val (.int p4), .val (.int p5), .val (.int (1 : Int32)), .val (.ref wMAX), .val (.int (2 : Int32)), .val (.long x0), .second, .val (.long (x0 + y1)), .second, .val (.long ((x0 + y1) + y2)), .second, .val (.ref b), .val (.long (x0 + y1)), .second, uu, uu, uu, uu, uu, uu] [(.long (x0 + (x0 + y1)))])) _
    refine XS.lstore Xd1.here hx rfl (hb hby at_211) rfl (l' := #[.val (.int p1), .val (.int p2), .val (.int p3), .val (.int p4), .val (.int p5), .val (.int (1 : Int32)), .val (.ref wMAX), .val (.int (2 : Int32)), .val (.long x0), .second, .val (.long (x0 + y1)), .second, .val (.long ((x0 + y1) + y2)), .second, .val (.ref b), .val (.long (x0 + y1)), .second, .val (.long (x0 + (x0 + y1))), .second, uu, uu, uu, uu]) rfl ?_
    show Steps p.tables e below (Td1.setTop (mkF m 213 #[.val (.int p1), .val (.int p2), .val (.int p3), .val (.int p4), .val (.int p5), .val (.int (1 : Int32)), .val (.ref wMAX), .val (.int (2 : Int32)), .val (.long x0), .second, .val (.long (x0 + y1)), .second, .val (.long ((x0 + y1) + y2)), .second, .val (.ref b), .val (.long (x0 + y1)), .second, .val (.long (x0 + (x0 + y1))), .second, uu, uu, uu, uu] [])) _
    refine XS.iload Xd1.here hx rfl (hb hby at_213) rfl ?_
    show Steps p.tables e below (Td1.setTop (mkF m 215 #[.val (.int p1), .val (.int p2), .val (.int p3), .val (.int p4), .val (.int p5), .val (.int (1 : Int32)), .val (.ref wMAX), .val (.int (2 : Int32)), .val (.long x0), .second, .val (.long (x0 + y1)), .second, .val (.long ((x0 + y1) + y2)), .second, .val (.ref b), .val (.long (x0 + y1)), .second, .val (.long (x0 + (x0 + y1))), .second, uu, uu, uu, uu] [(.int (1 : Int32))])) _
    refine XS.ifYes Xd1.here hx rfl (pc0 := 215) (pc' := 226) rfl (hb hby at_215) rfl ((if0 _ _).trans (feq (by decide : ¬ ((1 : Int32) = (0 : Int32)))).2) (by decide) (by decide) ?_
    show Steps p.tables e below (Td1.setTop (mkF m 226 #[.val (.int p1), .val (.int p2), .val (.int p3), .val (.int p4), .val (.int p5), .val (.int (1 : Int32)), .val (.ref wMAX), .val (.int (2 : Int32)), .val (.long x0), .second, .val (.long (x0 + y1)), .second, .val (.long ((x0 + y1) + y2)), .second, .val (.ref b), .val (.long (x0 + y1)), .second, .val (.long (x0 + (x0 + y1))), .second, uu, uu, uu, uu] [])) _
    refine XS.iload Xd1.here hx rfl (hb hby at_226) rfl ?_
    show Steps p.tables e below (Td1.setTop (mkF m 228 #[.val (.int p1), .val (.int p2), .val (.int p3), .val (.int p4), .val (.int p5), .val (.int (1 : Int32)), .val (.ref wMAX), .val (.int (2 : Int32)), .val (.long x0), .second, .val (.long (x0 + y1)), .second, .val (.long ((x0 + y1) + y2)), .second, .val (.ref b), .val (.long (x0 + y1)), .second, .val (.long (x0 + (x0 + y1))), .second, uu, uu, uu, uu] [(.int (1 : Int32))])) _
    refine XS.iconst Xd1.here hx rfl (hb hby at_228) ?_
    show Steps p.tables e below (Td1.setTop (mkF m 229 #[.val (.int p1), .val (.int p2), .val (.int p3), .val (.int p4), .val (.int p5), .val (.int (1 : Int32)), .val (.ref wMAX), .val (.int (2 : Int32)), .val (.long x0), .second, .val (.long (x0 + y1)), .second, .val (.long ((x0 + y1) + y2)), .second, .val (.ref b), .val (.long (x0 + y1)), .second, .val (.long (x0 + (x0 + y1))), .second, uu, uu, uu, uu] [(.int (1 : Int32)), (.int (1 : Int32))])) _
    refine XS.icmpNo Xd1.here hx rfl (hb hby at_229) rfl (teq (by decide : (1 : Int32) = (1 : Int32))).2 ?_
    show Steps p.tables e below (Td1.setTop (mkF m 232 #[.val (.int p1), .val (.int p2), .val (.int p3), .val (.int p4), .val (.int p5), .val (.int (1 : Int32)), .val (.ref wMAX), .val (.int (2 : Int32)), .val (.long x0), .second, .val (.long (x0 + y1)), .second, .val (.long ((x0 + y1) + y2)), .second, .val (.ref b), .val (.long (x0 + y1)), .second, .val (.long (x0 + (x0 + y1))), .second, uu, uu, uu, uu] [])) _
    refine XS.lload Xd1.here hx rfl (hb hby at_232) rfl ?_
    show Steps p.tables e below (Td1.setTop (mkF m 234 #[.val (.int p1), .val (.int p2), .val (.int p3), .val (.int p4), .val (.int p5), .val (.int (1 : Int32)), .val (.ref wMAX), .val (.int (2 : Int32)), .val (.long x0), .second, .val (.long (x0 + y1)), .second, .val (.long ((x0 + y1) + y2)), .second, .val (.ref b), .val (.long (x0 + y1)), .second, .val (.long (x0 + (x0 + y1))), .second, uu, uu, uu, uu] [(.long (x0 + y1))])) _
    refine XS.l2dS Xd1.here hx rfl (hb hby at_234) rfl (v := FP.l2d (x0 + y1)) rfl ?_
    show Steps p.tables e below (Td1.setTop (mkF m 235 #[.val (.int p1), .val (.int p2), .val (.int p3), .val (.int p4), .val (.int p5), .val (.int (1 : Int32)), .val (.ref wMAX), .val (.int (2 : Int32)), .val (.long x0), .second, .val (.long (x0 + y1)), .second, .val (.long ((x0 + y1) + y2)), .second, .val (.ref b), .val (.long (x0 + y1)), .second, .val (.long (x0 + (x0 + y1))), .second, uu, uu, uu, uu] [(.double (FP.l2d (x0 + y1)))])) _
    refine XS.dstore Xd1.here hx rfl (hb hby at_235) rfl (l' := #[.val (.int p1), .val (.int p2), .val (.int p3), .val (.int p4), .val (.int p5), .val (.int (1 : Int32)), .val (.ref wMAX), .val (.int (2 : Int32)), .val (.long x0), .second, .val (.long (x0 + y1)), .second, .val (.long ((x0 + y1) + y2)), .second, .val (.ref b), .val (.long (x0 + y1)), .second, .val (.long (x0 + (x0 + y1))), .second, .val (.double (FP.l2d (x0 + y1))), .second, uu, uu]) rfl ?_
    show Steps p.tables e below (Td1.setTop (mkF m 237 #[.val (.int p1), .val (.int p2), .val (.int p3), .val (.int p4), .val (.int p5), .val (.int (1 : Int32)), .val (.ref wMAX), .val (.int (2 : Int32)), .val (.long x0), .second, .val (.long (x0 + y1)), .second, .val (.long ((x0 + y1) + y2)), .second, .val (.ref b), .val (.long (x0 + y1)), .second, .val (.long (x0 + (x0 + y1))), .second, .val (.double (FP.l2d (x0 + y1))), .second, uu, uu] [])) _
    refine XS.goto Xd1.here hx rfl (pc0 := 237) (pc' := 263) rfl (hb hby at_237) (by decide) (by decide) ?_
    show Steps p.tables e below (Td1.setTop (mkF m 263 #[.val (.int p1), .val (.int p2), .val (.int p3), .val (.int p4), .val (.int p5), .val (.int (1 : Int32)), .val (.ref wMAX), .val (.int (2 : Int32)), .val (.long x0), .second, .val (.long (x0 + y1)), .second, .val (.long ((x0 + y1) + y2)), .second, .val (.ref b), .val (.long (x0 + y1)), .second, .val (.long (x0 + (x0 + y1))), .second, .val (.double (FP.l2d (x0 + y1))), .second, uu, uu] [])) _
    refine XS.aload Xd1.here hx rfl (hb hby at_263) rfl rfl ?_
    show Steps p.tables e below (Td1.setTop (mkF m 265 #[.val (.int p1), .val (.int p2), .val (.int p3), .val (.int p4), .val (.int p5), .val (.int (1 : Int32)), .val (.ref wMAX), .val (.int (2 : Int32)), .val (.long x0), .second, .val (.long (x0 + y1)), .second, .val (.long ((x0 + y1) + y2)), .second, .val (.ref b), .val (.long (x0 + y1)), .second, .val (.long (x0 + (x0 + y1))), .second, .val (.double (FP.l2d (x0 + y1))), .second, uu, uu] [(.ref wMAX)])) _
    refine XS.aload Xd1.here hx rfl (hb hby at_265) rfl rfl ?_
    show Steps p.tables e below (Td1.setTop (mkF m 267 #[.val (.int p1), .val (.int p2), .val (.int p3), .val (.int p4), .val (.int p5), .val (.int (1 : Int32)), .val (.ref wMAX), .val (.int (2 : Int32)), .val (.long x0), .second, .val (.long (x0 + y1)), .second, .val (.long ((x0 + y1) + y2)), .second, .val (.ref b), .val (.long (x0 + y1)), .second, .val (.long (x0 + (x0 + y1))), .second, .val (.double (FP.l2d (x0 + y1))), .second, uu, uu] [(.ref b), (.ref wMAX)])) _
    refine stc.trans ?_
    show Steps p.tables e below (Tc.setTop (mkF m 270 #[.val (.int p1), .val (.int p2), .val (.int p3), .val (.int p4), .val (.int p5), .val (.int (1 : Int32)), .val (.ref wMAX), .val (.int (2 : Int32)), .val (.long x0), .second, .val (.long (x0 + y1)), .second, .val (.long ((x0 + y1) + y2)), .second, .val (.ref b), .val (.long (x0 + y1)), .second, .val (.long (x0 + (x0 + y1))), .second, .val (.double (FP.l2d (x0 + y1))), .second, uu, uu] [(.double (FP.l2d (x0 + y1)))])) _
    refine XS.dstore Xc.here hx rfl (hb hby at_270) rfl (l' := #[.val (.int p1), .val (.int p2), .val (.int p3), .val (.int p4), .val (.int p5), .val (.int (1 : Int32)), .val (.ref wMAX), .val (.int (2 : Int32)), .val (.long x0), .second, .val (.long (x0 + y1)), .second, .val (.long ((x0 + y1) + y2)), .second, .val (.ref b), .val (.long (x0 + y1)), .second, .val (.long (x0 + (x0 + y1))), .second, .val (.double (FP.l2d (x0 + y1))), .second, .val (.double (FP.l2d (x0 + y1))), .second]) rfl ?_
    show Steps p.tables e below (Tc.setTop (mkF m 272 #[.val (.int p1), .val (.int p2), .val (.int p3), .val (.int p4), .val (.int p5), .val (.int (1 : Int32)), .val (.ref wMAX), .val (.int (2 : Int32)), .val (.long x0), .second, .val (.long (x0 + y1)), .second, .val (.long ((x0 + y1) + y2)), .second, .val (.ref b), .val (.long (x0 + y1)), .second, .val (.long (x0 + (x0 + y1))), .second, .val (.double (FP.l2d (x0 + y1))), .second, .val (.double (FP.l2d (x0 + y1))), .second] [])) _
    refine XS.dload Xc.here hx rfl (hb hby at_272) rfl ?_
    show Steps p.tables e below (Tc.setTop (mkF m 274 #[.val (.int p1), .val (.int p2), .val (.int p3), .val (.int p4), .val (.int p5), .val (.int (1 : Int32)), .val (.ref wMAX), .val (.int (2 : Int32)), .val (.long x0), .second, .val (.long (x0 + y1)), .second, .val (.long ((x0 + y1) + y2)), .second, .val (.ref b), .val (.long (x0 + y1)), .second, .val (.long (x0 + (x0 + y1))), .second, .val (.double (FP.l2d (x0 + y1))), .second, .val (.double (FP.l2d (x0 + y1))), .second] [(.double (FP.l2d (x0 + y1)))])) _
    refine XS.dload Xc.here hx rfl (hb hby at_274) rfl ?_
    show Steps p.tables e below (Tc.setTop (mkF m 276 #[.val (.int p1), .val (.int p2), .val (.int p3), .val (.int p4), .val (.int p5), .val (.int (1 : Int32)), .val (.ref wMAX), .val (.int (2 : Int32)), .val (.long x0), .second, .val (.long (x0 + y1)), .second, .val (.long ((x0 + y1) + y2)), .second, .val (.ref b), .val (.long (x0 + y1)), .second, .val (.long (x0 + (x0 + y1))), .second, .val (.double (FP.l2d (x0 + y1))), .second, .val (.double (FP.l2d (x0 + y1))), .second] [(.double (FP.l2d (x0 + y1))), (.double (FP.l2d (x0 + y1)))])) _
    refine XS.dcmpS Xc.here hx rfl (hb hby at_276) rfl (v := (0 : Int32)) (dcmpV_self (own_l2d _) _) ?_
    show Steps p.tables e below (Tc.setTop (mkF m 277 #[.val (.int p1), .val (.int p2), .val (.int p3), .val (.int p4), .val (.int p5), .val (.int (1 : Int32)), .val (.ref wMAX), .val (.int (2 : Int32)), .val (.long x0), .second, .val (.long (x0 + y1)), .second, .val (.long ((x0 + y1) + y2)), .second, .val (.ref b), .val (.long (x0 + y1)), .second, .val (.long (x0 + (x0 + y1))), .second, .val (.double (FP.l2d (x0 + y1))), .second, .val (.double (FP.l2d (x0 + y1))), .second] [(.int (0 : Int32))])) _
    refine XS.ifNo Xc.here hx rfl (hb hby at_277) rfl ((if0 _ _).trans (teq (by decide : (0 : Int32) = (0 : Int32))).2) ?_
    show Steps p.tables e below (Tc.setTop (mkF m 280 #[.val (.int p1), .val (.int p2), .val (.int p3), .val (.int p4), .val (.int p5), .val (.int (1 : Int32)), .val (.ref wMAX), .val (.int (2 : Int32)), .val (.long x0), .second, .val (.long (x0 + y1)), .second, .val (.long ((x0 + y1) + y2)), .second, .val (.ref b), .val (.long (x0 + y1)), .second, .val (.long (x0 + (x0 + y1))), .second, .val (.double (FP.l2d (x0 + y1))), .second, .val (.double (FP.l2d (x0 + y1))), .second] [])) _
    refine XS.iconst Xc.here hx rfl (hb hby at_280) ?_
    show Steps p.tables e below (Tc.setTop (mkF m 281 #[.val (.int p1), .val (.int p2), .val (.int p3), .val (.int p4), .val (.int p5), .val (.int (1 : Int32)), .val (.ref wMAX), .val (.int (2 : Int32)), .val (.long x0), .second, .val (.long (x0 + y1)), .second, .val (.long ((x0 + y1) + y2)), .second, .val (.ref b), .val (.long (x0 + y1)), .second, .val (.long (x0 + (x0 + y1))), .second, .val (.double (FP.l2d (x0 + y1))), .second, .val (.double (FP.l2d (x0 + y1))), .second] [(.int (1 : Int32))])) _
    refine XS.goto Xc.here hx rfl (pc0 := 281) (pc' := 285) rfl (hb hby at_281) (by decide) (by decide) ?_
    show Steps p.tables e below (Tc.setTop (mkF m 285 #[.val (.int p1), .val (.int p2), .val (.int p3), .val (.int p4), .val (.int p5), .val (.int (1 : Int32)), .val (.ref wMAX), .val (.int (2 : Int32)), .val (.long x0), .second, .val (.long (x0 + y1)), .second, .val (.long ((x0 + y1) + y2)), .second, .val (.ref b), .val (.long (x0 + y1)), .second, .val (.long (x0 + (x0 + y1))), .second, .val (.double (FP.l2d (x0 + y1))), .second, .val (.double (FP.l2d (x0 + y1))), .second] [(.int (1 : Int32))])) _
    exact retN Xc hx (t := .boolean) Bd.returns (by simp) (hb hby at_285) hr
  · show Q0 h0 n0 _ Tc.heap _
    exact ⟨rfl, Nc⟩
set_option maxRecDepth 65536 in
set_option maxHeartbeats 40000000 in
theorem rm0_1_3 (l : Launch) (Z : State) (a0 : Array Value) (hw : ∀ d ∈ tables_1, d.before a0 Z = true) (ws : List Jvm.Cond) (p1 p2 p3 p4 p5 : Int32) (wMIN wMAX wAVG wSUM : Addr) (x0 y1 y2 : Int64) (h0 : Heap) (n0 : Nat) (Z0 : n0 ≤ h0.size) (S_MIN : Sta Z h0 "com/example/tiebreaker/tiebreaker/engine/search/DecayFunction$MultiValueMode" "MIN" "Lcom/example/tiebreaker/tiebreaker/engine/search/DecayFunction$MultiValueMode;" (.ref wMIN)) (S_MAX : Sta Z h0 "com/example/tiebreaker/tiebreaker/engine/search/DecayFunction$MultiValueMode" "MAX" "Lcom/example/tiebreaker/tiebreaker/engine/search/DecayFunction$MultiValueMode;" (.ref wMAX)) (S_AVG : Sta Z h0 "com/example/tiebreaker/tiebreaker/engine/search/DecayFunction$MultiValueMode" "AVG" "Lcom/example/tiebreaker/tiebreaker/engine/search/DecayFunction$MultiValueMode;" (.ref wAVG)) (S_SUM : Sta Z h0 "com/example/tiebreaker/tiebreaker/engine/search/DecayFunction$MultiValueMode" "SUM" "Lcom/example/tiebreaker/tiebreaker/engine/search/DecayFunction$MultiValueMode;" (.ref wSUM)) (nXI : ¬ wMAX = wMIN) (nAI : ¬ wAVG = wMIN) (nAX : ¬ wAVG = wMAX) (nSI : ¬ wSUM = wMIN) (nSX : ¬ wSUM = wMAX) (nAS : ¬ wAVG = wSUM) (E_m : Exa Z h0 wMAX "com/example/tiebreaker/tiebreaker/engine/search/DecayFunction$MultiValueMode") (hx0 : x0 = (p3 &&& (1048575 : Int32)).toInt64) (hy1 : y1 = (p4 &&& (1048575 : Int32)).toInt64) (hy2 : y2 = (p5 &&& (1048575 : Int32)).toInt64) (b0 : 0 ≤ x0.toInt ∧ x0.toInt < 4000000) (b1 : 0 ≤ (x0 + y1).toInt ∧ (x0 + y1).toInt < 4000000) (b2 : 0 ≤ ((x0 + y1) + y2).toInt ∧ ((x0 + y1) + y2).toInt < 4000000) (hm : (p1 &&& (3 : Int32)) = (1 : Int32)) (hn : (((p2 &&& (2147483647 : Int32)) % (3 : Int32)) + (1 : Int32)) = (3 : Int32)) :
    MetFree l x (head1 (Jvm.Cond.code x code maxLocals ret :: ws) room_1) (fun a U => a = #[(.int p1), (.int p2), (.int p3), (.int p4), (.int p5)] ∧ Z.Warmed39 U.vm ∧ U.heap = h0) (fun _ _ _ _ _ => True) (fun _ U o U' => ∃ v L, o = .returned v ∧ Q0 h0 n0 v U'.heap L ∧ FrameEnd U o U' L room_1.cells room_1.slots) := by
  refine MetFree.of_bodySF (plainFor_of_name pn_0) hisR ?_
  intro p e s m args below meth c s₁ Bd hml0 hP hK
  obtain ⟨rfl, hZ, hh⟩ := hP
  have hx := Bd.exec
  have hby := Bd.bytes
  have hml : c.maxLocals = 23 := hml0
  have hown : s.vm.findClass "com/example/tiebreaker/tiebreaker/engine/search/MultiValueModePickPinLaw" = some m.cls := findClass_of_methodNamed Bd.named
  have X0 : Stand p l e room_1 s m #[(.int p1), (.int p2), (.int p3), (.int p4), (.int p5)] below meth c s₁ [] 0 0 := Stand.of_body Bd
  have e0 : s₁.heap = h0 := by rw [← hh, Bd.state]; rfl
  have N0 := Fr.nil n0
  have pre0 : ∀ t, Steps p.tables e below (s₁.setTop (mkF m 0 #[.val (.int p1), .val (.int p2), .val (.int p3), .val (.int p4), .val (.int p5), uu, uu, uu, uu, uu, uu, uu, uu, uu, uu, uu, uu, uu, uu, uu, uu, uu, uu] [])) t → Steps p.tables e below (s₁.setTop (entryFrame m #[(.int p1), (.int p2), (.int p3), (.int p4), (.int p5)] maxLocals)) t := fun t k => castTop (ef_0 m p1 p2 p3 p4 p5) k
  obtain ⟨T50, X50, e50, st50⟩ := getS2 X0 hx hZ hown (host := "") (Or.inl (hw _ (List.mem_of_getElem? (i := 19) rfl))) Via.refl e0 S_MAX (g := (mkF m 22 #[.val (.int p1), .val (.int p2), .val (.int p3), .val (.int p4), .val (.int p5), .val (.int (1 : Int32)), uu, uu, uu, uu, uu, uu, uu, uu, uu, uu, uu, uu, uu, uu, uu, uu, uu] [])) rfl (hb hby at_22)
  obtain ⟨Ta, ha, ka, Xa, ea, Ea, Aa, sta_⟩ := newP X50 hx hZ (hw _ (List.mem_of_getElem? (i := 5) rfl)) e50 (g := (mkF m 130 #[.val (.int p1), .val (.int p2), .val (.int p3), .val (.int p4), .val (.int p5), .val (.int (1 : Int32)), .val (.ref wMAX), .val (.int (3 : Int32)), .val (.long x0), .second, .val (.long (x0 + y1)), .second, .val (.long ((x0 + y1) + y2)), .second, uu, uu, uu, uu, uu, uu, uu, uu, uu] [(.int (3 : Int32))])) rfl (hb hby at_130) rfl (by decide) (cap := 3) (by decide) (by decide) (by decide) (by decide)
  obtain ⟨b, gb⟩ : ∃ z, z = h0.size := ⟨_, rfl⟩
  rw [← gb] at Aa sta_
  have V0 : Arv Z ha b ka .double (3 : Int32) [] (.double (FP.l2d 0)) := Arv.newD Aa (by decide)
  have Vp : Arv Z ha b ka .double (3 : Int32) (List.replicate 3 (.double (FP.l2d 0))) (.double (FP.l2d 0)) := V0.pad (pad_rep [] (.double (FP.l2d 0)) 3)
  have g_b : n0 ≤ b := Nat.le_trans Z0 (Nat.le_of_eq gb.symm)
  have sz_b : h0.size ≤ b := Nat.le_of_eq gb.symm
  have Ka : Keep h0 ha [] := (Keep.refl h0 []).ext Ea
  obtain ⟨cl0, Ar0, q0, Sz0, M0, H0, U0⟩ := Vp
  obtain ⟨Td0, hd0, Xd0, ed0, Wd0, std0⟩ := stD Xa hx hZ ea Ar0 (j := (0 : Int32)) (inb_of Sz0 (by decide)) (g := (mkF m 137 #[.val (.int p1), .val (.int p2), .val (.int p3), .val (.int p4), .val (.int p5), .val (.int (1 : Int32)), .val (.ref wMAX), .val (.int (3 : Int32)), .val (.long x0), .second, .val (.long (x0 + y1)), .second, .val (.long ((x0 + y1) + y2)), .second, uu, uu, uu, uu, uu, uu, uu, uu, uu] [(.double (FP.l2d x0)), (.int (0 : Int32)), (.ref b), (.ref b)])) rfl rfl (hb hby at_137)
  have V1 := Arv.set Ar0 q0 Sz0 M0 H0 U0 (v := (.double (FP.l2d x0))) rfl Wd0 0 rfl (by simp)
  have Nd0 := Fr.snoc Xd0 N0 g_b
  have Kd0 : Keep h0 hd0 [] := Ka.wr Wd0 (Or.inr sz_b)
  obtain ⟨cl1, Ar1, q1, Sz1, M1, H1, U1⟩ := V1
  obtain ⟨Td1, hd1, Xd1, ed1, Wd1, std1⟩ := stD Xd0 hx hZ ed0 Ar1 (j := (1 : Int32)) (inb_of Sz1 (by decide)) (g := (mkF m 143 #[.val (.int p1), .val (.int p2), .val (.int p3), .val (.int p4), .val (.int p5), .val (.int (1 : Int32)), .val (.ref wMAX), .val (.int (3 : Int32)), .val (.long x0), .second, .val (.long (x0 + y1)), .second, .val (.long ((x0 + y1) + y2)), .second, uu, uu, uu, uu, uu, uu, uu, uu, uu] [(.double (FP.l2d (x0 + y1))), (.int (1 : Int32)), (.ref b), (.ref b)])) rfl rfl (hb hby at_143)
  have V2 := Arv.set Ar1 q1 Sz1 M1 H1 U1 (v := (.double (FP.l2d (x0 + y1)))) rfl Wd1 1 rfl (by simp)
  have Nd1 := Fr.snoc Xd1 Nd0 g_b
  have Kd1 : Keep h0 hd1 [] := Kd0.wr Wd1 (Or.inr sz_b)
  obtain ⟨cl2, Ar2, q2, Sz2, M2, H2, U2⟩ := V2
  obtain ⟨Td2, hd2, Xd2, ed2, Wd2, std2⟩ := stD Xd1 hx hZ ed1 Ar2 (j := (2 : Int32)) (inb_of Sz2 (by decide)) (g := (mkF m 149 #[.val (.int p1), .val (.int p2), .val (.int p3), .val (.int p4), .val (.int p5), .val (.int (1 : Int32)), .val (.ref wMAX), .val (.int (3 : Int32)), .val (.long x0), .second, .val (.long (x0 + y1)), .second, .val (.long ((x0 + y1) + y2)), .second, uu, uu, uu, uu, uu, uu, uu, uu, uu] [(.double (FP.l2d ((x0 + y1) + y2))), (.int (2 : Int32)), (.ref b), (.ref b)])) rfl rfl (hb hby at_149)
  have V3 := Arv.set Ar2 q2 Sz2 M2 H2 U2 (v := (.double (FP.l2d ((x0 + y1) + y2)))) rfl Wd2 2 rfl (by simp)
  have Nd2 := Fr.snoc Xd2 Nd1 g_b
  have Kd2 : Keep h0 hd2 [] := Kd1.wr Wd2 (Or.inr sz_b)
  have KK : Keep h0 hd2 [] := Kd2
  obtain ⟨cl, Ar, -, Sz, Nn, Hh, -⟩ := V3
  have hat0 : cl.slots[0]? = some (.double (FP.l2d x0)) := Hh 0 (by rw [Sz]; decide)
  have hat1 : cl.slots[1]? = some (.double (FP.l2d (x0 + y1))) := Hh 1 (by rw [Sz]; decide)
  have hat2 : cl.slots[2]? = some (.double (FP.l2d ((x0 + y1) + y2))) := Hh 2 (by rw [Sz]; decide)
  obtain ⟨cq, kq, qa, qb, qc⟩ := isOf hZ ed2 (E_m.keep KK)
  obtain ⟨_, _, ⟨Tc, Lc, kc, nc⟩, -, Xc, ⟨Lcc, hQc, lc, yc, zc⟩, stc⟩ := Xd2.virtualBack hx (y := (⟨"com/example/tiebreaker/tiebreaker/engine/search/DecayFunction$MultiValueMode", "pick", "([D)D"⟩ : MethodName)) (z := (⟨"com/example/tiebreaker/tiebreaker/engine/search/DecayFunction$MultiValueMode", "pick", "([D)D"⟩ : MethodName)) hown (mvT hZ (hw _ (List.mem_of_getElem? (i := 6) rfl))) (mvT hZ (hw _ (List.mem_of_getElem? (i := 7) rfl))) (notFace_of_selects (args := #[]) (mvT hZ (hw _ (List.mem_of_getElem? (i := 9) rfl)))) (mvT hZ (hw _ (List.mem_of_getElem? (i := 9) rfl))) (mvT hZ (hw _ (List.mem_of_getElem? (i := 8) rfl))) (by decide) (backOf (W := 0) (rm1_MAX_3 l Z a0 hw [] b wMIN wMAX wAVG wSUM x0 (x0 + y1) ((x0 + y1) + y2) hd2 n0 (Nat.le_trans Z0 KK.1) (own_sta S_MIN KK) (own_sta S_MAX KK) (own_sta S_AVG KK) (own_sta S_SUM KK) nXI nAI nAX nSI nSX nAS cl Ar Sz Nn hat0 hat1 hat2 b0 b1 b2) hZ (hw _ (List.mem_of_getElem? (i := 10) rfl)) (hw _ (List.mem_of_getElem? (i := 1) rfl)) (by decide) (by decide)) qa qc (g := (mkF m 267 #[.val (.int p1), .val (.int p2), .val (.int p3), .val (.int p4), .val (.int p5), .val (.int (1 : Int32)), .val (.ref wMAX), .val (.int (3 : Int32)), .val (.long x0), .second, .val (.long (x0 + y1)), .second, .val (.long ((x0 + y1) + y2)), .second, .val (.ref b), .val (.long ((x0 + y1) + y2)), .second, .val (.long ((x0 + (x0 + y1)) + ((x0 + y1) + y2))), .second, .val (.double (FP.l2d ((x0 + y1) + y2))), .second, uu, uu] [(.ref b), (.ref wMAX)])) rfl (by rw [hml]; rfl) (Steps.refl _) (argsL := [(.ref b)]) (rest := []) (lenOf pd_0 rfl) rfl (by show 2 * 0 + _ ≤ _; exact Nat.le_of_eq rfl) (hb hby at_267) (fun _ _ => ⟨rfl, ed2, (by decide : 0 + 1 + 0 ≤ _), (by decide : 0 + 3 + 0 ≤ _)⟩)
  dsimp only [Pt.U, Pt.locs, Pt.cells, Pt.slots] at Xc lc yc zc stc hQc
  subst lc yc zc
  obtain ⟨rfl, Ncq, ec⟩ := hQc
  have Nc := Fr.app Nd2 Ncq
  obtain ⟨fs, hr, hrun, hended, hW, hsame⟩ := Xc.leave (v := some (.int (1 : Int32))) (fun h => by rw [Bd.returns] at h; cases h)
  refine ⟨_, _, pre0 _ ?_, hrun, hended, _, _, rfl, ?_, ⟨_, rfl⟩, hW, hsame.mono (by decide) (by decide)⟩
  · show Steps p.tables e below (s₁.setTop (mkF m 0 #[.val (.int p1), .val (.int p2), .val (.int p3), .val (.int p4), .val (.int p5), uu, uu, uu, uu, uu, uu, uu, uu, uu, uu, uu, uu, uu, uu, uu, uu, uu, uu] [])) _
    refine XS.iloadN X0.here hx rfl (hb hby at_0) rfl ?_
    show Steps p.tables e below (s₁.setTop (mkF m 1 #[.val (.int p1), .val (.int p2), .val (.int p3), .val (.int p4), .val (.int p5), uu, uu, uu, uu, uu, uu, uu, uu, uu, uu, uu, uu, uu, uu, uu, uu, uu, uu] [(.int p1)])) _
    refine XS.iconst X0.here hx rfl (hb hby at_1) ?_
    show Steps p.tables e below (s₁.setTop (mkF m 2 #[.val (.int p1), .val (.int p2), .val (.int p3), .val (.int p4), .val (.int p5), uu, uu, uu, uu, uu, uu, uu, uu, uu, uu, uu, uu, uu, uu, uu, uu, uu, uu] [(.int (3 : Int32)), (.int p1)])) _
    refine XS.iand X0.here hx rfl (hb hby at_2) rfl ?_
    show Steps p.tables e below (s₁.setTop (mkF m 3 #[.val (.int p1), .val (.int p2), .val (.int p3), .val (.int p4), .val (.int p5), uu, uu, uu, uu, uu, uu, uu, uu, uu, uu, uu, uu, uu, uu, uu, uu, uu, uu] [(.int (p1 &&& (3 : Int32)))])) _
    rw [hm]
    show Steps p.tables e below (s₁.setTop (mkF m 3 #[.val (.int p1), .val (.int p2), .val (.int p3), .val (.int p4), .val (.int p5), uu, uu, uu, uu, uu, uu, uu, uu, uu, uu, uu, uu, uu, uu, uu, uu, uu, uu] [(.int (1 : Int32))])) _
    refine XS.istore X0.here hx rfl (hb hby at_3) rfl (l' := #[.val (.int p1), .val (.int p2), .val (.int p3), .val (.int p4), .val (.int p5), .val (.int (1 : Int32)), uu, uu, uu, uu, uu, uu, uu, uu, uu, uu, uu, uu, uu, uu, uu, uu, uu]) rfl ?_
    show Steps p.tables e below (s₁.setTop (mkF m 5 #[.val (.int p1), .val (.int p2), .val (.int p3), .val (.int p4), .val (.int p5), .val (.int (1 : Int32)), uu, uu, uu, uu, uu, uu, uu, uu, uu, uu, uu, uu, uu, uu, uu, uu, uu] [])) _
    refine XS.iload X0.here hx rfl (hb hby at_5) rfl ?_
    show Steps p.tables e below (s₁.setTop (mkF m 7 #[.val (.int p1), .val (.int p2), .val (.int p3), .val (.int p4), .val (.int p5), .val (.int (1 : Int32)), uu, uu, uu, uu, uu, uu, uu, uu, uu, uu, uu, uu, uu, uu, uu, uu, uu] [(.int (1 : Int32))])) _
    refine XS.ifYes X0.here hx rfl (pc0 := 7) (pc' := 16) rfl (hb hby at_7) rfl ((if0 _ _).trans (feq (by decide : ¬ ((1 : Int32) = (0 : Int32)))).2) (by decide) (by decide) ?_
    show Steps p.tables e below (s₁.setTop (mkF m 16 #[.val (.int p1), .val (.int p2), .val (.int p3), .val (.int p4), .val (.int p5), .val (.int (1 : Int32)), uu, uu, uu, uu, uu, uu, uu, uu, uu, uu, uu, uu, uu, uu, uu, uu, uu] [])) _
    refine XS.iload X0.here hx rfl (hb hby at_16) rfl ?_
    show Steps p.tables e below (s₁.setTop (mkF m 18 #[.val (.int p1), .val (.int p2), .val (.int p3), .val (.int p4), .val (.int p5), .val (.int (1 : Int32)), uu, uu, uu, uu, uu, uu, uu, uu, uu, uu, uu, uu, uu, uu, uu, uu, uu] [(.int (1 : Int32))])) _
    refine XS.iconst X0.here hx rfl (hb hby at_18) ?_
    show Steps p.tables e below (s₁.setTop (mkF m 19 #[.val (.int p1), .val (.int p2), .val (.int p3), .val (.int p4), .val (.int p5), .val (.int (1 : Int32)), uu, uu, uu, uu, uu, uu, uu, uu, uu, uu, uu, uu, uu, uu, uu, uu, uu] [(.int (1 : Int32)), (.int (1 : Int32))])) _
    refine XS.icmpNo X0.here hx rfl (hb hby at_19) rfl (teq (by decide : (1 : Int32) = (1 : Int32))).2 ?_
    show Steps p.tables e below (s₁.setTop (mkF m 22 #[.val (.int p1), .val (.int p2), .val (.int p3), .val (.int p4), .val (.int p5), .val (.int (1 : Int32)), uu, uu, uu, uu, uu, uu, uu, uu, uu, uu, uu, uu, uu, uu, uu, uu, uu] [])) _
    refine st50 _ ?_
    show Steps p.tables e below (T50.setTop (mkF m 25 #[.val (.int p1), .val (.int p2), .val (.int p3), .val (.int p4), .val (.int p5), .val (.int (1 : Int32)), uu, uu, uu, uu, uu, uu, uu, uu, uu, uu, uu, uu, uu, uu, uu, uu, uu] [(.ref wMAX)])) _
    refine XS.goto X50.here hx rfl (pc0 := 25) (pc' := 43) rfl (hb hby at_25) (by decide) (by decide) ?_
    show Steps p.tables e below (T50.setTop (mkF m 43 #[.val (.int p1), .val (.int p2), .val (.int p3), .val (.int p4), .val (.int p5), .val (.int (1 : Int32)), uu, uu, uu, uu, uu, uu, uu, uu, uu, uu, uu, uu, uu, uu, uu, uu, uu] [(.ref wMAX)])) _
    refine XS.astore X50.here hx rfl (hb hby at_43) rfl rfl (l' := #[.val (.int p1), .val (.int p2), .val (.int p3), .val (.int p4), .val (.int p5), .val (.int (1 : Int32)), .val (.ref wMAX), uu, uu, uu, uu, uu, uu, uu, uu, uu, uu, uu, uu, uu, uu, uu, uu]) rfl ?_
    show Steps p.tables e below (T50.setTop (mkF m 45 #[.val (.int p1), .val (.int p2), .val (.int p3), .val (.int p4), .val (.int p5), .val (.int (1 : Int32)), .val (.ref wMAX), uu, uu, uu, uu, uu, uu, uu, uu, uu, uu, uu, uu, uu, uu, uu, uu] [])) _
    refine XS.iloadN X50.here hx rfl (hb hby at_45) rfl ?_
    show Steps p.tables e below (T50.setTop (mkF m 46 #[.val (.int p1), .val (.int p2), .val (.int p3), .val (.int p4), .val (.int p5), .val (.int (1 : Int32)), .val (.ref wMAX), uu, uu, uu, uu, uu, uu, uu, uu, uu, uu, uu, uu, uu, uu, uu, uu] [(.int p2)])) _
    refine X50.ldcInt hx hown (mvT hZ (hw _ (List.mem_of_getElem? (i := 3) rfl))) (g := (mkF m 46 #[.val (.int p1), .val (.int p2), .val (.int p3), .val (.int p4), .val (.int p5), .val (.int (1 : Int32)), .val (.ref wMAX), uu, uu, uu, uu, uu, uu, uu, uu, uu, uu, uu, uu, uu, uu, uu, uu] [(.int p2)])) rfl (hb hby at_46) _ ?_
    show Steps p.tables e below (T50.setTop (mkF m 48 #[.val (.int p1), .val (.int p2), .val (.int p3), .val (.int p4), .val (.int p5), .val (.int (1 : Int32)), .val (.ref wMAX), uu, uu, uu, uu, uu, uu, uu, uu, uu, uu, uu, uu, uu, uu, uu, uu] [(.int (2147483647 : Int32)), (.int p2)])) _
    refine XS.iand X50.here hx rfl (hb hby at_48) rfl ?_
    show Steps p.tables e below (T50.setTop (mkF m 49 #[.val (.int p1), .val (.int p2), .val (.int p3), .val (.int p4), .val (.int p5), .val (.int (1 : Int32)), .val (.ref wMAX), uu, uu, uu, uu, uu, uu, uu, uu, uu, uu, uu, uu, uu, uu, uu, uu] [(.int (p2 &&& (2147483647 : Int32)))])) _
    refine XS.iconst X50.here hx rfl (hb hby at_49) ?_
    show Steps p.tables e below (T50.setTop (mkF m 50 #[.val (.int p1), .val (.int p2), .val (.int p3), .val (.int p4), .val (.int p5), .val (.int (1 : Int32)), .val (.ref wMAX), uu, uu, uu, uu, uu, uu, uu, uu, uu, uu, uu, uu, uu, uu, uu, uu] [(.int (3 : Int32)), (.int (p2 &&& (2147483647 : Int32)))])) _
    refine iremM X50 hx rfl (hb hby at_50) rfl (by decide) ?_
    show Steps p.tables e below (T50.setTop (mkF m 51 #[.val (.int p1), .val (.int p2), .val (.int p3), .val (.int p4), .val (.int p5), .val (.int (1 : Int32)), .val (.ref wMAX), uu, uu, uu, uu, uu, uu, uu, uu, uu, uu, uu, uu, uu, uu, uu, uu] [(.int ((p2 &&& (2147483647 : Int32)) % (3 : Int32)))])) _
    refine XS.iconst X50.here hx rfl (hb hby at_51) ?_
    show Steps p.tables e below (T50.setTop (mkF m 52 #[.val (.int p1), .val (.int p2), .val (.int p3), .val (.int p4), .val (.int p5), .val (.int (1 : Int32)), .val (.ref wMAX), uu, uu, uu, uu, uu, uu, uu, uu, uu, uu, uu, uu, uu, uu, uu, uu] [(.int (1 : Int32)), (.int ((p2 &&& (2147483647 : Int32)) % (3 : Int32)))])) _
    refine XS.iadd X50.here hx rfl (hb hby at_52) rfl ?_
    show Steps p.tables e below (T50.setTop (mkF m 53 #[.val (.int p1), .val (.int p2), .val (.int p3), .val (.int p4), .val (.int p5), .val (.int (1 : Int32)), .val (.ref wMAX), uu, uu, uu, uu, uu, uu, uu, uu, uu, uu, uu, uu, uu, uu, uu, uu] [(.int (((p2 &&& (2147483647 : Int32)) % (3 : Int32)) + (1 : Int32)))])) _
    rw [hn]
    show Steps p.tables e below (T50.setTop (mkF m 53 #[.val (.int p1), .val (.int p2), .val (.int p3), .val (.int p4), .val (.int p5), .val (.int (1 : Int32)), .val (.ref wMAX), uu, uu, uu, uu, uu, uu, uu, uu, uu, uu, uu, uu, uu, uu, uu, uu] [(.int (3 : Int32))])) _
    refine XS.istore X50.here hx rfl (hb hby at_53) rfl (l' := #[.val (.int p1), .val (.int p2), .val (.int p3), .val (.int p4), .val (.int p5), .val (.int (1 : Int32)), .val (.ref wMAX), .val (.int (3 : Int32)), uu, uu, uu, uu, uu, uu, uu, uu, uu, uu, uu, uu, uu, uu, uu]) rfl ?_
    show Steps p.tables e below (T50.setTop (mkF m 55 #[.val (.int p1), .val (.int p2), .val (.int p3), .val (.int p4), .val (.int p5), .val (.int (1 : Int32)), .val (.ref wMAX), .val (.int (3 : Int32)), uu, uu, uu, uu, uu, uu, uu, uu, uu, uu, uu, uu, uu, uu, uu] [])) _
    refine XS.iloadN X50.here hx rfl (hb hby at_55) rfl ?_
    show Steps p.tables e below (T50.setTop (mkF m 56 #[.val (.int p1), .val (.int p2), .val (.int p3), .val (.int p4), .val (.int p5), .val (.int (1 : Int32)), .val (.ref wMAX), .val (.int (3 : Int32)), uu, uu, uu, uu, uu, uu, uu, uu, uu, uu, uu, uu, uu, uu, uu] [(.int p3)])) _
    refine X50.ldcInt hx hown (mvT hZ (hw _ (List.mem_of_getElem? (i := 4) rfl))) (g := (mkF m 56 #[.val (.int p1), .val (.int p2), .val (.int p3), .val (.int p4), .val (.int p5), .val (.int (1 : Int32)), .val (.ref wMAX), .val (.int (3 : Int32)), uu, uu, uu, uu, uu, uu, uu, uu, uu, uu, uu, uu, uu, uu, uu] [(.int p3)])) rfl (hb hby at_56) _ ?_
    show Steps p.tables e below (T50.setTop (mkF m 58 #[.val (.int p1), .val (.int p2), .val (.int p3), .val (.int p4), .val (.int p5), .val (.int (1 : Int32)), .val (.ref wMAX), .val (.int (3 : Int32)), uu, uu, uu, uu, uu, uu, uu, uu, uu, uu, uu, uu, uu, uu, uu] [(.int (1048575 : Int32)), (.int p3)])) _
    refine XS.iand X50.here hx rfl (hb hby at_58) rfl ?_
    show Steps p.tables e below (T50.setTop (mkF m 59 #[.val (.int p1), .val (.int p2), .val (.int p3), .val (.int p4), .val (.int p5), .val (.int (1 : Int32)), .val (.ref wMAX), .val (.int (3 : Int32)), uu, uu, uu, uu, uu, uu, uu, uu, uu, uu, uu, uu, uu, uu, uu] [(.int (p3 &&& (1048575 : Int32)))])) _
    refine XS.i2l X50.here hx rfl (hb hby at_59) rfl ?_
    show Steps p.tables e below (T50.setTop (mkF m 60 #[.val (.int p1), .val (.int p2), .val (.int p3), .val (.int p4), .val (.int p5), .val (.int (1 : Int32)), .val (.ref wMAX), .val (.int (3 : Int32)), uu, uu, uu, uu, uu, uu, uu, uu, uu, uu, uu, uu, uu, uu, uu] [(.long ((p3 &&& (1048575 : Int32)).toInt64))])) _
    rw [← hx0]
    show Steps p.tables e below (T50.setTop (mkF m 60 #[.val (.int p1), .val (.int p2), .val (.int p3), .val (.int p4), .val (.int p5), .val (.int (1 : Int32)), .val (.ref wMAX), .val (.int (3 : Int32)), uu, uu, uu, uu, uu, uu, uu, uu, uu, uu, uu, uu, uu, uu, uu] [(.long x0)])) _
    refine XS.lstore X50.here hx rfl (hb hby at_60) rfl (l' := #[.val (.int p1), .val (.int p2), .val (.int p3), .val (.int p4), .val (.int p5), .val (.int (1 : Int32)), .val (.ref wMAX), .val (.int (3 : Int32)), .val (.long x0), .second, uu, uu, uu, uu, uu, uu, uu, uu, uu, uu, uu, uu, uu]) rfl ?_
    show Steps p.tables e below (T50.setTop (mkF m 62 #[.val (.int p1), .val (.int p2), .val (.int p3), .val (.int p4), .val (.int p5), .val (.int (1 : Int32)), .val (.ref wMAX), .val (.int (3 : Int32)), .val (.long x0), .second, uu, uu, uu, uu, uu, uu, uu, uu, uu, uu, uu, uu, uu] [])) _
    refine XS.lload X50.here hx rfl (hb hby at_62) rfl ?_
    show Steps p.tables e below (T50.setTop (mkF m 64 #[.val (.int p1), .val (.int p2), .val (.int p3), .val (.int p4), .val (.int p5), .val (.int (1 : Int32)), .val (.ref wMAX), .val (.int (3 : Int32)), .val (.long x0), .second, uu, uu, uu, uu, uu, uu, uu, uu, uu, uu, uu, uu, uu] [(.long x0)])) _
    refine XS.iloadN X50.here hx rfl (hb hby at_64) rfl ?_
    show Steps p.tables e below (T50.setTop (mkF m 65 #[.val (.int p1), .val (.int p2), .val (.int p3), .val (.int p4), .val (.int p5), .val (.int (1 : Int32)), .val (.ref wMAX), .val (.int (3 : Int32)), .val (.long x0), .second, uu, uu, uu, uu, uu, uu, uu, uu, uu, uu, uu, uu, uu] [(.int p4), (.long x0)])) _
    refine X50.ldcInt hx hown (mvT hZ (hw _ (List.mem_of_getElem? (i := 4) rfl))) (g := (mkF m 65 #[.val (.int p1), .val (.int p2), .val (.int p3), .val (.int p4), .val (.int p5), .val (.int (1 : Int32)), .val (.ref wMAX), .val (.int (3 : Int32)), .val (.long x0), .second, uu, uu, uu, uu, uu, uu, uu, uu, uu, uu, uu, uu, uu] [(.int p4), (.long x0)])) rfl (hb hby at_65) _ ?_
    show Steps p.tables e below (T50.setTop (mkF m 67 #[.val (.int p1), .val (.int p2), .val (.int p3), .val (.int p4), .val (.int p5), .val (.int (1 : Int32)), .val (.ref wMAX), .val (.int (3 : Int32)), .val (.long x0), .second, uu, uu, uu, uu, uu, uu, uu, uu, uu, uu, uu, uu, uu] [(.int (1048575 : Int32)), (.int p4), (.long x0)])) _
    refine XS.iand X50.here hx rfl (hb hby at_67) rfl ?_
    show Steps p.tables e below (T50.setTop (mkF m 68 #[.val (.int p1), .val (.int p2), .val (.int p3), .val (.int p4), .val (.int p5), .val (.int (1 : Int32)), .val (.ref wMAX), .val (.int (3 : Int32)), .val (.long x0), .second, uu, uu, uu, uu, uu, uu, uu, uu, uu, uu, uu, uu, uu] [(.int (p4 &&& (1048575 : Int32))), (.long x0)])) _
    refine XS.i2l X50.here hx rfl (hb hby at_68) rfl ?_
    show Steps p.tables e below (T50.setTop (mkF m 69 #[.val (.int p1), .val (.int p2), .val (.int p3), .val (.int p4), .val (.int p5), .val (.int (1 : Int32)), .val (.ref wMAX), .val (.int (3 : Int32)), .val (.long x0), .second, uu, uu, uu, uu, uu, uu, uu, uu, uu, uu, uu, uu, uu] [(.long ((p4 &&& (1048575 : Int32)).toInt64)), (.long x0)])) _
    rw [← hy1]
    show Steps p.tables e below (T50.setTop (mkF m 69 #[.val (.int p1), .val (.int p2), .val (.int p3), .val (.int p4), .val (.int p5), .val (.int (1 : Int32)), .val (.ref wMAX), .val (.int (3 : Int32)), .val (.long x0), .second, uu, uu, uu, uu, uu, uu, uu, uu, uu, uu, uu, uu, uu] [(.long y1), (.long x0)])) _
    refine XS.ladd X50.here hx rfl (hb hby at_69) rfl ?_
    show Steps p.tables e below (T50.setTop (mkF m 70 #[.val (.int p1), .val (.int p2), .val (.int p3), .val (.int p4), .val (.int p5), .val (.int (1 : Int32)), .val (.ref wMAX), .val (.int (3 : Int32)), .val (.long x0), .second, uu, uu, uu, uu, uu, uu, uu, uu, uu, uu, uu, uu, uu] [(.long (x0 + y1))])) _
    refine XS.lstore X50.here hx rfl (hb hby at_70) rfl (l' := #[.val (.int p1), .val (.int p2), .val (.int p3), .val (.int p4), .val (.int p5), .val (.int (1 : Int32)), .val (.ref wMAX), .val (.int (3 : Int32)), .val (.long x0), .second, .val (.long (x0 + y1)), .second, uu, uu, uu, uu, uu, uu, uu, uu, uu, uu, uu]) rfl ?_
    show Steps p.tables e below (T50.setTop (mkF m 72 #[.val (.int p1), .val (.int p2), .val (.int p3), .val (.int p4), .val (.int p5), .val (.int (1 : Int32)), .val (.ref wMAX), .val (.int (3 : Int32)), .val (.long x0), .second, .val (.long (x0 + y1)), .second, uu, uu, uu, uu, uu, uu, uu, uu, uu, uu, uu] [])) _
    refine XS.lload X50.here hx rfl (hb hby at_72) rfl ?_
    show Steps p.tables e below (T50.setTop (mkF m 74 #[.val (.int p1), .val (.int p2), .val (.int p3), .val (.int p4), .val (.int p5), .val (.int (1 : Int32)), .val (.ref wMAX), .val (.int (3 : Int32)), .val (.long x0), .second, .val (.long (x0 + y1)), .second, uu, uu, uu, uu, uu, uu, uu, uu, uu, uu, uu] [(.long (x0 + y1))])) _
    refine XS.iload X50.here hx rfl (hb hby at_74) rfl ?_
    show Steps p.tables e below (T50.setTop (mkF m 76 #[.val (.int p1), .val (.int p2), .val (.int p3), .val (.int p4), .val (.int p5), .val (.int (1 : Int32)), .val (.ref wMAX), .val (.int (3 : Int32)), .val (.long x0), .second, .val (.long (x0 + y1)), .second, uu, uu, uu, uu, uu, uu, uu, uu, uu, uu, uu] [(.int p5), (.long (x0 + y1))])) _
    refine X50.ldcInt hx hown (mvT hZ (hw _ (List.mem_of_getElem? (i := 4) rfl))) (g := (mkF m 76 #[.val (.int p1), .val (.int p2), .val (.int p3), .val (.int p4), .val (.int p5), .val (.int (1 : Int32)), .val (.ref wMAX), .val (.int (3 : Int32)), .val (.long x0), .second, .val (.long (x0 + y1)), .second, uu, uu, uu, uu, uu, uu, uu, uu, uu, uu, uu] [(.int p5), (.long (x0 + y1))])) rfl (hb hby at_76) _ ?_
    show Steps p.tables e below (T50.setTop (mkF m 78 #[.val (.int p1), .val (.int p2), .val (.int p3), .val (.int p4), .val (.int p5), .val (.int (1 : Int32)), .val (.ref wMAX), .val (.int (3 : Int32)), .val (.long x0), .second, .val (.long (x0 + y1)), .second, uu, uu, uu, uu, uu, uu, uu, uu, uu, uu, uu] [(.int (1048575 : Int32)), (.int p5), (.long (x0 + y1))])) _
    refine XS.iand X50.here hx rfl (hb hby at_78) rfl ?_
    show Steps p.tables e below (T50.setTop (mkF m 79 #[.val (.int p1), .val (.int p2), .val (.int p3), .val (.int p4), .val (.int p5), .val (.int (1 : Int32)), .val (.ref wMAX), .val (.int (3 : Int32)), .val (.long x0), .second, .val (.long (x0 + y1)), .second, uu, uu, uu, uu, uu, uu, uu, uu, uu, uu, uu] [(.int (p5 &&& (1048575 : Int32))), (.long (x0 + y1))])) _
    refine XS.i2l X50.here hx rfl (hb hby at_79) rfl ?_
    show Steps p.tables e below (T50.setTop (mkF m 80 #[.val (.int p1), .val (.int p2), .val (.int p3), .val (.int p4), .val (.int p5), .val (.int (1 : Int32)), .val (.ref wMAX), .val (.int (3 : Int32)), .val (.long x0), .second, .val (.long (x0 + y1)), .second, uu, uu, uu, uu, uu, uu, uu, uu, uu, uu, uu] [(.long ((p5 &&& (1048575 : Int32)).toInt64)), (.long (x0 + y1))])) _
    rw [← hy2]
    show Steps p.tables e below (T50.setTop (mkF m 80 #[.val (.int p1), .val (.int p2), .val (.int p3), .val (.int p4), .val (.int p5), .val (.int (1 : Int32)), .val (.ref wMAX), .val (.int (3 : Int32)), .val (.long x0), .second, .val (.long (x0 + y1)), .second, uu, uu, uu, uu, uu, uu, uu, uu, uu, uu, uu] [(.long y2), (.long (x0 + y1))])) _
    refine XS.ladd X50.here hx rfl (hb hby at_80) rfl ?_
    show Steps p.tables e below (T50.setTop (mkF m 81 #[.val (.int p1), .val (.int p2), .val (.int p3), .val (.int p4), .val (.int p5), .val (.int (1 : Int32)), .val (.ref wMAX), .val (.int (3 : Int32)), .val (.long x0), .second, .val (.long (x0 + y1)), .second, uu, uu, uu, uu, uu, uu, uu, uu, uu, uu, uu] [(.long ((x0 + y1) + y2))])) _
    refine XS.lstore X50.here hx rfl (hb hby at_81) rfl (l' := #[.val (.int p1), .val (.int p2), .val (.int p3), .val (.int p4), .val (.int p5), .val (.int (1 : Int32)), .val (.ref wMAX), .val (.int (3 : Int32)), .val (.long x0), .second, .val (.long (x0 + y1)), .second, .val (.long ((x0 + y1) + y2)), .second, uu, uu, uu, uu, uu, uu, uu, uu, uu]) rfl ?_
    show Steps p.tables e below (T50.setTop (mkF m 83 #[.val (.int p1), .val (.int p2), .val (.int p3), .val (.int p4), .val (.int p5), .val (.int (1 : Int32)), .val (.ref wMAX), .val (.int (3 : Int32)), .val (.long x0), .second, .val (.long (x0 + y1)), .second, .val (.long ((x0 + y1) + y2)), .second, uu, uu, uu, uu, uu, uu, uu, uu, uu] [])) _
    refine XS.iload X50.here hx rfl (hb hby at_83) rfl ?_
    show Steps p.tables e below (T50.setTop (mkF m 85 #[.val (.int p1), .val (.int p2), .val (.int p3), .val (.int p4), .val (.int p5), .val (.int (1 : Int32)), .val (.ref wMAX), .val (.int (3 : Int32)), .val (.long x0), .second, .val (.long (x0 + y1)), .second, .val (.long ((x0 + y1) + y2)), .second, uu, uu, uu, uu, uu, uu, uu, uu, uu] [(.int (3 : Int32))])) _
    refine XS.iconst X50.here hx rfl (hb hby at_85) ?_
    show Steps p.tables e below (T50.setTop (mkF m 86 #[.val (.int p1), .val (.int p2), .val (.int p3), .val (.int p4), .val (.int p5), .val (.int (1 : Int32)), .val (.ref wMAX), .val (.int (3 : Int32)), .val (.long x0), .second, .val (.long (x0 + y1)), .second, .val (.long ((x0 + y1) + y2)), .second, uu, uu, uu, uu, uu, uu, uu, uu, uu] [(.int (1 : Int32)), (.int (3 : Int32))])) _
    refine XS.icmpYes X50.here hx rfl (pc0 := 86) (pc' := 103) rfl (hb hby at_86) rfl (feq (by decide : ¬ ((3 : Int32) = (1 : Int32)))).2 (by decide) (by decide) ?_
    show Steps p.tables e below (T50.setTop (mkF m 103 #[.val (.int p1), .val (.int p2), .val (.int p3), .val (.int p4), .val (.int p5), .val (.int (1 : Int32)), .val (.ref wMAX), .val (.int (3 : Int32)), .val (.long x0), .second, .val (.long (x0 + y1)), .second, .val (.long ((x0 + y1) + y2)), .second, uu, uu, uu, uu, uu, uu, uu, uu, uu] [])) _
    refine XS.iload X50.here hx rfl (hb hby at_103) rfl ?_
    show Steps p.tables e below (T50.setTop (mkF m 105 #[.val (.int p1), .val (.int p2), .val (.int p3), .val (.int p4), .val (.int p5), .val (.int (1 : Int32)), .val (.ref wMAX), .val (.int (3 : Int32)), .val (.long x0), .second, .val (.long (x0 + y1)), .second, .val (.long ((x0 + y1) + y2)), .second, uu, uu, uu, uu, uu, uu, uu, uu, uu] [(.int (3 : Int32))])) _
    refine XS.iconst X50.here hx rfl (hb hby at_105) ?_
    show Steps p.tables e below (T50.setTop (mkF m 106 #[.val (.int p1), .val (.int p2), .val (.int p3), .val (.int p4), .val (.int p5), .val (.int (1 : Int32)), .val (.ref wMAX), .val (.int (3 : Int32)), .val (.long x0), .second, .val (.long (x0 + y1)), .second, .val (.long ((x0 + y1) + y2)), .second, uu, uu, uu, uu, uu, uu, uu, uu, uu] [(.int (2 : Int32)), (.int (3 : Int32))])) _
    refine XS.icmpYes X50.here hx rfl (pc0 := 106) (pc' := 129) rfl (hb hby at_106) rfl (feq (by decide : ¬ ((3 : Int32) = (2 : Int32)))).2 (by decide) (by decide) ?_
    show Steps p.tables e below (T50.setTop (mkF m 129 #[.val (.int p1), .val (.int p2), .val (.int p3), .val (.int p4), .val (.int p5), .val (.int (1 : Int32)), .val (.ref wMAX), .val (.int (3 : Int32)), .val (.long x0), .second, .val (.long (x0 + y1)), .second, .val (.long ((x0 + y1) + y2)), .second, uu, uu, uu, uu, uu, uu, uu, uu, uu] [])) _
    refine XS.iconst X50.here hx rfl (hb hby at_129) ?_
    show Steps p.tables e below (T50.setTop (mkF m 130 #[.val (.int p1), .val (.int p2), .val (.int p3), .val (.int p4), .val (.int p5), .val (.int (1 : Int32)), .val (.ref wMAX), .val (.int (3 : Int32)), .val (.long x0), .second, .val (.long (x0 + y1)), .second, .val (.long ((x0 + y1) + y2)), .second, uu, uu, uu, uu, uu, uu, uu, uu, uu] [(.int (3 : Int32))])) _
    refine sta_ _ ?_
    show Steps p.tables e below (Ta.setTop (mkF m 132 #[.val (.int p1), .val (.int p2), .val (.int p3), .val (.int p4), .val (.int p5), .val (.int (1 : Int32)), .val (.ref wMAX), .val (.int (3 : Int32)), .val (.long x0), .second, .val (.long (x0 + y1)), .second, .val (.long ((x0 + y1) + y2)), .second, uu, uu, uu, uu, uu, uu, uu, uu, uu] [(.ref b)])) _
    refine XS.dup Xa.here hx rfl (hb hby at_132) rfl rfl ?_
    show Steps p.tables e below (Ta.setTop (mkF m 133 #[.val (.int p1), .val (.int p2), .val (.int p3), .val (.int p4), .val (.int p5), .val (.int (1 : Int32)), .val (.ref wMAX), .val (.int (3 : Int32)), .val (.long x0), .second, .val (.long (x0 + y1)), .second, .val (.long ((x0 + y1) + y2)), .second, uu, uu, uu, uu, uu, uu, uu, uu, uu] [(.ref b), (.ref b)])) _
    refine XS.iconst Xa.here hx rfl (hb hby at_133) ?_
    show Steps p.tables e below (Ta.setTop (mkF m 134 #[.val (.int p1), .val (.int p2), .val (.int p3), .val (.int p4), .val (.int p5), .val (.int (1 : Int32)), .val (.ref wMAX), .val (.int (3 : Int32)), .val (.long x0), .second, .val (.long (x0 + y1)), .second, .val (.long ((x0 + y1) + y2)), .second, uu, uu, uu, uu, uu, uu, uu, uu, uu] [(.int (0 : Int32)), (.ref b), (.ref b)])) _
    refine XS.lload Xa.here hx rfl (hb hby at_134) rfl ?_
    show Steps p.tables e below (Ta.setTop (mkF m 136 #[.val (.int p1), .val (.int p2), .val (.int p3), .val (.int p4), .val (.int p5), .val (.int (1 : Int32)), .val (.ref wMAX), .val (.int (3 : Int32)), .val (.long x0), .second, .val (.long (x0 + y1)), .second, .val (.long ((x0 + y1) + y2)), .second, uu, uu, uu, uu, uu, uu, uu, uu, uu] [(.long x0), (.int (0 : Int32)), (.ref b), (.ref b)])) _
    refine XS.l2dS Xa.here hx rfl (hb hby at_136) rfl (v := FP.l2d x0) rfl ?_
    show Steps p.tables e below (Ta.setTop (mkF m 137 #[.val (.int p1), .val (.int p2), .val (.int p3), .val (.int p4), .val (.int p5), .val (.int (1 : Int32)), .val (.ref wMAX), .val (.int (3 : Int32)), .val (.long x0), .second, .val (.long (x0 + y1)), .second, .val (.long ((x0 + y1) + y2)), .second, uu, uu, uu, uu, uu, uu, uu, uu, uu] [(.double (FP.l2d x0)), (.int (0 : Int32)), (.ref b), (.ref b)])) _
    refine std0 _ ?_
    show Steps p.tables e below (Td0.setTop (mkF m 138 #[.val (.int p1), .val (.int p2), .val (.int p3), .val (.int p4), .val (.int p5), .val (.int (1 : Int32)), .val (.ref wMAX), .val (.int (3 : Int32)), .val (.long x0), .second, .val (.long (x0 + y1)), .second, .val (.long ((x0 + y1) + y2)), .second, uu, uu, uu, uu, uu, uu, uu, uu, uu] [(.ref b)])) _
    refine XS.dup Xd0.here hx rfl (hb hby at_138) rfl rfl ?_
    show Steps p.tables e below (Td0.setTop (mkF m 139 #[.val (.int p1), .val (.int p2), .val (.int p3), .val (.int p4), .val (.int p5), .val (.int (1 : Int32)), .val (.ref wMAX), .val (.int (3 : Int32)), .val (.long x0), .second, .val (.long (x0 + y1)), .second, .val (.long ((x0 + y1) + y2)), .second, uu, uu, uu, uu, uu, uu, uu, uu, uu] [(.ref b), (.ref b)])) _
    refine XS.iconst Xd0.here hx rfl (hb hby at_139) ?_
    show Steps p.tables e below (Td0.setTop (mkF m 140 #[.val (.int p1), .val (.int p2), .val (.int p3), .val (.int p4), .val (.int p5), .val (.int (1 : Int32)), .val (.ref wMAX), .val (.int (3 : Int32)), .val (.long x0), .second, .val (.long (x0 + y1)), .second, .val (.long ((x0 + y1) + y2)), .second, uu, uu, uu, uu, uu, uu, uu, uu, uu] [(.int (1 : Int32)), (.ref b), (.ref b)])) _
    refine XS.lload Xd0.here hx rfl (hb hby at_140) rfl ?_
    show Steps p.tables e below (Td0.setTop (mkF m 142 #[.val (.int p1), .val (.int p2), .val (.int p3), .val (.int p4), .val (.int p5), .val (.int (1 : Int32)), .val (.ref wMAX), .val (.int (3 : Int32)), .val (.long x0), .second, .val (.long (x0 + y1)), .second, .val (.long ((x0 + y1) + y2)), .second, uu, uu, uu, uu, uu, uu, uu, uu, uu] [(.long (x0 + y1)), (.int (1 : Int32)), (.ref b), (.ref b)])) _
    refine XS.l2dS Xd0.here hx rfl (hb hby at_142) rfl (v := FP.l2d (x0 + y1)) rfl ?_
    show Steps p.tables e below (Td0.setTop (mkF m 143 #[.val (.int p1), .val (.int p2), .val (.int p3), .val (.int p4), .val (.int p5), .val (.int (1 : Int32)), .val (.ref wMAX), .val (.int (3 : Int32)), .val (.long x0), .second, .val (.long (x0 + y1)), .second, .val (.long ((x0 + y1) + y2)), .second, uu, uu, uu, uu, uu, uu, uu, uu, uu] [(.double (FP.l2d (x0 + y1))), (.int (1 : Int32)), (.ref b), (.ref b)])) _
    refine std1 _ ?_
    show Steps p.tables e below (Td1.setTop (mkF m 144 #[.val (.int p1), .val (.int p2), .val (.int p3), .val (.int p4), .val (.int p5), .val (.int (1 : Int32)), .val (.ref wMAX), .val (.int (3 : Int32)), .val (.long x0), .second, .val (.long (x0 + y1)), .second, .val (.long ((x0 + y1) + y2)), .second, uu, uu, uu, uu, uu, uu, uu, uu, uu] [(.ref b)])) _
    refine XS.dup Xd1.here hx rfl (hb hby at_144) rfl rfl ?_
    show Steps p.tables e below (Td1.setTop (mkF m 145 #[.val (.int p1), .val (.int p2), .val (.int p3), .val (.int p4), .val (.int p5), .val (.int (1 : Int32)), .val (.ref wMAX), .val (.int (3 : Int32)), .val (.long x0), .second, .val (.long (x0 + y1)), .second, .val (.long ((x0 + y1) + y2)), .second, uu, uu, uu, uu, uu, uu, uu, uu, uu] [(.ref b), (.ref b)])) _
    refine XS.iconst Xd1.here hx rfl (hb hby at_145) ?_
    show Steps p.tables e below (Td1.setTop (mkF m 146 #[.val (.int p1), .val (.int p2), .val (.int p3), .val (.int p4), .val (.int p5), .val (.int (1 : Int32)), .val (.ref wMAX), .val (.int (3 : Int32)), .val (.long x0), .second, .val (.long (x0 + y1)), .second, .val (.long ((x0 + y1) + y2)), .second, uu, uu, uu, uu, uu, uu, uu, uu, uu] [(.int (2 : Int32)), (.ref b), (.ref b)])) _
    refine XS.lload Xd1.here hx rfl (hb hby at_146) rfl ?_
    show Steps p.tables e below (Td1.setTop (mkF m 148 #[.val (.int p1), .val (.int p2), .val (.int p3), .val (.int p4), .val (.int p5), .val (.int (1 : Int32)), .val (.ref wMAX), .val (.int (3 : Int32)), .val (.long x0), .second, .val (.long (x0 + y1)), .second, .val (.long ((x0 + y1) + y2)), .second, uu, uu, uu, uu, uu, uu, uu, uu, uu] [(.long ((x0 + y1) + y2)), (.int (2 : Int32)), (.ref b), (.ref b)])) _
    refine XS.l2dS Xd1.here hx rfl (hb hby at_148) rfl (v := FP.l2d ((x0 + y1) + y2)) rfl ?_
    show Steps p.tables e below (Td1.setTop (mkF m 149 #[.val (.int p1), .val (.int p2), .val (.int p3), .val (.int p4), .val (.int p5), .val (.int (1 : Int32)), .val (.ref wMAX), .val (.int (3 : Int32)), .val (.long x0), .second, .val (.long (x0 + y1)), .second, .val (.long ((x0 + y1) + y2)), .second, uu, uu, uu, uu, uu, uu, uu, uu, uu] [(.double (FP.l2d ((x0 + y1) + y2))), (.int (2 : Int32)), (.ref b), (.ref b)])) _
    refine std2 _ ?_
    show Steps p.tables e below (Td2.setTop (mkF m 150 #[.val (.int p1), .val (.int p2), .val (.int p3), .val (.int p4), .val (.int p5), .val (.int (1 : Int32)), .val (.ref wMAX), .val (.int (3 : Int32)), .val (.long x0), .second, .val (.long (x0 + y1)), .second, .val (.long ((x0 + y1) + y2)), .second, uu, uu, uu, uu, uu, uu, uu, uu, uu] [(.ref b)])) _
    refine XS.astore Xd2.here hx rfl (hb hby at_150) rfl rfl (l' := #[.val (.int p1), .val (.int p2), .val (.int p3), .val (.int p4), .val (.int p5), .val (.int (1 : Int32)), .val (.ref wMAX), .val (.int (3 : Int32)), .val (.long x0), .second, .val (.long (x0 + y1)), .second, .val (.long ((x0 + y1) + y2)), .second, .val (.ref b), uu, uu, uu, uu, uu, uu, uu, uu]) rfl ?_
    show Steps p.tables e below (Td2.setTop (mkF m 152 #[.val (.int p1), .val (.int p2), .val (.int p3), .val (.int p4), .val (.int p5), .val (.int (1 : Int32)), .val (.ref wMAX), .val (.int (3 : Int32)), .val (.long x0), .second, .val (.long (x0 + y1)), .second, .val (.long ((x0 + y1) + y2)), .second, .val (.ref b), uu, uu, uu, uu, uu, uu, uu, uu] [])) _
    refine XS.iload Xd2.here hx rfl (hb hby at_152) rfl ?_
    show Steps p.tables e below (Td2.setTop (mkF m 154 #[.val (.int p1), .val (.int p2), .val (.int p3), .val (.int p4), .val (.int p5), .val (.int (1 : Int32)), .val (.ref wMAX), .val (.int (3 : Int32)), .val (.long x0), .second, .val (.long (x0 + y1)), .second, .val (.long ((x0 + y1) + y2)), .second, .val (.ref b), uu, uu, uu, uu, uu, uu, uu, uu] [(.int (3 : Int32))])) _
    refine XS.iconst Xd2.here hx rfl (hb hby at_154) ?_
    show Steps p.tables e below (Td2.setTop (mkF m 155 #[.val (.int p1), .val (.int p2), .val (.int p3), .val (.int p4), .val (.int p5), .val (.int (1 : Int32)), .val (.ref wMAX), .val (.int (3 : Int32)), .val (.long x0), .second, .val (.long (x0 + y1)), .second, .val (.long ((x0 + y1) + y2)), .second, .val (.ref b), uu, uu, uu, uu, uu, uu, uu, uu] [(.int (1 : Int32)), (.int (3 : Int32))])) _
    refine XS.icmpYes Xd2.here hx rfl (pc0 := 155) (pc' := 163) rfl (hb hby at_155) rfl (feq (by decide : ¬ ((3 : Int32) = (1 : Int32)))).2 (by decide) (by decide) ?_
    show Steps p.tables e below (Td2.setTop (mkF m 163 #[.val (.int p1), .val (.int p2), .val (.int p3), .val (.int p4), .val (.int p5), .val (.int (1 : Int32)), .val (.ref wMAX), .val (.int (3 : Int32)), .val (.long x0), .second, .val (.long (x0 + y1)), .second, .val (.long ((x0 + y1) + y2)), .second, .val (.ref b), uu, uu, uu, uu, uu, uu, uu, uu] [])) _
    refine XS.iload Xd2.here hx rfl (hb hby at_163) rfl ?_
    show Steps p.tables e below (Td2.setTop (mkF m 165 #[.val (.int p1), .val (.int p2), .val (.int p3), .val (.int p4), .val (.int p5), .val (.int (1 : Int32)), .val (.ref wMAX), .val (.int (3 : Int32)), .val (.long x0), .second, .val (.long (x0 + y1)), .second, .val (.long ((x0 + y1) + y2)), .second, .val (.ref b), uu, uu, uu, uu, uu, uu, uu, uu] [(.int (3 : Int32))])) _
    refine XS.iconst Xd2.here hx rfl (hb hby at_165) ?_
    show Steps p.tables e below (Td2.setTop (mkF m 166 #[.val (.int p1), .val (.int p2), .val (.int p3), .val (.int p4), .val (.int p5), .val (.int (1 : Int32)), .val (.ref wMAX), .val (.int (3 : Int32)), .val (.long x0), .second, .val (.long (x0 + y1)), .second, .val (.long ((x0 + y1) + y2)), .second, .val (.ref b), uu, uu, uu, uu, uu, uu, uu, uu] [(.int (2 : Int32)), (.int (3 : Int32))])) _
    refine XS.icmpYes Xd2.here hx rfl (pc0 := 166) (pc' := 174) rfl (hb hby at_166) rfl (feq (by decide : ¬ ((3 : Int32) = (2 : Int32)))).2 (by decide) (by decide) ?_
    show Steps p.tables e below (Td2.setTop (mkF m 174 #[.val (.int p1), .val (.int p2), .val (.int p3), .val (.int p4), .val (.int p5), .val (.int (1 : Int32)), .val (.ref wMAX), .val (.int (3 : Int32)), .val (.long x0), .second, .val (.long (x0 + y1)), .second, .val (.long ((x0 + y1) + y2)), .second, .val (.ref b), uu, uu, uu, uu, uu, uu, uu, uu] [])) _
    refine XS.lload Xd2.here hx rfl (hb hby at_174) rfl ?_
    show Steps p.tables e below (Td2.setTop (mkF m 176 #[.val (.int p1), .val (.int p2), .val (.int p3), .val (.int p4), .val (.int p5), .val (.int (1 : Int32)), .val (.ref wMAX), .val (.int (3 : Int32)), .val (.long x0), .second, .val (.long (x0 + y1)), .second, .val (.long ((x0 + y1) + y2)), .second, .val (.ref b), uu, uu, uu, uu, uu, uu, uu, uu] [(.long ((x0 + y1) + y2))])) _
    refine XS.lstore Xd2.here hx rfl (hb hby at_176) rfl (l' := #[.val (.int p1), .val (.int p2), .val (.int p3), .val (.int p4), .val (.int p5), .val (.int (1 : Int32)), .val (.ref wMAX), .val (.int (3 : Int32)), .val (.long x0), .second, .val (.long (x0 + y1)), .second, .val (.long ((x0 + y1) + y2)), .second, .val (.ref b), .val (.long ((x0 + y1) + y2)), .second, uu, uu, uu, uu, uu, uu]) rfl ?_
    show Steps p.tables e below (Td2.setTop (mkF m 178 #[.val (.int p1), .val (.int p2), .val (.int p3), .val (.int p4), .val (.int p5), .val (.int (1 : Int32)), .val (.ref wMAX), .val (.int (3 : Int32)), .val (.long x0), .second, .val (.long (x0 + y1)), .second, .val (.long ((x0 + y1) + y2)), .second, .val (.ref b), .val (.long ((x0 + y1) + y2)), .second, uu, uu, uu, uu, uu, uu] [])) _
    refine XS.iload Xd2.here hx rfl (hb hby at_178) rfl ?_
    show Steps p.tables e below (Td2.setTop (mkF m 180 #[.val (.int p1), .val (.int p2), .val (.int p3), .val (.int p4), .val (.int p5), .val (.int (1 : Int32)), .val (.ref wMAX), .val (.int (3 : Int32)), .val (.long x0), .second, .val (.long (x0 + y1)), .second, .val (.long ((x0 + y1) + y2)), .second, .val (.ref b), .val (.long ((x0 + y1) + y2)), .second, uu, uu, uu, uu, uu, uu] [(.int (3 : Int32))])) _
    refine XS.iconst Xd2.here hx rfl (hb hby at_180) ?_
    show Steps p.tables e below (Td2.setTop (mkF m 181 #[.val (.int p1), .val (.int p2), .val (.int p3), .val (.int p4), .val (.int p5), .val (.int (1 : Int32)), .val (.ref wMAX), .val (.int (3 : Int32)), .val (.long x0), .second, .val (.long (x0 + y1)), .second, .val (.long ((x0 + y1) + y2)), .second, .val (.ref b), .val (.long ((x0 + y1) + y2)), .second, uu, uu, uu, uu, uu, uu] [(.int (1 : Int32)), (.int (3 : Int32))])) _
    refine XS.icmpYes Xd2.here hx rfl (pc0 := 181) (pc' := 189) rfl (hb hby at_181) rfl (feq (by decide : ¬ ((3 : Int32) = (1 : Int32)))).2 (by decide) (by decide) ?_
    show Steps p.tables e below (Td2.setTop (mkF m 189 #[.val (.int p1), .val (.int p2), .val (.int p3), .val (.int p4), .val (.int p5), .val (.int (1 : Int32)), .val (.ref wMAX), .val (.int (3 : Int32)), .val (.long x0), .second, .val (.long (x0 + y1)), .second, .val (.long ((x0 + y1) + y2)), .second, .val (.ref b), .val (.long ((x0 + y1) + y2)), .second, uu, uu, uu, uu, uu, uu] [])) _
    refine XS.iload Xd2.here hx rfl (hb hby at_189) rfl ?_
    show Steps p.tables e below (Td2.setTop (mkF m 191 #[.val (.int p1), .val (.int p2), .val (.int p3), .val (.int p4), .val (.int p5), .val (.int (1 : Int32)), .val (.ref wMAX), .val (.int (3 : Int32)), .val (.long x0), .second, .val (.long (x0 + y1)), .second, .val (.long ((x0 + y1) + y2)), .second, .val (.ref b), .val (.long ((x0 + y1) + y2)), .second, uu, uu, uu, uu, uu, uu] [(.int (3 : Int32))])) _
    refine XS.iconst Xd2.here hx rfl (hb hby at_191) ?_
    show Steps p.tables e below (Td2.setTop (mkF m 192 #[.val (.int p1), .val (.int p2), .val (.int p3), .val (.int p4), .val (.int p5), .val (.int (1 : Int32)), .val (.ref wMAX), .val (.int (3 : Int32)), .val (.long x0), .second, .val (.long (x0 + y1)), .second, .val (.long ((x0 + y1) + y2)), .second, .val (.ref b), .val (.long ((x0 + y1) + y2)), .second, uu, uu, uu, uu, uu, uu] [(.int (2 : Int32)), (.int (3 : Int32))])) _
    refine XS.icmpYes Xd2.here hx rfl (pc0 := 192) (pc' := 203) rfl (hb hby at_192) rfl (feq (by decide : ¬ ((3 : Int32) = (2 : Int32)))).2 (by decide) (by decide) ?_
    show Steps p.tables e below (Td2.setTop (mkF m 203 #[.val (.int p1), .val (.int p2), .val (.int p3), .val (.int p4), .val (.int p5), .val (.int (1 : Int32)), .val (.ref wMAX), .val (.int (3 : Int32)), .val (.long x0), .second, .val (.long (x0 + y1)), .second, .val (.long ((x0 + y1) + y2)), .second, .val (.ref b), .val (.long ((x0 + y1) + y2)), .second, uu, uu, uu, uu, uu, uu] [])) _
    refine XS.lload Xd2.here hx rfl (hb hby at_203) rfl ?_
    show Steps p.tables e below (Td2.setTop (mkF m 205 #[.val (.int p1), .val (.int p2), .val (.int p3), .val (.int p4), .val (.int p5), .val (.int (1 : Int32)), .val (.ref wMAX), .val (.int (3 : Int32)), .val (.long x0), .second, .val (.long (x0 + y1)), .second, .val (.long ((x0 + y1) + y2)), .second, .val (.ref b), .val (.long ((x0 + y1) + y2)), .second, uu, uu, uu, uu, uu, uu] [(.long x0)])) _
    refine XS.lload Xd2.here hx rfl (hb hby at_205) rfl ?_
    show Steps p.tables e below (Td2.setTop (mkF m 207 #[.val (.int p1), .val (.int p2), .val (.int p3), .val (.int p4), .val (.int p5), .val (.int (1 : Int32)), .val (.ref wMAX), .val (.int (3 : Int32)), .val (.long x0), .second, .val (.long (x0 + y1)), .second, .val (.long ((x0 + y1) + y2)), .second, .val (.ref b), .val (.long ((x0 + y1) + y2)), .second, uu, uu, uu, uu, uu, uu] [(.long (x0 + y1)), (.long x0)])) _
    refine XS.ladd Xd2.here hx rfl (hb hby at_207) rfl ?_
    show Steps p.tables e below (Td2.setTop (mkF m 208 #[.val (.int p1), .val (.int p2), .val (.int p3), .val (.int p4), .val (.int p5), .val (.int (1 : Int32)), .val (.ref wMAX), .val (.int (3 : Int32)), .val (.long x0), .second, .val (.long (x0 + y1)), .second, .val (.long ((x0 + y1) + y2)), .second, .val (.ref b), .val (.long ((x0 + y1) + y2)), .second, uu, uu, uu, uu, uu, uu] [(.long (x0 + (x0 + y1)))])) _
    refine XS.lload Xd2.here hx rfl (hb hby at_208) rfl ?_
    show Steps p.tables e below (Td2.setTop (mkF m 210 #[.val (.int p1), .val (.int p2), .val (.int p3), .val (.int p4), .val (.int p5), .val (.int (1 : Int32)), .val (.ref wMAX), .val (.int (3 : Int32)), .val (.long x0), .second, .val (.long (x0 + y1)), .second, .val (.long ((x0 + y1) + y2)), .second, .val (.ref b), .val (.long ((x0 + y1) + y2)), .second, uu, uu, uu, uu, uu, uu] [(.long ((x0 + y1) + y2)), (.long (x0 + (x0 + y1)))])) _
    refine XS.ladd Xd2.here hx rfl (hb hby at_210) rfl ?_
    show Steps p.tables e below (Td2.setTop (mkF m 211 #[.val (.int p1), .val (.int p2), .val (.int p3), .val (.int p4), .val (.int p5), .val (.int (1 : Int32)), .val (.ref wMAX), .val (.int (3 : Int32)), .val (.long x0), .second, .val (.long (x0 + y1)), .second, .val (.long ((x0 + y1) + y2)), .second, .val (.ref b), .val (.long ((x0 + y1) + y2)), .second, uu, uu, uu, uu, uu, uu] [(.long ((x0 + (x0 + y1)) + ((x0 + y1) + y2)))])) _
    refine XS.lstore Xd2.here hx rfl (hb hby at_211) rfl (l' := #[.val (.int p1), .val (.int p2), .val (.int p3), .val (.int p4), .val (.int p5), .val (.int (1 : Int32)), .val (.ref wMAX), .val (.int (3 : Int32)), .val (.long x0), .second, .val (.long (x0 + y1)), .second, .val (.long ((x0 + y1) + y2)), .second, .val (.ref b), .val (.long ((x0 + y1) + y2)), .second, .val (.long ((x0 + (x0 + y1)) + ((x0 + y1) + y2))), .second, uu, uu, uu, uu]) rfl ?_
    show Steps p.tables e below (Td2.setTop (mkF m 213 #[.val (.int p1), .val (.int p2), .val (.int p3), .val (.int p4), .val (.int p5), .val (.int (1 : Int32)), .val (.ref wMAX), .val (.int (3 : Int32)), .val (.long x0), .second, .val (.long (x0 + y1)), .second, .val (.long ((x0 + y1) + y2)), .second, .val (.ref b), .val (.long ((x0 + y1) + y2)), .second, .val (.long ((x0 + (x0 + y1)) + ((x0 + y1) + y2))), .second, uu, uu, uu, uu] [])) _
    refine XS.iload Xd2.here hx rfl (hb hby at_213) rfl ?_
    show Steps p.tables e below (Td2.setTop (mkF m 215 #[.val (.int p1), .val (.int p2), .val (.int p3), .val (.int p4), .val (.int p5), .val (.int (1 : Int32)), .val (.ref wMAX), .val (.int (3 : Int32)), .val (.long x0), .second, .val (.long (x0 + y1)), .second, .val (.long ((x0 + y1) + y2)), .second, .val (.ref b), .val (.long ((x0 + y1) + y2)), .second, .val (.long ((x0 + (x0 + y1)) + ((x0 + y1) + y2))), .second, uu, uu, uu, uu] [(.int (1 : Int32))])) _
    refine XS.ifYes Xd2.here hx rfl (pc0 := 215) (pc' := 226) rfl (hb hby at_215) rfl ((if0 _ _).trans (feq (by decide : ¬ ((1 : Int32) = (0 : Int32)))).2) (by decide) (by decide) ?_
    show Steps p.tables e below (Td2.setTop (mkF m 226 #[.val (.int p1), .val (.int p2), .val (.int p3), .val (.int p4), .val (.int p5), .val (.int (1 : Int32)), .val (.ref wMAX), .val (.int (3 : Int32)), .val (.long x0), .second, .val (.long (x0 + y1)), .second, .val (.long ((x0 + y1) + y2)), .second, .val (.ref b), .val (.long ((x0 + y1) + y2)), .second, .val (.long ((x0 + (x0 + y1)) + ((x0 + y1) + y2))), .second, uu, uu, uu, uu] [])) _
    refine XS.iload Xd2.here hx rfl (hb hby at_226) rfl ?_
    show Steps p.tables e below (Td2.setTop (mkF m 228 #[.val (.int p1), .val (.int p2), .val (.int p3), .val (.int p4), .val (.int p5), .val (.int (1 : Int32)), .val (.ref wMAX), .val (.int (3 : Int32)), .val (.long x0), .second, .val (.long (x0 + y1)), .second, .val (.long ((x0 + y1) + y2)), .second, .val (.ref b), .val (.long ((x0 + y1) + y2)), .second, .val (.long ((x0 + (x0 + y1)) + ((x0 + y1) + y2))), .second, uu, uu, uu, uu] [(.int (1 : Int32))])) _
    refine XS.iconst Xd2.here hx rfl (hb hby at_228) ?_
    show Steps p.tables e below (Td2.setTop (mkF m 229 #[.val (.int p1), .val (.int p2), .val (.int p3), .val (.int p4), .val (.int p5), .val (.int (1 : Int32)), .val (.ref wMAX), .val (.int (3 : Int32)), .val (.long x0), .second, .val (.long (x0 + y1)), .second, .val (.long ((x0 + y1) + y2)), .second, .val (.ref b), .val (.long ((x0 + y1) + y2)), .second, .val (.long ((x0 + (x0 + y1)) + ((x0 + y1) + y2))), .second, uu, uu, uu, uu] [(.int (1 : Int32)), (.int (1 : Int32))])) _
    refine XS.icmpNo Xd2.here hx rfl (hb hby at_229) rfl (teq (by decide : (1 : Int32) = (1 : Int32))).2 ?_
    show Steps p.tables e below (Td2.setTop (mkF m 232 #[.val (.int p1), .val (.int p2), .val (.int p3), .val (.int p4), .val (.int p5), .val (.int (1 : Int32)), .val (.ref wMAX), .val (.int (3 : Int32)), .val (.long x0), .second, .val (.long (x0 + y1)), .second, .val (.long ((x0 + y1) + y2)), .second, .val (.ref b), .val (.long ((x0 + y1) + y2)), .second, .val (.long ((x0 + (x0 + y1)) + ((x0 + y1) + y2))), .second, uu, uu, uu, uu] [])) _
    refine XS.lload Xd2.here hx rfl (hb hby at_232) rfl ?_
    show Steps p.tables e below (Td2.setTop (mkF m 234 #[.val (.int p1), .val (.int p2), .val (.int p3), .val (.int p4), .val (.int p5), .val (.int (1 : Int32)), .val (.ref wMAX), .val (.int (3 : Int32)), .val (.long x0), .second, .val (.long (x0 + y1)), .second, .val (.long ((x0 + y1) + y2)), .second, .val (.ref b), .val (.long ((x0 + y1) + y2)), .second, .val (.long ((x0 + (x0 + y1)) + ((x0 + y1) + y2))), .second, uu, uu, uu, uu] [(.long ((x0 + y1) + y2))])) _
    refine XS.l2dS Xd2.here hx rfl (hb hby at_234) rfl (v := FP.l2d ((x0 + y1) + y2)) rfl ?_
    show Steps p.tables e below (Td2.setTop (mkF m 235 #[.val (.int p1), .val (.int p2), .val (.int p3), .val (.int p4), .val (.int p5), .val (.int (1 : Int32)), .val (.ref wMAX), .val (.int (3 : Int32)), .val (.long x0), .second, .val (.long (x0 + y1)), .second, .val (.long ((x0 + y1) + y2)), .second, .val (.ref b), .val (.long ((x0 + y1) + y2)), .second, .val (.long ((x0 + (x0 + y1)) + ((x0 + y1) + y2))), .second, uu, uu, uu, uu] [(.double (FP.l2d ((x0 + y1) + y2)))])) _
    refine XS.dstore Xd2.here hx rfl (hb hby at_235) rfl (l' := #[.val (.int p1), .val (.int p2), .val (.int p3), .val (.int p4), .val (.int p5), .val (.int (1 : Int32)), .val (.ref wMAX), .val (.int (3 : Int32)), .val (.long x0), .second, .val (.long (x0 + y1)), .second, .val (.long ((x0 + y1) + y2)), .second, .val (.ref b), .val (.long ((x0 + y1) + y2)), .second, .val (.long ((x0 + (x0 + y1)) + ((x0 + y1) + y2))), .second, .val (.double (FP.l2d ((x0 + y1) + y2))), .second, uu, uu]) rfl ?_
    show Steps p.tables e below (Td2.setTop (mkF m 237 #[.val (.int p1), .val (.int p2), .val (.int p3), .val (.int p4), .val (.int p5), .val (.int (1 : Int32)), .val (.ref wMAX), .val (.int (3 : Int32)), .val (.long x0), .second, .val (.long (x0 + y1)), .second, .val (.long ((x0 + y1) + y2)), .second, .val (.ref b), .val (.long ((x0 + y1) + y2)), .second, .val (.long ((x0 + (x0 + y1)) + ((x0 + y1) + y2))), .second, .val (.double (FP.l2d ((x0 + y1) + y2))), .second, uu, uu] [])) _
    refine XS.goto Xd2.here hx rfl (pc0 := 237) (pc' := 263) rfl (hb hby at_237) (by decide) (by decide) ?_
    show Steps p.tables e below (Td2.setTop (mkF m 263 #[.val (.int p1), .val (.int p2), .val (.int p3), .val (.int p4), .val (.int p5), .val (.int (1 : Int32)), .val (.ref wMAX), .val (.int (3 : Int32)), .val (.long x0), .second, .val (.long (x0 + y1)), .second, .val (.long ((x0 + y1) + y2)), .second, .val (.ref b), .val (.long ((x0 + y1) + y2)), .second, .val (.long ((x0 + (x0 + y1)) + ((x0 + y1) + y2))), .second, .val (.double (FP.l2d ((x0 + y1) + y2))), .second, uu, uu] [])) _
    refine XS.aload Xd2.here hx rfl (hb hby at_263) rfl rfl ?_
    show Steps p.tables e below (Td2.setTop (mkF m 265 #[.val (.int p1), .val (.int p2), .val (.int p3), .val (.int p4), .val (.int p5), .val (.int (1 : Int32)), .val (.ref wMAX), .val (.int (3 : Int32)), .val (.long x0), .second, .val (.long (x0 + y1)), .second, .val (.long ((x0 + y1) + y2)), .second, .val (.ref b), .val (.long ((x0 + y1) + y2)), .second, .val (.long ((x0 + (x0 + y1)) + ((x0 + y1) + y2))), .second, .val (.double (FP.l2d ((x0 + y1) + y2))), .second, uu, uu] [(.ref wMAX)])) _
    refine XS.aload Xd2.here hx rfl (hb hby at_265) rfl rfl ?_
    show Steps p.tables e below (Td2.setTop (mkF m 267 #[.val (.int p1), .val (.int p2), .val (.int p3), .val (.int p4), .val (.int p5), .val (.int (1 : Int32)), .val (.ref wMAX), .val (.int (3 : Int32)), .val (.long x0), .second, .val (.long (x0 + y1)), .second, .val (.long ((x0 + y1) + y2)), .second, .val (.ref b), .val (.long ((x0 + y1) + y2)), .second, .val (.long ((x0 + (x0 + y1)) + ((x0 + y1) + y2))), .second, .val (.double (FP.l2d ((x0 + y1) + y2))), .second, uu, uu] [(.ref b), (.ref wMAX)])) _
    refine stc.trans ?_
    show Steps p.tables e below (Tc.setTop (mkF m 270 #[.val (.int p1), .val (.int p2), .val (.int p3), .val (.int p4), .val (.int p5), .val (.int (1 : Int32)), .val (.ref wMAX), .val (.int (3 : Int32)), .val (.long x0), .second, .val (.long (x0 + y1)), .second, .val (.long ((x0 + y1) + y2)), .second, .val (.ref b), .val (.long ((x0 + y1) + y2)), .second, .val (.long ((x0 + (x0 + y1)) + ((x0 + y1) + y2))), .second, .val (.double (FP.l2d ((x0 + y1) + y2))), .second, uu, uu] [(.double (FP.l2d ((x0 + y1) + y2)))])) _
    refine XS.dstore Xc.here hx rfl (hb hby at_270) rfl (l' := #[.val (.int p1), .val (.int p2), .val (.int p3), .val (.int p4), .val (.int p5), .val (.int (1 : Int32)), .val (.ref wMAX), .val (.int (3 : Int32)), .val (.long x0), .second, .val (.long (x0 + y1)), .second, .val (.long ((x0 + y1) + y2)), .second, .val (.ref b), .val (.long ((x0 + y1) + y2)), .second, .val (.long ((x0 + (x0 + y1)) + ((x0 + y1) + y2))), .second, .val (.double (FP.l2d ((x0 + y1) + y2))), .second, .val (.double (FP.l2d ((x0 + y1) + y2))), .second]) rfl ?_
    show Steps p.tables e below (Tc.setTop (mkF m 272 #[.val (.int p1), .val (.int p2), .val (.int p3), .val (.int p4), .val (.int p5), .val (.int (1 : Int32)), .val (.ref wMAX), .val (.int (3 : Int32)), .val (.long x0), .second, .val (.long (x0 + y1)), .second, .val (.long ((x0 + y1) + y2)), .second, .val (.ref b), .val (.long ((x0 + y1) + y2)), .second, .val (.long ((x0 + (x0 + y1)) + ((x0 + y1) + y2))), .second, .val (.double (FP.l2d ((x0 + y1) + y2))), .second, .val (.double (FP.l2d ((x0 + y1) + y2))), .second] [])) _
    refine XS.dload Xc.here hx rfl (hb hby at_272) rfl ?_
    show Steps p.tables e below (Tc.setTop (mkF m 274 #[.val (.int p1), .val (.int p2), .val (.int p3), .val (.int p4), .val (.int p5), .val (.int (1 : Int32)), .val (.ref wMAX), .val (.int (3 : Int32)), .val (.long x0), .second, .val (.long (x0 + y1)), .second, .val (.long ((x0 + y1) + y2)), .second, .val (.ref b), .val (.long ((x0 + y1) + y2)), .second, .val (.long ((x0 + (x0 + y1)) + ((x0 + y1) + y2))), .second, .val (.double (FP.l2d ((x0 + y1) + y2))), .second, .val (.double (FP.l2d ((x0 + y1) + y2))), .second] [(.double (FP.l2d ((x0 + y1) + y2)))])) _
    refine XS.dload Xc.here hx rfl (hb hby at_274) rfl ?_
    show Steps p.tables e below (Tc.setTop (mkF m 276 #[.val (.int p1), .val (.int p2), .val (.int p3), .val (.int p4), .val (.int p5), .val (.int (1 : Int32)), .val (.ref wMAX), .val (.int (3 : Int32)), .val (.long x0), .second, .val (.long (x0 + y1)), .second, .val (.long ((x0 + y1) + y2)), .second, .val (.ref b), .val (.long ((x0 + y1) + y2)), .second, .val (.long ((x0 + (x0 + y1)) + ((x0 + y1) + y2))), .second, .val (.double (FP.l2d ((x0 + y1) + y2))), .second, .val (.double (FP.l2d ((x0 + y1) + y2))), .second] [(.double (FP.l2d ((x0 + y1) + y2))), (.double (FP.l2d ((x0 + y1) + y2)))])) _
    refine XS.dcmpS Xc.here hx rfl (hb hby at_276) rfl (v := (0 : Int32)) (dcmpV_self (own_l2d _) _) ?_
    show Steps p.tables e below (Tc.setTop (mkF m 277 #[.val (.int p1), .val (.int p2), .val (.int p3), .val (.int p4), .val (.int p5), .val (.int (1 : Int32)), .val (.ref wMAX), .val (.int (3 : Int32)), .val (.long x0), .second, .val (.long (x0 + y1)), .second, .val (.long ((x0 + y1) + y2)), .second, .val (.ref b), .val (.long ((x0 + y1) + y2)), .second, .val (.long ((x0 + (x0 + y1)) + ((x0 + y1) + y2))), .second, .val (.double (FP.l2d ((x0 + y1) + y2))), .second, .val (.double (FP.l2d ((x0 + y1) + y2))), .second] [(.int (0 : Int32))])) _
    refine XS.ifNo Xc.here hx rfl (hb hby at_277) rfl ((if0 _ _).trans (teq (by decide : (0 : Int32) = (0 : Int32))).2) ?_
    show Steps p.tables e below (Tc.setTop (mkF m 280 #[.val (.int p1), .val (.int p2), .val (.int p3), .val (.int p4), .val (.int p5), .val (.int (1 : Int32)), .val (.ref wMAX), .val (.int (3 : Int32)), .val (.long x0), .second, .val (.long (x0 + y1)), .second, .val (.long ((x0 + y1) + y2)), .second, .val (.ref b), .val (.long ((x0 + y1) + y2)), .second, .val (.long ((x0 + (x0 + y1)) + ((x0 + y1) + y2))), .second, .val (.double (FP.l2d ((x0 + y1) + y2))), .second, .val (.double (FP.l2d ((x0 + y1) + y2))), .second] [])) _
    refine XS.iconst Xc.here hx rfl (hb hby at_280) ?_
    show Steps p.tables e below (Tc.setTop (mkF m 281 #[.val (.int p1), .val (.int p2), .val (.int p3), .val (.int p4), .val (.int p5), .val (.int (1 : Int32)), .val (.ref wMAX), .val (.int (3 : Int32)), .val (.long x0), .second, .val (.long (x0 + y1)), .second, .val (.long ((x0 + y1) + y2)), .second, .val (.ref b), .val (.long ((x0 + y1) + y2)), .second, .val (.long ((x0 + (x0 + y1)) + ((x0 + y1) + y2))), .second, .val (.double (FP.l2d ((x0 + y1) + y2))), .second, .val (.double (FP.l2d ((x0 + y1) + y2))), .second] [(.int (1 : Int32))])) _
    refine XS.goto Xc.here hx rfl (pc0 := 281) (pc' := 285) rfl (hb hby at_281) (by decide) (by decide) ?_
    show Steps p.tables e below (Tc.setTop (mkF m 285 #[.val (.int p1), .val (.int p2), .val (.int p3), .val (.int p4), .val (.int p5), .val (.int (1 : Int32)), .val (.ref wMAX), .val (.int (3 : Int32)), .val (.long x0), .second, .val (.long (x0 + y1)), .second, .val (.long ((x0 + y1) + y2)), .second, .val (.ref b), .val (.long ((x0 + y1) + y2)), .second, .val (.long ((x0 + (x0 + y1)) + ((x0 + y1) + y2))), .second, .val (.double (FP.l2d ((x0 + y1) + y2))), .second, .val (.double (FP.l2d ((x0 + y1) + y2))), .second] [(.int (1 : Int32))])) _
    exact retN Xc hx (t := .boolean) Bd.returns (by simp) (hb hby at_285) hr
  · show Q0 h0 n0 _ Tc.heap _
    exact ⟨rfl, Nc⟩
set_option maxRecDepth 65536 in
set_option maxHeartbeats 40000000 in
theorem rm0_2_1 (l : Launch) (Z : State) (a0 : Array Value) (hw : ∀ d ∈ tables_1, d.before a0 Z = true) (ws : List Jvm.Cond) (p1 p2 p3 p4 p5 : Int32) (wMIN wMAX wAVG wSUM : Addr) (x0 y1 y2 : Int64) (h0 : Heap) (n0 : Nat) (Z0 : n0 ≤ h0.size) (S_MIN : Sta Z h0 "com/example/tiebreaker/tiebreaker/engine/search/DecayFunction$MultiValueMode" "MIN" "Lcom/example/tiebreaker/tiebreaker/engine/search/DecayFunction$MultiValueMode;" (.ref wMIN)) (S_MAX : Sta Z h0 "com/example/tiebreaker/tiebreaker/engine/search/DecayFunction$MultiValueMode" "MAX" "Lcom/example/tiebreaker/tiebreaker/engine/search/DecayFunction$MultiValueMode;" (.ref wMAX)) (S_AVG : Sta Z h0 "com/example/tiebreaker/tiebreaker/engine/search/DecayFunction$MultiValueMode" "AVG" "Lcom/example/tiebreaker/tiebreaker/engine/search/DecayFunction$MultiValueMode;" (.ref wAVG)) (S_SUM : Sta Z h0 "com/example/tiebreaker/tiebreaker/engine/search/DecayFunction$MultiValueMode" "SUM" "Lcom/example/tiebreaker/tiebreaker/engine/search/DecayFunction$MultiValueMode;" (.ref wSUM)) (nXI : ¬ wMAX = wMIN) (nAI : ¬ wAVG = wMIN) (nAX : ¬ wAVG = wMAX) (nSI : ¬ wSUM = wMIN) (nSX : ¬ wSUM = wMAX) (nAS : ¬ wAVG = wSUM) (E_m : Exa Z h0 wAVG "com/example/tiebreaker/tiebreaker/engine/search/DecayFunction$MultiValueMode") (hx0 : x0 = (p3 &&& (1048575 : Int32)).toInt64) (hy1 : y1 = (p4 &&& (1048575 : Int32)).toInt64) (hy2 : y2 = (p5 &&& (1048575 : Int32)).toInt64) (b0 : 0 ≤ x0.toInt ∧ x0.toInt < 4000000) (b1 : 0 ≤ (x0 + y1).toInt ∧ (x0 + y1).toInt < 4000000) (b2 : 0 ≤ ((x0 + y1) + y2).toInt ∧ ((x0 + y1) + y2).toInt < 4000000) (hm : (p1 &&& (3 : Int32)) = (2 : Int32)) (hn : (((p2 &&& (2147483647 : Int32)) % (3 : Int32)) + (1 : Int32)) = (1 : Int32)) :
    MetFree l x (head1 (Jvm.Cond.code x code maxLocals ret :: ws) room_1) (fun a U => a = #[(.int p1), (.int p2), (.int p3), (.int p4), (.int p5)] ∧ Z.Warmed39 U.vm ∧ U.heap = h0) (fun _ _ _ _ _ => True) (fun _ U o U' => ∃ v L, o = .returned v ∧ Q0 h0 n0 v U'.heap L ∧ FrameEnd U o U' L room_1.cells room_1.slots) := by
  refine MetFree.of_bodySF (plainFor_of_name pn_0) hisR ?_
  intro p e s m args below meth c s₁ Bd hml0 hP hK
  obtain ⟨rfl, hZ, hh⟩ := hP
  have hx := Bd.exec
  have hby := Bd.bytes
  have hml : c.maxLocals = 23 := hml0
  have hown : s.vm.findClass "com/example/tiebreaker/tiebreaker/engine/search/MultiValueModePickPinLaw" = some m.cls := findClass_of_methodNamed Bd.named
  have X0 : Stand p l e room_1 s m #[(.int p1), (.int p2), (.int p3), (.int p4), (.int p5)] below meth c s₁ [] 0 0 := Stand.of_body Bd
  have e0 : s₁.heap = h0 := by rw [← hh, Bd.state]; rfl
  have N0 := Fr.nil n0
  have pre0 : ∀ t, Steps p.tables e below (s₁.setTop (mkF m 0 #[.val (.int p1), .val (.int p2), .val (.int p3), .val (.int p4), .val (.int p5), uu, uu, uu, uu, uu, uu, uu, uu, uu, uu, uu, uu, uu, uu, uu, uu, uu, uu] [])) t → Steps p.tables e below (s₁.setTop (entryFrame m #[(.int p1), (.int p2), (.int p3), (.int p4), (.int p5)] maxLocals)) t := fun t k => castTop (ef_0 m p1 p2 p3 p4 p5) k
  obtain ⟨T50, X50, e50, st50⟩ := getS2 X0 hx hZ hown (host := "") (Or.inl (hw _ (List.mem_of_getElem? (i := 17) rfl))) Via.refl e0 S_AVG (g := (mkF m 34 #[.val (.int p1), .val (.int p2), .val (.int p3), .val (.int p4), .val (.int p5), .val (.int (2 : Int32)), uu, uu, uu, uu, uu, uu, uu, uu, uu, uu, uu, uu, uu, uu, uu, uu, uu] [])) rfl (hb hby at_34)
  obtain ⟨Ta, ha, ka, Xa, ea, Ea, Aa, sta_⟩ := newP X50 hx hZ (hw _ (List.mem_of_getElem? (i := 5) rfl)) e50 (g := (mkF m 90 #[.val (.int p1), .val (.int p2), .val (.int p3), .val (.int p4), .val (.int p5), .val (.int (2 : Int32)), .val (.ref wAVG), .val (.int (1 : Int32)), .val (.long x0), .second, .val (.long (x0 + y1)), .second, .val (.long ((x0 + y1) + y2)), .second, uu, uu, uu, uu, uu, uu, uu, uu, uu] [(.int (1 : Int32))])) rfl (hb hby at_90) rfl (by decide) (cap := 1) (by decide) (by decide) (by decide) (by decide)
  obtain ⟨b, gb⟩ : ∃ z, z = h0.size := ⟨_, rfl⟩
  rw [← gb] at Aa sta_
  have V0 : Arv Z ha b ka .double (1 : Int32) [] (.double (FP.l2d 0)) := Arv.newD Aa (by decide)
  have Vp : Arv Z ha b ka .double (1 : Int32) (List.replicate 1 (.double (FP.l2d 0))) (.double (FP.l2d 0)) := V0.pad (pad_rep [] (.double (FP.l2d 0)) 1)
  have g_b : n0 ≤ b := Nat.le_trans Z0 (Nat.le_of_eq gb.symm)
  have sz_b : h0.size ≤ b := Nat.le_of_eq gb.symm
  have Ka : Keep h0 ha [] := (Keep.refl h0 []).ext Ea
  obtain ⟨cl0, Ar0, q0, Sz0, M0, H0, U0⟩ := Vp
  obtain ⟨Td0, hd0, Xd0, ed0, Wd0, std0⟩ := stD Xa hx hZ ea Ar0 (j := (0 : Int32)) (inb_of Sz0 (by decide)) (g := (mkF m 97 #[.val (.int p1), .val (.int p2), .val (.int p3), .val (.int p4), .val (.int p5), .val (.int (2 : Int32)), .val (.ref wAVG), .val (.int (1 : Int32)), .val (.long x0), .second, .val (.long (x0 + y1)), .second, .val (.long ((x0 + y1) + y2)), .second, uu, uu, uu, uu, uu, uu, uu, uu, uu] [(.double (FP.l2d x0)), (.int (0 : Int32)), (.ref b), (.ref b)])) rfl rfl (hb hby at_97)
  have V1 := Arv.set Ar0 q0 Sz0 M0 H0 U0 (v := (.double (FP.l2d x0))) rfl Wd0 0 rfl (by simp)
  have Nd0 := Fr.snoc Xd0 N0 g_b
  have Kd0 : Keep h0 hd0 [] := Ka.wr Wd0 (Or.inr sz_b)
  have KK : Keep h0 hd0 [] := Kd0
  obtain ⟨cl, Ar, -, Sz, Nn, Hh, -⟩ := V1
  have hat0 : cl.slots[0]? = some (.double (FP.l2d x0)) := Hh 0 (by rw [Sz]; decide)
  obtain ⟨cq, kq, qa, qb, qc⟩ := isOf hZ ed0 (E_m.keep KK)
  obtain ⟨_, _, ⟨Tc, Lc, kc, nc⟩, -, Xc, ⟨Lcc, hQc, lc, yc, zc⟩, stc⟩ := Xd0.virtualBack hx (y := (⟨"com/example/tiebreaker/tiebreaker/engine/search/DecayFunction$MultiValueMode", "pick", "([D)D"⟩ : MethodName)) (z := (⟨"com/example/tiebreaker/tiebreaker/engine/search/DecayFunction$MultiValueMode", "pick", "([D)D"⟩ : MethodName)) hown (mvT hZ (hw _ (List.mem_of_getElem? (i := 6) rfl))) (mvT hZ (hw _ (List.mem_of_getElem? (i := 7) rfl))) (notFace_of_selects (args := #[]) (mvT hZ (hw _ (List.mem_of_getElem? (i := 9) rfl)))) (mvT hZ (hw _ (List.mem_of_getElem? (i := 9) rfl))) (mvT hZ (hw _ (List.mem_of_getElem? (i := 8) rfl))) (by decide) (backOf (W := 0) (rm1_AVG_1 l Z a0 hw [] b wMIN wMAX wAVG wSUM x0 hd0 n0 (Nat.le_trans Z0 KK.1) (own_sta S_MIN KK) (own_sta S_MAX KK) (own_sta S_AVG KK) (own_sta S_SUM KK) nXI nAI nAX nSI nSX nAS cl Ar Sz Nn hat0 b0) hZ (hw _ (List.mem_of_getElem? (i := 10) rfl)) (hw _ (List.mem_of_getElem? (i := 1) rfl)) (by decide) (by decide)) qa qc (g := (mkF m 267 #[.val (.int p1), .val (.int p2), .val (.int p3), .val (.int p4), .val (.int p5), .val (.int (2 : Int32)), .val (.ref wAVG), .val (.int (1 : Int32)), .val (.long x0), .second, .val (.long (x0 + y1)), .second, .val (.long ((x0 + y1) + y2)), .second, .val (.ref b), .val (.long x0), .second, .val (.long x0), .second, .val (.double (FP.ddiv (FP.l2d x0) (FP.l2d (1 : Int32).toInt64))), .second, uu, uu] [(.ref b), (.ref wAVG)])) rfl (by rw [hml]; rfl) (Steps.refl _) (argsL := [(.ref b)]) (rest := []) (lenOf pd_0 rfl) rfl (by show 2 * 0 + _ ≤ _; exact Nat.le_of_eq rfl) (hb hby at_267) (fun _ _ => ⟨rfl, ed0, (by decide : 0 + 1 + 0 ≤ _), (by decide : 0 + 1 + 0 ≤ _)⟩)
  dsimp only [Pt.U, Pt.locs, Pt.cells, Pt.slots] at Xc lc yc zc stc hQc
  subst lc yc zc
  obtain ⟨rfl, Ncq, ec⟩ := hQc
  have Nc := Fr.app Nd0 Ncq
  obtain ⟨fs, hr, hrun, hended, hW, hsame⟩ := Xc.leave (v := some (.int (1 : Int32))) (fun h => by rw [Bd.returns] at h; cases h)
  refine ⟨_, _, pre0 _ ?_, hrun, hended, _, _, rfl, ?_, ⟨_, rfl⟩, hW, hsame.mono (by decide) (by decide)⟩
  · show Steps p.tables e below (s₁.setTop (mkF m 0 #[.val (.int p1), .val (.int p2), .val (.int p3), .val (.int p4), .val (.int p5), uu, uu, uu, uu, uu, uu, uu, uu, uu, uu, uu, uu, uu, uu, uu, uu, uu, uu] [])) _
    refine XS.iloadN X0.here hx rfl (hb hby at_0) rfl ?_
    show Steps p.tables e below (s₁.setTop (mkF m 1 #[.val (.int p1), .val (.int p2), .val (.int p3), .val (.int p4), .val (.int p5), uu, uu, uu, uu, uu, uu, uu, uu, uu, uu, uu, uu, uu, uu, uu, uu, uu, uu] [(.int p1)])) _
    refine XS.iconst X0.here hx rfl (hb hby at_1) ?_
    show Steps p.tables e below (s₁.setTop (mkF m 2 #[.val (.int p1), .val (.int p2), .val (.int p3), .val (.int p4), .val (.int p5), uu, uu, uu, uu, uu, uu, uu, uu, uu, uu, uu, uu, uu, uu, uu, uu, uu, uu] [(.int (3 : Int32)), (.int p1)])) _
    refine XS.iand X0.here hx rfl (hb hby at_2) rfl ?_
    show Steps p.tables e below (s₁.setTop (mkF m 3 #[.val (.int p1), .val (.int p2), .val (.int p3), .val (.int p4), .val (.int p5), uu, uu, uu, uu, uu, uu, uu, uu, uu, uu, uu, uu, uu, uu, uu, uu, uu, uu] [(.int (p1 &&& (3 : Int32)))])) _
    rw [hm]
    show Steps p.tables e below (s₁.setTop (mkF m 3 #[.val (.int p1), .val (.int p2), .val (.int p3), .val (.int p4), .val (.int p5), uu, uu, uu, uu, uu, uu, uu, uu, uu, uu, uu, uu, uu, uu, uu, uu, uu, uu] [(.int (2 : Int32))])) _
    refine XS.istore X0.here hx rfl (hb hby at_3) rfl (l' := #[.val (.int p1), .val (.int p2), .val (.int p3), .val (.int p4), .val (.int p5), .val (.int (2 : Int32)), uu, uu, uu, uu, uu, uu, uu, uu, uu, uu, uu, uu, uu, uu, uu, uu, uu]) rfl ?_
    show Steps p.tables e below (s₁.setTop (mkF m 5 #[.val (.int p1), .val (.int p2), .val (.int p3), .val (.int p4), .val (.int p5), .val (.int (2 : Int32)), uu, uu, uu, uu, uu, uu, uu, uu, uu, uu, uu, uu, uu, uu, uu, uu, uu] [])) _
    refine XS.iload X0.here hx rfl (hb hby at_5) rfl ?_
    show Steps p.tables e below (s₁.setTop (mkF m 7 #[.val (.int p1), .val (.int p2), .val (.int p3), .val (.int p4), .val (.int p5), .val (.int (2 : Int32)), uu, uu, uu, uu, uu, uu, uu, uu, uu, uu, uu, uu, uu, uu, uu, uu, uu] [(.int (2 : Int32))])) _
    refine XS.ifYes X0.here hx rfl (pc0 := 7) (pc' := 16) rfl (hb hby at_7) rfl ((if0 _ _).trans (feq (by decide : ¬ ((2 : Int32) = (0 : Int32)))).2) (by decide) (by decide) ?_
    show Steps p.tables e below (s₁.setTop (mkF m 16 #[.val (.int p1), .val (.int p2), .val (.int p3), .val (.int p4), .val (.int p5), .val (.int (2 : Int32)), uu, uu, uu, uu, uu, uu, uu, uu, uu, uu, uu, uu, uu, uu, uu, uu, uu] [])) _
    refine XS.iload X0.here hx rfl (hb hby at_16) rfl ?_
    show Steps p.tables e below (s₁.setTop (mkF m 18 #[.val (.int p1), .val (.int p2), .val (.int p3), .val (.int p4), .val (.int p5), .val (.int (2 : Int32)), uu, uu, uu, uu, uu, uu, uu, uu, uu, uu, uu, uu, uu, uu, uu, uu, uu] [(.int (2 : Int32))])) _
    refine XS.iconst X0.here hx rfl (hb hby at_18) ?_
    show Steps p.tables e below (s₁.setTop (mkF m 19 #[.val (.int p1), .val (.int p2), .val (.int p3), .val (.int p4), .val (.int p5), .val (.int (2 : Int32)), uu, uu, uu, uu, uu, uu, uu, uu, uu, uu, uu, uu, uu, uu, uu, uu, uu] [(.int (1 : Int32)), (.int (2 : Int32))])) _
    refine XS.icmpYes X0.here hx rfl (pc0 := 19) (pc' := 28) rfl (hb hby at_19) rfl (feq (by decide : ¬ ((2 : Int32) = (1 : Int32)))).2 (by decide) (by decide) ?_
    show Steps p.tables e below (s₁.setTop (mkF m 28 #[.val (.int p1), .val (.int p2), .val (.int p3), .val (.int p4), .val (.int p5), .val (.int (2 : Int32)), uu, uu, uu, uu, uu, uu, uu, uu, uu, uu, uu, uu, uu, uu, uu, uu, uu] [])) _
    refine XS.iload X0.here hx rfl (hb hby at_28) rfl ?_
    show Steps p.tables e below (s₁.setTop (mkF m 30 #[.val (.int p1), .val (.int p2), .val (.int p3), .val (.int p4), .val (.int p5), .val (.int (2 : Int32)), uu, uu, uu, uu, uu, uu, uu, uu, uu, uu, uu, uu, uu, uu, uu, uu, uu] [(.int (2 : Int32))])) _
    refine XS.iconst X0.here hx rfl (hb hby at_30) ?_
    show Steps p.tables e below (s₁.setTop (mkF m 31 #[.val (.int p1), .val (.int p2), .val (.int p3), .val (.int p4), .val (.int p5), .val (.int (2 : Int32)), uu, uu, uu, uu, uu, uu, uu, uu, uu, uu, uu, uu, uu, uu, uu, uu, uu] [(.int (2 : Int32)), (.int (2 : Int32))])) _
    refine XS.icmpNo X0.here hx rfl (hb hby at_31) rfl (teq (by decide : (2 : Int32) = (2 : Int32))).2 ?_
    show Steps p.tables e below (s₁.setTop (mkF m 34 #[.val (.int p1), .val (.int p2), .val (.int p3), .val (.int p4), .val (.int p5), .val (.int (2 : Int32)), uu, uu, uu, uu, uu, uu, uu, uu, uu, uu, uu, uu, uu, uu, uu, uu, uu] [])) _
    refine st50 _ ?_
    show Steps p.tables e below (T50.setTop (mkF m 37 #[.val (.int p1), .val (.int p2), .val (.int p3), .val (.int p4), .val (.int p5), .val (.int (2 : Int32)), uu, uu, uu, uu, uu, uu, uu, uu, uu, uu, uu, uu, uu, uu, uu, uu, uu] [(.ref wAVG)])) _
    refine XS.goto X50.here hx rfl (pc0 := 37) (pc' := 43) rfl (hb hby at_37) (by decide) (by decide) ?_
    show Steps p.tables e below (T50.setTop (mkF m 43 #[.val (.int p1), .val (.int p2), .val (.int p3), .val (.int p4), .val (.int p5), .val (.int (2 : Int32)), uu, uu, uu, uu, uu, uu, uu, uu, uu, uu, uu, uu, uu, uu, uu, uu, uu] [(.ref wAVG)])) _
    refine XS.astore X50.here hx rfl (hb hby at_43) rfl rfl (l' := #[.val (.int p1), .val (.int p2), .val (.int p3), .val (.int p4), .val (.int p5), .val (.int (2 : Int32)), .val (.ref wAVG), uu, uu, uu, uu, uu, uu, uu, uu, uu, uu, uu, uu, uu, uu, uu, uu]) rfl ?_
    show Steps p.tables e below (T50.setTop (mkF m 45 #[.val (.int p1), .val (.int p2), .val (.int p3), .val (.int p4), .val (.int p5), .val (.int (2 : Int32)), .val (.ref wAVG), uu, uu, uu, uu, uu, uu, uu, uu, uu, uu, uu, uu, uu, uu, uu, uu] [])) _
    refine XS.iloadN X50.here hx rfl (hb hby at_45) rfl ?_
    show Steps p.tables e below (T50.setTop (mkF m 46 #[.val (.int p1), .val (.int p2), .val (.int p3), .val (.int p4), .val (.int p5), .val (.int (2 : Int32)), .val (.ref wAVG), uu, uu, uu, uu, uu, uu, uu, uu, uu, uu, uu, uu, uu, uu, uu, uu] [(.int p2)])) _
    refine X50.ldcInt hx hown (mvT hZ (hw _ (List.mem_of_getElem? (i := 3) rfl))) (g := (mkF m 46 #[.val (.int p1), .val (.int p2), .val (.int p3), .val (.int p4), .val (.int p5), .val (.int (2 : Int32)), .val (.ref wAVG), uu, uu, uu, uu, uu, uu, uu, uu, uu, uu, uu, uu, uu, uu, uu, uu] [(.int p2)])) rfl (hb hby at_46) _ ?_
    show Steps p.tables e below (T50.setTop (mkF m 48 #[.val (.int p1), .val (.int p2), .val (.int p3), .val (.int p4), .val (.int p5), .val (.int (2 : Int32)), .val (.ref wAVG), uu, uu, uu, uu, uu, uu, uu, uu, uu, uu, uu, uu, uu, uu, uu, uu] [(.int (2147483647 : Int32)), (.int p2)])) _
    refine XS.iand X50.here hx rfl (hb hby at_48) rfl ?_
    show Steps p.tables e below (T50.setTop (mkF m 49 #[.val (.int p1), .val (.int p2), .val (.int p3), .val (.int p4), .val (.int p5), .val (.int (2 : Int32)), .val (.ref wAVG), uu, uu, uu, uu, uu, uu, uu, uu, uu, uu, uu, uu, uu, uu, uu, uu] [(.int (p2 &&& (2147483647 : Int32)))])) _
    refine XS.iconst X50.here hx rfl (hb hby at_49) ?_
    show Steps p.tables e below (T50.setTop (mkF m 50 #[.val (.int p1), .val (.int p2), .val (.int p3), .val (.int p4), .val (.int p5), .val (.int (2 : Int32)), .val (.ref wAVG), uu, uu, uu, uu, uu, uu, uu, uu, uu, uu, uu, uu, uu, uu, uu, uu] [(.int (3 : Int32)), (.int (p2 &&& (2147483647 : Int32)))])) _
    refine iremM X50 hx rfl (hb hby at_50) rfl (by decide) ?_
    show Steps p.tables e below (T50.setTop (mkF m 51 #[.val (.int p1), .val (.int p2), .val (.int p3), .val (.int p4), .val (.int p5), .val (.int (2 : Int32)), .val (.ref wAVG), uu, uu, uu, uu, uu, uu, uu, uu, uu, uu, uu, uu, uu, uu, uu, uu] [(.int ((p2 &&& (2147483647 : Int32)) % (3 : Int32)))])) _
    refine XS.iconst X50.here hx rfl (hb hby at_51) ?_
    show Steps p.tables e below (T50.setTop (mkF m 52 #[.val (.int p1), .val (.int p2), .val (.int p3), .val (.int p4), .val (.int p5), .val (.int (2 : Int32)), .val (.ref wAVG), uu, uu, uu, uu, uu, uu, uu, uu, uu, uu, uu, uu, uu, uu, uu, uu] [(.int (1 : Int32)), (.int ((p2 &&& (2147483647 : Int32)) % (3 : Int32)))])) _
    refine XS.iadd X50.here hx rfl (hb hby at_52) rfl ?_
    show Steps p.tables e below (T50.setTop (mkF m 53 #[.val (.int p1), .val (.int p2), .val (.int p3), .val (.int p4), .val (.int p5), .val (.int (2 : Int32)), .val (.ref wAVG), uu, uu, uu, uu, uu, uu, uu, uu, uu, uu, uu, uu, uu, uu, uu, uu] [(.int (((p2 &&& (2147483647 : Int32)) % (3 : Int32)) + (1 : Int32)))])) _
    rw [hn]
    show Steps p.tables e below (T50.setTop (mkF m 53 #[.val (.int p1), .val (.int p2), .val (.int p3), .val (.int p4), .val (.int p5), .val (.int (2 : Int32)), .val (.ref wAVG), uu, uu, uu, uu, uu, uu, uu, uu, uu, uu, uu, uu, uu, uu, uu, uu] [(.int (1 : Int32))])) _
    refine XS.istore X50.here hx rfl (hb hby at_53) rfl (l' := #[.val (.int p1), .val (.int p2), .val (.int p3), .val (.int p4), .val (.int p5), .val (.int (2 : Int32)), .val (.ref wAVG), .val (.int (1 : Int32)), uu, uu, uu, uu, uu, uu, uu, uu, uu, uu, uu, uu, uu, uu, uu]) rfl ?_
    show Steps p.tables e below (T50.setTop (mkF m 55 #[.val (.int p1), .val (.int p2), .val (.int p3), .val (.int p4), .val (.int p5), .val (.int (2 : Int32)), .val (.ref wAVG), .val (.int (1 : Int32)), uu, uu, uu, uu, uu, uu, uu, uu, uu, uu, uu, uu, uu, uu, uu] [])) _
    refine XS.iloadN X50.here hx rfl (hb hby at_55) rfl ?_
    show Steps p.tables e below (T50.setTop (mkF m 56 #[.val (.int p1), .val (.int p2), .val (.int p3), .val (.int p4), .val (.int p5), .val (.int (2 : Int32)), .val (.ref wAVG), .val (.int (1 : Int32)), uu, uu, uu, uu, uu, uu, uu, uu, uu, uu, uu, uu, uu, uu, uu] [(.int p3)])) _
    refine X50.ldcInt hx hown (mvT hZ (hw _ (List.mem_of_getElem? (i := 4) rfl))) (g := (mkF m 56 #[.val (.int p1), .val (.int p2), .val (.int p3), .val (.int p4), .val (.int p5), .val (.int (2 : Int32)), .val (.ref wAVG), .val (.int (1 : Int32)), uu, uu, uu, uu, uu, uu, uu, uu, uu, uu, uu, uu, uu, uu, uu] [(.int p3)])) rfl (hb hby at_56) _ ?_
    show Steps p.tables e below (T50.setTop (mkF m 58 #[.val (.int p1), .val (.int p2), .val (.int p3), .val (.int p4), .val (.int p5), .val (.int (2 : Int32)), .val (.ref wAVG), .val (.int (1 : Int32)), uu, uu, uu, uu, uu, uu, uu, uu, uu, uu, uu, uu, uu, uu, uu] [(.int (1048575 : Int32)), (.int p3)])) _
    refine XS.iand X50.here hx rfl (hb hby at_58) rfl ?_
    show Steps p.tables e below (T50.setTop (mkF m 59 #[.val (.int p1), .val (.int p2), .val (.int p3), .val (.int p4), .val (.int p5), .val (.int (2 : Int32)), .val (.ref wAVG), .val (.int (1 : Int32)), uu, uu, uu, uu, uu, uu, uu, uu, uu, uu, uu, uu, uu, uu, uu] [(.int (p3 &&& (1048575 : Int32)))])) _
    refine XS.i2l X50.here hx rfl (hb hby at_59) rfl ?_
    show Steps p.tables e below (T50.setTop (mkF m 60 #[.val (.int p1), .val (.int p2), .val (.int p3), .val (.int p4), .val (.int p5), .val (.int (2 : Int32)), .val (.ref wAVG), .val (.int (1 : Int32)), uu, uu, uu, uu, uu, uu, uu, uu, uu, uu, uu, uu, uu, uu, uu] [(.long ((p3 &&& (1048575 : Int32)).toInt64))])) _
    rw [← hx0]
    show Steps p.tables e below (T50.setTop (mkF m 60 #[.val (.int p1), .val (.int p2), .val (.int p3), .val (.int p4), .val (.int p5), .val (.int (2 : Int32)), .val (.ref wAVG), .val (.int (1 : Int32)), uu, uu, uu, uu, uu, uu, uu, uu, uu, uu, uu, uu, uu, uu, uu] [(.long x0)])) _
    refine XS.lstore X50.here hx rfl (hb hby at_60) rfl (l' := #[.val (.int p1), .val (.int p2), .val (.int p3), .val (.int p4), .val (.int p5), .val (.int (2 : Int32)), .val (.ref wAVG), .val (.int (1 : Int32)), .val (.long x0), .second, uu, uu, uu, uu, uu, uu, uu, uu, uu, uu, uu, uu, uu]) rfl ?_
    show Steps p.tables e below (T50.setTop (mkF m 62 #[.val (.int p1), .val (.int p2), .val (.int p3), .val (.int p4), .val (.int p5), .val (.int (2 : Int32)), .val (.ref wAVG), .val (.int (1 : Int32)), .val (.long x0), .second, uu, uu, uu, uu, uu, uu, uu, uu, uu, uu, uu, uu, uu] [])) _
    refine XS.lload X50.here hx rfl (hb hby at_62) rfl ?_
    show Steps p.tables e below (T50.setTop (mkF m 64 #[.val (.int p1), .val (.int p2), .val (.int p3), .val (.int p4), .val (.int p5), .val (.int (2 : Int32)), .val (.ref wAVG), .val (.int (1 : Int32)), .val (.long x0), .second, uu, uu, uu, uu, uu, uu, uu, uu, uu, uu, uu, uu, uu] [(.long x0)])) _
    refine XS.iloadN X50.here hx rfl (hb hby at_64) rfl ?_
    show Steps p.tables e below (T50.setTop (mkF m 65 #[.val (.int p1), .val (.int p2), .val (.int p3), .val (.int p4), .val (.int p5), .val (.int (2 : Int32)), .val (.ref wAVG), .val (.int (1 : Int32)), .val (.long x0), .second, uu, uu, uu, uu, uu, uu, uu, uu, uu, uu, uu, uu, uu] [(.int p4), (.long x0)])) _
    refine X50.ldcInt hx hown (mvT hZ (hw _ (List.mem_of_getElem? (i := 4) rfl))) (g := (mkF m 65 #[.val (.int p1), .val (.int p2), .val (.int p3), .val (.int p4), .val (.int p5), .val (.int (2 : Int32)), .val (.ref wAVG), .val (.int (1 : Int32)), .val (.long x0), .second, uu, uu, uu, uu, uu, uu, uu, uu, uu, uu, uu, uu, uu] [(.int p4), (.long x0)])) rfl (hb hby at_65) _ ?_
    show Steps p.tables e below (T50.setTop (mkF m 67 #[.val (.int p1), .val (.int p2), .val (.int p3), .val (.int p4), .val (.int p5), .val (.int (2 : Int32)), .val (.ref wAVG), .val (.int (1 : Int32)), .val (.long x0), .second, uu, uu, uu, uu, uu, uu, uu, uu, uu, uu, uu, uu, uu] [(.int (1048575 : Int32)), (.int p4), (.long x0)])) _
    refine XS.iand X50.here hx rfl (hb hby at_67) rfl ?_
    show Steps p.tables e below (T50.setTop (mkF m 68 #[.val (.int p1), .val (.int p2), .val (.int p3), .val (.int p4), .val (.int p5), .val (.int (2 : Int32)), .val (.ref wAVG), .val (.int (1 : Int32)), .val (.long x0), .second, uu, uu, uu, uu, uu, uu, uu, uu, uu, uu, uu, uu, uu] [(.int (p4 &&& (1048575 : Int32))), (.long x0)])) _
    refine XS.i2l X50.here hx rfl (hb hby at_68) rfl ?_
    show Steps p.tables e below (T50.setTop (mkF m 69 #[.val (.int p1), .val (.int p2), .val (.int p3), .val (.int p4), .val (.int p5), .val (.int (2 : Int32)), .val (.ref wAVG), .val (.int (1 : Int32)), .val (.long x0), .second, uu, uu, uu, uu, uu, uu, uu, uu, uu, uu, uu, uu, uu] [(.long ((p4 &&& (1048575 : Int32)).toInt64)), (.long x0)])) _
    rw [← hy1]
    show Steps p.tables e below (T50.setTop (mkF m 69 #[.val (.int p1), .val (.int p2), .val (.int p3), .val (.int p4), .val (.int p5), .val (.int (2 : Int32)), .val (.ref wAVG), .val (.int (1 : Int32)), .val (.long x0), .second, uu, uu, uu, uu, uu, uu, uu, uu, uu, uu, uu, uu, uu] [(.long y1), (.long x0)])) _
    refine XS.ladd X50.here hx rfl (hb hby at_69) rfl ?_
    show Steps p.tables e below (T50.setTop (mkF m 70 #[.val (.int p1), .val (.int p2), .val (.int p3), .val (.int p4), .val (.int p5), .val (.int (2 : Int32)), .val (.ref wAVG), .val (.int (1 : Int32)), .val (.long x0), .second, uu, uu, uu, uu, uu, uu, uu, uu, uu, uu, uu, uu, uu] [(.long (x0 + y1))])) _
    refine XS.lstore X50.here hx rfl (hb hby at_70) rfl (l' := #[.val (.int p1), .val (.int p2), .val (.int p3), .val (.int p4), .val (.int p5), .val (.int (2 : Int32)), .val (.ref wAVG), .val (.int (1 : Int32)), .val (.long x0), .second, .val (.long (x0 + y1)), .second, uu, uu, uu, uu, uu, uu, uu, uu, uu, uu, uu]) rfl ?_
    show Steps p.tables e below (T50.setTop (mkF m 72 #[.val (.int p1), .val (.int p2), .val (.int p3), .val (.int p4), .val (.int p5), .val (.int (2 : Int32)), .val (.ref wAVG), .val (.int (1 : Int32)), .val (.long x0), .second, .val (.long (x0 + y1)), .second, uu, uu, uu, uu, uu, uu, uu, uu, uu, uu, uu] [])) _
    refine XS.lload X50.here hx rfl (hb hby at_72) rfl ?_
    show Steps p.tables e below (T50.setTop (mkF m 74 #[.val (.int p1), .val (.int p2), .val (.int p3), .val (.int p4), .val (.int p5), .val (.int (2 : Int32)), .val (.ref wAVG), .val (.int (1 : Int32)), .val (.long x0), .second, .val (.long (x0 + y1)), .second, uu, uu, uu, uu, uu, uu, uu, uu, uu, uu, uu] [(.long (x0 + y1))])) _
    refine XS.iload X50.here hx rfl (hb hby at_74) rfl ?_
    show Steps p.tables e below (T50.setTop (mkF m 76 #[.val (.int p1), .val (.int p2), .val (.int p3), .val (.int p4), .val (.int p5), .val (.int (2 : Int32)), .val (.ref wAVG), .val (.int (1 : Int32)), .val (.long x0), .second, .val (.long (x0 + y1)), .second, uu, uu, uu, uu, uu, uu, uu, uu, uu, uu, uu] [(.int p5), (.long (x0 + y1))])) _
    refine X50.ldcInt hx hown (mvT hZ (hw _ (List.mem_of_getElem? (i := 4) rfl))) (g := (mkF m 76 #[.val (.int p1), .val (.int p2), .val (.int p3), .val (.int p4), .val (.int p5), .val (.int (2 : Int32)), .val (.ref wAVG), .val (.int (1 : Int32)), .val (.long x0), .second, .val (.long (x0 + y1)), .second, uu, uu, uu, uu, uu, uu, uu, uu, uu, uu, uu] [(.int p5), (.long (x0 + y1))])) rfl (hb hby at_76) _ ?_
    show Steps p.tables e below (T50.setTop (mkF m 78 #[.val (.int p1), .val (.int p2), .val (.int p3), .val (.int p4), .val (.int p5), .val (.int (2 : Int32)), .val (.ref wAVG), .val (.int (1 : Int32)), .val (.long x0), .second, .val (.long (x0 + y1)), .second, uu, uu, uu, uu, uu, uu, uu, uu, uu, uu, uu] [(.int (1048575 : Int32)), (.int p5), (.long (x0 + y1))])) _
    refine XS.iand X50.here hx rfl (hb hby at_78) rfl ?_
    show Steps p.tables e below (T50.setTop (mkF m 79 #[.val (.int p1), .val (.int p2), .val (.int p3), .val (.int p4), .val (.int p5), .val (.int (2 : Int32)), .val (.ref wAVG), .val (.int (1 : Int32)), .val (.long x0), .second, .val (.long (x0 + y1)), .second, uu, uu, uu, uu, uu, uu, uu, uu, uu, uu, uu] [(.int (p5 &&& (1048575 : Int32))), (.long (x0 + y1))])) _
    refine XS.i2l X50.here hx rfl (hb hby at_79) rfl ?_
    show Steps p.tables e below (T50.setTop (mkF m 80 #[.val (.int p1), .val (.int p2), .val (.int p3), .val (.int p4), .val (.int p5), .val (.int (2 : Int32)), .val (.ref wAVG), .val (.int (1 : Int32)), .val (.long x0), .second, .val (.long (x0 + y1)), .second, uu, uu, uu, uu, uu, uu, uu, uu, uu, uu, uu] [(.long ((p5 &&& (1048575 : Int32)).toInt64)), (.long (x0 + y1))])) _
    rw [← hy2]
    show Steps p.tables e below (T50.setTop (mkF m 80 #[.val (.int p1), .val (.int p2), .val (.int p3), .val (.int p4), .val (.int p5), .val (.int (2 : Int32)), .val (.ref wAVG), .val (.int (1 : Int32)), .val (.long x0), .second, .val (.long (x0 + y1)), .second, uu, uu, uu, uu, uu, uu, uu, uu, uu, uu, uu] [(.long y2), (.long (x0 + y1))])) _
    refine XS.ladd X50.here hx rfl (hb hby at_80) rfl ?_
    show Steps p.tables e below (T50.setTop (mkF m 81 #[.val (.int p1), .val (.int p2), .val (.int p3), .val (.int p4), .val (.int p5), .val (.int (2 : Int32)), .val (.ref wAVG), .val (.int (1 : Int32)), .val (.long x0), .second, .val (.long (x0 + y1)), .second, uu, uu, uu, uu, uu, uu, uu, uu, uu, uu, uu] [(.long ((x0 + y1) + y2))])) _
    refine XS.lstore X50.here hx rfl (hb hby at_81) rfl (l' := #[.val (.int p1), .val (.int p2), .val (.int p3), .val (.int p4), .val (.int p5), .val (.int (2 : Int32)), .val (.ref wAVG), .val (.int (1 : Int32)), .val (.long x0), .second, .val (.long (x0 + y1)), .second, .val (.long ((x0 + y1) + y2)), .second, uu, uu, uu, uu, uu, uu, uu, uu, uu]) rfl ?_
    show Steps p.tables e below (T50.setTop (mkF m 83 #[.val (.int p1), .val (.int p2), .val (.int p3), .val (.int p4), .val (.int p5), .val (.int (2 : Int32)), .val (.ref wAVG), .val (.int (1 : Int32)), .val (.long x0), .second, .val (.long (x0 + y1)), .second, .val (.long ((x0 + y1) + y2)), .second, uu, uu, uu, uu, uu, uu, uu, uu, uu] [])) _
    refine XS.iload X50.here hx rfl (hb hby at_83) rfl ?_
    show Steps p.tables e below (T50.setTop (mkF m 85 #[.val (.int p1), .val (.int p2), .val (.int p3), .val (.int p4), .val (.int p5), .val (.int (2 : Int32)), .val (.ref wAVG), .val (.int (1 : Int32)), .val (.long x0), .second, .val (.long (x0 + y1)), .second, .val (.long ((x0 + y1) + y2)), .second, uu, uu, uu, uu, uu, uu, uu, uu, uu] [(.int (1 : Int32))])) _
    refine XS.iconst X50.here hx rfl (hb hby at_85) ?_
    show Steps p.tables e below (T50.setTop (mkF m 86 #[.val (.int p1), .val (.int p2), .val (.int p3), .val (.int p4), .val (.int p5), .val (.int (2 : Int32)), .val (.ref wAVG), .val (.int (1 : Int32)), .val (.long x0), .second, .val (.long (x0 + y1)), .second, .val (.long ((x0 + y1) + y2)), .second, uu, uu, uu, uu, uu, uu, uu, uu, uu] [(.int (1 : Int32)), (.int (1 : Int32))])) _
    refine XS.icmpNo X50.here hx rfl (hb hby at_86) rfl (teq (by decide : (1 : Int32) = (1 : Int32))).2 ?_
    show Steps p.tables e below (T50.setTop (mkF m 89 #[.val (.int p1), .val (.int p2), .val (.int p3), .val (.int p4), .val (.int p5), .val (.int (2 : Int32)), .val (.ref wAVG), .val (.int (1 : Int32)), .val (.long x0), .second, .val (.long (x0 + y1)), .second, .val (.long ((x0 + y1) + y2)), .second, uu, uu, uu, uu, uu, uu, uu, uu, uu] [])) _
    refine XS.iconst X50.here hx rfl (hb hby at_89) ?_
    show Steps p.tables e below (T50.setTop (mkF m 90 #[.val (.int p1), .val (.int p2), .val (.int p3), .val (.int p4), .val (.int p5), .val (.int (2 : Int32)), .val (.ref wAVG), .val (.int (1 : Int32)), .val (.long x0), .second, .val (.long (x0 + y1)), .second, .val (.long ((x0 + y1) + y2)), .second, uu, uu, uu, uu, uu, uu, uu, uu, uu] [(.int (1 : Int32))])) _
    refine sta_ _ ?_
    show Steps p.tables e below (Ta.setTop (mkF m 92 #[.val (.int p1), .val (.int p2), .val (.int p3), .val (.int p4), .val (.int p5), .val (.int (2 : Int32)), .val (.ref wAVG), .val (.int (1 : Int32)), .val (.long x0), .second, .val (.long (x0 + y1)), .second, .val (.long ((x0 + y1) + y2)), .second, uu, uu, uu, uu, uu, uu, uu, uu, uu] [(.ref b)])) _
    refine XS.dup Xa.here hx rfl (hb hby at_92) rfl rfl ?_
    show Steps p.tables e below (Ta.setTop (mkF m 93 #[.val (.int p1), .val (.int p2), .val (.int p3), .val (.int p4), .val (.int p5), .val (.int (2 : Int32)), .val (.ref wAVG), .val (.int (1 : Int32)), .val (.long x0), .second, .val (.long (x0 + y1)), .second, .val (.long ((x0 + y1) + y2)), .second, uu, uu, uu, uu, uu, uu, uu, uu, uu] [(.ref b), (.ref b)])) _
    refine XS.iconst Xa.here hx rfl (hb hby at_93) ?_
    show Steps p.tables e below (Ta.setTop (mkF m 94 #[.val (.int p1), .val (.int p2), .val (.int p3), .val (.int p4), .val (.int p5), .val (.int (2 : Int32)), .val (.ref wAVG), .val (.int (1 : Int32)), .val (.long x0), .second, .val (.long (x0 + y1)), .second, .val (.long ((x0 + y1) + y2)), .second, uu, uu, uu, uu, uu, uu, uu, uu, uu] [(.int (0 : Int32)), (.ref b), (.ref b)])) _
    refine XS.lload Xa.here hx rfl (hb hby at_94) rfl ?_
    show Steps p.tables e below (Ta.setTop (mkF m 96 #[.val (.int p1), .val (.int p2), .val (.int p3), .val (.int p4), .val (.int p5), .val (.int (2 : Int32)), .val (.ref wAVG), .val (.int (1 : Int32)), .val (.long x0), .second, .val (.long (x0 + y1)), .second, .val (.long ((x0 + y1) + y2)), .second, uu, uu, uu, uu, uu, uu, uu, uu, uu] [(.long x0), (.int (0 : Int32)), (.ref b), (.ref b)])) _
    refine XS.l2dS Xa.here hx rfl (hb hby at_96) rfl (v := FP.l2d x0) rfl ?_
    show Steps p.tables e below (Ta.setTop (mkF m 97 #[.val (.int p1), .val (.int p2), .val (.int p3), .val (.int p4), .val (.int p5), .val (.int (2 : Int32)), .val (.ref wAVG), .val (.int (1 : Int32)), .val (.long x0), .second, .val (.long (x0 + y1)), .second, .val (.long ((x0 + y1) + y2)), .second, uu, uu, uu, uu, uu, uu, uu, uu, uu] [(.double (FP.l2d x0)), (.int (0 : Int32)), (.ref b), (.ref b)])) _
    refine std0 _ ?_
    show Steps p.tables e below (Td0.setTop (mkF m 98 #[.val (.int p1), .val (.int p2), .val (.int p3), .val (.int p4), .val (.int p5), .val (.int (2 : Int32)), .val (.ref wAVG), .val (.int (1 : Int32)), .val (.long x0), .second, .val (.long (x0 + y1)), .second, .val (.long ((x0 + y1) + y2)), .second, uu, uu, uu, uu, uu, uu, uu, uu, uu] [(.ref b)])) _
    refine XS.astore Xd0.here hx rfl (hb hby at_98) rfl rfl (l' := #[.val (.int p1), .val (.int p2), .val (.int p3), .val (.int p4), .val (.int p5), .val (.int (2 : Int32)), .val (.ref wAVG), .val (.int (1 : Int32)), .val (.long x0), .second, .val (.long (x0 + y1)), .second, .val (.long ((x0 + y1) + y2)), .second, .val (.ref b), uu, uu, uu, uu, uu, uu, uu, uu]) rfl ?_
    show Steps p.tables e below (Td0.setTop (mkF m 100 #[.val (.int p1), .val (.int p2), .val (.int p3), .val (.int p4), .val (.int p5), .val (.int (2 : Int32)), .val (.ref wAVG), .val (.int (1 : Int32)), .val (.long x0), .second, .val (.long (x0 + y1)), .second, .val (.long ((x0 + y1) + y2)), .second, .val (.ref b), uu, uu, uu, uu, uu, uu, uu, uu] [])) _
    refine XS.goto Xd0.here hx rfl (pc0 := 100) (pc' := 152) rfl (hb hby at_100) (by decide) (by decide) ?_
    show Steps p.tables e below (Td0.setTop (mkF m 152 #[.val (.int p1), .val (.int p2), .val (.int p3), .val (.int p4), .val (.int p5), .val (.int (2 : Int32)), .val (.ref wAVG), .val (.int (1 : Int32)), .val (.long x0), .second, .val (.long (x0 + y1)), .second, .val (.long ((x0 + y1) + y2)), .second, .val (.ref b), uu, uu, uu, uu, uu, uu, uu, uu] [])) _
    refine XS.iload Xd0.here hx rfl (hb hby at_152) rfl ?_
    show Steps p.tables e below (Td0.setTop (mkF m 154 #[.val (.int p1), .val (.int p2), .val (.int p3), .val (.int p4), .val (.int p5), .val (.int (2 : Int32)), .val (.ref wAVG), .val (.int (1 : Int32)), .val (.long x0), .second, .val (.long (x0 + y1)), .second, .val (.long ((x0 + y1) + y2)), .second, .val (.ref b), uu, uu, uu, uu, uu, uu, uu, uu] [(.int (1 : Int32))])) _
    refine XS.iconst Xd0.here hx rfl (hb hby at_154) ?_
    show Steps p.tables e below (Td0.setTop (mkF m 155 #[.val (.int p1), .val (.int p2), .val (.int p3), .val (.int p4), .val (.int p5), .val (.int (2 : Int32)), .val (.ref wAVG), .val (.int (1 : Int32)), .val (.long x0), .second, .val (.long (x0 + y1)), .second, .val (.long ((x0 + y1) + y2)), .second, .val (.ref b), uu, uu, uu, uu, uu, uu, uu, uu] [(.int (1 : Int32)), (.int (1 : Int32))])) _
    refine XS.icmpNo Xd0.here hx rfl (hb hby at_155) rfl (teq (by decide : (1 : Int32) = (1 : Int32))).2 ?_
    show Steps p.tables e below (Td0.setTop (mkF m 158 #[.val (.int p1), .val (.int p2), .val (.int p3), .val (.int p4), .val (.int p5), .val (.int (2 : Int32)), .val (.ref wAVG), .val (.int (1 : Int32)), .val (.long x0), .second, .val (.long (x0 + y1)), .second, .val (.long ((x0 + y1) + y2)), .second, .val (.ref b), uu, uu, uu, uu, uu, uu, uu, uu] [])) _
    refine XS.lload Xd0.here hx rfl (hb hby at_158) rfl ?_
    show Steps p.tables e below (Td0.setTop (mkF m 160 #[.val (.int p1), .val (.int p2), .val (.int p3), .val (.int p4), .val (.int p5), .val (.int (2 : Int32)), .val (.ref wAVG), .val (.int (1 : Int32)), .val (.long x0), .second, .val (.long (x0 + y1)), .second, .val (.long ((x0 + y1) + y2)), .second, .val (.ref b), uu, uu, uu, uu, uu, uu, uu, uu] [(.long x0)])) _
    refine XS.goto Xd0.here hx rfl (pc0 := 160) (pc' := 176) rfl (hb hby at_160) (by decide) (by decide) ?_
    show Steps p.tables e below (Td0.setTop (mkF m 176 #[.val (.int p1), .val (.int p2), .val (.int p3), .val (.int p4), .val (.int p5), .val (.int (2 : Int32)), .val (.ref wAVG), .val (.int (1 : Int32)), .val (.long x0), .second, .val (.long (x0 + y1)), .second, .val (.long ((x0 + y1) + y2)), .second, .val (.ref b), uu, uu, uu, uu, uu, uu, uu, uu] [(.long x0)])) _
    refine XS.lstore Xd0.here hx rfl (hb hby at_176) rfl (l' := #[.val (.int p1), .val (.int p2), .val (.int p3), .val (.int p4), .val (.int p5), .val (.int (2 : Int32)), .val (.ref wAVG), .val (.int (1 : Int32)), .val (.long x0), .second, .val (.long (x0 + y1)), .second, .val (.long ((x0 + y1) + y2)), .second, .val (.ref b), .val (.long x0), .second, uu, uu, uu, uu, uu, uu]) rfl ?_
    show Steps p.tables e below (Td0.setTop (mkF m 178 #[.val (.int p1), .val (.int p2), .val (.int p3), .val (.int p4), .val (.int p5), .val (.int (2 : Int32)), .val (.ref wAVG), .val (.int (1 : Int32)), .val (.long x0), .second, .val (.long (x0 + y1)), .second, .val (.long ((x0 + y1) + y2)), .second, .val (.ref b), .val (.long x0), .second, uu, uu, uu, uu, uu, uu] [])) _
    refine XS.iload Xd0.here hx rfl (hb hby at_178) rfl ?_
    show Steps p.tables e below (Td0.setTop (mkF m 180 #[.val (.int p1), .val (.int p2), .val (.int p3), .val (.int p4), .val (.int p5), .val (.int (2 : Int32)), .val (.ref wAVG), .val (.int (1 : Int32)), .val (.long x0), .second, .val (.long (x0 + y1)), .second, .val (.long ((x0 + y1) + y2)), .second, .val (.ref b), .val (.long x0), .second, uu, uu, uu, uu, uu, uu] [(.int (1 : Int32))])) _
    refine XS.iconst Xd0.here hx rfl (hb hby at_180) ?_
    show Steps p.tables e below (Td0.setTop (mkF m 181 #[.val (.int p1), .val (.int p2), .val (.int p3), .val (.int p4), .val (.int p5), .val (.int (2 : Int32)), .val (.ref wAVG), .val (.int (1 : Int32)), .val (.long x0), .second, .val (.long (x0 + y1)), .second, .val (.long ((x0 + y1) + y2)), .second, .val (.ref b), .val (.long x0), .second, uu, uu, uu, uu, uu, uu] [(.int (1 : Int32)), (.int (1 : Int32))])) _
    refine XS.icmpNo Xd0.here hx rfl (hb hby at_181) rfl (teq (by decide : (1 : Int32) = (1 : Int32))).2 ?_
    show Steps p.tables e below (Td0.setTop (mkF m 184 #[.val (.int p1), .val (.int p2), .val (.int p3), .val (.int p4), .val (.int p5), .val (.int (2 : Int32)), .val (.ref wAVG), .val (.int (1 : Int32)), .val (.long x0), .second, .val (.long (x0 + y1)), .second, .val (.long ((x0 + y1) + y2)), .second, .val (.ref b), .val (.long x0), .second, uu, uu, uu, uu, uu, uu] [])) _
    refine XS.lload Xd0.here hx rfl (hb hby at_184) rfl ?_
    show Steps p.tables e below (Td0.setTop (mkF m 186 #[.val (.int p1), .val (.int p2), .val (.int p3), .val (.int p4), .val (.int p5), .val (.int (2 : Int32)), .val (.ref wAVG), .val (.int (1 : Int32)), .val (.long x0), .second, .val (.long (x0 + y1)), .second, .val (.long ((x0 + y1) + y2)), .second, .val (.ref b), .val (.long x0), .second, uu, uu, uu, uu, uu, uu] [(.long x0)])) _
    refine XS.goto Xd0.here hx rfl (pc0 := 186) (pc' := 211) rfl (hb hby at_186) (by decide) (by decide) ?_
    show Steps p.tables e below (Td0.setTop (mkF m 211 #[.val (.int p1), .val (.int p2), .val (.int p3), .val (.int p4), .val (.int p5), .val (.int (2 : Int32)), .val (.ref wAVG), .val (.int (1 : Int32)), .val (.long x0), .second, .val (.long (x0 + y1)), .second, .val (.long ((x0 + y1) + y2)), .second, .val (.ref b), .val (.long x0), .second, uu, uu, uu, uu, uu, uu] [(.long x0)])) _
    refine XS.lstore Xd0.here hx rfl (hb hby at_211) rfl (l' := #[.val (.int p1), .val (.int p2), .val (.int p3), .val (.int p4), .val (.int p5), .val (.int (2 : Int32)), .val (.ref wAVG), .val (.int (1 : Int32)), .val (.long x0), .second, .val (.long (x0 + y1)), .second, .val (.long ((x0 + y1) + y2)), .second, .val (.ref b), .val (.long x0), .second, .val (.long x0), .second, uu, uu, uu, uu]) rfl ?_
    show Steps p.tables e below (Td0.setTop (mkF m 213 #[.val (.int p1), .val (.int p2), .val (.int p3), .val (.int p4), .val (.int p5), .val (.int (2 : Int32)), .val (.ref wAVG), .val (.int (1 : Int32)), .val (.long x0), .second, .val (.long (x0 + y1)), .second, .val (.long ((x0 + y1) + y2)), .second, .val (.ref b), .val (.long x0), .second, .val (.long x0), .second, uu, uu, uu, uu] [])) _
    refine XS.iload Xd0.here hx rfl (hb hby at_213) rfl ?_
    show Steps p.tables e below (Td0.setTop (mkF m 215 #[.val (.int p1), .val (.int p2), .val (.int p3), .val (.int p4), .val (.int p5), .val (.int (2 : Int32)), .val (.ref wAVG), .val (.int (1 : Int32)), .val (.long x0), .second, .val (.long (x0 + y1)), .second, .val (.long ((x0 + y1) + y2)), .second, .val (.ref b), .val (.long x0), .second, .val (.long x0), .second, uu, uu, uu, uu] [(.int (2 : Int32))])) _
    refine XS.ifYes Xd0.here hx rfl (pc0 := 215) (pc' := 226) rfl (hb hby at_215) rfl ((if0 _ _).trans (feq (by decide : ¬ ((2 : Int32) = (0 : Int32)))).2) (by decide) (by decide) ?_
    show Steps p.tables e below (Td0.setTop (mkF m 226 #[.val (.int p1), .val (.int p2), .val (.int p3), .val (.int p4), .val (.int p5), .val (.int (2 : Int32)), .val (.ref wAVG), .val (.int (1 : Int32)), .val (.long x0), .second, .val (.long (x0 + y1)), .second, .val (.long ((x0 + y1) + y2)), .second, .val (.ref b), .val (.long x0), .second, .val (.long x0), .second, uu, uu, uu, uu] [])) _
    refine XS.iload Xd0.here hx rfl (hb hby at_226) rfl ?_
    show Steps p.tables e below (Td0.setTop (mkF m 228 #[.val (.int p1), .val (.int p2), .val (.int p3), .val (.int p4), .val (.int p5), .val (.int (2 : Int32)), .val (.ref wAVG), .val (.int (1 : Int32)), .val (.long x0), .second, .val (.long (x0 + y1)), .second, .val (.long ((x0 + y1) + y2)), .second, .val (.ref b), .val (.long x0), .second, .val (.long x0), .second, uu, uu, uu, uu] [(.int (2 : Int32))])) _
    refine XS.iconst Xd0.here hx rfl (hb hby at_228) ?_
    show Steps p.tables e below (Td0.setTop (mkF m 229 #[.val (.int p1), .val (.int p2), .val (.int p3), .val (.int p4), .val (.int p5), .val (.int (2 : Int32)), .val (.ref wAVG), .val (.int (1 : Int32)), .val (.long x0), .second, .val (.long (x0 + y1)), .second, .val (.long ((x0 + y1) + y2)), .second, .val (.ref b), .val (.long x0), .second, .val (.long x0), .second, uu, uu, uu, uu] [(.int (1 : Int32)), (.int (2 : Int32))])) _
    refine XS.icmpYes Xd0.here hx rfl (pc0 := 229) (pc' := 240) rfl (hb hby at_229) rfl (feq (by decide : ¬ ((2 : Int32) = (1 : Int32)))).2 (by decide) (by decide) ?_
    show Steps p.tables e below (Td0.setTop (mkF m 240 #[.val (.int p1), .val (.int p2), .val (.int p3), .val (.int p4), .val (.int p5), .val (.int (2 : Int32)), .val (.ref wAVG), .val (.int (1 : Int32)), .val (.long x0), .second, .val (.long (x0 + y1)), .second, .val (.long ((x0 + y1) + y2)), .second, .val (.ref b), .val (.long x0), .second, .val (.long x0), .second, uu, uu, uu, uu] [])) _
    refine XS.iload Xd0.here hx rfl (hb hby at_240) rfl ?_
    show Steps p.tables e below (Td0.setTop (mkF m 242 #[.val (.int p1), .val (.int p2), .val (.int p3), .val (.int p4), .val (.int p5), .val (.int (2 : Int32)), .val (.ref wAVG), .val (.int (1 : Int32)), .val (.long x0), .second, .val (.long (x0 + y1)), .second, .val (.long ((x0 + y1) + y2)), .second, .val (.ref b), .val (.long x0), .second, .val (.long x0), .second, uu, uu, uu, uu] [(.int (2 : Int32))])) _
    refine XS.iconst Xd0.here hx rfl (hb hby at_242) ?_
    show Steps p.tables e below (Td0.setTop (mkF m 243 #[.val (.int p1), .val (.int p2), .val (.int p3), .val (.int p4), .val (.int p5), .val (.int (2 : Int32)), .val (.ref wAVG), .val (.int (1 : Int32)), .val (.long x0), .second, .val (.long (x0 + y1)), .second, .val (.long ((x0 + y1) + y2)), .second, .val (.ref b), .val (.long x0), .second, .val (.long x0), .second, uu, uu, uu, uu] [(.int (2 : Int32)), (.int (2 : Int32))])) _
    refine XS.icmpNo Xd0.here hx rfl (hb hby at_243) rfl (teq (by decide : (2 : Int32) = (2 : Int32))).2 ?_
    show Steps p.tables e below (Td0.setTop (mkF m 246 #[.val (.int p1), .val (.int p2), .val (.int p3), .val (.int p4), .val (.int p5), .val (.int (2 : Int32)), .val (.ref wAVG), .val (.int (1 : Int32)), .val (.long x0), .second, .val (.long (x0 + y1)), .second, .val (.long ((x0 + y1) + y2)), .second, .val (.ref b), .val (.long x0), .second, .val (.long x0), .second, uu, uu, uu, uu] [])) _
    refine XS.lload Xd0.here hx rfl (hb hby at_246) rfl ?_
    show Steps p.tables e below (Td0.setTop (mkF m 248 #[.val (.int p1), .val (.int p2), .val (.int p3), .val (.int p4), .val (.int p5), .val (.int (2 : Int32)), .val (.ref wAVG), .val (.int (1 : Int32)), .val (.long x0), .second, .val (.long (x0 + y1)), .second, .val (.long ((x0 + y1) + y2)), .second, .val (.ref b), .val (.long x0), .second, .val (.long x0), .second, uu, uu, uu, uu] [(.long x0)])) _
    refine XS.l2dS Xd0.here hx rfl (hb hby at_248) rfl (v := FP.l2d x0) rfl ?_
    show Steps p.tables e below (Td0.setTop (mkF m 249 #[.val (.int p1), .val (.int p2), .val (.int p3), .val (.int p4), .val (.int p5), .val (.int (2 : Int32)), .val (.ref wAVG), .val (.int (1 : Int32)), .val (.long x0), .second, .val (.long (x0 + y1)), .second, .val (.long ((x0 + y1) + y2)), .second, .val (.ref b), .val (.long x0), .second, .val (.long x0), .second, uu, uu, uu, uu] [(.double (FP.l2d x0))])) _
    refine XS.iload Xd0.here hx rfl (hb hby at_249) rfl ?_
    show Steps p.tables e below (Td0.setTop (mkF m 251 #[.val (.int p1), .val (.int p2), .val (.int p3), .val (.int p4), .val (.int p5), .val (.int (2 : Int32)), .val (.ref wAVG), .val (.int (1 : Int32)), .val (.long x0), .second, .val (.long (x0 + y1)), .second, .val (.long ((x0 + y1) + y2)), .second, .val (.ref b), .val (.long x0), .second, .val (.long x0), .second, uu, uu, uu, uu] [(.int (1 : Int32)), (.double (FP.l2d x0))])) _
    refine XS.i2dS Xd0.here hx rfl (hb hby at_251) rfl (v := FP.l2d (1 : Int32).toInt64) (i2d_w _) ?_
    show Steps p.tables e below (Td0.setTop (mkF m 252 #[.val (.int p1), .val (.int p2), .val (.int p3), .val (.int p4), .val (.int p5), .val (.int (2 : Int32)), .val (.ref wAVG), .val (.int (1 : Int32)), .val (.long x0), .second, .val (.long (x0 + y1)), .second, .val (.long ((x0 + y1) + y2)), .second, .val (.ref b), .val (.long x0), .second, .val (.long x0), .second, uu, uu, uu, uu] [(.double (FP.l2d (1 : Int32).toInt64)), (.double (FP.l2d x0))])) _
    refine XS.ddivS Xd0.here hx rfl (hb hby at_252) rfl (own_div (by decide)) rfl ?_
    show Steps p.tables e below (Td0.setTop (mkF m 253 #[.val (.int p1), .val (.int p2), .val (.int p3), .val (.int p4), .val (.int p5), .val (.int (2 : Int32)), .val (.ref wAVG), .val (.int (1 : Int32)), .val (.long x0), .second, .val (.long (x0 + y1)), .second, .val (.long ((x0 + y1) + y2)), .second, .val (.ref b), .val (.long x0), .second, .val (.long x0), .second, uu, uu, uu, uu] [(.double (FP.ddiv (FP.l2d x0) (FP.l2d (1 : Int32).toInt64)))])) _
    refine XS.dstore Xd0.here hx rfl (hb hby at_253) rfl (l' := #[.val (.int p1), .val (.int p2), .val (.int p3), .val (.int p4), .val (.int p5), .val (.int (2 : Int32)), .val (.ref wAVG), .val (.int (1 : Int32)), .val (.long x0), .second, .val (.long (x0 + y1)), .second, .val (.long ((x0 + y1) + y2)), .second, .val (.ref b), .val (.long x0), .second, .val (.long x0), .second, .val (.double (FP.ddiv (FP.l2d x0) (FP.l2d (1 : Int32).toInt64))), .second, uu, uu]) rfl ?_
    show Steps p.tables e below (Td0.setTop (mkF m 255 #[.val (.int p1), .val (.int p2), .val (.int p3), .val (.int p4), .val (.int p5), .val (.int (2 : Int32)), .val (.ref wAVG), .val (.int (1 : Int32)), .val (.long x0), .second, .val (.long (x0 + y1)), .second, .val (.long ((x0 + y1) + y2)), .second, .val (.ref b), .val (.long x0), .second, .val (.long x0), .second, .val (.double (FP.ddiv (FP.l2d x0) (FP.l2d (1 : Int32).toInt64))), .second, uu, uu] [])) _
    refine XS.goto Xd0.here hx rfl (pc0 := 255) (pc' := 263) rfl (hb hby at_255) (by decide) (by decide) ?_
    show Steps p.tables e below (Td0.setTop (mkF m 263 #[.val (.int p1), .val (.int p2), .val (.int p3), .val (.int p4), .val (.int p5), .val (.int (2 : Int32)), .val (.ref wAVG), .val (.int (1 : Int32)), .val (.long x0), .second, .val (.long (x0 + y1)), .second, .val (.long ((x0 + y1) + y2)), .second, .val (.ref b), .val (.long x0), .second, .val (.long x0), .second, .val (.double (FP.ddiv (FP.l2d x0) (FP.l2d (1 : Int32).toInt64))), .second, uu, uu] [])) _
    refine XS.aload Xd0.here hx rfl (hb hby at_263) rfl rfl ?_
    show Steps p.tables e below (Td0.setTop (mkF m 265 #[.val (.int p1), .val (.int p2), .val (.int p3), .val (.int p4), .val (.int p5), .val (.int (2 : Int32)), .val (.ref wAVG), .val (.int (1 : Int32)), .val (.long x0), .second, .val (.long (x0 + y1)), .second, .val (.long ((x0 + y1) + y2)), .second, .val (.ref b), .val (.long x0), .second, .val (.long x0), .second, .val (.double (FP.ddiv (FP.l2d x0) (FP.l2d (1 : Int32).toInt64))), .second, uu, uu] [(.ref wAVG)])) _
    refine XS.aload Xd0.here hx rfl (hb hby at_265) rfl rfl ?_
    show Steps p.tables e below (Td0.setTop (mkF m 267 #[.val (.int p1), .val (.int p2), .val (.int p3), .val (.int p4), .val (.int p5), .val (.int (2 : Int32)), .val (.ref wAVG), .val (.int (1 : Int32)), .val (.long x0), .second, .val (.long (x0 + y1)), .second, .val (.long ((x0 + y1) + y2)), .second, .val (.ref b), .val (.long x0), .second, .val (.long x0), .second, .val (.double (FP.ddiv (FP.l2d x0) (FP.l2d (1 : Int32).toInt64))), .second, uu, uu] [(.ref b), (.ref wAVG)])) _
    refine stc.trans ?_
    show Steps p.tables e below (Tc.setTop (mkF m 270 #[.val (.int p1), .val (.int p2), .val (.int p3), .val (.int p4), .val (.int p5), .val (.int (2 : Int32)), .val (.ref wAVG), .val (.int (1 : Int32)), .val (.long x0), .second, .val (.long (x0 + y1)), .second, .val (.long ((x0 + y1) + y2)), .second, .val (.ref b), .val (.long x0), .second, .val (.long x0), .second, .val (.double (FP.ddiv (FP.l2d x0) (FP.l2d (1 : Int32).toInt64))), .second, uu, uu] [(.double (FP.ddiv (FP.l2d x0) (FP.l2d (1 : Int32).toInt64)))])) _
    refine XS.dstore Xc.here hx rfl (hb hby at_270) rfl (l' := #[.val (.int p1), .val (.int p2), .val (.int p3), .val (.int p4), .val (.int p5), .val (.int (2 : Int32)), .val (.ref wAVG), .val (.int (1 : Int32)), .val (.long x0), .second, .val (.long (x0 + y1)), .second, .val (.long ((x0 + y1) + y2)), .second, .val (.ref b), .val (.long x0), .second, .val (.long x0), .second, .val (.double (FP.ddiv (FP.l2d x0) (FP.l2d (1 : Int32).toInt64))), .second, .val (.double (FP.ddiv (FP.l2d x0) (FP.l2d (1 : Int32).toInt64))), .second]) rfl ?_
    show Steps p.tables e below (Tc.setTop (mkF m 272 #[.val (.int p1), .val (.int p2), .val (.int p3), .val (.int p4), .val (.int p5), .val (.int (2 : Int32)), .val (.ref wAVG), .val (.int (1 : Int32)), .val (.long x0), .second, .val (.long (x0 + y1)), .second, .val (.long ((x0 + y1) + y2)), .second, .val (.ref b), .val (.long x0), .second, .val (.long x0), .second, .val (.double (FP.ddiv (FP.l2d x0) (FP.l2d (1 : Int32).toInt64))), .second, .val (.double (FP.ddiv (FP.l2d x0) (FP.l2d (1 : Int32).toInt64))), .second] [])) _
    refine XS.dload Xc.here hx rfl (hb hby at_272) rfl ?_
    show Steps p.tables e below (Tc.setTop (mkF m 274 #[.val (.int p1), .val (.int p2), .val (.int p3), .val (.int p4), .val (.int p5), .val (.int (2 : Int32)), .val (.ref wAVG), .val (.int (1 : Int32)), .val (.long x0), .second, .val (.long (x0 + y1)), .second, .val (.long ((x0 + y1) + y2)), .second, .val (.ref b), .val (.long x0), .second, .val (.long x0), .second, .val (.double (FP.ddiv (FP.l2d x0) (FP.l2d (1 : Int32).toInt64))), .second, .val (.double (FP.ddiv (FP.l2d x0) (FP.l2d (1 : Int32).toInt64))), .second] [(.double (FP.ddiv (FP.l2d x0) (FP.l2d (1 : Int32).toInt64)))])) _
    refine XS.dload Xc.here hx rfl (hb hby at_274) rfl ?_
    show Steps p.tables e below (Tc.setTop (mkF m 276 #[.val (.int p1), .val (.int p2), .val (.int p3), .val (.int p4), .val (.int p5), .val (.int (2 : Int32)), .val (.ref wAVG), .val (.int (1 : Int32)), .val (.long x0), .second, .val (.long (x0 + y1)), .second, .val (.long ((x0 + y1) + y2)), .second, .val (.ref b), .val (.long x0), .second, .val (.long x0), .second, .val (.double (FP.ddiv (FP.l2d x0) (FP.l2d (1 : Int32).toInt64))), .second, .val (.double (FP.ddiv (FP.l2d x0) (FP.l2d (1 : Int32).toInt64))), .second] [(.double (FP.ddiv (FP.l2d x0) (FP.l2d (1 : Int32).toInt64))), (.double (FP.ddiv (FP.l2d x0) (FP.l2d (1 : Int32).toInt64)))])) _
    refine XS.dcmpS Xc.here hx rfl (hb hby at_276) rfl (v := (0 : Int32)) (dcmpV_self (own_div (by decide)) _) ?_
    show Steps p.tables e below (Tc.setTop (mkF m 277 #[.val (.int p1), .val (.int p2), .val (.int p3), .val (.int p4), .val (.int p5), .val (.int (2 : Int32)), .val (.ref wAVG), .val (.int (1 : Int32)), .val (.long x0), .second, .val (.long (x0 + y1)), .second, .val (.long ((x0 + y1) + y2)), .second, .val (.ref b), .val (.long x0), .second, .val (.long x0), .second, .val (.double (FP.ddiv (FP.l2d x0) (FP.l2d (1 : Int32).toInt64))), .second, .val (.double (FP.ddiv (FP.l2d x0) (FP.l2d (1 : Int32).toInt64))), .second] [(.int (0 : Int32))])) _
    refine XS.ifNo Xc.here hx rfl (hb hby at_277) rfl ((if0 _ _).trans (teq (by decide : (0 : Int32) = (0 : Int32))).2) ?_
    show Steps p.tables e below (Tc.setTop (mkF m 280 #[.val (.int p1), .val (.int p2), .val (.int p3), .val (.int p4), .val (.int p5), .val (.int (2 : Int32)), .val (.ref wAVG), .val (.int (1 : Int32)), .val (.long x0), .second, .val (.long (x0 + y1)), .second, .val (.long ((x0 + y1) + y2)), .second, .val (.ref b), .val (.long x0), .second, .val (.long x0), .second, .val (.double (FP.ddiv (FP.l2d x0) (FP.l2d (1 : Int32).toInt64))), .second, .val (.double (FP.ddiv (FP.l2d x0) (FP.l2d (1 : Int32).toInt64))), .second] [])) _
    refine XS.iconst Xc.here hx rfl (hb hby at_280) ?_
    show Steps p.tables e below (Tc.setTop (mkF m 281 #[.val (.int p1), .val (.int p2), .val (.int p3), .val (.int p4), .val (.int p5), .val (.int (2 : Int32)), .val (.ref wAVG), .val (.int (1 : Int32)), .val (.long x0), .second, .val (.long (x0 + y1)), .second, .val (.long ((x0 + y1) + y2)), .second, .val (.ref b), .val (.long x0), .second, .val (.long x0), .second, .val (.double (FP.ddiv (FP.l2d x0) (FP.l2d (1 : Int32).toInt64))), .second, .val (.double (FP.ddiv (FP.l2d x0) (FP.l2d (1 : Int32).toInt64))), .second] [(.int (1 : Int32))])) _
    refine XS.goto Xc.here hx rfl (pc0 := 281) (pc' := 285) rfl (hb hby at_281) (by decide) (by decide) ?_
    show Steps p.tables e below (Tc.setTop (mkF m 285 #[.val (.int p1), .val (.int p2), .val (.int p3), .val (.int p4), .val (.int p5), .val (.int (2 : Int32)), .val (.ref wAVG), .val (.int (1 : Int32)), .val (.long x0), .second, .val (.long (x0 + y1)), .second, .val (.long ((x0 + y1) + y2)), .second, .val (.ref b), .val (.long x0), .second, .val (.long x0), .second, .val (.double (FP.ddiv (FP.l2d x0) (FP.l2d (1 : Int32).toInt64))), .second, .val (.double (FP.ddiv (FP.l2d x0) (FP.l2d (1 : Int32).toInt64))), .second] [(.int (1 : Int32))])) _
    exact retN Xc hx (t := .boolean) Bd.returns (by simp) (hb hby at_285) hr
  · show Q0 h0 n0 _ Tc.heap _
    exact ⟨rfl, Nc⟩
set_option maxRecDepth 65536 in
set_option maxHeartbeats 40000000 in
theorem rm0_2_2 (l : Launch) (Z : State) (a0 : Array Value) (hw : ∀ d ∈ tables_1, d.before a0 Z = true) (ws : List Jvm.Cond) (p1 p2 p3 p4 p5 : Int32) (wMIN wMAX wAVG wSUM : Addr) (x0 y1 y2 : Int64) (h0 : Heap) (n0 : Nat) (Z0 : n0 ≤ h0.size) (S_MIN : Sta Z h0 "com/example/tiebreaker/tiebreaker/engine/search/DecayFunction$MultiValueMode" "MIN" "Lcom/example/tiebreaker/tiebreaker/engine/search/DecayFunction$MultiValueMode;" (.ref wMIN)) (S_MAX : Sta Z h0 "com/example/tiebreaker/tiebreaker/engine/search/DecayFunction$MultiValueMode" "MAX" "Lcom/example/tiebreaker/tiebreaker/engine/search/DecayFunction$MultiValueMode;" (.ref wMAX)) (S_AVG : Sta Z h0 "com/example/tiebreaker/tiebreaker/engine/search/DecayFunction$MultiValueMode" "AVG" "Lcom/example/tiebreaker/tiebreaker/engine/search/DecayFunction$MultiValueMode;" (.ref wAVG)) (S_SUM : Sta Z h0 "com/example/tiebreaker/tiebreaker/engine/search/DecayFunction$MultiValueMode" "SUM" "Lcom/example/tiebreaker/tiebreaker/engine/search/DecayFunction$MultiValueMode;" (.ref wSUM)) (nXI : ¬ wMAX = wMIN) (nAI : ¬ wAVG = wMIN) (nAX : ¬ wAVG = wMAX) (nSI : ¬ wSUM = wMIN) (nSX : ¬ wSUM = wMAX) (nAS : ¬ wAVG = wSUM) (E_m : Exa Z h0 wAVG "com/example/tiebreaker/tiebreaker/engine/search/DecayFunction$MultiValueMode") (hx0 : x0 = (p3 &&& (1048575 : Int32)).toInt64) (hy1 : y1 = (p4 &&& (1048575 : Int32)).toInt64) (hy2 : y2 = (p5 &&& (1048575 : Int32)).toInt64) (b0 : 0 ≤ x0.toInt ∧ x0.toInt < 4000000) (b1 : 0 ≤ (x0 + y1).toInt ∧ (x0 + y1).toInt < 4000000) (b2 : 0 ≤ ((x0 + y1) + y2).toInt ∧ ((x0 + y1) + y2).toInt < 4000000) (hm : (p1 &&& (3 : Int32)) = (2 : Int32)) (hn : (((p2 &&& (2147483647 : Int32)) % (3 : Int32)) + (1 : Int32)) = (2 : Int32)) :
    MetFree l x (head1 (Jvm.Cond.code x code maxLocals ret :: ws) room_1) (fun a U => a = #[(.int p1), (.int p2), (.int p3), (.int p4), (.int p5)] ∧ Z.Warmed39 U.vm ∧ U.heap = h0) (fun _ _ _ _ _ => True) (fun _ U o U' => ∃ v L, o = .returned v ∧ Q0 h0 n0 v U'.heap L ∧ FrameEnd U o U' L room_1.cells room_1.slots) := by
  refine MetFree.of_bodySF (plainFor_of_name pn_0) hisR ?_
  intro p e s m args below meth c s₁ Bd hml0 hP hK
  obtain ⟨rfl, hZ, hh⟩ := hP
  have hx := Bd.exec
  have hby := Bd.bytes
  have hml : c.maxLocals = 23 := hml0
  have hown : s.vm.findClass "com/example/tiebreaker/tiebreaker/engine/search/MultiValueModePickPinLaw" = some m.cls := findClass_of_methodNamed Bd.named
  have X0 : Stand p l e room_1 s m #[(.int p1), (.int p2), (.int p3), (.int p4), (.int p5)] below meth c s₁ [] 0 0 := Stand.of_body Bd
  have e0 : s₁.heap = h0 := by rw [← hh, Bd.state]; rfl
  have N0 := Fr.nil n0
  have pre0 : ∀ t, Steps p.tables e below (s₁.setTop (mkF m 0 #[.val (.int p1), .val (.int p2), .val (.int p3), .val (.int p4), .val (.int p5), uu, uu, uu, uu, uu, uu, uu, uu, uu, uu, uu, uu, uu, uu, uu, uu, uu, uu] [])) t → Steps p.tables e below (s₁.setTop (entryFrame m #[(.int p1), (.int p2), (.int p3), (.int p4), (.int p5)] maxLocals)) t := fun t k => castTop (ef_0 m p1 p2 p3 p4 p5) k
  obtain ⟨T50, X50, e50, st50⟩ := getS2 X0 hx hZ hown (host := "") (Or.inl (hw _ (List.mem_of_getElem? (i := 17) rfl))) Via.refl e0 S_AVG (g := (mkF m 34 #[.val (.int p1), .val (.int p2), .val (.int p3), .val (.int p4), .val (.int p5), .val (.int (2 : Int32)), uu, uu, uu, uu, uu, uu, uu, uu, uu, uu, uu, uu, uu, uu, uu, uu, uu] [])) rfl (hb hby at_34)
  obtain ⟨Ta, ha, ka, Xa, ea, Ea, Aa, sta_⟩ := newP X50 hx hZ (hw _ (List.mem_of_getElem? (i := 5) rfl)) e50 (g := (mkF m 110 #[.val (.int p1), .val (.int p2), .val (.int p3), .val (.int p4), .val (.int p5), .val (.int (2 : Int32)), .val (.ref wAVG), .val (.int (2 : Int32)), .val (.long x0), .second, .val (.long (x0 + y1)), .second, .val (.long ((x0 + y1) + y2)), .second, uu, uu, uu, uu, uu, uu, uu, uu, uu] [(.int (2 : Int32))])) rfl (hb hby at_110) rfl (by decide) (cap := 2) (by decide) (by decide) (by decide) (by decide)
  obtain ⟨b, gb⟩ : ∃ z, z = h0.size := ⟨_, rfl⟩
  rw [← gb] at Aa sta_
  have V0 : Arv Z ha b ka .double (2 : Int32) [] (.double (FP.l2d 0)) := Arv.newD Aa (by decide)
  have Vp : Arv Z ha b ka .double (2 : Int32) (List.replicate 2 (.double (FP.l2d 0))) (.double (FP.l2d 0)) := V0.pad (pad_rep [] (.double (FP.l2d 0)) 2)
  have g_b : n0 ≤ b := Nat.le_trans Z0 (Nat.le_of_eq gb.symm)
  have sz_b : h0.size ≤ b := Nat.le_of_eq gb.symm
  have Ka : Keep h0 ha [] := (Keep.refl h0 []).ext Ea
  obtain ⟨cl0, Ar0, q0, Sz0, M0, H0, U0⟩ := Vp
  obtain ⟨Td0, hd0, Xd0, ed0, Wd0, std0⟩ := stD Xa hx hZ ea Ar0 (j := (0 : Int32)) (inb_of Sz0 (by decide)) (g := (mkF m 117 #[.val (.int p1), .val (.int p2), .val (.int p3), .val (.int p4), .val (.int p5), .val (.int (2 : Int32)), .val (.ref wAVG), .val (.int (2 : Int32)), .val (.long x0), .second, .val (.long (x0 + y1)), .second, .val (.long ((x0 + y1) + y2)), .second, uu, uu, uu, uu, uu, uu, uu, uu, uu] [(.double (FP.l2d x0)), (.int (0 : Int32)), (.ref b), (.ref b)])) rfl rfl (hb hby at_117)
  have V1 := Arv.set Ar0 q0 Sz0 M0 H0 U0 (v := (.double (FP.l2d x0))) rfl Wd0 0 rfl (by simp)
  have Nd0 := Fr.snoc Xd0 N0 g_b
  have Kd0 : Keep h0 hd0 [] := Ka.wr Wd0 (Or.inr sz_b)
  obtain ⟨cl1, Ar1, q1, Sz1, M1, H1, U1⟩ := V1
  obtain ⟨Td1, hd1, Xd1, ed1, Wd1, std1⟩ := stD Xd0 hx hZ ed0 Ar1 (j := (1 : Int32)) (inb_of Sz1 (by decide)) (g := (mkF m 123 #[.val (.int p1), .val (.int p2), .val (.int p3), .val (.int p4), .val (.int p5), .val (.int (2 : Int32)), .val (.ref wAVG), .val (.int (2 : Int32)), .val (.long x0), .second, .val (.long (x0 + y1)), .second, .val (.long ((x0 + y1) + y2)), .second, uu, uu, uu, uu, uu, uu, uu, uu, uu] [(.double (FP.l2d (x0 + y1))), (.int (1 : Int32)), (.ref b), (.ref b)])) rfl rfl (hb hby at_123)
  have V2 := Arv.set Ar1 q1 Sz1 M1 H1 U1 (v := (.double (FP.l2d (x0 + y1)))) rfl Wd1 1 rfl (by simp)
  have Nd1 := Fr.snoc Xd1 Nd0 g_b
  have Kd1 : Keep h0 hd1 [] := Kd0.wr Wd1 (Or.inr sz_b)
  have KK : Keep h0 hd1 [] := Kd1
  obtain ⟨cl, Ar, -, Sz, Nn, Hh, -⟩ := V2
  have hat0 : cl.slots[0]? = some (.double (FP.l2d x0)) := Hh 0 (by rw [Sz]; decide)
  have hat1 : cl.slots[1]? = some (.double (FP.l2d (x0 + y1))) := Hh 1 (by rw [Sz]; decide)
  obtain ⟨cq, kq, qa, qb, qc⟩ := isOf hZ ed1 (E_m.keep KK)
  obtain ⟨_, _, ⟨Tc, Lc, kc, nc⟩, -, Xc, ⟨Lcc, hQc, lc, yc, zc⟩, stc⟩ := Xd1.virtualBack hx (y := (⟨"com/example/tiebreaker/tiebreaker/engine/search/DecayFunction$MultiValueMode", "pick", "([D)D"⟩ : MethodName)) (z := (⟨"com/example/tiebreaker/tiebreaker/engine/search/DecayFunction$MultiValueMode", "pick", "([D)D"⟩ : MethodName)) hown (mvT hZ (hw _ (List.mem_of_getElem? (i := 6) rfl))) (mvT hZ (hw _ (List.mem_of_getElem? (i := 7) rfl))) (notFace_of_selects (args := #[]) (mvT hZ (hw _ (List.mem_of_getElem? (i := 9) rfl)))) (mvT hZ (hw _ (List.mem_of_getElem? (i := 9) rfl))) (mvT hZ (hw _ (List.mem_of_getElem? (i := 8) rfl))) (by decide) (backOf (W := 0) (rm1_AVG_2 l Z a0 hw [] b wMIN wMAX wAVG wSUM x0 (x0 + y1) hd1 n0 (Nat.le_trans Z0 KK.1) (own_sta S_MIN KK) (own_sta S_MAX KK) (own_sta S_AVG KK) (own_sta S_SUM KK) nXI nAI nAX nSI nSX nAS cl Ar Sz Nn hat0 hat1 b0 b1) hZ (hw _ (List.mem_of_getElem? (i := 10) rfl)) (hw _ (List.mem_of_getElem? (i := 1) rfl)) (by decide) (by decide)) qa qc (g := (mkF m 267 #[.val (.int p1), .val (.int p2), .val (.int p3), .val (.int p4), .val (.int p5), .val (.int (2 : Int32)), .val (.ref wAVG), .val (.int (2 : Int32)), .val (.long x0), .second, .val (.long (x0 + y1)), .second, .val (.long ((x0 + y1) + y2)), .second, .val (.ref b), .val (.long (x0 + y1)), .second, .val (.long (x0 + (x0 + y1))), .second, .val (.double (FP.ddiv (FP.l2d (x0 + (x0 + y1))) (FP.l2d (2 : Int32).toInt64))), .second, uu, uu] [(.ref b), (.ref wAVG)])) rfl (by rw [hml]; rfl) (Steps.refl _) (argsL := [(.ref b)]) (rest := []) (lenOf pd_0 rfl) rfl (by show 2 * 0 + _ ≤ _; exact Nat.le_of_eq rfl) (hb hby at_267) (fun _ _ => ⟨rfl, ed1, (by decide : 0 + 1 + 0 ≤ _), (by decide : 0 + 2 + 0 ≤ _)⟩)
  dsimp only [Pt.U, Pt.locs, Pt.cells, Pt.slots] at Xc lc yc zc stc hQc
  subst lc yc zc
  obtain ⟨rfl, Ncq, ec⟩ := hQc
  have Nc := Fr.app Nd1 Ncq
  obtain ⟨fs, hr, hrun, hended, hW, hsame⟩ := Xc.leave (v := some (.int (1 : Int32))) (fun h => by rw [Bd.returns] at h; cases h)
  refine ⟨_, _, pre0 _ ?_, hrun, hended, _, _, rfl, ?_, ⟨_, rfl⟩, hW, hsame.mono (by decide) (by decide)⟩
  · show Steps p.tables e below (s₁.setTop (mkF m 0 #[.val (.int p1), .val (.int p2), .val (.int p3), .val (.int p4), .val (.int p5), uu, uu, uu, uu, uu, uu, uu, uu, uu, uu, uu, uu, uu, uu, uu, uu, uu, uu] [])) _
    refine XS.iloadN X0.here hx rfl (hb hby at_0) rfl ?_
    show Steps p.tables e below (s₁.setTop (mkF m 1 #[.val (.int p1), .val (.int p2), .val (.int p3), .val (.int p4), .val (.int p5), uu, uu, uu, uu, uu, uu, uu, uu, uu, uu, uu, uu, uu, uu, uu, uu, uu, uu] [(.int p1)])) _
    refine XS.iconst X0.here hx rfl (hb hby at_1) ?_
    show Steps p.tables e below (s₁.setTop (mkF m 2 #[.val (.int p1), .val (.int p2), .val (.int p3), .val (.int p4), .val (.int p5), uu, uu, uu, uu, uu, uu, uu, uu, uu, uu, uu, uu, uu, uu, uu, uu, uu, uu] [(.int (3 : Int32)), (.int p1)])) _
    refine XS.iand X0.here hx rfl (hb hby at_2) rfl ?_
    show Steps p.tables e below (s₁.setTop (mkF m 3 #[.val (.int p1), .val (.int p2), .val (.int p3), .val (.int p4), .val (.int p5), uu, uu, uu, uu, uu, uu, uu, uu, uu, uu, uu, uu, uu, uu, uu, uu, uu, uu] [(.int (p1 &&& (3 : Int32)))])) _
    rw [hm]
    show Steps p.tables e below (s₁.setTop (mkF m 3 #[.val (.int p1), .val (.int p2), .val (.int p3), .val (.int p4), .val (.int p5), uu, uu, uu, uu, uu, uu, uu, uu, uu, uu, uu, uu, uu, uu, uu, uu, uu, uu] [(.int (2 : Int32))])) _
    refine XS.istore X0.here hx rfl (hb hby at_3) rfl (l' := #[.val (.int p1), .val (.int p2), .val (.int p3), .val (.int p4), .val (.int p5), .val (.int (2 : Int32)), uu, uu, uu, uu, uu, uu, uu, uu, uu, uu, uu, uu, uu, uu, uu, uu, uu]) rfl ?_
    show Steps p.tables e below (s₁.setTop (mkF m 5 #[.val (.int p1), .val (.int p2), .val (.int p3), .val (.int p4), .val (.int p5), .val (.int (2 : Int32)), uu, uu, uu, uu, uu, uu, uu, uu, uu, uu, uu, uu, uu, uu, uu, uu, uu] [])) _
    refine XS.iload X0.here hx rfl (hb hby at_5) rfl ?_
    show Steps p.tables e below (s₁.setTop (mkF m 7 #[.val (.int p1), .val (.int p2), .val (.int p3), .val (.int p4), .val (.int p5), .val (.int (2 : Int32)), uu, uu, uu, uu, uu, uu, uu, uu, uu, uu, uu, uu, uu, uu, uu, uu, uu] [(.int (2 : Int32))])) _
    refine XS.ifYes X0.here hx rfl (pc0 := 7) (pc' := 16) rfl (hb hby at_7) rfl ((if0 _ _).trans (feq (by decide : ¬ ((2 : Int32) = (0 : Int32)))).2) (by decide) (by decide) ?_
    show Steps p.tables e below (s₁.setTop (mkF m 16 #[.val (.int p1), .val (.int p2), .val (.int p3), .val (.int p4), .val (.int p5), .val (.int (2 : Int32)), uu, uu, uu, uu, uu, uu, uu, uu, uu, uu, uu, uu, uu, uu, uu, uu, uu] [])) _
    refine XS.iload X0.here hx rfl (hb hby at_16) rfl ?_
    show Steps p.tables e below (s₁.setTop (mkF m 18 #[.val (.int p1), .val (.int p2), .val (.int p3), .val (.int p4), .val (.int p5), .val (.int (2 : Int32)), uu, uu, uu, uu, uu, uu, uu, uu, uu, uu, uu, uu, uu, uu, uu, uu, uu] [(.int (2 : Int32))])) _
    refine XS.iconst X0.here hx rfl (hb hby at_18) ?_
    show Steps p.tables e below (s₁.setTop (mkF m 19 #[.val (.int p1), .val (.int p2), .val (.int p3), .val (.int p4), .val (.int p5), .val (.int (2 : Int32)), uu, uu, uu, uu, uu, uu, uu, uu, uu, uu, uu, uu, uu, uu, uu, uu, uu] [(.int (1 : Int32)), (.int (2 : Int32))])) _
    refine XS.icmpYes X0.here hx rfl (pc0 := 19) (pc' := 28) rfl (hb hby at_19) rfl (feq (by decide : ¬ ((2 : Int32) = (1 : Int32)))).2 (by decide) (by decide) ?_
    show Steps p.tables e below (s₁.setTop (mkF m 28 #[.val (.int p1), .val (.int p2), .val (.int p3), .val (.int p4), .val (.int p5), .val (.int (2 : Int32)), uu, uu, uu, uu, uu, uu, uu, uu, uu, uu, uu, uu, uu, uu, uu, uu, uu] [])) _
    refine XS.iload X0.here hx rfl (hb hby at_28) rfl ?_
    show Steps p.tables e below (s₁.setTop (mkF m 30 #[.val (.int p1), .val (.int p2), .val (.int p3), .val (.int p4), .val (.int p5), .val (.int (2 : Int32)), uu, uu, uu, uu, uu, uu, uu, uu, uu, uu, uu, uu, uu, uu, uu, uu, uu] [(.int (2 : Int32))])) _
    refine XS.iconst X0.here hx rfl (hb hby at_30) ?_
    show Steps p.tables e below (s₁.setTop (mkF m 31 #[.val (.int p1), .val (.int p2), .val (.int p3), .val (.int p4), .val (.int p5), .val (.int (2 : Int32)), uu, uu, uu, uu, uu, uu, uu, uu, uu, uu, uu, uu, uu, uu, uu, uu, uu] [(.int (2 : Int32)), (.int (2 : Int32))])) _
    refine XS.icmpNo X0.here hx rfl (hb hby at_31) rfl (teq (by decide : (2 : Int32) = (2 : Int32))).2 ?_
    show Steps p.tables e below (s₁.setTop (mkF m 34 #[.val (.int p1), .val (.int p2), .val (.int p3), .val (.int p4), .val (.int p5), .val (.int (2 : Int32)), uu, uu, uu, uu, uu, uu, uu, uu, uu, uu, uu, uu, uu, uu, uu, uu, uu] [])) _
    refine st50 _ ?_
    show Steps p.tables e below (T50.setTop (mkF m 37 #[.val (.int p1), .val (.int p2), .val (.int p3), .val (.int p4), .val (.int p5), .val (.int (2 : Int32)), uu, uu, uu, uu, uu, uu, uu, uu, uu, uu, uu, uu, uu, uu, uu, uu, uu] [(.ref wAVG)])) _
    refine XS.goto X50.here hx rfl (pc0 := 37) (pc' := 43) rfl (hb hby at_37) (by decide) (by decide) ?_
    show Steps p.tables e below (T50.setTop (mkF m 43 #[.val (.int p1), .val (.int p2), .val (.int p3), .val (.int p4), .val (.int p5), .val (.int (2 : Int32)), uu, uu, uu, uu, uu, uu, uu, uu, uu, uu, uu, uu, uu, uu, uu, uu, uu] [(.ref wAVG)])) _
    refine XS.astore X50.here hx rfl (hb hby at_43) rfl rfl (l' := #[.val (.int p1), .val (.int p2), .val (.int p3), .val (.int p4), .val (.int p5), .val (.int (2 : Int32)), .val (.ref wAVG), uu, uu, uu, uu, uu, uu, uu, uu, uu, uu, uu, uu, uu, uu, uu, uu]) rfl ?_
    show Steps p.tables e below (T50.setTop (mkF m 45 #[.val (.int p1), .val (.int p2), .val (.int p3), .val (.int p4), .val (.int p5), .val (.int (2 : Int32)), .val (.ref wAVG), uu, uu, uu, uu, uu, uu, uu, uu, uu, uu, uu, uu, uu, uu, uu, uu] [])) _
    refine XS.iloadN X50.here hx rfl (hb hby at_45) rfl ?_
    show Steps p.tables e below (T50.setTop (mkF m 46 #[.val (.int p1), .val (.int p2), .val (.int p3), .val (.int p4), .val (.int p5), .val (.int (2 : Int32)), .val (.ref wAVG), uu, uu, uu, uu, uu, uu, uu, uu, uu, uu, uu, uu, uu, uu, uu, uu] [(.int p2)])) _
    refine X50.ldcInt hx hown (mvT hZ (hw _ (List.mem_of_getElem? (i := 3) rfl))) (g := (mkF m 46 #[.val (.int p1), .val (.int p2), .val (.int p3), .val (.int p4), .val (.int p5), .val (.int (2 : Int32)), .val (.ref wAVG), uu, uu, uu, uu, uu, uu, uu, uu, uu, uu, uu, uu, uu, uu, uu, uu] [(.int p2)])) rfl (hb hby at_46) _ ?_
    show Steps p.tables e below (T50.setTop (mkF m 48 #[.val (.int p1), .val (.int p2), .val (.int p3), .val (.int p4), .val (.int p5), .val (.int (2 : Int32)), .val (.ref wAVG), uu, uu, uu, uu, uu, uu, uu, uu, uu, uu, uu, uu, uu, uu, uu, uu] [(.int (2147483647 : Int32)), (.int p2)])) _
    refine XS.iand X50.here hx rfl (hb hby at_48) rfl ?_
    show Steps p.tables e below (T50.setTop (mkF m 49 #[.val (.int p1), .val (.int p2), .val (.int p3), .val (.int p4), .val (.int p5), .val (.int (2 : Int32)), .val (.ref wAVG), uu, uu, uu, uu, uu, uu, uu, uu, uu, uu, uu, uu, uu, uu, uu, uu] [(.int (p2 &&& (2147483647 : Int32)))])) _
    refine XS.iconst X50.here hx rfl (hb hby at_49) ?_
    show Steps p.tables e below (T50.setTop (mkF m 50 #[.val (.int p1), .val (.int p2), .val (.int p3), .val (.int p4), .val (.int p5), .val (.int (2 : Int32)), .val (.ref wAVG), uu, uu, uu, uu, uu, uu, uu, uu, uu, uu, uu, uu, uu, uu, uu, uu] [(.int (3 : Int32)), (.int (p2 &&& (2147483647 : Int32)))])) _
    refine iremM X50 hx rfl (hb hby at_50) rfl (by decide) ?_
    show Steps p.tables e below (T50.setTop (mkF m 51 #[.val (.int p1), .val (.int p2), .val (.int p3), .val (.int p4), .val (.int p5), .val (.int (2 : Int32)), .val (.ref wAVG), uu, uu, uu, uu, uu, uu, uu, uu, uu, uu, uu, uu, uu, uu, uu, uu] [(.int ((p2 &&& (2147483647 : Int32)) % (3 : Int32)))])) _
    refine XS.iconst X50.here hx rfl (hb hby at_51) ?_
    show Steps p.tables e below (T50.setTop (mkF m 52 #[.val (.int p1), .val (.int p2), .val (.int p3), .val (.int p4), .val (.int p5), .val (.int (2 : Int32)), .val (.ref wAVG), uu, uu, uu, uu, uu, uu, uu, uu, uu, uu, uu, uu, uu, uu, uu, uu] [(.int (1 : Int32)), (.int ((p2 &&& (2147483647 : Int32)) % (3 : Int32)))])) _
    refine XS.iadd X50.here hx rfl (hb hby at_52) rfl ?_
    show Steps p.tables e below (T50.setTop (mkF m 53 #[.val (.int p1), .val (.int p2), .val (.int p3), .val (.int p4), .val (.int p5), .val (.int (2 : Int32)), .val (.ref wAVG), uu, uu, uu, uu, uu, uu, uu, uu, uu, uu, uu, uu, uu, uu, uu, uu] [(.int (((p2 &&& (2147483647 : Int32)) % (3 : Int32)) + (1 : Int32)))])) _
    rw [hn]
    show Steps p.tables e below (T50.setTop (mkF m 53 #[.val (.int p1), .val (.int p2), .val (.int p3), .val (.int p4), .val (.int p5), .val (.int (2 : Int32)), .val (.ref wAVG), uu, uu, uu, uu, uu, uu, uu, uu, uu, uu, uu, uu, uu, uu, uu, uu] [(.int (2 : Int32))])) _
    refine XS.istore X50.here hx rfl (hb hby at_53) rfl (l' := #[.val (.int p1), .val (.int p2), .val (.int p3), .val (.int p4), .val (.int p5), .val (.int (2 : Int32)), .val (.ref wAVG), .val (.int (2 : Int32)), uu, uu, uu, uu, uu, uu, uu, uu, uu, uu, uu, uu, uu, uu, uu]) rfl ?_
    show Steps p.tables e below (T50.setTop (mkF m 55 #[.val (.int p1), .val (.int p2), .val (.int p3), .val (.int p4), .val (.int p5), .val (.int (2 : Int32)), .val (.ref wAVG), .val (.int (2 : Int32)), uu, uu, uu, uu, uu, uu, uu, uu, uu, uu, uu, uu, uu, uu, uu] [])) _
    refine XS.iloadN X50.here hx rfl (hb hby at_55) rfl ?_
    show Steps p.tables e below (T50.setTop (mkF m 56 #[.val (.int p1), .val (.int p2), .val (.int p3), .val (.int p4), .val (.int p5), .val (.int (2 : Int32)), .val (.ref wAVG), .val (.int (2 : Int32)), uu, uu, uu, uu, uu, uu, uu, uu, uu, uu, uu, uu, uu, uu, uu] [(.int p3)])) _
    refine X50.ldcInt hx hown (mvT hZ (hw _ (List.mem_of_getElem? (i := 4) rfl))) (g := (mkF m 56 #[.val (.int p1), .val (.int p2), .val (.int p3), .val (.int p4), .val (.int p5), .val (.int (2 : Int32)), .val (.ref wAVG), .val (.int (2 : Int32)), uu, uu, uu, uu, uu, uu, uu, uu, uu, uu, uu, uu, uu, uu, uu] [(.int p3)])) rfl (hb hby at_56) _ ?_
    show Steps p.tables e below (T50.setTop (mkF m 58 #[.val (.int p1), .val (.int p2), .val (.int p3), .val (.int p4), .val (.int p5), .val (.int (2 : Int32)), .val (.ref wAVG), .val (.int (2 : Int32)), uu, uu, uu, uu, uu, uu, uu, uu, uu, uu, uu, uu, uu, uu, uu] [(.int (1048575 : Int32)), (.int p3)])) _
    refine XS.iand X50.here hx rfl (hb hby at_58) rfl ?_
    show Steps p.tables e below (T50.setTop (mkF m 59 #[.val (.int p1), .val (.int p2), .val (.int p3), .val (.int p4), .val (.int p5), .val (.int (2 : Int32)), .val (.ref wAVG), .val (.int (2 : Int32)), uu, uu, uu, uu, uu, uu, uu, uu, uu, uu, uu, uu, uu, uu, uu] [(.int (p3 &&& (1048575 : Int32)))])) _
    refine XS.i2l X50.here hx rfl (hb hby at_59) rfl ?_
    show Steps p.tables e below (T50.setTop (mkF m 60 #[.val (.int p1), .val (.int p2), .val (.int p3), .val (.int p4), .val (.int p5), .val (.int (2 : Int32)), .val (.ref wAVG), .val (.int (2 : Int32)), uu, uu, uu, uu, uu, uu, uu, uu, uu, uu, uu, uu, uu, uu, uu] [(.long ((p3 &&& (1048575 : Int32)).toInt64))])) _
    rw [← hx0]
    show Steps p.tables e below (T50.setTop (mkF m 60 #[.val (.int p1), .val (.int p2), .val (.int p3), .val (.int p4), .val (.int p5), .val (.int (2 : Int32)), .val (.ref wAVG), .val (.int (2 : Int32)), uu, uu, uu, uu, uu, uu, uu, uu, uu, uu, uu, uu, uu, uu, uu] [(.long x0)])) _
    refine XS.lstore X50.here hx rfl (hb hby at_60) rfl (l' := #[.val (.int p1), .val (.int p2), .val (.int p3), .val (.int p4), .val (.int p5), .val (.int (2 : Int32)), .val (.ref wAVG), .val (.int (2 : Int32)), .val (.long x0), .second, uu, uu, uu, uu, uu, uu, uu, uu, uu, uu, uu, uu, uu]) rfl ?_
    show Steps p.tables e below (T50.setTop (mkF m 62 #[.val (.int p1), .val (.int p2), .val (.int p3), .val (.int p4), .val (.int p5), .val (.int (2 : Int32)), .val (.ref wAVG), .val (.int (2 : Int32)), .val (.long x0), .second, uu, uu, uu, uu, uu, uu, uu, uu, uu, uu, uu, uu, uu] [])) _
    refine XS.lload X50.here hx rfl (hb hby at_62) rfl ?_
    show Steps p.tables e below (T50.setTop (mkF m 64 #[.val (.int p1), .val (.int p2), .val (.int p3), .val (.int p4), .val (.int p5), .val (.int (2 : Int32)), .val (.ref wAVG), .val (.int (2 : Int32)), .val (.long x0), .second, uu, uu, uu, uu, uu, uu, uu, uu, uu, uu, uu, uu, uu] [(.long x0)])) _
    refine XS.iloadN X50.here hx rfl (hb hby at_64) rfl ?_
    show Steps p.tables e below (T50.setTop (mkF m 65 #[.val (.int p1), .val (.int p2), .val (.int p3), .val (.int p4), .val (.int p5), .val (.int (2 : Int32)), .val (.ref wAVG), .val (.int (2 : Int32)), .val (.long x0), .second, uu, uu, uu, uu, uu, uu, uu, uu, uu, uu, uu, uu, uu] [(.int p4), (.long x0)])) _
    refine X50.ldcInt hx hown (mvT hZ (hw _ (List.mem_of_getElem? (i := 4) rfl))) (g := (mkF m 65 #[.val (.int p1), .val (.int p2), .val (.int p3), .val (.int p4), .val (.int p5), .val (.int (2 : Int32)), .val (.ref wAVG), .val (.int (2 : Int32)), .val (.long x0), .second, uu, uu, uu, uu, uu, uu, uu, uu, uu, uu, uu, uu, uu] [(.int p4), (.long x0)])) rfl (hb hby at_65) _ ?_
    show Steps p.tables e below (T50.setTop (mkF m 67 #[.val (.int p1), .val (.int p2), .val (.int p3), .val (.int p4), .val (.int p5), .val (.int (2 : Int32)), .val (.ref wAVG), .val (.int (2 : Int32)), .val (.long x0), .second, uu, uu, uu, uu, uu, uu, uu, uu, uu, uu, uu, uu, uu] [(.int (1048575 : Int32)), (.int p4), (.long x0)])) _
    refine XS.iand X50.here hx rfl (hb hby at_67) rfl ?_
    show Steps p.tables e below (T50.setTop (mkF m 68 #[.val (.int p1), .val (.int p2), .val (.int p3), .val (.int p4), .val (.int p5), .val (.int (2 : Int32)), .val (.ref wAVG), .val (.int (2 : Int32)), .val (.long x0), .second, uu, uu, uu, uu, uu, uu, uu, uu, uu, uu, uu, uu, uu] [(.int (p4 &&& (1048575 : Int32))), (.long x0)])) _
    refine XS.i2l X50.here hx rfl (hb hby at_68) rfl ?_
    show Steps p.tables e below (T50.setTop (mkF m 69 #[.val (.int p1), .val (.int p2), .val (.int p3), .val (.int p4), .val (.int p5), .val (.int (2 : Int32)), .val (.ref wAVG), .val (.int (2 : Int32)), .val (.long x0), .second, uu, uu, uu, uu, uu, uu, uu, uu, uu, uu, uu, uu, uu] [(.long ((p4 &&& (1048575 : Int32)).toInt64)), (.long x0)])) _
    rw [← hy1]
    show Steps p.tables e below (T50.setTop (mkF m 69 #[.val (.int p1), .val (.int p2), .val (.int p3), .val (.int p4), .val (.int p5), .val (.int (2 : Int32)), .val (.ref wAVG), .val (.int (2 : Int32)), .val (.long x0), .second, uu, uu, uu, uu, uu, uu, uu, uu, uu, uu, uu, uu, uu] [(.long y1), (.long x0)])) _
    refine XS.ladd X50.here hx rfl (hb hby at_69) rfl ?_
    show Steps p.tables e below (T50.setTop (mkF m 70 #[.val (.int p1), .val (.int p2), .val (.int p3), .val (.int p4), .val (.int p5), .val (.int (2 : Int32)), .val (.ref wAVG), .val (.int (2 : Int32)), .val (.long x0), .second, uu, uu, uu, uu, uu, uu, uu, uu, uu, uu, uu, uu, uu] [(.long (x0 + y1))])) _
    refine XS.lstore X50.here hx rfl (hb hby at_70) rfl (l' := #[.val (.int p1), .val (.int p2), .val (.int p3), .val (.int p4), .val (.int p5), .val (.int (2 : Int32)), .val (.ref wAVG), .val (.int (2 : Int32)), .val (.long x0), .second, .val (.long (x0 + y1)), .second, uu, uu, uu, uu, uu, uu, uu, uu, uu, uu, uu]) rfl ?_
    show Steps p.tables e below (T50.setTop (mkF m 72 #[.val (.int p1), .val (.int p2), .val (.int p3), .val (.int p4), .val (.int p5), .val (.int (2 : Int32)), .val (.ref wAVG), .val (.int (2 : Int32)), .val (.long x0), .second, .val (.long (x0 + y1)), .second, uu, uu, uu, uu, uu, uu, uu, uu, uu, uu, uu] [])) _
    refine XS.lload X50.here hx rfl (hb hby at_72) rfl ?_
    show Steps p.tables e below (T50.setTop (mkF m 74 #[.val (.int p1), .val (.int p2), .val (.int p3), .val (.int p4), .val (.int p5), .val (.int (2 : Int32)), .val (.ref wAVG), .val (.int (2 : Int32)), .val (.long x0), .second, .val (.long (x0 + y1)), .second, uu, uu, uu, uu, uu, uu, uu, uu, uu, uu, uu] [(.long (x0 + y1))])) _
    refine XS.iload X50.here hx rfl (hb hby at_74) rfl ?_
    show Steps p.tables e below (T50.setTop (mkF m 76 #[.val (.int p1), .val (.int p2), .val (.int p3), .val (.int p4), .val (.int p5), .val (.int (2 : Int32)), .val (.ref wAVG), .val (.int (2 : Int32)), .val (.long x0), .second, .val (.long (x0 + y1)), .second, uu, uu, uu, uu, uu, uu, uu, uu, uu, uu, uu] [(.int p5), (.long (x0 + y1))])) _
    refine X50.ldcInt hx hown (mvT hZ (hw _ (List.mem_of_getElem? (i := 4) rfl))) (g := (mkF m 76 #[.val (.int p1), .val (.int p2), .val (.int p3), .val (.int p4), .val (.int p5), .val (.int (2 : Int32)), .val (.ref wAVG), .val (.int (2 : Int32)), .val (.long x0), .second, .val (.long (x0 + y1)), .second, uu, uu, uu, uu, uu, uu, uu, uu, uu, uu, uu] [(.int p5), (.long (x0 + y1))])) rfl (hb hby at_76) _ ?_
    show Steps p.tables e below (T50.setTop (mkF m 78 #[.val (.int p1), .val (.int p2), .val (.int p3), .val (.int p4), .val (.int p5), .val (.int (2 : Int32)), .val (.ref wAVG), .val (.int (2 : Int32)), .val (.long x0), .second, .val (.long (x0 + y1)), .second, uu, uu, uu, uu, uu, uu, uu, uu, uu, uu, uu] [(.int (1048575 : Int32)), (.int p5), (.long (x0 + y1))])) _
    refine XS.iand X50.here hx rfl (hb hby at_78) rfl ?_
    show Steps p.tables e below (T50.setTop (mkF m 79 #[.val (.int p1), .val (.int p2), .val (.int p3), .val (.int p4), .val (.int p5), .val (.int (2 : Int32)), .val (.ref wAVG), .val (.int (2 : Int32)), .val (.long x0), .second, .val (.long (x0 + y1)), .second, uu, uu, uu, uu, uu, uu, uu, uu, uu, uu, uu] [(.int (p5 &&& (1048575 : Int32))), (.long (x0 + y1))])) _
    refine XS.i2l X50.here hx rfl (hb hby at_79) rfl ?_
    show Steps p.tables e below (T50.setTop (mkF m 80 #[.val (.int p1), .val (.int p2), .val (.int p3), .val (.int p4), .val (.int p5), .val (.int (2 : Int32)), .val (.ref wAVG), .val (.int (2 : Int32)), .val (.long x0), .second, .val (.long (x0 + y1)), .second, uu, uu, uu, uu, uu, uu, uu, uu, uu, uu, uu] [(.long ((p5 &&& (1048575 : Int32)).toInt64)), (.long (x0 + y1))])) _
    rw [← hy2]
    show Steps p.tables e below (T50.setTop (mkF m 80 #[.val (.int p1), .val (.int p2), .val (.int p3), .val (.int p4), .val (.int p5), .val (.int (2 : Int32)), .val (.ref wAVG), .val (.int (2 : Int32)), .val (.long x0), .second, .val (.long (x0 + y1)), .second, uu, uu, uu, uu, uu, uu, uu, uu, uu, uu, uu] [(.long y2), (.long (x0 + y1))])) _
    refine XS.ladd X50.here hx rfl (hb hby at_80) rfl ?_
    show Steps p.tables e below (T50.setTop (mkF m 81 #[.val (.int p1), .val (.int p2), .val (.int p3), .val (.int p4), .val (.int p5), .val (.int (2 : Int32)), .val (.ref wAVG), .val (.int (2 : Int32)), .val (.long x0), .second, .val (.long (x0 + y1)), .second, uu, uu, uu, uu, uu, uu, uu, uu, uu, uu, uu] [(.long ((x0 + y1) + y2))])) _
    refine XS.lstore X50.here hx rfl (hb hby at_81) rfl (l' := #[.val (.int p1), .val (.int p2), .val (.int p3), .val (.int p4), .val (.int p5), .val (.int (2 : Int32)), .val (.ref wAVG), .val (.int (2 : Int32)), .val (.long x0), .second, .val (.long (x0 + y1)), .second, .val (.long ((x0 + y1) + y2)), .second, uu, uu, uu, uu, uu, uu, uu, uu, uu]) rfl ?_
    show Steps p.tables e below (T50.setTop (mkF m 83 #[.val (.int p1), .val (.int p2), .val (.int p3), .val (.int p4), .val (.int p5), .val (.int (2 : Int32)), .val (.ref wAVG), .val (.int (2 : Int32)), .val (.long x0), .second, .val (.long (x0 + y1)), .second, .val (.long ((x0 + y1) + y2)), .second, uu, uu, uu, uu, uu, uu, uu, uu, uu] [])) _
    refine XS.iload X50.here hx rfl (hb hby at_83) rfl ?_
    show Steps p.tables e below (T50.setTop (mkF m 85 #[.val (.int p1), .val (.int p2), .val (.int p3), .val (.int p4), .val (.int p5), .val (.int (2 : Int32)), .val (.ref wAVG), .val (.int (2 : Int32)), .val (.long x0), .second, .val (.long (x0 + y1)), .second, .val (.long ((x0 + y1) + y2)), .second, uu, uu, uu, uu, uu, uu, uu, uu, uu] [(.int (2 : Int32))])) _
    refine XS.iconst X50.here hx rfl (hb hby at_85) ?_
    show Steps p.tables e below (T50.setTop (mkF m 86 #[.val (.int p1), .val (.int p2), .val (.int p3), .val (.int p4), .val (.int p5), .val (.int (2 : Int32)), .val (.ref wAVG), .val (.int (2 : Int32)), .val (.long x0), .second, .val (.long (x0 + y1)), .second, .val (.long ((x0 + y1) + y2)), .second, uu, uu, uu, uu, uu, uu, uu, uu, uu] [(.int (1 : Int32)), (.int (2 : Int32))])) _
    refine XS.icmpYes X50.here hx rfl (pc0 := 86) (pc' := 103) rfl (hb hby at_86) rfl (feq (by decide : ¬ ((2 : Int32) = (1 : Int32)))).2 (by decide) (by decide) ?_
    show Steps p.tables e below (T50.setTop (mkF m 103 #[.val (.int p1), .val (.int p2), .val (.int p3), .val (.int p4), .val (.int p5), .val (.int (2 : Int32)), .val (.ref wAVG), .val (.int (2 : Int32)), .val (.long x0), .second, .val (.long (x0 + y1)), .second, .val (.long ((x0 + y1) + y2)), .second, uu, uu, uu, uu, uu, uu, uu, uu, uu] [])) _
    refine XS.iload X50.here hx rfl (hb hby at_103) rfl ?_
    show Steps p.tables e below (T50.setTop (mkF m 105 #[.val (.int p1), .val (.int p2), .val (.int p3), .val (.int p4), .val (.int p5), .val (.int (2 : Int32)), .val (.ref wAVG), .val (.int (2 : Int32)), .val (.long x0), .second, .val (.long (x0 + y1)), .second, .val (.long ((x0 + y1) + y2)), .second, uu, uu, uu, uu, uu, uu, uu, uu, uu] [(.int (2 : Int32))])) _
    refine XS.iconst X50.here hx rfl (hb hby at_105) ?_
    show Steps p.tables e below (T50.setTop (mkF m 106 #[.val (.int p1), .val (.int p2), .val (.int p3), .val (.int p4), .val (.int p5), .val (.int (2 : Int32)), .val (.ref wAVG), .val (.int (2 : Int32)), .val (.long x0), .second, .val (.long (x0 + y1)), .second, .val (.long ((x0 + y1) + y2)), .second, uu, uu, uu, uu, uu, uu, uu, uu, uu] [(.int (2 : Int32)), (.int (2 : Int32))])) _
    refine XS.icmpNo X50.here hx rfl (hb hby at_106) rfl (teq (by decide : (2 : Int32) = (2 : Int32))).2 ?_
    show Steps p.tables e below (T50.setTop (mkF m 109 #[.val (.int p1), .val (.int p2), .val (.int p3), .val (.int p4), .val (.int p5), .val (.int (2 : Int32)), .val (.ref wAVG), .val (.int (2 : Int32)), .val (.long x0), .second, .val (.long (x0 + y1)), .second, .val (.long ((x0 + y1) + y2)), .second, uu, uu, uu, uu, uu, uu, uu, uu, uu] [])) _
    refine XS.iconst X50.here hx rfl (hb hby at_109) ?_
    show Steps p.tables e below (T50.setTop (mkF m 110 #[.val (.int p1), .val (.int p2), .val (.int p3), .val (.int p4), .val (.int p5), .val (.int (2 : Int32)), .val (.ref wAVG), .val (.int (2 : Int32)), .val (.long x0), .second, .val (.long (x0 + y1)), .second, .val (.long ((x0 + y1) + y2)), .second, uu, uu, uu, uu, uu, uu, uu, uu, uu] [(.int (2 : Int32))])) _
    refine sta_ _ ?_
    show Steps p.tables e below (Ta.setTop (mkF m 112 #[.val (.int p1), .val (.int p2), .val (.int p3), .val (.int p4), .val (.int p5), .val (.int (2 : Int32)), .val (.ref wAVG), .val (.int (2 : Int32)), .val (.long x0), .second, .val (.long (x0 + y1)), .second, .val (.long ((x0 + y1) + y2)), .second, uu, uu, uu, uu, uu, uu, uu, uu, uu] [(.ref b)])) _
    refine XS.dup Xa.here hx rfl (hb hby at_112) rfl rfl ?_
    show Steps p.tables e below (Ta.setTop (mkF m 113 #[.val (.int p1), .val (.int p2), .val (.int p3), .val (.int p4), .val (.int p5), .val (.int (2 : Int32)), .val (.ref wAVG), .val (.int (2 : Int32)), .val (.long x0), .second, .val (.long (x0 + y1)), .second, .val (.long ((x0 + y1) + y2)), .second, uu, uu, uu, uu, uu, uu, uu, uu, uu] [(.ref b), (.ref b)])) _
    refine XS.iconst Xa.here hx rfl (hb hby at_113) ?_
    show Steps p.tables e below (Ta.setTop (mkF m 114 #[.val (.int p1), .val (.int p2), .val (.int p3), .val (.int p4), .val (.int p5), .val (.int (2 : Int32)), .val (.ref wAVG), .val (.int (2 : Int32)), .val (.long x0), .second, .val (.long (x0 + y1)), .second, .val (.long ((x0 + y1) + y2)), .second, uu, uu, uu, uu, uu, uu, uu, uu, uu] [(.int (0 : Int32)), (.ref b), (.ref b)])) _
    refine XS.lload Xa.here hx rfl (hb hby at_114) rfl ?_
    show Steps p.tables e below (Ta.setTop (mkF m 116 #[.val (.int p1), .val (.int p2), .val (.int p3), .val (.int p4), .val (.int p5), .val (.int (2 : Int32)), .val (.ref wAVG), .val (.int (2 : Int32)), .val (.long x0), .second, .val (.long (x0 + y1)), .second, .val (.long ((x0 + y1) + y2)), .second, uu, uu, uu, uu, uu, uu, uu, uu, uu] [(.long x0), (.int (0 : Int32)), (.ref b), (.ref b)])) _
    refine XS.l2dS Xa.here hx rfl (hb hby at_116) rfl (v := FP.l2d x0) rfl ?_
    show Steps p.tables e below (Ta.setTop (mkF m 117 #[.val (.int p1), .val (.int p2), .val (.int p3), .val (.int p4), .val (.int p5), .val (.int (2 : Int32)), .val (.ref wAVG), .val (.int (2 : Int32)), .val (.long x0), .second, .val (.long (x0 + y1)), .second, .val (.long ((x0 + y1) + y2)), .second, uu, uu, uu, uu, uu, uu, uu, uu, uu] [(.double (FP.l2d x0)), (.int (0 : Int32)), (.ref b), (.ref b)])) _
    refine std0 _ ?_
    show Steps p.tables e below (Td0.setTop (mkF m 118 #[.val (.int p1), .val (.int p2), .val (.int p3), .val (.int p4), .val (.int p5), .val (.int (2 : Int32)), .val (.ref wAVG), .val (.int (2 : Int32)), .val (.long x0), .second, .val (.long (x0 + y1)), .second, .val (.long ((x0 + y1) + y2)), .second, uu, uu, uu, uu, uu, uu, uu, uu, uu] [(.ref b)])) _
    refine XS.dup Xd0.here hx rfl (hb hby at_118) rfl rfl ?_
    show Steps p.tables e below (Td0.setTop (mkF m 119 #[.val (.int p1), .val (.int p2), .val (.int p3), .val (.int p4), .val (.int p5), .val (.int (2 : Int32)), .val (.ref wAVG), .val (.int (2 : Int32)), .val (.long x0), .second, .val (.long (x0 + y1)), .second, .val (.long ((x0 + y1) + y2)), .second, uu, uu, uu, uu, uu, uu, uu, uu, uu] [(.ref b), (.ref b)])) _
    refine XS.iconst Xd0.here hx rfl (hb hby at_119) ?_
    show Steps p.tables e below (Td0.setTop (mkF m 120 #[.val (.int p1), .val (.int p2), .val (.int p3), .val (.int p4), .val (.int p5), .val (.int (2 : Int32)), .val (.ref wAVG), .val (.int (2 : Int32)), .val (.long x0), .second, .val (.long (x0 + y1)), .second, .val (.long ((x0 + y1) + y2)), .second, uu, uu, uu, uu, uu, uu, uu, uu, uu] [(.int (1 : Int32)), (.ref b), (.ref b)])) _
    refine XS.lload Xd0.here hx rfl (hb hby at_120) rfl ?_
    show Steps p.tables e below (Td0.setTop (mkF m 122 #[.val (.int p1), .val (.int p2), .val (.int p3), .val (.int p4), .val (.int p5), .val (.int (2 : Int32)), .val (.ref wAVG), .val (.int (2 : Int32)), .val (.long x0), .second, .val (.long (x0 + y1)), .second, .val (.long ((x0 + y1) + y2)), .second, uu, uu, uu, uu, uu, uu, uu, uu, uu] [(.long (x0 + y1)), (.int (1 : Int32)), (.ref b), (.ref b)])) _
    refine XS.l2dS Xd0.here hx rfl (hb hby at_122) rfl (v := FP.l2d (x0 + y1)) rfl ?_
    show Steps p.tables e below (Td0.setTop (mkF m 123 #[.val (.int p1), .val (.int p2), .val (.int p3), .val (.int p4), .val (.int p5), .val (.int (2 : Int32)), .val (.ref wAVG), .val (.int (2 : Int32)), .val (.long x0), .second, .val (.long (x0 + y1)), .second, .val (.long ((x0 + y1) + y2)), .second, uu, uu, uu, uu, uu, uu, uu, uu, uu] [(.double (FP.l2d (x0 + y1))), (.int (1 : Int32)), (.ref b), (.ref b)])) _
    refine std1 _ ?_
    show Steps p.tables e below (Td1.setTop (mkF m 124 #[.val (.int p1), .val (.int p2), .val (.int p3), .val (.int p4), .val (.int p5), .val (.int (2 : Int32)), .val (.ref wAVG), .val (.int (2 : Int32)), .val (.long x0), .second, .val (.long (x0 + y1)), .second, .val (.long ((x0 + y1) + y2)), .second, uu, uu, uu, uu, uu, uu, uu, uu, uu] [(.ref b)])) _
    refine XS.astore Xd1.here hx rfl (hb hby at_124) rfl rfl (l' := #[.val (.int p1), .val (.int p2), .val (.int p3), .val (.int p4), .val (.int p5), .val (.int (2 : Int32)), .val (.ref wAVG), .val (.int (2 : Int32)), .val (.long x0), .second, .val (.long (x0 + y1)), .second, .val (.long ((x0 + y1) + y2)), .second, .val (.ref b), uu, uu, uu, uu, uu, uu, uu, uu]) rfl ?_
    show Steps p.tables e below (Td1.setTop (mkF m 126 #[.val (.int p1), .val (.int p2), .val (.int p3), .val (.int p4), .val (.int p5), .val (.int (2 : Int32)), .val (.ref wAVG), .val (.int (2 : Int32)), .val (.long x0), .second, .val (.long (x0 + y1)), .second, .val (.long ((x0 + y1) + y2)), .second, .val (.ref b), uu, uu, uu, uu, uu, uu, uu, uu] [])) _
    refine XS.goto Xd1.here hx rfl (pc0 := 126) (pc' := 152) rfl (hb hby at_126) (by decide) (by decide) ?_
    show Steps p.tables e below (Td1.setTop (mkF m 152 #[.val (.int p1), .val (.int p2), .val (.int p3), .val (.int p4), .val (.int p5), .val (.int (2 : Int32)), .val (.ref wAVG), .val (.int (2 : Int32)), .val (.long x0), .second, .val (.long (x0 + y1)), .second, .val (.long ((x0 + y1) + y2)), .second, .val (.ref b), uu, uu, uu, uu, uu, uu, uu, uu] [])) _
    refine XS.iload Xd1.here hx rfl (hb hby at_152) rfl ?_
    show Steps p.tables e below (Td1.setTop (mkF m 154 #[.val (.int p1), .val (.int p2), .val (.int p3), .val (.int p4), .val (.int p5), .val (.int (2 : Int32)), .val (.ref wAVG), .val (.int (2 : Int32)), .val (.long x0), .second, .val (.long (x0 + y1)), .second, .val (.long ((x0 + y1) + y2)), .second, .val (.ref b), uu, uu, uu, uu, uu, uu, uu, uu] [(.int (2 : Int32))])) _
    refine XS.iconst Xd1.here hx rfl (hb hby at_154) ?_
    show Steps p.tables e below (Td1.setTop (mkF m 155 #[.val (.int p1), .val (.int p2), .val (.int p3), .val (.int p4), .val (.int p5), .val (.int (2 : Int32)), .val (.ref wAVG), .val (.int (2 : Int32)), .val (.long x0), .second, .val (.long (x0 + y1)), .second, .val (.long ((x0 + y1) + y2)), .second, .val (.ref b), uu, uu, uu, uu, uu, uu, uu, uu] [(.int (1 : Int32)), (.int (2 : Int32))])) _
    refine XS.icmpYes Xd1.here hx rfl (pc0 := 155) (pc' := 163) rfl (hb hby at_155) rfl (feq (by decide : ¬ ((2 : Int32) = (1 : Int32)))).2 (by decide) (by decide) ?_
    show Steps p.tables e below (Td1.setTop (mkF m 163 #[.val (.int p1), .val (.int p2), .val (.int p3), .val (.int p4), .val (.int p5), .val (.int (2 : Int32)), .val (.ref wAVG), .val (.int (2 : Int32)), .val (.long x0), .second, .val (.long (x0 + y1)), .second, .val (.long ((x0 + y1) + y2)), .second, .val (.ref b), uu, uu, uu, uu, uu, uu, uu, uu] [])) _
    refine XS.iload Xd1.here hx rfl (hb hby at_163) rfl ?_
    show Steps p.tables e below (Td1.setTop (mkF m 165 #[.val (.int p1), .val (.int p2), .val (.int p3), .val (.int p4), .val (.int p5), .val (.int (2 : Int32)), .val (.ref wAVG), .val (.int (2 : Int32)), .val (.long x0), .second, .val (.long (x0 + y1)), .second, .val (.long ((x0 + y1) + y2)), .second, .val (.ref b), uu, uu, uu, uu, uu, uu, uu, uu] [(.int (2 : Int32))])) _
    refine XS.iconst Xd1.here hx rfl (hb hby at_165) ?_
    show Steps p.tables e below (Td1.setTop (mkF m 166 #[.val (.int p1), .val (.int p2), .val (.int p3), .val (.int p4), .val (.int p5), .val (.int (2 : Int32)), .val (.ref wAVG), .val (.int (2 : Int32)), .val (.long x0), .second, .val (.long (x0 + y1)), .second, .val (.long ((x0 + y1) + y2)), .second, .val (.ref b), uu, uu, uu, uu, uu, uu, uu, uu] [(.int (2 : Int32)), (.int (2 : Int32))])) _
    refine XS.icmpNo Xd1.here hx rfl (hb hby at_166) rfl (teq (by decide : (2 : Int32) = (2 : Int32))).2 ?_
    show Steps p.tables e below (Td1.setTop (mkF m 169 #[.val (.int p1), .val (.int p2), .val (.int p3), .val (.int p4), .val (.int p5), .val (.int (2 : Int32)), .val (.ref wAVG), .val (.int (2 : Int32)), .val (.long x0), .second, .val (.long (x0 + y1)), .second, .val (.long ((x0 + y1) + y2)), .second, .val (.ref b), uu, uu, uu, uu, uu, uu, uu, uu] [])) _
    refine XS.lload Xd1.here hx rfl (hb hby at_169) rfl ?_
    show Steps p.tables e below (Td1.setTop (mkF m 171 #[.val (.int p1), .val (.int p2), .val (.int p3), .val (.int p4), .val (.int p5), .val (.int (2 : Int32)), .val (.ref wAVG), .val (.int (2 : Int32)), .val (.long x0), .second, .val (.long (x0 + y1)), .second, .val (.long ((x0 + y1) + y2)), .second, .val (.ref b), uu, uu, uu, uu, uu, uu, uu, uu] [(.long (x0 + y1))])) _
    refine XS.goto Xd1.here hx rfl (pc0 := 171) (pc' := 176) rfl (hb hby at_171) (by decide) (by decide) ?_
    show Steps p.tables e below (Td1.setTop (mkF m 176 #[.val (.int p1), .val (.int p2), .val (.int p3), .val (.int p4), .val (.int p5), .val (.int (2 : Int32)), .val (.ref wAVG), .val (.int (2 : Int32)), .val (.long x0), .second, .val (.long (x0 + y1)), .second, .val (.long ((x0 + y1) + y2)), .second, .val (.ref b), uu, uu, uu, uu, uu, uu, uu, uu] [(.long (x0 + y1))])) _
    refine XS.lstore Xd1.here hx rfl (hb hby at_176) rfl (l' := #[.val (.int p1), .val (.int p2), .val (.int p3), .val (.int p4), .val (.int p5), .val (.int (2 : Int32)), .val (.ref wAVG), .val (.int (2 : Int32)), .val (.long x0), .second, .val (.long (x0 + y1)), .second, .val (.long ((x0 + y1) + y2)), .second, .val (.ref b), .val (.long (x0 + y1)), .second, uu, uu, uu, uu, uu, uu]) rfl ?_
    show Steps p.tables e below (Td1.setTop (mkF m 178 #[.val (.int p1), .val (.int p2), .val (.int p3), .val (.int p4), .val (.int p5), .val (.int (2 : Int32)), .val (.ref wAVG), .val (.int (2 : Int32)), .val (.long x0), .second, .val (.long (x0 + y1)), .second, .val (.long ((x0 + y1) + y2)), .second, .val (.ref b), .val (.long (x0 + y1)), .second, uu, uu, uu, uu, uu, uu] [])) _
    refine XS.iload Xd1.here hx rfl (hb hby at_178) rfl ?_
    show Steps p.tables e below (Td1.setTop (mkF m 180 #[.val (.int p1), .val (.int p2), .val (.int p3), .val (.int p4), .val (.int p5), .val (.int (2 : Int32)), .val (.ref wAVG), .val (.int (2 : Int32)), .val (.long x0), .second, .val (.long (x0 + y1)), .second, .val (.long ((x0 + y1) + y2)), .second, .val (.ref b), .val (.long (x0 + y1)), .second, uu, uu, uu, uu, uu, uu] [(.int (2 : Int32))])) _
    refine XS.iconst Xd1.here hx rfl (hb hby at_180) ?_
    show Steps p.tables e below (Td1.setTop (mkF m 181 #[.val (.int p1), .val (.int p2), .val (.int p3), .val (.int p4), .val (.int p5), .val (.int (2 : Int32)), .val (.ref wAVG), .val (.int (2 : Int32)), .val (.long x0), .second, .val (.long (x0 + y1)), .second, .val (.long ((x0 + y1) + y2)), .second, .val (.ref b), .val (.long (x0 + y1)), .second, uu, uu, uu, uu, uu, uu] [(.int (1 : Int32)), (.int (2 : Int32))])) _
    refine XS.icmpYes Xd1.here hx rfl (pc0 := 181) (pc' := 189) rfl (hb hby at_181) rfl (feq (by decide : ¬ ((2 : Int32) = (1 : Int32)))).2 (by decide) (by decide) ?_
    show Steps p.tables e below (Td1.setTop (mkF m 189 #[.val (.int p1), .val (.int p2), .val (.int p3), .val (.int p4), .val (.int p5), .val (.int (2 : Int32)), .val (.ref wAVG), .val (.int (2 : Int32)), .val (.long x0), .second, .val (.long (x0 + y1)), .second, .val (.long ((x0 + y1) + y2)), .second, .val (.ref b), .val (.long (x0 + y1)), .second, uu, uu, uu, uu, uu, uu] [])) _
    refine XS.iload Xd1.here hx rfl (hb hby at_189) rfl ?_
    show Steps p.tables e below (Td1.setTop (mkF m 191 #[.val (.int p1), .val (.int p2), .val (.int p3), .val (.int p4), .val (.int p5), .val (.int (2 : Int32)), .val (.ref wAVG), .val (.int (2 : Int32)), .val (.long x0), .second, .val (.long (x0 + y1)), .second, .val (.long ((x0 + y1) + y2)), .second, .val (.ref b), .val (.long (x0 + y1)), .second, uu, uu, uu, uu, uu, uu] [(.int (2 : Int32))])) _
    refine XS.iconst Xd1.here hx rfl (hb hby at_191) ?_
    show Steps p.tables e below (Td1.setTop (mkF m 192 #[.val (.int p1), .val (.int p2), .val (.int p3), .val (.int p4), .val (.int p5), .val (.int (2 : Int32)), .val (.ref wAVG), .val (.int (2 : Int32)), .val (.long x0), .second, .val (.long (x0 + y1)), .second, .val (.long ((x0 + y1) + y2)), .second, .val (.ref b), .val (.long (x0 + y1)), .second, uu, uu, uu, uu, uu, uu] [(.int (2 : Int32)), (.int (2 : Int32))])) _
    refine XS.icmpNo Xd1.here hx rfl (hb hby at_192) rfl (teq (by decide : (2 : Int32) = (2 : Int32))).2 ?_
    show Steps p.tables e below (Td1.setTop (mkF m 195 #[.val (.int p1), .val (.int p2), .val (.int p3), .val (.int p4), .val (.int p5), .val (.int (2 : Int32)), .val (.ref wAVG), .val (.int (2 : Int32)), .val (.long x0), .second, .val (.long (x0 + y1)), .second, .val (.long ((x0 + y1) + y2)), .second, .val (.ref b), .val (.long (x0 + y1)), .second, uu, uu, uu, uu, uu, uu] [])) _
    refine XS.lload Xd1.here hx rfl (hb hby at_195) rfl ?_
    show Steps p.tables e below (Td1.setTop (mkF m 197 #[.val (.int p1), .val (.int p2), .val (.int p3), .val (.int p4), .val (.int p5), .val (.int (2 : Int32)), .val (.ref wAVG), .val (.int (2 : Int32)), .val (.long x0), .second, .val (.long (x0 + y1)), .second, .val (.long ((x0 + y1) + y2)), .second, .val (.ref b), .val (.long (x0 + y1)), .second, uu, uu, uu, uu, uu, uu] [(.long x0)])) _
    refine XS.lload Xd1.here hx rfl (hb hby at_197) rfl ?_
    show Steps p.tables e below (Td1.setTop (mkF m 199 #[.val (.int p1), .val (.int p2), .val (.int p3), .val (.int p4), .val (.int p5), .val (.int (2 : Int32)), .val (.ref wAVG), .val (.int (2 : Int32)), .val (.long x0), .second, .val (.long (x0 + y1)), .second, .val (.long ((x0 + y1) + y2)), .second, .val (.ref b), .val (.long (x0 + y1)), .second, uu, uu, uu, uu, uu, uu] [(.long (x0 + y1)), (.long x0)])) _
    refine XS.ladd Xd1.here hx rfl (hb hby at_199) rfl ?_
    show Steps p.tables e below (Td1.setTop (mkF m 200 #[.val (.int p1), .val (.int p2), .val (.int p3), .val (.int p4), .val (.int p5), .val (.int (2 : Int32)), .val (.ref wAVG), .val (.int (2 : Int32)), .val (.long x0), .second, .val (.long (x0 + y1)), .second, .val (.long ((x0 + y1) + y2)), .second, .val (.ref b), .val (.long (x0 + y1)), .second, uu, uu, uu, uu, uu, uu] [(.long (x0 + (x0 + y1)))])) _
    refine XS.goto Xd1.here hx rfl (pc0 := 200) (pc' := 211) rfl (hb hby at_200) (by decide) (by decide) ?_
    show Steps p.tables e below (Td1.setTop (mkF m 211 #[.val (.int p1), .val (.int p2), .val (.int p3), .val (.int p4), .val (.int p5), .val (.int (2 : Int32)), .val (.ref wAVG), .val (.int (2 : Int32)), .val (.long x0), .second, .val (.long (x0 + y1)), .second, .val (.long ((x0 + y1) + y2)), .second, .val (.ref b), .val (.long (x0 + y1)), .second, uu, uu, uu, uu, uu, uu] [(.long (x0 + (x0 + y1)))])) _
    refine XS.lstore Xd1.here hx rfl (hb hby at_211) rfl (l' := #[.val (.int p1), .val (.int p2), .val (.int p3), .val (.int p4), .val (.int p5), .val (.int (2 : Int32)), .val (.ref wAVG), .val (.int (2 : Int32)), .val (.long x0), .second, .val (.long (x0 + y1)), .second, .val (.long ((x0 + y1) + y2)), .second, .val (.ref b), .val (.long (x0 + y1)), .second, .val (.long (x0 + (x0 + y1))), .second, uu, uu, uu, uu]) rfl ?_
    show Steps p.tables e below (Td1.setTop (mkF m 213 #[.val (.int p1), .val (.int p2), .val (.int p3), .val (.int p4), .val (.int p5), .val (.int (2 : Int32)), .val (.ref wAVG), .val (.int (2 : Int32)), .val (.long x0), .second, .val (.long (x0 + y1)), .second, .val (.long ((x0 + y1) + y2)), .second, .val (.ref b), .val (.long (x0 + y1)), .second, .val (.long (x0 + (x0 + y1))), .second, uu, uu, uu, uu] [])) _
    refine XS.iload Xd1.here hx rfl (hb hby at_213) rfl ?_
    show Steps p.tables e below (Td1.setTop (mkF m 215 #[.val (.int p1), .val (.int p2), .val (.int p3), .val (.int p4), .val (.int p5), .val (.int (2 : Int32)), .val (.ref wAVG), .val (.int (2 : Int32)), .val (.long x0), .second, .val (.long (x0 + y1)), .second, .val (.long ((x0 + y1) + y2)), .second, .val (.ref b), .val (.long (x0 + y1)), .second, .val (.long (x0 + (x0 + y1))), .second, uu, uu, uu, uu] [(.int (2 : Int32))])) _
    refine XS.ifYes Xd1.here hx rfl (pc0 := 215) (pc' := 226) rfl (hb hby at_215) rfl ((if0 _ _).trans (feq (by decide : ¬ ((2 : Int32) = (0 : Int32)))).2) (by decide) (by decide) ?_
    show Steps p.tables e below (Td1.setTop (mkF m 226 #[.val (.int p1), .val (.int p2), .val (.int p3), .val (.int p4), .val (.int p5), .val (.int (2 : Int32)), .val (.ref wAVG), .val (.int (2 : Int32)), .val (.long x0), .second, .val (.long (x0 + y1)), .second, .val (.long ((x0 + y1) + y2)), .second, .val (.ref b), .val (.long (x0 + y1)), .second, .val (.long (x0 + (x0 + y1))), .second, uu, uu, uu, uu] [])) _
    refine XS.iload Xd1.here hx rfl (hb hby at_226) rfl ?_
    show Steps p.tables e below (Td1.setTop (mkF m 228 #[.val (.int p1), .val (.int p2), .val (.int p3), .val (.int p4), .val (.int p5), .val (.int (2 : Int32)), .val (.ref wAVG), .val (.int (2 : Int32)), .val (.long x0), .second, .val (.long (x0 + y1)), .second, .val (.long ((x0 + y1) + y2)), .second, .val (.ref b), .val (.long (x0 + y1)), .second, .val (.long (x0 + (x0 + y1))), .second, uu, uu, uu, uu] [(.int (2 : Int32))])) _
    refine XS.iconst Xd1.here hx rfl (hb hby at_228) ?_
    show Steps p.tables e below (Td1.setTop (mkF m 229 #[.val (.int p1), .val (.int p2), .val (.int p3), .val (.int p4), .val (.int p5), .val (.int (2 : Int32)), .val (.ref wAVG), .val (.int (2 : Int32)), .val (.long x0), .second, .val (.long (x0 + y1)), .second, .val (.long ((x0 + y1) + y2)), .second, .val (.ref b), .val (.long (x0 + y1)), .second, .val (.long (x0 + (x0 + y1))), .second, uu, uu, uu, uu] [(.int (1 : Int32)), (.int (2 : Int32))])) _
    refine XS.icmpYes Xd1.here hx rfl (pc0 := 229) (pc' := 240) rfl (hb hby at_229) rfl (feq (by decide : ¬ ((2 : Int32) = (1 : Int32)))).2 (by decide) (by decide) ?_
    show Steps p.tables e below (Td1.setTop (mkF m 240 #[.val (.int p1), .val (.int p2), .val (.int p3), .val (.int p4), .val (.int p5), .val (.int (2 : Int32)), .val (.ref wAVG), .val (.int (2 : Int32)), .val (.long x0), .second, .val (.long (x0 + y1)), .second, .val (.long ((x0 + y1) + y2)), .second, .val (.ref b), .val (.long (x0 + y1)), .second, .val (.long (x0 + (x0 + y1))), .second, uu, uu, uu, uu] [])) _
    refine XS.iload Xd1.here hx rfl (hb hby at_240) rfl ?_
    show Steps p.tables e below (Td1.setTop (mkF m 242 #[.val (.int p1), .val (.int p2), .val (.int p3), .val (.int p4), .val (.int p5), .val (.int (2 : Int32)), .val (.ref wAVG), .val (.int (2 : Int32)), .val (.long x0), .second, .val (.long (x0 + y1)), .second, .val (.long ((x0 + y1) + y2)), .second, .val (.ref b), .val (.long (x0 + y1)), .second, .val (.long (x0 + (x0 + y1))), .second, uu, uu, uu, uu] [(.int (2 : Int32))])) _
    refine XS.iconst Xd1.here hx rfl (hb hby at_242) ?_
    show Steps p.tables e below (Td1.setTop (mkF m 243 #[.val (.int p1), .val (.int p2), .val (.int p3), .val (.int p4), .val (.int p5), .val (.int (2 : Int32)), .val (.ref wAVG), .val (.int (2 : Int32)), .val (.long x0), .second, .val (.long (x0 + y1)), .second, .val (.long ((x0 + y1) + y2)), .second, .val (.ref b), .val (.long (x0 + y1)), .second, .val (.long (x0 + (x0 + y1))), .second, uu, uu, uu, uu] [(.int (2 : Int32)), (.int (2 : Int32))])) _
    refine XS.icmpNo Xd1.here hx rfl (hb hby at_243) rfl (teq (by decide : (2 : Int32) = (2 : Int32))).2 ?_
    show Steps p.tables e below (Td1.setTop (mkF m 246 #[.val (.int p1), .val (.int p2), .val (.int p3), .val (.int p4), .val (.int p5), .val (.int (2 : Int32)), .val (.ref wAVG), .val (.int (2 : Int32)), .val (.long x0), .second, .val (.long (x0 + y1)), .second, .val (.long ((x0 + y1) + y2)), .second, .val (.ref b), .val (.long (x0 + y1)), .second, .val (.long (x0 + (x0 + y1))), .second, uu, uu, uu, uu] [])) _
    refine XS.lload Xd1.here hx rfl (hb hby at_246) rfl ?_
    show Steps p.tables e below (Td1.setTop (mkF m 248 #[.val (.int p1), .val (.int p2), .val (.int p3), .val (.int p4), .val (.int p5), .val (.int (2 : Int32)), .val (.ref wAVG), .val (.int (2 : Int32)), .val (.long x0), .second, .val (.long (x0 + y1)), .second, .val (.long ((x0 + y1) + y2)), .second, .val (.ref b), .val (.long (x0 + y1)), .second, .val (.long (x0 + (x0 + y1))), .second, uu, uu, uu, uu] [(.long (x0 + (x0 + y1)))])) _
    refine XS.l2dS Xd1.here hx rfl (hb hby at_248) rfl (v := FP.l2d (x0 + (x0 + y1))) rfl ?_
    show Steps p.tables e below (Td1.setTop (mkF m 249 #[.val (.int p1), .val (.int p2), .val (.int p3), .val (.int p4), .val (.int p5), .val (.int (2 : Int32)), .val (.ref wAVG), .val (.int (2 : Int32)), .val (.long x0), .second, .val (.long (x0 + y1)), .second, .val (.long ((x0 + y1) + y2)), .second, .val (.ref b), .val (.long (x0 + y1)), .second, .val (.long (x0 + (x0 + y1))), .second, uu, uu, uu, uu] [(.double (FP.l2d (x0 + (x0 + y1))))])) _
    refine XS.iload Xd1.here hx rfl (hb hby at_249) rfl ?_
    show Steps p.tables e below (Td1.setTop (mkF m 251 #[.val (.int p1), .val (.int p2), .val (.int p3), .val (.int p4), .val (.int p5), .val (.int (2 : Int32)), .val (.ref wAVG), .val (.int (2 : Int32)), .val (.long x0), .second, .val (.long (x0 + y1)), .second, .val (.long ((x0 + y1) + y2)), .second, .val (.ref b), .val (.long (x0 + y1)), .second, .val (.long (x0 + (x0 + y1))), .second, uu, uu, uu, uu] [(.int (2 : Int32)), (.double (FP.l2d (x0 + (x0 + y1))))])) _
    refine XS.i2dS Xd1.here hx rfl (hb hby at_251) rfl (v := FP.l2d (2 : Int32).toInt64) (i2d_w _) ?_
    show Steps p.tables e below (Td1.setTop (mkF m 252 #[.val (.int p1), .val (.int p2), .val (.int p3), .val (.int p4), .val (.int p5), .val (.int (2 : Int32)), .val (.ref wAVG), .val (.int (2 : Int32)), .val (.long x0), .second, .val (.long (x0 + y1)), .second, .val (.long ((x0 + y1) + y2)), .second, .val (.ref b), .val (.long (x0 + y1)), .second, .val (.long (x0 + (x0 + y1))), .second, uu, uu, uu, uu] [(.double (FP.l2d (2 : Int32).toInt64)), (.double (FP.l2d (x0 + (x0 + y1))))])) _
    refine XS.ddivS Xd1.here hx rfl (hb hby at_252) rfl (own_div (by decide)) rfl ?_
    show Steps p.tables e below (Td1.setTop (mkF m 253 #[.val (.int p1), .val (.int p2), .val (.int p3), .val (.int p4), .val (.int p5), .val (.int (2 : Int32)), .val (.ref wAVG), .val (.int (2 : Int32)), .val (.long x0), .second, .val (.long (x0 + y1)), .second, .val (.long ((x0 + y1) + y2)), .second, .val (.ref b), .val (.long (x0 + y1)), .second, .val (.long (x0 + (x0 + y1))), .second, uu, uu, uu, uu] [(.double (FP.ddiv (FP.l2d (x0 + (x0 + y1))) (FP.l2d (2 : Int32).toInt64)))])) _
    refine XS.dstore Xd1.here hx rfl (hb hby at_253) rfl (l' := #[.val (.int p1), .val (.int p2), .val (.int p3), .val (.int p4), .val (.int p5), .val (.int (2 : Int32)), .val (.ref wAVG), .val (.int (2 : Int32)), .val (.long x0), .second, .val (.long (x0 + y1)), .second, .val (.long ((x0 + y1) + y2)), .second, .val (.ref b), .val (.long (x0 + y1)), .second, .val (.long (x0 + (x0 + y1))), .second, .val (.double (FP.ddiv (FP.l2d (x0 + (x0 + y1))) (FP.l2d (2 : Int32).toInt64))), .second, uu, uu]) rfl ?_
    show Steps p.tables e below (Td1.setTop (mkF m 255 #[.val (.int p1), .val (.int p2), .val (.int p3), .val (.int p4), .val (.int p5), .val (.int (2 : Int32)), .val (.ref wAVG), .val (.int (2 : Int32)), .val (.long x0), .second, .val (.long (x0 + y1)), .second, .val (.long ((x0 + y1) + y2)), .second, .val (.ref b), .val (.long (x0 + y1)), .second, .val (.long (x0 + (x0 + y1))), .second, .val (.double (FP.ddiv (FP.l2d (x0 + (x0 + y1))) (FP.l2d (2 : Int32).toInt64))), .second, uu, uu] [])) _
    refine XS.goto Xd1.here hx rfl (pc0 := 255) (pc' := 263) rfl (hb hby at_255) (by decide) (by decide) ?_
    show Steps p.tables e below (Td1.setTop (mkF m 263 #[.val (.int p1), .val (.int p2), .val (.int p3), .val (.int p4), .val (.int p5), .val (.int (2 : Int32)), .val (.ref wAVG), .val (.int (2 : Int32)), .val (.long x0), .second, .val (.long (x0 + y1)), .second, .val (.long ((x0 + y1) + y2)), .second, .val (.ref b), .val (.long (x0 + y1)), .second, .val (.long (x0 + (x0 + y1))), .second, .val (.double (FP.ddiv (FP.l2d (x0 + (x0 + y1))) (FP.l2d (2 : Int32).toInt64))), .second, uu, uu] [])) _
    refine XS.aload Xd1.here hx rfl (hb hby at_263) rfl rfl ?_
    show Steps p.tables e below (Td1.setTop (mkF m 265 #[.val (.int p1), .val (.int p2), .val (.int p3), .val (.int p4), .val (.int p5), .val (.int (2 : Int32)), .val (.ref wAVG), .val (.int (2 : Int32)), .val (.long x0), .second, .val (.long (x0 + y1)), .second, .val (.long ((x0 + y1) + y2)), .second, .val (.ref b), .val (.long (x0 + y1)), .second, .val (.long (x0 + (x0 + y1))), .second, .val (.double (FP.ddiv (FP.l2d (x0 + (x0 + y1))) (FP.l2d (2 : Int32).toInt64))), .second, uu, uu] [(.ref wAVG)])) _
    refine XS.aload Xd1.here hx rfl (hb hby at_265) rfl rfl ?_
    show Steps p.tables e below (Td1.setTop (mkF m 267 #[.val (.int p1), .val (.int p2), .val (.int p3), .val (.int p4), .val (.int p5), .val (.int (2 : Int32)), .val (.ref wAVG), .val (.int (2 : Int32)), .val (.long x0), .second, .val (.long (x0 + y1)), .second, .val (.long ((x0 + y1) + y2)), .second, .val (.ref b), .val (.long (x0 + y1)), .second, .val (.long (x0 + (x0 + y1))), .second, .val (.double (FP.ddiv (FP.l2d (x0 + (x0 + y1))) (FP.l2d (2 : Int32).toInt64))), .second, uu, uu] [(.ref b), (.ref wAVG)])) _
    refine stc.trans ?_
    show Steps p.tables e below (Tc.setTop (mkF m 270 #[.val (.int p1), .val (.int p2), .val (.int p3), .val (.int p4), .val (.int p5), .val (.int (2 : Int32)), .val (.ref wAVG), .val (.int (2 : Int32)), .val (.long x0), .second, .val (.long (x0 + y1)), .second, .val (.long ((x0 + y1) + y2)), .second, .val (.ref b), .val (.long (x0 + y1)), .second, .val (.long (x0 + (x0 + y1))), .second, .val (.double (FP.ddiv (FP.l2d (x0 + (x0 + y1))) (FP.l2d (2 : Int32).toInt64))), .second, uu, uu] [(.double (FP.ddiv (FP.l2d (x0 + (x0 + y1))) (FP.l2d (2 : Int32).toInt64)))])) _
    refine XS.dstore Xc.here hx rfl (hb hby at_270) rfl (l' := #[.val (.int p1), .val (.int p2), .val (.int p3), .val (.int p4), .val (.int p5), .val (.int (2 : Int32)), .val (.ref wAVG), .val (.int (2 : Int32)), .val (.long x0), .second, .val (.long (x0 + y1)), .second, .val (.long ((x0 + y1) + y2)), .second, .val (.ref b), .val (.long (x0 + y1)), .second, .val (.long (x0 + (x0 + y1))), .second, .val (.double (FP.ddiv (FP.l2d (x0 + (x0 + y1))) (FP.l2d (2 : Int32).toInt64))), .second, .val (.double (FP.ddiv (FP.l2d (x0 + (x0 + y1))) (FP.l2d (2 : Int32).toInt64))), .second]) rfl ?_
    show Steps p.tables e below (Tc.setTop (mkF m 272 #[.val (.int p1), .val (.int p2), .val (.int p3), .val (.int p4), .val (.int p5), .val (.int (2 : Int32)), .val (.ref wAVG), .val (.int (2 : Int32)), .val (.long x0), .second, .val (.long (x0 + y1)), .second, .val (.long ((x0 + y1) + y2)), .second, .val (.ref b), .val (.long (x0 + y1)), .second, .val (.long (x0 + (x0 + y1))), .second, .val (.double (FP.ddiv (FP.l2d (x0 + (x0 + y1))) (FP.l2d (2 : Int32).toInt64))), .second, .val (.double (FP.ddiv (FP.l2d (x0 + (x0 + y1))) (FP.l2d (2 : Int32).toInt64))), .second] [])) _
    refine XS.dload Xc.here hx rfl (hb hby at_272) rfl ?_
    show Steps p.tables e below (Tc.setTop (mkF m 274 #[.val (.int p1), .val (.int p2), .val (.int p3), .val (.int p4), .val (.int p5), .val (.int (2 : Int32)), .val (.ref wAVG), .val (.int (2 : Int32)), .val (.long x0), .second, .val (.long (x0 + y1)), .second, .val (.long ((x0 + y1) + y2)), .second, .val (.ref b), .val (.long (x0 + y1)), .second, .val (.long (x0 + (x0 + y1))), .second, .val (.double (FP.ddiv (FP.l2d (x0 + (x0 + y1))) (FP.l2d (2 : Int32).toInt64))), .second, .val (.double (FP.ddiv (FP.l2d (x0 + (x0 + y1))) (FP.l2d (2 : Int32).toInt64))), .second] [(.double (FP.ddiv (FP.l2d (x0 + (x0 + y1))) (FP.l2d (2 : Int32).toInt64)))])) _
    refine XS.dload Xc.here hx rfl (hb hby at_274) rfl ?_
    show Steps p.tables e below (Tc.setTop (mkF m 276 #[.val (.int p1), .val (.int p2), .val (.int p3), .val (.int p4), .val (.int p5), .val (.int (2 : Int32)), .val (.ref wAVG), .val (.int (2 : Int32)), .val (.long x0), .second, .val (.long (x0 + y1)), .second, .val (.long ((x0 + y1) + y2)), .second, .val (.ref b), .val (.long (x0 + y1)), .second, .val (.long (x0 + (x0 + y1))), .second, .val (.double (FP.ddiv (FP.l2d (x0 + (x0 + y1))) (FP.l2d (2 : Int32).toInt64))), .second, .val (.double (FP.ddiv (FP.l2d (x0 + (x0 + y1))) (FP.l2d (2 : Int32).toInt64))), .second] [(.double (FP.ddiv (FP.l2d (x0 + (x0 + y1))) (FP.l2d (2 : Int32).toInt64))), (.double (FP.ddiv (FP.l2d (x0 + (x0 + y1))) (FP.l2d (2 : Int32).toInt64)))])) _
    refine XS.dcmpS Xc.here hx rfl (hb hby at_276) rfl (v := (0 : Int32)) (dcmpV_self (own_div (by decide)) _) ?_
    show Steps p.tables e below (Tc.setTop (mkF m 277 #[.val (.int p1), .val (.int p2), .val (.int p3), .val (.int p4), .val (.int p5), .val (.int (2 : Int32)), .val (.ref wAVG), .val (.int (2 : Int32)), .val (.long x0), .second, .val (.long (x0 + y1)), .second, .val (.long ((x0 + y1) + y2)), .second, .val (.ref b), .val (.long (x0 + y1)), .second, .val (.long (x0 + (x0 + y1))), .second, .val (.double (FP.ddiv (FP.l2d (x0 + (x0 + y1))) (FP.l2d (2 : Int32).toInt64))), .second, .val (.double (FP.ddiv (FP.l2d (x0 + (x0 + y1))) (FP.l2d (2 : Int32).toInt64))), .second] [(.int (0 : Int32))])) _
    refine XS.ifNo Xc.here hx rfl (hb hby at_277) rfl ((if0 _ _).trans (teq (by decide : (0 : Int32) = (0 : Int32))).2) ?_
    show Steps p.tables e below (Tc.setTop (mkF m 280 #[.val (.int p1), .val (.int p2), .val (.int p3), .val (.int p4), .val (.int p5), .val (.int (2 : Int32)), .val (.ref wAVG), .val (.int (2 : Int32)), .val (.long x0), .second, .val (.long (x0 + y1)), .second, .val (.long ((x0 + y1) + y2)), .second, .val (.ref b), .val (.long (x0 + y1)), .second, .val (.long (x0 + (x0 + y1))), .second, .val (.double (FP.ddiv (FP.l2d (x0 + (x0 + y1))) (FP.l2d (2 : Int32).toInt64))), .second, .val (.double (FP.ddiv (FP.l2d (x0 + (x0 + y1))) (FP.l2d (2 : Int32).toInt64))), .second] [])) _
    refine XS.iconst Xc.here hx rfl (hb hby at_280) ?_
    show Steps p.tables e below (Tc.setTop (mkF m 281 #[.val (.int p1), .val (.int p2), .val (.int p3), .val (.int p4), .val (.int p5), .val (.int (2 : Int32)), .val (.ref wAVG), .val (.int (2 : Int32)), .val (.long x0), .second, .val (.long (x0 + y1)), .second, .val (.long ((x0 + y1) + y2)), .second, .val (.ref b), .val (.long (x0 + y1)), .second, .val (.long (x0 + (x0 + y1))), .second, .val (.double (FP.ddiv (FP.l2d (x0 + (x0 + y1))) (FP.l2d (2 : Int32).toInt64))), .second, .val (.double (FP.ddiv (FP.l2d (x0 + (x0 + y1))) (FP.l2d (2 : Int32).toInt64))), .second] [(.int (1 : Int32))])) _
    refine XS.goto Xc.here hx rfl (pc0 := 281) (pc' := 285) rfl (hb hby at_281) (by decide) (by decide) ?_
    show Steps p.tables e below (Tc.setTop (mkF m 285 #[.val (.int p1), .val (.int p2), .val (.int p3), .val (.int p4), .val (.int p5), .val (.int (2 : Int32)), .val (.ref wAVG), .val (.int (2 : Int32)), .val (.long x0), .second, .val (.long (x0 + y1)), .second, .val (.long ((x0 + y1) + y2)), .second, .val (.ref b), .val (.long (x0 + y1)), .second, .val (.long (x0 + (x0 + y1))), .second, .val (.double (FP.ddiv (FP.l2d (x0 + (x0 + y1))) (FP.l2d (2 : Int32).toInt64))), .second, .val (.double (FP.ddiv (FP.l2d (x0 + (x0 + y1))) (FP.l2d (2 : Int32).toInt64))), .second] [(.int (1 : Int32))])) _
    exact retN Xc hx (t := .boolean) Bd.returns (by simp) (hb hby at_285) hr
  · show Q0 h0 n0 _ Tc.heap _
    exact ⟨rfl, Nc⟩
set_option maxRecDepth 65536 in
set_option maxHeartbeats 40000000 in
theorem rm0_2_3 (l : Launch) (Z : State) (a0 : Array Value) (hw : ∀ d ∈ tables_1, d.before a0 Z = true) (ws : List Jvm.Cond) (p1 p2 p3 p4 p5 : Int32) (wMIN wMAX wAVG wSUM : Addr) (x0 y1 y2 : Int64) (h0 : Heap) (n0 : Nat) (Z0 : n0 ≤ h0.size) (S_MIN : Sta Z h0 "com/example/tiebreaker/tiebreaker/engine/search/DecayFunction$MultiValueMode" "MIN" "Lcom/example/tiebreaker/tiebreaker/engine/search/DecayFunction$MultiValueMode;" (.ref wMIN)) (S_MAX : Sta Z h0 "com/example/tiebreaker/tiebreaker/engine/search/DecayFunction$MultiValueMode" "MAX" "Lcom/example/tiebreaker/tiebreaker/engine/search/DecayFunction$MultiValueMode;" (.ref wMAX)) (S_AVG : Sta Z h0 "com/example/tiebreaker/tiebreaker/engine/search/DecayFunction$MultiValueMode" "AVG" "Lcom/example/tiebreaker/tiebreaker/engine/search/DecayFunction$MultiValueMode;" (.ref wAVG)) (S_SUM : Sta Z h0 "com/example/tiebreaker/tiebreaker/engine/search/DecayFunction$MultiValueMode" "SUM" "Lcom/example/tiebreaker/tiebreaker/engine/search/DecayFunction$MultiValueMode;" (.ref wSUM)) (nXI : ¬ wMAX = wMIN) (nAI : ¬ wAVG = wMIN) (nAX : ¬ wAVG = wMAX) (nSI : ¬ wSUM = wMIN) (nSX : ¬ wSUM = wMAX) (nAS : ¬ wAVG = wSUM) (E_m : Exa Z h0 wAVG "com/example/tiebreaker/tiebreaker/engine/search/DecayFunction$MultiValueMode") (hx0 : x0 = (p3 &&& (1048575 : Int32)).toInt64) (hy1 : y1 = (p4 &&& (1048575 : Int32)).toInt64) (hy2 : y2 = (p5 &&& (1048575 : Int32)).toInt64) (b0 : 0 ≤ x0.toInt ∧ x0.toInt < 4000000) (b1 : 0 ≤ (x0 + y1).toInt ∧ (x0 + y1).toInt < 4000000) (b2 : 0 ≤ ((x0 + y1) + y2).toInt ∧ ((x0 + y1) + y2).toInt < 4000000) (hm : (p1 &&& (3 : Int32)) = (2 : Int32)) (hn : (((p2 &&& (2147483647 : Int32)) % (3 : Int32)) + (1 : Int32)) = (3 : Int32)) :
    MetFree l x (head1 (Jvm.Cond.code x code maxLocals ret :: ws) room_1) (fun a U => a = #[(.int p1), (.int p2), (.int p3), (.int p4), (.int p5)] ∧ Z.Warmed39 U.vm ∧ U.heap = h0) (fun _ _ _ _ _ => True) (fun _ U o U' => ∃ v L, o = .returned v ∧ Q0 h0 n0 v U'.heap L ∧ FrameEnd U o U' L room_1.cells room_1.slots) := by
  refine MetFree.of_bodySF (plainFor_of_name pn_0) hisR ?_
  intro p e s m args below meth c s₁ Bd hml0 hP hK
  obtain ⟨rfl, hZ, hh⟩ := hP
  have hx := Bd.exec
  have hby := Bd.bytes
  have hml : c.maxLocals = 23 := hml0
  have hown : s.vm.findClass "com/example/tiebreaker/tiebreaker/engine/search/MultiValueModePickPinLaw" = some m.cls := findClass_of_methodNamed Bd.named
  have X0 : Stand p l e room_1 s m #[(.int p1), (.int p2), (.int p3), (.int p4), (.int p5)] below meth c s₁ [] 0 0 := Stand.of_body Bd
  have e0 : s₁.heap = h0 := by rw [← hh, Bd.state]; rfl
  have N0 := Fr.nil n0
  have pre0 : ∀ t, Steps p.tables e below (s₁.setTop (mkF m 0 #[.val (.int p1), .val (.int p2), .val (.int p3), .val (.int p4), .val (.int p5), uu, uu, uu, uu, uu, uu, uu, uu, uu, uu, uu, uu, uu, uu, uu, uu, uu, uu] [])) t → Steps p.tables e below (s₁.setTop (entryFrame m #[(.int p1), (.int p2), (.int p3), (.int p4), (.int p5)] maxLocals)) t := fun t k => castTop (ef_0 m p1 p2 p3 p4 p5) k
  obtain ⟨T50, X50, e50, st50⟩ := getS2 X0 hx hZ hown (host := "") (Or.inl (hw _ (List.mem_of_getElem? (i := 17) rfl))) Via.refl e0 S_AVG (g := (mkF m 34 #[.val (.int p1), .val (.int p2), .val (.int p3), .val (.int p4), .val (.int p5), .val (.int (2 : Int32)), uu, uu, uu, uu, uu, uu, uu, uu, uu, uu, uu, uu, uu, uu, uu, uu, uu] [])) rfl (hb hby at_34)
  obtain ⟨Ta, ha, ka, Xa, ea, Ea, Aa, sta_⟩ := newP X50 hx hZ (hw _ (List.mem_of_getElem? (i := 5) rfl)) e50 (g := (mkF m 130 #[.val (.int p1), .val (.int p2), .val (.int p3), .val (.int p4), .val (.int p5), .val (.int (2 : Int32)), .val (.ref wAVG), .val (.int (3 : Int32)), .val (.long x0), .second, .val (.long (x0 + y1)), .second, .val (.long ((x0 + y1) + y2)), .second, uu, uu, uu, uu, uu, uu, uu, uu, uu] [(.int (3 : Int32))])) rfl (hb hby at_130) rfl (by decide) (cap := 3) (by decide) (by decide) (by decide) (by decide)
  obtain ⟨b, gb⟩ : ∃ z, z = h0.size := ⟨_, rfl⟩
  rw [← gb] at Aa sta_
  have V0 : Arv Z ha b ka .double (3 : Int32) [] (.double (FP.l2d 0)) := Arv.newD Aa (by decide)
  have Vp : Arv Z ha b ka .double (3 : Int32) (List.replicate 3 (.double (FP.l2d 0))) (.double (FP.l2d 0)) := V0.pad (pad_rep [] (.double (FP.l2d 0)) 3)
  have g_b : n0 ≤ b := Nat.le_trans Z0 (Nat.le_of_eq gb.symm)
  have sz_b : h0.size ≤ b := Nat.le_of_eq gb.symm
  have Ka : Keep h0 ha [] := (Keep.refl h0 []).ext Ea
  obtain ⟨cl0, Ar0, q0, Sz0, M0, H0, U0⟩ := Vp
  obtain ⟨Td0, hd0, Xd0, ed0, Wd0, std0⟩ := stD Xa hx hZ ea Ar0 (j := (0 : Int32)) (inb_of Sz0 (by decide)) (g := (mkF m 137 #[.val (.int p1), .val (.int p2), .val (.int p3), .val (.int p4), .val (.int p5), .val (.int (2 : Int32)), .val (.ref wAVG), .val (.int (3 : Int32)), .val (.long x0), .second, .val (.long (x0 + y1)), .second, .val (.long ((x0 + y1) + y2)), .second, uu, uu, uu, uu, uu, uu, uu, uu, uu] [(.double (FP.l2d x0)), (.int (0 : Int32)), (.ref b), (.ref b)])) rfl rfl (hb hby at_137)
  have V1 := Arv.set Ar0 q0 Sz0 M0 H0 U0 (v := (.double (FP.l2d x0))) rfl Wd0 0 rfl (by simp)
  have Nd0 := Fr.snoc Xd0 N0 g_b
  have Kd0 : Keep h0 hd0 [] := Ka.wr Wd0 (Or.inr sz_b)
  obtain ⟨cl1, Ar1, q1, Sz1, M1, H1, U1⟩ := V1
  obtain ⟨Td1, hd1, Xd1, ed1, Wd1, std1⟩ := stD Xd0 hx hZ ed0 Ar1 (j := (1 : Int32)) (inb_of Sz1 (by decide)) (g := (mkF m 143 #[.val (.int p1), .val (.int p2), .val (.int p3), .val (.int p4), .val (.int p5), .val (.int (2 : Int32)), .val (.ref wAVG), .val (.int (3 : Int32)), .val (.long x0), .second, .val (.long (x0 + y1)), .second, .val (.long ((x0 + y1) + y2)), .second, uu, uu, uu, uu, uu, uu, uu, uu, uu] [(.double (FP.l2d (x0 + y1))), (.int (1 : Int32)), (.ref b), (.ref b)])) rfl rfl (hb hby at_143)
  have V2 := Arv.set Ar1 q1 Sz1 M1 H1 U1 (v := (.double (FP.l2d (x0 + y1)))) rfl Wd1 1 rfl (by simp)
  have Nd1 := Fr.snoc Xd1 Nd0 g_b
  have Kd1 : Keep h0 hd1 [] := Kd0.wr Wd1 (Or.inr sz_b)
  obtain ⟨cl2, Ar2, q2, Sz2, M2, H2, U2⟩ := V2
  obtain ⟨Td2, hd2, Xd2, ed2, Wd2, std2⟩ := stD Xd1 hx hZ ed1 Ar2 (j := (2 : Int32)) (inb_of Sz2 (by decide)) (g := (mkF m 149 #[.val (.int p1), .val (.int p2), .val (.int p3), .val (.int p4), .val (.int p5), .val (.int (2 : Int32)), .val (.ref wAVG), .val (.int (3 : Int32)), .val (.long x0), .second, .val (.long (x0 + y1)), .second, .val (.long ((x0 + y1) + y2)), .second, uu, uu, uu, uu, uu, uu, uu, uu, uu] [(.double (FP.l2d ((x0 + y1) + y2))), (.int (2 : Int32)), (.ref b), (.ref b)])) rfl rfl (hb hby at_149)
  have V3 := Arv.set Ar2 q2 Sz2 M2 H2 U2 (v := (.double (FP.l2d ((x0 + y1) + y2)))) rfl Wd2 2 rfl (by simp)
  have Nd2 := Fr.snoc Xd2 Nd1 g_b
  have Kd2 : Keep h0 hd2 [] := Kd1.wr Wd2 (Or.inr sz_b)
  have KK : Keep h0 hd2 [] := Kd2
  obtain ⟨cl, Ar, -, Sz, Nn, Hh, -⟩ := V3
  have hat0 : cl.slots[0]? = some (.double (FP.l2d x0)) := Hh 0 (by rw [Sz]; decide)
  have hat1 : cl.slots[1]? = some (.double (FP.l2d (x0 + y1))) := Hh 1 (by rw [Sz]; decide)
  have hat2 : cl.slots[2]? = some (.double (FP.l2d ((x0 + y1) + y2))) := Hh 2 (by rw [Sz]; decide)
  obtain ⟨cq, kq, qa, qb, qc⟩ := isOf hZ ed2 (E_m.keep KK)
  obtain ⟨_, _, ⟨Tc, Lc, kc, nc⟩, -, Xc, ⟨Lcc, hQc, lc, yc, zc⟩, stc⟩ := Xd2.virtualBack hx (y := (⟨"com/example/tiebreaker/tiebreaker/engine/search/DecayFunction$MultiValueMode", "pick", "([D)D"⟩ : MethodName)) (z := (⟨"com/example/tiebreaker/tiebreaker/engine/search/DecayFunction$MultiValueMode", "pick", "([D)D"⟩ : MethodName)) hown (mvT hZ (hw _ (List.mem_of_getElem? (i := 6) rfl))) (mvT hZ (hw _ (List.mem_of_getElem? (i := 7) rfl))) (notFace_of_selects (args := #[]) (mvT hZ (hw _ (List.mem_of_getElem? (i := 9) rfl)))) (mvT hZ (hw _ (List.mem_of_getElem? (i := 9) rfl))) (mvT hZ (hw _ (List.mem_of_getElem? (i := 8) rfl))) (by decide) (backOf (W := 0) (rm1_AVG_3 l Z a0 hw [] b wMIN wMAX wAVG wSUM x0 (x0 + y1) ((x0 + y1) + y2) hd2 n0 (Nat.le_trans Z0 KK.1) (own_sta S_MIN KK) (own_sta S_MAX KK) (own_sta S_AVG KK) (own_sta S_SUM KK) nXI nAI nAX nSI nSX nAS cl Ar Sz Nn hat0 hat1 hat2 b0 b1 b2) hZ (hw _ (List.mem_of_getElem? (i := 10) rfl)) (hw _ (List.mem_of_getElem? (i := 1) rfl)) (by decide) (by decide)) qa qc (g := (mkF m 267 #[.val (.int p1), .val (.int p2), .val (.int p3), .val (.int p4), .val (.int p5), .val (.int (2 : Int32)), .val (.ref wAVG), .val (.int (3 : Int32)), .val (.long x0), .second, .val (.long (x0 + y1)), .second, .val (.long ((x0 + y1) + y2)), .second, .val (.ref b), .val (.long ((x0 + y1) + y2)), .second, .val (.long ((x0 + (x0 + y1)) + ((x0 + y1) + y2))), .second, .val (.double (FP.ddiv (FP.l2d ((x0 + (x0 + y1)) + ((x0 + y1) + y2))) (FP.l2d (3 : Int32).toInt64))), .second, uu, uu] [(.ref b), (.ref wAVG)])) rfl (by rw [hml]; rfl) (Steps.refl _) (argsL := [(.ref b)]) (rest := []) (lenOf pd_0 rfl) rfl (by show 2 * 0 + _ ≤ _; exact Nat.le_of_eq rfl) (hb hby at_267) (fun _ _ => ⟨rfl, ed2, (by decide : 0 + 1 + 0 ≤ _), (by decide : 0 + 3 + 0 ≤ _)⟩)
  dsimp only [Pt.U, Pt.locs, Pt.cells, Pt.slots] at Xc lc yc zc stc hQc
  subst lc yc zc
  obtain ⟨rfl, Ncq, ec⟩ := hQc
  have Nc := Fr.app Nd2 Ncq
  obtain ⟨fs, hr, hrun, hended, hW, hsame⟩ := Xc.leave (v := some (.int (1 : Int32))) (fun h => by rw [Bd.returns] at h; cases h)
  refine ⟨_, _, pre0 _ ?_, hrun, hended, _, _, rfl, ?_, ⟨_, rfl⟩, hW, hsame.mono (by decide) (by decide)⟩
  · show Steps p.tables e below (s₁.setTop (mkF m 0 #[.val (.int p1), .val (.int p2), .val (.int p3), .val (.int p4), .val (.int p5), uu, uu, uu, uu, uu, uu, uu, uu, uu, uu, uu, uu, uu, uu, uu, uu, uu, uu] [])) _
    refine XS.iloadN X0.here hx rfl (hb hby at_0) rfl ?_
    show Steps p.tables e below (s₁.setTop (mkF m 1 #[.val (.int p1), .val (.int p2), .val (.int p3), .val (.int p4), .val (.int p5), uu, uu, uu, uu, uu, uu, uu, uu, uu, uu, uu, uu, uu, uu, uu, uu, uu, uu] [(.int p1)])) _
    refine XS.iconst X0.here hx rfl (hb hby at_1) ?_
    show Steps p.tables e below (s₁.setTop (mkF m 2 #[.val (.int p1), .val (.int p2), .val (.int p3), .val (.int p4), .val (.int p5), uu, uu, uu, uu, uu, uu, uu, uu, uu, uu, uu, uu, uu, uu, uu, uu, uu, uu] [(.int (3 : Int32)), (.int p1)])) _
    refine XS.iand X0.here hx rfl (hb hby at_2) rfl ?_
    show Steps p.tables e below (s₁.setTop (mkF m 3 #[.val (.int p1), .val (.int p2), .val (.int p3), .val (.int p4), .val (.int p5), uu, uu, uu, uu, uu, uu, uu, uu, uu, uu, uu, uu, uu, uu, uu, uu, uu, uu] [(.int (p1 &&& (3 : Int32)))])) _
    rw [hm]
    show Steps p.tables e below (s₁.setTop (mkF m 3 #[.val (.int p1), .val (.int p2), .val (.int p3), .val (.int p4), .val (.int p5), uu, uu, uu, uu, uu, uu, uu, uu, uu, uu, uu, uu, uu, uu, uu, uu, uu, uu] [(.int (2 : Int32))])) _
    refine XS.istore X0.here hx rfl (hb hby at_3) rfl (l' := #[.val (.int p1), .val (.int p2), .val (.int p3), .val (.int p4), .val (.int p5), .val (.int (2 : Int32)), uu, uu, uu, uu, uu, uu, uu, uu, uu, uu, uu, uu, uu, uu, uu, uu, uu]) rfl ?_
    show Steps p.tables e below (s₁.setTop (mkF m 5 #[.val (.int p1), .val (.int p2), .val (.int p3), .val (.int p4), .val (.int p5), .val (.int (2 : Int32)), uu, uu, uu, uu, uu, uu, uu, uu, uu, uu, uu, uu, uu, uu, uu, uu, uu] [])) _
    refine XS.iload X0.here hx rfl (hb hby at_5) rfl ?_
    show Steps p.tables e below (s₁.setTop (mkF m 7 #[.val (.int p1), .val (.int p2), .val (.int p3), .val (.int p4), .val (.int p5), .val (.int (2 : Int32)), uu, uu, uu, uu, uu, uu, uu, uu, uu, uu, uu, uu, uu, uu, uu, uu, uu] [(.int (2 : Int32))])) _
    refine XS.ifYes X0.here hx rfl (pc0 := 7) (pc' := 16) rfl (hb hby at_7) rfl ((if0 _ _).trans (feq (by decide : ¬ ((2 : Int32) = (0 : Int32)))).2) (by decide) (by decide) ?_
    show Steps p.tables e below (s₁.setTop (mkF m 16 #[.val (.int p1), .val (.int p2), .val (.int p3), .val (.int p4), .val (.int p5), .val (.int (2 : Int32)), uu, uu, uu, uu, uu, uu, uu, uu, uu, uu, uu, uu, uu, uu, uu, uu, uu] [])) _
    refine XS.iload X0.here hx rfl (hb hby at_16) rfl ?_
    show Steps p.tables e below (s₁.setTop (mkF m 18 #[.val (.int p1), .val (.int p2), .val (.int p3), .val (.int p4), .val (.int p5), .val (.int (2 : Int32)), uu, uu, uu, uu, uu, uu, uu, uu, uu, uu, uu, uu, uu, uu, uu, uu, uu] [(.int (2 : Int32))])) _
    refine XS.iconst X0.here hx rfl (hb hby at_18) ?_
    show Steps p.tables e below (s₁.setTop (mkF m 19 #[.val (.int p1), .val (.int p2), .val (.int p3), .val (.int p4), .val (.int p5), .val (.int (2 : Int32)), uu, uu, uu, uu, uu, uu, uu, uu, uu, uu, uu, uu, uu, uu, uu, uu, uu] [(.int (1 : Int32)), (.int (2 : Int32))])) _
    refine XS.icmpYes X0.here hx rfl (pc0 := 19) (pc' := 28) rfl (hb hby at_19) rfl (feq (by decide : ¬ ((2 : Int32) = (1 : Int32)))).2 (by decide) (by decide) ?_
    show Steps p.tables e below (s₁.setTop (mkF m 28 #[.val (.int p1), .val (.int p2), .val (.int p3), .val (.int p4), .val (.int p5), .val (.int (2 : Int32)), uu, uu, uu, uu, uu, uu, uu, uu, uu, uu, uu, uu, uu, uu, uu, uu, uu] [])) _
    refine XS.iload X0.here hx rfl (hb hby at_28) rfl ?_
    show Steps p.tables e below (s₁.setTop (mkF m 30 #[.val (.int p1), .val (.int p2), .val (.int p3), .val (.int p4), .val (.int p5), .val (.int (2 : Int32)), uu, uu, uu, uu, uu, uu, uu, uu, uu, uu, uu, uu, uu, uu, uu, uu, uu] [(.int (2 : Int32))])) _
    refine XS.iconst X0.here hx rfl (hb hby at_30) ?_
    show Steps p.tables e below (s₁.setTop (mkF m 31 #[.val (.int p1), .val (.int p2), .val (.int p3), .val (.int p4), .val (.int p5), .val (.int (2 : Int32)), uu, uu, uu, uu, uu, uu, uu, uu, uu, uu, uu, uu, uu, uu, uu, uu, uu] [(.int (2 : Int32)), (.int (2 : Int32))])) _
    refine XS.icmpNo X0.here hx rfl (hb hby at_31) rfl (teq (by decide : (2 : Int32) = (2 : Int32))).2 ?_
    show Steps p.tables e below (s₁.setTop (mkF m 34 #[.val (.int p1), .val (.int p2), .val (.int p3), .val (.int p4), .val (.int p5), .val (.int (2 : Int32)), uu, uu, uu, uu, uu, uu, uu, uu, uu, uu, uu, uu, uu, uu, uu, uu, uu] [])) _
    refine st50 _ ?_
    show Steps p.tables e below (T50.setTop (mkF m 37 #[.val (.int p1), .val (.int p2), .val (.int p3), .val (.int p4), .val (.int p5), .val (.int (2 : Int32)), uu, uu, uu, uu, uu, uu, uu, uu, uu, uu, uu, uu, uu, uu, uu, uu, uu] [(.ref wAVG)])) _
    refine XS.goto X50.here hx rfl (pc0 := 37) (pc' := 43) rfl (hb hby at_37) (by decide) (by decide) ?_
    show Steps p.tables e below (T50.setTop (mkF m 43 #[.val (.int p1), .val (.int p2), .val (.int p3), .val (.int p4), .val (.int p5), .val (.int (2 : Int32)), uu, uu, uu, uu, uu, uu, uu, uu, uu, uu, uu, uu, uu, uu, uu, uu, uu] [(.ref wAVG)])) _
    refine XS.astore X50.here hx rfl (hb hby at_43) rfl rfl (l' := #[.val (.int p1), .val (.int p2), .val (.int p3), .val (.int p4), .val (.int p5), .val (.int (2 : Int32)), .val (.ref wAVG), uu, uu, uu, uu, uu, uu, uu, uu, uu, uu, uu, uu, uu, uu, uu, uu]) rfl ?_
    show Steps p.tables e below (T50.setTop (mkF m 45 #[.val (.int p1), .val (.int p2), .val (.int p3), .val (.int p4), .val (.int p5), .val (.int (2 : Int32)), .val (.ref wAVG), uu, uu, uu, uu, uu, uu, uu, uu, uu, uu, uu, uu, uu, uu, uu, uu] [])) _
    refine XS.iloadN X50.here hx rfl (hb hby at_45) rfl ?_
    show Steps p.tables e below (T50.setTop (mkF m 46 #[.val (.int p1), .val (.int p2), .val (.int p3), .val (.int p4), .val (.int p5), .val (.int (2 : Int32)), .val (.ref wAVG), uu, uu, uu, uu, uu, uu, uu, uu, uu, uu, uu, uu, uu, uu, uu, uu] [(.int p2)])) _
    refine X50.ldcInt hx hown (mvT hZ (hw _ (List.mem_of_getElem? (i := 3) rfl))) (g := (mkF m 46 #[.val (.int p1), .val (.int p2), .val (.int p3), .val (.int p4), .val (.int p5), .val (.int (2 : Int32)), .val (.ref wAVG), uu, uu, uu, uu, uu, uu, uu, uu, uu, uu, uu, uu, uu, uu, uu, uu] [(.int p2)])) rfl (hb hby at_46) _ ?_
    show Steps p.tables e below (T50.setTop (mkF m 48 #[.val (.int p1), .val (.int p2), .val (.int p3), .val (.int p4), .val (.int p5), .val (.int (2 : Int32)), .val (.ref wAVG), uu, uu, uu, uu, uu, uu, uu, uu, uu, uu, uu, uu, uu, uu, uu, uu] [(.int (2147483647 : Int32)), (.int p2)])) _
    refine XS.iand X50.here hx rfl (hb hby at_48) rfl ?_
    show Steps p.tables e below (T50.setTop (mkF m 49 #[.val (.int p1), .val (.int p2), .val (.int p3), .val (.int p4), .val (.int p5), .val (.int (2 : Int32)), .val (.ref wAVG), uu, uu, uu, uu, uu, uu, uu, uu, uu, uu, uu, uu, uu, uu, uu, uu] [(.int (p2 &&& (2147483647 : Int32)))])) _
    refine XS.iconst X50.here hx rfl (hb hby at_49) ?_
    show Steps p.tables e below (T50.setTop (mkF m 50 #[.val (.int p1), .val (.int p2), .val (.int p3), .val (.int p4), .val (.int p5), .val (.int (2 : Int32)), .val (.ref wAVG), uu, uu, uu, uu, uu, uu, uu, uu, uu, uu, uu, uu, uu, uu, uu, uu] [(.int (3 : Int32)), (.int (p2 &&& (2147483647 : Int32)))])) _
    refine iremM X50 hx rfl (hb hby at_50) rfl (by decide) ?_
    show Steps p.tables e below (T50.setTop (mkF m 51 #[.val (.int p1), .val (.int p2), .val (.int p3), .val (.int p4), .val (.int p5), .val (.int (2 : Int32)), .val (.ref wAVG), uu, uu, uu, uu, uu, uu, uu, uu, uu, uu, uu, uu, uu, uu, uu, uu] [(.int ((p2 &&& (2147483647 : Int32)) % (3 : Int32)))])) _
    refine XS.iconst X50.here hx rfl (hb hby at_51) ?_
    show Steps p.tables e below (T50.setTop (mkF m 52 #[.val (.int p1), .val (.int p2), .val (.int p3), .val (.int p4), .val (.int p5), .val (.int (2 : Int32)), .val (.ref wAVG), uu, uu, uu, uu, uu, uu, uu, uu, uu, uu, uu, uu, uu, uu, uu, uu] [(.int (1 : Int32)), (.int ((p2 &&& (2147483647 : Int32)) % (3 : Int32)))])) _
    refine XS.iadd X50.here hx rfl (hb hby at_52) rfl ?_
    show Steps p.tables e below (T50.setTop (mkF m 53 #[.val (.int p1), .val (.int p2), .val (.int p3), .val (.int p4), .val (.int p5), .val (.int (2 : Int32)), .val (.ref wAVG), uu, uu, uu, uu, uu, uu, uu, uu, uu, uu, uu, uu, uu, uu, uu, uu] [(.int (((p2 &&& (2147483647 : Int32)) % (3 : Int32)) + (1 : Int32)))])) _
    rw [hn]
    show Steps p.tables e below (T50.setTop (mkF m 53 #[.val (.int p1), .val (.int p2), .val (.int p3), .val (.int p4), .val (.int p5), .val (.int (2 : Int32)), .val (.ref wAVG), uu, uu, uu, uu, uu, uu, uu, uu, uu, uu, uu, uu, uu, uu, uu, uu] [(.int (3 : Int32))])) _
    refine XS.istore X50.here hx rfl (hb hby at_53) rfl (l' := #[.val (.int p1), .val (.int p2), .val (.int p3), .val (.int p4), .val (.int p5), .val (.int (2 : Int32)), .val (.ref wAVG), .val (.int (3 : Int32)), uu, uu, uu, uu, uu, uu, uu, uu, uu, uu, uu, uu, uu, uu, uu]) rfl ?_
    show Steps p.tables e below (T50.setTop (mkF m 55 #[.val (.int p1), .val (.int p2), .val (.int p3), .val (.int p4), .val (.int p5), .val (.int (2 : Int32)), .val (.ref wAVG), .val (.int (3 : Int32)), uu, uu, uu, uu, uu, uu, uu, uu, uu, uu, uu, uu, uu, uu, uu] [])) _
    refine XS.iloadN X50.here hx rfl (hb hby at_55) rfl ?_
    show Steps p.tables e below (T50.setTop (mkF m 56 #[.val (.int p1), .val (.int p2), .val (.int p3), .val (.int p4), .val (.int p5), .val (.int (2 : Int32)), .val (.ref wAVG), .val (.int (3 : Int32)), uu, uu, uu, uu, uu, uu, uu, uu, uu, uu, uu, uu, uu, uu, uu] [(.int p3)])) _
    refine X50.ldcInt hx hown (mvT hZ (hw _ (List.mem_of_getElem? (i := 4) rfl))) (g := (mkF m 56 #[.val (.int p1), .val (.int p2), .val (.int p3), .val (.int p4), .val (.int p5), .val (.int (2 : Int32)), .val (.ref wAVG), .val (.int (3 : Int32)), uu, uu, uu, uu, uu, uu, uu, uu, uu, uu, uu, uu, uu, uu, uu] [(.int p3)])) rfl (hb hby at_56) _ ?_
    show Steps p.tables e below (T50.setTop (mkF m 58 #[.val (.int p1), .val (.int p2), .val (.int p3), .val (.int p4), .val (.int p5), .val (.int (2 : Int32)), .val (.ref wAVG), .val (.int (3 : Int32)), uu, uu, uu, uu, uu, uu, uu, uu, uu, uu, uu, uu, uu, uu, uu] [(.int (1048575 : Int32)), (.int p3)])) _
    refine XS.iand X50.here hx rfl (hb hby at_58) rfl ?_
    show Steps p.tables e below (T50.setTop (mkF m 59 #[.val (.int p1), .val (.int p2), .val (.int p3), .val (.int p4), .val (.int p5), .val (.int (2 : Int32)), .val (.ref wAVG), .val (.int (3 : Int32)), uu, uu, uu, uu, uu, uu, uu, uu, uu, uu, uu, uu, uu, uu, uu] [(.int (p3 &&& (1048575 : Int32)))])) _
    refine XS.i2l X50.here hx rfl (hb hby at_59) rfl ?_
    show Steps p.tables e below (T50.setTop (mkF m 60 #[.val (.int p1), .val (.int p2), .val (.int p3), .val (.int p4), .val (.int p5), .val (.int (2 : Int32)), .val (.ref wAVG), .val (.int (3 : Int32)), uu, uu, uu, uu, uu, uu, uu, uu, uu, uu, uu, uu, uu, uu, uu] [(.long ((p3 &&& (1048575 : Int32)).toInt64))])) _
    rw [← hx0]
    show Steps p.tables e below (T50.setTop (mkF m 60 #[.val (.int p1), .val (.int p2), .val (.int p3), .val (.int p4), .val (.int p5), .val (.int (2 : Int32)), .val (.ref wAVG), .val (.int (3 : Int32)), uu, uu, uu, uu, uu, uu, uu, uu, uu, uu, uu, uu, uu, uu, uu] [(.long x0)])) _
    refine XS.lstore X50.here hx rfl (hb hby at_60) rfl (l' := #[.val (.int p1), .val (.int p2), .val (.int p3), .val (.int p4), .val (.int p5), .val (.int (2 : Int32)), .val (.ref wAVG), .val (.int (3 : Int32)), .val (.long x0), .second, uu, uu, uu, uu, uu, uu, uu, uu, uu, uu, uu, uu, uu]) rfl ?_
    show Steps p.tables e below (T50.setTop (mkF m 62 #[.val (.int p1), .val (.int p2), .val (.int p3), .val (.int p4), .val (.int p5), .val (.int (2 : Int32)), .val (.ref wAVG), .val (.int (3 : Int32)), .val (.long x0), .second, uu, uu, uu, uu, uu, uu, uu, uu, uu, uu, uu, uu, uu] [])) _
    refine XS.lload X50.here hx rfl (hb hby at_62) rfl ?_
    show Steps p.tables e below (T50.setTop (mkF m 64 #[.val (.int p1), .val (.int p2), .val (.int p3), .val (.int p4), .val (.int p5), .val (.int (2 : Int32)), .val (.ref wAVG), .val (.int (3 : Int32)), .val (.long x0), .second, uu, uu, uu, uu, uu, uu, uu, uu, uu, uu, uu, uu, uu] [(.long x0)])) _
    refine XS.iloadN X50.here hx rfl (hb hby at_64) rfl ?_
    show Steps p.tables e below (T50.setTop (mkF m 65 #[.val (.int p1), .val (.int p2), .val (.int p3), .val (.int p4), .val (.int p5), .val (.int (2 : Int32)), .val (.ref wAVG), .val (.int (3 : Int32)), .val (.long x0), .second, uu, uu, uu, uu, uu, uu, uu, uu, uu, uu, uu, uu, uu] [(.int p4), (.long x0)])) _
    refine X50.ldcInt hx hown (mvT hZ (hw _ (List.mem_of_getElem? (i := 4) rfl))) (g := (mkF m 65 #[.val (.int p1), .val (.int p2), .val (.int p3), .val (.int p4), .val (.int p5), .val (.int (2 : Int32)), .val (.ref wAVG), .val (.int (3 : Int32)), .val (.long x0), .second, uu, uu, uu, uu, uu, uu, uu, uu, uu, uu, uu, uu, uu] [(.int p4), (.long x0)])) rfl (hb hby at_65) _ ?_
    show Steps p.tables e below (T50.setTop (mkF m 67 #[.val (.int p1), .val (.int p2), .val (.int p3), .val (.int p4), .val (.int p5), .val (.int (2 : Int32)), .val (.ref wAVG), .val (.int (3 : Int32)), .val (.long x0), .second, uu, uu, uu, uu, uu, uu, uu, uu, uu, uu, uu, uu, uu] [(.int (1048575 : Int32)), (.int p4), (.long x0)])) _
    refine XS.iand X50.here hx rfl (hb hby at_67) rfl ?_
    show Steps p.tables e below (T50.setTop (mkF m 68 #[.val (.int p1), .val (.int p2), .val (.int p3), .val (.int p4), .val (.int p5), .val (.int (2 : Int32)), .val (.ref wAVG), .val (.int (3 : Int32)), .val (.long x0), .second, uu, uu, uu, uu, uu, uu, uu, uu, uu, uu, uu, uu, uu] [(.int (p4 &&& (1048575 : Int32))), (.long x0)])) _
    refine XS.i2l X50.here hx rfl (hb hby at_68) rfl ?_
    show Steps p.tables e below (T50.setTop (mkF m 69 #[.val (.int p1), .val (.int p2), .val (.int p3), .val (.int p4), .val (.int p5), .val (.int (2 : Int32)), .val (.ref wAVG), .val (.int (3 : Int32)), .val (.long x0), .second, uu, uu, uu, uu, uu, uu, uu, uu, uu, uu, uu, uu, uu] [(.long ((p4 &&& (1048575 : Int32)).toInt64)), (.long x0)])) _
    rw [← hy1]
    show Steps p.tables e below (T50.setTop (mkF m 69 #[.val (.int p1), .val (.int p2), .val (.int p3), .val (.int p4), .val (.int p5), .val (.int (2 : Int32)), .val (.ref wAVG), .val (.int (3 : Int32)), .val (.long x0), .second, uu, uu, uu, uu, uu, uu, uu, uu, uu, uu, uu, uu, uu] [(.long y1), (.long x0)])) _
    refine XS.ladd X50.here hx rfl (hb hby at_69) rfl ?_
    show Steps p.tables e below (T50.setTop (mkF m 70 #[.val (.int p1), .val (.int p2), .val (.int p3), .val (.int p4), .val (.int p5), .val (.int (2 : Int32)), .val (.ref wAVG), .val (.int (3 : Int32)), .val (.long x0), .second, uu, uu, uu, uu, uu, uu, uu, uu, uu, uu, uu, uu, uu] [(.long (x0 + y1))])) _
    refine XS.lstore X50.here hx rfl (hb hby at_70) rfl (l' := #[.val (.int p1), .val (.int p2), .val (.int p3), .val (.int p4), .val (.int p5), .val (.int (2 : Int32)), .val (.ref wAVG), .val (.int (3 : Int32)), .val (.long x0), .second, .val (.long (x0 + y1)), .second, uu, uu, uu, uu, uu, uu, uu, uu, uu, uu, uu]) rfl ?_
    show Steps p.tables e below (T50.setTop (mkF m 72 #[.val (.int p1), .val (.int p2), .val (.int p3), .val (.int p4), .val (.int p5), .val (.int (2 : Int32)), .val (.ref wAVG), .val (.int (3 : Int32)), .val (.long x0), .second, .val (.long (x0 + y1)), .second, uu, uu, uu, uu, uu, uu, uu, uu, uu, uu, uu] [])) _
    refine XS.lload X50.here hx rfl (hb hby at_72) rfl ?_
    show Steps p.tables e below (T50.setTop (mkF m 74 #[.val (.int p1), .val (.int p2), .val (.int p3), .val (.int p4), .val (.int p5), .val (.int (2 : Int32)), .val (.ref wAVG), .val (.int (3 : Int32)), .val (.long x0), .second, .val (.long (x0 + y1)), .second, uu, uu, uu, uu, uu, uu, uu, uu, uu, uu, uu] [(.long (x0 + y1))])) _
    refine XS.iload X50.here hx rfl (hb hby at_74) rfl ?_
    show Steps p.tables e below (T50.setTop (mkF m 76 #[.val (.int p1), .val (.int p2), .val (.int p3), .val (.int p4), .val (.int p5), .val (.int (2 : Int32)), .val (.ref wAVG), .val (.int (3 : Int32)), .val (.long x0), .second, .val (.long (x0 + y1)), .second, uu, uu, uu, uu, uu, uu, uu, uu, uu, uu, uu] [(.int p5), (.long (x0 + y1))])) _
    refine X50.ldcInt hx hown (mvT hZ (hw _ (List.mem_of_getElem? (i := 4) rfl))) (g := (mkF m 76 #[.val (.int p1), .val (.int p2), .val (.int p3), .val (.int p4), .val (.int p5), .val (.int (2 : Int32)), .val (.ref wAVG), .val (.int (3 : Int32)), .val (.long x0), .second, .val (.long (x0 + y1)), .second, uu, uu, uu, uu, uu, uu, uu, uu, uu, uu, uu] [(.int p5), (.long (x0 + y1))])) rfl (hb hby at_76) _ ?_
    show Steps p.tables e below (T50.setTop (mkF m 78 #[.val (.int p1), .val (.int p2), .val (.int p3), .val (.int p4), .val (.int p5), .val (.int (2 : Int32)), .val (.ref wAVG), .val (.int (3 : Int32)), .val (.long x0), .second, .val (.long (x0 + y1)), .second, uu, uu, uu, uu, uu, uu, uu, uu, uu, uu, uu] [(.int (1048575 : Int32)), (.int p5), (.long (x0 + y1))])) _
    refine XS.iand X50.here hx rfl (hb hby at_78) rfl ?_
    show Steps p.tables e below (T50.setTop (mkF m 79 #[.val (.int p1), .val (.int p2), .val (.int p3), .val (.int p4), .val (.int p5), .val (.int (2 : Int32)), .val (.ref wAVG), .val (.int (3 : Int32)), .val (.long x0), .second, .val (.long (x0 + y1)), .second, uu, uu, uu, uu, uu, uu, uu, uu, uu, uu, uu] [(.int (p5 &&& (1048575 : Int32))), (.long (x0 + y1))])) _
    refine XS.i2l X50.here hx rfl (hb hby at_79) rfl ?_
    show Steps p.tables e below (T50.setTop (mkF m 80 #[.val (.int p1), .val (.int p2), .val (.int p3), .val (.int p4), .val (.int p5), .val (.int (2 : Int32)), .val (.ref wAVG), .val (.int (3 : Int32)), .val (.long x0), .second, .val (.long (x0 + y1)), .second, uu, uu, uu, uu, uu, uu, uu, uu, uu, uu, uu] [(.long ((p5 &&& (1048575 : Int32)).toInt64)), (.long (x0 + y1))])) _
    rw [← hy2]
    show Steps p.tables e below (T50.setTop (mkF m 80 #[.val (.int p1), .val (.int p2), .val (.int p3), .val (.int p4), .val (.int p5), .val (.int (2 : Int32)), .val (.ref wAVG), .val (.int (3 : Int32)), .val (.long x0), .second, .val (.long (x0 + y1)), .second, uu, uu, uu, uu, uu, uu, uu, uu, uu, uu, uu] [(.long y2), (.long (x0 + y1))])) _
    refine XS.ladd X50.here hx rfl (hb hby at_80) rfl ?_
    show Steps p.tables e below (T50.setTop (mkF m 81 #[.val (.int p1), .val (.int p2), .val (.int p3), .val (.int p4), .val (.int p5), .val (.int (2 : Int32)), .val (.ref wAVG), .val (.int (3 : Int32)), .val (.long x0), .second, .val (.long (x0 + y1)), .second, uu, uu, uu, uu, uu, uu, uu, uu, uu, uu, uu] [(.long ((x0 + y1) + y2))])) _
    refine XS.lstore X50.here hx rfl (hb hby at_81) rfl (l' := #[.val (.int p1), .val (.int p2), .val (.int p3), .val (.int p4), .val (.int p5), .val (.int (2 : Int32)), .val (.ref wAVG), .val (.int (3 : Int32)), .val (.long x0), .second, .val (.long (x0 + y1)), .second, .val (.long ((x0 + y1) + y2)), .second, uu, uu, uu, uu, uu, uu, uu, uu, uu]) rfl ?_
    show Steps p.tables e below (T50.setTop (mkF m 83 #[.val (.int p1), .val (.int p2), .val (.int p3), .val (.int p4), .val (.int p5), .val (.int (2 : Int32)), .val (.ref wAVG), .val (.int (3 : Int32)), .val (.long x0), .second, .val (.long (x0 + y1)), .second, .val (.long ((x0 + y1) + y2)), .second, uu, uu, uu, uu, uu, uu, uu, uu, uu] [])) _
    refine XS.iload X50.here hx rfl (hb hby at_83) rfl ?_
    show Steps p.tables e below (T50.setTop (mkF m 85 #[.val (.int p1), .val (.int p2), .val (.int p3), .val (.int p4), .val (.int p5), .val (.int (2 : Int32)), .val (.ref wAVG), .val (.int (3 : Int32)), .val (.long x0), .second, .val (.long (x0 + y1)), .second, .val (.long ((x0 + y1) + y2)), .second, uu, uu, uu, uu, uu, uu, uu, uu, uu] [(.int (3 : Int32))])) _
    refine XS.iconst X50.here hx rfl (hb hby at_85) ?_
    show Steps p.tables e below (T50.setTop (mkF m 86 #[.val (.int p1), .val (.int p2), .val (.int p3), .val (.int p4), .val (.int p5), .val (.int (2 : Int32)), .val (.ref wAVG), .val (.int (3 : Int32)), .val (.long x0), .second, .val (.long (x0 + y1)), .second, .val (.long ((x0 + y1) + y2)), .second, uu, uu, uu, uu, uu, uu, uu, uu, uu] [(.int (1 : Int32)), (.int (3 : Int32))])) _
    refine XS.icmpYes X50.here hx rfl (pc0 := 86) (pc' := 103) rfl (hb hby at_86) rfl (feq (by decide : ¬ ((3 : Int32) = (1 : Int32)))).2 (by decide) (by decide) ?_
    show Steps p.tables e below (T50.setTop (mkF m 103 #[.val (.int p1), .val (.int p2), .val (.int p3), .val (.int p4), .val (.int p5), .val (.int (2 : Int32)), .val (.ref wAVG), .val (.int (3 : Int32)), .val (.long x0), .second, .val (.long (x0 + y1)), .second, .val (.long ((x0 + y1) + y2)), .second, uu, uu, uu, uu, uu, uu, uu, uu, uu] [])) _
    refine XS.iload X50.here hx rfl (hb hby at_103) rfl ?_
    show Steps p.tables e below (T50.setTop (mkF m 105 #[.val (.int p1), .val (.int p2), .val (.int p3), .val (.int p4), .val (.int p5), .val (.int (2 : Int32)), .val (.ref wAVG), .val (.int (3 : Int32)), .val (.long x0), .second, .val (.long (x0 + y1)), .second, .val (.long ((x0 + y1) + y2)), .second, uu, uu, uu, uu, uu, uu, uu, uu, uu] [(.int (3 : Int32))])) _
    refine XS.iconst X50.here hx rfl (hb hby at_105) ?_
    show Steps p.tables e below (T50.setTop (mkF m 106 #[.val (.int p1), .val (.int p2), .val (.int p3), .val (.int p4), .val (.int p5), .val (.int (2 : Int32)), .val (.ref wAVG), .val (.int (3 : Int32)), .val (.long x0), .second, .val (.long (x0 + y1)), .second, .val (.long ((x0 + y1) + y2)), .second, uu, uu, uu, uu, uu, uu, uu, uu, uu] [(.int (2 : Int32)), (.int (3 : Int32))])) _
    refine XS.icmpYes X50.here hx rfl (pc0 := 106) (pc' := 129) rfl (hb hby at_106) rfl (feq (by decide : ¬ ((3 : Int32) = (2 : Int32)))).2 (by decide) (by decide) ?_
    show Steps p.tables e below (T50.setTop (mkF m 129 #[.val (.int p1), .val (.int p2), .val (.int p3), .val (.int p4), .val (.int p5), .val (.int (2 : Int32)), .val (.ref wAVG), .val (.int (3 : Int32)), .val (.long x0), .second, .val (.long (x0 + y1)), .second, .val (.long ((x0 + y1) + y2)), .second, uu, uu, uu, uu, uu, uu, uu, uu, uu] [])) _
    refine XS.iconst X50.here hx rfl (hb hby at_129) ?_
    show Steps p.tables e below (T50.setTop (mkF m 130 #[.val (.int p1), .val (.int p2), .val (.int p3), .val (.int p4), .val (.int p5), .val (.int (2 : Int32)), .val (.ref wAVG), .val (.int (3 : Int32)), .val (.long x0), .second, .val (.long (x0 + y1)), .second, .val (.long ((x0 + y1) + y2)), .second, uu, uu, uu, uu, uu, uu, uu, uu, uu] [(.int (3 : Int32))])) _
    refine sta_ _ ?_
    show Steps p.tables e below (Ta.setTop (mkF m 132 #[.val (.int p1), .val (.int p2), .val (.int p3), .val (.int p4), .val (.int p5), .val (.int (2 : Int32)), .val (.ref wAVG), .val (.int (3 : Int32)), .val (.long x0), .second, .val (.long (x0 + y1)), .second, .val (.long ((x0 + y1) + y2)), .second, uu, uu, uu, uu, uu, uu, uu, uu, uu] [(.ref b)])) _
    refine XS.dup Xa.here hx rfl (hb hby at_132) rfl rfl ?_
    show Steps p.tables e below (Ta.setTop (mkF m 133 #[.val (.int p1), .val (.int p2), .val (.int p3), .val (.int p4), .val (.int p5), .val (.int (2 : Int32)), .val (.ref wAVG), .val (.int (3 : Int32)), .val (.long x0), .second, .val (.long (x0 + y1)), .second, .val (.long ((x0 + y1) + y2)), .second, uu, uu, uu, uu, uu, uu, uu, uu, uu] [(.ref b), (.ref b)])) _
    refine XS.iconst Xa.here hx rfl (hb hby at_133) ?_
    show Steps p.tables e below (Ta.setTop (mkF m 134 #[.val (.int p1), .val (.int p2), .val (.int p3), .val (.int p4), .val (.int p5), .val (.int (2 : Int32)), .val (.ref wAVG), .val (.int (3 : Int32)), .val (.long x0), .second, .val (.long (x0 + y1)), .second, .val (.long ((x0 + y1) + y2)), .second, uu, uu, uu, uu, uu, uu, uu, uu, uu] [(.int (0 : Int32)), (.ref b), (.ref b)])) _
    refine XS.lload Xa.here hx rfl (hb hby at_134) rfl ?_
    show Steps p.tables e below (Ta.setTop (mkF m 136 #[.val (.int p1), .val (.int p2), .val (.int p3), .val (.int p4), .val (.int p5), .val (.int (2 : Int32)), .val (.ref wAVG), .val (.int (3 : Int32)), .val (.long x0), .second, .val (.long (x0 + y1)), .second, .val (.long ((x0 + y1) + y2)), .second, uu, uu, uu, uu, uu, uu, uu, uu, uu] [(.long x0), (.int (0 : Int32)), (.ref b), (.ref b)])) _
    refine XS.l2dS Xa.here hx rfl (hb hby at_136) rfl (v := FP.l2d x0) rfl ?_
    show Steps p.tables e below (Ta.setTop (mkF m 137 #[.val (.int p1), .val (.int p2), .val (.int p3), .val (.int p4), .val (.int p5), .val (.int (2 : Int32)), .val (.ref wAVG), .val (.int (3 : Int32)), .val (.long x0), .second, .val (.long (x0 + y1)), .second, .val (.long ((x0 + y1) + y2)), .second, uu, uu, uu, uu, uu, uu, uu, uu, uu] [(.double (FP.l2d x0)), (.int (0 : Int32)), (.ref b), (.ref b)])) _
    refine std0 _ ?_
    show Steps p.tables e below (Td0.setTop (mkF m 138 #[.val (.int p1), .val (.int p2), .val (.int p3), .val (.int p4), .val (.int p5), .val (.int (2 : Int32)), .val (.ref wAVG), .val (.int (3 : Int32)), .val (.long x0), .second, .val (.long (x0 + y1)), .second, .val (.long ((x0 + y1) + y2)), .second, uu, uu, uu, uu, uu, uu, uu, uu, uu] [(.ref b)])) _
    refine XS.dup Xd0.here hx rfl (hb hby at_138) rfl rfl ?_
    show Steps p.tables e below (Td0.setTop (mkF m 139 #[.val (.int p1), .val (.int p2), .val (.int p3), .val (.int p4), .val (.int p5), .val (.int (2 : Int32)), .val (.ref wAVG), .val (.int (3 : Int32)), .val (.long x0), .second, .val (.long (x0 + y1)), .second, .val (.long ((x0 + y1) + y2)), .second, uu, uu, uu, uu, uu, uu, uu, uu, uu] [(.ref b), (.ref b)])) _
    refine XS.iconst Xd0.here hx rfl (hb hby at_139) ?_
    show Steps p.tables e below (Td0.setTop (mkF m 140 #[.val (.int p1), .val (.int p2), .val (.int p3), .val (.int p4), .val (.int p5), .val (.int (2 : Int32)), .val (.ref wAVG), .val (.int (3 : Int32)), .val (.long x0), .second, .val (.long (x0 + y1)), .second, .val (.long ((x0 + y1) + y2)), .second, uu, uu, uu, uu, uu, uu, uu, uu, uu] [(.int (1 : Int32)), (.ref b), (.ref b)])) _
    refine XS.lload Xd0.here hx rfl (hb hby at_140) rfl ?_
    show Steps p.tables e below (Td0.setTop (mkF m 142 #[.val (.int p1), .val (.int p2), .val (.int p3), .val (.int p4), .val (.int p5), .val (.int (2 : Int32)), .val (.ref wAVG), .val (.int (3 : Int32)), .val (.long x0), .second, .val (.long (x0 + y1)), .second, .val (.long ((x0 + y1) + y2)), .second, uu, uu, uu, uu, uu, uu, uu, uu, uu] [(.long (x0 + y1)), (.int (1 : Int32)), (.ref b), (.ref b)])) _
    refine XS.l2dS Xd0.here hx rfl (hb hby at_142) rfl (v := FP.l2d (x0 + y1)) rfl ?_
    show Steps p.tables e below (Td0.setTop (mkF m 143 #[.val (.int p1), .val (.int p2), .val (.int p3), .val (.int p4), .val (.int p5), .val (.int (2 : Int32)), .val (.ref wAVG), .val (.int (3 : Int32)), .val (.long x0), .second, .val (.long (x0 + y1)), .second, .val (.long ((x0 + y1) + y2)), .second, uu, uu, uu, uu, uu, uu, uu, uu, uu] [(.double (FP.l2d (x0 + y1))), (.int (1 : Int32)), (.ref b), (.ref b)])) _
    refine std1 _ ?_
    show Steps p.tables e below (Td1.setTop (mkF m 144 #[.val (.int p1), .val (.int p2), .val (.int p3), .val (.int p4), .val (.int p5), .val (.int (2 : Int32)), .val (.ref wAVG), .val (.int (3 : Int32)), .val (.long x0), .second, .val (.long (x0 + y1)), .second, .val (.long ((x0 + y1) + y2)), .second, uu, uu, uu, uu, uu, uu, uu, uu, uu] [(.ref b)])) _
    refine XS.dup Xd1.here hx rfl (hb hby at_144) rfl rfl ?_
    show Steps p.tables e below (Td1.setTop (mkF m 145 #[.val (.int p1), .val (.int p2), .val (.int p3), .val (.int p4), .val (.int p5), .val (.int (2 : Int32)), .val (.ref wAVG), .val (.int (3 : Int32)), .val (.long x0), .second, .val (.long (x0 + y1)), .second, .val (.long ((x0 + y1) + y2)), .second, uu, uu, uu, uu, uu, uu, uu, uu, uu] [(.ref b), (.ref b)])) _
    refine XS.iconst Xd1.here hx rfl (hb hby at_145) ?_
    show Steps p.tables e below (Td1.setTop (mkF m 146 #[.val (.int p1), .val (.int p2), .val (.int p3), .val (.int p4), .val (.int p5), .val (.int (2 : Int32)), .val (.ref wAVG), .val (.int (3 : Int32)), .val (.long x0), .second, .val (.long (x0 + y1)), .second, .val (.long ((x0 + y1) + y2)), .second, uu, uu, uu, uu, uu, uu, uu, uu, uu] [(.int (2 : Int32)), (.ref b), (.ref b)])) _
    refine XS.lload Xd1.here hx rfl (hb hby at_146) rfl ?_
    show Steps p.tables e below (Td1.setTop (mkF m 148 #[.val (.int p1), .val (.int p2), .val (.int p3), .val (.int p4), .val (.int p5), .val (.int (2 : Int32)), .val (.ref wAVG), .val (.int (3 : Int32)), .val (.long x0), .second, .val (.long (x0 + y1)), .second, .val (.long ((x0 + y1) + y2)), .second, uu, uu, uu, uu, uu, uu, uu, uu, uu] [(.long ((x0 + y1) + y2)), (.int (2 : Int32)), (.ref b), (.ref b)])) _
    refine XS.l2dS Xd1.here hx rfl (hb hby at_148) rfl (v := FP.l2d ((x0 + y1) + y2)) rfl ?_
    show Steps p.tables e below (Td1.setTop (mkF m 149 #[.val (.int p1), .val (.int p2), .val (.int p3), .val (.int p4), .val (.int p5), .val (.int (2 : Int32)), .val (.ref wAVG), .val (.int (3 : Int32)), .val (.long x0), .second, .val (.long (x0 + y1)), .second, .val (.long ((x0 + y1) + y2)), .second, uu, uu, uu, uu, uu, uu, uu, uu, uu] [(.double (FP.l2d ((x0 + y1) + y2))), (.int (2 : Int32)), (.ref b), (.ref b)])) _
    refine std2 _ ?_
    show Steps p.tables e below (Td2.setTop (mkF m 150 #[.val (.int p1), .val (.int p2), .val (.int p3), .val (.int p4), .val (.int p5), .val (.int (2 : Int32)), .val (.ref wAVG), .val (.int (3 : Int32)), .val (.long x0), .second, .val (.long (x0 + y1)), .second, .val (.long ((x0 + y1) + y2)), .second, uu, uu, uu, uu, uu, uu, uu, uu, uu] [(.ref b)])) _
    refine XS.astore Xd2.here hx rfl (hb hby at_150) rfl rfl (l' := #[.val (.int p1), .val (.int p2), .val (.int p3), .val (.int p4), .val (.int p5), .val (.int (2 : Int32)), .val (.ref wAVG), .val (.int (3 : Int32)), .val (.long x0), .second, .val (.long (x0 + y1)), .second, .val (.long ((x0 + y1) + y2)), .second, .val (.ref b), uu, uu, uu, uu, uu, uu, uu, uu]) rfl ?_
    show Steps p.tables e below (Td2.setTop (mkF m 152 #[.val (.int p1), .val (.int p2), .val (.int p3), .val (.int p4), .val (.int p5), .val (.int (2 : Int32)), .val (.ref wAVG), .val (.int (3 : Int32)), .val (.long x0), .second, .val (.long (x0 + y1)), .second, .val (.long ((x0 + y1) + y2)), .second, .val (.ref b), uu, uu, uu, uu, uu, uu, uu, uu] [])) _
    refine XS.iload Xd2.here hx rfl (hb hby at_152) rfl ?_
    show Steps p.tables e below (Td2.setTop (mkF m 154 #[.val (.int p1), .val (.int p2), .val (.int p3), .val (.int p4), .val (.int p5), .val (.int (2 : Int32)), .val (.ref wAVG), .val (.int (3 : Int32)), .val (.long x0), .second, .val (.long (x0 + y1)), .second, .val (.long ((x0 + y1) + y2)), .second, .val (.ref b), uu, uu, uu, uu, uu, uu, uu, uu] [(.int (3 : Int32))])) _
    refine XS.iconst Xd2.here hx rfl (hb hby at_154) ?_
    show Steps p.tables e below (Td2.setTop (mkF m 155 #[.val (.int p1), .val (.int p2), .val (.int p3), .val (.int p4), .val (.int p5), .val (.int (2 : Int32)), .val (.ref wAVG), .val (.int (3 : Int32)), .val (.long x0), .second, .val (.long (x0 + y1)), .second, .val (.long ((x0 + y1) + y2)), .second, .val (.ref b), uu, uu, uu, uu, uu, uu, uu, uu] [(.int (1 : Int32)), (.int (3 : Int32))])) _
    refine XS.icmpYes Xd2.here hx rfl (pc0 := 155) (pc' := 163) rfl (hb hby at_155) rfl (feq (by decide : ¬ ((3 : Int32) = (1 : Int32)))).2 (by decide) (by decide) ?_
    show Steps p.tables e below (Td2.setTop (mkF m 163 #[.val (.int p1), .val (.int p2), .val (.int p3), .val (.int p4), .val (.int p5), .val (.int (2 : Int32)), .val (.ref wAVG), .val (.int (3 : Int32)), .val (.long x0), .second, .val (.long (x0 + y1)), .second, .val (.long ((x0 + y1) + y2)), .second, .val (.ref b), uu, uu, uu, uu, uu, uu, uu, uu] [])) _
    refine XS.iload Xd2.here hx rfl (hb hby at_163) rfl ?_
    show Steps p.tables e below (Td2.setTop (mkF m 165 #[.val (.int p1), .val (.int p2), .val (.int p3), .val (.int p4), .val (.int p5), .val (.int (2 : Int32)), .val (.ref wAVG), .val (.int (3 : Int32)), .val (.long x0), .second, .val (.long (x0 + y1)), .second, .val (.long ((x0 + y1) + y2)), .second, .val (.ref b), uu, uu, uu, uu, uu, uu, uu, uu] [(.int (3 : Int32))])) _
    refine XS.iconst Xd2.here hx rfl (hb hby at_165) ?_
    show Steps p.tables e below (Td2.setTop (mkF m 166 #[.val (.int p1), .val (.int p2), .val (.int p3), .val (.int p4), .val (.int p5), .val (.int (2 : Int32)), .val (.ref wAVG), .val (.int (3 : Int32)), .val (.long x0), .second, .val (.long (x0 + y1)), .second, .val (.long ((x0 + y1) + y2)), .second, .val (.ref b), uu, uu, uu, uu, uu, uu, uu, uu] [(.int (2 : Int32)), (.int (3 : Int32))])) _
    refine XS.icmpYes Xd2.here hx rfl (pc0 := 166) (pc' := 174) rfl (hb hby at_166) rfl (feq (by decide : ¬ ((3 : Int32) = (2 : Int32)))).2 (by decide) (by decide) ?_
    show Steps p.tables e below (Td2.setTop (mkF m 174 #[.val (.int p1), .val (.int p2), .val (.int p3), .val (.int p4), .val (.int p5), .val (.int (2 : Int32)), .val (.ref wAVG), .val (.int (3 : Int32)), .val (.long x0), .second, .val (.long (x0 + y1)), .second, .val (.long ((x0 + y1) + y2)), .second, .val (.ref b), uu, uu, uu, uu, uu, uu, uu, uu] [])) _
    refine XS.lload Xd2.here hx rfl (hb hby at_174) rfl ?_
    show Steps p.tables e below (Td2.setTop (mkF m 176 #[.val (.int p1), .val (.int p2), .val (.int p3), .val (.int p4), .val (.int p5), .val (.int (2 : Int32)), .val (.ref wAVG), .val (.int (3 : Int32)), .val (.long x0), .second, .val (.long (x0 + y1)), .second, .val (.long ((x0 + y1) + y2)), .second, .val (.ref b), uu, uu, uu, uu, uu, uu, uu, uu] [(.long ((x0 + y1) + y2))])) _
    refine XS.lstore Xd2.here hx rfl (hb hby at_176) rfl (l' := #[.val (.int p1), .val (.int p2), .val (.int p3), .val (.int p4), .val (.int p5), .val (.int (2 : Int32)), .val (.ref wAVG), .val (.int (3 : Int32)), .val (.long x0), .second, .val (.long (x0 + y1)), .second, .val (.long ((x0 + y1) + y2)), .second, .val (.ref b), .val (.long ((x0 + y1) + y2)), .second, uu, uu, uu, uu, uu, uu]) rfl ?_
    show Steps p.tables e below (Td2.setTop (mkF m 178 #[.val (.int p1), .val (.int p2), .val (.int p3), .val (.int p4), .val (.int p5), .val (.int (2 : Int32)), .val (.ref wAVG), .val (.int (3 : Int32)), .val (.long x0), .second, .val (.long (x0 + y1)), .second, .val (.long ((x0 + y1) + y2)), .second, .val (.ref b), .val (.long ((x0 + y1) + y2)), .second, uu, uu, uu, uu, uu, uu] [])) _
    refine XS.iload Xd2.here hx rfl (hb hby at_178) rfl ?_
    show Steps p.tables e below (Td2.setTop (mkF m 180 #[.val (.int p1), .val (.int p2), .val (.int p3), .val (.int p4), .val (.int p5), .val (.int (2 : Int32)), .val (.ref wAVG), .val (.int (3 : Int32)), .val (.long x0), .second, .val (.long (x0 + y1)), .second, .val (.long ((x0 + y1) + y2)), .second, .val (.ref b), .val (.long ((x0 + y1) + y2)), .second, uu, uu, uu, uu, uu, uu] [(.int (3 : Int32))])) _
    refine XS.iconst Xd2.here hx rfl (hb hby at_180) ?_
    show Steps p.tables e below (Td2.setTop (mkF m 181 #[.val (.int p1), .val (.int p2), .val (.int p3), .val (.int p4), .val (.int p5), .val (.int (2 : Int32)), .val (.ref wAVG), .val (.int (3 : Int32)), .val (.long x0), .second, .val (.long (x0 + y1)), .second, .val (.long ((x0 + y1) + y2)), .second, .val (.ref b), .val (.long ((x0 + y1) + y2)), .second, uu, uu, uu, uu, uu, uu] [(.int (1 : Int32)), (.int (3 : Int32))])) _
    refine XS.icmpYes Xd2.here hx rfl (pc0 := 181) (pc' := 189) rfl (hb hby at_181) rfl (feq (by decide : ¬ ((3 : Int32) = (1 : Int32)))).2 (by decide) (by decide) ?_
    show Steps p.tables e below (Td2.setTop (mkF m 189 #[.val (.int p1), .val (.int p2), .val (.int p3), .val (.int p4), .val (.int p5), .val (.int (2 : Int32)), .val (.ref wAVG), .val (.int (3 : Int32)), .val (.long x0), .second, .val (.long (x0 + y1)), .second, .val (.long ((x0 + y1) + y2)), .second, .val (.ref b), .val (.long ((x0 + y1) + y2)), .second, uu, uu, uu, uu, uu, uu] [])) _
    refine XS.iload Xd2.here hx rfl (hb hby at_189) rfl ?_
    show Steps p.tables e below (Td2.setTop (mkF m 191 #[.val (.int p1), .val (.int p2), .val (.int p3), .val (.int p4), .val (.int p5), .val (.int (2 : Int32)), .val (.ref wAVG), .val (.int (3 : Int32)), .val (.long x0), .second, .val (.long (x0 + y1)), .second, .val (.long ((x0 + y1) + y2)), .second, .val (.ref b), .val (.long ((x0 + y1) + y2)), .second, uu, uu, uu, uu, uu, uu] [(.int (3 : Int32))])) _
    refine XS.iconst Xd2.here hx rfl (hb hby at_191) ?_
    show Steps p.tables e below (Td2.setTop (mkF m 192 #[.val (.int p1), .val (.int p2), .val (.int p3), .val (.int p4), .val (.int p5), .val (.int (2 : Int32)), .val (.ref wAVG), .val (.int (3 : Int32)), .val (.long x0), .second, .val (.long (x0 + y1)), .second, .val (.long ((x0 + y1) + y2)), .second, .val (.ref b), .val (.long ((x0 + y1) + y2)), .second, uu, uu, uu, uu, uu, uu] [(.int (2 : Int32)), (.int (3 : Int32))])) _
    refine XS.icmpYes Xd2.here hx rfl (pc0 := 192) (pc' := 203) rfl (hb hby at_192) rfl (feq (by decide : ¬ ((3 : Int32) = (2 : Int32)))).2 (by decide) (by decide) ?_
    show Steps p.tables e below (Td2.setTop (mkF m 203 #[.val (.int p1), .val (.int p2), .val (.int p3), .val (.int p4), .val (.int p5), .val (.int (2 : Int32)), .val (.ref wAVG), .val (.int (3 : Int32)), .val (.long x0), .second, .val (.long (x0 + y1)), .second, .val (.long ((x0 + y1) + y2)), .second, .val (.ref b), .val (.long ((x0 + y1) + y2)), .second, uu, uu, uu, uu, uu, uu] [])) _
    refine XS.lload Xd2.here hx rfl (hb hby at_203) rfl ?_
    show Steps p.tables e below (Td2.setTop (mkF m 205 #[.val (.int p1), .val (.int p2), .val (.int p3), .val (.int p4), .val (.int p5), .val (.int (2 : Int32)), .val (.ref wAVG), .val (.int (3 : Int32)), .val (.long x0), .second, .val (.long (x0 + y1)), .second, .val (.long ((x0 + y1) + y2)), .second, .val (.ref b), .val (.long ((x0 + y1) + y2)), .second, uu, uu, uu, uu, uu, uu] [(.long x0)])) _
    refine XS.lload Xd2.here hx rfl (hb hby at_205) rfl ?_
    show Steps p.tables e below (Td2.setTop (mkF m 207 #[.val (.int p1), .val (.int p2), .val (.int p3), .val (.int p4), .val (.int p5), .val (.int (2 : Int32)), .val (.ref wAVG), .val (.int (3 : Int32)), .val (.long x0), .second, .val (.long (x0 + y1)), .second, .val (.long ((x0 + y1) + y2)), .second, .val (.ref b), .val (.long ((x0 + y1) + y2)), .second, uu, uu, uu, uu, uu, uu] [(.long (x0 + y1)), (.long x0)])) _
    refine XS.ladd Xd2.here hx rfl (hb hby at_207) rfl ?_
    show Steps p.tables e below (Td2.setTop (mkF m 208 #[.val (.int p1), .val (.int p2), .val (.int p3), .val (.int p4), .val (.int p5), .val (.int (2 : Int32)), .val (.ref wAVG), .val (.int (3 : Int32)), .val (.long x0), .second, .val (.long (x0 + y1)), .second, .val (.long ((x0 + y1) + y2)), .second, .val (.ref b), .val (.long ((x0 + y1) + y2)), .second, uu, uu, uu, uu, uu, uu] [(.long (x0 + (x0 + y1)))])) _
    refine XS.lload Xd2.here hx rfl (hb hby at_208) rfl ?_
    show Steps p.tables e below (Td2.setTop (mkF m 210 #[.val (.int p1), .val (.int p2), .val (.int p3), .val (.int p4), .val (.int p5), .val (.int (2 : Int32)), .val (.ref wAVG), .val (.int (3 : Int32)), .val (.long x0), .second, .val (.long (x0 + y1)), .second, .val (.long ((x0 + y1) + y2)), .second, .val (.ref b), .val (.long ((x0 + y1) + y2)), .second, uu, uu, uu, uu, uu, uu] [(.long ((x0 + y1) + y2)), (.long (x0 + (x0 + y1)))])) _
    refine XS.ladd Xd2.here hx rfl (hb hby at_210) rfl ?_
    show Steps p.tables e below (Td2.setTop (mkF m 211 #[.val (.int p1), .val (.int p2), .val (.int p3), .val (.int p4), .val (.int p5), .val (.int (2 : Int32)), .val (.ref wAVG), .val (.int (3 : Int32)), .val (.long x0), .second, .val (.long (x0 + y1)), .second, .val (.long ((x0 + y1) + y2)), .second, .val (.ref b), .val (.long ((x0 + y1) + y2)), .second, uu, uu, uu, uu, uu, uu] [(.long ((x0 + (x0 + y1)) + ((x0 + y1) + y2)))])) _
    refine XS.lstore Xd2.here hx rfl (hb hby at_211) rfl (l' := #[.val (.int p1), .val (.int p2), .val (.int p3), .val (.int p4), .val (.int p5), .val (.int (2 : Int32)), .val (.ref wAVG), .val (.int (3 : Int32)), .val (.long x0), .second, .val (.long (x0 + y1)), .second, .val (.long ((x0 + y1) + y2)), .second, .val (.ref b), .val (.long ((x0 + y1) + y2)), .second, .val (.long ((x0 + (x0 + y1)) + ((x0 + y1) + y2))), .second, uu, uu, uu, uu]) rfl ?_
    show Steps p.tables e below (Td2.setTop (mkF m 213 #[.val (.int p1), .val (.int p2), .val (.int p3), .val (.int p4), .val (.int p5), .val (.int (2 : Int32)), .val (.ref wAVG), .val (.int (3 : Int32)), .val (.long x0), .second, .val (.long (x0 + y1)), .second, .val (.long ((x0 + y1) + y2)), .second, .val (.ref b), .val (.long ((x0 + y1) + y2)), .second, .val (.long ((x0 + (x0 + y1)) + ((x0 + y1) + y2))), .second, uu, uu, uu, uu] [])) _
    refine XS.iload Xd2.here hx rfl (hb hby at_213) rfl ?_
    show Steps p.tables e below (Td2.setTop (mkF m 215 #[.val (.int p1), .val (.int p2), .val (.int p3), .val (.int p4), .val (.int p5), .val (.int (2 : Int32)), .val (.ref wAVG), .val (.int (3 : Int32)), .val (.long x0), .second, .val (.long (x0 + y1)), .second, .val (.long ((x0 + y1) + y2)), .second, .val (.ref b), .val (.long ((x0 + y1) + y2)), .second, .val (.long ((x0 + (x0 + y1)) + ((x0 + y1) + y2))), .second, uu, uu, uu, uu] [(.int (2 : Int32))])) _
    refine XS.ifYes Xd2.here hx rfl (pc0 := 215) (pc' := 226) rfl (hb hby at_215) rfl ((if0 _ _).trans (feq (by decide : ¬ ((2 : Int32) = (0 : Int32)))).2) (by decide) (by decide) ?_
    show Steps p.tables e below (Td2.setTop (mkF m 226 #[.val (.int p1), .val (.int p2), .val (.int p3), .val (.int p4), .val (.int p5), .val (.int (2 : Int32)), .val (.ref wAVG), .val (.int (3 : Int32)), .val (.long x0), .second, .val (.long (x0 + y1)), .second, .val (.long ((x0 + y1) + y2)), .second, .val (.ref b), .val (.long ((x0 + y1) + y2)), .second, .val (.long ((x0 + (x0 + y1)) + ((x0 + y1) + y2))), .second, uu, uu, uu, uu] [])) _
    refine XS.iload Xd2.here hx rfl (hb hby at_226) rfl ?_
    show Steps p.tables e below (Td2.setTop (mkF m 228 #[.val (.int p1), .val (.int p2), .val (.int p3), .val (.int p4), .val (.int p5), .val (.int (2 : Int32)), .val (.ref wAVG), .val (.int (3 : Int32)), .val (.long x0), .second, .val (.long (x0 + y1)), .second, .val (.long ((x0 + y1) + y2)), .second, .val (.ref b), .val (.long ((x0 + y1) + y2)), .second, .val (.long ((x0 + (x0 + y1)) + ((x0 + y1) + y2))), .second, uu, uu, uu, uu] [(.int (2 : Int32))])) _
    refine XS.iconst Xd2.here hx rfl (hb hby at_228) ?_
    show Steps p.tables e below (Td2.setTop (mkF m 229 #[.val (.int p1), .val (.int p2), .val (.int p3), .val (.int p4), .val (.int p5), .val (.int (2 : Int32)), .val (.ref wAVG), .val (.int (3 : Int32)), .val (.long x0), .second, .val (.long (x0 + y1)), .second, .val (.long ((x0 + y1) + y2)), .second, .val (.ref b), .val (.long ((x0 + y1) + y2)), .second, .val (.long ((x0 + (x0 + y1)) + ((x0 + y1) + y2))), .second, uu, uu, uu, uu] [(.int (1 : Int32)), (.int (2 : Int32))])) _
    refine XS.icmpYes Xd2.here hx rfl (pc0 := 229) (pc' := 240) rfl (hb hby at_229) rfl (feq (by decide : ¬ ((2 : Int32) = (1 : Int32)))).2 (by decide) (by decide) ?_
    show Steps p.tables e below (Td2.setTop (mkF m 240 #[.val (.int p1), .val (.int p2), .val (.int p3), .val (.int p4), .val (.int p5), .val (.int (2 : Int32)), .val (.ref wAVG), .val (.int (3 : Int32)), .val (.long x0), .second, .val (.long (x0 + y1)), .second, .val (.long ((x0 + y1) + y2)), .second, .val (.ref b), .val (.long ((x0 + y1) + y2)), .second, .val (.long ((x0 + (x0 + y1)) + ((x0 + y1) + y2))), .second, uu, uu, uu, uu] [])) _
    refine XS.iload Xd2.here hx rfl (hb hby at_240) rfl ?_
    show Steps p.tables e below (Td2.setTop (mkF m 242 #[.val (.int p1), .val (.int p2), .val (.int p3), .val (.int p4), .val (.int p5), .val (.int (2 : Int32)), .val (.ref wAVG), .val (.int (3 : Int32)), .val (.long x0), .second, .val (.long (x0 + y1)), .second, .val (.long ((x0 + y1) + y2)), .second, .val (.ref b), .val (.long ((x0 + y1) + y2)), .second, .val (.long ((x0 + (x0 + y1)) + ((x0 + y1) + y2))), .second, uu, uu, uu, uu] [(.int (2 : Int32))])) _
    refine XS.iconst Xd2.here hx rfl (hb hby at_242) ?_
    show Steps p.tables e below (Td2.setTop (mkF m 243 #[.val (.int p1), .val (.int p2), .val (.int p3), .val (.int p4), .val (.int p5), .val (.int (2 : Int32)), .val (.ref wAVG), .val (.int (3 : Int32)), .val (.long x0), .second, .val (.long (x0 + y1)), .second, .val (.long ((x0 + y1) + y2)), .second, .val (.ref b), .val (.long ((x0 + y1) + y2)), .second, .val (.long ((x0 + (x0 + y1)) + ((x0 + y1) + y2))), .second, uu, uu, uu, uu] [(.int (2 : Int32)), (.int (2 : Int32))])) _
    refine XS.icmpNo Xd2.here hx rfl (hb hby at_243) rfl (teq (by decide : (2 : Int32) = (2 : Int32))).2 ?_
    show Steps p.tables e below (Td2.setTop (mkF m 246 #[.val (.int p1), .val (.int p2), .val (.int p3), .val (.int p4), .val (.int p5), .val (.int (2 : Int32)), .val (.ref wAVG), .val (.int (3 : Int32)), .val (.long x0), .second, .val (.long (x0 + y1)), .second, .val (.long ((x0 + y1) + y2)), .second, .val (.ref b), .val (.long ((x0 + y1) + y2)), .second, .val (.long ((x0 + (x0 + y1)) + ((x0 + y1) + y2))), .second, uu, uu, uu, uu] [])) _
    refine XS.lload Xd2.here hx rfl (hb hby at_246) rfl ?_
    show Steps p.tables e below (Td2.setTop (mkF m 248 #[.val (.int p1), .val (.int p2), .val (.int p3), .val (.int p4), .val (.int p5), .val (.int (2 : Int32)), .val (.ref wAVG), .val (.int (3 : Int32)), .val (.long x0), .second, .val (.long (x0 + y1)), .second, .val (.long ((x0 + y1) + y2)), .second, .val (.ref b), .val (.long ((x0 + y1) + y2)), .second, .val (.long ((x0 + (x0 + y1)) + ((x0 + y1) + y2))), .second, uu, uu, uu, uu] [(.long ((x0 + (x0 + y1)) + ((x0 + y1) + y2)))])) _
    refine XS.l2dS Xd2.here hx rfl (hb hby at_248) rfl (v := FP.l2d ((x0 + (x0 + y1)) + ((x0 + y1) + y2))) rfl ?_
    show Steps p.tables e below (Td2.setTop (mkF m 249 #[.val (.int p1), .val (.int p2), .val (.int p3), .val (.int p4), .val (.int p5), .val (.int (2 : Int32)), .val (.ref wAVG), .val (.int (3 : Int32)), .val (.long x0), .second, .val (.long (x0 + y1)), .second, .val (.long ((x0 + y1) + y2)), .second, .val (.ref b), .val (.long ((x0 + y1) + y2)), .second, .val (.long ((x0 + (x0 + y1)) + ((x0 + y1) + y2))), .second, uu, uu, uu, uu] [(.double (FP.l2d ((x0 + (x0 + y1)) + ((x0 + y1) + y2))))])) _
    refine XS.iload Xd2.here hx rfl (hb hby at_249) rfl ?_
    show Steps p.tables e below (Td2.setTop (mkF m 251 #[.val (.int p1), .val (.int p2), .val (.int p3), .val (.int p4), .val (.int p5), .val (.int (2 : Int32)), .val (.ref wAVG), .val (.int (3 : Int32)), .val (.long x0), .second, .val (.long (x0 + y1)), .second, .val (.long ((x0 + y1) + y2)), .second, .val (.ref b), .val (.long ((x0 + y1) + y2)), .second, .val (.long ((x0 + (x0 + y1)) + ((x0 + y1) + y2))), .second, uu, uu, uu, uu] [(.int (3 : Int32)), (.double (FP.l2d ((x0 + (x0 + y1)) + ((x0 + y1) + y2))))])) _
    refine XS.i2dS Xd2.here hx rfl (hb hby at_251) rfl (v := FP.l2d (3 : Int32).toInt64) (i2d_w _) ?_
    show Steps p.tables e below (Td2.setTop (mkF m 252 #[.val (.int p1), .val (.int p2), .val (.int p3), .val (.int p4), .val (.int p5), .val (.int (2 : Int32)), .val (.ref wAVG), .val (.int (3 : Int32)), .val (.long x0), .second, .val (.long (x0 + y1)), .second, .val (.long ((x0 + y1) + y2)), .second, .val (.ref b), .val (.long ((x0 + y1) + y2)), .second, .val (.long ((x0 + (x0 + y1)) + ((x0 + y1) + y2))), .second, uu, uu, uu, uu] [(.double (FP.l2d (3 : Int32).toInt64)), (.double (FP.l2d ((x0 + (x0 + y1)) + ((x0 + y1) + y2))))])) _
    refine XS.ddivS Xd2.here hx rfl (hb hby at_252) rfl (own_div (by decide)) rfl ?_
    show Steps p.tables e below (Td2.setTop (mkF m 253 #[.val (.int p1), .val (.int p2), .val (.int p3), .val (.int p4), .val (.int p5), .val (.int (2 : Int32)), .val (.ref wAVG), .val (.int (3 : Int32)), .val (.long x0), .second, .val (.long (x0 + y1)), .second, .val (.long ((x0 + y1) + y2)), .second, .val (.ref b), .val (.long ((x0 + y1) + y2)), .second, .val (.long ((x0 + (x0 + y1)) + ((x0 + y1) + y2))), .second, uu, uu, uu, uu] [(.double (FP.ddiv (FP.l2d ((x0 + (x0 + y1)) + ((x0 + y1) + y2))) (FP.l2d (3 : Int32).toInt64)))])) _
    refine XS.dstore Xd2.here hx rfl (hb hby at_253) rfl (l' := #[.val (.int p1), .val (.int p2), .val (.int p3), .val (.int p4), .val (.int p5), .val (.int (2 : Int32)), .val (.ref wAVG), .val (.int (3 : Int32)), .val (.long x0), .second, .val (.long (x0 + y1)), .second, .val (.long ((x0 + y1) + y2)), .second, .val (.ref b), .val (.long ((x0 + y1) + y2)), .second, .val (.long ((x0 + (x0 + y1)) + ((x0 + y1) + y2))), .second, .val (.double (FP.ddiv (FP.l2d ((x0 + (x0 + y1)) + ((x0 + y1) + y2))) (FP.l2d (3 : Int32).toInt64))), .second, uu, uu]) rfl ?_
    show Steps p.tables e below (Td2.setTop (mkF m 255 #[.val (.int p1), .val (.int p2), .val (.int p3), .val (.int p4), .val (.int p5), .val (.int (2 : Int32)), .val (.ref wAVG), .val (.int (3 : Int32)), .val (.long x0), .second, .val (.long (x0 + y1)), .second, .val (.long ((x0 + y1) + y2)), .second, .val (.ref b), .val (.long ((x0 + y1) + y2)), .second, .val (.long ((x0 + (x0 + y1)) + ((x0 + y1) + y2))), .second, .val (.double (FP.ddiv (FP.l2d ((x0 + (x0 + y1)) + ((x0 + y1) + y2))) (FP.l2d (3 : Int32).toInt64))), .second, uu, uu] [])) _
    refine XS.goto Xd2.here hx rfl (pc0 := 255) (pc' := 263) rfl (hb hby at_255) (by decide) (by decide) ?_
    show Steps p.tables e below (Td2.setTop (mkF m 263 #[.val (.int p1), .val (.int p2), .val (.int p3), .val (.int p4), .val (.int p5), .val (.int (2 : Int32)), .val (.ref wAVG), .val (.int (3 : Int32)), .val (.long x0), .second, .val (.long (x0 + y1)), .second, .val (.long ((x0 + y1) + y2)), .second, .val (.ref b), .val (.long ((x0 + y1) + y2)), .second, .val (.long ((x0 + (x0 + y1)) + ((x0 + y1) + y2))), .second, .val (.double (FP.ddiv (FP.l2d ((x0 + (x0 + y1)) + ((x0 + y1) + y2))) (FP.l2d (3 : Int32).toInt64))), .second, uu, uu] [])) _
    refine XS.aload Xd2.here hx rfl (hb hby at_263) rfl rfl ?_
    show Steps p.tables e below (Td2.setTop (mkF m 265 #[.val (.int p1), .val (.int p2), .val (.int p3), .val (.int p4), .val (.int p5), .val (.int (2 : Int32)), .val (.ref wAVG), .val (.int (3 : Int32)), .val (.long x0), .second, .val (.long (x0 + y1)), .second, .val (.long ((x0 + y1) + y2)), .second, .val (.ref b), .val (.long ((x0 + y1) + y2)), .second, .val (.long ((x0 + (x0 + y1)) + ((x0 + y1) + y2))), .second, .val (.double (FP.ddiv (FP.l2d ((x0 + (x0 + y1)) + ((x0 + y1) + y2))) (FP.l2d (3 : Int32).toInt64))), .second, uu, uu] [(.ref wAVG)])) _
    refine XS.aload Xd2.here hx rfl (hb hby at_265) rfl rfl ?_
    show Steps p.tables e below (Td2.setTop (mkF m 267 #[.val (.int p1), .val (.int p2), .val (.int p3), .val (.int p4), .val (.int p5), .val (.int (2 : Int32)), .val (.ref wAVG), .val (.int (3 : Int32)), .val (.long x0), .second, .val (.long (x0 + y1)), .second, .val (.long ((x0 + y1) + y2)), .second, .val (.ref b), .val (.long ((x0 + y1) + y2)), .second, .val (.long ((x0 + (x0 + y1)) + ((x0 + y1) + y2))), .second, .val (.double (FP.ddiv (FP.l2d ((x0 + (x0 + y1)) + ((x0 + y1) + y2))) (FP.l2d (3 : Int32).toInt64))), .second, uu, uu] [(.ref b), (.ref wAVG)])) _
    refine stc.trans ?_
    show Steps p.tables e below (Tc.setTop (mkF m 270 #[.val (.int p1), .val (.int p2), .val (.int p3), .val (.int p4), .val (.int p5), .val (.int (2 : Int32)), .val (.ref wAVG), .val (.int (3 : Int32)), .val (.long x0), .second, .val (.long (x0 + y1)), .second, .val (.long ((x0 + y1) + y2)), .second, .val (.ref b), .val (.long ((x0 + y1) + y2)), .second, .val (.long ((x0 + (x0 + y1)) + ((x0 + y1) + y2))), .second, .val (.double (FP.ddiv (FP.l2d ((x0 + (x0 + y1)) + ((x0 + y1) + y2))) (FP.l2d (3 : Int32).toInt64))), .second, uu, uu] [(.double (FP.ddiv (FP.l2d ((x0 + (x0 + y1)) + ((x0 + y1) + y2))) (FP.l2d (3 : Int32).toInt64)))])) _
    refine XS.dstore Xc.here hx rfl (hb hby at_270) rfl (l' := #[.val (.int p1), .val (.int p2), .val (.int p3), .val (.int p4), .val (.int p5), .val (.int (2 : Int32)), .val (.ref wAVG), .val (.int (3 : Int32)), .val (.long x0), .second, .val (.long (x0 + y1)), .second, .val (.long ((x0 + y1) + y2)), .second, .val (.ref b), .val (.long ((x0 + y1) + y2)), .second, .val (.long ((x0 + (x0 + y1)) + ((x0 + y1) + y2))), .second, .val (.double (FP.ddiv (FP.l2d ((x0 + (x0 + y1)) + ((x0 + y1) + y2))) (FP.l2d (3 : Int32).toInt64))), .second, .val (.double (FP.ddiv (FP.l2d ((x0 + (x0 + y1)) + ((x0 + y1) + y2))) (FP.l2d (3 : Int32).toInt64))), .second]) rfl ?_
    show Steps p.tables e below (Tc.setTop (mkF m 272 #[.val (.int p1), .val (.int p2), .val (.int p3), .val (.int p4), .val (.int p5), .val (.int (2 : Int32)), .val (.ref wAVG), .val (.int (3 : Int32)), .val (.long x0), .second, .val (.long (x0 + y1)), .second, .val (.long ((x0 + y1) + y2)), .second, .val (.ref b), .val (.long ((x0 + y1) + y2)), .second, .val (.long ((x0 + (x0 + y1)) + ((x0 + y1) + y2))), .second, .val (.double (FP.ddiv (FP.l2d ((x0 + (x0 + y1)) + ((x0 + y1) + y2))) (FP.l2d (3 : Int32).toInt64))), .second, .val (.double (FP.ddiv (FP.l2d ((x0 + (x0 + y1)) + ((x0 + y1) + y2))) (FP.l2d (3 : Int32).toInt64))), .second] [])) _
    refine XS.dload Xc.here hx rfl (hb hby at_272) rfl ?_
    show Steps p.tables e below (Tc.setTop (mkF m 274 #[.val (.int p1), .val (.int p2), .val (.int p3), .val (.int p4), .val (.int p5), .val (.int (2 : Int32)), .val (.ref wAVG), .val (.int (3 : Int32)), .val (.long x0), .second, .val (.long (x0 + y1)), .second, .val (.long ((x0 + y1) + y2)), .second, .val (.ref b), .val (.long ((x0 + y1) + y2)), .second, .val (.long ((x0 + (x0 + y1)) + ((x0 + y1) + y2))), .second, .val (.double (FP.ddiv (FP.l2d ((x0 + (x0 + y1)) + ((x0 + y1) + y2))) (FP.l2d (3 : Int32).toInt64))), .second, .val (.double (FP.ddiv (FP.l2d ((x0 + (x0 + y1)) + ((x0 + y1) + y2))) (FP.l2d (3 : Int32).toInt64))), .second] [(.double (FP.ddiv (FP.l2d ((x0 + (x0 + y1)) + ((x0 + y1) + y2))) (FP.l2d (3 : Int32).toInt64)))])) _
    refine XS.dload Xc.here hx rfl (hb hby at_274) rfl ?_
    show Steps p.tables e below (Tc.setTop (mkF m 276 #[.val (.int p1), .val (.int p2), .val (.int p3), .val (.int p4), .val (.int p5), .val (.int (2 : Int32)), .val (.ref wAVG), .val (.int (3 : Int32)), .val (.long x0), .second, .val (.long (x0 + y1)), .second, .val (.long ((x0 + y1) + y2)), .second, .val (.ref b), .val (.long ((x0 + y1) + y2)), .second, .val (.long ((x0 + (x0 + y1)) + ((x0 + y1) + y2))), .second, .val (.double (FP.ddiv (FP.l2d ((x0 + (x0 + y1)) + ((x0 + y1) + y2))) (FP.l2d (3 : Int32).toInt64))), .second, .val (.double (FP.ddiv (FP.l2d ((x0 + (x0 + y1)) + ((x0 + y1) + y2))) (FP.l2d (3 : Int32).toInt64))), .second] [(.double (FP.ddiv (FP.l2d ((x0 + (x0 + y1)) + ((x0 + y1) + y2))) (FP.l2d (3 : Int32).toInt64))), (.double (FP.ddiv (FP.l2d ((x0 + (x0 + y1)) + ((x0 + y1) + y2))) (FP.l2d (3 : Int32).toInt64)))])) _
    refine XS.dcmpS Xc.here hx rfl (hb hby at_276) rfl (v := (0 : Int32)) (dcmpV_self (own_div (by decide)) _) ?_
    show Steps p.tables e below (Tc.setTop (mkF m 277 #[.val (.int p1), .val (.int p2), .val (.int p3), .val (.int p4), .val (.int p5), .val (.int (2 : Int32)), .val (.ref wAVG), .val (.int (3 : Int32)), .val (.long x0), .second, .val (.long (x0 + y1)), .second, .val (.long ((x0 + y1) + y2)), .second, .val (.ref b), .val (.long ((x0 + y1) + y2)), .second, .val (.long ((x0 + (x0 + y1)) + ((x0 + y1) + y2))), .second, .val (.double (FP.ddiv (FP.l2d ((x0 + (x0 + y1)) + ((x0 + y1) + y2))) (FP.l2d (3 : Int32).toInt64))), .second, .val (.double (FP.ddiv (FP.l2d ((x0 + (x0 + y1)) + ((x0 + y1) + y2))) (FP.l2d (3 : Int32).toInt64))), .second] [(.int (0 : Int32))])) _
    refine XS.ifNo Xc.here hx rfl (hb hby at_277) rfl ((if0 _ _).trans (teq (by decide : (0 : Int32) = (0 : Int32))).2) ?_
    show Steps p.tables e below (Tc.setTop (mkF m 280 #[.val (.int p1), .val (.int p2), .val (.int p3), .val (.int p4), .val (.int p5), .val (.int (2 : Int32)), .val (.ref wAVG), .val (.int (3 : Int32)), .val (.long x0), .second, .val (.long (x0 + y1)), .second, .val (.long ((x0 + y1) + y2)), .second, .val (.ref b), .val (.long ((x0 + y1) + y2)), .second, .val (.long ((x0 + (x0 + y1)) + ((x0 + y1) + y2))), .second, .val (.double (FP.ddiv (FP.l2d ((x0 + (x0 + y1)) + ((x0 + y1) + y2))) (FP.l2d (3 : Int32).toInt64))), .second, .val (.double (FP.ddiv (FP.l2d ((x0 + (x0 + y1)) + ((x0 + y1) + y2))) (FP.l2d (3 : Int32).toInt64))), .second] [])) _
    refine XS.iconst Xc.here hx rfl (hb hby at_280) ?_
    show Steps p.tables e below (Tc.setTop (mkF m 281 #[.val (.int p1), .val (.int p2), .val (.int p3), .val (.int p4), .val (.int p5), .val (.int (2 : Int32)), .val (.ref wAVG), .val (.int (3 : Int32)), .val (.long x0), .second, .val (.long (x0 + y1)), .second, .val (.long ((x0 + y1) + y2)), .second, .val (.ref b), .val (.long ((x0 + y1) + y2)), .second, .val (.long ((x0 + (x0 + y1)) + ((x0 + y1) + y2))), .second, .val (.double (FP.ddiv (FP.l2d ((x0 + (x0 + y1)) + ((x0 + y1) + y2))) (FP.l2d (3 : Int32).toInt64))), .second, .val (.double (FP.ddiv (FP.l2d ((x0 + (x0 + y1)) + ((x0 + y1) + y2))) (FP.l2d (3 : Int32).toInt64))), .second] [(.int (1 : Int32))])) _
    refine XS.goto Xc.here hx rfl (pc0 := 281) (pc' := 285) rfl (hb hby at_281) (by decide) (by decide) ?_
    show Steps p.tables e below (Tc.setTop (mkF m 285 #[.val (.int p1), .val (.int p2), .val (.int p3), .val (.int p4), .val (.int p5), .val (.int (2 : Int32)), .val (.ref wAVG), .val (.int (3 : Int32)), .val (.long x0), .second, .val (.long (x0 + y1)), .second, .val (.long ((x0 + y1) + y2)), .second, .val (.ref b), .val (.long ((x0 + y1) + y2)), .second, .val (.long ((x0 + (x0 + y1)) + ((x0 + y1) + y2))), .second, .val (.double (FP.ddiv (FP.l2d ((x0 + (x0 + y1)) + ((x0 + y1) + y2))) (FP.l2d (3 : Int32).toInt64))), .second, .val (.double (FP.ddiv (FP.l2d ((x0 + (x0 + y1)) + ((x0 + y1) + y2))) (FP.l2d (3 : Int32).toInt64))), .second] [(.int (1 : Int32))])) _
    exact retN Xc hx (t := .boolean) Bd.returns (by simp) (hb hby at_285) hr
  · show Q0 h0 n0 _ Tc.heap _
    exact ⟨rfl, Nc⟩
set_option maxRecDepth 65536 in
set_option maxHeartbeats 40000000 in
theorem rm0_3_1 (l : Launch) (Z : State) (a0 : Array Value) (hw : ∀ d ∈ tables_1, d.before a0 Z = true) (ws : List Jvm.Cond) (p1 p2 p3 p4 p5 : Int32) (wMIN wMAX wAVG wSUM : Addr) (x0 y1 y2 : Int64) (h0 : Heap) (n0 : Nat) (Z0 : n0 ≤ h0.size) (S_MIN : Sta Z h0 "com/example/tiebreaker/tiebreaker/engine/search/DecayFunction$MultiValueMode" "MIN" "Lcom/example/tiebreaker/tiebreaker/engine/search/DecayFunction$MultiValueMode;" (.ref wMIN)) (S_MAX : Sta Z h0 "com/example/tiebreaker/tiebreaker/engine/search/DecayFunction$MultiValueMode" "MAX" "Lcom/example/tiebreaker/tiebreaker/engine/search/DecayFunction$MultiValueMode;" (.ref wMAX)) (S_AVG : Sta Z h0 "com/example/tiebreaker/tiebreaker/engine/search/DecayFunction$MultiValueMode" "AVG" "Lcom/example/tiebreaker/tiebreaker/engine/search/DecayFunction$MultiValueMode;" (.ref wAVG)) (S_SUM : Sta Z h0 "com/example/tiebreaker/tiebreaker/engine/search/DecayFunction$MultiValueMode" "SUM" "Lcom/example/tiebreaker/tiebreaker/engine/search/DecayFunction$MultiValueMode;" (.ref wSUM)) (nXI : ¬ wMAX = wMIN) (nAI : ¬ wAVG = wMIN) (nAX : ¬ wAVG = wMAX) (nSI : ¬ wSUM = wMIN) (nSX : ¬ wSUM = wMAX) (nAS : ¬ wAVG = wSUM) (E_m : Exa Z h0 wSUM "com/example/tiebreaker/tiebreaker/engine/search/DecayFunction$MultiValueMode") (hx0 : x0 = (p3 &&& (1048575 : Int32)).toInt64) (hy1 : y1 = (p4 &&& (1048575 : Int32)).toInt64) (hy2 : y2 = (p5 &&& (1048575 : Int32)).toInt64) (b0 : 0 ≤ x0.toInt ∧ x0.toInt < 4000000) (b1 : 0 ≤ (x0 + y1).toInt ∧ (x0 + y1).toInt < 4000000) (b2 : 0 ≤ ((x0 + y1) + y2).toInt ∧ ((x0 + y1) + y2).toInt < 4000000) (hm : (p1 &&& (3 : Int32)) = (3 : Int32)) (hn : (((p2 &&& (2147483647 : Int32)) % (3 : Int32)) + (1 : Int32)) = (1 : Int32)) :
    MetFree l x (head1 (Jvm.Cond.code x code maxLocals ret :: ws) room_1) (fun a U => a = #[(.int p1), (.int p2), (.int p3), (.int p4), (.int p5)] ∧ Z.Warmed39 U.vm ∧ U.heap = h0) (fun _ _ _ _ _ => True) (fun _ U o U' => ∃ v L, o = .returned v ∧ Q0 h0 n0 v U'.heap L ∧ FrameEnd U o U' L room_1.cells room_1.slots) := by
  refine MetFree.of_bodySF (plainFor_of_name pn_0) hisR ?_
  intro p e s m args below meth c s₁ Bd hml0 hP hK
  obtain ⟨rfl, hZ, hh⟩ := hP
  have hx := Bd.exec
  have hby := Bd.bytes
  have hml : c.maxLocals = 23 := hml0
  have hown : s.vm.findClass "com/example/tiebreaker/tiebreaker/engine/search/MultiValueModePickPinLaw" = some m.cls := findClass_of_methodNamed Bd.named
  have X0 : Stand p l e room_1 s m #[(.int p1), (.int p2), (.int p3), (.int p4), (.int p5)] below meth c s₁ [] 0 0 := Stand.of_body Bd
  have e0 : s₁.heap = h0 := by rw [← hh, Bd.state]; rfl
  have N0 := Fr.nil n0
  have pre0 : ∀ t, Steps p.tables e below (s₁.setTop (mkF m 0 #[.val (.int p1), .val (.int p2), .val (.int p3), .val (.int p4), .val (.int p5), uu, uu, uu, uu, uu, uu, uu, uu, uu, uu, uu, uu, uu, uu, uu, uu, uu, uu] [])) t → Steps p.tables e below (s₁.setTop (entryFrame m #[(.int p1), (.int p2), (.int p3), (.int p4), (.int p5)] maxLocals)) t := fun t k => castTop (ef_0 m p1 p2 p3 p4 p5) k
  obtain ⟨T50, X50, e50, st50⟩ := getS2 X0 hx hZ hown (host := "") (Or.inl (hw _ (List.mem_of_getElem? (i := 12) rfl))) Via.refl e0 S_SUM (g := (mkF m 40 #[.val (.int p1), .val (.int p2), .val (.int p3), .val (.int p4), .val (.int p5), .val (.int (3 : Int32)), uu, uu, uu, uu, uu, uu, uu, uu, uu, uu, uu, uu, uu, uu, uu, uu, uu] [])) rfl (hb hby at_40)
  obtain ⟨Ta, ha, ka, Xa, ea, Ea, Aa, sta_⟩ := newP X50 hx hZ (hw _ (List.mem_of_getElem? (i := 5) rfl)) e50 (g := (mkF m 90 #[.val (.int p1), .val (.int p2), .val (.int p3), .val (.int p4), .val (.int p5), .val (.int (3 : Int32)), .val (.ref wSUM), .val (.int (1 : Int32)), .val (.long x0), .second, .val (.long (x0 + y1)), .second, .val (.long ((x0 + y1) + y2)), .second, uu, uu, uu, uu, uu, uu, uu, uu, uu] [(.int (1 : Int32))])) rfl (hb hby at_90) rfl (by decide) (cap := 1) (by decide) (by decide) (by decide) (by decide)
  obtain ⟨b, gb⟩ : ∃ z, z = h0.size := ⟨_, rfl⟩
  rw [← gb] at Aa sta_
  have V0 : Arv Z ha b ka .double (1 : Int32) [] (.double (FP.l2d 0)) := Arv.newD Aa (by decide)
  have Vp : Arv Z ha b ka .double (1 : Int32) (List.replicate 1 (.double (FP.l2d 0))) (.double (FP.l2d 0)) := V0.pad (pad_rep [] (.double (FP.l2d 0)) 1)
  have g_b : n0 ≤ b := Nat.le_trans Z0 (Nat.le_of_eq gb.symm)
  have sz_b : h0.size ≤ b := Nat.le_of_eq gb.symm
  have Ka : Keep h0 ha [] := (Keep.refl h0 []).ext Ea
  obtain ⟨cl0, Ar0, q0, Sz0, M0, H0, U0⟩ := Vp
  obtain ⟨Td0, hd0, Xd0, ed0, Wd0, std0⟩ := stD Xa hx hZ ea Ar0 (j := (0 : Int32)) (inb_of Sz0 (by decide)) (g := (mkF m 97 #[.val (.int p1), .val (.int p2), .val (.int p3), .val (.int p4), .val (.int p5), .val (.int (3 : Int32)), .val (.ref wSUM), .val (.int (1 : Int32)), .val (.long x0), .second, .val (.long (x0 + y1)), .second, .val (.long ((x0 + y1) + y2)), .second, uu, uu, uu, uu, uu, uu, uu, uu, uu] [(.double (FP.l2d x0)), (.int (0 : Int32)), (.ref b), (.ref b)])) rfl rfl (hb hby at_97)
  have V1 := Arv.set Ar0 q0 Sz0 M0 H0 U0 (v := (.double (FP.l2d x0))) rfl Wd0 0 rfl (by simp)
  have Nd0 := Fr.snoc Xd0 N0 g_b
  have Kd0 : Keep h0 hd0 [] := Ka.wr Wd0 (Or.inr sz_b)
  have KK : Keep h0 hd0 [] := Kd0
  obtain ⟨cl, Ar, -, Sz, Nn, Hh, -⟩ := V1
  have hat0 : cl.slots[0]? = some (.double (FP.l2d x0)) := Hh 0 (by rw [Sz]; decide)
  obtain ⟨cq, kq, qa, qb, qc⟩ := isOf hZ ed0 (E_m.keep KK)
  obtain ⟨_, _, ⟨Tc, Lc, kc, nc⟩, -, Xc, ⟨Lcc, hQc, lc, yc, zc⟩, stc⟩ := Xd0.virtualBack hx (y := (⟨"com/example/tiebreaker/tiebreaker/engine/search/DecayFunction$MultiValueMode", "pick", "([D)D"⟩ : MethodName)) (z := (⟨"com/example/tiebreaker/tiebreaker/engine/search/DecayFunction$MultiValueMode", "pick", "([D)D"⟩ : MethodName)) hown (mvT hZ (hw _ (List.mem_of_getElem? (i := 6) rfl))) (mvT hZ (hw _ (List.mem_of_getElem? (i := 7) rfl))) (notFace_of_selects (args := #[]) (mvT hZ (hw _ (List.mem_of_getElem? (i := 9) rfl)))) (mvT hZ (hw _ (List.mem_of_getElem? (i := 9) rfl))) (mvT hZ (hw _ (List.mem_of_getElem? (i := 8) rfl))) (by decide) (backOf (W := 0) (rm1_SUM_1 l Z a0 hw [] b wMIN wMAX wAVG wSUM x0 hd0 n0 (Nat.le_trans Z0 KK.1) (own_sta S_MIN KK) (own_sta S_MAX KK) (own_sta S_AVG KK) (own_sta S_SUM KK) nXI nAI nAX nSI nSX nAS cl Ar Sz Nn hat0 b0) hZ (hw _ (List.mem_of_getElem? (i := 10) rfl)) (hw _ (List.mem_of_getElem? (i := 1) rfl)) (by decide) (by decide)) qa qc (g := (mkF m 267 #[.val (.int p1), .val (.int p2), .val (.int p3), .val (.int p4), .val (.int p5), .val (.int (3 : Int32)), .val (.ref wSUM), .val (.int (1 : Int32)), .val (.long x0), .second, .val (.long (x0 + y1)), .second, .val (.long ((x0 + y1) + y2)), .second, .val (.ref b), .val (.long x0), .second, .val (.long x0), .second, .val (.double (FP.l2d x0)), .second, uu, uu] [(.ref b), (.ref wSUM)])) rfl (by rw [hml]; rfl) (Steps.refl _) (argsL := [(.ref b)]) (rest := []) (lenOf pd_0 rfl) rfl (by show 2 * 0 + _ ≤ _; exact Nat.le_of_eq rfl) (hb hby at_267) (fun _ _ => ⟨rfl, ed0, (by decide : 0 + 1 + 0 ≤ _), (by decide : 0 + 1 + 0 ≤ _)⟩)
  dsimp only [Pt.U, Pt.locs, Pt.cells, Pt.slots] at Xc lc yc zc stc hQc
  subst lc yc zc
  obtain ⟨rfl, Ncq, ec⟩ := hQc
  have Nc := Fr.app Nd0 Ncq
  obtain ⟨fs, hr, hrun, hended, hW, hsame⟩ := Xc.leave (v := some (.int (1 : Int32))) (fun h => by rw [Bd.returns] at h; cases h)
  refine ⟨_, _, pre0 _ ?_, hrun, hended, _, _, rfl, ?_, ⟨_, rfl⟩, hW, hsame.mono (by decide) (by decide)⟩
  · show Steps p.tables e below (s₁.setTop (mkF m 0 #[.val (.int p1), .val (.int p2), .val (.int p3), .val (.int p4), .val (.int p5), uu, uu, uu, uu, uu, uu, uu, uu, uu, uu, uu, uu, uu, uu, uu, uu, uu, uu] [])) _
    refine XS.iloadN X0.here hx rfl (hb hby at_0) rfl ?_
    show Steps p.tables e below (s₁.setTop (mkF m 1 #[.val (.int p1), .val (.int p2), .val (.int p3), .val (.int p4), .val (.int p5), uu, uu, uu, uu, uu, uu, uu, uu, uu, uu, uu, uu, uu, uu, uu, uu, uu, uu] [(.int p1)])) _
    refine XS.iconst X0.here hx rfl (hb hby at_1) ?_
    show Steps p.tables e below (s₁.setTop (mkF m 2 #[.val (.int p1), .val (.int p2), .val (.int p3), .val (.int p4), .val (.int p5), uu, uu, uu, uu, uu, uu, uu, uu, uu, uu, uu, uu, uu, uu, uu, uu, uu, uu] [(.int (3 : Int32)), (.int p1)])) _
    refine XS.iand X0.here hx rfl (hb hby at_2) rfl ?_
    show Steps p.tables e below (s₁.setTop (mkF m 3 #[.val (.int p1), .val (.int p2), .val (.int p3), .val (.int p4), .val (.int p5), uu, uu, uu, uu, uu, uu, uu, uu, uu, uu, uu, uu, uu, uu, uu, uu, uu, uu] [(.int (p1 &&& (3 : Int32)))])) _
    rw [hm]
    show Steps p.tables e below (s₁.setTop (mkF m 3 #[.val (.int p1), .val (.int p2), .val (.int p3), .val (.int p4), .val (.int p5), uu, uu, uu, uu, uu, uu, uu, uu, uu, uu, uu, uu, uu, uu, uu, uu, uu, uu] [(.int (3 : Int32))])) _
    refine XS.istore X0.here hx rfl (hb hby at_3) rfl (l' := #[.val (.int p1), .val (.int p2), .val (.int p3), .val (.int p4), .val (.int p5), .val (.int (3 : Int32)), uu, uu, uu, uu, uu, uu, uu, uu, uu, uu, uu, uu, uu, uu, uu, uu, uu]) rfl ?_
    show Steps p.tables e below (s₁.setTop (mkF m 5 #[.val (.int p1), .val (.int p2), .val (.int p3), .val (.int p4), .val (.int p5), .val (.int (3 : Int32)), uu, uu, uu, uu, uu, uu, uu, uu, uu, uu, uu, uu, uu, uu, uu, uu, uu] [])) _
    refine XS.iload X0.here hx rfl (hb hby at_5) rfl ?_
    show Steps p.tables e below (s₁.setTop (mkF m 7 #[.val (.int p1), .val (.int p2), .val (.int p3), .val (.int p4), .val (.int p5), .val (.int (3 : Int32)), uu, uu, uu, uu, uu, uu, uu, uu, uu, uu, uu, uu, uu, uu, uu, uu, uu] [(.int (3 : Int32))])) _
    refine XS.ifYes X0.here hx rfl (pc0 := 7) (pc' := 16) rfl (hb hby at_7) rfl ((if0 _ _).trans (feq (by decide : ¬ ((3 : Int32) = (0 : Int32)))).2) (by decide) (by decide) ?_
    show Steps p.tables e below (s₁.setTop (mkF m 16 #[.val (.int p1), .val (.int p2), .val (.int p3), .val (.int p4), .val (.int p5), .val (.int (3 : Int32)), uu, uu, uu, uu, uu, uu, uu, uu, uu, uu, uu, uu, uu, uu, uu, uu, uu] [])) _
    refine XS.iload X0.here hx rfl (hb hby at_16) rfl ?_
    show Steps p.tables e below (s₁.setTop (mkF m 18 #[.val (.int p1), .val (.int p2), .val (.int p3), .val (.int p4), .val (.int p5), .val (.int (3 : Int32)), uu, uu, uu, uu, uu, uu, uu, uu, uu, uu, uu, uu, uu, uu, uu, uu, uu] [(.int (3 : Int32))])) _
    refine XS.iconst X0.here hx rfl (hb hby at_18) ?_
    show Steps p.tables e below (s₁.setTop (mkF m 19 #[.val (.int p1), .val (.int p2), .val (.int p3), .val (.int p4), .val (.int p5), .val (.int (3 : Int32)), uu, uu, uu, uu, uu, uu, uu, uu, uu, uu, uu, uu, uu, uu, uu, uu, uu] [(.int (1 : Int32)), (.int (3 : Int32))])) _
    refine XS.icmpYes X0.here hx rfl (pc0 := 19) (pc' := 28) rfl (hb hby at_19) rfl (feq (by decide : ¬ ((3 : Int32) = (1 : Int32)))).2 (by decide) (by decide) ?_
    show Steps p.tables e below (s₁.setTop (mkF m 28 #[.val (.int p1), .val (.int p2), .val (.int p3), .val (.int p4), .val (.int p5), .val (.int (3 : Int32)), uu, uu, uu, uu, uu, uu, uu, uu, uu, uu, uu, uu, uu, uu, uu, uu, uu] [])) _
    refine XS.iload X0.here hx rfl (hb hby at_28) rfl ?_
    show Steps p.tables e below (s₁.setTop (mkF m 30 #[.val (.int p1), .val (.int p2), .val (.int p3), .val (.int p4), .val (.int p5), .val (.int (3 : Int32)), uu, uu, uu, uu, uu, uu, uu, uu, uu, uu, uu, uu, uu, uu, uu, uu, uu] [(.int (3 : Int32))])) _
    refine XS.iconst X0.here hx rfl (hb hby at_30) ?_
    show Steps p.tables e below (s₁.setTop (mkF m 31 #[.val (.int p1), .val (.int p2), .val (.int p3), .val (.int p4), .val (.int p5), .val (.int (3 : Int32)), uu, uu, uu, uu, uu, uu, uu, uu, uu, uu, uu, uu, uu, uu, uu, uu, uu] [(.int (2 : Int32)), (.int (3 : Int32))])) _
    refine XS.icmpYes X0.here hx rfl (pc0 := 31) (pc' := 40) rfl (hb hby at_31) rfl (feq (by decide : ¬ ((3 : Int32) = (2 : Int32)))).2 (by decide) (by decide) ?_
    show Steps p.tables e below (s₁.setTop (mkF m 40 #[.val (.int p1), .val (.int p2), .val (.int p3), .val (.int p4), .val (.int p5), .val (.int (3 : Int32)), uu, uu, uu, uu, uu, uu, uu, uu, uu, uu, uu, uu, uu, uu, uu, uu, uu] [])) _
    refine st50 _ ?_
    show Steps p.tables e below (T50.setTop (mkF m 43 #[.val (.int p1), .val (.int p2), .val (.int p3), .val (.int p4), .val (.int p5), .val (.int (3 : Int32)), uu, uu, uu, uu, uu, uu, uu, uu, uu, uu, uu, uu, uu, uu, uu, uu, uu] [(.ref wSUM)])) _
    refine XS.astore X50.here hx rfl (hb hby at_43) rfl rfl (l' := #[.val (.int p1), .val (.int p2), .val (.int p3), .val (.int p4), .val (.int p5), .val (.int (3 : Int32)), .val (.ref wSUM), uu, uu, uu, uu, uu, uu, uu, uu, uu, uu, uu, uu, uu, uu, uu, uu]) rfl ?_
    show Steps p.tables e below (T50.setTop (mkF m 45 #[.val (.int p1), .val (.int p2), .val (.int p3), .val (.int p4), .val (.int p5), .val (.int (3 : Int32)), .val (.ref wSUM), uu, uu, uu, uu, uu, uu, uu, uu, uu, uu, uu, uu, uu, uu, uu, uu] [])) _
    refine XS.iloadN X50.here hx rfl (hb hby at_45) rfl ?_
    show Steps p.tables e below (T50.setTop (mkF m 46 #[.val (.int p1), .val (.int p2), .val (.int p3), .val (.int p4), .val (.int p5), .val (.int (3 : Int32)), .val (.ref wSUM), uu, uu, uu, uu, uu, uu, uu, uu, uu, uu, uu, uu, uu, uu, uu, uu] [(.int p2)])) _
    refine X50.ldcInt hx hown (mvT hZ (hw _ (List.mem_of_getElem? (i := 3) rfl))) (g := (mkF m 46 #[.val (.int p1), .val (.int p2), .val (.int p3), .val (.int p4), .val (.int p5), .val (.int (3 : Int32)), .val (.ref wSUM), uu, uu, uu, uu, uu, uu, uu, uu, uu, uu, uu, uu, uu, uu, uu, uu] [(.int p2)])) rfl (hb hby at_46) _ ?_
    show Steps p.tables e below (T50.setTop (mkF m 48 #[.val (.int p1), .val (.int p2), .val (.int p3), .val (.int p4), .val (.int p5), .val (.int (3 : Int32)), .val (.ref wSUM), uu, uu, uu, uu, uu, uu, uu, uu, uu, uu, uu, uu, uu, uu, uu, uu] [(.int (2147483647 : Int32)), (.int p2)])) _
    refine XS.iand X50.here hx rfl (hb hby at_48) rfl ?_
    show Steps p.tables e below (T50.setTop (mkF m 49 #[.val (.int p1), .val (.int p2), .val (.int p3), .val (.int p4), .val (.int p5), .val (.int (3 : Int32)), .val (.ref wSUM), uu, uu, uu, uu, uu, uu, uu, uu, uu, uu, uu, uu, uu, uu, uu, uu] [(.int (p2 &&& (2147483647 : Int32)))])) _
    refine XS.iconst X50.here hx rfl (hb hby at_49) ?_
    show Steps p.tables e below (T50.setTop (mkF m 50 #[.val (.int p1), .val (.int p2), .val (.int p3), .val (.int p4), .val (.int p5), .val (.int (3 : Int32)), .val (.ref wSUM), uu, uu, uu, uu, uu, uu, uu, uu, uu, uu, uu, uu, uu, uu, uu, uu] [(.int (3 : Int32)), (.int (p2 &&& (2147483647 : Int32)))])) _
    refine iremM X50 hx rfl (hb hby at_50) rfl (by decide) ?_
    show Steps p.tables e below (T50.setTop (mkF m 51 #[.val (.int p1), .val (.int p2), .val (.int p3), .val (.int p4), .val (.int p5), .val (.int (3 : Int32)), .val (.ref wSUM), uu, uu, uu, uu, uu, uu, uu, uu, uu, uu, uu, uu, uu, uu, uu, uu] [(.int ((p2 &&& (2147483647 : Int32)) % (3 : Int32)))])) _
    refine XS.iconst X50.here hx rfl (hb hby at_51) ?_
    show Steps p.tables e below (T50.setTop (mkF m 52 #[.val (.int p1), .val (.int p2), .val (.int p3), .val (.int p4), .val (.int p5), .val (.int (3 : Int32)), .val (.ref wSUM), uu, uu, uu, uu, uu, uu, uu, uu, uu, uu, uu, uu, uu, uu, uu, uu] [(.int (1 : Int32)), (.int ((p2 &&& (2147483647 : Int32)) % (3 : Int32)))])) _
    refine XS.iadd X50.here hx rfl (hb hby at_52) rfl ?_
    show Steps p.tables e below (T50.setTop (mkF m 53 #[.val (.int p1), .val (.int p2), .val (.int p3), .val (.int p4), .val (.int p5), .val (.int (3 : Int32)), .val (.ref wSUM), uu, uu, uu, uu, uu, uu, uu, uu, uu, uu, uu, uu, uu, uu, uu, uu] [(.int (((p2 &&& (2147483647 : Int32)) % (3 : Int32)) + (1 : Int32)))])) _
    rw [hn]
    show Steps p.tables e below (T50.setTop (mkF m 53 #[.val (.int p1), .val (.int p2), .val (.int p3), .val (.int p4), .val (.int p5), .val (.int (3 : Int32)), .val (.ref wSUM), uu, uu, uu, uu, uu, uu, uu, uu, uu, uu, uu, uu, uu, uu, uu, uu] [(.int (1 : Int32))])) _
    refine XS.istore X50.here hx rfl (hb hby at_53) rfl (l' := #[.val (.int p1), .val (.int p2), .val (.int p3), .val (.int p4), .val (.int p5), .val (.int (3 : Int32)), .val (.ref wSUM), .val (.int (1 : Int32)), uu, uu, uu, uu, uu, uu, uu, uu, uu, uu, uu, uu, uu, uu, uu]) rfl ?_
    show Steps p.tables e below (T50.setTop (mkF m 55 #[.val (.int p1), .val (.int p2), .val (.int p3), .val (.int p4), .val (.int p5), .val (.int (3 : Int32)), .val (.ref wSUM), .val (.int (1 : Int32)), uu, uu, uu, uu, uu, uu, uu, uu, uu, uu, uu, uu, uu, uu, uu] [])) _
    refine XS.iloadN X50.here hx rfl (hb hby at_55) rfl ?_
    show Steps p.tables e below (T50.setTop (mkF m 56 #[.val (.int p1), .val (.int p2), .val (.int p3), .val (.int p4), .val (.int p5), .val (.int (3 : Int32)), .val (.ref wSUM), .val (.int (1 : Int32)), uu, uu, uu, uu, uu, uu, uu, uu, uu, uu, uu, uu, uu, uu, uu] [(.int p3)])) _
    refine X50.ldcInt hx hown (mvT hZ (hw _ (List.mem_of_getElem? (i := 4) rfl))) (g := (mkF m 56 #[.val (.int p1), .val (.int p2), .val (.int p3), .val (.int p4), .val (.int p5), .val (.int (3 : Int32)), .val (.ref wSUM), .val (.int (1 : Int32)), uu, uu, uu, uu, uu, uu, uu, uu, uu, uu, uu, uu, uu, uu, uu] [(.int p3)])) rfl (hb hby at_56) _ ?_
    show Steps p.tables e below (T50.setTop (mkF m 58 #[.val (.int p1), .val (.int p2), .val (.int p3), .val (.int p4), .val (.int p5), .val (.int (3 : Int32)), .val (.ref wSUM), .val (.int (1 : Int32)), uu, uu, uu, uu, uu, uu, uu, uu, uu, uu, uu, uu, uu, uu, uu] [(.int (1048575 : Int32)), (.int p3)])) _
    refine XS.iand X50.here hx rfl (hb hby at_58) rfl ?_
    show Steps p.tables e below (T50.setTop (mkF m 59 #[.val (.int p1), .val (.int p2), .val (.int p3), .val (.int p4), .val (.int p5), .val (.int (3 : Int32)), .val (.ref wSUM), .val (.int (1 : Int32)), uu, uu, uu, uu, uu, uu, uu, uu, uu, uu, uu, uu, uu, uu, uu] [(.int (p3 &&& (1048575 : Int32)))])) _
    refine XS.i2l X50.here hx rfl (hb hby at_59) rfl ?_
    show Steps p.tables e below (T50.setTop (mkF m 60 #[.val (.int p1), .val (.int p2), .val (.int p3), .val (.int p4), .val (.int p5), .val (.int (3 : Int32)), .val (.ref wSUM), .val (.int (1 : Int32)), uu, uu, uu, uu, uu, uu, uu, uu, uu, uu, uu, uu, uu, uu, uu] [(.long ((p3 &&& (1048575 : Int32)).toInt64))])) _
    rw [← hx0]
    show Steps p.tables e below (T50.setTop (mkF m 60 #[.val (.int p1), .val (.int p2), .val (.int p3), .val (.int p4), .val (.int p5), .val (.int (3 : Int32)), .val (.ref wSUM), .val (.int (1 : Int32)), uu, uu, uu, uu, uu, uu, uu, uu, uu, uu, uu, uu, uu, uu, uu] [(.long x0)])) _
    refine XS.lstore X50.here hx rfl (hb hby at_60) rfl (l' := #[.val (.int p1), .val (.int p2), .val (.int p3), .val (.int p4), .val (.int p5), .val (.int (3 : Int32)), .val (.ref wSUM), .val (.int (1 : Int32)), .val (.long x0), .second, uu, uu, uu, uu, uu, uu, uu, uu, uu, uu, uu, uu, uu]) rfl ?_
    show Steps p.tables e below (T50.setTop (mkF m 62 #[.val (.int p1), .val (.int p2), .val (.int p3), .val (.int p4), .val (.int p5), .val (.int (3 : Int32)), .val (.ref wSUM), .val (.int (1 : Int32)), .val (.long x0), .second, uu, uu, uu, uu, uu, uu, uu, uu, uu, uu, uu, uu, uu] [])) _
    refine XS.lload X50.here hx rfl (hb hby at_62) rfl ?_
    show Steps p.tables e below (T50.setTop (mkF m 64 #[.val (.int p1), .val (.int p2), .val (.int p3), .val (.int p4), .val (.int p5), .val (.int (3 : Int32)), .val (.ref wSUM), .val (.int (1 : Int32)), .val (.long x0), .second, uu, uu, uu, uu, uu, uu, uu, uu, uu, uu, uu, uu, uu] [(.long x0)])) _
    refine XS.iloadN X50.here hx rfl (hb hby at_64) rfl ?_
    show Steps p.tables e below (T50.setTop (mkF m 65 #[.val (.int p1), .val (.int p2), .val (.int p3), .val (.int p4), .val (.int p5), .val (.int (3 : Int32)), .val (.ref wSUM), .val (.int (1 : Int32)), .val (.long x0), .second, uu, uu, uu, uu, uu, uu, uu, uu, uu, uu, uu, uu, uu] [(.int p4), (.long x0)])) _
    refine X50.ldcInt hx hown (mvT hZ (hw _ (List.mem_of_getElem? (i := 4) rfl))) (g := (mkF m 65 #[.val (.int p1), .val (.int p2), .val (.int p3), .val (.int p4), .val (.int p5), .val (.int (3 : Int32)), .val (.ref wSUM), .val (.int (1 : Int32)), .val (.long x0), .second, uu, uu, uu, uu, uu, uu, uu, uu, uu, uu, uu, uu, uu] [(.int p4), (.long x0)])) rfl (hb hby at_65) _ ?_
    show Steps p.tables e below (T50.setTop (mkF m 67 #[.val (.int p1), .val (.int p2), .val (.int p3), .val (.int p4), .val (.int p5), .val (.int (3 : Int32)), .val (.ref wSUM), .val (.int (1 : Int32)), .val (.long x0), .second, uu, uu, uu, uu, uu, uu, uu, uu, uu, uu, uu, uu, uu] [(.int (1048575 : Int32)), (.int p4), (.long x0)])) _
    refine XS.iand X50.here hx rfl (hb hby at_67) rfl ?_
    show Steps p.tables e below (T50.setTop (mkF m 68 #[.val (.int p1), .val (.int p2), .val (.int p3), .val (.int p4), .val (.int p5), .val (.int (3 : Int32)), .val (.ref wSUM), .val (.int (1 : Int32)), .val (.long x0), .second, uu, uu, uu, uu, uu, uu, uu, uu, uu, uu, uu, uu, uu] [(.int (p4 &&& (1048575 : Int32))), (.long x0)])) _
    refine XS.i2l X50.here hx rfl (hb hby at_68) rfl ?_
    show Steps p.tables e below (T50.setTop (mkF m 69 #[.val (.int p1), .val (.int p2), .val (.int p3), .val (.int p4), .val (.int p5), .val (.int (3 : Int32)), .val (.ref wSUM), .val (.int (1 : Int32)), .val (.long x0), .second, uu, uu, uu, uu, uu, uu, uu, uu, uu, uu, uu, uu, uu] [(.long ((p4 &&& (1048575 : Int32)).toInt64)), (.long x0)])) _
    rw [← hy1]
    show Steps p.tables e below (T50.setTop (mkF m 69 #[.val (.int p1), .val (.int p2), .val (.int p3), .val (.int p4), .val (.int p5), .val (.int (3 : Int32)), .val (.ref wSUM), .val (.int (1 : Int32)), .val (.long x0), .second, uu, uu, uu, uu, uu, uu, uu, uu, uu, uu, uu, uu, uu] [(.long y1), (.long x0)])) _
    refine XS.ladd X50.here hx rfl (hb hby at_69) rfl ?_
    show Steps p.tables e below (T50.setTop (mkF m 70 #[.val (.int p1), .val (.int p2), .val (.int p3), .val (.int p4), .val (.int p5), .val (.int (3 : Int32)), .val (.ref wSUM), .val (.int (1 : Int32)), .val (.long x0), .second, uu, uu, uu, uu, uu, uu, uu, uu, uu, uu, uu, uu, uu] [(.long (x0 + y1))])) _
    refine XS.lstore X50.here hx rfl (hb hby at_70) rfl (l' := #[.val (.int p1), .val (.int p2), .val (.int p3), .val (.int p4), .val (.int p5), .val (.int (3 : Int32)), .val (.ref wSUM), .val (.int (1 : Int32)), .val (.long x0), .second, .val (.long (x0 + y1)), .second, uu, uu, uu, uu, uu, uu, uu, uu, uu, uu, uu]) rfl ?_
    show Steps p.tables e below (T50.setTop (mkF m 72 #[.val (.int p1), .val (.int p2), .val (.int p3), .val (.int p4), .val (.int p5), .val (.int (3 : Int32)), .val (.ref wSUM), .val (.int (1 : Int32)), .val (.long x0), .second, .val (.long (x0 + y1)), .second, uu, uu, uu, uu, uu, uu, uu, uu, uu, uu, uu] [])) _
    refine XS.lload X50.here hx rfl (hb hby at_72) rfl ?_
    show Steps p.tables e below (T50.setTop (mkF m 74 #[.val (.int p1), .val (.int p2), .val (.int p3), .val (.int p4), .val (.int p5), .val (.int (3 : Int32)), .val (.ref wSUM), .val (.int (1 : Int32)), .val (.long x0), .second, .val (.long (x0 + y1)), .second, uu, uu, uu, uu, uu, uu, uu, uu, uu, uu, uu] [(.long (x0 + y1))])) _
    refine XS.iload X50.here hx rfl (hb hby at_74) rfl ?_
    show Steps p.tables e below (T50.setTop (mkF m 76 #[.val (.int p1), .val (.int p2), .val (.int p3), .val (.int p4), .val (.int p5), .val (.int (3 : Int32)), .val (.ref wSUM), .val (.int (1 : Int32)), .val (.long x0), .second, .val (.long (x0 + y1)), .second, uu, uu, uu, uu, uu, uu, uu, uu, uu, uu, uu] [(.int p5), (.long (x0 + y1))])) _
    refine X50.ldcInt hx hown (mvT hZ (hw _ (List.mem_of_getElem? (i := 4) rfl))) (g := (mkF m 76 #[.val (.int p1), .val (.int p2), .val (.int p3), .val (.int p4), .val (.int p5), .val (.int (3 : Int32)), .val (.ref wSUM), .val (.int (1 : Int32)), .val (.long x0), .second, .val (.long (x0 + y1)), .second, uu, uu, uu, uu, uu, uu, uu, uu, uu, uu, uu] [(.int p5), (.long (x0 + y1))])) rfl (hb hby at_76) _ ?_
    show Steps p.tables e below (T50.setTop (mkF m 78 #[.val (.int p1), .val (.int p2), .val (.int p3), .val (.int p4), .val (.int p5), .val (.int (3 : Int32)), .val (.ref wSUM), .val (.int (1 : Int32)), .val (.long x0), .second, .val (.long (x0 + y1)), .second, uu, uu, uu, uu, uu, uu, uu, uu, uu, uu, uu] [(.int (1048575 : Int32)), (.int p5), (.long (x0 + y1))])) _
    refine XS.iand X50.here hx rfl (hb hby at_78) rfl ?_
    show Steps p.tables e below (T50.setTop (mkF m 79 #[.val (.int p1), .val (.int p2), .val (.int p3), .val (.int p4), .val (.int p5), .val (.int (3 : Int32)), .val (.ref wSUM), .val (.int (1 : Int32)), .val (.long x0), .second, .val (.long (x0 + y1)), .second, uu, uu, uu, uu, uu, uu, uu, uu, uu, uu, uu] [(.int (p5 &&& (1048575 : Int32))), (.long (x0 + y1))])) _
    refine XS.i2l X50.here hx rfl (hb hby at_79) rfl ?_
    show Steps p.tables e below (T50.setTop (mkF m 80 #[.val (.int p1), .val (.int p2), .val (.int p3), .val (.int p4), .val (.int p5), .val (.int (3 : Int32)), .val (.ref wSUM), .val (.int (1 : Int32)), .val (.long x0), .second, .val (.long (x0 + y1)), .second, uu, uu, uu, uu, uu, uu, uu, uu, uu, uu, uu] [(.long ((p5 &&& (1048575 : Int32)).toInt64)), (.long (x0 + y1))])) _
    rw [← hy2]
    show Steps p.tables e below (T50.setTop (mkF m 80 #[.val (.int p1), .val (.int p2), .val (.int p3), .val (.int p4), .val (.int p5), .val (.int (3 : Int32)), .val (.ref wSUM), .val (.int (1 : Int32)), .val (.long x0), .second, .val (.long (x0 + y1)), .second, uu, uu, uu, uu, uu, uu, uu, uu, uu, uu, uu] [(.long y2), (.long (x0 + y1))])) _
    refine XS.ladd X50.here hx rfl (hb hby at_80) rfl ?_
    show Steps p.tables e below (T50.setTop (mkF m 81 #[.val (.int p1), .val (.int p2), .val (.int p3), .val (.int p4), .val (.int p5), .val (.int (3 : Int32)), .val (.ref wSUM), .val (.int (1 : Int32)), .val (.long x0), .second, .val (.long (x0 + y1)), .second, uu, uu, uu, uu, uu, uu, uu, uu, uu, uu, uu] [(.long ((x0 + y1) + y2))])) _
    refine XS.lstore X50.here hx rfl (hb hby at_81) rfl (l' := #[.val (.int p1), .val (.int p2), .val (.int p3), .val (.int p4), .val (.int p5), .val (.int (3 : Int32)), .val (.ref wSUM), .val (.int (1 : Int32)), .val (.long x0), .second, .val (.long (x0 + y1)), .second, .val (.long ((x0 + y1) + y2)), .second, uu, uu, uu, uu, uu, uu, uu, uu, uu]) rfl ?_
    show Steps p.tables e below (T50.setTop (mkF m 83 #[.val (.int p1), .val (.int p2), .val (.int p3), .val (.int p4), .val (.int p5), .val (.int (3 : Int32)), .val (.ref wSUM), .val (.int (1 : Int32)), .val (.long x0), .second, .val (.long (x0 + y1)), .second, .val (.long ((x0 + y1) + y2)), .second, uu, uu, uu, uu, uu, uu, uu, uu, uu] [])) _
    refine XS.iload X50.here hx rfl (hb hby at_83) rfl ?_
    show Steps p.tables e below (T50.setTop (mkF m 85 #[.val (.int p1), .val (.int p2), .val (.int p3), .val (.int p4), .val (.int p5), .val (.int (3 : Int32)), .val (.ref wSUM), .val (.int (1 : Int32)), .val (.long x0), .second, .val (.long (x0 + y1)), .second, .val (.long ((x0 + y1) + y2)), .second, uu, uu, uu, uu, uu, uu, uu, uu, uu] [(.int (1 : Int32))])) _
    refine XS.iconst X50.here hx rfl (hb hby at_85) ?_
    show Steps p.tables e below (T50.setTop (mkF m 86 #[.val (.int p1), .val (.int p2), .val (.int p3), .val (.int p4), .val (.int p5), .val (.int (3 : Int32)), .val (.ref wSUM), .val (.int (1 : Int32)), .val (.long x0), .second, .val (.long (x0 + y1)), .second, .val (.long ((x0 + y1) + y2)), .second, uu, uu, uu, uu, uu, uu, uu, uu, uu] [(.int (1 : Int32)), (.int (1 : Int32))])) _
    refine XS.icmpNo X50.here hx rfl (hb hby at_86) rfl (teq (by decide : (1 : Int32) = (1 : Int32))).2 ?_
    show Steps p.tables e below (T50.setTop (mkF m 89 #[.val (.int p1), .val (.int p2), .val (.int p3), .val (.int p4), .val (.int p5), .val (.int (3 : Int32)), .val (.ref wSUM), .val (.int (1 : Int32)), .val (.long x0), .second, .val (.long (x0 + y1)), .second, .val (.long ((x0 + y1) + y2)), .second, uu, uu, uu, uu, uu, uu, uu, uu, uu] [])) _
    refine XS.iconst X50.here hx rfl (hb hby at_89) ?_
    show Steps p.tables e below (T50.setTop (mkF m 90 #[.val (.int p1), .val (.int p2), .val (.int p3), .val (.int p4), .val (.int p5), .val (.int (3 : Int32)), .val (.ref wSUM), .val (.int (1 : Int32)), .val (.long x0), .second, .val (.long (x0 + y1)), .second, .val (.long ((x0 + y1) + y2)), .second, uu, uu, uu, uu, uu, uu, uu, uu, uu] [(.int (1 : Int32))])) _
    refine sta_ _ ?_
    show Steps p.tables e below (Ta.setTop (mkF m 92 #[.val (.int p1), .val (.int p2), .val (.int p3), .val (.int p4), .val (.int p5), .val (.int (3 : Int32)), .val (.ref wSUM), .val (.int (1 : Int32)), .val (.long x0), .second, .val (.long (x0 + y1)), .second, .val (.long ((x0 + y1) + y2)), .second, uu, uu, uu, uu, uu, uu, uu, uu, uu] [(.ref b)])) _
    refine XS.dup Xa.here hx rfl (hb hby at_92) rfl rfl ?_
    show Steps p.tables e below (Ta.setTop (mkF m 93 #[.val (.int p1), .val (.int p2), .val (.int p3), .val (.int p4), .val (.int p5), .val (.int (3 : Int32)), .val (.ref wSUM), .val (.int (1 : Int32)), .val (.long x0), .second, .val (.long (x0 + y1)), .second, .val (.long ((x0 + y1) + y2)), .second, uu, uu, uu, uu, uu, uu, uu, uu, uu] [(.ref b), (.ref b)])) _
    refine XS.iconst Xa.here hx rfl (hb hby at_93) ?_
    show Steps p.tables e below (Ta.setTop (mkF m 94 #[.val (.int p1), .val (.int p2), .val (.int p3), .val (.int p4), .val (.int p5), .val (.int (3 : Int32)), .val (.ref wSUM), .val (.int (1 : Int32)), .val (.long x0), .second, .val (.long (x0 + y1)), .second, .val (.long ((x0 + y1) + y2)), .second, uu, uu, uu, uu, uu, uu, uu, uu, uu] [(.int (0 : Int32)), (.ref b), (.ref b)])) _
    refine XS.lload Xa.here hx rfl (hb hby at_94) rfl ?_
    show Steps p.tables e below (Ta.setTop (mkF m 96 #[.val (.int p1), .val (.int p2), .val (.int p3), .val (.int p4), .val (.int p5), .val (.int (3 : Int32)), .val (.ref wSUM), .val (.int (1 : Int32)), .val (.long x0), .second, .val (.long (x0 + y1)), .second, .val (.long ((x0 + y1) + y2)), .second, uu, uu, uu, uu, uu, uu, uu, uu, uu] [(.long x0), (.int (0 : Int32)), (.ref b), (.ref b)])) _
    refine XS.l2dS Xa.here hx rfl (hb hby at_96) rfl (v := FP.l2d x0) rfl ?_
    show Steps p.tables e below (Ta.setTop (mkF m 97 #[.val (.int p1), .val (.int p2), .val (.int p3), .val (.int p4), .val (.int p5), .val (.int (3 : Int32)), .val (.ref wSUM), .val (.int (1 : Int32)), .val (.long x0), .second, .val (.long (x0 + y1)), .second, .val (.long ((x0 + y1) + y2)), .second, uu, uu, uu, uu, uu, uu, uu, uu, uu] [(.double (FP.l2d x0)), (.int (0 : Int32)), (.ref b), (.ref b)])) _
    refine std0 _ ?_
    show Steps p.tables e below (Td0.setTop (mkF m 98 #[.val (.int p1), .val (.int p2), .val (.int p3), .val (.int p4), .val (.int p5), .val (.int (3 : Int32)), .val (.ref wSUM), .val (.int (1 : Int32)), .val (.long x0), .second, .val (.long (x0 + y1)), .second, .val (.long ((x0 + y1) + y2)), .second, uu, uu, uu, uu, uu, uu, uu, uu, uu] [(.ref b)])) _
    refine XS.astore Xd0.here hx rfl (hb hby at_98) rfl rfl (l' := #[.val (.int p1), .val (.int p2), .val (.int p3), .val (.int p4), .val (.int p5), .val (.int (3 : Int32)), .val (.ref wSUM), .val (.int (1 : Int32)), .val (.long x0), .second, .val (.long (x0 + y1)), .second, .val (.long ((x0 + y1) + y2)), .second, .val (.ref b), uu, uu, uu, uu, uu, uu, uu, uu]) rfl ?_
    show Steps p.tables e below (Td0.setTop (mkF m 100 #[.val (.int p1), .val (.int p2), .val (.int p3), .val (.int p4), .val (.int p5), .val (.int (3 : Int32)), .val (.ref wSUM), .val (.int (1 : Int32)), .val (.long x0), .second, .val (.long (x0 + y1)), .second, .val (.long ((x0 + y1) + y2)), .second, .val (.ref b), uu, uu, uu, uu, uu, uu, uu, uu] [])) _
    refine XS.goto Xd0.here hx rfl (pc0 := 100) (pc' := 152) rfl (hb hby at_100) (by decide) (by decide) ?_
    show Steps p.tables e below (Td0.setTop (mkF m 152 #[.val (.int p1), .val (.int p2), .val (.int p3), .val (.int p4), .val (.int p5), .val (.int (3 : Int32)), .val (.ref wSUM), .val (.int (1 : Int32)), .val (.long x0), .second, .val (.long (x0 + y1)), .second, .val (.long ((x0 + y1) + y2)), .second, .val (.ref b), uu, uu, uu, uu, uu, uu, uu, uu] [])) _
    refine XS.iload Xd0.here hx rfl (hb hby at_152) rfl ?_
    show Steps p.tables e below (Td0.setTop (mkF m 154 #[.val (.int p1), .val (.int p2), .val (.int p3), .val (.int p4), .val (.int p5), .val (.int (3 : Int32)), .val (.ref wSUM), .val (.int (1 : Int32)), .val (.long x0), .second, .val (.long (x0 + y1)), .second, .val (.long ((x0 + y1) + y2)), .second, .val (.ref b), uu, uu, uu, uu, uu, uu, uu, uu] [(.int (1 : Int32))])) _
    refine XS.iconst Xd0.here hx rfl (hb hby at_154) ?_
    show Steps p.tables e below (Td0.setTop (mkF m 155 #[.val (.int p1), .val (.int p2), .val (.int p3), .val (.int p4), .val (.int p5), .val (.int (3 : Int32)), .val (.ref wSUM), .val (.int (1 : Int32)), .val (.long x0), .second, .val (.long (x0 + y1)), .second, .val (.long ((x0 + y1) + y2)), .second, .val (.ref b), uu, uu, uu, uu, uu, uu, uu, uu] [(.int (1 : Int32)), (.int (1 : Int32))])) _
    refine XS.icmpNo Xd0.here hx rfl (hb hby at_155) rfl (teq (by decide : (1 : Int32) = (1 : Int32))).2 ?_
    show Steps p.tables e below (Td0.setTop (mkF m 158 #[.val (.int p1), .val (.int p2), .val (.int p3), .val (.int p4), .val (.int p5), .val (.int (3 : Int32)), .val (.ref wSUM), .val (.int (1 : Int32)), .val (.long x0), .second, .val (.long (x0 + y1)), .second, .val (.long ((x0 + y1) + y2)), .second, .val (.ref b), uu, uu, uu, uu, uu, uu, uu, uu] [])) _
    refine XS.lload Xd0.here hx rfl (hb hby at_158) rfl ?_
    show Steps p.tables e below (Td0.setTop (mkF m 160 #[.val (.int p1), .val (.int p2), .val (.int p3), .val (.int p4), .val (.int p5), .val (.int (3 : Int32)), .val (.ref wSUM), .val (.int (1 : Int32)), .val (.long x0), .second, .val (.long (x0 + y1)), .second, .val (.long ((x0 + y1) + y2)), .second, .val (.ref b), uu, uu, uu, uu, uu, uu, uu, uu] [(.long x0)])) _
    refine XS.goto Xd0.here hx rfl (pc0 := 160) (pc' := 176) rfl (hb hby at_160) (by decide) (by decide) ?_
    show Steps p.tables e below (Td0.setTop (mkF m 176 #[.val (.int p1), .val (.int p2), .val (.int p3), .val (.int p4), .val (.int p5), .val (.int (3 : Int32)), .val (.ref wSUM), .val (.int (1 : Int32)), .val (.long x0), .second, .val (.long (x0 + y1)), .second, .val (.long ((x0 + y1) + y2)), .second, .val (.ref b), uu, uu, uu, uu, uu, uu, uu, uu] [(.long x0)])) _
    refine XS.lstore Xd0.here hx rfl (hb hby at_176) rfl (l' := #[.val (.int p1), .val (.int p2), .val (.int p3), .val (.int p4), .val (.int p5), .val (.int (3 : Int32)), .val (.ref wSUM), .val (.int (1 : Int32)), .val (.long x0), .second, .val (.long (x0 + y1)), .second, .val (.long ((x0 + y1) + y2)), .second, .val (.ref b), .val (.long x0), .second, uu, uu, uu, uu, uu, uu]) rfl ?_
    show Steps p.tables e below (Td0.setTop (mkF m 178 #[.val (.int p1), .val (.int p2), .val (.int p3), .val (.int p4), .val (.int p5), .val (.int (3 : Int32)), .val (.ref wSUM), .val (.int (1 : Int32)), .val (.long x0), .second, .val (.long (x0 + y1)), .second, .val (.long ((x0 + y1) + y2)), .second, .val (.ref b), .val (.long x0), .second, uu, uu, uu, uu, uu, uu] [])) _
    refine XS.iload Xd0.here hx rfl (hb hby at_178) rfl ?_
    show Steps p.tables e below (Td0.setTop (mkF m 180 #[.val (.int p1), .val (.int p2), .val (.int p3), .val (.int p4), .val (.int p5), .val (.int (3 : Int32)), .val (.ref wSUM), .val (.int (1 : Int32)), .val (.long x0), .second, .val (.long (x0 + y1)), .second, .val (.long ((x0 + y1) + y2)), .second, .val (.ref b), .val (.long x0), .second, uu, uu, uu, uu, uu, uu] [(.int (1 : Int32))])) _
    refine XS.iconst Xd0.here hx rfl (hb hby at_180) ?_
    show Steps p.tables e below (Td0.setTop (mkF m 181 #[.val (.int p1), .val (.int p2), .val (.int p3), .val (.int p4), .val (.int p5), .val (.int (3 : Int32)), .val (.ref wSUM), .val (.int (1 : Int32)), .val (.long x0), .second, .val (.long (x0 + y1)), .second, .val (.long ((x0 + y1) + y2)), .second, .val (.ref b), .val (.long x0), .second, uu, uu, uu, uu, uu, uu] [(.int (1 : Int32)), (.int (1 : Int32))])) _
    refine XS.icmpNo Xd0.here hx rfl (hb hby at_181) rfl (teq (by decide : (1 : Int32) = (1 : Int32))).2 ?_
    show Steps p.tables e below (Td0.setTop (mkF m 184 #[.val (.int p1), .val (.int p2), .val (.int p3), .val (.int p4), .val (.int p5), .val (.int (3 : Int32)), .val (.ref wSUM), .val (.int (1 : Int32)), .val (.long x0), .second, .val (.long (x0 + y1)), .second, .val (.long ((x0 + y1) + y2)), .second, .val (.ref b), .val (.long x0), .second, uu, uu, uu, uu, uu, uu] [])) _
    refine XS.lload Xd0.here hx rfl (hb hby at_184) rfl ?_
    show Steps p.tables e below (Td0.setTop (mkF m 186 #[.val (.int p1), .val (.int p2), .val (.int p3), .val (.int p4), .val (.int p5), .val (.int (3 : Int32)), .val (.ref wSUM), .val (.int (1 : Int32)), .val (.long x0), .second, .val (.long (x0 + y1)), .second, .val (.long ((x0 + y1) + y2)), .second, .val (.ref b), .val (.long x0), .second, uu, uu, uu, uu, uu, uu] [(.long x0)])) _
    refine XS.goto Xd0.here hx rfl (pc0 := 186) (pc' := 211) rfl (hb hby at_186) (by decide) (by decide) ?_
    show Steps p.tables e below (Td0.setTop (mkF m 211 #[.val (.int p1), .val (.int p2), .val (.int p3), .val (.int p4), .val (.int p5), .val (.int (3 : Int32)), .val (.ref wSUM), .val (.int (1 : Int32)), .val (.long x0), .second, .val (.long (x0 + y1)), .second, .val (.long ((x0 + y1) + y2)), .second, .val (.ref b), .val (.long x0), .second, uu, uu, uu, uu, uu, uu] [(.long x0)])) _
    refine XS.lstore Xd0.here hx rfl (hb hby at_211) rfl (l' := #[.val (.int p1), .val (.int p2), .val (.int p3), .val (.int p4), .val (.int p5), .val (.int (3 : Int32)), .val (.ref wSUM), .val (.int (1 : Int32)), .val (.long x0), .second, .val (.long (x0 + y1)), .second, .val (.long ((x0 + y1) + y2)), .second, .val (.ref b), .val (.long x0), .second, .val (.long x0), .second, uu, uu, uu, uu]) rfl ?_
    show Steps p.tables e below (Td0.setTop (mkF m 213 #[.val (.int p1), .val (.int p2), .val (.int p3), .val (.int p4), .val (.int p5), .val (.int (3 : Int32)), .val (.ref wSUM), .val (.int (1 : Int32)), .val (.long x0), .second, .val (.long (x0 + y1)), .second, .val (.long ((x0 + y1) + y2)), .second, .val (.ref b), .val (.long x0), .second, .val (.long x0), .second, uu, uu, uu, uu] [])) _
    refine XS.iload Xd0.here hx rfl (hb hby at_213) rfl ?_
    show Steps p.tables e below (Td0.setTop (mkF m 215 #[.val (.int p1), .val (.int p2), .val (.int p3), .val (.int p4), .val (.int p5), .val (.int (3 : Int32)), .val (.ref wSUM), .val (.int (1 : Int32)), .val (.long x0), .second, .val (.long (x0 + y1)), .second, .val (.long ((x0 + y1) + y2)), .second, .val (.ref b), .val (.long x0), .second, .val (.long x0), .second, uu, uu, uu, uu] [(.int (3 : Int32))])) _
    refine XS.ifYes Xd0.here hx rfl (pc0 := 215) (pc' := 226) rfl (hb hby at_215) rfl ((if0 _ _).trans (feq (by decide : ¬ ((3 : Int32) = (0 : Int32)))).2) (by decide) (by decide) ?_
    show Steps p.tables e below (Td0.setTop (mkF m 226 #[.val (.int p1), .val (.int p2), .val (.int p3), .val (.int p4), .val (.int p5), .val (.int (3 : Int32)), .val (.ref wSUM), .val (.int (1 : Int32)), .val (.long x0), .second, .val (.long (x0 + y1)), .second, .val (.long ((x0 + y1) + y2)), .second, .val (.ref b), .val (.long x0), .second, .val (.long x0), .second, uu, uu, uu, uu] [])) _
    refine XS.iload Xd0.here hx rfl (hb hby at_226) rfl ?_
    show Steps p.tables e below (Td0.setTop (mkF m 228 #[.val (.int p1), .val (.int p2), .val (.int p3), .val (.int p4), .val (.int p5), .val (.int (3 : Int32)), .val (.ref wSUM), .val (.int (1 : Int32)), .val (.long x0), .second, .val (.long (x0 + y1)), .second, .val (.long ((x0 + y1) + y2)), .second, .val (.ref b), .val (.long x0), .second, .val (.long x0), .second, uu, uu, uu, uu] [(.int (3 : Int32))])) _
    refine XS.iconst Xd0.here hx rfl (hb hby at_228) ?_
    show Steps p.tables e below (Td0.setTop (mkF m 229 #[.val (.int p1), .val (.int p2), .val (.int p3), .val (.int p4), .val (.int p5), .val (.int (3 : Int32)), .val (.ref wSUM), .val (.int (1 : Int32)), .val (.long x0), .second, .val (.long (x0 + y1)), .second, .val (.long ((x0 + y1) + y2)), .second, .val (.ref b), .val (.long x0), .second, .val (.long x0), .second, uu, uu, uu, uu] [(.int (1 : Int32)), (.int (3 : Int32))])) _
    refine XS.icmpYes Xd0.here hx rfl (pc0 := 229) (pc' := 240) rfl (hb hby at_229) rfl (feq (by decide : ¬ ((3 : Int32) = (1 : Int32)))).2 (by decide) (by decide) ?_
    show Steps p.tables e below (Td0.setTop (mkF m 240 #[.val (.int p1), .val (.int p2), .val (.int p3), .val (.int p4), .val (.int p5), .val (.int (3 : Int32)), .val (.ref wSUM), .val (.int (1 : Int32)), .val (.long x0), .second, .val (.long (x0 + y1)), .second, .val (.long ((x0 + y1) + y2)), .second, .val (.ref b), .val (.long x0), .second, .val (.long x0), .second, uu, uu, uu, uu] [])) _
    refine XS.iload Xd0.here hx rfl (hb hby at_240) rfl ?_
    show Steps p.tables e below (Td0.setTop (mkF m 242 #[.val (.int p1), .val (.int p2), .val (.int p3), .val (.int p4), .val (.int p5), .val (.int (3 : Int32)), .val (.ref wSUM), .val (.int (1 : Int32)), .val (.long x0), .second, .val (.long (x0 + y1)), .second, .val (.long ((x0 + y1) + y2)), .second, .val (.ref b), .val (.long x0), .second, .val (.long x0), .second, uu, uu, uu, uu] [(.int (3 : Int32))])) _
    refine XS.iconst Xd0.here hx rfl (hb hby at_242) ?_
    show Steps p.tables e below (Td0.setTop (mkF m 243 #[.val (.int p1), .val (.int p2), .val (.int p3), .val (.int p4), .val (.int p5), .val (.int (3 : Int32)), .val (.ref wSUM), .val (.int (1 : Int32)), .val (.long x0), .second, .val (.long (x0 + y1)), .second, .val (.long ((x0 + y1) + y2)), .second, .val (.ref b), .val (.long x0), .second, .val (.long x0), .second, uu, uu, uu, uu] [(.int (2 : Int32)), (.int (3 : Int32))])) _
    refine XS.icmpYes Xd0.here hx rfl (pc0 := 243) (pc' := 258) rfl (hb hby at_243) rfl (feq (by decide : ¬ ((3 : Int32) = (2 : Int32)))).2 (by decide) (by decide) ?_
    show Steps p.tables e below (Td0.setTop (mkF m 258 #[.val (.int p1), .val (.int p2), .val (.int p3), .val (.int p4), .val (.int p5), .val (.int (3 : Int32)), .val (.ref wSUM), .val (.int (1 : Int32)), .val (.long x0), .second, .val (.long (x0 + y1)), .second, .val (.long ((x0 + y1) + y2)), .second, .val (.ref b), .val (.long x0), .second, .val (.long x0), .second, uu, uu, uu, uu] [])) _
    refine XS.lload Xd0.here hx rfl (hb hby at_258) rfl ?_
    show Steps p.tables e below (Td0.setTop (mkF m 260 #[.val (.int p1), .val (.int p2), .val (.int p3), .val (.int p4), .val (.int p5), .val (.int (3 : Int32)), .val (.ref wSUM), .val (.int (1 : Int32)), .val (.long x0), .second, .val (.long (x0 + y1)), .second, .val (.long ((x0 + y1) + y2)), .second, .val (.ref b), .val (.long x0), .second, .val (.long x0), .second, uu, uu, uu, uu] [(.long x0)])) _
    refine XS.l2dS Xd0.here hx rfl (hb hby at_260) rfl (v := FP.l2d x0) rfl ?_
    show Steps p.tables e below (Td0.setTop (mkF m 261 #[.val (.int p1), .val (.int p2), .val (.int p3), .val (.int p4), .val (.int p5), .val (.int (3 : Int32)), .val (.ref wSUM), .val (.int (1 : Int32)), .val (.long x0), .second, .val (.long (x0 + y1)), .second, .val (.long ((x0 + y1) + y2)), .second, .val (.ref b), .val (.long x0), .second, .val (.long x0), .second, uu, uu, uu, uu] [(.double (FP.l2d x0))])) _
    refine XS.dstore Xd0.here hx rfl (hb hby at_261) rfl (l' := #[.val (.int p1), .val (.int p2), .val (.int p3), .val (.int p4), .val (.int p5), .val (.int (3 : Int32)), .val (.ref wSUM), .val (.int (1 : Int32)), .val (.long x0), .second, .val (.long (x0 + y1)), .second, .val (.long ((x0 + y1) + y2)), .second, .val (.ref b), .val (.long x0), .second, .val (.long x0), .second, .val (.double (FP.l2d x0)), .second, uu, uu]) rfl ?_
    show Steps p.tables e below (Td0.setTop (mkF m 263 #[.val (.int p1), .val (.int p2), .val (.int p3), .val (.int p4), .val (.int p5), .val (.int (3 : Int32)), .val (.ref wSUM), .val (.int (1 : Int32)), .val (.long x0), .second, .val (.long (x0 + y1)), .second, .val (.long ((x0 + y1) + y2)), .second, .val (.ref b), .val (.long x0), .second, .val (.long x0), .second, .val (.double (FP.l2d x0)), .second, uu, uu] [])) _
    refine XS.aload Xd0.here hx rfl (hb hby at_263) rfl rfl ?_
    show Steps p.tables e below (Td0.setTop (mkF m 265 #[.val (.int p1), .val (.int p2), .val (.int p3), .val (.int p4), .val (.int p5), .val (.int (3 : Int32)), .val (.ref wSUM), .val (.int (1 : Int32)), .val (.long x0), .second, .val (.long (x0 + y1)), .second, .val (.long ((x0 + y1) + y2)), .second, .val (.ref b), .val (.long x0), .second, .val (.long x0), .second, .val (.double (FP.l2d x0)), .second, uu, uu] [(.ref wSUM)])) _
    refine XS.aload Xd0.here hx rfl (hb hby at_265) rfl rfl ?_
    show Steps p.tables e below (Td0.setTop (mkF m 267 #[.val (.int p1), .val (.int p2), .val (.int p3), .val (.int p4), .val (.int p5), .val (.int (3 : Int32)), .val (.ref wSUM), .val (.int (1 : Int32)), .val (.long x0), .second, .val (.long (x0 + y1)), .second, .val (.long ((x0 + y1) + y2)), .second, .val (.ref b), .val (.long x0), .second, .val (.long x0), .second, .val (.double (FP.l2d x0)), .second, uu, uu] [(.ref b), (.ref wSUM)])) _
    refine stc.trans ?_
    show Steps p.tables e below (Tc.setTop (mkF m 270 #[.val (.int p1), .val (.int p2), .val (.int p3), .val (.int p4), .val (.int p5), .val (.int (3 : Int32)), .val (.ref wSUM), .val (.int (1 : Int32)), .val (.long x0), .second, .val (.long (x0 + y1)), .second, .val (.long ((x0 + y1) + y2)), .second, .val (.ref b), .val (.long x0), .second, .val (.long x0), .second, .val (.double (FP.l2d x0)), .second, uu, uu] [(.double (FP.l2d x0))])) _
    refine XS.dstore Xc.here hx rfl (hb hby at_270) rfl (l' := #[.val (.int p1), .val (.int p2), .val (.int p3), .val (.int p4), .val (.int p5), .val (.int (3 : Int32)), .val (.ref wSUM), .val (.int (1 : Int32)), .val (.long x0), .second, .val (.long (x0 + y1)), .second, .val (.long ((x0 + y1) + y2)), .second, .val (.ref b), .val (.long x0), .second, .val (.long x0), .second, .val (.double (FP.l2d x0)), .second, .val (.double (FP.l2d x0)), .second]) rfl ?_
    show Steps p.tables e below (Tc.setTop (mkF m 272 #[.val (.int p1), .val (.int p2), .val (.int p3), .val (.int p4), .val (.int p5), .val (.int (3 : Int32)), .val (.ref wSUM), .val (.int (1 : Int32)), .val (.long x0), .second, .val (.long (x0 + y1)), .second, .val (.long ((x0 + y1) + y2)), .second, .val (.ref b), .val (.long x0), .second, .val (.long x0), .second, .val (.double (FP.l2d x0)), .second, .val (.double (FP.l2d x0)), .second] [])) _
    refine XS.dload Xc.here hx rfl (hb hby at_272) rfl ?_
    show Steps p.tables e below (Tc.setTop (mkF m 274 #[.val (.int p1), .val (.int p2), .val (.int p3), .val (.int p4), .val (.int p5), .val (.int (3 : Int32)), .val (.ref wSUM), .val (.int (1 : Int32)), .val (.long x0), .second, .val (.long (x0 + y1)), .second, .val (.long ((x0 + y1) + y2)), .second, .val (.ref b), .val (.long x0), .second, .val (.long x0), .second, .val (.double (FP.l2d x0)), .second, .val (.double (FP.l2d x0)), .second] [(.double (FP.l2d x0))])) _
    refine XS.dload Xc.here hx rfl (hb hby at_274) rfl ?_
    show Steps p.tables e below (Tc.setTop (mkF m 276 #[.val (.int p1), .val (.int p2), .val (.int p3), .val (.int p4), .val (.int p5), .val (.int (3 : Int32)), .val (.ref wSUM), .val (.int (1 : Int32)), .val (.long x0), .second, .val (.long (x0 + y1)), .second, .val (.long ((x0 + y1) + y2)), .second, .val (.ref b), .val (.long x0), .second, .val (.long x0), .second, .val (.double (FP.l2d x0)), .second, .val (.double (FP.l2d x0)), .second] [(.double (FP.l2d x0)), (.double (FP.l2d x0))])) _
    refine XS.dcmpS Xc.here hx rfl (hb hby at_276) rfl (v := (0 : Int32)) (dcmpV_self (own_l2d _) _) ?_
    show Steps p.tables e below (Tc.setTop (mkF m 277 #[.val (.int p1), .val (.int p2), .val (.int p3), .val (.int p4), .val (.int p5), .val (.int (3 : Int32)), .val (.ref wSUM), .val (.int (1 : Int32)), .val (.long x0), .second, .val (.long (x0 + y1)), .second, .val (.long ((x0 + y1) + y2)), .second, .val (.ref b), .val (.long x0), .second, .val (.long x0), .second, .val (.double (FP.l2d x0)), .second, .val (.double (FP.l2d x0)), .second] [(.int (0 : Int32))])) _
    refine XS.ifNo Xc.here hx rfl (hb hby at_277) rfl ((if0 _ _).trans (teq (by decide : (0 : Int32) = (0 : Int32))).2) ?_
    show Steps p.tables e below (Tc.setTop (mkF m 280 #[.val (.int p1), .val (.int p2), .val (.int p3), .val (.int p4), .val (.int p5), .val (.int (3 : Int32)), .val (.ref wSUM), .val (.int (1 : Int32)), .val (.long x0), .second, .val (.long (x0 + y1)), .second, .val (.long ((x0 + y1) + y2)), .second, .val (.ref b), .val (.long x0), .second, .val (.long x0), .second, .val (.double (FP.l2d x0)), .second, .val (.double (FP.l2d x0)), .second] [])) _
    refine XS.iconst Xc.here hx rfl (hb hby at_280) ?_
    show Steps p.tables e below (Tc.setTop (mkF m 281 #[.val (.int p1), .val (.int p2), .val (.int p3), .val (.int p4), .val (.int p5), .val (.int (3 : Int32)), .val (.ref wSUM), .val (.int (1 : Int32)), .val (.long x0), .second, .val (.long (x0 + y1)), .second, .val (.long ((x0 + y1) + y2)), .second, .val (.ref b), .val (.long x0), .second, .val (.long x0), .second, .val (.double (FP.l2d x0)), .second, .val (.double (FP.l2d x0)), .second] [(.int (1 : Int32))])) _
    refine XS.goto Xc.here hx rfl (pc0 := 281) (pc' := 285) rfl (hb hby at_281) (by decide) (by decide) ?_
    show Steps p.tables e below (Tc.setTop (mkF m 285 #[.val (.int p1), .val (.int p2), .val (.int p3), .val (.int p4), .val (.int p5), .val (.int (3 : Int32)), .val (.ref wSUM), .val (.int (1 : Int32)), .val (.long x0), .second, .val (.long (x0 + y1)), .second, .val (.long ((x0 + y1) + y2)), .second, .val (.ref b), .val (.long x0), .second, .val (.long x0), .second, .val (.double (FP.l2d x0)), .second, .val (.double (FP.l2d x0)), .second] [(.int (1 : Int32))])) _
    exact retN Xc hx (t := .boolean) Bd.returns (by simp) (hb hby at_285) hr
  · show Q0 h0 n0 _ Tc.heap _
    exact ⟨rfl, Nc⟩
set_option maxRecDepth 65536 in
set_option maxHeartbeats 40000000 in
theorem rm0_3_2 (l : Launch) (Z : State) (a0 : Array Value) (hw : ∀ d ∈ tables_1, d.before a0 Z = true) (ws : List Jvm.Cond) (p1 p2 p3 p4 p5 : Int32) (wMIN wMAX wAVG wSUM : Addr) (x0 y1 y2 : Int64) (h0 : Heap) (n0 : Nat) (Z0 : n0 ≤ h0.size) (S_MIN : Sta Z h0 "com/example/tiebreaker/tiebreaker/engine/search/DecayFunction$MultiValueMode" "MIN" "Lcom/example/tiebreaker/tiebreaker/engine/search/DecayFunction$MultiValueMode;" (.ref wMIN)) (S_MAX : Sta Z h0 "com/example/tiebreaker/tiebreaker/engine/search/DecayFunction$MultiValueMode" "MAX" "Lcom/example/tiebreaker/tiebreaker/engine/search/DecayFunction$MultiValueMode;" (.ref wMAX)) (S_AVG : Sta Z h0 "com/example/tiebreaker/tiebreaker/engine/search/DecayFunction$MultiValueMode" "AVG" "Lcom/example/tiebreaker/tiebreaker/engine/search/DecayFunction$MultiValueMode;" (.ref wAVG)) (S_SUM : Sta Z h0 "com/example/tiebreaker/tiebreaker/engine/search/DecayFunction$MultiValueMode" "SUM" "Lcom/example/tiebreaker/tiebreaker/engine/search/DecayFunction$MultiValueMode;" (.ref wSUM)) (nXI : ¬ wMAX = wMIN) (nAI : ¬ wAVG = wMIN) (nAX : ¬ wAVG = wMAX) (nSI : ¬ wSUM = wMIN) (nSX : ¬ wSUM = wMAX) (nAS : ¬ wAVG = wSUM) (E_m : Exa Z h0 wSUM "com/example/tiebreaker/tiebreaker/engine/search/DecayFunction$MultiValueMode") (hx0 : x0 = (p3 &&& (1048575 : Int32)).toInt64) (hy1 : y1 = (p4 &&& (1048575 : Int32)).toInt64) (hy2 : y2 = (p5 &&& (1048575 : Int32)).toInt64) (b0 : 0 ≤ x0.toInt ∧ x0.toInt < 4000000) (b1 : 0 ≤ (x0 + y1).toInt ∧ (x0 + y1).toInt < 4000000) (b2 : 0 ≤ ((x0 + y1) + y2).toInt ∧ ((x0 + y1) + y2).toInt < 4000000) (hm : (p1 &&& (3 : Int32)) = (3 : Int32)) (hn : (((p2 &&& (2147483647 : Int32)) % (3 : Int32)) + (1 : Int32)) = (2 : Int32)) :
    MetFree l x (head1 (Jvm.Cond.code x code maxLocals ret :: ws) room_1) (fun a U => a = #[(.int p1), (.int p2), (.int p3), (.int p4), (.int p5)] ∧ Z.Warmed39 U.vm ∧ U.heap = h0) (fun _ _ _ _ _ => True) (fun _ U o U' => ∃ v L, o = .returned v ∧ Q0 h0 n0 v U'.heap L ∧ FrameEnd U o U' L room_1.cells room_1.slots) := by
  refine MetFree.of_bodySF (plainFor_of_name pn_0) hisR ?_
  intro p e s m args below meth c s₁ Bd hml0 hP hK
  obtain ⟨rfl, hZ, hh⟩ := hP
  have hx := Bd.exec
  have hby := Bd.bytes
  have hml : c.maxLocals = 23 := hml0
  have hown : s.vm.findClass "com/example/tiebreaker/tiebreaker/engine/search/MultiValueModePickPinLaw" = some m.cls := findClass_of_methodNamed Bd.named
  have X0 : Stand p l e room_1 s m #[(.int p1), (.int p2), (.int p3), (.int p4), (.int p5)] below meth c s₁ [] 0 0 := Stand.of_body Bd
  have e0 : s₁.heap = h0 := by rw [← hh, Bd.state]; rfl
  have N0 := Fr.nil n0
  have pre0 : ∀ t, Steps p.tables e below (s₁.setTop (mkF m 0 #[.val (.int p1), .val (.int p2), .val (.int p3), .val (.int p4), .val (.int p5), uu, uu, uu, uu, uu, uu, uu, uu, uu, uu, uu, uu, uu, uu, uu, uu, uu, uu] [])) t → Steps p.tables e below (s₁.setTop (entryFrame m #[(.int p1), (.int p2), (.int p3), (.int p4), (.int p5)] maxLocals)) t := fun t k => castTop (ef_0 m p1 p2 p3 p4 p5) k
  obtain ⟨T50, X50, e50, st50⟩ := getS2 X0 hx hZ hown (host := "") (Or.inl (hw _ (List.mem_of_getElem? (i := 12) rfl))) Via.refl e0 S_SUM (g := (mkF m 40 #[.val (.int p1), .val (.int p2), .val (.int p3), .val (.int p4), .val (.int p5), .val (.int (3 : Int32)), uu, uu, uu, uu, uu, uu, uu, uu, uu, uu, uu, uu, uu, uu, uu, uu, uu] [])) rfl (hb hby at_40)
  obtain ⟨Ta, ha, ka, Xa, ea, Ea, Aa, sta_⟩ := newP X50 hx hZ (hw _ (List.mem_of_getElem? (i := 5) rfl)) e50 (g := (mkF m 110 #[.val (.int p1), .val (.int p2), .val (.int p3), .val (.int p4), .val (.int p5), .val (.int (3 : Int32)), .val (.ref wSUM), .val (.int (2 : Int32)), .val (.long x0), .second, .val (.long (x0 + y1)), .second, .val (.long ((x0 + y1) + y2)), .second, uu, uu, uu, uu, uu, uu, uu, uu, uu] [(.int (2 : Int32))])) rfl (hb hby at_110) rfl (by decide) (cap := 2) (by decide) (by decide) (by decide) (by decide)
  obtain ⟨b, gb⟩ : ∃ z, z = h0.size := ⟨_, rfl⟩
  rw [← gb] at Aa sta_
  have V0 : Arv Z ha b ka .double (2 : Int32) [] (.double (FP.l2d 0)) := Arv.newD Aa (by decide)
  have Vp : Arv Z ha b ka .double (2 : Int32) (List.replicate 2 (.double (FP.l2d 0))) (.double (FP.l2d 0)) := V0.pad (pad_rep [] (.double (FP.l2d 0)) 2)
  have g_b : n0 ≤ b := Nat.le_trans Z0 (Nat.le_of_eq gb.symm)
  have sz_b : h0.size ≤ b := Nat.le_of_eq gb.symm
  have Ka : Keep h0 ha [] := (Keep.refl h0 []).ext Ea
  obtain ⟨cl0, Ar0, q0, Sz0, M0, H0, U0⟩ := Vp
  obtain ⟨Td0, hd0, Xd0, ed0, Wd0, std0⟩ := stD Xa hx hZ ea Ar0 (j := (0 : Int32)) (inb_of Sz0 (by decide)) (g := (mkF m 117 #[.val (.int p1), .val (.int p2), .val (.int p3), .val (.int p4), .val (.int p5), .val (.int (3 : Int32)), .val (.ref wSUM), .val (.int (2 : Int32)), .val (.long x0), .second, .val (.long (x0 + y1)), .second, .val (.long ((x0 + y1) + y2)), .second, uu, uu, uu, uu, uu, uu, uu, uu, uu] [(.double (FP.l2d x0)), (.int (0 : Int32)), (.ref b), (.ref b)])) rfl rfl (hb hby at_117)
  have V1 := Arv.set Ar0 q0 Sz0 M0 H0 U0 (v := (.double (FP.l2d x0))) rfl Wd0 0 rfl (by simp)
  have Nd0 := Fr.snoc Xd0 N0 g_b
  have Kd0 : Keep h0 hd0 [] := Ka.wr Wd0 (Or.inr sz_b)
  obtain ⟨cl1, Ar1, q1, Sz1, M1, H1, U1⟩ := V1
  obtain ⟨Td1, hd1, Xd1, ed1, Wd1, std1⟩ := stD Xd0 hx hZ ed0 Ar1 (j := (1 : Int32)) (inb_of Sz1 (by decide)) (g := (mkF m 123 #[.val (.int p1), .val (.int p2), .val (.int p3), .val (.int p4), .val (.int p5), .val (.int (3 : Int32)), .val (.ref wSUM), .val (.int (2 : Int32)), .val (.long x0), .second, .val (.long (x0 + y1)), .second, .val (.long ((x0 + y1) + y2)), .second, uu, uu, uu, uu, uu, uu, uu, uu, uu] [(.double (FP.l2d (x0 + y1))), (.int (1 : Int32)), (.ref b), (.ref b)])) rfl rfl (hb hby at_123)
  have V2 := Arv.set Ar1 q1 Sz1 M1 H1 U1 (v := (.double (FP.l2d (x0 + y1)))) rfl Wd1 1 rfl (by simp)
  have Nd1 := Fr.snoc Xd1 Nd0 g_b
  have Kd1 : Keep h0 hd1 [] := Kd0.wr Wd1 (Or.inr sz_b)
  have KK : Keep h0 hd1 [] := Kd1
  obtain ⟨cl, Ar, -, Sz, Nn, Hh, -⟩ := V2
  have hat0 : cl.slots[0]? = some (.double (FP.l2d x0)) := Hh 0 (by rw [Sz]; decide)
  have hat1 : cl.slots[1]? = some (.double (FP.l2d (x0 + y1))) := Hh 1 (by rw [Sz]; decide)
  obtain ⟨cq, kq, qa, qb, qc⟩ := isOf hZ ed1 (E_m.keep KK)
  obtain ⟨_, _, ⟨Tc, Lc, kc, nc⟩, -, Xc, ⟨Lcc, hQc, lc, yc, zc⟩, stc⟩ := Xd1.virtualBack hx (y := (⟨"com/example/tiebreaker/tiebreaker/engine/search/DecayFunction$MultiValueMode", "pick", "([D)D"⟩ : MethodName)) (z := (⟨"com/example/tiebreaker/tiebreaker/engine/search/DecayFunction$MultiValueMode", "pick", "([D)D"⟩ : MethodName)) hown (mvT hZ (hw _ (List.mem_of_getElem? (i := 6) rfl))) (mvT hZ (hw _ (List.mem_of_getElem? (i := 7) rfl))) (notFace_of_selects (args := #[]) (mvT hZ (hw _ (List.mem_of_getElem? (i := 9) rfl)))) (mvT hZ (hw _ (List.mem_of_getElem? (i := 9) rfl))) (mvT hZ (hw _ (List.mem_of_getElem? (i := 8) rfl))) (by decide) (backOf (W := 0) (rm1_SUM_2 l Z a0 hw [] b wMIN wMAX wAVG wSUM x0 (x0 + y1) hd1 n0 (Nat.le_trans Z0 KK.1) (own_sta S_MIN KK) (own_sta S_MAX KK) (own_sta S_AVG KK) (own_sta S_SUM KK) nXI nAI nAX nSI nSX nAS cl Ar Sz Nn hat0 hat1 b0 b1) hZ (hw _ (List.mem_of_getElem? (i := 10) rfl)) (hw _ (List.mem_of_getElem? (i := 1) rfl)) (by decide) (by decide)) qa qc (g := (mkF m 267 #[.val (.int p1), .val (.int p2), .val (.int p3), .val (.int p4), .val (.int p5), .val (.int (3 : Int32)), .val (.ref wSUM), .val (.int (2 : Int32)), .val (.long x0), .second, .val (.long (x0 + y1)), .second, .val (.long ((x0 + y1) + y2)), .second, .val (.ref b), .val (.long (x0 + y1)), .second, .val (.long (x0 + (x0 + y1))), .second, .val (.double (FP.l2d (x0 + (x0 + y1)))), .second, uu, uu] [(.ref b), (.ref wSUM)])) rfl (by rw [hml]; rfl) (Steps.refl _) (argsL := [(.ref b)]) (rest := []) (lenOf pd_0 rfl) rfl (by show 2 * 0 + _ ≤ _; exact Nat.le_of_eq rfl) (hb hby at_267) (fun _ _ => ⟨rfl, ed1, (by decide : 0 + 1 + 0 ≤ _), (by decide : 0 + 2 + 0 ≤ _)⟩)
  dsimp only [Pt.U, Pt.locs, Pt.cells, Pt.slots] at Xc lc yc zc stc hQc
  subst lc yc zc
  obtain ⟨rfl, Ncq, ec⟩ := hQc
  have Nc := Fr.app Nd1 Ncq
  obtain ⟨fs, hr, hrun, hended, hW, hsame⟩ := Xc.leave (v := some (.int (1 : Int32))) (fun h => by rw [Bd.returns] at h; cases h)
  refine ⟨_, _, pre0 _ ?_, hrun, hended, _, _, rfl, ?_, ⟨_, rfl⟩, hW, hsame.mono (by decide) (by decide)⟩
  · show Steps p.tables e below (s₁.setTop (mkF m 0 #[.val (.int p1), .val (.int p2), .val (.int p3), .val (.int p4), .val (.int p5), uu, uu, uu, uu, uu, uu, uu, uu, uu, uu, uu, uu, uu, uu, uu, uu, uu, uu] [])) _
    refine XS.iloadN X0.here hx rfl (hb hby at_0) rfl ?_
    show Steps p.tables e below (s₁.setTop (mkF m 1 #[.val (.int p1), .val (.int p2), .val (.int p3), .val (.int p4), .val (.int p5), uu, uu, uu, uu, uu, uu, uu, uu, uu, uu, uu, uu, uu, uu, uu, uu, uu, uu] [(.int p1)])) _
    refine XS.iconst X0.here hx rfl (hb hby at_1) ?_
    show Steps p.tables e below (s₁.setTop (mkF m 2 #[.val (.int p1), .val (.int p2), .val (.int p3), .val (.int p4), .val (.int p5), uu, uu, uu, uu, uu, uu, uu, uu, uu, uu, uu, uu, uu, uu, uu, uu, uu, uu] [(.int (3 : Int32)), (.int p1)])) _
    refine XS.iand X0.here hx rfl (hb hby at_2) rfl ?_
    show Steps p.tables e below (s₁.setTop (mkF m 3 #[.val (.int p1), .val (.int p2), .val (.int p3), .val (.int p4), .val (.int p5), uu, uu, uu, uu, uu, uu, uu, uu, uu, uu, uu, uu, uu, uu, uu, uu, uu, uu] [(.int (p1 &&& (3 : Int32)))])) _
    rw [hm]
    show Steps p.tables e below (s₁.setTop (mkF m 3 #[.val (.int p1), .val (.int p2), .val (.int p3), .val (.int p4), .val (.int p5), uu, uu, uu, uu, uu, uu, uu, uu, uu, uu, uu, uu, uu, uu, uu, uu, uu, uu] [(.int (3 : Int32))])) _
    refine XS.istore X0.here hx rfl (hb hby at_3) rfl (l' := #[.val (.int p1), .val (.int p2), .val (.int p3), .val (.int p4), .val (.int p5), .val (.int (3 : Int32)), uu, uu, uu, uu, uu, uu, uu, uu, uu, uu, uu, uu, uu, uu, uu, uu, uu]) rfl ?_
    show Steps p.tables e below (s₁.setTop (mkF m 5 #[.val (.int p1), .val (.int p2), .val (.int p3), .val (.int p4), .val (.int p5), .val (.int (3 : Int32)), uu, uu, uu, uu, uu, uu, uu, uu, uu, uu, uu, uu, uu, uu, uu, uu, uu] [])) _
    refine XS.iload X0.here hx rfl (hb hby at_5) rfl ?_
    show Steps p.tables e below (s₁.setTop (mkF m 7 #[.val (.int p1), .val (.int p2), .val (.int p3), .val (.int p4), .val (.int p5), .val (.int (3 : Int32)), uu, uu, uu, uu, uu, uu, uu, uu, uu, uu, uu, uu, uu, uu, uu, uu, uu] [(.int (3 : Int32))])) _
    refine XS.ifYes X0.here hx rfl (pc0 := 7) (pc' := 16) rfl (hb hby at_7) rfl ((if0 _ _).trans (feq (by decide : ¬ ((3 : Int32) = (0 : Int32)))).2) (by decide) (by decide) ?_
    show Steps p.tables e below (s₁.setTop (mkF m 16 #[.val (.int p1), .val (.int p2), .val (.int p3), .val (.int p4), .val (.int p5), .val (.int (3 : Int32)), uu, uu, uu, uu, uu, uu, uu, uu, uu, uu, uu, uu, uu, uu, uu, uu, uu] [])) _
    refine XS.iload X0.here hx rfl (hb hby at_16) rfl ?_
    show Steps p.tables e below (s₁.setTop (mkF m 18 #[.val (.int p1), .val (.int p2), .val (.int p3), .val (.int p4), .val (.int p5), .val (.int (3 : Int32)), uu, uu, uu, uu, uu, uu, uu, uu, uu, uu, uu, uu, uu, uu, uu, uu, uu] [(.int (3 : Int32))])) _
    refine XS.iconst X0.here hx rfl (hb hby at_18) ?_
    show Steps p.tables e below (s₁.setTop (mkF m 19 #[.val (.int p1), .val (.int p2), .val (.int p3), .val (.int p4), .val (.int p5), .val (.int (3 : Int32)), uu, uu, uu, uu, uu, uu, uu, uu, uu, uu, uu, uu, uu, uu, uu, uu, uu] [(.int (1 : Int32)), (.int (3 : Int32))])) _
    refine XS.icmpYes X0.here hx rfl (pc0 := 19) (pc' := 28) rfl (hb hby at_19) rfl (feq (by decide : ¬ ((3 : Int32) = (1 : Int32)))).2 (by decide) (by decide) ?_
    show Steps p.tables e below (s₁.setTop (mkF m 28 #[.val (.int p1), .val (.int p2), .val (.int p3), .val (.int p4), .val (.int p5), .val (.int (3 : Int32)), uu, uu, uu, uu, uu, uu, uu, uu, uu, uu, uu, uu, uu, uu, uu, uu, uu] [])) _
    refine XS.iload X0.here hx rfl (hb hby at_28) rfl ?_
    show Steps p.tables e below (s₁.setTop (mkF m 30 #[.val (.int p1), .val (.int p2), .val (.int p3), .val (.int p4), .val (.int p5), .val (.int (3 : Int32)), uu, uu, uu, uu, uu, uu, uu, uu, uu, uu, uu, uu, uu, uu, uu, uu, uu] [(.int (3 : Int32))])) _
    refine XS.iconst X0.here hx rfl (hb hby at_30) ?_
    show Steps p.tables e below (s₁.setTop (mkF m 31 #[.val (.int p1), .val (.int p2), .val (.int p3), .val (.int p4), .val (.int p5), .val (.int (3 : Int32)), uu, uu, uu, uu, uu, uu, uu, uu, uu, uu, uu, uu, uu, uu, uu, uu, uu] [(.int (2 : Int32)), (.int (3 : Int32))])) _
    refine XS.icmpYes X0.here hx rfl (pc0 := 31) (pc' := 40) rfl (hb hby at_31) rfl (feq (by decide : ¬ ((3 : Int32) = (2 : Int32)))).2 (by decide) (by decide) ?_
    show Steps p.tables e below (s₁.setTop (mkF m 40 #[.val (.int p1), .val (.int p2), .val (.int p3), .val (.int p4), .val (.int p5), .val (.int (3 : Int32)), uu, uu, uu, uu, uu, uu, uu, uu, uu, uu, uu, uu, uu, uu, uu, uu, uu] [])) _
    refine st50 _ ?_
    show Steps p.tables e below (T50.setTop (mkF m 43 #[.val (.int p1), .val (.int p2), .val (.int p3), .val (.int p4), .val (.int p5), .val (.int (3 : Int32)), uu, uu, uu, uu, uu, uu, uu, uu, uu, uu, uu, uu, uu, uu, uu, uu, uu] [(.ref wSUM)])) _
    refine XS.astore X50.here hx rfl (hb hby at_43) rfl rfl (l' := #[.val (.int p1), .val (.int p2), .val (.int p3), .val (.int p4), .val (.int p5), .val (.int (3 : Int32)), .val (.ref wSUM), uu, uu, uu, uu, uu, uu, uu, uu, uu, uu, uu, uu, uu, uu, uu, uu]) rfl ?_
    show Steps p.tables e below (T50.setTop (mkF m 45 #[.val (.int p1), .val (.int p2), .val (.int p3), .val (.int p4), .val (.int p5), .val (.int (3 : Int32)), .val (.ref wSUM), uu, uu, uu, uu, uu, uu, uu, uu, uu, uu, uu, uu, uu, uu, uu, uu] [])) _
    refine XS.iloadN X50.here hx rfl (hb hby at_45) rfl ?_
    show Steps p.tables e below (T50.setTop (mkF m 46 #[.val (.int p1), .val (.int p2), .val (.int p3), .val (.int p4), .val (.int p5), .val (.int (3 : Int32)), .val (.ref wSUM), uu, uu, uu, uu, uu, uu, uu, uu, uu, uu, uu, uu, uu, uu, uu, uu] [(.int p2)])) _
    refine X50.ldcInt hx hown (mvT hZ (hw _ (List.mem_of_getElem? (i := 3) rfl))) (g := (mkF m 46 #[.val (.int p1), .val (.int p2), .val (.int p3), .val (.int p4), .val (.int p5), .val (.int (3 : Int32)), .val (.ref wSUM), uu, uu, uu, uu, uu, uu, uu, uu, uu, uu, uu, uu, uu, uu, uu, uu] [(.int p2)])) rfl (hb hby at_46) _ ?_
    show Steps p.tables e below (T50.setTop (mkF m 48 #[.val (.int p1), .val (.int p2), .val (.int p3), .val (.int p4), .val (.int p5), .val (.int (3 : Int32)), .val (.ref wSUM), uu, uu, uu, uu, uu, uu, uu, uu, uu, uu, uu, uu, uu, uu, uu, uu] [(.int (2147483647 : Int32)), (.int p2)])) _
    refine XS.iand X50.here hx rfl (hb hby at_48) rfl ?_
    show Steps p.tables e below (T50.setTop (mkF m 49 #[.val (.int p1), .val (.int p2), .val (.int p3), .val (.int p4), .val (.int p5), .val (.int (3 : Int32)), .val (.ref wSUM), uu, uu, uu, uu, uu, uu, uu, uu, uu, uu, uu, uu, uu, uu, uu, uu] [(.int (p2 &&& (2147483647 : Int32)))])) _
    refine XS.iconst X50.here hx rfl (hb hby at_49) ?_
    show Steps p.tables e below (T50.setTop (mkF m 50 #[.val (.int p1), .val (.int p2), .val (.int p3), .val (.int p4), .val (.int p5), .val (.int (3 : Int32)), .val (.ref wSUM), uu, uu, uu, uu, uu, uu, uu, uu, uu, uu, uu, uu, uu, uu, uu, uu] [(.int (3 : Int32)), (.int (p2 &&& (2147483647 : Int32)))])) _
    refine iremM X50 hx rfl (hb hby at_50) rfl (by decide) ?_
    show Steps p.tables e below (T50.setTop (mkF m 51 #[.val (.int p1), .val (.int p2), .val (.int p3), .val (.int p4), .val (.int p5), .val (.int (3 : Int32)), .val (.ref wSUM), uu, uu, uu, uu, uu, uu, uu, uu, uu, uu, uu, uu, uu, uu, uu, uu] [(.int ((p2 &&& (2147483647 : Int32)) % (3 : Int32)))])) _
    refine XS.iconst X50.here hx rfl (hb hby at_51) ?_
    show Steps p.tables e below (T50.setTop (mkF m 52 #[.val (.int p1), .val (.int p2), .val (.int p3), .val (.int p4), .val (.int p5), .val (.int (3 : Int32)), .val (.ref wSUM), uu, uu, uu, uu, uu, uu, uu, uu, uu, uu, uu, uu, uu, uu, uu, uu] [(.int (1 : Int32)), (.int ((p2 &&& (2147483647 : Int32)) % (3 : Int32)))])) _
    refine XS.iadd X50.here hx rfl (hb hby at_52) rfl ?_
    show Steps p.tables e below (T50.setTop (mkF m 53 #[.val (.int p1), .val (.int p2), .val (.int p3), .val (.int p4), .val (.int p5), .val (.int (3 : Int32)), .val (.ref wSUM), uu, uu, uu, uu, uu, uu, uu, uu, uu, uu, uu, uu, uu, uu, uu, uu] [(.int (((p2 &&& (2147483647 : Int32)) % (3 : Int32)) + (1 : Int32)))])) _
    rw [hn]
    show Steps p.tables e below (T50.setTop (mkF m 53 #[.val (.int p1), .val (.int p2), .val (.int p3), .val (.int p4), .val (.int p5), .val (.int (3 : Int32)), .val (.ref wSUM), uu, uu, uu, uu, uu, uu, uu, uu, uu, uu, uu, uu, uu, uu, uu, uu] [(.int (2 : Int32))])) _
    refine XS.istore X50.here hx rfl (hb hby at_53) rfl (l' := #[.val (.int p1), .val (.int p2), .val (.int p3), .val (.int p4), .val (.int p5), .val (.int (3 : Int32)), .val (.ref wSUM), .val (.int (2 : Int32)), uu, uu, uu, uu, uu, uu, uu, uu, uu, uu, uu, uu, uu, uu, uu]) rfl ?_
    show Steps p.tables e below (T50.setTop (mkF m 55 #[.val (.int p1), .val (.int p2), .val (.int p3), .val (.int p4), .val (.int p5), .val (.int (3 : Int32)), .val (.ref wSUM), .val (.int (2 : Int32)), uu, uu, uu, uu, uu, uu, uu, uu, uu, uu, uu, uu, uu, uu, uu] [])) _
    refine XS.iloadN X50.here hx rfl (hb hby at_55) rfl ?_
    show Steps p.tables e below (T50.setTop (mkF m 56 #[.val (.int p1), .val (.int p2), .val (.int p3), .val (.int p4), .val (.int p5), .val (.int (3 : Int32)), .val (.ref wSUM), .val (.int (2 : Int32)), uu, uu, uu, uu, uu, uu, uu, uu, uu, uu, uu, uu, uu, uu, uu] [(.int p3)])) _
    refine X50.ldcInt hx hown (mvT hZ (hw _ (List.mem_of_getElem? (i := 4) rfl))) (g := (mkF m 56 #[.val (.int p1), .val (.int p2), .val (.int p3), .val (.int p4), .val (.int p5), .val (.int (3 : Int32)), .val (.ref wSUM), .val (.int (2 : Int32)), uu, uu, uu, uu, uu, uu, uu, uu, uu, uu, uu, uu, uu, uu, uu] [(.int p3)])) rfl (hb hby at_56) _ ?_
    show Steps p.tables e below (T50.setTop (mkF m 58 #[.val (.int p1), .val (.int p2), .val (.int p3), .val (.int p4), .val (.int p5), .val (.int (3 : Int32)), .val (.ref wSUM), .val (.int (2 : Int32)), uu, uu, uu, uu, uu, uu, uu, uu, uu, uu, uu, uu, uu, uu, uu] [(.int (1048575 : Int32)), (.int p3)])) _
    refine XS.iand X50.here hx rfl (hb hby at_58) rfl ?_
    show Steps p.tables e below (T50.setTop (mkF m 59 #[.val (.int p1), .val (.int p2), .val (.int p3), .val (.int p4), .val (.int p5), .val (.int (3 : Int32)), .val (.ref wSUM), .val (.int (2 : Int32)), uu, uu, uu, uu, uu, uu, uu, uu, uu, uu, uu, uu, uu, uu, uu] [(.int (p3 &&& (1048575 : Int32)))])) _
    refine XS.i2l X50.here hx rfl (hb hby at_59) rfl ?_
    show Steps p.tables e below (T50.setTop (mkF m 60 #[.val (.int p1), .val (.int p2), .val (.int p3), .val (.int p4), .val (.int p5), .val (.int (3 : Int32)), .val (.ref wSUM), .val (.int (2 : Int32)), uu, uu, uu, uu, uu, uu, uu, uu, uu, uu, uu, uu, uu, uu, uu] [(.long ((p3 &&& (1048575 : Int32)).toInt64))])) _
    rw [← hx0]
    show Steps p.tables e below (T50.setTop (mkF m 60 #[.val (.int p1), .val (.int p2), .val (.int p3), .val (.int p4), .val (.int p5), .val (.int (3 : Int32)), .val (.ref wSUM), .val (.int (2 : Int32)), uu, uu, uu, uu, uu, uu, uu, uu, uu, uu, uu, uu, uu, uu, uu] [(.long x0)])) _
    refine XS.lstore X50.here hx rfl (hb hby at_60) rfl (l' := #[.val (.int p1), .val (.int p2), .val (.int p3), .val (.int p4), .val (.int p5), .val (.int (3 : Int32)), .val (.ref wSUM), .val (.int (2 : Int32)), .val (.long x0), .second, uu, uu, uu, uu, uu, uu, uu, uu, uu, uu, uu, uu, uu]) rfl ?_
    show Steps p.tables e below (T50.setTop (mkF m 62 #[.val (.int p1), .val (.int p2), .val (.int p3), .val (.int p4), .val (.int p5), .val (.int (3 : Int32)), .val (.ref wSUM), .val (.int (2 : Int32)), .val (.long x0), .second, uu, uu, uu, uu, uu, uu, uu, uu, uu, uu, uu, uu, uu] [])) _
    refine XS.lload X50.here hx rfl (hb hby at_62) rfl ?_
    show Steps p.tables e below (T50.setTop (mkF m 64 #[.val (.int p1), .val (.int p2), .val (.int p3), .val (.int p4), .val (.int p5), .val (.int (3 : Int32)), .val (.ref wSUM), .val (.int (2 : Int32)), .val (.long x0), .second, uu, uu, uu, uu, uu, uu, uu, uu, uu, uu, uu, uu, uu] [(.long x0)])) _
    refine XS.iloadN X50.here hx rfl (hb hby at_64) rfl ?_
    show Steps p.tables e below (T50.setTop (mkF m 65 #[.val (.int p1), .val (.int p2), .val (.int p3), .val (.int p4), .val (.int p5), .val (.int (3 : Int32)), .val (.ref wSUM), .val (.int (2 : Int32)), .val (.long x0), .second, uu, uu, uu, uu, uu, uu, uu, uu, uu, uu, uu, uu, uu] [(.int p4), (.long x0)])) _
    refine X50.ldcInt hx hown (mvT hZ (hw _ (List.mem_of_getElem? (i := 4) rfl))) (g := (mkF m 65 #[.val (.int p1), .val (.int p2), .val (.int p3), .val (.int p4), .val (.int p5), .val (.int (3 : Int32)), .val (.ref wSUM), .val (.int (2 : Int32)), .val (.long x0), .second, uu, uu, uu, uu, uu, uu, uu, uu, uu, uu, uu, uu, uu] [(.int p4), (.long x0)])) rfl (hb hby at_65) _ ?_
    show Steps p.tables e below (T50.setTop (mkF m 67 #[.val (.int p1), .val (.int p2), .val (.int p3), .val (.int p4), .val (.int p5), .val (.int (3 : Int32)), .val (.ref wSUM), .val (.int (2 : Int32)), .val (.long x0), .second, uu, uu, uu, uu, uu, uu, uu, uu, uu, uu, uu, uu, uu] [(.int (1048575 : Int32)), (.int p4), (.long x0)])) _
    refine XS.iand X50.here hx rfl (hb hby at_67) rfl ?_
    show Steps p.tables e below (T50.setTop (mkF m 68 #[.val (.int p1), .val (.int p2), .val (.int p3), .val (.int p4), .val (.int p5), .val (.int (3 : Int32)), .val (.ref wSUM), .val (.int (2 : Int32)), .val (.long x0), .second, uu, uu, uu, uu, uu, uu, uu, uu, uu, uu, uu, uu, uu] [(.int (p4 &&& (1048575 : Int32))), (.long x0)])) _
    refine XS.i2l X50.here hx rfl (hb hby at_68) rfl ?_
    show Steps p.tables e below (T50.setTop (mkF m 69 #[.val (.int p1), .val (.int p2), .val (.int p3), .val (.int p4), .val (.int p5), .val (.int (3 : Int32)), .val (.ref wSUM), .val (.int (2 : Int32)), .val (.long x0), .second, uu, uu, uu, uu, uu, uu, uu, uu, uu, uu, uu, uu, uu] [(.long ((p4 &&& (1048575 : Int32)).toInt64)), (.long x0)])) _
    rw [← hy1]
    show Steps p.tables e below (T50.setTop (mkF m 69 #[.val (.int p1), .val (.int p2), .val (.int p3), .val (.int p4), .val (.int p5), .val (.int (3 : Int32)), .val (.ref wSUM), .val (.int (2 : Int32)), .val (.long x0), .second, uu, uu, uu, uu, uu, uu, uu, uu, uu, uu, uu, uu, uu] [(.long y1), (.long x0)])) _
    refine XS.ladd X50.here hx rfl (hb hby at_69) rfl ?_
    show Steps p.tables e below (T50.setTop (mkF m 70 #[.val (.int p1), .val (.int p2), .val (.int p3), .val (.int p4), .val (.int p5), .val (.int (3 : Int32)), .val (.ref wSUM), .val (.int (2 : Int32)), .val (.long x0), .second, uu, uu, uu, uu, uu, uu, uu, uu, uu, uu, uu, uu, uu] [(.long (x0 + y1))])) _
    refine XS.lstore X50.here hx rfl (hb hby at_70) rfl (l' := #[.val (.int p1), .val (.int p2), .val (.int p3), .val (.int p4), .val (.int p5), .val (.int (3 : Int32)), .val (.ref wSUM), .val (.int (2 : Int32)), .val (.long x0), .second, .val (.long (x0 + y1)), .second, uu, uu, uu, uu, uu, uu, uu, uu, uu, uu, uu]) rfl ?_
    show Steps p.tables e below (T50.setTop (mkF m 72 #[.val (.int p1), .val (.int p2), .val (.int p3), .val (.int p4), .val (.int p5), .val (.int (3 : Int32)), .val (.ref wSUM), .val (.int (2 : Int32)), .val (.long x0), .second, .val (.long (x0 + y1)), .second, uu, uu, uu, uu, uu, uu, uu, uu, uu, uu, uu] [])) _
    refine XS.lload X50.here hx rfl (hb hby at_72) rfl ?_
    show Steps p.tables e below (T50.setTop (mkF m 74 #[.val (.int p1), .val (.int p2), .val (.int p3), .val (.int p4), .val (.int p5), .val (.int (3 : Int32)), .val (.ref wSUM), .val (.int (2 : Int32)), .val (.long x0), .second, .val (.long (x0 + y1)), .second, uu, uu, uu, uu, uu, uu, uu, uu, uu, uu, uu] [(.long (x0 + y1))])) _
    refine XS.iload X50.here hx rfl (hb hby at_74) rfl ?_
    show Steps p.tables e below (T50.setTop (mkF m 76 #[.val (.int p1), .val (.int p2), .val (.int p3), .val (.int p4), .val (.int p5), .val (.int (3 : Int32)), .val (.ref wSUM), .val (.int (2 : Int32)), .val (.long x0), .second, .val (.long (x0 + y1)), .second, uu, uu, uu, uu, uu, uu, uu, uu, uu, uu, uu] [(.int p5), (.long (x0 + y1))])) _
    refine X50.ldcInt hx hown (mvT hZ (hw _ (List.mem_of_getElem? (i := 4) rfl))) (g := (mkF m 76 #[.val (.int p1), .val (.int p2), .val (.int p3), .val (.int p4), .val (.int p5), .val (.int (3 : Int32)), .val (.ref wSUM), .val (.int (2 : Int32)), .val (.long x0), .second, .val (.long (x0 + y1)), .second, uu, uu, uu, uu, uu, uu, uu, uu, uu, uu, uu] [(.int p5), (.long (x0 + y1))])) rfl (hb hby at_76) _ ?_
    show Steps p.tables e below (T50.setTop (mkF m 78 #[.val (.int p1), .val (.int p2), .val (.int p3), .val (.int p4), .val (.int p5), .val (.int (3 : Int32)), .val (.ref wSUM), .val (.int (2 : Int32)), .val (.long x0), .second, .val (.long (x0 + y1)), .second, uu, uu, uu, uu, uu, uu, uu, uu, uu, uu, uu] [(.int (1048575 : Int32)), (.int p5), (.long (x0 + y1))])) _
    refine XS.iand X50.here hx rfl (hb hby at_78) rfl ?_
    show Steps p.tables e below (T50.setTop (mkF m 79 #[.val (.int p1), .val (.int p2), .val (.int p3), .val (.int p4), .val (.int p5), .val (.int (3 : Int32)), .val (.ref wSUM), .val (.int (2 : Int32)), .val (.long x0), .second, .val (.long (x0 + y1)), .second, uu, uu, uu, uu, uu, uu, uu, uu, uu, uu, uu] [(.int (p5 &&& (1048575 : Int32))), (.long (x0 + y1))])) _
    refine XS.i2l X50.here hx rfl (hb hby at_79) rfl ?_
    show Steps p.tables e below (T50.setTop (mkF m 80 #[.val (.int p1), .val (.int p2), .val (.int p3), .val (.int p4), .val (.int p5), .val (.int (3 : Int32)), .val (.ref wSUM), .val (.int (2 : Int32)), .val (.long x0), .second, .val (.long (x0 + y1)), .second, uu, uu, uu, uu, uu, uu, uu, uu, uu, uu, uu] [(.long ((p5 &&& (1048575 : Int32)).toInt64)), (.long (x0 + y1))])) _
    rw [← hy2]
    show Steps p.tables e below (T50.setTop (mkF m 80 #[.val (.int p1), .val (.int p2), .val (.int p3), .val (.int p4), .val (.int p5), .val (.int (3 : Int32)), .val (.ref wSUM), .val (.int (2 : Int32)), .val (.long x0), .second, .val (.long (x0 + y1)), .second, uu, uu, uu, uu, uu, uu, uu, uu, uu, uu, uu] [(.long y2), (.long (x0 + y1))])) _
    refine XS.ladd X50.here hx rfl (hb hby at_80) rfl ?_
    show Steps p.tables e below (T50.setTop (mkF m 81 #[.val (.int p1), .val (.int p2), .val (.int p3), .val (.int p4), .val (.int p5), .val (.int (3 : Int32)), .val (.ref wSUM), .val (.int (2 : Int32)), .val (.long x0), .second, .val (.long (x0 + y1)), .second, uu, uu, uu, uu, uu, uu, uu, uu, uu, uu, uu] [(.long ((x0 + y1) + y2))])) _
    refine XS.lstore X50.here hx rfl (hb hby at_81) rfl (l' := #[.val (.int p1), .val (.int p2), .val (.int p3), .val (.int p4), .val (.int p5), .val (.int (3 : Int32)), .val (.ref wSUM), .val (.int (2 : Int32)), .val (.long x0), .second, .val (.long (x0 + y1)), .second, .val (.long ((x0 + y1) + y2)), .second, uu, uu, uu, uu, uu, uu, uu, uu, uu]) rfl ?_
    show Steps p.tables e below (T50.setTop (mkF m 83 #[.val (.int p1), .val (.int p2), .val (.int p3), .val (.int p4), .val (.int p5), .val (.int (3 : Int32)), .val (.ref wSUM), .val (.int (2 : Int32)), .val (.long x0), .second, .val (.long (x0 + y1)), .second, .val (.long ((x0 + y1) + y2)), .second, uu, uu, uu, uu, uu, uu, uu, uu, uu] [])) _
    refine XS.iload X50.here hx rfl (hb hby at_83) rfl ?_
    show Steps p.tables e below (T50.setTop (mkF m 85 #[.val (.int p1), .val (.int p2), .val (.int p3), .val (.int p4), .val (.int p5), .val (.int (3 : Int32)), .val (.ref wSUM), .val (.int (2 : Int32)), .val (.long x0), .second, .val (.long (x0 + y1)), .second, .val (.long ((x0 + y1) + y2)), .second, uu, uu, uu, uu, uu, uu, uu, uu, uu] [(.int (2 : Int32))])) _
    refine XS.iconst X50.here hx rfl (hb hby at_85) ?_
    show Steps p.tables e below (T50.setTop (mkF m 86 #[.val (.int p1), .val (.int p2), .val (.int p3), .val (.int p4), .val (.int p5), .val (.int (3 : Int32)), .val (.ref wSUM), .val (.int (2 : Int32)), .val (.long x0), .second, .val (.long (x0 + y1)), .second, .val (.long ((x0 + y1) + y2)), .second, uu, uu, uu, uu, uu, uu, uu, uu, uu] [(.int (1 : Int32)), (.int (2 : Int32))])) _
    refine XS.icmpYes X50.here hx rfl (pc0 := 86) (pc' := 103) rfl (hb hby at_86) rfl (feq (by decide : ¬ ((2 : Int32) = (1 : Int32)))).2 (by decide) (by decide) ?_
    show Steps p.tables e below (T50.setTop (mkF m 103 #[.val (.int p1), .val (.int p2), .val (.int p3), .val (.int p4), .val (.int p5), .val (.int (3 : Int32)), .val (.ref wSUM), .val (.int (2 : Int32)), .val (.long x0), .second, .val (.long (x0 + y1)), .second, .val (.long ((x0 + y1) + y2)), .second, uu, uu, uu, uu, uu, uu, uu, uu, uu] [])) _
    refine XS.iload X50.here hx rfl (hb hby at_103) rfl ?_
    show Steps p.tables e below (T50.setTop (mkF m 105 #[.val (.int p1), .val (.int p2), .val (.int p3), .val (.int p4), .val (.int p5), .val (.int (3 : Int32)), .val (.ref wSUM), .val (.int (2 : Int32)), .val (.long x0), .second, .val (.long (x0 + y1)), .second, .val (.long ((x0 + y1) + y2)), .second, uu, uu, uu, uu, uu, uu, uu, uu, uu] [(.int (2 : Int32))])) _
    refine XS.iconst X50.here hx rfl (hb hby at_105) ?_
    show Steps p.tables e below (T50.setTop (mkF m 106 #[.val (.int p1), .val (.int p2), .val (.int p3), .val (.int p4), .val (.int p5), .val (.int (3 : Int32)), .val (.ref wSUM), .val (.int (2 : Int32)), .val (.long x0), .second, .val (.long (x0 + y1)), .second, .val (.long ((x0 + y1) + y2)), .second, uu, uu, uu, uu, uu, uu, uu, uu, uu] [(.int (2 : Int32)), (.int (2 : Int32))])) _
    refine XS.icmpNo X50.here hx rfl (hb hby at_106) rfl (teq (by decide : (2 : Int32) = (2 : Int32))).2 ?_
    show Steps p.tables e below (T50.setTop (mkF m 109 #[.val (.int p1), .val (.int p2), .val (.int p3), .val (.int p4), .val (.int p5), .val (.int (3 : Int32)), .val (.ref wSUM), .val (.int (2 : Int32)), .val (.long x0), .second, .val (.long (x0 + y1)), .second, .val (.long ((x0 + y1) + y2)), .second, uu, uu, uu, uu, uu, uu, uu, uu, uu] [])) _
    refine XS.iconst X50.here hx rfl (hb hby at_109) ?_
    show Steps p.tables e below (T50.setTop (mkF m 110 #[.val (.int p1), .val (.int p2), .val (.int p3), .val (.int p4), .val (.int p5), .val (.int (3 : Int32)), .val (.ref wSUM), .val (.int (2 : Int32)), .val (.long x0), .second, .val (.long (x0 + y1)), .second, .val (.long ((x0 + y1) + y2)), .second, uu, uu, uu, uu, uu, uu, uu, uu, uu] [(.int (2 : Int32))])) _
    refine sta_ _ ?_
    show Steps p.tables e below (Ta.setTop (mkF m 112 #[.val (.int p1), .val (.int p2), .val (.int p3), .val (.int p4), .val (.int p5), .val (.int (3 : Int32)), .val (.ref wSUM), .val (.int (2 : Int32)), .val (.long x0), .second, .val (.long (x0 + y1)), .second, .val (.long ((x0 + y1) + y2)), .second, uu, uu, uu, uu, uu, uu, uu, uu, uu] [(.ref b)])) _
    refine XS.dup Xa.here hx rfl (hb hby at_112) rfl rfl ?_
    show Steps p.tables e below (Ta.setTop (mkF m 113 #[.val (.int p1), .val (.int p2), .val (.int p3), .val (.int p4), .val (.int p5), .val (.int (3 : Int32)), .val (.ref wSUM), .val (.int (2 : Int32)), .val (.long x0), .second, .val (.long (x0 + y1)), .second, .val (.long ((x0 + y1) + y2)), .second, uu, uu, uu, uu, uu, uu, uu, uu, uu] [(.ref b), (.ref b)])) _
    refine XS.iconst Xa.here hx rfl (hb hby at_113) ?_
    show Steps p.tables e below (Ta.setTop (mkF m 114 #[.val (.int p1), .val (.int p2), .val (.int p3), .val (.int p4), .val (.int p5), .val (.int (3 : Int32)), .val (.ref wSUM), .val (.int (2 : Int32)), .val (.long x0), .second, .val (.long (x0 + y1)), .second, .val (.long ((x0 + y1) + y2)), .second, uu, uu, uu, uu, uu, uu, uu, uu, uu] [(.int (0 : Int32)), (.ref b), (.ref b)])) _
    refine XS.lload Xa.here hx rfl (hb hby at_114) rfl ?_
    show Steps p.tables e below (Ta.setTop (mkF m 116 #[.val (.int p1), .val (.int p2), .val (.int p3), .val (.int p4), .val (.int p5), .val (.int (3 : Int32)), .val (.ref wSUM), .val (.int (2 : Int32)), .val (.long x0), .second, .val (.long (x0 + y1)), .second, .val (.long ((x0 + y1) + y2)), .second, uu, uu, uu, uu, uu, uu, uu, uu, uu] [(.long x0), (.int (0 : Int32)), (.ref b), (.ref b)])) _
    refine XS.l2dS Xa.here hx rfl (hb hby at_116) rfl (v := FP.l2d x0) rfl ?_
    show Steps p.tables e below (Ta.setTop (mkF m 117 #[.val (.int p1), .val (.int p2), .val (.int p3), .val (.int p4), .val (.int p5), .val (.int (3 : Int32)), .val (.ref wSUM), .val (.int (2 : Int32)), .val (.long x0), .second, .val (.long (x0 + y1)), .second, .val (.long ((x0 + y1) + y2)), .second, uu, uu, uu, uu, uu, uu, uu, uu, uu] [(.double (FP.l2d x0)), (.int (0 : Int32)), (.ref b), (.ref b)])) _
    refine std0 _ ?_
    show Steps p.tables e below (Td0.setTop (mkF m 118 #[.val (.int p1), .val (.int p2), .val (.int p3), .val (.int p4), .val (.int p5), .val (.int (3 : Int32)), .val (.ref wSUM), .val (.int (2 : Int32)), .val (.long x0), .second, .val (.long (x0 + y1)), .second, .val (.long ((x0 + y1) + y2)), .second, uu, uu, uu, uu, uu, uu, uu, uu, uu] [(.ref b)])) _
    refine XS.dup Xd0.here hx rfl (hb hby at_118) rfl rfl ?_
    show Steps p.tables e below (Td0.setTop (mkF m 119 #[.val (.int p1), .val (.int p2), .val (.int p3), .val (.int p4), .val (.int p5), .val (.int (3 : Int32)), .val (.ref wSUM), .val (.int (2 : Int32)), .val (.long x0), .second, .val (.long (x0 + y1)), .second, .val (.long ((x0 + y1) + y2)), .second, uu, uu, uu, uu, uu, uu, uu, uu, uu] [(.ref b), (.ref b)])) _
    refine XS.iconst Xd0.here hx rfl (hb hby at_119) ?_
    show Steps p.tables e below (Td0.setTop (mkF m 120 #[.val (.int p1), .val (.int p2), .val (.int p3), .val (.int p4), .val (.int p5), .val (.int (3 : Int32)), .val (.ref wSUM), .val (.int (2 : Int32)), .val (.long x0), .second, .val (.long (x0 + y1)), .second, .val (.long ((x0 + y1) + y2)), .second, uu, uu, uu, uu, uu, uu, uu, uu, uu] [(.int (1 : Int32)), (.ref b), (.ref b)])) _
    refine XS.lload Xd0.here hx rfl (hb hby at_120) rfl ?_
    show Steps p.tables e below (Td0.setTop (mkF m 122 #[.val (.int p1), .val (.int p2), .val (.int p3), .val (.int p4), .val (.int p5), .val (.int (3 : Int32)), .val (.ref wSUM), .val (.int (2 : Int32)), .val (.long x0), .second, .val (.long (x0 + y1)), .second, .val (.long ((x0 + y1) + y2)), .second, uu, uu, uu, uu, uu, uu, uu, uu, uu] [(.long (x0 + y1)), (.int (1 : Int32)), (.ref b), (.ref b)])) _
    refine XS.l2dS Xd0.here hx rfl (hb hby at_122) rfl (v := FP.l2d (x0 + y1)) rfl ?_
    show Steps p.tables e below (Td0.setTop (mkF m 123 #[.val (.int p1), .val (.int p2), .val (.int p3), .val (.int p4), .val (.int p5), .val (.int (3 : Int32)), .val (.ref wSUM), .val (.int (2 : Int32)), .val (.long x0), .second, .val (.long (x0 + y1)), .second, .val (.long ((x0 + y1) + y2)), .second, uu, uu, uu, uu, uu, uu, uu, uu, uu] [(.double (FP.l2d (x0 + y1))), (.int (1 : Int32)), (.ref b), (.ref b)])) _
    refine std1 _ ?_
    show Steps p.tables e below (Td1.setTop (mkF m 124 #[.val (.int p1), .val (.int p2), .val (.int p3), .val (.int p4), .val (.int p5), .val (.int (3 : Int32)), .val (.ref wSUM), .val (.int (2 : Int32)), .val (.long x0), .second, .val (.long (x0 + y1)), .second, .val (.long ((x0 + y1) + y2)), .second, uu, uu, uu, uu, uu, uu, uu, uu, uu] [(.ref b)])) _
    refine XS.astore Xd1.here hx rfl (hb hby at_124) rfl rfl (l' := #[.val (.int p1), .val (.int p2), .val (.int p3), .val (.int p4), .val (.int p5), .val (.int (3 : Int32)), .val (.ref wSUM), .val (.int (2 : Int32)), .val (.long x0), .second, .val (.long (x0 + y1)), .second, .val (.long ((x0 + y1) + y2)), .second, .val (.ref b), uu, uu, uu, uu, uu, uu, uu, uu]) rfl ?_
    show Steps p.tables e below (Td1.setTop (mkF m 126 #[.val (.int p1), .val (.int p2), .val (.int p3), .val (.int p4), .val (.int p5), .val (.int (3 : Int32)), .val (.ref wSUM), .val (.int (2 : Int32)), .val (.long x0), .second, .val (.long (x0 + y1)), .second, .val (.long ((x0 + y1) + y2)), .second, .val (.ref b), uu, uu, uu, uu, uu, uu, uu, uu] [])) _
    refine XS.goto Xd1.here hx rfl (pc0 := 126) (pc' := 152) rfl (hb hby at_126) (by decide) (by decide) ?_
    show Steps p.tables e below (Td1.setTop (mkF m 152 #[.val (.int p1), .val (.int p2), .val (.int p3), .val (.int p4), .val (.int p5), .val (.int (3 : Int32)), .val (.ref wSUM), .val (.int (2 : Int32)), .val (.long x0), .second, .val (.long (x0 + y1)), .second, .val (.long ((x0 + y1) + y2)), .second, .val (.ref b), uu, uu, uu, uu, uu, uu, uu, uu] [])) _
    refine XS.iload Xd1.here hx rfl (hb hby at_152) rfl ?_
    show Steps p.tables e below (Td1.setTop (mkF m 154 #[.val (.int p1), .val (.int p2), .val (.int p3), .val (.int p4), .val (.int p5), .val (.int (3 : Int32)), .val (.ref wSUM), .val (.int (2 : Int32)), .val (.long x0), .second, .val (.long (x0 + y1)), .second, .val (.long ((x0 + y1) + y2)), .second, .val (.ref b), uu, uu, uu, uu, uu, uu, uu, uu] [(.int (2 : Int32))])) _
    refine XS.iconst Xd1.here hx rfl (hb hby at_154) ?_
    show Steps p.tables e below (Td1.setTop (mkF m 155 #[.val (.int p1), .val (.int p2), .val (.int p3), .val (.int p4), .val (.int p5), .val (.int (3 : Int32)), .val (.ref wSUM), .val (.int (2 : Int32)), .val (.long x0), .second, .val (.long (x0 + y1)), .second, .val (.long ((x0 + y1) + y2)), .second, .val (.ref b), uu, uu, uu, uu, uu, uu, uu, uu] [(.int (1 : Int32)), (.int (2 : Int32))])) _
    refine XS.icmpYes Xd1.here hx rfl (pc0 := 155) (pc' := 163) rfl (hb hby at_155) rfl (feq (by decide : ¬ ((2 : Int32) = (1 : Int32)))).2 (by decide) (by decide) ?_
    show Steps p.tables e below (Td1.setTop (mkF m 163 #[.val (.int p1), .val (.int p2), .val (.int p3), .val (.int p4), .val (.int p5), .val (.int (3 : Int32)), .val (.ref wSUM), .val (.int (2 : Int32)), .val (.long x0), .second, .val (.long (x0 + y1)), .second, .val (.long ((x0 + y1) + y2)), .second, .val (.ref b), uu, uu, uu, uu, uu, uu, uu, uu] [])) _
    refine XS.iload Xd1.here hx rfl (hb hby at_163) rfl ?_
    show Steps p.tables e below (Td1.setTop (mkF m 165 #[.val (.int p1), .val (.int p2), .val (.int p3), .val (.int p4), .val (.int p5), .val (.int (3 : Int32)), .val (.ref wSUM), .val (.int (2 : Int32)), .val (.long x0), .second, .val (.long (x0 + y1)), .second, .val (.long ((x0 + y1) + y2)), .second, .val (.ref b), uu, uu, uu, uu, uu, uu, uu, uu] [(.int (2 : Int32))])) _
    refine XS.iconst Xd1.here hx rfl (hb hby at_165) ?_
    show Steps p.tables e below (Td1.setTop (mkF m 166 #[.val (.int p1), .val (.int p2), .val (.int p3), .val (.int p4), .val (.int p5), .val (.int (3 : Int32)), .val (.ref wSUM), .val (.int (2 : Int32)), .val (.long x0), .second, .val (.long (x0 + y1)), .second, .val (.long ((x0 + y1) + y2)), .second, .val (.ref b), uu, uu, uu, uu, uu, uu, uu, uu] [(.int (2 : Int32)), (.int (2 : Int32))])) _
    refine XS.icmpNo Xd1.here hx rfl (hb hby at_166) rfl (teq (by decide : (2 : Int32) = (2 : Int32))).2 ?_
    show Steps p.tables e below (Td1.setTop (mkF m 169 #[.val (.int p1), .val (.int p2), .val (.int p3), .val (.int p4), .val (.int p5), .val (.int (3 : Int32)), .val (.ref wSUM), .val (.int (2 : Int32)), .val (.long x0), .second, .val (.long (x0 + y1)), .second, .val (.long ((x0 + y1) + y2)), .second, .val (.ref b), uu, uu, uu, uu, uu, uu, uu, uu] [])) _
    refine XS.lload Xd1.here hx rfl (hb hby at_169) rfl ?_
    show Steps p.tables e below (Td1.setTop (mkF m 171 #[.val (.int p1), .val (.int p2), .val (.int p3), .val (.int p4), .val (.int p5), .val (.int (3 : Int32)), .val (.ref wSUM), .val (.int (2 : Int32)), .val (.long x0), .second, .val (.long (x0 + y1)), .second, .val (.long ((x0 + y1) + y2)), .second, .val (.ref b), uu, uu, uu, uu, uu, uu, uu, uu] [(.long (x0 + y1))])) _
    refine XS.goto Xd1.here hx rfl (pc0 := 171) (pc' := 176) rfl (hb hby at_171) (by decide) (by decide) ?_
    show Steps p.tables e below (Td1.setTop (mkF m 176 #[.val (.int p1), .val (.int p2), .val (.int p3), .val (.int p4), .val (.int p5), .val (.int (3 : Int32)), .val (.ref wSUM), .val (.int (2 : Int32)), .val (.long x0), .second, .val (.long (x0 + y1)), .second, .val (.long ((x0 + y1) + y2)), .second, .val (.ref b), uu, uu, uu, uu, uu, uu, uu, uu] [(.long (x0 + y1))])) _
    refine XS.lstore Xd1.here hx rfl (hb hby at_176) rfl (l' := #[.val (.int p1), .val (.int p2), .val (.int p3), .val (.int p4), .val (.int p5), .val (.int (3 : Int32)), .val (.ref wSUM), .val (.int (2 : Int32)), .val (.long x0), .second, .val (.long (x0 + y1)), .second, .val (.long ((x0 + y1) + y2)), .second, .val (.ref b), .val (.long (x0 + y1)), .second, uu, uu, uu, uu, uu, uu]) rfl ?_
    show Steps p.tables e below (Td1.setTop (mkF m 178 #[.val (.int p1), .val (.int p2), .val (.int p3), .val (.int p4), .val (.int p5), .val (.int (3 : Int32)), .val (.ref wSUM), .val (.int (2 : Int32)), .val (.long x0), .second, .val (.long (x0 + y1)), .second, .val (.long ((x0 + y1) + y2)), .second, .val (.ref b), .val (.long (x0 + y1)), .second, uu, uu, uu, uu, uu, uu] [])) _
    refine XS.iload Xd1.here hx rfl (hb hby at_178) rfl ?_
    show Steps p.tables e below (Td1.setTop (mkF m 180 #[.val (.int p1), .val (.int p2), .val (.int p3), .val (.int p4), .val (.int p5), .val (.int (3 : Int32)), .val (.ref wSUM), .val (.int (2 : Int32)), .val (.long x0), .second, .val (.long (x0 + y1)), .second, .val (.long ((x0 + y1) + y2)), .second, .val (.ref b), .val (.long (x0 + y1)), .second, uu, uu, uu, uu, uu, uu] [(.int (2 : Int32))])) _
    refine XS.iconst Xd1.here hx rfl (hb hby at_180) ?_
    show Steps p.tables e below (Td1.setTop (mkF m 181 #[.val (.int p1), .val (.int p2), .val (.int p3), .val (.int p4), .val (.int p5), .val (.int (3 : Int32)), .val (.ref wSUM), .val (.int (2 : Int32)), .val (.long x0), .second, .val (.long (x0 + y1)), .second, .val (.long ((x0 + y1) + y2)), .second, .val (.ref b), .val (.long (x0 + y1)), .second, uu, uu, uu, uu, uu, uu] [(.int (1 : Int32)), (.int (2 : Int32))])) _
    refine XS.icmpYes Xd1.here hx rfl (pc0 := 181) (pc' := 189) rfl (hb hby at_181) rfl (feq (by decide : ¬ ((2 : Int32) = (1 : Int32)))).2 (by decide) (by decide) ?_
    show Steps p.tables e below (Td1.setTop (mkF m 189 #[.val (.int p1), .val (.int p2), .val (.int p3), .val (.int p4), .val (.int p5), .val (.int (3 : Int32)), .val (.ref wSUM), .val (.int (2 : Int32)), .val (.long x0), .second, .val (.long (x0 + y1)), .second, .val (.long ((x0 + y1) + y2)), .second, .val (.ref b), .val (.long (x0 + y1)), .second, uu, uu, uu, uu, uu, uu] [])) _
    refine XS.iload Xd1.here hx rfl (hb hby at_189) rfl ?_
    show Steps p.tables e below (Td1.setTop (mkF m 191 #[.val (.int p1), .val (.int p2), .val (.int p3), .val (.int p4), .val (.int p5), .val (.int (3 : Int32)), .val (.ref wSUM), .val (.int (2 : Int32)), .val (.long x0), .second, .val (.long (x0 + y1)), .second, .val (.long ((x0 + y1) + y2)), .second, .val (.ref b), .val (.long (x0 + y1)), .second, uu, uu, uu, uu, uu, uu] [(.int (2 : Int32))])) _
    refine XS.iconst Xd1.here hx rfl (hb hby at_191) ?_
    show Steps p.tables e below (Td1.setTop (mkF m 192 #[.val (.int p1), .val (.int p2), .val (.int p3), .val (.int p4), .val (.int p5), .val (.int (3 : Int32)), .val (.ref wSUM), .val (.int (2 : Int32)), .val (.long x0), .second, .val (.long (x0 + y1)), .second, .val (.long ((x0 + y1) + y2)), .second, .val (.ref b), .val (.long (x0 + y1)), .second, uu, uu, uu, uu, uu, uu] [(.int (2 : Int32)), (.int (2 : Int32))])) _
    refine XS.icmpNo Xd1.here hx rfl (hb hby at_192) rfl (teq (by decide : (2 : Int32) = (2 : Int32))).2 ?_
    show Steps p.tables e below (Td1.setTop (mkF m 195 #[.val (.int p1), .val (.int p2), .val (.int p3), .val (.int p4), .val (.int p5), .val (.int (3 : Int32)), .val (.ref wSUM), .val (.int (2 : Int32)), .val (.long x0), .second, .val (.long (x0 + y1)), .second, .val (.long ((x0 + y1) + y2)), .second, .val (.ref b), .val (.long (x0 + y1)), .second, uu, uu, uu, uu, uu, uu] [])) _
    refine XS.lload Xd1.here hx rfl (hb hby at_195) rfl ?_
    show Steps p.tables e below (Td1.setTop (mkF m 197 #[.val (.int p1), .val (.int p2), .val (.int p3), .val (.int p4), .val (.int p5), .val (.int (3 : Int32)), .val (.ref wSUM), .val (.int (2 : Int32)), .val (.long x0), .second, .val (.long (x0 + y1)), .second, .val (.long ((x0 + y1) + y2)), .second, .val (.ref b), .val (.long (x0 + y1)), .second, uu, uu, uu, uu, uu, uu] [(.long x0)])) _
    refine XS.lload Xd1.here hx rfl (hb hby at_197) rfl ?_
    show Steps p.tables e below (Td1.setTop (mkF m 199 #[.val (.int p1), .val (.int p2), .val (.int p3), .val (.int p4), .val (.int p5), .val (.int (3 : Int32)), .val (.ref wSUM), .val (.int (2 : Int32)), .val (.long x0), .second, .val (.long (x0 + y1)), .second, .val (.long ((x0 + y1) + y2)), .second, .val (.ref b), .val (.long (x0 + y1)), .second, uu, uu, uu, uu, uu, uu] [(.long (x0 + y1)), (.long x0)])) _
    refine XS.ladd Xd1.here hx rfl (hb hby at_199) rfl ?_
    show Steps p.tables e below (Td1.setTop (mkF m 200 #[.val (.int p1), .val (.int p2), .val (.int p3), .val (.int p4), .val (.int p5), .val (.int (3 : Int32)), .val (.ref wSUM), .val (.int (2 : Int32)), .val (.long x0), .second, .val (.long (x0 + y1)), .second, .val (.long ((x0 + y1) + y2)), .second, .val (.ref b), .val (.long (x0 + y1)), .second, uu, uu, uu, uu, uu, uu] [(.long (x0 + (x0 + y1)))])) _
    refine XS.goto Xd1.here hx rfl (pc0 := 200) (pc' := 211) rfl (hb hby at_200) (by decide) (by decide) ?_
    show Steps p.tables e below (Td1.setTop (mkF m 211 #[.val (.int p1), .val (.int p2), .val (.int p3), .val (.int p4), .val (.int p5), .val (.int (3 : Int32)), .val (.ref wSUM), .val (.int (2 : Int32)), .val (.long x0), .second, .val (.long (x0 + y1)), .second, .val (.long ((x0 + y1) + y2)), .second, .val (.ref b), .val (.long (x0 + y1)), .second, uu, uu, uu, uu, uu, uu] [(.long (x0 + (x0 + y1)))])) _
    refine XS.lstore Xd1.here hx rfl (hb hby at_211) rfl (l' := #[.val (.int p1), .val (.int p2), .val (.int p3), .val (.int p4), .val (.int p5), .val (.int (3 : Int32)), .val (.ref wSUM), .val (.int (2 : Int32)), .val (.long x0), .second, .val (.long (x0 + y1)), .second, .val (.long ((x0 + y1) + y2)), .second, .val (.ref b), .val (.long (x0 + y1)), .second, .val (.long (x0 + (x0 + y1))), .second, uu, uu, uu, uu]) rfl ?_
    show Steps p.tables e below (Td1.setTop (mkF m 213 #[.val (.int p1), .val (.int p2), .val (.int p3), .val (.int p4), .val (.int p5), .val (.int (3 : Int32)), .val (.ref wSUM), .val (.int (2 : Int32)), .val (.long x0), .second, .val (.long (x0 + y1)), .second, .val (.long ((x0 + y1) + y2)), .second, .val (.ref b), .val (.long (x0 + y1)), .second, .val (.long (x0 + (x0 + y1))), .second, uu, uu, uu, uu] [])) _
    refine XS.iload Xd1.here hx rfl (hb hby at_213) rfl ?_
    show Steps p.tables e below (Td1.setTop (mkF m 215 #[.val (.int p1), .val (.int p2), .val (.int p3), .val (.int p4), .val (.int p5), .val (.int (3 : Int32)), .val (.ref wSUM), .val (.int (2 : Int32)), .val (.long x0), .second, .val (.long (x0 + y1)), .second, .val (.long ((x0 + y1) + y2)), .second, .val (.ref b), .val (.long (x0 + y1)), .second, .val (.long (x0 + (x0 + y1))), .second, uu, uu, uu, uu] [(.int (3 : Int32))])) _
    refine XS.ifYes Xd1.here hx rfl (pc0 := 215) (pc' := 226) rfl (hb hby at_215) rfl ((if0 _ _).trans (feq (by decide : ¬ ((3 : Int32) = (0 : Int32)))).2) (by decide) (by decide) ?_
    show Steps p.tables e below (Td1.setTop (mkF m 226 #[.val (.int p1), .val (.int p2), .val (.int p3), .val (.int p4), .val (.int p5), .val (.int (3 : Int32)), .val (.ref wSUM), .val (.int (2 : Int32)), .val (.long x0), .second, .val (.long (x0 + y1)), .second, .val (.long ((x0 + y1) + y2)), .second, .val (.ref b), .val (.long (x0 + y1)), .second, .val (.long (x0 + (x0 + y1))), .second, uu, uu, uu, uu] [])) _
    refine XS.iload Xd1.here hx rfl (hb hby at_226) rfl ?_
    show Steps p.tables e below (Td1.setTop (mkF m 228 #[.val (.int p1), .val (.int p2), .val (.int p3), .val (.int p4), .val (.int p5), .val (.int (3 : Int32)), .val (.ref wSUM), .val (.int (2 : Int32)), .val (.long x0), .second, .val (.long (x0 + y1)), .second, .val (.long ((x0 + y1) + y2)), .second, .val (.ref b), .val (.long (x0 + y1)), .second, .val (.long (x0 + (x0 + y1))), .second, uu, uu, uu, uu] [(.int (3 : Int32))])) _
    refine XS.iconst Xd1.here hx rfl (hb hby at_228) ?_
    show Steps p.tables e below (Td1.setTop (mkF m 229 #[.val (.int p1), .val (.int p2), .val (.int p3), .val (.int p4), .val (.int p5), .val (.int (3 : Int32)), .val (.ref wSUM), .val (.int (2 : Int32)), .val (.long x0), .second, .val (.long (x0 + y1)), .second, .val (.long ((x0 + y1) + y2)), .second, .val (.ref b), .val (.long (x0 + y1)), .second, .val (.long (x0 + (x0 + y1))), .second, uu, uu, uu, uu] [(.int (1 : Int32)), (.int (3 : Int32))])) _
    refine XS.icmpYes Xd1.here hx rfl (pc0 := 229) (pc' := 240) rfl (hb hby at_229) rfl (feq (by decide : ¬ ((3 : Int32) = (1 : Int32)))).2 (by decide) (by decide) ?_
    show Steps p.tables e below (Td1.setTop (mkF m 240 #[.val (.int p1), .val (.int p2), .val (.int p3), .val (.int p4), .val (.int p5), .val (.int (3 : Int32)), .val (.ref wSUM), .val (.int (2 : Int32)), .val (.long x0), .second, .val (.long (x0 + y1)), .second, .val (.long ((x0 + y1) + y2)), .second, .val (.ref b), .val (.long (x0 + y1)), .second, .val (.long (x0 + (x0 + y1))), .second, uu, uu, uu, uu] [])) _
    refine XS.iload Xd1.here hx rfl (hb hby at_240) rfl ?_
    show Steps p.tables e below (Td1.setTop (mkF m 242 #[.val (.int p1), .val (.int p2), .val (.int p3), .val (.int p4), .val (.int p5), .val (.int (3 : Int32)), .val (.ref wSUM), .val (.int (2 : Int32)), .val (.long x0), .second, .val (.long (x0 + y1)), .second, .val (.long ((x0 + y1) + y2)), .second, .val (.ref b), .val (.long (x0 + y1)), .second, .val (.long (x0 + (x0 + y1))), .second, uu, uu, uu, uu] [(.int (3 : Int32))])) _
    refine XS.iconst Xd1.here hx rfl (hb hby at_242) ?_
    show Steps p.tables e below (Td1.setTop (mkF m 243 #[.val (.int p1), .val (.int p2), .val (.int p3), .val (.int p4), .val (.int p5), .val (.int (3 : Int32)), .val (.ref wSUM), .val (.int (2 : Int32)), .val (.long x0), .second, .val (.long (x0 + y1)), .second, .val (.long ((x0 + y1) + y2)), .second, .val (.ref b), .val (.long (x0 + y1)), .second, .val (.long (x0 + (x0 + y1))), .second, uu, uu, uu, uu] [(.int (2 : Int32)), (.int (3 : Int32))])) _
    refine XS.icmpYes Xd1.here hx rfl (pc0 := 243) (pc' := 258) rfl (hb hby at_243) rfl (feq (by decide : ¬ ((3 : Int32) = (2 : Int32)))).2 (by decide) (by decide) ?_
    show Steps p.tables e below (Td1.setTop (mkF m 258 #[.val (.int p1), .val (.int p2), .val (.int p3), .val (.int p4), .val (.int p5), .val (.int (3 : Int32)), .val (.ref wSUM), .val (.int (2 : Int32)), .val (.long x0), .second, .val (.long (x0 + y1)), .second, .val (.long ((x0 + y1) + y2)), .second, .val (.ref b), .val (.long (x0 + y1)), .second, .val (.long (x0 + (x0 + y1))), .second, uu, uu, uu, uu] [])) _
    refine XS.lload Xd1.here hx rfl (hb hby at_258) rfl ?_
    show Steps p.tables e below (Td1.setTop (mkF m 260 #[.val (.int p1), .val (.int p2), .val (.int p3), .val (.int p4), .val (.int p5), .val (.int (3 : Int32)), .val (.ref wSUM), .val (.int (2 : Int32)), .val (.long x0), .second, .val (.long (x0 + y1)), .second, .val (.long ((x0 + y1) + y2)), .second, .val (.ref b), .val (.long (x0 + y1)), .second, .val (.long (x0 + (x0 + y1))), .second, uu, uu, uu, uu] [(.long (x0 + (x0 + y1)))])) _
    refine XS.l2dS Xd1.here hx rfl (hb hby at_260) rfl (v := FP.l2d (x0 + (x0 + y1))) rfl ?_
    show Steps p.tables e below (Td1.setTop (mkF m 261 #[.val (.int p1), .val (.int p2), .val (.int p3), .val (.int p4), .val (.int p5), .val (.int (3 : Int32)), .val (.ref wSUM), .val (.int (2 : Int32)), .val (.long x0), .second, .val (.long (x0 + y1)), .second, .val (.long ((x0 + y1) + y2)), .second, .val (.ref b), .val (.long (x0 + y1)), .second, .val (.long (x0 + (x0 + y1))), .second, uu, uu, uu, uu] [(.double (FP.l2d (x0 + (x0 + y1))))])) _
    refine XS.dstore Xd1.here hx rfl (hb hby at_261) rfl (l' := #[.val (.int p1), .val (.int p2), .val (.int p3), .val (.int p4), .val (.int p5), .val (.int (3 : Int32)), .val (.ref wSUM), .val (.int (2 : Int32)), .val (.long x0), .second, .val (.long (x0 + y1)), .second, .val (.long ((x0 + y1) + y2)), .second, .val (.ref b), .val (.long (x0 + y1)), .second, .val (.long (x0 + (x0 + y1))), .second, .val (.double (FP.l2d (x0 + (x0 + y1)))), .second, uu, uu]) rfl ?_
    show Steps p.tables e below (Td1.setTop (mkF m 263 #[.val (.int p1), .val (.int p2), .val (.int p3), .val (.int p4), .val (.int p5), .val (.int (3 : Int32)), .val (.ref wSUM), .val (.int (2 : Int32)), .val (.long x0), .second, .val (.long (x0 + y1)), .second, .val (.long ((x0 + y1) + y2)), .second, .val (.ref b), .val (.long (x0 + y1)), .second, .val (.long (x0 + (x0 + y1))), .second, .val (.double (FP.l2d (x0 + (x0 + y1)))), .second, uu, uu] [])) _
    refine XS.aload Xd1.here hx rfl (hb hby at_263) rfl rfl ?_
    show Steps p.tables e below (Td1.setTop (mkF m 265 #[.val (.int p1), .val (.int p2), .val (.int p3), .val (.int p4), .val (.int p5), .val (.int (3 : Int32)), .val (.ref wSUM), .val (.int (2 : Int32)), .val (.long x0), .second, .val (.long (x0 + y1)), .second, .val (.long ((x0 + y1) + y2)), .second, .val (.ref b), .val (.long (x0 + y1)), .second, .val (.long (x0 + (x0 + y1))), .second, .val (.double (FP.l2d (x0 + (x0 + y1)))), .second, uu, uu] [(.ref wSUM)])) _
    refine XS.aload Xd1.here hx rfl (hb hby at_265) rfl rfl ?_
    show Steps p.tables e below (Td1.setTop (mkF m 267 #[.val (.int p1), .val (.int p2), .val (.int p3), .val (.int p4), .val (.int p5), .val (.int (3 : Int32)), .val (.ref wSUM), .val (.int (2 : Int32)), .val (.long x0), .second, .val (.long (x0 + y1)), .second, .val (.long ((x0 + y1) + y2)), .second, .val (.ref b), .val (.long (x0 + y1)), .second, .val (.long (x0 + (x0 + y1))), .second, .val (.double (FP.l2d (x0 + (x0 + y1)))), .second, uu, uu] [(.ref b), (.ref wSUM)])) _
    refine stc.trans ?_
    show Steps p.tables e below (Tc.setTop (mkF m 270 #[.val (.int p1), .val (.int p2), .val (.int p3), .val (.int p4), .val (.int p5), .val (.int (3 : Int32)), .val (.ref wSUM), .val (.int (2 : Int32)), .val (.long x0), .second, .val (.long (x0 + y1)), .second, .val (.long ((x0 + y1) + y2)), .second, .val (.ref b), .val (.long (x0 + y1)), .second, .val (.long (x0 + (x0 + y1))), .second, .val (.double (FP.l2d (x0 + (x0 + y1)))), .second, uu, uu] [(.double (FP.l2d (x0 + (x0 + y1))))])) _
    refine XS.dstore Xc.here hx rfl (hb hby at_270) rfl (l' := #[.val (.int p1), .val (.int p2), .val (.int p3), .val (.int p4), .val (.int p5), .val (.int (3 : Int32)), .val (.ref wSUM), .val (.int (2 : Int32)), .val (.long x0), .second, .val (.long (x0 + y1)), .second, .val (.long ((x0 + y1) + y2)), .second, .val (.ref b), .val (.long (x0 + y1)), .second, .val (.long (x0 + (x0 + y1))), .second, .val (.double (FP.l2d (x0 + (x0 + y1)))), .second, .val (.double (FP.l2d (x0 + (x0 + y1)))), .second]) rfl ?_
    show Steps p.tables e below (Tc.setTop (mkF m 272 #[.val (.int p1), .val (.int p2), .val (.int p3), .val (.int p4), .val (.int p5), .val (.int (3 : Int32)), .val (.ref wSUM), .val (.int (2 : Int32)), .val (.long x0), .second, .val (.long (x0 + y1)), .second, .val (.long ((x0 + y1) + y2)), .second, .val (.ref b), .val (.long (x0 + y1)), .second, .val (.long (x0 + (x0 + y1))), .second, .val (.double (FP.l2d (x0 + (x0 + y1)))), .second, .val (.double (FP.l2d (x0 + (x0 + y1)))), .second] [])) _
    refine XS.dload Xc.here hx rfl (hb hby at_272) rfl ?_
    show Steps p.tables e below (Tc.setTop (mkF m 274 #[.val (.int p1), .val (.int p2), .val (.int p3), .val (.int p4), .val (.int p5), .val (.int (3 : Int32)), .val (.ref wSUM), .val (.int (2 : Int32)), .val (.long x0), .second, .val (.long (x0 + y1)), .second, .val (.long ((x0 + y1) + y2)), .second, .val (.ref b), .val (.long (x0 + y1)), .second, .val (.long (x0 + (x0 + y1))), .second, .val (.double (FP.l2d (x0 + (x0 + y1)))), .second, .val (.double (FP.l2d (x0 + (x0 + y1)))), .second] [(.double (FP.l2d (x0 + (x0 + y1))))])) _
    refine XS.dload Xc.here hx rfl (hb hby at_274) rfl ?_
    show Steps p.tables e below (Tc.setTop (mkF m 276 #[.val (.int p1), .val (.int p2), .val (.int p3), .val (.int p4), .val (.int p5), .val (.int (3 : Int32)), .val (.ref wSUM), .val (.int (2 : Int32)), .val (.long x0), .second, .val (.long (x0 + y1)), .second, .val (.long ((x0 + y1) + y2)), .second, .val (.ref b), .val (.long (x0 + y1)), .second, .val (.long (x0 + (x0 + y1))), .second, .val (.double (FP.l2d (x0 + (x0 + y1)))), .second, .val (.double (FP.l2d (x0 + (x0 + y1)))), .second] [(.double (FP.l2d (x0 + (x0 + y1)))), (.double (FP.l2d (x0 + (x0 + y1))))])) _
    refine XS.dcmpS Xc.here hx rfl (hb hby at_276) rfl (v := (0 : Int32)) (dcmpV_self (own_l2d _) _) ?_
    show Steps p.tables e below (Tc.setTop (mkF m 277 #[.val (.int p1), .val (.int p2), .val (.int p3), .val (.int p4), .val (.int p5), .val (.int (3 : Int32)), .val (.ref wSUM), .val (.int (2 : Int32)), .val (.long x0), .second, .val (.long (x0 + y1)), .second, .val (.long ((x0 + y1) + y2)), .second, .val (.ref b), .val (.long (x0 + y1)), .second, .val (.long (x0 + (x0 + y1))), .second, .val (.double (FP.l2d (x0 + (x0 + y1)))), .second, .val (.double (FP.l2d (x0 + (x0 + y1)))), .second] [(.int (0 : Int32))])) _
    refine XS.ifNo Xc.here hx rfl (hb hby at_277) rfl ((if0 _ _).trans (teq (by decide : (0 : Int32) = (0 : Int32))).2) ?_
    show Steps p.tables e below (Tc.setTop (mkF m 280 #[.val (.int p1), .val (.int p2), .val (.int p3), .val (.int p4), .val (.int p5), .val (.int (3 : Int32)), .val (.ref wSUM), .val (.int (2 : Int32)), .val (.long x0), .second, .val (.long (x0 + y1)), .second, .val (.long ((x0 + y1) + y2)), .second, .val (.ref b), .val (.long (x0 + y1)), .second, .val (.long (x0 + (x0 + y1))), .second, .val (.double (FP.l2d (x0 + (x0 + y1)))), .second, .val (.double (FP.l2d (x0 + (x0 + y1)))), .second] [])) _
    refine XS.iconst Xc.here hx rfl (hb hby at_280) ?_
    show Steps p.tables e below (Tc.setTop (mkF m 281 #[.val (.int p1), .val (.int p2), .val (.int p3), .val (.int p4), .val (.int p5), .val (.int (3 : Int32)), .val (.ref wSUM), .val (.int (2 : Int32)), .val (.long x0), .second, .val (.long (x0 + y1)), .second, .val (.long ((x0 + y1) + y2)), .second, .val (.ref b), .val (.long (x0 + y1)), .second, .val (.long (x0 + (x0 + y1))), .second, .val (.double (FP.l2d (x0 + (x0 + y1)))), .second, .val (.double (FP.l2d (x0 + (x0 + y1)))), .second] [(.int (1 : Int32))])) _
    refine XS.goto Xc.here hx rfl (pc0 := 281) (pc' := 285) rfl (hb hby at_281) (by decide) (by decide) ?_
    show Steps p.tables e below (Tc.setTop (mkF m 285 #[.val (.int p1), .val (.int p2), .val (.int p3), .val (.int p4), .val (.int p5), .val (.int (3 : Int32)), .val (.ref wSUM), .val (.int (2 : Int32)), .val (.long x0), .second, .val (.long (x0 + y1)), .second, .val (.long ((x0 + y1) + y2)), .second, .val (.ref b), .val (.long (x0 + y1)), .second, .val (.long (x0 + (x0 + y1))), .second, .val (.double (FP.l2d (x0 + (x0 + y1)))), .second, .val (.double (FP.l2d (x0 + (x0 + y1)))), .second] [(.int (1 : Int32))])) _
    exact retN Xc hx (t := .boolean) Bd.returns (by simp) (hb hby at_285) hr
  · show Q0 h0 n0 _ Tc.heap _
    exact ⟨rfl, Nc⟩
set_option maxRecDepth 65536 in
set_option maxHeartbeats 40000000 in
theorem rm0_3_3 (l : Launch) (Z : State) (a0 : Array Value) (hw : ∀ d ∈ tables_1, d.before a0 Z = true) (ws : List Jvm.Cond) (p1 p2 p3 p4 p5 : Int32) (wMIN wMAX wAVG wSUM : Addr) (x0 y1 y2 : Int64) (h0 : Heap) (n0 : Nat) (Z0 : n0 ≤ h0.size) (S_MIN : Sta Z h0 "com/example/tiebreaker/tiebreaker/engine/search/DecayFunction$MultiValueMode" "MIN" "Lcom/example/tiebreaker/tiebreaker/engine/search/DecayFunction$MultiValueMode;" (.ref wMIN)) (S_MAX : Sta Z h0 "com/example/tiebreaker/tiebreaker/engine/search/DecayFunction$MultiValueMode" "MAX" "Lcom/example/tiebreaker/tiebreaker/engine/search/DecayFunction$MultiValueMode;" (.ref wMAX)) (S_AVG : Sta Z h0 "com/example/tiebreaker/tiebreaker/engine/search/DecayFunction$MultiValueMode" "AVG" "Lcom/example/tiebreaker/tiebreaker/engine/search/DecayFunction$MultiValueMode;" (.ref wAVG)) (S_SUM : Sta Z h0 "com/example/tiebreaker/tiebreaker/engine/search/DecayFunction$MultiValueMode" "SUM" "Lcom/example/tiebreaker/tiebreaker/engine/search/DecayFunction$MultiValueMode;" (.ref wSUM)) (nXI : ¬ wMAX = wMIN) (nAI : ¬ wAVG = wMIN) (nAX : ¬ wAVG = wMAX) (nSI : ¬ wSUM = wMIN) (nSX : ¬ wSUM = wMAX) (nAS : ¬ wAVG = wSUM) (E_m : Exa Z h0 wSUM "com/example/tiebreaker/tiebreaker/engine/search/DecayFunction$MultiValueMode") (hx0 : x0 = (p3 &&& (1048575 : Int32)).toInt64) (hy1 : y1 = (p4 &&& (1048575 : Int32)).toInt64) (hy2 : y2 = (p5 &&& (1048575 : Int32)).toInt64) (b0 : 0 ≤ x0.toInt ∧ x0.toInt < 4000000) (b1 : 0 ≤ (x0 + y1).toInt ∧ (x0 + y1).toInt < 4000000) (b2 : 0 ≤ ((x0 + y1) + y2).toInt ∧ ((x0 + y1) + y2).toInt < 4000000) (hm : (p1 &&& (3 : Int32)) = (3 : Int32)) (hn : (((p2 &&& (2147483647 : Int32)) % (3 : Int32)) + (1 : Int32)) = (3 : Int32)) :
    MetFree l x (head1 (Jvm.Cond.code x code maxLocals ret :: ws) room_1) (fun a U => a = #[(.int p1), (.int p2), (.int p3), (.int p4), (.int p5)] ∧ Z.Warmed39 U.vm ∧ U.heap = h0) (fun _ _ _ _ _ => True) (fun _ U o U' => ∃ v L, o = .returned v ∧ Q0 h0 n0 v U'.heap L ∧ FrameEnd U o U' L room_1.cells room_1.slots) := by
  refine MetFree.of_bodySF (plainFor_of_name pn_0) hisR ?_
  intro p e s m args below meth c s₁ Bd hml0 hP hK
  obtain ⟨rfl, hZ, hh⟩ := hP
  have hx := Bd.exec
  have hby := Bd.bytes
  have hml : c.maxLocals = 23 := hml0
  have hown : s.vm.findClass "com/example/tiebreaker/tiebreaker/engine/search/MultiValueModePickPinLaw" = some m.cls := findClass_of_methodNamed Bd.named
  have X0 : Stand p l e room_1 s m #[(.int p1), (.int p2), (.int p3), (.int p4), (.int p5)] below meth c s₁ [] 0 0 := Stand.of_body Bd
  have e0 : s₁.heap = h0 := by rw [← hh, Bd.state]; rfl
  have N0 := Fr.nil n0
  have pre0 : ∀ t, Steps p.tables e below (s₁.setTop (mkF m 0 #[.val (.int p1), .val (.int p2), .val (.int p3), .val (.int p4), .val (.int p5), uu, uu, uu, uu, uu, uu, uu, uu, uu, uu, uu, uu, uu, uu, uu, uu, uu, uu] [])) t → Steps p.tables e below (s₁.setTop (entryFrame m #[(.int p1), (.int p2), (.int p3), (.int p4), (.int p5)] maxLocals)) t := fun t k => castTop (ef_0 m p1 p2 p3 p4 p5) k
  obtain ⟨T50, X50, e50, st50⟩ := getS2 X0 hx hZ hown (host := "") (Or.inl (hw _ (List.mem_of_getElem? (i := 12) rfl))) Via.refl e0 S_SUM (g := (mkF m 40 #[.val (.int p1), .val (.int p2), .val (.int p3), .val (.int p4), .val (.int p5), .val (.int (3 : Int32)), uu, uu, uu, uu, uu, uu, uu, uu, uu, uu, uu, uu, uu, uu, uu, uu, uu] [])) rfl (hb hby at_40)
  obtain ⟨Ta, ha, ka, Xa, ea, Ea, Aa, sta_⟩ := newP X50 hx hZ (hw _ (List.mem_of_getElem? (i := 5) rfl)) e50 (g := (mkF m 130 #[.val (.int p1), .val (.int p2), .val (.int p3), .val (.int p4), .val (.int p5), .val (.int (3 : Int32)), .val (.ref wSUM), .val (.int (3 : Int32)), .val (.long x0), .second, .val (.long (x0 + y1)), .second, .val (.long ((x0 + y1) + y2)), .second, uu, uu, uu, uu, uu, uu, uu, uu, uu] [(.int (3 : Int32))])) rfl (hb hby at_130) rfl (by decide) (cap := 3) (by decide) (by decide) (by decide) (by decide)
  obtain ⟨b, gb⟩ : ∃ z, z = h0.size := ⟨_, rfl⟩
  rw [← gb] at Aa sta_
  have V0 : Arv Z ha b ka .double (3 : Int32) [] (.double (FP.l2d 0)) := Arv.newD Aa (by decide)
  have Vp : Arv Z ha b ka .double (3 : Int32) (List.replicate 3 (.double (FP.l2d 0))) (.double (FP.l2d 0)) := V0.pad (pad_rep [] (.double (FP.l2d 0)) 3)
  have g_b : n0 ≤ b := Nat.le_trans Z0 (Nat.le_of_eq gb.symm)
  have sz_b : h0.size ≤ b := Nat.le_of_eq gb.symm
  have Ka : Keep h0 ha [] := (Keep.refl h0 []).ext Ea
  obtain ⟨cl0, Ar0, q0, Sz0, M0, H0, U0⟩ := Vp
  obtain ⟨Td0, hd0, Xd0, ed0, Wd0, std0⟩ := stD Xa hx hZ ea Ar0 (j := (0 : Int32)) (inb_of Sz0 (by decide)) (g := (mkF m 137 #[.val (.int p1), .val (.int p2), .val (.int p3), .val (.int p4), .val (.int p5), .val (.int (3 : Int32)), .val (.ref wSUM), .val (.int (3 : Int32)), .val (.long x0), .second, .val (.long (x0 + y1)), .second, .val (.long ((x0 + y1) + y2)), .second, uu, uu, uu, uu, uu, uu, uu, uu, uu] [(.double (FP.l2d x0)), (.int (0 : Int32)), (.ref b), (.ref b)])) rfl rfl (hb hby at_137)
  have V1 := Arv.set Ar0 q0 Sz0 M0 H0 U0 (v := (.double (FP.l2d x0))) rfl Wd0 0 rfl (by simp)
  have Nd0 := Fr.snoc Xd0 N0 g_b
  have Kd0 : Keep h0 hd0 [] := Ka.wr Wd0 (Or.inr sz_b)
  obtain ⟨cl1, Ar1, q1, Sz1, M1, H1, U1⟩ := V1
  obtain ⟨Td1, hd1, Xd1, ed1, Wd1, std1⟩ := stD Xd0 hx hZ ed0 Ar1 (j := (1 : Int32)) (inb_of Sz1 (by decide)) (g := (mkF m 143 #[.val (.int p1), .val (.int p2), .val (.int p3), .val (.int p4), .val (.int p5), .val (.int (3 : Int32)), .val (.ref wSUM), .val (.int (3 : Int32)), .val (.long x0), .second, .val (.long (x0 + y1)), .second, .val (.long ((x0 + y1) + y2)), .second, uu, uu, uu, uu, uu, uu, uu, uu, uu] [(.double (FP.l2d (x0 + y1))), (.int (1 : Int32)), (.ref b), (.ref b)])) rfl rfl (hb hby at_143)
  have V2 := Arv.set Ar1 q1 Sz1 M1 H1 U1 (v := (.double (FP.l2d (x0 + y1)))) rfl Wd1 1 rfl (by simp)
  have Nd1 := Fr.snoc Xd1 Nd0 g_b
  have Kd1 : Keep h0 hd1 [] := Kd0.wr Wd1 (Or.inr sz_b)
  obtain ⟨cl2, Ar2, q2, Sz2, M2, H2, U2⟩ := V2
  obtain ⟨Td2, hd2, Xd2, ed2, Wd2, std2⟩ := stD Xd1 hx hZ ed1 Ar2 (j := (2 : Int32)) (inb_of Sz2 (by decide)) (g := (mkF m 149 #[.val (.int p1), .val (.int p2), .val (.int p3), .val (.int p4), .val (.int p5), .val (.int (3 : Int32)), .val (.ref wSUM), .val (.int (3 : Int32)), .val (.long x0), .second, .val (.long (x0 + y1)), .second, .val (.long ((x0 + y1) + y2)), .second, uu, uu, uu, uu, uu, uu, uu, uu, uu] [(.double (FP.l2d ((x0 + y1) + y2))), (.int (2 : Int32)), (.ref b), (.ref b)])) rfl rfl (hb hby at_149)
  have V3 := Arv.set Ar2 q2 Sz2 M2 H2 U2 (v := (.double (FP.l2d ((x0 + y1) + y2)))) rfl Wd2 2 rfl (by simp)
  have Nd2 := Fr.snoc Xd2 Nd1 g_b
  have Kd2 : Keep h0 hd2 [] := Kd1.wr Wd2 (Or.inr sz_b)
  have KK : Keep h0 hd2 [] := Kd2
  obtain ⟨cl, Ar, -, Sz, Nn, Hh, -⟩ := V3
  have hat0 : cl.slots[0]? = some (.double (FP.l2d x0)) := Hh 0 (by rw [Sz]; decide)
  have hat1 : cl.slots[1]? = some (.double (FP.l2d (x0 + y1))) := Hh 1 (by rw [Sz]; decide)
  have hat2 : cl.slots[2]? = some (.double (FP.l2d ((x0 + y1) + y2))) := Hh 2 (by rw [Sz]; decide)
  obtain ⟨cq, kq, qa, qb, qc⟩ := isOf hZ ed2 (E_m.keep KK)
  obtain ⟨_, _, ⟨Tc, Lc, kc, nc⟩, -, Xc, ⟨Lcc, hQc, lc, yc, zc⟩, stc⟩ := Xd2.virtualBack hx (y := (⟨"com/example/tiebreaker/tiebreaker/engine/search/DecayFunction$MultiValueMode", "pick", "([D)D"⟩ : MethodName)) (z := (⟨"com/example/tiebreaker/tiebreaker/engine/search/DecayFunction$MultiValueMode", "pick", "([D)D"⟩ : MethodName)) hown (mvT hZ (hw _ (List.mem_of_getElem? (i := 6) rfl))) (mvT hZ (hw _ (List.mem_of_getElem? (i := 7) rfl))) (notFace_of_selects (args := #[]) (mvT hZ (hw _ (List.mem_of_getElem? (i := 9) rfl)))) (mvT hZ (hw _ (List.mem_of_getElem? (i := 9) rfl))) (mvT hZ (hw _ (List.mem_of_getElem? (i := 8) rfl))) (by decide) (backOf (W := 0) (rm1_SUM_3 l Z a0 hw [] b wMIN wMAX wAVG wSUM x0 (x0 + y1) ((x0 + y1) + y2) hd2 n0 (Nat.le_trans Z0 KK.1) (own_sta S_MIN KK) (own_sta S_MAX KK) (own_sta S_AVG KK) (own_sta S_SUM KK) nXI nAI nAX nSI nSX nAS cl Ar Sz Nn hat0 hat1 hat2 b0 b1 b2) hZ (hw _ (List.mem_of_getElem? (i := 10) rfl)) (hw _ (List.mem_of_getElem? (i := 1) rfl)) (by decide) (by decide)) qa qc (g := (mkF m 267 #[.val (.int p1), .val (.int p2), .val (.int p3), .val (.int p4), .val (.int p5), .val (.int (3 : Int32)), .val (.ref wSUM), .val (.int (3 : Int32)), .val (.long x0), .second, .val (.long (x0 + y1)), .second, .val (.long ((x0 + y1) + y2)), .second, .val (.ref b), .val (.long ((x0 + y1) + y2)), .second, .val (.long ((x0 + (x0 + y1)) + ((x0 + y1) + y2))), .second, .val (.double (FP.l2d ((x0 + (x0 + y1)) + ((x0 + y1) + y2)))), .second, uu, uu] [(.ref b), (.ref wSUM)])) rfl (by rw [hml]; rfl) (Steps.refl _) (argsL := [(.ref b)]) (rest := []) (lenOf pd_0 rfl) rfl (by show 2 * 0 + _ ≤ _; exact Nat.le_of_eq rfl) (hb hby at_267) (fun _ _ => ⟨rfl, ed2, (by decide : 0 + 1 + 0 ≤ _), (by decide : 0 + 3 + 0 ≤ _)⟩)
  dsimp only [Pt.U, Pt.locs, Pt.cells, Pt.slots] at Xc lc yc zc stc hQc
  subst lc yc zc
  obtain ⟨rfl, Ncq, ec⟩ := hQc
  have Nc := Fr.app Nd2 Ncq
  obtain ⟨fs, hr, hrun, hended, hW, hsame⟩ := Xc.leave (v := some (.int (1 : Int32))) (fun h => by rw [Bd.returns] at h; cases h)
  refine ⟨_, _, pre0 _ ?_, hrun, hended, _, _, rfl, ?_, ⟨_, rfl⟩, hW, hsame.mono (by decide) (by decide)⟩
  · show Steps p.tables e below (s₁.setTop (mkF m 0 #[.val (.int p1), .val (.int p2), .val (.int p3), .val (.int p4), .val (.int p5), uu, uu, uu, uu, uu, uu, uu, uu, uu, uu, uu, uu, uu, uu, uu, uu, uu, uu] [])) _
    refine XS.iloadN X0.here hx rfl (hb hby at_0) rfl ?_
    show Steps p.tables e below (s₁.setTop (mkF m 1 #[.val (.int p1), .val (.int p2), .val (.int p3), .val (.int p4), .val (.int p5), uu, uu, uu, uu, uu, uu, uu, uu, uu, uu, uu, uu, uu, uu, uu, uu, uu, uu] [(.int p1)])) _
    refine XS.iconst X0.here hx rfl (hb hby at_1) ?_
    show Steps p.tables e below (s₁.setTop (mkF m 2 #[.val (.int p1), .val (.int p2), .val (.int p3), .val (.int p4), .val (.int p5), uu, uu, uu, uu, uu, uu, uu, uu, uu, uu, uu, uu, uu, uu, uu, uu, uu, uu] [(.int (3 : Int32)), (.int p1)])) _
    refine XS.iand X0.here hx rfl (hb hby at_2) rfl ?_
    show Steps p.tables e below (s₁.setTop (mkF m 3 #[.val (.int p1), .val (.int p2), .val (.int p3), .val (.int p4), .val (.int p5), uu, uu, uu, uu, uu, uu, uu, uu, uu, uu, uu, uu, uu, uu, uu, uu, uu, uu] [(.int (p1 &&& (3 : Int32)))])) _
    rw [hm]
    show Steps p.tables e below (s₁.setTop (mkF m 3 #[.val (.int p1), .val (.int p2), .val (.int p3), .val (.int p4), .val (.int p5), uu, uu, uu, uu, uu, uu, uu, uu, uu, uu, uu, uu, uu, uu, uu, uu, uu, uu] [(.int (3 : Int32))])) _
    refine XS.istore X0.here hx rfl (hb hby at_3) rfl (l' := #[.val (.int p1), .val (.int p2), .val (.int p3), .val (.int p4), .val (.int p5), .val (.int (3 : Int32)), uu, uu, uu, uu, uu, uu, uu, uu, uu, uu, uu, uu, uu, uu, uu, uu, uu]) rfl ?_
    show Steps p.tables e below (s₁.setTop (mkF m 5 #[.val (.int p1), .val (.int p2), .val (.int p3), .val (.int p4), .val (.int p5), .val (.int (3 : Int32)), uu, uu, uu, uu, uu, uu, uu, uu, uu, uu, uu, uu, uu, uu, uu, uu, uu] [])) _
    refine XS.iload X0.here hx rfl (hb hby at_5) rfl ?_
    show Steps p.tables e below (s₁.setTop (mkF m 7 #[.val (.int p1), .val (.int p2), .val (.int p3), .val (.int p4), .val (.int p5), .val (.int (3 : Int32)), uu, uu, uu, uu, uu, uu, uu, uu, uu, uu, uu, uu, uu, uu, uu, uu, uu] [(.int (3 : Int32))])) _
    refine XS.ifYes X0.here hx rfl (pc0 := 7) (pc' := 16) rfl (hb hby at_7) rfl ((if0 _ _).trans (feq (by decide : ¬ ((3 : Int32) = (0 : Int32)))).2) (by decide) (by decide) ?_
    show Steps p.tables e below (s₁.setTop (mkF m 16 #[.val (.int p1), .val (.int p2), .val (.int p3), .val (.int p4), .val (.int p5), .val (.int (3 : Int32)), uu, uu, uu, uu, uu, uu, uu, uu, uu, uu, uu, uu, uu, uu, uu, uu, uu] [])) _
    refine XS.iload X0.here hx rfl (hb hby at_16) rfl ?_
    show Steps p.tables e below (s₁.setTop (mkF m 18 #[.val (.int p1), .val (.int p2), .val (.int p3), .val (.int p4), .val (.int p5), .val (.int (3 : Int32)), uu, uu, uu, uu, uu, uu, uu, uu, uu, uu, uu, uu, uu, uu, uu, uu, uu] [(.int (3 : Int32))])) _
    refine XS.iconst X0.here hx rfl (hb hby at_18) ?_
    show Steps p.tables e below (s₁.setTop (mkF m 19 #[.val (.int p1), .val (.int p2), .val (.int p3), .val (.int p4), .val (.int p5), .val (.int (3 : Int32)), uu, uu, uu, uu, uu, uu, uu, uu, uu, uu, uu, uu, uu, uu, uu, uu, uu] [(.int (1 : Int32)), (.int (3 : Int32))])) _
    refine XS.icmpYes X0.here hx rfl (pc0 := 19) (pc' := 28) rfl (hb hby at_19) rfl (feq (by decide : ¬ ((3 : Int32) = (1 : Int32)))).2 (by decide) (by decide) ?_
    show Steps p.tables e below (s₁.setTop (mkF m 28 #[.val (.int p1), .val (.int p2), .val (.int p3), .val (.int p4), .val (.int p5), .val (.int (3 : Int32)), uu, uu, uu, uu, uu, uu, uu, uu, uu, uu, uu, uu, uu, uu, uu, uu, uu] [])) _
    refine XS.iload X0.here hx rfl (hb hby at_28) rfl ?_
    show Steps p.tables e below (s₁.setTop (mkF m 30 #[.val (.int p1), .val (.int p2), .val (.int p3), .val (.int p4), .val (.int p5), .val (.int (3 : Int32)), uu, uu, uu, uu, uu, uu, uu, uu, uu, uu, uu, uu, uu, uu, uu, uu, uu] [(.int (3 : Int32))])) _
    refine XS.iconst X0.here hx rfl (hb hby at_30) ?_
    show Steps p.tables e below (s₁.setTop (mkF m 31 #[.val (.int p1), .val (.int p2), .val (.int p3), .val (.int p4), .val (.int p5), .val (.int (3 : Int32)), uu, uu, uu, uu, uu, uu, uu, uu, uu, uu, uu, uu, uu, uu, uu, uu, uu] [(.int (2 : Int32)), (.int (3 : Int32))])) _
    refine XS.icmpYes X0.here hx rfl (pc0 := 31) (pc' := 40) rfl (hb hby at_31) rfl (feq (by decide : ¬ ((3 : Int32) = (2 : Int32)))).2 (by decide) (by decide) ?_
    show Steps p.tables e below (s₁.setTop (mkF m 40 #[.val (.int p1), .val (.int p2), .val (.int p3), .val (.int p4), .val (.int p5), .val (.int (3 : Int32)), uu, uu, uu, uu, uu, uu, uu, uu, uu, uu, uu, uu, uu, uu, uu, uu, uu] [])) _
    refine st50 _ ?_
    show Steps p.tables e below (T50.setTop (mkF m 43 #[.val (.int p1), .val (.int p2), .val (.int p3), .val (.int p4), .val (.int p5), .val (.int (3 : Int32)), uu, uu, uu, uu, uu, uu, uu, uu, uu, uu, uu, uu, uu, uu, uu, uu, uu] [(.ref wSUM)])) _
    refine XS.astore X50.here hx rfl (hb hby at_43) rfl rfl (l' := #[.val (.int p1), .val (.int p2), .val (.int p3), .val (.int p4), .val (.int p5), .val (.int (3 : Int32)), .val (.ref wSUM), uu, uu, uu, uu, uu, uu, uu, uu, uu, uu, uu, uu, uu, uu, uu, uu]) rfl ?_
    show Steps p.tables e below (T50.setTop (mkF m 45 #[.val (.int p1), .val (.int p2), .val (.int p3), .val (.int p4), .val (.int p5), .val (.int (3 : Int32)), .val (.ref wSUM), uu, uu, uu, uu, uu, uu, uu, uu, uu, uu, uu, uu, uu, uu, uu, uu] [])) _
    refine XS.iloadN X50.here hx rfl (hb hby at_45) rfl ?_
    show Steps p.tables e below (T50.setTop (mkF m 46 #[.val (.int p1), .val (.int p2), .val (.int p3), .val (.int p4), .val (.int p5), .val (.int (3 : Int32)), .val (.ref wSUM), uu, uu, uu, uu, uu, uu, uu, uu, uu, uu, uu, uu, uu, uu, uu, uu] [(.int p2)])) _
    refine X50.ldcInt hx hown (mvT hZ (hw _ (List.mem_of_getElem? (i := 3) rfl))) (g := (mkF m 46 #[.val (.int p1), .val (.int p2), .val (.int p3), .val (.int p4), .val (.int p5), .val (.int (3 : Int32)), .val (.ref wSUM), uu, uu, uu, uu, uu, uu, uu, uu, uu, uu, uu, uu, uu, uu, uu, uu] [(.int p2)])) rfl (hb hby at_46) _ ?_
    show Steps p.tables e below (T50.setTop (mkF m 48 #[.val (.int p1), .val (.int p2), .val (.int p3), .val (.int p4), .val (.int p5), .val (.int (3 : Int32)), .val (.ref wSUM), uu, uu, uu, uu, uu, uu, uu, uu, uu, uu, uu, uu, uu, uu, uu, uu] [(.int (2147483647 : Int32)), (.int p2)])) _
    refine XS.iand X50.here hx rfl (hb hby at_48) rfl ?_
    show Steps p.tables e below (T50.setTop (mkF m 49 #[.val (.int p1), .val (.int p2), .val (.int p3), .val (.int p4), .val (.int p5), .val (.int (3 : Int32)), .val (.ref wSUM), uu, uu, uu, uu, uu, uu, uu, uu, uu, uu, uu, uu, uu, uu, uu, uu] [(.int (p2 &&& (2147483647 : Int32)))])) _
    refine XS.iconst X50.here hx rfl (hb hby at_49) ?_
    show Steps p.tables e below (T50.setTop (mkF m 50 #[.val (.int p1), .val (.int p2), .val (.int p3), .val (.int p4), .val (.int p5), .val (.int (3 : Int32)), .val (.ref wSUM), uu, uu, uu, uu, uu, uu, uu, uu, uu, uu, uu, uu, uu, uu, uu, uu] [(.int (3 : Int32)), (.int (p2 &&& (2147483647 : Int32)))])) _
    refine iremM X50 hx rfl (hb hby at_50) rfl (by decide) ?_
    show Steps p.tables e below (T50.setTop (mkF m 51 #[.val (.int p1), .val (.int p2), .val (.int p3), .val (.int p4), .val (.int p5), .val (.int (3 : Int32)), .val (.ref wSUM), uu, uu, uu, uu, uu, uu, uu, uu, uu, uu, uu, uu, uu, uu, uu, uu] [(.int ((p2 &&& (2147483647 : Int32)) % (3 : Int32)))])) _
    refine XS.iconst X50.here hx rfl (hb hby at_51) ?_
    show Steps p.tables e below (T50.setTop (mkF m 52 #[.val (.int p1), .val (.int p2), .val (.int p3), .val (.int p4), .val (.int p5), .val (.int (3 : Int32)), .val (.ref wSUM), uu, uu, uu, uu, uu, uu, uu, uu, uu, uu, uu, uu, uu, uu, uu, uu] [(.int (1 : Int32)), (.int ((p2 &&& (2147483647 : Int32)) % (3 : Int32)))])) _
    refine XS.iadd X50.here hx rfl (hb hby at_52) rfl ?_
    show Steps p.tables e below (T50.setTop (mkF m 53 #[.val (.int p1), .val (.int p2), .val (.int p3), .val (.int p4), .val (.int p5), .val (.int (3 : Int32)), .val (.ref wSUM), uu, uu, uu, uu, uu, uu, uu, uu, uu, uu, uu, uu, uu, uu, uu, uu] [(.int (((p2 &&& (2147483647 : Int32)) % (3 : Int32)) + (1 : Int32)))])) _
    rw [hn]
    show Steps p.tables e below (T50.setTop (mkF m 53 #[.val (.int p1), .val (.int p2), .val (.int p3), .val (.int p4), .val (.int p5), .val (.int (3 : Int32)), .val (.ref wSUM), uu, uu, uu, uu, uu, uu, uu, uu, uu, uu, uu, uu, uu, uu, uu, uu] [(.int (3 : Int32))])) _
    refine XS.istore X50.here hx rfl (hb hby at_53) rfl (l' := #[.val (.int p1), .val (.int p2), .val (.int p3), .val (.int p4), .val (.int p5), .val (.int (3 : Int32)), .val (.ref wSUM), .val (.int (3 : Int32)), uu, uu, uu, uu, uu, uu, uu, uu, uu, uu, uu, uu, uu, uu, uu]) rfl ?_
    show Steps p.tables e below (T50.setTop (mkF m 55 #[.val (.int p1), .val (.int p2), .val (.int p3), .val (.int p4), .val (.int p5), .val (.int (3 : Int32)), .val (.ref wSUM), .val (.int (3 : Int32)), uu, uu, uu, uu, uu, uu, uu, uu, uu, uu, uu, uu, uu, uu, uu] [])) _
    refine XS.iloadN X50.here hx rfl (hb hby at_55) rfl ?_
    show Steps p.tables e below (T50.setTop (mkF m 56 #[.val (.int p1), .val (.int p2), .val (.int p3), .val (.int p4), .val (.int p5), .val (.int (3 : Int32)), .val (.ref wSUM), .val (.int (3 : Int32)), uu, uu, uu, uu, uu, uu, uu, uu, uu, uu, uu, uu, uu, uu, uu] [(.int p3)])) _
    refine X50.ldcInt hx hown (mvT hZ (hw _ (List.mem_of_getElem? (i := 4) rfl))) (g := (mkF m 56 #[.val (.int p1), .val (.int p2), .val (.int p3), .val (.int p4), .val (.int p5), .val (.int (3 : Int32)), .val (.ref wSUM), .val (.int (3 : Int32)), uu, uu, uu, uu, uu, uu, uu, uu, uu, uu, uu, uu, uu, uu, uu] [(.int p3)])) rfl (hb hby at_56) _ ?_
    show Steps p.tables e below (T50.setTop (mkF m 58 #[.val (.int p1), .val (.int p2), .val (.int p3), .val (.int p4), .val (.int p5), .val (.int (3 : Int32)), .val (.ref wSUM), .val (.int (3 : Int32)), uu, uu, uu, uu, uu, uu, uu, uu, uu, uu, uu, uu, uu, uu, uu] [(.int (1048575 : Int32)), (.int p3)])) _
    refine XS.iand X50.here hx rfl (hb hby at_58) rfl ?_
    show Steps p.tables e below (T50.setTop (mkF m 59 #[.val (.int p1), .val (.int p2), .val (.int p3), .val (.int p4), .val (.int p5), .val (.int (3 : Int32)), .val (.ref wSUM), .val (.int (3 : Int32)), uu, uu, uu, uu, uu, uu, uu, uu, uu, uu, uu, uu, uu, uu, uu] [(.int (p3 &&& (1048575 : Int32)))])) _
    refine XS.i2l X50.here hx rfl (hb hby at_59) rfl ?_
    show Steps p.tables e below (T50.setTop (mkF m 60 #[.val (.int p1), .val (.int p2), .val (.int p3), .val (.int p4), .val (.int p5), .val (.int (3 : Int32)), .val (.ref wSUM), .val (.int (3 : Int32)), uu, uu, uu, uu, uu, uu, uu, uu, uu, uu, uu, uu, uu, uu, uu] [(.long ((p3 &&& (1048575 : Int32)).toInt64))])) _
    rw [← hx0]
    show Steps p.tables e below (T50.setTop (mkF m 60 #[.val (.int p1), .val (.int p2), .val (.int p3), .val (.int p4), .val (.int p5), .val (.int (3 : Int32)), .val (.ref wSUM), .val (.int (3 : Int32)), uu, uu, uu, uu, uu, uu, uu, uu, uu, uu, uu, uu, uu, uu, uu] [(.long x0)])) _
    refine XS.lstore X50.here hx rfl (hb hby at_60) rfl (l' := #[.val (.int p1), .val (.int p2), .val (.int p3), .val (.int p4), .val (.int p5), .val (.int (3 : Int32)), .val (.ref wSUM), .val (.int (3 : Int32)), .val (.long x0), .second, uu, uu, uu, uu, uu, uu, uu, uu, uu, uu, uu, uu, uu]) rfl ?_
    show Steps p.tables e below (T50.setTop (mkF m 62 #[.val (.int p1), .val (.int p2), .val (.int p3), .val (.int p4), .val (.int p5), .val (.int (3 : Int32)), .val (.ref wSUM), .val (.int (3 : Int32)), .val (.long x0), .second, uu, uu, uu, uu, uu, uu, uu, uu, uu, uu, uu, uu, uu] [])) _
    refine XS.lload X50.here hx rfl (hb hby at_62) rfl ?_
    show Steps p.tables e below (T50.setTop (mkF m 64 #[.val (.int p1), .val (.int p2), .val (.int p3), .val (.int p4), .val (.int p5), .val (.int (3 : Int32)), .val (.ref wSUM), .val (.int (3 : Int32)), .val (.long x0), .second, uu, uu, uu, uu, uu, uu, uu, uu, uu, uu, uu, uu, uu] [(.long x0)])) _
    refine XS.iloadN X50.here hx rfl (hb hby at_64) rfl ?_
    show Steps p.tables e below (T50.setTop (mkF m 65 #[.val (.int p1), .val (.int p2), .val (.int p3), .val (.int p4), .val (.int p5), .val (.int (3 : Int32)), .val (.ref wSUM), .val (.int (3 : Int32)), .val (.long x0), .second, uu, uu, uu, uu, uu, uu, uu, uu, uu, uu, uu, uu, uu] [(.int p4), (.long x0)])) _
    refine X50.ldcInt hx hown (mvT hZ (hw _ (List.mem_of_getElem? (i := 4) rfl))) (g := (mkF m 65 #[.val (.int p1), .val (.int p2), .val (.int p3), .val (.int p4), .val (.int p5), .val (.int (3 : Int32)), .val (.ref wSUM), .val (.int (3 : Int32)), .val (.long x0), .second, uu, uu, uu, uu, uu, uu, uu, uu, uu, uu, uu, uu, uu] [(.int p4), (.long x0)])) rfl (hb hby at_65) _ ?_
    show Steps p.tables e below (T50.setTop (mkF m 67 #[.val (.int p1), .val (.int p2), .val (.int p3), .val (.int p4), .val (.int p5), .val (.int (3 : Int32)), .val (.ref wSUM), .val (.int (3 : Int32)), .val (.long x0), .second, uu, uu, uu, uu, uu, uu, uu, uu, uu, uu, uu, uu, uu] [(.int (1048575 : Int32)), (.int p4), (.long x0)])) _
    refine XS.iand X50.here hx rfl (hb hby at_67) rfl ?_
    show Steps p.tables e below (T50.setTop (mkF m 68 #[.val (.int p1), .val (.int p2), .val (.int p3), .val (.int p4), .val (.int p5), .val (.int (3 : Int32)), .val (.ref wSUM), .val (.int (3 : Int32)), .val (.long x0), .second, uu, uu, uu, uu, uu, uu, uu, uu, uu, uu, uu, uu, uu] [(.int (p4 &&& (1048575 : Int32))), (.long x0)])) _
    refine XS.i2l X50.here hx rfl (hb hby at_68) rfl ?_
    show Steps p.tables e below (T50.setTop (mkF m 69 #[.val (.int p1), .val (.int p2), .val (.int p3), .val (.int p4), .val (.int p5), .val (.int (3 : Int32)), .val (.ref wSUM), .val (.int (3 : Int32)), .val (.long x0), .second, uu, uu, uu, uu, uu, uu, uu, uu, uu, uu, uu, uu, uu] [(.long ((p4 &&& (1048575 : Int32)).toInt64)), (.long x0)])) _
    rw [← hy1]
    show Steps p.tables e below (T50.setTop (mkF m 69 #[.val (.int p1), .val (.int p2), .val (.int p3), .val (.int p4), .val (.int p5), .val (.int (3 : Int32)), .val (.ref wSUM), .val (.int (3 : Int32)), .val (.long x0), .second, uu, uu, uu, uu, uu, uu, uu, uu, uu, uu, uu, uu, uu] [(.long y1), (.long x0)])) _
    refine XS.ladd X50.here hx rfl (hb hby at_69) rfl ?_
    show Steps p.tables e below (T50.setTop (mkF m 70 #[.val (.int p1), .val (.int p2), .val (.int p3), .val (.int p4), .val (.int p5), .val (.int (3 : Int32)), .val (.ref wSUM), .val (.int (3 : Int32)), .val (.long x0), .second, uu, uu, uu, uu, uu, uu, uu, uu, uu, uu, uu, uu, uu] [(.long (x0 + y1))])) _
    refine XS.lstore X50.here hx rfl (hb hby at_70) rfl (l' := #[.val (.int p1), .val (.int p2), .val (.int p3), .val (.int p4), .val (.int p5), .val (.int (3 : Int32)), .val (.ref wSUM), .val (.int (3 : Int32)), .val (.long x0), .second, .val (.long (x0 + y1)), .second, uu, uu, uu, uu, uu, uu, uu, uu, uu, uu, uu]) rfl ?_
    show Steps p.tables e below (T50.setTop (mkF m 72 #[.val (.int p1), .val (.int p2), .val (.int p3), .val (.int p4), .val (.int p5), .val (.int (3 : Int32)), .val (.ref wSUM), .val (.int (3 : Int32)), .val (.long x0), .second, .val (.long (x0 + y1)), .second, uu, uu, uu, uu, uu, uu, uu, uu, uu, uu, uu] [])) _
    refine XS.lload X50.here hx rfl (hb hby at_72) rfl ?_
    show Steps p.tables e below (T50.setTop (mkF m 74 #[.val (.int p1), .val (.int p2), .val (.int p3), .val (.int p4), .val (.int p5), .val (.int (3 : Int32)), .val (.ref wSUM), .val (.int (3 : Int32)), .val (.long x0), .second, .val (.long (x0 + y1)), .second, uu, uu, uu, uu, uu, uu, uu, uu, uu, uu, uu] [(.long (x0 + y1))])) _
    refine XS.iload X50.here hx rfl (hb hby at_74) rfl ?_
    show Steps p.tables e below (T50.setTop (mkF m 76 #[.val (.int p1), .val (.int p2), .val (.int p3), .val (.int p4), .val (.int p5), .val (.int (3 : Int32)), .val (.ref wSUM), .val (.int (3 : Int32)), .val (.long x0), .second, .val (.long (x0 + y1)), .second, uu, uu, uu, uu, uu, uu, uu, uu, uu, uu, uu] [(.int p5), (.long (x0 + y1))])) _
    refine X50.ldcInt hx hown (mvT hZ (hw _ (List.mem_of_getElem? (i := 4) rfl))) (g := (mkF m 76 #[.val (.int p1), .val (.int p2), .val (.int p3), .val (.int p4), .val (.int p5), .val (.int (3 : Int32)), .val (.ref wSUM), .val (.int (3 : Int32)), .val (.long x0), .second, .val (.long (x0 + y1)), .second, uu, uu, uu, uu, uu, uu, uu, uu, uu, uu, uu] [(.int p5), (.long (x0 + y1))])) rfl (hb hby at_76) _ ?_
    show Steps p.tables e below (T50.setTop (mkF m 78 #[.val (.int p1), .val (.int p2), .val (.int p3), .val (.int p4), .val (.int p5), .val (.int (3 : Int32)), .val (.ref wSUM), .val (.int (3 : Int32)), .val (.long x0), .second, .val (.long (x0 + y1)), .second, uu, uu, uu, uu, uu, uu, uu, uu, uu, uu, uu] [(.int (1048575 : Int32)), (.int p5), (.long (x0 + y1))])) _
    refine XS.iand X50.here hx rfl (hb hby at_78) rfl ?_
    show Steps p.tables e below (T50.setTop (mkF m 79 #[.val (.int p1), .val (.int p2), .val (.int p3), .val (.int p4), .val (.int p5), .val (.int (3 : Int32)), .val (.ref wSUM), .val (.int (3 : Int32)), .val (.long x0), .second, .val (.long (x0 + y1)), .second, uu, uu, uu, uu, uu, uu, uu, uu, uu, uu, uu] [(.int (p5 &&& (1048575 : Int32))), (.long (x0 + y1))])) _
    refine XS.i2l X50.here hx rfl (hb hby at_79) rfl ?_
    show Steps p.tables e below (T50.setTop (mkF m 80 #[.val (.int p1), .val (.int p2), .val (.int p3), .val (.int p4), .val (.int p5), .val (.int (3 : Int32)), .val (.ref wSUM), .val (.int (3 : Int32)), .val (.long x0), .second, .val (.long (x0 + y1)), .second, uu, uu, uu, uu, uu, uu, uu, uu, uu, uu, uu] [(.long ((p5 &&& (1048575 : Int32)).toInt64)), (.long (x0 + y1))])) _
    rw [← hy2]
    show Steps p.tables e below (T50.setTop (mkF m 80 #[.val (.int p1), .val (.int p2), .val (.int p3), .val (.int p4), .val (.int p5), .val (.int (3 : Int32)), .val (.ref wSUM), .val (.int (3 : Int32)), .val (.long x0), .second, .val (.long (x0 + y1)), .second, uu, uu, uu, uu, uu, uu, uu, uu, uu, uu, uu] [(.long y2), (.long (x0 + y1))])) _
    refine XS.ladd X50.here hx rfl (hb hby at_80) rfl ?_
    show Steps p.tables e below (T50.setTop (mkF m 81 #[.val (.int p1), .val (.int p2), .val (.int p3), .val (.int p4), .val (.int p5), .val (.int (3 : Int32)), .val (.ref wSUM), .val (.int (3 : Int32)), .val (.long x0), .second, .val (.long (x0 + y1)), .second, uu, uu, uu, uu, uu, uu, uu, uu, uu, uu, uu] [(.long ((x0 + y1) + y2))])) _
    refine XS.lstore X50.here hx rfl (hb hby at_81) rfl (l' := #[.val (.int p1), .val (.int p2), .val (.int p3), .val (.int p4), .val (.int p5), .val (.int (3 : Int32)), .val (.ref wSUM), .val (.int (3 : Int32)), .val (.long x0), .second, .val (.long (x0 + y1)), .second, .val (.long ((x0 + y1) + y2)), .second, uu, uu, uu, uu, uu, uu, uu, uu, uu]) rfl ?_
    show Steps p.tables e below (T50.setTop (mkF m 83 #[.val (.int p1), .val (.int p2), .val (.int p3), .val (.int p4), .val (.int p5), .val (.int (3 : Int32)), .val (.ref wSUM), .val (.int (3 : Int32)), .val (.long x0), .second, .val (.long (x0 + y1)), .second, .val (.long ((x0 + y1) + y2)), .second, uu, uu, uu, uu, uu, uu, uu, uu, uu] [])) _
    refine XS.iload X50.here hx rfl (hb hby at_83) rfl ?_
    show Steps p.tables e below (T50.setTop (mkF m 85 #[.val (.int p1), .val (.int p2), .val (.int p3), .val (.int p4), .val (.int p5), .val (.int (3 : Int32)), .val (.ref wSUM), .val (.int (3 : Int32)), .val (.long x0), .second, .val (.long (x0 + y1)), .second, .val (.long ((x0 + y1) + y2)), .second, uu, uu, uu, uu, uu, uu, uu, uu, uu] [(.int (3 : Int32))])) _
    refine XS.iconst X50.here hx rfl (hb hby at_85) ?_
    show Steps p.tables e below (T50.setTop (mkF m 86 #[.val (.int p1), .val (.int p2), .val (.int p3), .val (.int p4), .val (.int p5), .val (.int (3 : Int32)), .val (.ref wSUM), .val (.int (3 : Int32)), .val (.long x0), .second, .val (.long (x0 + y1)), .second, .val (.long ((x0 + y1) + y2)), .second, uu, uu, uu, uu, uu, uu, uu, uu, uu] [(.int (1 : Int32)), (.int (3 : Int32))])) _
    refine XS.icmpYes X50.here hx rfl (pc0 := 86) (pc' := 103) rfl (hb hby at_86) rfl (feq (by decide : ¬ ((3 : Int32) = (1 : Int32)))).2 (by decide) (by decide) ?_
    show Steps p.tables e below (T50.setTop (mkF m 103 #[.val (.int p1), .val (.int p2), .val (.int p3), .val (.int p4), .val (.int p5), .val (.int (3 : Int32)), .val (.ref wSUM), .val (.int (3 : Int32)), .val (.long x0), .second, .val (.long (x0 + y1)), .second, .val (.long ((x0 + y1) + y2)), .second, uu, uu, uu, uu, uu, uu, uu, uu, uu] [])) _
    refine XS.iload X50.here hx rfl (hb hby at_103) rfl ?_
    show Steps p.tables e below (T50.setTop (mkF m 105 #[.val (.int p1), .val (.int p2), .val (.int p3), .val (.int p4), .val (.int p5), .val (.int (3 : Int32)), .val (.ref wSUM), .val (.int (3 : Int32)), .val (.long x0), .second, .val (.long (x0 + y1)), .second, .val (.long ((x0 + y1) + y2)), .second, uu, uu, uu, uu, uu, uu, uu, uu, uu] [(.int (3 : Int32))])) _
    refine XS.iconst X50.here hx rfl (hb hby at_105) ?_
    show Steps p.tables e below (T50.setTop (mkF m 106 #[.val (.int p1), .val (.int p2), .val (.int p3), .val (.int p4), .val (.int p5), .val (.int (3 : Int32)), .val (.ref wSUM), .val (.int (3 : Int32)), .val (.long x0), .second, .val (.long (x0 + y1)), .second, .val (.long ((x0 + y1) + y2)), .second, uu, uu, uu, uu, uu, uu, uu, uu, uu] [(.int (2 : Int32)), (.int (3 : Int32))])) _
    refine XS.icmpYes X50.here hx rfl (pc0 := 106) (pc' := 129) rfl (hb hby at_106) rfl (feq (by decide : ¬ ((3 : Int32) = (2 : Int32)))).2 (by decide) (by decide) ?_
    show Steps p.tables e below (T50.setTop (mkF m 129 #[.val (.int p1), .val (.int p2), .val (.int p3), .val (.int p4), .val (.int p5), .val (.int (3 : Int32)), .val (.ref wSUM), .val (.int (3 : Int32)), .val (.long x0), .second, .val (.long (x0 + y1)), .second, .val (.long ((x0 + y1) + y2)), .second, uu, uu, uu, uu, uu, uu, uu, uu, uu] [])) _
    refine XS.iconst X50.here hx rfl (hb hby at_129) ?_
    show Steps p.tables e below (T50.setTop (mkF m 130 #[.val (.int p1), .val (.int p2), .val (.int p3), .val (.int p4), .val (.int p5), .val (.int (3 : Int32)), .val (.ref wSUM), .val (.int (3 : Int32)), .val (.long x0), .second, .val (.long (x0 + y1)), .second, .val (.long ((x0 + y1) + y2)), .second, uu, uu, uu, uu, uu, uu, uu, uu, uu] [(.int (3 : Int32))])) _
    refine sta_ _ ?_
    show Steps p.tables e below (Ta.setTop (mkF m 132 #[.val (.int p1), .val (.int p2), .val (.int p3), .val (.int p4), .val (.int p5), .val (.int (3 : Int32)), .val (.ref wSUM), .val (.int (3 : Int32)), .val (.long x0), .second, .val (.long (x0 + y1)), .second, .val (.long ((x0 + y1) + y2)), .second, uu, uu, uu, uu, uu, uu, uu, uu, uu] [(.ref b)])) _
    refine XS.dup Xa.here hx rfl (hb hby at_132) rfl rfl ?_
    show Steps p.tables e below (Ta.setTop (mkF m 133 #[.val (.int p1), .val (.int p2), .val (.int p3), .val (.int p4), .val (.int p5), .val (.int (3 : Int32)), .val (.ref wSUM), .val (.int (3 : Int32)), .val (.long x0), .second, .val (.long (x0 + y1)), .second, .val (.long ((x0 + y1) + y2)), .second, uu, uu, uu, uu, uu, uu, uu, uu, uu] [(.ref b), (.ref b)])) _
    refine XS.iconst Xa.here hx rfl (hb hby at_133) ?_
    show Steps p.tables e below (Ta.setTop (mkF m 134 #[.val (.int p1), .val (.int p2), .val (.int p3), .val (.int p4), .val (.int p5), .val (.int (3 : Int32)), .val (.ref wSUM), .val (.int (3 : Int32)), .val (.long x0), .second, .val (.long (x0 + y1)), .second, .val (.long ((x0 + y1) + y2)), .second, uu, uu, uu, uu, uu, uu, uu, uu, uu] [(.int (0 : Int32)), (.ref b), (.ref b)])) _
    refine XS.lload Xa.here hx rfl (hb hby at_134) rfl ?_
    show Steps p.tables e below (Ta.setTop (mkF m 136 #[.val (.int p1), .val (.int p2), .val (.int p3), .val (.int p4), .val (.int p5), .val (.int (3 : Int32)), .val (.ref wSUM), .val (.int (3 : Int32)), .val (.long x0), .second, .val (.long (x0 + y1)), .second, .val (.long ((x0 + y1) + y2)), .second, uu, uu, uu, uu, uu, uu, uu, uu, uu] [(.long x0), (.int (0 : Int32)), (.ref b), (.ref b)])) _
    refine XS.l2dS Xa.here hx rfl (hb hby at_136) rfl (v := FP.l2d x0) rfl ?_
    show Steps p.tables e below (Ta.setTop (mkF m 137 #[.val (.int p1), .val (.int p2), .val (.int p3), .val (.int p4), .val (.int p5), .val (.int (3 : Int32)), .val (.ref wSUM), .val (.int (3 : Int32)), .val (.long x0), .second, .val (.long (x0 + y1)), .second, .val (.long ((x0 + y1) + y2)), .second, uu, uu, uu, uu, uu, uu, uu, uu, uu] [(.double (FP.l2d x0)), (.int (0 : Int32)), (.ref b), (.ref b)])) _
    refine std0 _ ?_
    show Steps p.tables e below (Td0.setTop (mkF m 138 #[.val (.int p1), .val (.int p2), .val (.int p3), .val (.int p4), .val (.int p5), .val (.int (3 : Int32)), .val (.ref wSUM), .val (.int (3 : Int32)), .val (.long x0), .second, .val (.long (x0 + y1)), .second, .val (.long ((x0 + y1) + y2)), .second, uu, uu, uu, uu, uu, uu, uu, uu, uu] [(.ref b)])) _
    refine XS.dup Xd0.here hx rfl (hb hby at_138) rfl rfl ?_
    show Steps p.tables e below (Td0.setTop (mkF m 139 #[.val (.int p1), .val (.int p2), .val (.int p3), .val (.int p4), .val (.int p5), .val (.int (3 : Int32)), .val (.ref wSUM), .val (.int (3 : Int32)), .val (.long x0), .second, .val (.long (x0 + y1)), .second, .val (.long ((x0 + y1) + y2)), .second, uu, uu, uu, uu, uu, uu, uu, uu, uu] [(.ref b), (.ref b)])) _
    refine XS.iconst Xd0.here hx rfl (hb hby at_139) ?_
    show Steps p.tables e below (Td0.setTop (mkF m 140 #[.val (.int p1), .val (.int p2), .val (.int p3), .val (.int p4), .val (.int p5), .val (.int (3 : Int32)), .val (.ref wSUM), .val (.int (3 : Int32)), .val (.long x0), .second, .val (.long (x0 + y1)), .second, .val (.long ((x0 + y1) + y2)), .second, uu, uu, uu, uu, uu, uu, uu, uu, uu] [(.int (1 : Int32)), (.ref b), (.ref b)])) _
    refine XS.lload Xd0.here hx rfl (hb hby at_140) rfl ?_
    show Steps p.tables e below (Td0.setTop (mkF m 142 #[.val (.int p1), .val (.int p2), .val (.int p3), .val (.int p4), .val (.int p5), .val (.int (3 : Int32)), .val (.ref wSUM), .val (.int (3 : Int32)), .val (.long x0), .second, .val (.long (x0 + y1)), .second, .val (.long ((x0 + y1) + y2)), .second, uu, uu, uu, uu, uu, uu, uu, uu, uu] [(.long (x0 + y1)), (.int (1 : Int32)), (.ref b), (.ref b)])) _
    refine XS.l2dS Xd0.here hx rfl (hb hby at_142) rfl (v := FP.l2d (x0 + y1)) rfl ?_
    show Steps p.tables e below (Td0.setTop (mkF m 143 #[.val (.int p1), .val (.int p2), .val (.int p3), .val (.int p4), .val (.int p5), .val (.int (3 : Int32)), .val (.ref wSUM), .val (.int (3 : Int32)), .val (.long x0), .second, .val (.long (x0 + y1)), .second, .val (.long ((x0 + y1) + y2)), .second, uu, uu, uu, uu, uu, uu, uu, uu, uu] [(.double (FP.l2d (x0 + y1))), (.int (1 : Int32)), (.ref b), (.ref b)])) _
    refine std1 _ ?_
    show Steps p.tables e below (Td1.setTop (mkF m 144 #[.val (.int p1), .val (.int p2), .val (.int p3), .val (.int p4), .val (.int p5), .val (.int (3 : Int32)), .val (.ref wSUM), .val (.int (3 : Int32)), .val (.long x0), .second, .val (.long (x0 + y1)), .second, .val (.long ((x0 + y1) + y2)), .second, uu, uu, uu, uu, uu, uu, uu, uu, uu] [(.ref b)])) _
    refine XS.dup Xd1.here hx rfl (hb hby at_144) rfl rfl ?_
    show Steps p.tables e below (Td1.setTop (mkF m 145 #[.val (.int p1), .val (.int p2), .val (.int p3), .val (.int p4), .val (.int p5), .val (.int (3 : Int32)), .val (.ref wSUM), .val (.int (3 : Int32)), .val (.long x0), .second, .val (.long (x0 + y1)), .second, .val (.long ((x0 + y1) + y2)), .second, uu, uu, uu, uu, uu, uu, uu, uu, uu] [(.ref b), (.ref b)])) _
    refine XS.iconst Xd1.here hx rfl (hb hby at_145) ?_
    show Steps p.tables e below (Td1.setTop (mkF m 146 #[.val (.int p1), .val (.int p2), .val (.int p3), .val (.int p4), .val (.int p5), .val (.int (3 : Int32)), .val (.ref wSUM), .val (.int (3 : Int32)), .val (.long x0), .second, .val (.long (x0 + y1)), .second, .val (.long ((x0 + y1) + y2)), .second, uu, uu, uu, uu, uu, uu, uu, uu, uu] [(.int (2 : Int32)), (.ref b), (.ref b)])) _
    refine XS.lload Xd1.here hx rfl (hb hby at_146) rfl ?_
    show Steps p.tables e below (Td1.setTop (mkF m 148 #[.val (.int p1), .val (.int p2), .val (.int p3), .val (.int p4), .val (.int p5), .val (.int (3 : Int32)), .val (.ref wSUM), .val (.int (3 : Int32)), .val (.long x0), .second, .val (.long (x0 + y1)), .second, .val (.long ((x0 + y1) + y2)), .second, uu, uu, uu, uu, uu, uu, uu, uu, uu] [(.long ((x0 + y1) + y2)), (.int (2 : Int32)), (.ref b), (.ref b)])) _
    refine XS.l2dS Xd1.here hx rfl (hb hby at_148) rfl (v := FP.l2d ((x0 + y1) + y2)) rfl ?_
    show Steps p.tables e below (Td1.setTop (mkF m 149 #[.val (.int p1), .val (.int p2), .val (.int p3), .val (.int p4), .val (.int p5), .val (.int (3 : Int32)), .val (.ref wSUM), .val (.int (3 : Int32)), .val (.long x0), .second, .val (.long (x0 + y1)), .second, .val (.long ((x0 + y1) + y2)), .second, uu, uu, uu, uu, uu, uu, uu, uu, uu] [(.double (FP.l2d ((x0 + y1) + y2))), (.int (2 : Int32)), (.ref b), (.ref b)])) _
    refine std2 _ ?_
    show Steps p.tables e below (Td2.setTop (mkF m 150 #[.val (.int p1), .val (.int p2), .val (.int p3), .val (.int p4), .val (.int p5), .val (.int (3 : Int32)), .val (.ref wSUM), .val (.int (3 : Int32)), .val (.long x0), .second, .val (.long (x0 + y1)), .second, .val (.long ((x0 + y1) + y2)), .second, uu, uu, uu, uu, uu, uu, uu, uu, uu] [(.ref b)])) _
    refine XS.astore Xd2.here hx rfl (hb hby at_150) rfl rfl (l' := #[.val (.int p1), .val (.int p2), .val (.int p3), .val (.int p4), .val (.int p5), .val (.int (3 : Int32)), .val (.ref wSUM), .val (.int (3 : Int32)), .val (.long x0), .second, .val (.long (x0 + y1)), .second, .val (.long ((x0 + y1) + y2)), .second, .val (.ref b), uu, uu, uu, uu, uu, uu, uu, uu]) rfl ?_
    show Steps p.tables e below (Td2.setTop (mkF m 152 #[.val (.int p1), .val (.int p2), .val (.int p3), .val (.int p4), .val (.int p5), .val (.int (3 : Int32)), .val (.ref wSUM), .val (.int (3 : Int32)), .val (.long x0), .second, .val (.long (x0 + y1)), .second, .val (.long ((x0 + y1) + y2)), .second, .val (.ref b), uu, uu, uu, uu, uu, uu, uu, uu] [])) _
    refine XS.iload Xd2.here hx rfl (hb hby at_152) rfl ?_
    show Steps p.tables e below (Td2.setTop (mkF m 154 #[.val (.int p1), .val (.int p2), .val (.int p3), .val (.int p4), .val (.int p5), .val (.int (3 : Int32)), .val (.ref wSUM), .val (.int (3 : Int32)), .val (.long x0), .second, .val (.long (x0 + y1)), .second, .val (.long ((x0 + y1) + y2)), .second, .val (.ref b), uu, uu, uu, uu, uu, uu, uu, uu] [(.int (3 : Int32))])) _
    refine XS.iconst Xd2.here hx rfl (hb hby at_154) ?_
    show Steps p.tables e below (Td2.setTop (mkF m 155 #[.val (.int p1), .val (.int p2), .val (.int p3), .val (.int p4), .val (.int p5), .val (.int (3 : Int32)), .val (.ref wSUM), .val (.int (3 : Int32)), .val (.long x0), .second, .val (.long (x0 + y1)), .second, .val (.long ((x0 + y1) + y2)), .second, .val (.ref b), uu, uu, uu, uu, uu, uu, uu, uu] [(.int (1 : Int32)), (.int (3 : Int32))])) _
    refine XS.icmpYes Xd2.here hx rfl (pc0 := 155) (pc' := 163) rfl (hb hby at_155) rfl (feq (by decide : ¬ ((3 : Int32) = (1 : Int32)))).2 (by decide) (by decide) ?_
    show Steps p.tables e below (Td2.setTop (mkF m 163 #[.val (.int p1), .val (.int p2), .val (.int p3), .val (.int p4), .val (.int p5), .val (.int (3 : Int32)), .val (.ref wSUM), .val (.int (3 : Int32)), .val (.long x0), .second, .val (.long (x0 + y1)), .second, .val (.long ((x0 + y1) + y2)), .second, .val (.ref b), uu, uu, uu, uu, uu, uu, uu, uu] [])) _
    refine XS.iload Xd2.here hx rfl (hb hby at_163) rfl ?_
    show Steps p.tables e below (Td2.setTop (mkF m 165 #[.val (.int p1), .val (.int p2), .val (.int p3), .val (.int p4), .val (.int p5), .val (.int (3 : Int32)), .val (.ref wSUM), .val (.int (3 : Int32)), .val (.long x0), .second, .val (.long (x0 + y1)), .second, .val (.long ((x0 + y1) + y2)), .second, .val (.ref b), uu, uu, uu, uu, uu, uu, uu, uu] [(.int (3 : Int32))])) _
    refine XS.iconst Xd2.here hx rfl (hb hby at_165) ?_
    show Steps p.tables e below (Td2.setTop (mkF m 166 #[.val (.int p1), .val (.int p2), .val (.int p3), .val (.int p4), .val (.int p5), .val (.int (3 : Int32)), .val (.ref wSUM), .val (.int (3 : Int32)), .val (.long x0), .second, .val (.long (x0 + y1)), .second, .val (.long ((x0 + y1) + y2)), .second, .val (.ref b), uu, uu, uu, uu, uu, uu, uu, uu] [(.int (2 : Int32)), (.int (3 : Int32))])) _
    refine XS.icmpYes Xd2.here hx rfl (pc0 := 166) (pc' := 174) rfl (hb hby at_166) rfl (feq (by decide : ¬ ((3 : Int32) = (2 : Int32)))).2 (by decide) (by decide) ?_
    show Steps p.tables e below (Td2.setTop (mkF m 174 #[.val (.int p1), .val (.int p2), .val (.int p3), .val (.int p4), .val (.int p5), .val (.int (3 : Int32)), .val (.ref wSUM), .val (.int (3 : Int32)), .val (.long x0), .second, .val (.long (x0 + y1)), .second, .val (.long ((x0 + y1) + y2)), .second, .val (.ref b), uu, uu, uu, uu, uu, uu, uu, uu] [])) _
    refine XS.lload Xd2.here hx rfl (hb hby at_174) rfl ?_
    show Steps p.tables e below (Td2.setTop (mkF m 176 #[.val (.int p1), .val (.int p2), .val (.int p3), .val (.int p4), .val (.int p5), .val (.int (3 : Int32)), .val (.ref wSUM), .val (.int (3 : Int32)), .val (.long x0), .second, .val (.long (x0 + y1)), .second, .val (.long ((x0 + y1) + y2)), .second, .val (.ref b), uu, uu, uu, uu, uu, uu, uu, uu] [(.long ((x0 + y1) + y2))])) _
    refine XS.lstore Xd2.here hx rfl (hb hby at_176) rfl (l' := #[.val (.int p1), .val (.int p2), .val (.int p3), .val (.int p4), .val (.int p5), .val (.int (3 : Int32)), .val (.ref wSUM), .val (.int (3 : Int32)), .val (.long x0), .second, .val (.long (x0 + y1)), .second, .val (.long ((x0 + y1) + y2)), .second, .val (.ref b), .val (.long ((x0 + y1) + y2)), .second, uu, uu, uu, uu, uu, uu]) rfl ?_
    show Steps p.tables e below (Td2.setTop (mkF m 178 #[.val (.int p1), .val (.int p2), .val (.int p3), .val (.int p4), .val (.int p5), .val (.int (3 : Int32)), .val (.ref wSUM), .val (.int (3 : Int32)), .val (.long x0), .second, .val (.long (x0 + y1)), .second, .val (.long ((x0 + y1) + y2)), .second, .val (.ref b), .val (.long ((x0 + y1) + y2)), .second, uu, uu, uu, uu, uu, uu] [])) _
    refine XS.iload Xd2.here hx rfl (hb hby at_178) rfl ?_
    show Steps p.tables e below (Td2.setTop (mkF m 180 #[.val (.int p1), .val (.int p2), .val (.int p3), .val (.int p4), .val (.int p5), .val (.int (3 : Int32)), .val (.ref wSUM), .val (.int (3 : Int32)), .val (.long x0), .second, .val (.long (x0 + y1)), .second, .val (.long ((x0 + y1) + y2)), .second, .val (.ref b), .val (.long ((x0 + y1) + y2)), .second, uu, uu, uu, uu, uu, uu] [(.int (3 : Int32))])) _
    refine XS.iconst Xd2.here hx rfl (hb hby at_180) ?_
    show Steps p.tables e below (Td2.setTop (mkF m 181 #[.val (.int p1), .val (.int p2), .val (.int p3), .val (.int p4), .val (.int p5), .val (.int (3 : Int32)), .val (.ref wSUM), .val (.int (3 : Int32)), .val (.long x0), .second, .val (.long (x0 + y1)), .second, .val (.long ((x0 + y1) + y2)), .second, .val (.ref b), .val (.long ((x0 + y1) + y2)), .second, uu, uu, uu, uu, uu, uu] [(.int (1 : Int32)), (.int (3 : Int32))])) _
    refine XS.icmpYes Xd2.here hx rfl (pc0 := 181) (pc' := 189) rfl (hb hby at_181) rfl (feq (by decide : ¬ ((3 : Int32) = (1 : Int32)))).2 (by decide) (by decide) ?_
    show Steps p.tables e below (Td2.setTop (mkF m 189 #[.val (.int p1), .val (.int p2), .val (.int p3), .val (.int p4), .val (.int p5), .val (.int (3 : Int32)), .val (.ref wSUM), .val (.int (3 : Int32)), .val (.long x0), .second, .val (.long (x0 + y1)), .second, .val (.long ((x0 + y1) + y2)), .second, .val (.ref b), .val (.long ((x0 + y1) + y2)), .second, uu, uu, uu, uu, uu, uu] [])) _
    refine XS.iload Xd2.here hx rfl (hb hby at_189) rfl ?_
    show Steps p.tables e below (Td2.setTop (mkF m 191 #[.val (.int p1), .val (.int p2), .val (.int p3), .val (.int p4), .val (.int p5), .val (.int (3 : Int32)), .val (.ref wSUM), .val (.int (3 : Int32)), .val (.long x0), .second, .val (.long (x0 + y1)), .second, .val (.long ((x0 + y1) + y2)), .second, .val (.ref b), .val (.long ((x0 + y1) + y2)), .second, uu, uu, uu, uu, uu, uu] [(.int (3 : Int32))])) _
    refine XS.iconst Xd2.here hx rfl (hb hby at_191) ?_
    show Steps p.tables e below (Td2.setTop (mkF m 192 #[.val (.int p1), .val (.int p2), .val (.int p3), .val (.int p4), .val (.int p5), .val (.int (3 : Int32)), .val (.ref wSUM), .val (.int (3 : Int32)), .val (.long x0), .second, .val (.long (x0 + y1)), .second, .val (.long ((x0 + y1) + y2)), .second, .val (.ref b), .val (.long ((x0 + y1) + y2)), .second, uu, uu, uu, uu, uu, uu] [(.int (2 : Int32)), (.int (3 : Int32))])) _
    refine XS.icmpYes Xd2.here hx rfl (pc0 := 192) (pc' := 203) rfl (hb hby at_192) rfl (feq (by decide : ¬ ((3 : Int32) = (2 : Int32)))).2 (by decide) (by decide) ?_
    show Steps p.tables e below (Td2.setTop (mkF m 203 #[.val (.int p1), .val (.int p2), .val (.int p3), .val (.int p4), .val (.int p5), .val (.int (3 : Int32)), .val (.ref wSUM), .val (.int (3 : Int32)), .val (.long x0), .second, .val (.long (x0 + y1)), .second, .val (.long ((x0 + y1) + y2)), .second, .val (.ref b), .val (.long ((x0 + y1) + y2)), .second, uu, uu, uu, uu, uu, uu] [])) _
    refine XS.lload Xd2.here hx rfl (hb hby at_203) rfl ?_
    show Steps p.tables e below (Td2.setTop (mkF m 205 #[.val (.int p1), .val (.int p2), .val (.int p3), .val (.int p4), .val (.int p5), .val (.int (3 : Int32)), .val (.ref wSUM), .val (.int (3 : Int32)), .val (.long x0), .second, .val (.long (x0 + y1)), .second, .val (.long ((x0 + y1) + y2)), .second, .val (.ref b), .val (.long ((x0 + y1) + y2)), .second, uu, uu, uu, uu, uu, uu] [(.long x0)])) _
    refine XS.lload Xd2.here hx rfl (hb hby at_205) rfl ?_
    show Steps p.tables e below (Td2.setTop (mkF m 207 #[.val (.int p1), .val (.int p2), .val (.int p3), .val (.int p4), .val (.int p5), .val (.int (3 : Int32)), .val (.ref wSUM), .val (.int (3 : Int32)), .val (.long x0), .second, .val (.long (x0 + y1)), .second, .val (.long ((x0 + y1) + y2)), .second, .val (.ref b), .val (.long ((x0 + y1) + y2)), .second, uu, uu, uu, uu, uu, uu] [(.long (x0 + y1)), (.long x0)])) _
    refine XS.ladd Xd2.here hx rfl (hb hby at_207) rfl ?_
    show Steps p.tables e below (Td2.setTop (mkF m 208 #[.val (.int p1), .val (.int p2), .val (.int p3), .val (.int p4), .val (.int p5), .val (.int (3 : Int32)), .val (.ref wSUM), .val (.int (3 : Int32)), .val (.long x0), .second, .val (.long (x0 + y1)), .second, .val (.long ((x0 + y1) + y2)), .second, .val (.ref b), .val (.long ((x0 + y1) + y2)), .second, uu, uu, uu, uu, uu, uu] [(.long (x0 + (x0 + y1)))])) _
    refine XS.lload Xd2.here hx rfl (hb hby at_208) rfl ?_
    show Steps p.tables e below (Td2.setTop (mkF m 210 #[.val (.int p1), .val (.int p2), .val (.int p3), .val (.int p4), .val (.int p5), .val (.int (3 : Int32)), .val (.ref wSUM), .val (.int (3 : Int32)), .val (.long x0), .second, .val (.long (x0 + y1)), .second, .val (.long ((x0 + y1) + y2)), .second, .val (.ref b), .val (.long ((x0 + y1) + y2)), .second, uu, uu, uu, uu, uu, uu] [(.long ((x0 + y1) + y2)), (.long (x0 + (x0 + y1)))])) _
    refine XS.ladd Xd2.here hx rfl (hb hby at_210) rfl ?_
    show Steps p.tables e below (Td2.setTop (mkF m 211 #[.val (.int p1), .val (.int p2), .val (.int p3), .val (.int p4), .val (.int p5), .val (.int (3 : Int32)), .val (.ref wSUM), .val (.int (3 : Int32)), .val (.long x0), .second, .val (.long (x0 + y1)), .second, .val (.long ((x0 + y1) + y2)), .second, .val (.ref b), .val (.long ((x0 + y1) + y2)), .second, uu, uu, uu, uu, uu, uu] [(.long ((x0 + (x0 + y1)) + ((x0 + y1) + y2)))])) _
    refine XS.lstore Xd2.here hx rfl (hb hby at_211) rfl (l' := #[.val (.int p1), .val (.int p2), .val (.int p3), .val (.int p4), .val (.int p5), .val (.int (3 : Int32)), .val (.ref wSUM), .val (.int (3 : Int32)), .val (.long x0), .second, .val (.long (x0 + y1)), .second, .val (.long ((x0 + y1) + y2)), .second, .val (.ref b), .val (.long ((x0 + y1) + y2)), .second, .val (.long ((x0 + (x0 + y1)) + ((x0 + y1) + y2))), .second, uu, uu, uu, uu]) rfl ?_
    show Steps p.tables e below (Td2.setTop (mkF m 213 #[.val (.int p1), .val (.int p2), .val (.int p3), .val (.int p4), .val (.int p5), .val (.int (3 : Int32)), .val (.ref wSUM), .val (.int (3 : Int32)), .val (.long x0), .second, .val (.long (x0 + y1)), .second, .val (.long ((x0 + y1) + y2)), .second, .val (.ref b), .val (.long ((x0 + y1) + y2)), .second, .val (.long ((x0 + (x0 + y1)) + ((x0 + y1) + y2))), .second, uu, uu, uu, uu] [])) _
    refine XS.iload Xd2.here hx rfl (hb hby at_213) rfl ?_
    show Steps p.tables e below (Td2.setTop (mkF m 215 #[.val (.int p1), .val (.int p2), .val (.int p3), .val (.int p4), .val (.int p5), .val (.int (3 : Int32)), .val (.ref wSUM), .val (.int (3 : Int32)), .val (.long x0), .second, .val (.long (x0 + y1)), .second, .val (.long ((x0 + y1) + y2)), .second, .val (.ref b), .val (.long ((x0 + y1) + y2)), .second, .val (.long ((x0 + (x0 + y1)) + ((x0 + y1) + y2))), .second, uu, uu, uu, uu] [(.int (3 : Int32))])) _
    refine XS.ifYes Xd2.here hx rfl (pc0 := 215) (pc' := 226) rfl (hb hby at_215) rfl ((if0 _ _).trans (feq (by decide : ¬ ((3 : Int32) = (0 : Int32)))).2) (by decide) (by decide) ?_
    show Steps p.tables e below (Td2.setTop (mkF m 226 #[.val (.int p1), .val (.int p2), .val (.int p3), .val (.int p4), .val (.int p5), .val (.int (3 : Int32)), .val (.ref wSUM), .val (.int (3 : Int32)), .val (.long x0), .second, .val (.long (x0 + y1)), .second, .val (.long ((x0 + y1) + y2)), .second, .val (.ref b), .val (.long ((x0 + y1) + y2)), .second, .val (.long ((x0 + (x0 + y1)) + ((x0 + y1) + y2))), .second, uu, uu, uu, uu] [])) _
    refine XS.iload Xd2.here hx rfl (hb hby at_226) rfl ?_
    show Steps p.tables e below (Td2.setTop (mkF m 228 #[.val (.int p1), .val (.int p2), .val (.int p3), .val (.int p4), .val (.int p5), .val (.int (3 : Int32)), .val (.ref wSUM), .val (.int (3 : Int32)), .val (.long x0), .second, .val (.long (x0 + y1)), .second, .val (.long ((x0 + y1) + y2)), .second, .val (.ref b), .val (.long ((x0 + y1) + y2)), .second, .val (.long ((x0 + (x0 + y1)) + ((x0 + y1) + y2))), .second, uu, uu, uu, uu] [(.int (3 : Int32))])) _
    refine XS.iconst Xd2.here hx rfl (hb hby at_228) ?_
    show Steps p.tables e below (Td2.setTop (mkF m 229 #[.val (.int p1), .val (.int p2), .val (.int p3), .val (.int p4), .val (.int p5), .val (.int (3 : Int32)), .val (.ref wSUM), .val (.int (3 : Int32)), .val (.long x0), .second, .val (.long (x0 + y1)), .second, .val (.long ((x0 + y1) + y2)), .second, .val (.ref b), .val (.long ((x0 + y1) + y2)), .second, .val (.long ((x0 + (x0 + y1)) + ((x0 + y1) + y2))), .second, uu, uu, uu, uu] [(.int (1 : Int32)), (.int (3 : Int32))])) _
    refine XS.icmpYes Xd2.here hx rfl (pc0 := 229) (pc' := 240) rfl (hb hby at_229) rfl (feq (by decide : ¬ ((3 : Int32) = (1 : Int32)))).2 (by decide) (by decide) ?_
    show Steps p.tables e below (Td2.setTop (mkF m 240 #[.val (.int p1), .val (.int p2), .val (.int p3), .val (.int p4), .val (.int p5), .val (.int (3 : Int32)), .val (.ref wSUM), .val (.int (3 : Int32)), .val (.long x0), .second, .val (.long (x0 + y1)), .second, .val (.long ((x0 + y1) + y2)), .second, .val (.ref b), .val (.long ((x0 + y1) + y2)), .second, .val (.long ((x0 + (x0 + y1)) + ((x0 + y1) + y2))), .second, uu, uu, uu, uu] [])) _
    refine XS.iload Xd2.here hx rfl (hb hby at_240) rfl ?_
    show Steps p.tables e below (Td2.setTop (mkF m 242 #[.val (.int p1), .val (.int p2), .val (.int p3), .val (.int p4), .val (.int p5), .val (.int (3 : Int32)), .val (.ref wSUM), .val (.int (3 : Int32)), .val (.long x0), .second, .val (.long (x0 + y1)), .second, .val (.long ((x0 + y1) + y2)), .second, .val (.ref b), .val (.long ((x0 + y1) + y2)), .second, .val (.long ((x0 + (x0 + y1)) + ((x0 + y1) + y2))), .second, uu, uu, uu, uu] [(.int (3 : Int32))])) _
    refine XS.iconst Xd2.here hx rfl (hb hby at_242) ?_
    show Steps p.tables e below (Td2.setTop (mkF m 243 #[.val (.int p1), .val (.int p2), .val (.int p3), .val (.int p4), .val (.int p5), .val (.int (3 : Int32)), .val (.ref wSUM), .val (.int (3 : Int32)), .val (.long x0), .second, .val (.long (x0 + y1)), .second, .val (.long ((x0 + y1) + y2)), .second, .val (.ref b), .val (.long ((x0 + y1) + y2)), .second, .val (.long ((x0 + (x0 + y1)) + ((x0 + y1) + y2))), .second, uu, uu, uu, uu] [(.int (2 : Int32)), (.int (3 : Int32))])) _
    refine XS.icmpYes Xd2.here hx rfl (pc0 := 243) (pc' := 258) rfl (hb hby at_243) rfl (feq (by decide : ¬ ((3 : Int32) = (2 : Int32)))).2 (by decide) (by decide) ?_
    show Steps p.tables e below (Td2.setTop (mkF m 258 #[.val (.int p1), .val (.int p2), .val (.int p3), .val (.int p4), .val (.int p5), .val (.int (3 : Int32)), .val (.ref wSUM), .val (.int (3 : Int32)), .val (.long x0), .second, .val (.long (x0 + y1)), .second, .val (.long ((x0 + y1) + y2)), .second, .val (.ref b), .val (.long ((x0 + y1) + y2)), .second, .val (.long ((x0 + (x0 + y1)) + ((x0 + y1) + y2))), .second, uu, uu, uu, uu] [])) _
    refine XS.lload Xd2.here hx rfl (hb hby at_258) rfl ?_
    show Steps p.tables e below (Td2.setTop (mkF m 260 #[.val (.int p1), .val (.int p2), .val (.int p3), .val (.int p4), .val (.int p5), .val (.int (3 : Int32)), .val (.ref wSUM), .val (.int (3 : Int32)), .val (.long x0), .second, .val (.long (x0 + y1)), .second, .val (.long ((x0 + y1) + y2)), .second, .val (.ref b), .val (.long ((x0 + y1) + y2)), .second, .val (.long ((x0 + (x0 + y1)) + ((x0 + y1) + y2))), .second, uu, uu, uu, uu] [(.long ((x0 + (x0 + y1)) + ((x0 + y1) + y2)))])) _
    refine XS.l2dS Xd2.here hx rfl (hb hby at_260) rfl (v := FP.l2d ((x0 + (x0 + y1)) + ((x0 + y1) + y2))) rfl ?_
    show Steps p.tables e below (Td2.setTop (mkF m 261 #[.val (.int p1), .val (.int p2), .val (.int p3), .val (.int p4), .val (.int p5), .val (.int (3 : Int32)), .val (.ref wSUM), .val (.int (3 : Int32)), .val (.long x0), .second, .val (.long (x0 + y1)), .second, .val (.long ((x0 + y1) + y2)), .second, .val (.ref b), .val (.long ((x0 + y1) + y2)), .second, .val (.long ((x0 + (x0 + y1)) + ((x0 + y1) + y2))), .second, uu, uu, uu, uu] [(.double (FP.l2d ((x0 + (x0 + y1)) + ((x0 + y1) + y2))))])) _
    refine XS.dstore Xd2.here hx rfl (hb hby at_261) rfl (l' := #[.val (.int p1), .val (.int p2), .val (.int p3), .val (.int p4), .val (.int p5), .val (.int (3 : Int32)), .val (.ref wSUM), .val (.int (3 : Int32)), .val (.long x0), .second, .val (.long (x0 + y1)), .second, .val (.long ((x0 + y1) + y2)), .second, .val (.ref b), .val (.long ((x0 + y1) + y2)), .second, .val (.long ((x0 + (x0 + y1)) + ((x0 + y1) + y2))), .second, .val (.double (FP.l2d ((x0 + (x0 + y1)) + ((x0 + y1) + y2)))), .second, uu, uu]) rfl ?_
    show Steps p.tables e below (Td2.setTop (mkF m 263 #[.val (.int p1), .val (.int p2), .val (.int p3), .val (.int p4), .val (.int p5), .val (.int (3 : Int32)), .val (.ref wSUM), .val (.int (3 : Int32)), .val (.long x0), .second, .val (.long (x0 + y1)), .second, .val (.long ((x0 + y1) + y2)), .second, .val (.ref b), .val (.long ((x0 + y1) + y2)), .second, .val (.long ((x0 + (x0 + y1)) + ((x0 + y1) + y2))), .second, .val (.double (FP.l2d ((x0 + (x0 + y1)) + ((x0 + y1) + y2)))), .second, uu, uu] [])) _
    refine XS.aload Xd2.here hx rfl (hb hby at_263) rfl rfl ?_
    show Steps p.tables e below (Td2.setTop (mkF m 265 #[.val (.int p1), .val (.int p2), .val (.int p3), .val (.int p4), .val (.int p5), .val (.int (3 : Int32)), .val (.ref wSUM), .val (.int (3 : Int32)), .val (.long x0), .second, .val (.long (x0 + y1)), .second, .val (.long ((x0 + y1) + y2)), .second, .val (.ref b), .val (.long ((x0 + y1) + y2)), .second, .val (.long ((x0 + (x0 + y1)) + ((x0 + y1) + y2))), .second, .val (.double (FP.l2d ((x0 + (x0 + y1)) + ((x0 + y1) + y2)))), .second, uu, uu] [(.ref wSUM)])) _
    refine XS.aload Xd2.here hx rfl (hb hby at_265) rfl rfl ?_
    show Steps p.tables e below (Td2.setTop (mkF m 267 #[.val (.int p1), .val (.int p2), .val (.int p3), .val (.int p4), .val (.int p5), .val (.int (3 : Int32)), .val (.ref wSUM), .val (.int (3 : Int32)), .val (.long x0), .second, .val (.long (x0 + y1)), .second, .val (.long ((x0 + y1) + y2)), .second, .val (.ref b), .val (.long ((x0 + y1) + y2)), .second, .val (.long ((x0 + (x0 + y1)) + ((x0 + y1) + y2))), .second, .val (.double (FP.l2d ((x0 + (x0 + y1)) + ((x0 + y1) + y2)))), .second, uu, uu] [(.ref b), (.ref wSUM)])) _
    refine stc.trans ?_
    show Steps p.tables e below (Tc.setTop (mkF m 270 #[.val (.int p1), .val (.int p2), .val (.int p3), .val (.int p4), .val (.int p5), .val (.int (3 : Int32)), .val (.ref wSUM), .val (.int (3 : Int32)), .val (.long x0), .second, .val (.long (x0 + y1)), .second, .val (.long ((x0 + y1) + y2)), .second, .val (.ref b), .val (.long ((x0 + y1) + y2)), .second, .val (.long ((x0 + (x0 + y1)) + ((x0 + y1) + y2))), .second, .val (.double (FP.l2d ((x0 + (x0 + y1)) + ((x0 + y1) + y2)))), .second, uu, uu] [(.double (FP.l2d ((x0 + (x0 + y1)) + ((x0 + y1) + y2))))])) _
    refine XS.dstore Xc.here hx rfl (hb hby at_270) rfl (l' := #[.val (.int p1), .val (.int p2), .val (.int p3), .val (.int p4), .val (.int p5), .val (.int (3 : Int32)), .val (.ref wSUM), .val (.int (3 : Int32)), .val (.long x0), .second, .val (.long (x0 + y1)), .second, .val (.long ((x0 + y1) + y2)), .second, .val (.ref b), .val (.long ((x0 + y1) + y2)), .second, .val (.long ((x0 + (x0 + y1)) + ((x0 + y1) + y2))), .second, .val (.double (FP.l2d ((x0 + (x0 + y1)) + ((x0 + y1) + y2)))), .second, .val (.double (FP.l2d ((x0 + (x0 + y1)) + ((x0 + y1) + y2)))), .second]) rfl ?_
    show Steps p.tables e below (Tc.setTop (mkF m 272 #[.val (.int p1), .val (.int p2), .val (.int p3), .val (.int p4), .val (.int p5), .val (.int (3 : Int32)), .val (.ref wSUM), .val (.int (3 : Int32)), .val (.long x0), .second, .val (.long (x0 + y1)), .second, .val (.long ((x0 + y1) + y2)), .second, .val (.ref b), .val (.long ((x0 + y1) + y2)), .second, .val (.long ((x0 + (x0 + y1)) + ((x0 + y1) + y2))), .second, .val (.double (FP.l2d ((x0 + (x0 + y1)) + ((x0 + y1) + y2)))), .second, .val (.double (FP.l2d ((x0 + (x0 + y1)) + ((x0 + y1) + y2)))), .second] [])) _
    refine XS.dload Xc.here hx rfl (hb hby at_272) rfl ?_
    show Steps p.tables e below (Tc.setTop (mkF m 274 #[.val (.int p1), .val (.int p2), .val (.int p3), .val (.int p4), .val (.int p5), .val (.int (3 : Int32)), .val (.ref wSUM), .val (.int (3 : Int32)), .val (.long x0), .second, .val (.long (x0 + y1)), .second, .val (.long ((x0 + y1) + y2)), .second, .val (.ref b), .val (.long ((x0 + y1) + y2)), .second, .val (.long ((x0 + (x0 + y1)) + ((x0 + y1) + y2))), .second, .val (.double (FP.l2d ((x0 + (x0 + y1)) + ((x0 + y1) + y2)))), .second, .val (.double (FP.l2d ((x0 + (x0 + y1)) + ((x0 + y1) + y2)))), .second] [(.double (FP.l2d ((x0 + (x0 + y1)) + ((x0 + y1) + y2))))])) _
    refine XS.dload Xc.here hx rfl (hb hby at_274) rfl ?_
    show Steps p.tables e below (Tc.setTop (mkF m 276 #[.val (.int p1), .val (.int p2), .val (.int p3), .val (.int p4), .val (.int p5), .val (.int (3 : Int32)), .val (.ref wSUM), .val (.int (3 : Int32)), .val (.long x0), .second, .val (.long (x0 + y1)), .second, .val (.long ((x0 + y1) + y2)), .second, .val (.ref b), .val (.long ((x0 + y1) + y2)), .second, .val (.long ((x0 + (x0 + y1)) + ((x0 + y1) + y2))), .second, .val (.double (FP.l2d ((x0 + (x0 + y1)) + ((x0 + y1) + y2)))), .second, .val (.double (FP.l2d ((x0 + (x0 + y1)) + ((x0 + y1) + y2)))), .second] [(.double (FP.l2d ((x0 + (x0 + y1)) + ((x0 + y1) + y2)))), (.double (FP.l2d ((x0 + (x0 + y1)) + ((x0 + y1) + y2))))])) _
    refine XS.dcmpS Xc.here hx rfl (hb hby at_276) rfl (v := (0 : Int32)) (dcmpV_self (own_l2d _) _) ?_
    show Steps p.tables e below (Tc.setTop (mkF m 277 #[.val (.int p1), .val (.int p2), .val (.int p3), .val (.int p4), .val (.int p5), .val (.int (3 : Int32)), .val (.ref wSUM), .val (.int (3 : Int32)), .val (.long x0), .second, .val (.long (x0 + y1)), .second, .val (.long ((x0 + y1) + y2)), .second, .val (.ref b), .val (.long ((x0 + y1) + y2)), .second, .val (.long ((x0 + (x0 + y1)) + ((x0 + y1) + y2))), .second, .val (.double (FP.l2d ((x0 + (x0 + y1)) + ((x0 + y1) + y2)))), .second, .val (.double (FP.l2d ((x0 + (x0 + y1)) + ((x0 + y1) + y2)))), .second] [(.int (0 : Int32))])) _
    refine XS.ifNo Xc.here hx rfl (hb hby at_277) rfl ((if0 _ _).trans (teq (by decide : (0 : Int32) = (0 : Int32))).2) ?_
    show Steps p.tables e below (Tc.setTop (mkF m 280 #[.val (.int p1), .val (.int p2), .val (.int p3), .val (.int p4), .val (.int p5), .val (.int (3 : Int32)), .val (.ref wSUM), .val (.int (3 : Int32)), .val (.long x0), .second, .val (.long (x0 + y1)), .second, .val (.long ((x0 + y1) + y2)), .second, .val (.ref b), .val (.long ((x0 + y1) + y2)), .second, .val (.long ((x0 + (x0 + y1)) + ((x0 + y1) + y2))), .second, .val (.double (FP.l2d ((x0 + (x0 + y1)) + ((x0 + y1) + y2)))), .second, .val (.double (FP.l2d ((x0 + (x0 + y1)) + ((x0 + y1) + y2)))), .second] [])) _
    refine XS.iconst Xc.here hx rfl (hb hby at_280) ?_
    show Steps p.tables e below (Tc.setTop (mkF m 281 #[.val (.int p1), .val (.int p2), .val (.int p3), .val (.int p4), .val (.int p5), .val (.int (3 : Int32)), .val (.ref wSUM), .val (.int (3 : Int32)), .val (.long x0), .second, .val (.long (x0 + y1)), .second, .val (.long ((x0 + y1) + y2)), .second, .val (.ref b), .val (.long ((x0 + y1) + y2)), .second, .val (.long ((x0 + (x0 + y1)) + ((x0 + y1) + y2))), .second, .val (.double (FP.l2d ((x0 + (x0 + y1)) + ((x0 + y1) + y2)))), .second, .val (.double (FP.l2d ((x0 + (x0 + y1)) + ((x0 + y1) + y2)))), .second] [(.int (1 : Int32))])) _
    refine XS.goto Xc.here hx rfl (pc0 := 281) (pc' := 285) rfl (hb hby at_281) (by decide) (by decide) ?_
    show Steps p.tables e below (Tc.setTop (mkF m 285 #[.val (.int p1), .val (.int p2), .val (.int p3), .val (.int p4), .val (.int p5), .val (.int (3 : Int32)), .val (.ref wSUM), .val (.int (3 : Int32)), .val (.long x0), .second, .val (.long (x0 + y1)), .second, .val (.long ((x0 + y1) + y2)), .second, .val (.ref b), .val (.long ((x0 + y1) + y2)), .second, .val (.long ((x0 + (x0 + y1)) + ((x0 + y1) + y2))), .second, .val (.double (FP.l2d ((x0 + (x0 + y1)) + ((x0 + y1) + y2)))), .second, .val (.double (FP.l2d ((x0 + (x0 + y1)) + ((x0 + y1) + y2)))), .second] [(.int (1 : Int32))])) _
    exact retN Xc hx (t := .boolean) Bd.returns (by simp) (hb hby at_285) hr
  · show Q0 h0 n0 _ Tc.heap _
    exact ⟨rfl, Nc⟩
theorem own_four (x : Int32) : x &&& (3 : Int32) = 0 ∨ x &&& (3 : Int32) = 1 ∨ x &&& (3 : Int32) = 2 ∨ x &&& (3 : Int32) = 3 := by
  have h := c_mask x 3 2 (by decide) (by decide)
  have e0 : (0 : Int32).toInt = 0 := by decide
  have e1 : (1 : Int32).toInt = 1 := by decide
  have e2 : (2 : Int32).toInt = 2 := by decide
  have e3 : (3 : Int32).toInt = 3 := by decide
  simp only [← Int32.toInt_inj, e0, e1, e2, e3]
  omega
theorem own_three (x : Int32) : ((x &&& (2147483647 : Int32)) % (3 : Int32)) + (1 : Int32) = 1 ∨ ((x &&& (2147483647 : Int32)) % (3 : Int32)) + (1 : Int32) = 2 ∨ ((x &&& (2147483647 : Int32)) % (3 : Int32)) + (1 : Int32) = 3 := by
  have h := c_mask x 2147483647 31 (by decide) (by decide)
  have hr := (c_irem (x &&& (2147483647 : Int32)) 3 3 (by decide)).1 (by rw [h]; omega)
  have ha := c_iadd ((x &&& (2147483647 : Int32)) % (3 : Int32)) 1
  have g := rng32 ((x &&& (2147483647 : Int32)) % (3 : Int32) + 1)
  have e1 : (1 : Int32).toInt = 1 := by decide
  have e2 : (2 : Int32).toInt = 2 := by decide
  have e3 : (3 : Int32).toInt = 3 := by decide
  simp only [← Int32.toInt_inj, e1, e2, e3] at ha ⊢
  omega
theorem own_20 (x : Int32) : 0 ≤ (x &&& (1048575 : Int32)).toInt64.toInt ∧ (x &&& (1048575 : Int32)).toInt64.toInt < 1048576 := by
  have h := c_mask x 1048575 20 (by decide) (by decide)
  rw [c_i2l, h]; omega
theorem own_ord {args : Array Value} {s : State} {t : Term} {x : Addr} {C n dd : String} {k : Int32} (ht : t.eval args s none [] s = some (.ref x)) (h : (Jvm.Cond.eq (.field t C n dd) (.int k)).value args s none s [] = some true) : s.fieldOf? x C n dd = some (.int k) :=
  (fld_at ht).symm.trans (eqv_i (Term.int_eval k) h)
theorem own_ne {s : State} {x y : Addr} {C n dd : String} {j k : Int32} (h1 : s.fieldOf? x C n dd = some (.int j)) (h2 : s.fieldOf? y C n dd = some (.int k)) (h : j ≠ k) : ¬ x = y := fun e => by
  subst e
  exact h (Value.int.inj (Option.some.inj (h1.symm.trans h2)))
theorem own_all (l : Launch) (Z : State) (a0 : Array Value) (hw : ∀ d ∈ tables_1, d.before a0 Z = true) (ws : List Jvm.Cond) (p1 p2 p3 p4 p5 : Int32) (wMIN wMAX wAVG wSUM : Addr) (x0 y1 y2 : Int64) (h0 : Heap) (n0 : Nat) (Z0 : n0 ≤ h0.size) (S_MIN : Sta Z h0 "com/example/tiebreaker/tiebreaker/engine/search/DecayFunction$MultiValueMode" "MIN" "Lcom/example/tiebreaker/tiebreaker/engine/search/DecayFunction$MultiValueMode;" (.ref wMIN)) (S_MAX : Sta Z h0 "com/example/tiebreaker/tiebreaker/engine/search/DecayFunction$MultiValueMode" "MAX" "Lcom/example/tiebreaker/tiebreaker/engine/search/DecayFunction$MultiValueMode;" (.ref wMAX)) (S_AVG : Sta Z h0 "com/example/tiebreaker/tiebreaker/engine/search/DecayFunction$MultiValueMode" "AVG" "Lcom/example/tiebreaker/tiebreaker/engine/search/DecayFunction$MultiValueMode;" (.ref wAVG)) (S_SUM : Sta Z h0 "com/example/tiebreaker/tiebreaker/engine/search/DecayFunction$MultiValueMode" "SUM" "Lcom/example/tiebreaker/tiebreaker/engine/search/DecayFunction$MultiValueMode;" (.ref wSUM)) (nXI : ¬ wMAX = wMIN) (nAI : ¬ wAVG = wMIN) (nAX : ¬ wAVG = wMAX) (nSI : ¬ wSUM = wMIN) (nSX : ¬ wSUM = wMAX) (nAS : ¬ wAVG = wSUM) (E_MIN : Exa Z h0 wMIN "com/example/tiebreaker/tiebreaker/engine/search/DecayFunction$MultiValueMode") (E_MAX : Exa Z h0 wMAX "com/example/tiebreaker/tiebreaker/engine/search/DecayFunction$MultiValueMode") (E_AVG : Exa Z h0 wAVG "com/example/tiebreaker/tiebreaker/engine/search/DecayFunction$MultiValueMode") (E_SUM : Exa Z h0 wSUM "com/example/tiebreaker/tiebreaker/engine/search/DecayFunction$MultiValueMode") (hx0 : x0 = (p3 &&& (1048575 : Int32)).toInt64) (hy1 : y1 = (p4 &&& (1048575 : Int32)).toInt64) (hy2 : y2 = (p5 &&& (1048575 : Int32)).toInt64) (b0 : 0 ≤ x0.toInt ∧ x0.toInt < 4000000) (b1 : 0 ≤ (x0 + y1).toInt ∧ (x0 + y1).toInt < 4000000) (b2 : 0 ≤ ((x0 + y1) + y2).toInt ∧ ((x0 + y1) + y2).toInt < 4000000) :
    MetFree l x (head1 (Jvm.Cond.code x code maxLocals ret :: ws) room_1) (fun a U => a = #[(.int p1), (.int p2), (.int p3), (.int p4), (.int p5)] ∧ Z.Warmed39 U.vm ∧ U.heap = h0) (fun _ _ _ _ _ => True) (fun _ U o U' => ∃ v L, o = .returned v ∧ Q0 h0 n0 v U'.heap L ∧ FrameEnd U o U' L room_1.cells room_1.slots) := by
  rcases own_four p1 with hm | hm | hm | hm <;> rcases own_three p2 with hn | hn | hn
  · exact rm0_0_1 l Z a0 hw ws p1 p2 p3 p4 p5 wMIN wMAX wAVG wSUM x0 y1 y2 h0 n0 Z0 S_MIN S_MAX S_AVG S_SUM nXI nAI nAX nSI nSX nAS E_MIN hx0 hy1 hy2 b0 b1 b2 hm hn
  · exact rm0_0_2 l Z a0 hw ws p1 p2 p3 p4 p5 wMIN wMAX wAVG wSUM x0 y1 y2 h0 n0 Z0 S_MIN S_MAX S_AVG S_SUM nXI nAI nAX nSI nSX nAS E_MIN hx0 hy1 hy2 b0 b1 b2 hm hn
  · exact rm0_0_3 l Z a0 hw ws p1 p2 p3 p4 p5 wMIN wMAX wAVG wSUM x0 y1 y2 h0 n0 Z0 S_MIN S_MAX S_AVG S_SUM nXI nAI nAX nSI nSX nAS E_MIN hx0 hy1 hy2 b0 b1 b2 hm hn
  · exact rm0_1_1 l Z a0 hw ws p1 p2 p3 p4 p5 wMIN wMAX wAVG wSUM x0 y1 y2 h0 n0 Z0 S_MIN S_MAX S_AVG S_SUM nXI nAI nAX nSI nSX nAS E_MAX hx0 hy1 hy2 b0 b1 b2 hm hn
  · exact rm0_1_2 l Z a0 hw ws p1 p2 p3 p4 p5 wMIN wMAX wAVG wSUM x0 y1 y2 h0 n0 Z0 S_MIN S_MAX S_AVG S_SUM nXI nAI nAX nSI nSX nAS E_MAX hx0 hy1 hy2 b0 b1 b2 hm hn
  · exact rm0_1_3 l Z a0 hw ws p1 p2 p3 p4 p5 wMIN wMAX wAVG wSUM x0 y1 y2 h0 n0 Z0 S_MIN S_MAX S_AVG S_SUM nXI nAI nAX nSI nSX nAS E_MAX hx0 hy1 hy2 b0 b1 b2 hm hn
  · exact rm0_2_1 l Z a0 hw ws p1 p2 p3 p4 p5 wMIN wMAX wAVG wSUM x0 y1 y2 h0 n0 Z0 S_MIN S_MAX S_AVG S_SUM nXI nAI nAX nSI nSX nAS E_AVG hx0 hy1 hy2 b0 b1 b2 hm hn
  · exact rm0_2_2 l Z a0 hw ws p1 p2 p3 p4 p5 wMIN wMAX wAVG wSUM x0 y1 y2 h0 n0 Z0 S_MIN S_MAX S_AVG S_SUM nXI nAI nAX nSI nSX nAS E_AVG hx0 hy1 hy2 b0 b1 b2 hm hn
  · exact rm0_2_3 l Z a0 hw ws p1 p2 p3 p4 p5 wMIN wMAX wAVG wSUM x0 y1 y2 h0 n0 Z0 S_MIN S_MAX S_AVG S_SUM nXI nAI nAX nSI nSX nAS E_AVG hx0 hy1 hy2 b0 b1 b2 hm hn
  · exact rm0_3_1 l Z a0 hw ws p1 p2 p3 p4 p5 wMIN wMAX wAVG wSUM x0 y1 y2 h0 n0 Z0 S_MIN S_MAX S_AVG S_SUM nXI nAI nAX nSI nSX nAS E_SUM hx0 hy1 hy2 b0 b1 b2 hm hn
  · exact rm0_3_2 l Z a0 hw ws p1 p2 p3 p4 p5 wMIN wMAX wAVG wSUM x0 y1 y2 h0 n0 Z0 S_MIN S_MAX S_AVG S_SUM nXI nAI nAX nSI nSX nAS E_SUM hx0 hy1 hy2 b0 b1 b2 hm hn
  · exact rm0_3_3 l Z a0 hw ws p1 p2 p3 p4 p5 wMIN wMAX wAVG wSUM x0 y1 y2 h0 n0 Z0 S_MIN S_MAX S_AVG S_SUM nXI nAI nAX nSI nSX nAS E_SUM hx0 hy1 hy2 b0 b1 b2 hm hn
set_option maxRecDepth 65536 in
set_option maxHeartbeats 40000000 in
theorem comes_1 {Post : Tables → Env → Array Value → State → Outcome → State → Prop} (hpost : ∀ tb e args s v u, (limb_1_1.after args s (.returned v) u = true ∧ limb_1_2.after args s (.returned v) u = true ∧ True) → FrameEnd s (.returned v) u (Jvm.fieldLocs frame_1_writes args s ++ Jvm.arrayLocs frame_1_arrays args s ++ Jvm.staticLocs frame_1_statics s) 16 128 → Post tb e args s (.returned v) u) :
    ArmFor flags0 classFile x code maxLocals ret World_1 tables_1 room_1 Calls_1 rest_1 Pre_1 Post := by
  intro l hfl _ _ p e ha hc hk s m args below hf hA hF happ hP
  obtain ⟨hcalls, hrest, hpre⟩ := hP
  obtain ⟨-, -, -, hnamed, -, -, -, hat⟩ := (Spec.applies_iff hf).mp happ
  obtain ⟨hg, hn⟩ := and_e (Cond.before_iff.mp (show (Jvm.Cond.and given_1 narrow_1).before args s = true from hpre))
  obtain ⟨g0, hg⟩ := and_e hg
  obtain ⟨w0, w1, w2, w3, w4, rfl⟩ : ∃ w0 w1 w2 w3 w4 : Value, args = #[w0, w1, w2, w3, w4] := by
    have hs : args.size = 5 := by simpa [Cond.value] using g0
    obtain ⟨L⟩ := args
    match L, hs with
    | [w0, w1, w2, w3, w4], _ => exact ⟨w0, w1, w2, w3, w4, rfl⟩
  have hw := fun d (hd : d ∈ tables_1) => atoms_spec (ws := Jvm.Cond.code x code maxLocals ret :: tables_1) hat d (List.mem_cons_of_mem _ hd)
  obtain ⟨g1, hg⟩ := and_e hg
  obtain ⟨g2, hg⟩ := and_e hg
  obtain ⟨g3, hg⟩ := and_e hg
  obtain ⟨g4, g5⟩ := and_e hg
  obtain ⟨i0, ei0⟩ := is_v g1
  obtain rfl : w0 = (.int i0) := Option.some.inj ei0
  obtain ⟨i1, ei1⟩ := is_v g2
  obtain rfl : w1 = (.int i1) := Option.some.inj ei1
  obtain ⟨i2, ei2⟩ := is_v g3
  obtain rfl : w2 = (.int i2) := Option.some.inj ei2
  obtain ⟨i3, ei3⟩ := is_v g4
  obtain rfl : w3 = (.int i3) := Option.some.inj ei3
  obtain ⟨i4, ei4⟩ := is_v g5
  obtain rfl : w4 = (.int i4) := Option.some.inj ei4
  obtain ⟨c1, hn⟩ := and_e hn
  obtain ⟨c2, hn⟩ := and_e hn
  obtain ⟨c3, hn⟩ := and_e hn
  obtain ⟨c4, hn⟩ := and_e hn
  obtain ⟨c5, hn⟩ := and_e hn
  obtain ⟨c6, hn⟩ := and_e hn
  obtain ⟨c7, c8⟩ := and_e hn
  obtain ⟨wI, vI⟩ := exa_v c1
  obtain ⟨wS, vS⟩ := exa_v c2
  obtain ⟨wX, vX⟩ := exa_v c5
  obtain ⟨wA, vA⟩ := exa_v c7
  have SI := Sta.start vI (Or.inr ⟨hw _ (List.mem_of_getElem? (i := 1) rfl), hw _ (List.mem_of_getElem? (i := 2) rfl)⟩)
  have SS := Sta.start vS (Or.inr ⟨hw _ (List.mem_of_getElem? (i := 1) rfl), hw _ (List.mem_of_getElem? (i := 13) rfl)⟩)
  have SX := Sta.start vX (Or.inr ⟨hw _ (List.mem_of_getElem? (i := 1) rfl), hw _ (List.mem_of_getElem? (i := 15) rfl)⟩)
  have SA := Sta.start vA (Or.inr ⟨hw _ (List.mem_of_getElem? (i := 1) rfl), hw _ (List.mem_of_getElem? (i := 18) rfl)⟩)
  have oS := own_ord vS c3
  have oI := own_ord vI c4
  have oX := own_ord vX c6
  have oA := own_ord vA c8
  have q0 := own_20 i2
  have q1 := own_20 i3
  have q2 := own_20 i4
  have r1 := own_add (a := (i2 &&& (1048575 : Int32)).toInt64) (b := (i3 &&& (1048575 : Int32)).toInt64) ⟨by omega, by omega⟩ ⟨by omega, by omega⟩
  have r2 := own_add (a := (i2 &&& (1048575 : Int32)).toInt64 + (i3 &&& (1048575 : Int32)).toInt64) (b := (i4 &&& (1048575 : Int32)).toInt64) ⟨by omega, by omega⟩ ⟨by omega, by omega⟩
  have main := own_all l s _ hw tables_1 i0 i1 i2 i3 i4 wI wX wA wS _ _ _ s.heap s.heap.size (Nat.le_refl _) SI SX SA SS (own_ne oX oI (by decide)) (own_ne oA oI (by decide)) (own_ne oA oX (by decide)) (own_ne oS oI (by decide)) (own_ne oS oX (by decide)) (own_ne oA oS (by decide)) (Exa.start vI c1) (Exa.start vX c5) (Exa.start vA c7) (Exa.start vS c2) rfl rfl rfl ⟨by omega, by omega⟩ ⟨by omega, by omega⟩ ⟨by omega, by omega⟩
  obtain ⟨n, o, h1, h2, h3, _, L, rfl, ⟨rfl, N⟩, hq⟩ := main p e ha hc hk s m _ below hf ((Spec.applies_iff_loose hf).mp happ).1 ⟨rfl, State.Warmed39.refl s, rfl⟩ trivial
  refine ⟨n, _, h1, h2, h3, hpost _ _ _ _ _ _ ⟨Cond.after_iff.mpr rfl, Cond.after_iff.mpr (eq_i res_at (Term.int_eval (1)) rfl), trivial⟩ ⟨hq.1, hq.2.1, (hq.2.2.sift fun y hy => Or.inr (N y hy)).mono (by decide) (by decide)⟩⟩
theorem main_1_1 : Claimed_1_1 := comes_1 fun _ _ _ _ _ _ h hF => ⟨h.1, hF⟩
theorem main_1_2 : Claimed_1_2 := comes_1 fun _ _ _ _ _ _ h hF => ⟨h.2.1, hF⟩
end Jvm.Pilot.@@N@@
namespace Jvm.Pilot.@@N@@
open Jvm Jvm.ClassFile Sem Op Lib Jvm.Free Jvm.Stand Jvm.Pilot.@@N@@.Jvm.D
/-! MADE BY PROGRAM (witnessworld.py) out of the Statement's table words and the real class files: 12 classes; the members and pool entries that the words name. The judged class is class 1, her method 1. -/
namespace start1
open Jvm.ClassFile
def u (s : String) : CpInfo := .utf8 (stringToUtf16 s)
/-- a pool by its gaps: so many unusable entries, then the entry; so many at the end -/
def gap : Nat → List CpInfo → List CpInfo
  | 0, r => r
  | n + 1, r => .unusable :: gap n r
def poolList (es : List (Nat × CpInfo)) (last : Nat) : List CpInfo := es.foldr (fun e r => gap e.1 (e.2 :: r)) (gap last [])
def pool (es : List (Nat × CpInfo)) (last : Nat) : Array CpInfo := ⟨poolList es last⟩
def fileOf (pool : Array CpInfo) (this : Nat) (attrs : Array Attribute := #[]) (ms : Array MethodInfo := #[]) (fl : Nat := 33) (sup : Nat := 0) (ifs : Array Nat := #[]) (fds : Array FieldInfo := #[]) : ClassFile where
  minorVersion := 0
  majorVersion := 65
  constantPool := pool
  accessFlags := fl
  thisClass := this
  superClass := sup
  interfaces := ifs
  fields := fds
  methods := ms
  attributes := attrs
def plain (name : String) (sup : Option ClassId) : Class where
  name := name
  kind := .ordinary
  loader := none
  accessFlags := 33
  super := sup
  interfaces := #[]
  cf := none
  fields := #[]
  methods := #[]
  instanceTypes := #[]
  staticTypes := #[]
  resolved := #[]
  callSites := []
  init := .initialized
  statics := none
  mirror := none

def pool0 : Array CpInfo := pool [(5, u "<init>"), (0, u "()V"), (1, .class_ 10), (1, u "java/lang/Object")] 113

def k0m0 : Method := { name := "<init>", desc := "()V", sig := { parameters := [], returnType := none }, accessFlags := 1, code := none }
/-- java/lang/Object -/
def k0 : Class := { plain "java/lang/Object" none with
  accessFlags := 33
  interfaces := #[]
  cf := some (fileOf pool0 8 #[] #[{ accessFlags := 1, nameIndex := 5, descriptorIndex := 6, attributes := #[] }] 33 0 #[] #[])
  fields := #[]
  methods := #[k0m0]
  instanceTypes := #[]
  staticTypes := #[]
  resolved := Array.replicate 124 none
  statics := none }

def pool1 : Array CpInfo := pool [(2, .class_ 4), (1, u "java/lang/Object"), (0, u "<init>"), (0, u "()V"), (0, .fieldref 8 9), (0, .class_ 10), (0, .nameAndType 11 12), (0, u "com/example/tiebreaker/tiebreaker/engine/search/DecayFunction$MultiValueMode"), (0, u "MIN"), (0, u "Lcom/example/tiebreaker/tiebreaker/engine/search/DecayFunction$MultiValueMode;"), (0, .fieldref 8 14), (0, .nameAndType 15 12), (0, u "MAX"), (0, .fieldref 8 17), (0, .nameAndType 18 12), (0, u "AVG"), (0, .fieldref 8 20), (0, .nameAndType 21 12), (0, u "SUM"), (0, .integer 2147483647), (0, .integer 1048575), (0, .methodref 8 25), (0, .nameAndType 26 27), (0, u "pick"), (0, u "([D)D"), (0, .class_ 29), (0, u "com/example/tiebreaker/tiebreaker/engine/search/MultiValueModePickPinLaw"), (2, u "law"), (0, u "(IIIII)Z")] 9

def k1m0 : Method := { name := "<init>", desc := "()V", sig := { parameters := [], returnType := none }, accessFlags := 2, code := none }
def k1c1 : Code := { maxStack := 5, maxLocals := 23, code := code, exceptionTable := #[], attributes := #[] }
def k1m1 : Method := { name := "law", desc := "(IIIII)Z", sig := { parameters := [.int, .int, .int, .int, .int], returnType := some .boolean }, accessFlags := 9, code := some k1c1 }
/-- com/example/tiebreaker/tiebreaker/engine/search/MultiValueModePickPinLaw -/
def k1 : Class := { plain "com/example/tiebreaker/tiebreaker/engine/search/MultiValueModePickPinLaw" (some 0) with
  accessFlags := 49
  interfaces := #[]
  cf := some (fileOf pool1 28 #[] #[{ accessFlags := 2, nameIndex := 5, descriptorIndex := 6, attributes := #[] }, { accessFlags := 9, nameIndex := 32, descriptorIndex := 33, attributes := #[] }] 49 2 #[] #[])
  fields := #[]
  methods := #[k1m0, k1m1]
  instanceTypes := #[]
  staticTypes := #[]
  resolved := Array.replicate 43 none
  statics := none }

def pool2 : Array CpInfo := pool [(1, .class_ 2), (0, u "java/lang/constant/Constable"), (0, .class_ 4), (0, u "java/lang/Object")] 6

/-- java/lang/constant/Constable -/
def k2 : Class := { plain "java/lang/constant/Constable" (some 0) with
  accessFlags := 1537
  interfaces := #[]
  cf := some (fileOf pool2 1 #[] #[] 1537 3 #[] #[])
  fields := #[]
  methods := #[]
  instanceTypes := #[]
  staticTypes := #[]
  resolved := Array.replicate 11 none
  statics := none }

def pool3 : Array CpInfo := pool [(1, .class_ 2), (0, u "java/lang/Comparable"), (0, .class_ 4), (0, u "java/lang/Object")] 7

/-- java/lang/Comparable -/
def k3 : Class := { plain "java/lang/Comparable" (some 0) with
  accessFlags := 1537
  interfaces := #[]
  cf := some (fileOf pool3 1 #[] #[] 1537 3 #[] #[])
  fields := #[]
  methods := #[]
  instanceTypes := #[]
  staticTypes := #[]
  resolved := Array.replicate 12 none
  statics := none }

def pool4 : Array CpInfo := pool [(1, .class_ 2), (0, u "java/io/Serializable"), (0, .class_ 4), (0, u "java/lang/Object")] 2

/-- java/io/Serializable -/
def k4 : Class := { plain "java/io/Serializable" (some 0) with
  accessFlags := 1537
  interfaces := #[]
  cf := some (fileOf pool4 1 #[] #[] 1537 3 #[] #[])
  fields := #[]
  methods := #[]
  instanceTypes := #[]
  staticTypes := #[]
  resolved := Array.replicate 7 none
  statics := none }

def pool5 : Array CpInfo := pool [(2, .class_ 4), (1, u "java/lang/Enum"), (0, u "name"), (0, u "Ljava/lang/String;"), (2, u "ordinal"), (0, u "I"), (1, .class_ 14), (1, u "java/lang/Object"), (4, u "hash"), (86, .class_ 108), (1, u "java/lang/Enum$EnumDesc"), (2, .class_ 112), (0, u "java/lang/constant/Constable"), (0, .class_ 114), (0, u "java/lang/Comparable"), (0, .class_ 116), (0, u "java/io/Serializable")] 87

/-- java/lang/Enum -/
def k5 : Class := { plain "java/lang/Enum" (some 0) with
  accessFlags := 1057
  interfaces := #[2, 3, 4]
  cf := some (fileOf pool5 2 #[.nestMembers #[106]] #[] 1057 12 #[111, 113, 115] #[{ accessFlags := 18, nameIndex := 5, descriptorIndex := 6, attributes := #[] }, { accessFlags := 18, nameIndex := 9, descriptorIndex := 10, attributes := #[] }, { accessFlags := 2, nameIndex := 19, descriptorIndex := 10, attributes := #[] }])
  fields := #[{ name := "name", type := (.object "java/lang/String"), accessFlags := 18, slot := 0, constantValue := 0 }, { name := "ordinal", type := .int, accessFlags := 18, slot := 1, constantValue := 0 }, { name := "hash", type := .int, accessFlags := 2, slot := 2, constantValue := 0 }]
  methods := #[]
  instanceTypes := #[(.object "java/lang/String"), .int, .int]
  staticTypes := #[]
  resolved := Array.replicate 204 none
  statics := none }

def pool6 : Array CpInfo := pool [(1, .class_ 2), (0, u "com/example/tiebreaker/tiebreaker/engine/search/DecayFunction$MultiValueMode"), (0, .fieldref 1 4), (0, .nameAndType 5 6), (0, u "MIN"), (0, u "Lcom/example/tiebreaker/tiebreaker/engine/search/DecayFunction$MultiValueMode;"), (0, .fieldref 1 8), (0, .nameAndType 9 6), (0, u "MAX"), (2, u "AVG"), (0, .fieldref 1 14), (0, .nameAndType 15 6), (0, u "SUM"), (2, u "$VALUES"), (0, u "[Lcom/example/tiebreaker/tiebreaker/engine/search/DecayFunction$MultiValueMode;"), (6, .class_ 28), (1, u "java/lang/Enum"), (38, u "pick"), (0, u "([D)D"), (9, .class_ 79), (0, u "com/example/tiebreaker/tiebreaker/engine/search/DecayFunction")] 2

def k6c0 : Code := { maxStack := 4, maxLocals := 9, code := prog_49_method_4_code, exceptionTable := #[], attributes := #[] }
def k6m0 : Method := { name := "pick", desc := "([D)D", sig := { parameters := [(.array .double)], returnType := some .double }, accessFlags := 0, code := some k6c0 }
/-- com/example/tiebreaker/tiebreaker/engine/search/DecayFunction$MultiValueMode -/
def k6 : Class := { plain "com/example/tiebreaker/tiebreaker/engine/search/DecayFunction$MultiValueMode" (some 5) with
  accessFlags := 16433
  interfaces := #[]
  cf := some (fileOf pool6 1 #[.nestHost 78] #[{ accessFlags := 0, nameIndex := 67, descriptorIndex := 68, attributes := #[] }] 16433 26 #[] #[{ accessFlags := 16409, nameIndex := 5, descriptorIndex := 6, attributes := #[] }, { accessFlags := 16409, nameIndex := 9, descriptorIndex := 6, attributes := #[] }, { accessFlags := 16409, nameIndex := 12, descriptorIndex := 6, attributes := #[] }, { accessFlags := 16409, nameIndex := 15, descriptorIndex := 6, attributes := #[] }, { accessFlags := 4122, nameIndex := 18, descriptorIndex := 19, attributes := #[] }])
  fields := #[{ name := "MIN", type := (.object "com/example/tiebreaker/tiebreaker/engine/search/DecayFunction$MultiValueMode"), accessFlags := 16409, slot := 0, constantValue := 0 }, { name := "MAX", type := (.object "com/example/tiebreaker/tiebreaker/engine/search/DecayFunction$MultiValueMode"), accessFlags := 16409, slot := 1, constantValue := 0 }, { name := "AVG", type := (.object "com/example/tiebreaker/tiebreaker/engine/search/DecayFunction$MultiValueMode"), accessFlags := 16409, slot := 2, constantValue := 0 }, { name := "SUM", type := (.object "com/example/tiebreaker/tiebreaker/engine/search/DecayFunction$MultiValueMode"), accessFlags := 16409, slot := 3, constantValue := 0 }, { name := "$VALUES", type := (.array (.object "com/example/tiebreaker/tiebreaker/engine/search/DecayFunction$MultiValueMode")), accessFlags := 4122, slot := 4, constantValue := 0 }]
  methods := #[k6m0]
  instanceTypes := #[(.object "java/lang/String"), .int, .int]
  staticTypes := #[(.object "com/example/tiebreaker/tiebreaker/engine/search/DecayFunction$MultiValueMode"), (.object "com/example/tiebreaker/tiebreaker/engine/search/DecayFunction$MultiValueMode"), (.object "com/example/tiebreaker/tiebreaker/engine/search/DecayFunction$MultiValueMode"), (.object "com/example/tiebreaker/tiebreaker/engine/search/DecayFunction$MultiValueMode"), (.array (.object "com/example/tiebreaker/tiebreaker/engine/search/DecayFunction$MultiValueMode"))]
  resolved := Array.replicate 82 none
  statics := some 0 }

def pool7 : Array CpInfo := pool [(1, u "java/lang/Cloneable"), (0, .class_ 1), (0, u "java/lang/Object"), (0, .class_ 3)] 3

/-- java/lang/Cloneable -/
def k7 : Class := { plain "java/lang/Cloneable" (some 0) with
  accessFlags := 1537
  interfaces := #[]
  cf := some (fileOf pool7 2 #[] #[] 1537 4 #[] #[])
  fields := #[]
  methods := #[]
  instanceTypes := #[]
  staticTypes := #[]
  resolved := Array.replicate 8 none
  statics := none }

/-- the primitive byte -/
def k8 : Class := { plain "byte" none with kind := .primitive 'B', accessFlags := 0x411 }
/-- [B -/
def k9 : Class := { plain "[B" (some 0) with kind := .array 8 .byte, interfaces := #[7, 4], accessFlags := 1041 }

/-- the primitive int -/
def k10 : Class := { plain "int" none with kind := .primitive 'I', accessFlags := 0x411 }
/-- [I -/
def k11 : Class := { plain "[I" (some 0) with kind := .array 10 .int, interfaces := #[7, 4], accessFlags := 1041 }

/-- the primitive double -/
def k12 : Class := { plain "double" none with kind := .primitive 'D', accessFlags := 0x411 }
/-- [D -/
def k13 : Class := { plain "[D" (some 0) with kind := .array 12 .double, interfaces := #[7, 4], accessFlags := 1041 }

def heap : Heap := #[{ cls := 6, slots := #[.ref 1, .ref 2, .ref 3, .ref 4, .null], vm := .statics 6 },
  { cls := 6, slots := #[.null, .int 0, .int 0], vm := .none },
  { cls := 6, slots := #[.null, .int 1, .int 0], vm := .none },
  { cls := 6, slots := #[.null, .int 2, .int 0], vm := .none },
  { cls := 6, slots := #[.null, .int 3, .int 0], vm := .none }]
def classes : Array Class := #[k0, k1, k2, k3, k4, k5, k6, k7, k8, k9, k10, k11, k12, k13]
def interned : List (Array UInt16 × Addr) := []
def slotsUsed : Nat := 17
def theMethod : MethodId := ⟨1, 1⟩
def args0 : Array Value := #[.int 5, .int 1, .int 7, .int 8, .int 9]
def aboutOver (below : List Frame) : State where
  vm := { classes := classes, interned := interned.toArray }
  heap := heap
  slotsUsed := slotsUsed
  threads := #[{ frames := .invoking theMethod args0 :: below }]
def below0 : List Frame := [.native { method := ⟨0, 0⟩, args := #[] }]
def about1 : State := aboutOver below0
def p0 : Program := .bare "" "" ""
def e0 : Env := launch0.env 0 0 0
theorem w_frames : about1.frames = Frame.invoking theMethod args0 :: below0 := rfl
set_option maxRecDepth 65536 in
theorem w_args : argsFit about1.vm theMethod args0 = true := by decide +kernel
set_option maxRecDepth 65536 in
theorem w_heap : heapFits about1 = true := by decide +kernel
set_option maxRecDepth 65536 in
theorem w_runnable : about1.curStatus? = some .runnable := by decide +kernel
set_option maxRecDepth 65536 in
theorem w_alone : about1.alone = true := by decide +kernel
set_option maxRecDepth 65536 in
theorem w_named : about1.methodNamed? x = some theMethod := by decide +kernel
set_option maxRecDepth 65536 in
theorem w_hears : about1.hears theMethod below0 = true := by decide +kernel
set_option maxRecDepth 65536 in
theorem w_ripe : about1.ripe theMethod args0 below0 = true := by decide +kernel
theorem w_running : about1.status = .running := rfl
set_option maxRecDepth 65536 in
theorem w_room : about1.hasRoom e0.platform room_1 = true :=
  launch0.hasRoom_least _ room_1 (by decide +kernel) (by decide +kernel) (by decide +kernel) (by decide +kernel) (by decide +kernel) (by decide +kernel)
theorem allAtoms_all (ts : List Jvm.Cond) (a : Array Jvm.Value) (st : Jvm.State) : (allAtoms ts).before a st = ts.all (fun c => c.before a st) := by
  induction ts with
  | nil => rfl
  | cons c t ih =>
    show (Jvm.Cond.and c (allAtoms t)).before a st = _
    rw [Jvm.Cond.before_and, ih, List.all_cons]
def words1 : List Jvm.Cond := Jvm.Cond.code x code maxLocals ret :: tables_1
/-- a 'code' word, met by the world's own term for the bytes: nothing is compared byte by byte -/
theorem code_word {y : MethodName} {bytes : ByteArray} {mx : Nat} {rt : Option FieldType} {a : Array Value} {s : State} {m : MethodId} {meth : Method} {c : Code} (h1 : s.methodNamed? y = some m) (h2 : s.vm.method? m = some meth) (h3 : meth.code = some c) (h4 : c.code = bytes)
    (h5 : (c.maxLocals == mx && c.exceptionTable.isEmpty && decide (c.maxStack ≤ mostOperands) && decide (meth.sig.returnType = rt) && !meth.locks && decide (parseMethodDescriptor y.desc = some meth.sig)) = true) : (Jvm.Cond.code y bytes mx rt).before a s = true := by
  simp only [Bool.and_eq_true, beq_iff_eq, Bool.not_eq_true', decide_eq_true_eq] at h5
  obtain ⟨⟨⟨⟨⟨g1, g2⟩, g3⟩, g4⟩, g5⟩, g6⟩ := h5
  simp [Cond.before, Cond.holds, Cond.value, h1, h2, h3, h4, g1, g2, g3, g4, g5, g6]
def isCode : Jvm.Cond → Bool
  | .code _ _ _ _ => true
  | _ => false
theorem all_split {L : List Jvm.Cond} {P : Jvm.Cond → Bool} (h1 : L.all (fun c => isCode c || P c) = true) (h2 : ∀ c ∈ L.filter isCode, P c = true) : L.all P = true := by
  refine List.all_eq_true.mpr fun c hc => ?_
  have h := List.all_eq_true.mp h1 c hc
  rcases Bool.eq_false_or_eq_true (isCode c) with hi | hi
  · exact h2 c (List.mem_filter.mpr ⟨hc, hi⟩)
  · simpa [hi] using h
set_option maxRecDepth 65536 in
theorem w_c0 : (Jvm.Cond.code x code maxLocals ret).before args0 about1 = true := code_word (m := ⟨1, 1⟩) (meth := k1m1) (c := k1c1) (by decide +kernel) rfl rfl rfl (by decide +kernel)
set_option maxRecDepth 65536 in
theorem w_c1 : (Jvm.Cond.code ({ cls := "com/example/tiebreaker/tiebreaker/engine/search/DecayFunction$MultiValueMode", name := "pick", desc := "([D)D" } : Jvm.MethodName) prog_49_method_4_code (9 : Nat) (Option.some Jvm.ClassFile.FieldType.double)).before args0 about1 = true := code_word (m := ⟨6, 0⟩) (meth := k6m0) (c := k6c0) (by decide +kernel) rfl rfl rfl (by decide +kernel)
def codes1 : List Jvm.Cond := [Jvm.Cond.code x code maxLocals ret, Jvm.Cond.code ({ cls := "com/example/tiebreaker/tiebreaker/engine/search/DecayFunction$MultiValueMode", name := "pick", desc := "([D)D" } : Jvm.MethodName) prog_49_method_4_code (9 : Nat) (Option.some Jvm.ClassFile.FieldType.double)]
set_option maxRecDepth 65536 in
theorem codes_eq : words1.filter isCode = codes1 := rfl
theorem w_codes : ∀ c ∈ words1.filter isCode, c.before args0 about1 = true := by
  rw [codes_eq]
  intro c hc
  simp only [codes1, List.mem_cons, List.not_mem_nil, or_false] at hc
  rcases hc with rfl | rfl
  · exact w_c0
  · exact w_c1
set_option maxRecDepth 65536 in
theorem w_t1 : words1.all (fun c => isCode c || c.before args0 about1) = true := by decide +kernel
theorem w_tables : (allAtoms (Jvm.Cond.code x code maxLocals ret :: tables_1)).before args0 about1 = true := by
  rw [allAtoms_all]
  show words1.all (fun c => c.before args0 about1) = true
  refine all_split ?_ w_codes
  rw [w_t1]
set_option maxRecDepth 65536 in
theorem w_case : (Jvm.Cond.and given_1 narrow_1).before args0 about1 = true := by decide +kernel
theorem w_applies : (headSpec (Jvm.Cond.code x code maxLocals ret :: tables_1) room_1).applies x e0.platform about1 = true :=
  (Spec.applies_iff w_frames).mpr ⟨w_running, w_runnable, w_alone, w_named, w_hears, w_ripe, w_room, w_tables⟩
theorem atStart : AtStart classFile x code maxLocals ret World_1 tables_1 room_1 Calls_1 rest_1 Pre_1 launch0 p0 e0 about1 theMethod args0 below0 :=
  ⟨lists_1, trivial, launch0.admits_env _ _ _, launch0.least_env, fairChoices_fair.cas, fairChoices_fair.clock, w_frames, w_args, w_heap, w_applies, trivial, trivial, w_case⟩
end start1
theorem witness_1 : WitnessClaimed_1 := ⟨start1.p0, start1.e0, start1.about1, start1.theMethod, start1.args0, start1.below0, start1.atStart⟩
end Jvm.Pilot.@@N@@
