import JvmDerived
import JvmDerived.Pilot.@@N@@Statement
import JvmDerived.Pilot.@@N@@Code
set_option linter.unusedVariables false
set_option linter.unusedSimpArgs false
namespace Jvm.RoadKit
open Sem ClassFile Op Lib Jvm.Stand Jvm.Free Jvm.LawKit
section New
variable {p : Program} {l : Launch} {e : Env} {R : Room} {s : State} {m : MethodId} {args : Array Value} {below : List Frame} {meth : Method} {c : Code} {T : State} {locs : List Loc} {cells slots : Nat}
theorem retI (X : Stand p l e R s m args below meth c T locs cells slots) (hx : p.tables.exec = Jvm.exec) {pc : Nat} {Ls : Array Slot} {z : Int32} {rest : List Value} (hret : meth.sig.returnType = some .int) (hd : decode c.code pc = .ok (.ireturn, 1)) {fs : List Frame}
    (hl : ∀ (f : JFrame) (acts : List Action), f.method = m → f.locked = none → f.entered = [] → (doReturn e (T.setTop f) acts (some (.int z))).1 = T.setFrames fs) : Steps p.tables e below (T.setTop (mkF m pc Ls (.int z :: rest))) (T.setFrames fs) := by
  have hm' : T.vm.method? m = some meth := X.method'
  have hn : narrow .int (.int z) = .int z := rfl
  show Steps p.tables e below (T.setTop { method := m, pc := pc, locals := Ls, stack := _ :: rest, locked := none }) _
  jvm_step X.here [X.here.top, hx, hd, hm', hret, hn]
  first | (intro acts; rw [hl _ acts rfl rfl rfl]) | rw [hl _ _ rfl rfl rfl]
  exact Steps.refl _
end New
end Jvm.RoadKit
/- laws to paste: Road.backV (cut by pick.py; bodies as the Statement names them) -/
namespace Jvm.Pilot.@@N@@
namespace StrChars
open Jvm Sem ClassFile Op Lib Jvm.Stand Jvm.Free.XT Jvm.Free.ALB Jvm.Free.JM Jvm.Free
open Jvm.Lib.Cold (StaticIs)
/-- a char array whose places are chars -/
def Ch (a : Addr) (A : Cell) (U : State) : Prop := Arr .char a A U ∧ Typed .char A
theorem Ch.mv {a : Addr} {A : Cell} {U U' : State} (h : Ch a A U) (hal : U.vm.Alike U'.vm) (hh : U'.heap = U.heap) : Ch a A U' := ⟨h.1.mv hal hh, h.2⟩
theorem Ch.keep {a : Addr} {A : Cell} {U U' : State} (h : Ch a A U) (hal : U.vm.Alike U'.vm) (hk : U'.heap[a]? = some A) : Ch a A U' := ⟨h.1.keep hal hk, h.2⟩
/-- what place i of a char[]'s cell holds -/
def cv (A : Cell) (i : Nat) : Int32 := match A.slots[i]? with | some (.int x) => x | _ => 0
theorem Ch.get {a : Addr} {A : Cell} {U : State} (h : Ch a A U) {i : Nat} (hi : i < A.slots.size) : A.slots[i]? = some (.int (cv A i)) := by
  have e := Array.getElem?_eq_getElem hi
  have f := h.2 i _ e
  unfold cv; rw [e]
  generalize A.slots[i] = v at f
  cases v <;> simp [fits] at f ⊢
/-- the byte that i2b leaves of a char -/
def lo8 (x : Int32) : Int32 := x.toInt8.toInt32
theorem fits_lo8 (y : Int32) : fits .byte (.int (lo8 y)) = true := by
  have h1 := y.toInt8.le_toInt
  have h2 := y.toInt8.toInt_lt
  simp only [lo8, fits, Bool.and_eq_true, decide_eq_true_eq, Int32.le_iff_toInt_le, Int8.toInt_toInt32, show (-128 : Int32).toInt = -128 from by decide, show (127 : Int32).toInt = 127 from by decide]
  omega
/-- A' is A but that each place j of lo .. hi - 1 holds f j -/
def Laid (A A' : Cell) (lo hi : Nat) (f : Nat → Value) : Prop := A'.cls = A.cls ∧ A'.vm = A.vm ∧ A'.slots.size = A.slots.size ∧ ∀ i, A'.slots[i]? = if lo ≤ i ∧ i < hi then some (f i) else A.slots[i]?
theorem Laid.zero (A : Cell) (lo : Nat) (f : Nat → Value) : Laid A A lo (lo + 0) f := ⟨rfl, rfl, rfl, fun i => by rw [if_neg (by omega)]⟩
theorem Laid.step {A Ak : Cell} {lo k : Nat} {f : Nat → Value} {v : Value} (h : Laid A Ak lo k f) (hlo : lo ≤ k) (hk : k < Ak.slots.size) (hv : v = f k) : Laid A (Ak.setSlot k v) lo (k + 1) f := by
  refine ⟨h.1, h.2.1, by simpa [Cell.setSlot] using h.2.2.1, fun i => ?_⟩
  by_cases e : k = i
  · subst e; rw [Cell.slots_setSlot_self v hk, if_pos (by omega), hv]
  · rw [Cell.slots_setSlot_ne v e, h.2.2.2 i]
    by_cases q : lo ≤ i ∧ i < k
    · rw [if_pos q, if_pos (by omega)]
    · rw [if_neg q, if_neg (by omega)]
def U16 : String := "java/lang/StringUTF16"
namespace Cmp5
def yN : MethodName := ⟨"java/lang/StringUTF16", "compress", "([CI[BII)I"⟩
abbrev yB : ByteArray := jdk_52_method_21_code
theorem d0 : decode yB 0 = .ok (.iconst 0, 1) := by decide +kernel
theorem d1 : decode yB 1 = .ok (.istore 5, 2) := by decide +kernel
theorem d3 : decode yB 3 = .ok (.iload 5, 2) := by decide +kernel
theorem d5 : decode yB 5 = .ok (.iload 4, 2) := by decide +kernel
theorem d7 : decode yB 7 = .ok (.if_icmp (.ge) 37, 3) := by decide +kernel
theorem d10 : decode yB 10 = .ok (.aload_n 0, 1) := by decide +kernel
theorem d11 : decode yB 11 = .ok (.iload_n 1, 1) := by decide +kernel
theorem d12 : decode yB 12 = .ok (.caload, 1) := by decide +kernel
theorem d13 : decode yB 13 = .ok (.istore 6, 2) := by decide +kernel
theorem d15 : decode yB 15 = .ok (.iload 6, 2) := by decide +kernel
theorem d17 : decode yB 17 = .ok (.sipush 255, 3) := by decide +kernel
theorem d20 : decode yB 20 = .ok (.if_icmp (.le) 6, 3) := by decide +kernel
theorem d26 : decode yB 26 = .ok (.aload_n 2, 1) := by decide +kernel
theorem d27 : decode yB 27 = .ok (.iload_n 3, 1) := by decide +kernel
theorem d28 : decode yB 28 = .ok (.iload 6, 2) := by decide +kernel
theorem d30 : decode yB 30 = .ok (.i2b, 1) := by decide +kernel
theorem d31 : decode yB 31 = .ok (.bastore, 1) := by decide +kernel
theorem d32 : decode yB 32 = .ok (.iinc 1 1, 3) := by decide +kernel
theorem d35 : decode yB 35 = .ok (.iinc 3 1, 3) := by decide +kernel
theorem d38 : decode yB 38 = .ok (.iinc 5 1, 3) := by decide +kernel
theorem d41 : decode yB 41 = .ok (.goto (-38), 3) := by decide +kernel
theorem d44 : decode yB 44 = .ok (.iload 4, 2) := by decide +kernel
theorem d46 : decode yB 46 = .ok (.ireturn, 1) := by decide +kernel
def site : List Cond := []
def tab : Cond := tabOf yN yB 7 (some .int) site
def P (b : Addr) (A : Cell) (d : Addr) (B : Cell) (o q len : Nat) (args : Array Value) (s : State) : Prop := args = #[.ref b, .int (Int32.ofNat o), .ref d, .int (Int32.ofNat q), .int (Int32.ofNat len)] ∧ Ch b A s ∧ Arr .byte d B s ∧ b ≠ d ∧ o + len ≤ A.slots.size ∧ q + len ≤ B.slots.size ∧ ∀ i, i < len → ¬ 255 < cv A (o + i)
def E (b : Addr) (A : Cell) (d : Addr) (B : Cell) (o q len : Nat) (r : Option Value) (s u : State) : Prop := r = some (.int (Int32.ofNat len)) ∧ ∃ B', Put d B' s u ∧ Laid B B' q (q + len) (fun j => Value.int (lo8 (cv A (o + (j - q)))))
/-- no char of the range above 255: len; the places written hold each char's low byte -/
theorem law (l : Launch) (b : Addr) (A : Cell) (d : Addr) (B : Cell) (o q len : Nat) : Law l yN 5 5 0 0 yB 7 (some .int) site (P b A d B o q len) (E b A d B o q len) (copyLocs d q len) 0 0 := by
  refine Law.of_walk (plainFor_of_name (by decide +kernel)) (by decide +kernel) (by decide +kernel) (by decide) (fun _ _ h => by rw [h.1]; rfl) (fun _ U U' hal hh h => ⟨h.1, h.2.1.mv hal hh, h.2.2.1.mv hal hh, h.2.2.2⟩) (fun r U U' V V' h1 hal h2 h => ⟨h.1, h.2.elim fun B' q => ⟨B', q.1.mv h1 h2, q.2⟩⟩) ?_
  intro p e s m args below meth c s₁ X0 hexec hbytes hml hret hlk hnm hown hh0 W hP
  obtain ⟨rfl, hA, hB, hne, l1, l2, hp⟩ := hP
  have c1 : Steps p.tables e below (s₁.setTop (entryFrame m #[.ref b, .int (Int32.ofNat o), .ref d, .int (Int32.ofNat q), .int (Int32.ofNat len)] 7)) (s₁.setTop (mkF m 0 #[.val (.ref b), .val (.int (Int32.ofNat o)), .val (.ref d), .val (.int (Int32.ofNat q)), .val (.int (Int32.ofNat len)), .unset, .unset] [])) := entry rfl
  have hA0 := hA.1.mv X0.warmed.alike hh0
  have hB0 := hB.mv X0.warmed.alike hh0
  have a31 := hA.1.2.2.2
  have c2 : Steps p.tables e below (s₁.setTop (entryFrame m #[.ref b, .int (Int32.ofNat o), .ref d, .int (Int32.ofNat q), .int (Int32.ofNat len)] 7)) (s₁.setTop (mkF m 3 #[.val (.ref b), .val (.int (Int32.ofNat o)), .val (.ref d), .val (.int (Int32.ofNat q)), .val (.int (Int32.ofNat len)), .val (.int 0), .unset] [])) := c1.trans (by
    refine iconstV X0.here hexec rfl 0 (hb hbytes d0) (by decide) ?_
    refine XS.istore X0.here hexec rfl (hb hbytes d1) rfl rfl ?_
    exact Steps.refl _)
  have loop : ∀ (r i : Nat), i + r = len → ∀ (z : Slot), (z = .unset ∨ ∃ w, z = .val w ∧ w.category = 1) → ∀ (Tl : State) (Bk : Cell), Stand p l e { frames := 0, locals := 0, cells := 0, slots := 0 } s m #[.ref b, .int (Int32.ofNat o), .ref d, .int (Int32.ofNat q), .int (Int32.ofNat len)] below meth c Tl ([] ++ copyLocs d q i) 0 0 → Put d Bk s₁ Tl → Laid B Bk q (q + i) (fun j => Value.int (lo8 (cv A (o + (j - q))))) →
      Steps p.tables e below (s₁.setTop (entryFrame m #[.ref b, .int (Int32.ofNat o), .ref d, .int (Int32.ofNat q), .int (Int32.ofNat len)] 7)) (Tl.setTop (mkF m 3 #[.val (.ref b), .val (.int (Int32.ofNat (o + i))), .val (.ref d), .val (.int (Int32.ofNat (q + i))), .val (.int (Int32.ofNat len)), .val (.int (Int32.ofNat i)), z] [])) → ∃ (T' : State) (B' : Cell) (z' : Slot), Stand p l e { frames := 0, locals := 0, cells := 0, slots := 0 } s m #[.ref b, .int (Int32.ofNat o), .ref d, .int (Int32.ofNat q), .int (Int32.ofNat len)] below meth c T' ([] ++ copyLocs d q len) 0 0 ∧ Put d B' s₁ T' ∧ Laid B B' q (q + len) (fun j => Value.int (lo8 (cv A (o + (j - q))))) ∧
      Steps p.tables e below (s₁.setTop (entryFrame m #[.ref b, .int (Int32.ofNat o), .ref d, .int (Int32.ofNat q), .int (Int32.ofNat len)] 7)) (T'.setTop (mkF m 3 #[.val (.ref b), .val (.int (Int32.ofNat (o + len))), .val (.ref d), .val (.int (Int32.ofNat (q + len))), .val (.int (Int32.ofNat len)), .val (.int (Int32.ofNat len)), z'] [])) := by
    intro r
    induction r with
    | zero =>
      intro i hi z hz Tl Bk Xl pl fl cl
      have hil : i = len := by omega
      rw [hil] at Xl fl cl
      exact ⟨Tl, Bk, z, Xl, pl, fl, cl⟩
    | succ r ih =>
      intro i hi z hz Tl Bk Xl pl fl cl
      have all := X0.warmed.alike.symm.trans Xl.warmed.alike
      have hAl := hA0.keep all (pl.other hne hA0.1)
      have hBk := hB0.like all pl.1 fl.1 fl.2.1 fl.2.2.1
      have hlt : q + i < Bk.slots.size := by rw [fl.2.2.1]; omega
      have c3 : Steps p.tables e below (s₁.setTop (entryFrame m #[.ref b, .int (Int32.ofNat o), .ref d, .int (Int32.ofNat q), .int (Int32.ofNat len)] 7)) (Tl.setTop (mkF m 12 #[.val (.ref b), .val (.int (Int32.ofNat (o + i))), .val (.ref d), .val (.int (Int32.ofNat (q + i))), .val (.int (Int32.ofNat len)), .val (.int (Int32.ofNat i)), z] [.int (Int32.ofNat (o + i)), .ref b])) := cl.trans (by
        refine XS.iload Xl.here hexec rfl (hb hbytes d3) rfl ?_
        refine XS.iload Xl.here hexec rfl (hb hbytes d5) rfl ?_
        refine XS.icmpNo Xl.here hexec rfl (hb hbytes d7) rfl (ii_ge_f (lt32 (by omega) (by omega))) ?_
        refine XS.aloadN Xl.here hexec rfl (hb hbytes d10) rfl rfl ?_
        refine XS.iloadN Xl.here hexec rfl (hb hbytes d11) rfl ?_
        exact Steps.refl _)
      have c4 : Steps p.tables e below (s₁.setTop (entryFrame m #[.ref b, .int (Int32.ofNat o), .ref d, .int (Int32.ofNat q), .int (Int32.ofNat len)] 7)) (Tl.setTop (mkF m 13 #[.val (.ref b), .val (.int (Int32.ofNat (o + i))), .val (.ref d), .val (.int (Int32.ofNat (q + i))), .val (.int (Int32.ofNat len)), .val (.int (Int32.ofNat i)), z] [.int (cv A (o + i))])) := c3.trans (by
        refine Xl.aget hexec hAl rfl (hA.get (i := o + i) (by omega)) rfl rfl (hb hbytes d12) ?_
        exact Steps.refl _)
      have c5 : Steps p.tables e below (s₁.setTop (entryFrame m #[.ref b, .int (Int32.ofNat o), .ref d, .int (Int32.ofNat q), .int (Int32.ofNat len)] 7)) (Tl.setTop (mkF m 15 #[.val (.ref b), .val (.int (Int32.ofNat (o + i))), .val (.ref d), .val (.int (Int32.ofNat (q + i))), .val (.int (Int32.ofNat len)), .val (.int (Int32.ofNat i)), .val (.int (cv A (o + i)))] [])) := c4.trans (by
        refine XS.istoreS Xl.here hexec rfl (hb hbytes d13) rfl rfl hz ?_
        exact Steps.refl _)
      have c6 : Steps p.tables e below (s₁.setTop (entryFrame m #[.ref b, .int (Int32.ofNat o), .ref d, .int (Int32.ofNat q), .int (Int32.ofNat len)] 7)) (Tl.setTop (mkF m 31 #[.val (.ref b), .val (.int (Int32.ofNat (o + i))), .val (.ref d), .val (.int (Int32.ofNat (q + i))), .val (.int (Int32.ofNat len)), .val (.int (Int32.ofNat i)), .val (.int (cv A (o + i)))] [.int (lo8 (cv A (o + i))), .int (Int32.ofNat (q + i)), .ref d])) := c5.trans (by
        refine XS.iload Xl.here hexec rfl (hb hbytes d15) rfl ?_
        refine sipushV Xl.here hexec rfl 255 (hb hbytes d17) (by decide) ?_
        refine XS.icmpYes Xl.here hexec rfl (pc0 := 20) rfl (hb hbytes d20) rfl (ii_le_t (hp i (by omega))) (by decide) rfl ?_
        refine XS.aloadN Xl.here hexec rfl (hb hbytes d26) rfl rfl ?_
        refine XS.iloadN Xl.here hexec rfl (hb hbytes d27) rfl ?_
        refine XS.iload Xl.here hexec rfl (hb hbytes d28) rfl ?_
        refine i2b Xl.here hexec rfl (hb hbytes d30) rfl ?_
        exact Steps.refl _)
      obtain ⟨T7, X7, p7, st7⟩ := Xl.aput hexec hBk rfl hlt rfl (fits_lo8 (cv A (o + i))) (g := (mkF m 31 #[.val (.ref b), .val (.int (Int32.ofNat (o + i))), .val (.ref d), .val (.int (Int32.ofNat (q + i))), .val (.int (Int32.ofNat len)), .val (.int (Int32.ofNat i)), .val (.int (cv A (o + i)))] [.int (lo8 (cv A (o + i))), .int (Int32.ofNat (q + i)), .ref d])) rfl (rest := []) rfl (hb hbytes d31)
      have c8 : Steps p.tables e below (s₁.setTop (entryFrame m #[.ref b, .int (Int32.ofNat o), .ref d, .int (Int32.ofNat q), .int (Int32.ofNat len)] 7)) (T7.setTop (mkF m 32 #[.val (.ref b), .val (.int (Int32.ofNat (o + i))), .val (.ref d), .val (.int (Int32.ofNat (q + i))), .val (.int (Int32.ofNat len)), .val (.int (Int32.ofNat i)), .val (.int (cv A (o + i)))] [])) := c6.trans (st7 _ (Steps.refl _))
      have c9 : Steps p.tables e below (s₁.setTop (entryFrame m #[.ref b, .int (Int32.ofNat o), .ref d, .int (Int32.ofNat q), .int (Int32.ofNat len)] 7)) (T7.setTop (mkF m 3 #[.val (.ref b), .val (.int (Int32.ofNat (o + i) + 1)), .val (.ref d), .val (.int (Int32.ofNat (q + i) + 1)), .val (.int (Int32.ofNat len)), .val (.int (Int32.ofNat i + 1)), .val (.int (cv A (o + i)))] [])) := c8.trans (by
        refine iincV X7.here hexec rfl 1 (hb hbytes d32) (by decide) rfl rfl ?_
        refine iincV X7.here hexec rfl 1 (hb hbytes d35) (by decide) rfl rfl ?_
        refine iincV X7.here hexec rfl 1 (hb hbytes d38) (by decide) rfl rfl ?_
        refine XS.goto X7.here hexec rfl (pc0 := 41) rfl (hb hbytes d41) (by decide) rfl ?_
        exact Steps.refl _)
      have c10 : Steps p.tables e below (s₁.setTop (entryFrame m #[.ref b, .int (Int32.ofNat o), .ref d, .int (Int32.ofNat q), .int (Int32.ofNat len)] 7)) (T7.setTop (mkF m 3 #[.val (.ref b), .val (.int (Int32.ofNat (o + (i + 1)))), .val (.ref d), .val (.int (Int32.ofNat (q + (i + 1)))), .val (.int (Int32.ofNat len)), .val (.int (Int32.ofNat (i + 1))), .val (.int (cv A (o + i)))] [])) := by
        have := c9
        rw [succ32, succ32, succ32] at this
        exact this
      exact ih (i + 1) (by omega) _ (Or.inr ⟨_, rfl, rfl⟩) T7 _ (by rw [copyLocs_step, ← List.append_assoc]; exact X7) (pl.trans p7) (fl.step (by omega) hlt (by simp)) c10
  obtain ⟨T9, B9, z9, X9, p9, f9, g9⟩ := loop len 0 (by omega) .unset (Or.inl rfl) s₁ B (by simpa [copyLocs] using X0) ⟨hB0.1, fun _ _ => rfl, rfl⟩ (Laid.zero _ _ _) c2
  have c11 : Steps p.tables e below (s₁.setTop (entryFrame m #[.ref b, .int (Int32.ofNat o), .ref d, .int (Int32.ofNat q), .int (Int32.ofNat len)] 7)) (T9.setTop (mkF m 46 #[.val (.ref b), .val (.int (Int32.ofNat (o + len))), .val (.ref d), .val (.int (Int32.ofNat (q + len))), .val (.int (Int32.ofNat len)), .val (.int (Int32.ofNat len)), z9] [.int (Int32.ofNat len)])) := g9.trans (by
    refine XS.iload X9.here hexec rfl (hb hbytes d3) rfl ?_
    refine XS.iload X9.here hexec rfl (hb hbytes d5) rfl ?_
    refine XS.icmpYes X9.here hexec rfl (pc0 := 7) rfl (hb hbytes d7) rfl (ii_ge_t (nlt32 (by omega) (Nat.le_refl _))) (by decide) rfl ?_
    refine XS.iload X9.here hexec rfl (hb hbytes d44) rfl ?_
    exact Steps.refl _)
  exact ⟨T9, some (.int (Int32.ofNat len)), _, _, _, X9, by simp, rfl, rfl, (fun h => by cases h), ⟨rfl, B9, p9.from hh0, f9⟩, fun fs hl => c11.trans (X9.ireturnOut hexec hret rfl (Or.inl rfl) (hb hbytes d46) hl)⟩
end Cmp5
namespace Cmp3
def yN : MethodName := ⟨"java/lang/StringUTF16", "compress", "([CII)[B"⟩
abbrev yB : ByteArray := jdk_52_method_16_code
theorem d0 : decode yB 0 = .ok (.iload_n 2, 1) := by decide +kernel
theorem d1 : decode yB 1 = .ok (.newarray .byte, 2) := by decide +kernel
theorem d3 : decode yB 3 = .ok (.astore_n 3, 1) := by decide +kernel
theorem d4 : decode yB 4 = .ok (.aload_n 0, 1) := by decide +kernel
theorem d5 : decode yB 5 = .ok (.iload_n 1, 1) := by decide +kernel
theorem d6 : decode yB 6 = .ok (.aload_n 3, 1) := by decide +kernel
theorem d7 : decode yB 7 = .ok (.iconst 0, 1) := by decide +kernel
theorem d8 : decode yB 8 = .ok (.iload_n 2, 1) := by decide +kernel
theorem d9 : decode yB 9 = .ok (.invokestatic 115, 3) := by decide +kernel
theorem d12 : decode yB 12 = .ok (.istore 4, 2) := by decide +kernel
theorem d14 : decode yB 14 = .ok (.iload 4, 2) := by decide +kernel
theorem d16 : decode yB 16 = .ok (.iload_n 2, 1) := by decide +kernel
theorem d17 : decode yB 17 = .ok (.if_icmp (.eq) 40, 3) := by decide +kernel
theorem d57 : decode yB 57 = .ok (.aload_n 3, 1) := by decide +kernel
theorem d58 : decode yB 58 = .ok (.areturn, 1) := by decide +kernel
def site : List Cond := [.arrayClass .byte, Cmp5.tab] ++ staticW U16 115 Cmp5.yN
def tab : Cond := tabOf yN yB 6 (some (.array .byte)) site
def P (b : Addr) (A : Cell) (o len : Nat) (args : Array Value) (s : State) : Prop := args = #[.ref b, .int (Int32.ofNat o), .int (Int32.ofNat len)] ∧ Ch b A s ∧ o + len ≤ A.slots.size ∧ len ≤ 536870912 ∧ ∀ i, i < len → ¬ 255 < cv A (o + i)
def E (b : Addr) (A : Cell) (o len : Nat) (r : Option Value) (s u : State) : Prop := NewArr .byte "[B" len (fun j => .int (lo8 (cv A (o + j)))) r s u ∧ u.heap.size = s.heap.size + 1
/-- no char of the range above 255: a new byte[] of their low bytes -/
theorem law (l : Launch) (b : Addr) (A : Cell) (o len : Nat) : Law l yN 3 3 1 18 yB 6 (some (.array .byte)) site (P b A o len) (E b A o len) [] 1 len := by
  refine Law.of_walk (plainFor_of_name (by decide +kernel)) (by decide +kernel) (by decide +kernel) (by decide) (fun _ _ h => by rw [h.1]; rfl) (fun _ U U' hal hh h => ⟨h.1, h.2.1.mv hal hh, h.2.2⟩) (fun r U U' V V' h1 hal h2 h => ⟨NewArr.mv r U U' V V' h1 hal h2 h.1, by rw [h1, h2]; exact h.2⟩) ?_
  intro p e s m args below meth c s₁ X0 hexec hbytes hml hret hlk hnm hown hh0 W hP
  obtain ⟨rfl, hA, l1, l2, hp⟩ := hP
  have a31 := hA.1.2.2.2
  have c1 : Steps p.tables e below (s₁.setTop (entryFrame m #[.ref b, .int (Int32.ofNat o), .int (Int32.ofNat len)] 6)) (s₁.setTop (mkF m 0 #[.val (.ref b), .val (.int (Int32.ofNat o)), .val (.int (Int32.ofNat len)), .unset, .unset, .unset] [])) := entry rfl
  have c2 : Steps p.tables e below (s₁.setTop (entryFrame m #[.ref b, .int (Int32.ofNat o), .int (Int32.ofNat len)] 6)) (s₁.setTop (mkF m 1 #[.val (.ref b), .val (.int (Int32.ofNat o)), .val (.int (Int32.ofNat len)), .unset, .unset, .unset] [.int (Int32.ofNat len)])) := c1.trans (by
    refine XS.iloadN X0.here hexec rfl (hb hbytes d0) rfl ?_
    exact Steps.refl _)
  obtain ⟨T3, B3, X3, ba3, bs3, bv3, bh3, bf3, st3⟩ := X0.anew hexec (atype := .byte) (wk W (.arrayClass .byte)) rfl (by show len * 1 ≤ _; omega) (by omega) (g := (mkF m 1 #[.val (.ref b), .val (.int (Int32.ofNat o)), .val (.int (Int32.ofNat len)), .unset, .unset, .unset] [.int (Int32.ofNat len)])) rfl (hb hbytes d1) (rest := []) rfl (Nat.le_refl _) (by show 0 + len ≤ len; omega)
  rw [hh0] at ba3 st3
  have kp3 : XT.Kept s T3 := (XT.Kept.of_eq hh0).push bh3
  have hA3 := hA.keep X3.warmed.alike (kp3 _ _ hA.1.1)
  have hne : b ≠ s.heap.size := hA.1.ne
  have c4 : Steps p.tables e below (s₁.setTop (entryFrame m #[.ref b, .int (Int32.ofNat o), .int (Int32.ofNat len)] 6)) (T3.setTop (mkF m 3 #[.val (.ref b), .val (.int (Int32.ofNat o)), .val (.int (Int32.ofNat len)), .unset, .unset, .unset] [.ref s.heap.size])) := c2.trans (st3 _ (Steps.refl _))
  have c5 : Steps p.tables e below (s₁.setTop (entryFrame m #[.ref b, .int (Int32.ofNat o), .int (Int32.ofNat len)] 6)) (T3.setTop (mkF m 9 #[.val (.ref b), .val (.int (Int32.ofNat o)), .val (.int (Int32.ofNat len)), .val (.ref s.heap.size), .unset, .unset] [.int (Int32.ofNat len), .int 0, .ref s.heap.size, .int (Int32.ofNat o), .ref b])) := c4.trans (by
    refine XS.astoreN X3.here hexec rfl (hb hbytes d3) rfl rfl rfl ?_
    refine XS.aloadN X3.here hexec rfl (hb hbytes d4) rfl rfl ?_
    refine XS.iloadN X3.here hexec rfl (hb hbytes d5) rfl ?_
    refine XS.aloadN X3.here hexec rfl (hb hbytes d6) rfl rfl ?_
    refine iconstV X3.here hexec rfl 0 (hb hbytes d7) (by decide) ?_
    refine XS.iloadN X3.here hexec rfl (hb hbytes d8) rfl ?_
    exact Steps.refl _)
  obtain ⟨v6, T6, X6, E6, g6⟩ := X3.callS hexec (Cmp5.law l b A s.heap.size B3 o 0 len) hown (wks W (staticW U16 115 Cmp5.yN)) (wk W Cmp5.tab) (W := 0) (Nat.le_of_ble_eq_true rfl) (Nat.le_of_ble_eq_true rfl) (Nat.le_refl _) (by show 0 + len + 0 ≤ len; omega) (g := (mkF m 9 #[.val (.ref b), .val (.int (Int32.ofNat o)), .val (.int (Int32.ofNat len)), .val (.ref s.heap.size), .unset, .unset] [.int (Int32.ofNat len), .int (Int32.ofNat 0), .ref s.heap.size, .int (Int32.ofNat o), .ref b])) rfl (by rw [hml]; rfl) c5 (argsL := [.ref b, .int (Int32.ofNat o), .ref s.heap.size, .int (Int32.ofNat 0), .int (Int32.ofNat len)]) (rest := []) rfl rfl (by show 2 * 0 + 0 ≤ _; decide) (hb hbytes d9) (⟨rfl, hA3, ba3, hne, l1, by rw [bs3]; simp, hp⟩)
  obtain ⟨rfl, B6, p6, f6⟩ := E6
  have c7 : Steps p.tables e below (s₁.setTop (entryFrame m #[.ref b, .int (Int32.ofNat o), .int (Int32.ofNat len)] 6)) (T6.setTop (mkF m 12 #[.val (.ref b), .val (.int (Int32.ofNat o)), .val (.int (Int32.ofNat len)), .val (.ref s.heap.size), .unset, .unset] [.int (Int32.ofNat len)])) := g6
  have c8 : Steps p.tables e below (s₁.setTop (entryFrame m #[.ref b, .int (Int32.ofNat o), .int (Int32.ofNat len)] 6)) (T6.setTop (mkF m 58 #[.val (.ref b), .val (.int (Int32.ofNat o)), .val (.int (Int32.ofNat len)), .val (.ref s.heap.size), .val (.int (Int32.ofNat len)), .unset] [.ref s.heap.size])) := c7.trans (by
    refine XS.istore X6.here hexec rfl (hb hbytes d12) rfl rfl ?_
    refine XS.iload X6.here hexec rfl (hb hbytes d14) rfl ?_
    refine XS.iloadN X6.here hexec rfl (hb hbytes d16) rfl ?_
    refine XS.icmpYes X6.here hexec rfl (pc0 := 17) rfl (hb hbytes d17) rfl (ii_eq_t rfl) (by decide) rfl ?_
    refine XS.aloadN X6.here hexec rfl (hb hbytes d57) rfl rfl ?_
    exact Steps.refl _)
  have X8 := X6.wide (L' := []) (cells' := 1) (slots' := len) (fun x hx hlt => by
    simp only [List.nil_append, copyLocs, List.mem_map, List.mem_range] at hx
    obtain ⟨i, -, rfl⟩ := hx
    exact absurd hlt (Nat.lt_irrefl _)) (Nat.le_refl _) (by omega)
  exact ⟨T6, some (.ref s.heap.size), _, _, _, X8, rfl, rfl, rfl, (fun h => by cases h), ⟨⟨rfl, B6, ba3.like (X3.warmed.alike.symm.trans X6.warmed.alike) p6.1 f6.1 f6.2.1 f6.2.2.1, f6.2.1.trans bv3, by rw [X6.warmed.alike.findClass, f6.1]; exact bf3, by rw [f6.2.2.1, bs3]; simp, fun j hj => by rw [f6.2.2.2 j, if_pos (by omega)]; rfl, kp3.put p6 (Nat.le_refl _)⟩, by rw [p6.2.2, bh3, hh0]; simp⟩, fun fs hl => c8.trans (X8.areturnOut hexec rfl hret rfl (hb hbytes d58) hl)⟩
end Cmp3
namespace CodL
def yN : MethodName := ⟨"java/lang/StringUTF16", "coderFromArrayLen", "([BI)B"⟩
abbrev yB : ByteArray := jdk_52_method_15_code
theorem d0 : decode yB 0 = .ok (.iload_n 1, 1) := by decide +kernel
theorem d1 : decode yB 1 = .ok (.aload_n 0, 1) := by decide +kernel
theorem d2 : decode yB 2 = .ok (.arraylength, 1) := by decide +kernel
theorem d3 : decode yB 3 = .ok (.isub, 1) := by decide +kernel
theorem d4 : decode yB 4 = .ok (.bipush 31, 2) := by decide +kernel
theorem d6 : decode yB 6 = .ok (.iushr, 1) := by decide +kernel
theorem d7 : decode yB 7 = .ok (.i2b, 1) := by decide +kernel
theorem d8 : decode yB 8 = .ok (.ireturn, 1) := by decide +kernel
def site : List Cond := []
def tab : Cond := tabOf yN yB 2 (some .byte) site
def P (d : Addr) (B : Cell) (args : Array Value) (s : State) : Prop := args = #[.ref d, .int (Int32.ofNat B.slots.size)] ∧ Arr .byte d B s
def E (r : Option Value) (s u : State) : Prop := XT.PureE (some (.int 0)) r s u
/-- an array as long as the number of chars: LATIN1 -/
theorem law (l : Launch) (d : Addr) (B : Cell) : Law l yN 2 2 0 0 yB 2 (some .byte) site (P d B) E [] 0 0 := by
  refine Law.of_walk (plainFor_of_name (by decide +kernel)) (by decide +kernel) (by decide +kernel) (by decide) (fun _ _ h => by rw [h.1]; rfl) (fun _ U U' hal hh h => ⟨h.1, h.2.mv hal hh⟩) (fun r U U' V V' h1 hal h2 h => XT.PureE.mv r U U' V V' h1 hal h2 h) ?_
  intro p e s m args below meth c s₁ X0 hexec hbytes hml hret hlk hnm hown hh0 W hP
  obtain ⟨rfl, hB⟩ := hP
  have hB0 := hB.mv X0.warmed.alike hh0
  have c1 : Steps p.tables e below (s₁.setTop (entryFrame m #[.ref d, .int (Int32.ofNat B.slots.size)] 2)) (s₁.setTop (mkF m 0 #[.val (.ref d), .val (.int (Int32.ofNat B.slots.size))] [])) := entry rfl
  have c2 : Steps p.tables e below (s₁.setTop (entryFrame m #[.ref d, .int (Int32.ofNat B.slots.size)] 2)) (s₁.setTop (mkF m 2 #[.val (.ref d), .val (.int (Int32.ofNat B.slots.size))] [.ref d, .int (Int32.ofNat B.slots.size)])) := c1.trans (by
    refine XS.iloadN X0.here hexec rfl (hb hbytes d0) rfl ?_
    refine XS.aloadN X0.here hexec rfl (hb hbytes d1) rfl rfl ?_
    exact Steps.refl _)
  have c3 : Steps p.tables e below (s₁.setTop (entryFrame m #[.ref d, .int (Int32.ofNat B.slots.size)] 2)) (s₁.setTop (mkF m 8 #[.val (.ref d), .val (.int (Int32.ofNat B.slots.size))] [.int (lo8 (ushr (Int32.ofNat B.slots.size - Int32.ofNat B.slots.size) 31))])) := c2.trans (by
    refine X0.alen hexec hB0 rfl rfl (hb hbytes d2) ?_
    refine XS.isub X0.here hexec rfl (hb hbytes d3) rfl ?_
    refine bipushV X0.here hexec rfl 31 (hb hbytes d4) (by decide) ?_
    refine iushr X0.here hexec rfl (hb hbytes d6) rfl ?_
    refine i2b X0.here hexec rfl (hb hbytes d7) rfl ?_
    exact Steps.refl _)
  have e0 : lo8 (ushr (Int32.ofNat B.slots.size - Int32.ofNat B.slots.size) 31) = 0 := by rw [Int32.sub_self]; decide
  rw [e0] at c3
  exact ⟨s₁, some (.int 0), _, _, _, X0, rfl, rfl, rfl, (fun h => by cases h), ⟨rfl, hh0⟩, fun fs hl => c3.trans (X0.ireturnOut hexec hret rfl (Or.inr (Or.inr (Or.inl rfl))) (hb hbytes d8) hl)⟩
end CodL
/-- the String at a is Latin-1 over a new byte[] (the heap's one new cell): the low bytes of the len chars of A from o on; every cell but a is kept -/
def Got (a : Addr) (D : Cell) (fV fC : Field) (A : Cell) (o len : Nat) (r : Option Value) (s u : State) : Prop := r = none ∧ ∃ D' V : Cell, Blank "java/lang/String" a D' u ∧ Same D D' [fV.slot, fC.slot] ∧ D'.slots[fV.slot]? = some (.ref s.heap.size) ∧ D'.slots[fC.slot]? = some (.int 0) ∧ Arr .byte s.heap.size V u ∧ V.vm = .none ∧ u.vm.findClass "[B" = some V.cls ∧ V.slots.size = len ∧ (∀ j, j < len → V.slots[j]? = some (.int (lo8 (cv A (o + j))))) ∧ (∀ (y : Addr) (c : Cell), y ≠ a → s.heap[y]? = some c → u.heap[y]? = some c) ∧ u.heap.size = s.heap.size + 1
theorem Got.mv {a : Addr} {D A : Cell} {fV fC : Field} {o len : Nat} : ∀ r (U U' V V' : State), U'.heap = U.heap → V.vm.Alike V'.vm → V'.heap = V.heap → Got a D fV fC A o len r U V → Got a D fV fC A o len r U' V' :=
  fun r U U' V V' h1 hal h2 ⟨e0, D', X, a1, a2, a3, a4, a5, a6, a7, a8, a9, a10, a11⟩ => ⟨e0, D', X, a1.mv hal h2, a2, by rw [h1]; exact a3, a4, by rw [h1]; exact a5.mv hal h2, a6, by rw [hal.findClass]; exact a7, a8, a9, by rw [h1, h2]; exact a10, by rw [h1, h2]; exact a11⟩
namespace New4
def yN : MethodName := ⟨"java/lang/String", "<init>", "([CIILjava/lang/Void;)V"⟩
abbrev yB : ByteArray := jdk_42_method_149_code
theorem d0 : decode yB 0 = .ok (.aload_n 0, 1) := by decide +kernel
theorem d1 : decode yB 1 = .ok (.invokespecial 1, 3) := by decide +kernel
theorem d4 : decode yB 4 = .ok (.iload_n 3, 1) := by decide +kernel
theorem d5 : decode yB 5 = .ok (.ifCond (.ne) 22, 3) := by decide +kernel
theorem d27 : decode yB 27 = .ok (.getstatic 38, 3) := by decide +kernel
theorem d30 : decode yB 30 = .ok (.ifCond (.eq) 28, 3) := by decide +kernel
theorem d33 : decode yB 33 = .ok (.aload_n 1, 1) := by decide +kernel
theorem d34 : decode yB 34 = .ok (.iload_n 2, 1) := by decide +kernel
theorem d35 : decode yB 35 = .ok (.iload_n 3, 1) := by decide +kernel
theorem d36 : decode yB 36 = .ok (.invokestatic 177, 3) := by decide +kernel
theorem d39 : decode yB 39 = .ok (.astore 5, 2) := by decide +kernel
theorem d41 : decode yB 41 = .ok (.aload_n 0, 1) := by decide +kernel
theorem d42 : decode yB 42 = .ok (.aload 5, 2) := by decide +kernel
theorem d44 : decode yB 44 = .ok (.iload_n 3, 1) := by decide +kernel
theorem d45 : decode yB 45 = .ok (.invokestatic 47, 3) := by decide +kernel
theorem d48 : decode yB 48 = .ok (.putfield 15, 3) := by decide +kernel
theorem d51 : decode yB 51 = .ok (.aload_n 0, 1) := by decide +kernel
theorem d52 : decode yB 52 = .ok (.aload 5, 2) := by decide +kernel
theorem d54 : decode yB 54 = .ok (.putfield 9, 3) := by decide +kernel
theorem d57 : decode yB 57 = .ok (.return_, 1) := by decide +kernel
def site : List Cond := [.fieldLink "java/lang/String" 38 "java/lang/String" "COMPACT_STRINGS" "Z", Cmp3.tab, CodL.tab, .laysFinal "java/lang/String" "java/lang/String" "value" "[B", .fieldLink "java/lang/String" 9 "java/lang/String" "value" "[B", .laysFinal "java/lang/String" "java/lang/String" "coder" "B", .fieldLink "java/lang/String" 15 "java/lang/String" "coder" "B"] ++ objW "java/lang/String" 1 ++ staticW "java/lang/String" 177 Cmp3.yN ++ staticW "java/lang/String" 47 CodL.yN
def tab : Cond := tabOf yN yB 6 none site
def P (a : Addr) (D : Cell) (fV fC : Field) (b : Addr) (A : Cell) (z : Int32) (o len : Nat) (args : Array Value) (s : State) : Prop := args = #[.ref a, .ref b, .int (Int32.ofNat o), .int (Int32.ofNat len), .null] ∧ Blank "java/lang/String" a D s ∧ Found "java/lang/String" "value" "[B" fV s ∧ Found "java/lang/String" "coder" "B" fC s ∧ Ch b A s ∧ StaticIs s "java/lang/String" "COMPACT_STRINGS" "Z" (.int z) ∧ ¬ z = 0 ∧ 0 < len ∧ o + len ≤ A.slots.size ∧ len ≤ 536870912 ∧ ∀ i, i < len → ¬ 255 < cv A (o + i)
def E (a : Addr) (D : Cell) (fV fC : Field) (A : Cell) (o len : Nat) (r : Option Value) (s u : State) : Prop := Got a D fV fC A o len r s u
/-- len > 0, no char of the range above 255: a Latin-1 String of their low bytes -/
theorem law (l : Launch) (a : Addr) (D : Cell) (fV fC : Field) (b : Addr) (A : Cell) (z : Int32) (o len : Nat) : Law l yN 5 4 2 35 yB 6 none site (P a D fV fC b A z o len) (E a D fV fC A o len) [⟨a, fC.slot⟩, ⟨a, fV.slot⟩] 1 len := by
  refine Law.of_walk (plainFor_of_name (by decide +kernel)) (by decide +kernel) (by decide +kernel) (by decide) (fun _ _ h => by rw [h.1]; rfl) (fun _ U U' hal hh h => ⟨h.1, h.2.1.mv hal hh, h.2.2.1.al hal, h.2.2.2.1.al hal, h.2.2.2.2.1.mv hal hh, h.2.2.2.2.2.1.there hal hh, h.2.2.2.2.2.2⟩) (fun r U U' V V' h1 hal h2 h => Got.mv r U U' V V' h1 hal h2 h) ?_
  intro p e s m args below meth c s₁ X0 hexec hbytes hml hret hlk hnm hown hh0 W hP
  obtain ⟨rfl, hB, f1, f2, hA, s1, hz, l0, l1, l2, hp⟩ := hP
  have a31 := hA.1.2.2.2
  have c1 : Steps p.tables e below (s₁.setTop (entryFrame m #[.ref a, .ref b, .int (Int32.ofNat o), .int (Int32.ofNat len), .null] 6)) (s₁.setTop (mkF m 0 #[.val (.ref a), .val (.ref b), .val (.int (Int32.ofNat o)), .val (.int (Int32.ofNat len)), .val .null, .unset] [])) := entry rfl
  have c2 : Steps p.tables e below (s₁.setTop (entryFrame m #[.ref a, .ref b, .int (Int32.ofNat o), .int (Int32.ofNat len), .null] 6)) (s₁.setTop (mkF m 1 #[.val (.ref a), .val (.ref b), .val (.int (Int32.ofNat o)), .val (.int (Int32.ofNat len)), .val .null, .unset] [.ref a])) := c1.trans (by
    refine XS.aloadN X0.here hexec rfl (hb hbytes d0) rfl rfl ?_
    exact Steps.refl _)
  obtain ⟨T3, X3, q3, st3⟩ := X0.oinit hexec hown (wks W (objW "java/lang/String" 1)) (g := (mkF m 1 #[.val (.ref a), .val (.ref b), .val (.int (Int32.ofNat o)), .val (.int (Int32.ofNat len)), .val .null, .unset] [.ref a])) rfl (by rw [hml]; rfl) (rest := []) rfl (hb hbytes d1) (W := 0) (by show 2 * 0 + 0 ≤ _; decide) (Nat.le_of_ble_eq_true rfl) (Nat.le_of_ble_eq_true rfl)
  have hh3 := q3.trans hh0
  have c4 : Steps p.tables e below (s₁.setTop (entryFrame m #[.ref a, .ref b, .int (Int32.ofNat o), .int (Int32.ofNat len), .null] 6)) (T3.setTop (mkF m 27 #[.val (.ref a), .val (.ref b), .val (.int (Int32.ofNat o)), .val (.int (Int32.ofNat len)), .val .null, .unset] [])) := (c2.trans (st3 _ (Steps.refl _))).trans (by
    refine XS.iloadN X3.here hexec rfl (hb hbytes d4) rfl ?_
    refine XS.ifYes X3.here hexec rfl (pc0 := 5) rfl (hb hbytes d5) rfl (i0_ne_t (nz32 (by omega) l0)) (by decide) rfl ?_
    exact Steps.refl _)
  obtain ⟨T5, X5, q5, st5⟩ := X3.sget hexec hown (wk W (.fieldLink "java/lang/String" 38 "java/lang/String" "COMPACT_STRINGS" "Z")) s1 (fun _ _ h => by rw [hh3]; exact h) (g := (mkF m 27 #[.val (.ref a), .val (.ref b), .val (.int (Int32.ofNat o)), .val (.int (Int32.ofNat len)), .val .null, .unset] [])) rfl (hb hbytes d27)
  have hh5 := q5.trans hh3
  have c6 : Steps p.tables e below (s₁.setTop (entryFrame m #[.ref a, .ref b, .int (Int32.ofNat o), .int (Int32.ofNat len), .null] 6)) (T5.setTop (mkF m 30 #[.val (.ref a), .val (.ref b), .val (.int (Int32.ofNat o)), .val (.int (Int32.ofNat len)), .val .null, .unset] [.int z])) := c4.trans (st5 _ (Steps.refl _))
  have c7 : Steps p.tables e below (s₁.setTop (entryFrame m #[.ref a, .ref b, .int (Int32.ofNat o), .int (Int32.ofNat len), .null] 6)) (T5.setTop (mkF m 36 #[.val (.ref a), .val (.ref b), .val (.int (Int32.ofNat o)), .val (.int (Int32.ofNat len)), .val .null, .unset] [.int (Int32.ofNat len), .int (Int32.ofNat o), .ref b])) := c6.trans (by
    refine XS.ifNo X5.here hexec rfl (hb hbytes d30) rfl (i0_eq_f hz) ?_
    refine XS.aloadN X5.here hexec rfl (hb hbytes d33) rfl rfl ?_
    refine XS.iloadN X5.here hexec rfl (hb hbytes d34) rfl ?_
    refine XS.iloadN X5.here hexec rfl (hb hbytes d35) rfl ?_
    exact Steps.refl _)
  obtain ⟨v8, T8, X8, E8, g8⟩ := X5.callS hexec (Cmp3.law l b A o len) hown (wks W (staticW "java/lang/String" 177 Cmp3.yN)) (wk W Cmp3.tab) (W := 0) (Nat.le_of_ble_eq_true rfl) (Nat.le_of_ble_eq_true rfl) (Nat.le_refl _) (by show 0 + len ≤ len; omega) (g := (mkF m 36 #[.val (.ref a), .val (.ref b), .val (.int (Int32.ofNat o)), .val (.int (Int32.ofNat len)), .val .null, .unset] [.int (Int32.ofNat len), .int (Int32.ofNat o), .ref b])) rfl (by rw [hml]; rfl) c7 (argsL := [.ref b, .int (Int32.ofNat o), .int (Int32.ofNat len)]) (rest := []) rfl rfl (by show 2 * 0 + 0 ≤ _; decide) (hb hbytes d36) (⟨rfl, hA.mv X5.warmed.alike hh5, l1, l2, hp⟩)
  obtain ⟨e8, z8⟩ := E8
  obtain ⟨rfl, N, n1, n2, n3, n4, n5, n6⟩ := NewArr.mv _ T5 s _ _ hh5.symm (Vm.Alike.refl _) rfl e8
  rw [hh5] at z8
  have hB1 := hB.keep X8.warmed.alike (n6 _ _ hB.1)
  have hne : s.heap.size ≠ a := (Nat.ne_of_lt (Array.getElem?_eq_some_iff.mp hB.1).1).symm
  have c9 : Steps p.tables e below (s₁.setTop (entryFrame m #[.ref a, .ref b, .int (Int32.ofNat o), .int (Int32.ofNat len), .null] 6)) (T8.setTop (mkF m 39 #[.val (.ref a), .val (.ref b), .val (.int (Int32.ofNat o)), .val (.int (Int32.ofNat len)), .val .null, .unset] [.ref s.heap.size])) := g8
  have c10 : Steps p.tables e below (s₁.setTop (entryFrame m #[.ref a, .ref b, .int (Int32.ofNat o), .int (Int32.ofNat len), .null] 6)) (T8.setTop (mkF m 45 #[.val (.ref a), .val (.ref b), .val (.int (Int32.ofNat o)), .val (.int (Int32.ofNat len)), .val .null, .val (.ref s.heap.size)] [.int (Int32.ofNat N.slots.size), .ref s.heap.size, .ref a])) := by
    have hc : Steps p.tables e below (s₁.setTop (entryFrame m #[.ref a, .ref b, .int (Int32.ofNat o), .int (Int32.ofNat len), .null] 6)) (T8.setTop (mkF m 45 #[.val (.ref a), .val (.ref b), .val (.int (Int32.ofNat o)), .val (.int (Int32.ofNat len)), .val .null, .val (.ref s.heap.size)] [.int (Int32.ofNat len), .ref s.heap.size, .ref a])) := c9.trans (by
      refine XS.astore X8.here hexec rfl (hb hbytes d39) rfl rfl rfl ?_
      refine XS.aloadN X8.here hexec rfl (hb hbytes d41) rfl rfl ?_
      refine XS.aload X8.here hexec rfl (hb hbytes d42) rfl rfl ?_
      refine XS.iloadN X8.here hexec rfl (hb hbytes d44) rfl ?_
      exact Steps.refl _)
    rw [n4]; exact hc
  obtain ⟨v11, T11, X11, E11, g11⟩ := X8.callS hexec (CodL.law l s.heap.size N) hown (wks W (staticW "java/lang/String" 47 CodL.yN)) (wk W CodL.tab) (W := 1) (Nat.le_of_ble_eq_true rfl) (Nat.le_of_ble_eq_true rfl) (Nat.le_refl _) (by show 0 + len + 0 ≤ len; omega) (g := (mkF m 45 #[.val (.ref a), .val (.ref b), .val (.int (Int32.ofNat o)), .val (.int (Int32.ofNat len)), .val .null, .val (.ref s.heap.size)] [.int (Int32.ofNat N.slots.size), .ref s.heap.size, .ref a])) rfl (by rw [hml]; rfl) c10 (argsL := [.ref s.heap.size, .int (Int32.ofNat N.slots.size)]) (rest := [.ref a]) rfl rfl (by show 2 * 0 + (1 + 0) ≤ _; decide) (hb hbytes d45) (⟨rfl, n1⟩)
  obtain ⟨rfl, q11⟩ := E11
  have hB11 := hB1.mv (X8.warmed.alike.symm.trans X11.warmed.alike) q11
  have c12 : Steps p.tables e below (s₁.setTop (entryFrame m #[.ref a, .ref b, .int (Int32.ofNat o), .int (Int32.ofNat len), .null] 6)) (T11.setTop (mkF m 48 #[.val (.ref a), .val (.ref b), .val (.int (Int32.ofNat o)), .val (.int (Int32.ofNat len)), .val .null, .val (.ref s.heap.size)] [.int 0, .ref a])) := g11
  obtain ⟨T13, X13, p13, bl13, sl13, st13⟩ := X11.finit hexec hown (wk W (.fieldLink "java/lang/String" 15 "java/lang/String" "coder" "B")) (Or.inr ⟨_, (wk W (.laysFinal "java/lang/String" "java/lang/String" "coder" "B"))⟩) (Or.inl ⟨rfl, hnm⟩) f2 (Or.inl rfl) hB11 (t := .byte) (by decide +kernel) rfl (g := (mkF m 48 #[.val (.ref a), .val (.ref b), .val (.int (Int32.ofNat o)), .val (.int (Int32.ofNat len)), .val .null, .val (.ref s.heap.size)] [.int 0, .ref a])) rfl (rest := []) rfl (hb hbytes d48)
  have c14 : Steps p.tables e below (s₁.setTop (entryFrame m #[.ref a, .ref b, .int (Int32.ofNat o), .int (Int32.ofNat len), .null] 6)) (T13.setTop (mkF m 54 #[.val (.ref a), .val (.ref b), .val (.int (Int32.ofNat o)), .val (.int (Int32.ofNat len)), .val .null, .val (.ref s.heap.size)] [.ref s.heap.size, .ref a])) := (c12.trans (st13 _ (Steps.refl _))).trans (by
    refine XS.aloadN X13.here hexec rfl (hb hbytes d51) rfl rfl ?_
    refine XS.aload X13.here hexec rfl (hb hbytes d52) rfl rfl ?_
    exact Steps.refl _)
  obtain ⟨T15, X15, p15, bl15, sl15, st15⟩ := X13.finit hexec hown (wk W (.fieldLink "java/lang/String" 9 "java/lang/String" "value" "[B")) (Or.inr ⟨_, (wk W (.laysFinal "java/lang/String" "java/lang/String" "value" "[B"))⟩) (Or.inl ⟨rfl, hnm⟩) f1 (Or.inl rfl) bl13 (t := (.array .byte)) (by decide +kernel) rfl (g := (mkF m 54 #[.val (.ref a), .val (.ref b), .val (.int (Int32.ofNat o)), .val (.int (Int32.ofNat len)), .val .null, .val (.ref s.heap.size)] [.ref s.heap.size, .ref a])) rfl (rest := []) rfl (hb hbytes d54)
  have c16 : Steps p.tables e below (s₁.setTop (entryFrame m #[.ref a, .ref b, .int (Int32.ofNat o), .int (Int32.ofNat len), .null] 6)) (T15.setTop (mkF m 57 #[.val (.ref a), .val (.ref b), .val (.int (Int32.ofNat o)), .val (.int (Int32.ofNat len)), .val .null, .val (.ref s.heap.size)] [])) := c14.trans (st15 _ (Steps.refl _))
  have ap := apart (Or.inr ⟨_, (wk W (.laysFinal "java/lang/String" "java/lang/String" "value" "[B"))⟩) (Or.inr ⟨_, (wk W (.laysFinal "java/lang/String" "java/lang/String" "coder" "B"))⟩) f1 f2 (t₁ := .array .byte) (t₂ := .byte) (by decide +kernel) (by decide +kernel) (by decide)
  have al := X8.warmed.alike.symm.trans X15.warmed.alike
  have n7 : T11.heap[s.heap.size]? = some N := by rw [q11]; exact n1.1
  exact ⟨T15, none, _, _, _, X15, by simp, rfl, by omega, (fun _ => rfl), ⟨rfl, _, N, bl15, ((Same.refl D _).set _ (by simp)).set _ (by simp), sl15, (Cell.slots_setSlot_ne _ ap).trans sl13, n1.keep al (p15.other hne (p13.other hne n7)), n2, by rw [al.findClass]; exact n3, n4, n5, fun y c h1 h2 => p15.other h1 (p13.other h1 (by rw [q11]; exact n6 y c h2)), by rw [p15.2.2, p13.2.2, q11]; exact z8⟩, fun fs hl => c16.trans (X15.returnOut hexec hret (hb hbytes d57) hl)⟩
end New4
namespace New1
def yN : MethodName := ⟨"java/lang/String", "<init>", "([C)V"⟩
abbrev yB : ByteArray := jdk_42_method_3_code
theorem d0 : decode yB 0 = .ok (.aload_n 0, 1) := by decide +kernel
theorem d1 : decode yB 1 = .ok (.aload_n 1, 1) := by decide +kernel
theorem d2 : decode yB 2 = .ok (.iconst 0, 1) := by decide +kernel
theorem d3 : decode yB 3 = .ok (.aload_n 1, 1) := by decide +kernel
theorem d4 : decode yB 4 = .ok (.arraylength, 1) := by decide +kernel
theorem d5 : decode yB 5 = .ok (.aconst_null, 1) := by decide +kernel
theorem d6 : decode yB 6 = .ok (.invokespecial 27, 3) := by decide +kernel
theorem d9 : decode yB 9 = .ok (.return_, 1) := by decide +kernel
def site : List Cond := [New4.tab] ++ initW "java/lang/String" 27 New4.yN
def tab : Cond := tabOf yN yB 2 none site
def P (a : Addr) (D : Cell) (fV fC : Field) (b : Addr) (A : Cell) (z : Int32) (args : Array Value) (s : State) : Prop := args = #[.ref a, .ref b] ∧ Blank "java/lang/String" a D s ∧ Found "java/lang/String" "value" "[B" fV s ∧ Found "java/lang/String" "coder" "B" fC s ∧ Ch b A s ∧ StaticIs s "java/lang/String" "COMPACT_STRINGS" "Z" (.int z) ∧ ¬ z = 0 ∧ 0 < A.slots.size ∧ A.slots.size ≤ 536870912 ∧ ∀ i, i < A.slots.size → ¬ 255 < cv A i
def E (a : Addr) (D : Cell) (fV fC : Field) (A : Cell) (r : Option Value) (s u : State) : Prop := Got a D fV fC A 0 A.slots.size r s u
/-- new String(chars), not empty, no char above 255: a Latin-1 String of their low bytes -/
theorem law (l : Launch) (a : Addr) (D : Cell) (fV fC : Field) (b : Addr) (A : Cell) (z : Int32) : Law l yN 2 1 3 52 yB 2 none site (P a D fV fC b A z) (E a D fV fC A) [⟨a, fC.slot⟩, ⟨a, fV.slot⟩] 1 A.slots.size := by
  refine Law.of_walk (plainFor_of_name (by decide +kernel)) (by decide +kernel) (by decide +kernel) (by decide) (fun _ _ h => by rw [h.1]; rfl) (fun _ U U' hal hh h => ⟨h.1, h.2.1.mv hal hh, h.2.2.1.al hal, h.2.2.2.1.al hal, h.2.2.2.2.1.mv hal hh, h.2.2.2.2.2.1.there hal hh, h.2.2.2.2.2.2⟩) (fun r U U' V V' h1 hal h2 h => Got.mv r U U' V V' h1 hal h2 h) ?_
  intro p e s m args below meth c s₁ X0 hexec hbytes hml hret hlk hnm hown hh0 W hP
  obtain ⟨rfl, hB, f1, f2, hA, s1, hz, l0, l2, hp⟩ := hP
  have c1 : Steps p.tables e below (s₁.setTop (entryFrame m #[.ref a, .ref b] 2)) (s₁.setTop (mkF m 0 #[.val (.ref a), .val (.ref b)] [])) := entry rfl
  have c2 : Steps p.tables e below (s₁.setTop (entryFrame m #[.ref a, .ref b] 2)) (s₁.setTop (mkF m 6 #[.val (.ref a), .val (.ref b)] [.null, .int (Int32.ofNat A.slots.size), .int 0, .ref b, .ref a])) := c1.trans (by
    refine XS.aloadN X0.here hexec rfl (hb hbytes d0) rfl rfl ?_
    refine XS.aloadN X0.here hexec rfl (hb hbytes d1) rfl rfl ?_
    refine iconstV X0.here hexec rfl 0 (hb hbytes d2) (by decide) ?_
    refine XS.aloadN X0.here hexec rfl (hb hbytes d3) rfl rfl ?_
    refine X0.alen hexec (hA.1.mv X0.warmed.alike hh0) rfl rfl (hb hbytes d4) ?_
    refine XS.aconstNull X0.here hexec rfl (hb hbytes d5) ?_
    exact Steps.refl _)
  obtain ⟨v3, T3, X3, E3, g3⟩ := X0.callN hexec (New4.law l a D fV fC b A z 0 A.slots.size) rfl hown (wks W (initW "java/lang/String" 27 New4.yN)) (W New4.tab (by simp only [site, List.mem_cons, List.mem_append, true_or, or_true])) (W := 0) (Nat.le_of_ble_eq_true rfl) (Nat.le_of_ble_eq_true rfl) (Nat.le_refl _) (by show 0 + A.slots.size ≤ A.slots.size; omega) (g := (mkF m 6 #[.val (.ref a), .val (.ref b)] [.null, .int (Int32.ofNat A.slots.size), .int (Int32.ofNat 0), .ref b, .ref a])) rfl (by rw [hml]; rfl) c2 (argsL := [.ref b, .int (Int32.ofNat 0), .int (Int32.ofNat A.slots.size), .null]) (rest := []) rfl rfl (by show 2 * 0 + 0 ≤ _; decide) (hb hbytes d6) (⟨rfl, hB.mv X0.warmed.alike hh0, f1.al X0.warmed.alike, f2.al X0.warmed.alike, hA.mv X0.warmed.alike hh0, s1.there X0.warmed.alike hh0, hz, l0, by omega, l2, fun i hi => by rw [Nat.zero_add]; exact hp i hi⟩)
  have e0 := Got.mv _ s₁ s _ _ hh0.symm (Vm.Alike.refl _) rfl E3
  obtain rfl := e0.1
  have c4 : Steps p.tables e below (s₁.setTop (entryFrame m #[.ref a, .ref b] 2)) (T3.setTop (mkF m 9 #[.val (.ref a), .val (.ref b)] [])) := g3
  exact ⟨T3, none, _, _, _, X3, by simp, rfl, by omega, (fun _ => rfl), e0, fun fs hl => c4.trans (X3.returnOut hexec hret (hb hbytes d9) hl)⟩
theorem pays {l : Launch} {R : Room} {p : Program} {e : Env} {below : List Frame} {s : State} {sargs : Array Value} {len W : Nat} (a : Addr) (D : Cell) (fV fC : Field) (b : Addr) (A : Cell) (z : Int32) (htab : tab.before sargs s = true) (hfr : 4 ≤ R.frames) (hlo : W + 65 ≤ R.locals) :
    Back l R p e below s sargs yN len W (fun A₁ a₁ => A₁.cells + 1 ≤ R.cells ∧ A₁.slots + A.slots.size ≤ R.slots ∧ P a D fV fC b A z a₁ A₁.U) (fun A₁ _ v₁ B₁ => E a D fV fC A v₁ A₁.U B₁.U ∧ B₁.locs = A₁.locs ++ [⟨a, fC.slot⟩, ⟨a, fV.slot⟩] ∧ B₁.cells = A₁.cells + 1 ∧ B₁.slots = A₁.slots + A.slots.size) :=
  (law l a D fV fC b A z).pays htab hfr (by omega)
end New1
end StrChars
namespace StrChars.Road
open Jvm Sem ClassFile Op Lib Jvm.Stand Jvm.Free Jvm.Free.XT
open Jvm.Lib.Cold (StaticIs)
abbrev ST : String := "java/lang/String"
/-- every table word that New1's law asks, flat -/
abbrev words : List Jvm.Cond := [.code New1.yN New1.yB 2 none, .initialized ST, .methodLink ST 27 New4.yN, .instanceMethod New4.yN,
  .code New4.yN New4.yB 6 none, .fieldLink ST 38 ST "COMPACT_STRINGS" "Z", .laysFinal ST ST "value" "[B", .fieldLink ST 9 ST "value" "[B", .laysFinal ST ST "coder" "B", .fieldLink ST 15 ST "coder" "B",
  .methodLink ST 1 Lib.objectInit, .instanceMethod Lib.objectInit, .code Lib.objectInit ⟨#[0xb1]⟩ 1 none, .methodLink ST 177 Cmp3.yN, .static Cmp3.yN, .methodLink ST 47 CodL.yN, .static CodL.yN,
  .code Cmp3.yN Cmp3.yB 6 (some (.array .byte)), .initialized U16, .arrayClass .byte, .methodLink U16 115 Cmp5.yN, .static Cmp5.yN, .code Cmp5.yN Cmp5.yB 7 (some .int), .code CodL.yN CodL.yB 2 (some .byte)]
theorem tab_of {a : Array Value} {s : State} (h : ∀ w ∈ words, w.before a s = true) : New1.tab.before a s = true := by
  have h5 : Cmp5.tab.before a s = true := unparts (wk h (.code Cmp5.yN Cmp5.yB 7 (some .int))) (wks h (.initialized Cmp5.yN.cls :: Cmp5.site))
  have hc : CodL.tab.before a s = true := unparts (wk h (.code CodL.yN CodL.yB 2 (some .byte))) (wks h (.initialized CodL.yN.cls :: CodL.site))
  have q5 : ∀ w ∈ Cmp5.tab :: words, w.before a s = true := fun w hw => (List.mem_cons.mp hw).elim (fun e => e ▸ h5) (h w)
  have h3 : Cmp3.tab.before a s = true := unparts (wk q5 (.code Cmp3.yN Cmp3.yB 6 (some (.array .byte)))) (wks q5 (.initialized Cmp3.yN.cls :: Cmp3.site))
  have q3 : ∀ w ∈ Cmp3.tab :: CodL.tab :: words, w.before a s = true := fun w hw => (List.mem_cons.mp hw).elim (fun e => e ▸ h3) fun hw => (List.mem_cons.mp hw).elim (fun e => e ▸ hc) (h w)
  have h4 : New4.tab.before a s = true := unparts (wk q3 (.code New4.yN New4.yB 6 none)) (wks q3 (.initialized New4.yN.cls :: New4.site))
  have q4 : ∀ w ∈ New4.tab :: words, w.before a s = true := fun w hw => (List.mem_cons.mp hw).elim (fun e => e ▸ h4) (h w)
  exact unparts (wk q4 (.code New1.yN New1.yB 2 none)) (wks q4 (.initialized New1.yN.cls :: New1.site))
/-- the words ride from the start Z to the walk's own state -/
theorem moved {Z s : State} {a0 args : Array Value} (hZ : Z.Warmed39 s.vm) (hw : ∀ d ∈ words, d.before a0 Z = true) : ∀ d ∈ words, d.before args s = true := fun d hd => by
  have q := hw d hd
  have t : ∀ d ∈ words, d = .arrayClass .byte ∨ (d.onTables && d.keepsFace) = true := by decide +kernel
  rcases t d hd with rfl | t
  · exact RoadKit.mvA hZ q
  · exact RoadKit.mv hZ q t
/-- WHAT COMES BACK, over the tables of the start Z: h the heap at the call, h' behind it -/
def Q (Z : State) (x : Addr) (A : Cell) (h : Heap) (v : Option Value) (h' : Heap) (L : List Loc) : Prop := v = none ∧ (∀ y ∈ L, y.base = x) ∧ RoadKit.Keep h h' [x] ∧ h'.size = h.size + 1 ∧ RoadKit.Exa Z h' x ST ∧ RoadKit.Fld Z h' x ST "value" "[B" (.ref h.size) ∧ RoadKit.Fld Z h' x ST "coder" "B" (.int 0) ∧
  (∃ V : Cell, RoadKit.Arr Z h' h.size V .byte ∧ V.vm = .none ∧ Z.vm.findClass "[B" = some V.cls ∧ V.slots.size = A.slots.size ∧ ∀ j, j < A.slots.size → V.slots[j]? = some (.int (lo8 (cv A j)))) ∧
  ∀ (O n d : String) (w : Value), RoadKit.Fld Z h x O n d w → RoadKit.slotOf Z O n d ≠ RoadKit.slotOf Z ST "value" "[B" → RoadKit.slotOf Z O n d ≠ RoadKit.slotOf Z ST "coder" "B" → RoadKit.Fld Z h' x O n d w
/-- **new String(chars) AT A CALL, IN THE ROAD'S FORM**: for specialBack behind newO: x the fresh String, b the char[] with the cell A -/
theorem back {p : Program} {l : Launch} {e : Env} {R : Room} {s : State} {args : Array Value} {below : List Frame} {len W : Nat} {Z : State} {a0 : Array Value} {h : Heap} (hZ : Z.Warmed39 s.vm) (hw : ∀ d ∈ words, d.before a0 Z = true) {kI : Nat} (wi : (Jvm.Cond.instantiable ST kI).before a0 Z = true)
    {x b : Addr} {A : Cell} {z : Int32} {v0 c0 : Value} (E : RoadKit.Exa Z h x ST) (V : RoadKit.Fld Z h x ST "value" "[B" v0) (C : RoadKit.Fld Z h x ST "coder" "B" c0) (K : RoadKit.Arr Z h b A .char) (hty : Typed .char A) (S : RoadKit.Sta Z h ST "COMPACT_STRINGS" "Z" (.int z)) (hz : ¬ z = 0)
    (l0 : 0 < A.slots.size) (l2 : A.slots.size ≤ 536870912) (hp : ∀ i, i < A.slots.size → ¬ 255 < cv A i) (hfr : 4 ≤ R.frames) (hlo : W + 65 ≤ R.locals) :
    Back l R p e below s args New1.yN len W (fun P a => a = #[.ref x, .ref b] ∧ P.U.heap = h ∧ P.cells + 1 ≤ R.cells ∧ P.slots + A.slots.size ≤ R.slots)
      (fun P _ v B => ∃ L, Q Z x A h v B.U.heap L ∧ B.locs = P.locs ++ L ∧ B.cells = P.cells + 1 ∧ B.slots = P.slots + A.slots.size) := by
  intro m meth c P g ig mk a X hg hsize hdg hW hn hp'
  obtain ⟨rfl, rfl, r1, r2⟩ := hp'
  have al : Z.vm.Alike P.U.vm := hZ.alike.trans X.warmed.alike
  obtain ⟨D, cfV, kV, iV, fV, hD, gV, stV, knV, obV, asV, slV⟩ := id V
  obtain ⟨D', cfC, kC, iC, fC, hD', gC, stC, -, -, asC, slC⟩ := id C
  cases hD.symm.trans hD'
  obtain ⟨D2, kD, e1, e2, e3, e4, e5⟩ := id E
  cases hD.symm.trans e1
  obtain ⟨c2, k2, i1, i2, i3, -⟩ := Cond.instantiable_spec wi
  cases e2.symm.trans i1
  cases e3.symm.trans i2
  obtain ⟨kU, u1, u2⟩ := al.2.2 _ _ e3
  have hB : Blank ST x D P.U := ⟨hD, ⟨knV, fun q hq => by rw [hq] at obV; cases obV⟩, by rw [al.findClass]; exact e2, kU, u1, by rw [u2]; exact i3, by rw [u2]; exact e5 i3⟩
  have F1 : Found ST "value" "[B" fV P.U := ⟨SBG.found_only al ⟨cfV, kV, iV, gV⟩, stV⟩
  have F2 : Found ST "coder" "B" fC P.U := ⟨SBG.found_only al ⟨cfC, kC, iC, gC⟩, stC⟩
  have hA : Ch b A P.U := ⟨⟨K.1, State.isArrayOf_alike al K.2.1, K.2.2, by omega⟩, hty⟩
  have hS : StaticIs P.U ST "COMPACT_STRINGS" "Z" (.int z) := by
    obtain ⟨cfS, iS, kS, fS, st, cS, t1, t2, t3, t4, t5, t6, t7⟩ := S
    exact StaticIs.there (s := { Z with heap := P.U.heap }) ⟨cfS, iS, kS, fS, st, cS, t1, t2, t3, t4, t5, (fun q => by rw [q] at t6; cases t6), t7⟩ al rfl
  obtain ⟨v, B, X', ⟨⟨hv, E', V', q1, q2, q3, q4, q5, q6, q7, q8, q9, q10, q11⟩, hl, hc, hs⟩, st⟩ := New1.pays x D fV fC b A z (tab_of (moved hZ hw)) hfr hlo m meth c P g ig mk _ X hg hsize hdg hW hn ⟨r1, r2, rfl, hB, F1, F2, hA, hS, hz, l0, l2, hp⟩
  have al' : Z.vm.Alike B.U.vm := hZ.alike.trans X'.warmed.alike
  have hsz : E'.slots.size = D.slots.size := by
    obtain ⟨-, -, -, kB, w1, w2, w3⟩ := q1
    obtain ⟨kB', y1, y2⟩ := al'.2.2 _ _ e3
    rw [q2.2.1] at w1
    cases w1.symm.trans y1
    rw [w3, e5 i3, y2]
  refine ⟨v, B, X', ⟨_, ⟨hv, ?_, ⟨by omega, fun y cy hy hn' => q10 y cy (by simpa using hn') hy, fun y cy hy => ?_⟩, q11, ⟨E', _, q1.1, by rw [q2.2.1]; exact e2, by rw [q2.2.1]; exact e3, by rw [q2.1]; exact obV, fun _ => by rw [hsz]; exact e5 i3⟩,
    ⟨E', cfV, kV, iV, fV, q1.1, gV, stV, by rw [q2.1]; exact knV, by rw [q2.1]; exact obV, by rw [q2.2.1]; exact asV, q3⟩, ⟨E', cfC, kC, iC, fC, q1.1, gC, stC, by rw [q2.1]; exact knV, by rw [q2.1]; exact obV, by rw [q2.2.1]; exact asC, q4⟩,
    ⟨V', ⟨q5.1, State.isArrayOf_alike al'.symm q5.2.1, q5.2.2.1⟩, q6, by rw [← al'.findClass]; exact q7, q8, fun j hj => by have := q9 j hj; rwa [Nat.zero_add] at this⟩, fun O n d w F n1 n2 => ?_⟩, hl, hc, hs⟩, st⟩
  · intro y hy
    simp only [List.mem_cons, List.not_mem_nil, or_false] at hy
    rcases hy with rfl | rfl <;> rfl
  · by_cases q : y = x
    · subst q
      cases hD.symm.trans hy
      exact ⟨E', q1.1, q2.2.1, q2.1, hsz⟩
    · exact ⟨cy, q10 y cy q hy, rfl, rfl, rfl⟩
  · obtain ⟨D3, cf, k, i, f, g1, g2, g3, g4, g5, g6, g7⟩ := F
    cases hD.symm.trans g1
    simp only [RoadKit.slotOf, g2, gV, gC, Option.map_some, Option.getD_some] at n1 n2
    exact ⟨E', cf, k, i, f, q1.1, g2, g3, by rw [q2.1]; exact g4, by rw [q2.1]; exact g5, by rw [q2.2.1]; exact g6, by rw [q2.2.2 f.slot (by simp [n1, n2])]; exact g7⟩
end StrChars.Road
namespace StrChars.Road
open Jvm Sem ClassFile Op Lib Jvm.Stand Jvm.Free Jvm.Free.XT
/-- WHAT COMES BACK, the byte[] as a list of values -/
def QA (Z : State) (x : Addr) (zn : Int32) (cs : List Int32) (h : Heap) (v : Option Value) (h' : Heap) (L : List Loc) : Prop := v = none ∧ (∀ y ∈ L, y.base = x) ∧ RoadKit.Keep h h' [x] ∧ h'.size = h.size + 1 ∧ RoadKit.Exa Z h' x ST ∧ RoadKit.Fld Z h' x ST "value" "[B" (.ref h.size) ∧ RoadKit.Fld Z h' x ST "coder" "B" (.int 0) ∧
  (∃ kb, Z.vm.findClass "[B" = some kb ∧ RoadKit.Arv Z h' h.size kb .byte zn (cs.map fun c => .int (lo8 c)) (.int 0)) ∧
  ∀ (O n d : String) (w : Value), RoadKit.Fld Z h x O n d w → RoadKit.slotOf Z O n d ≠ RoadKit.slotOf Z ST "value" "[B" → RoadKit.slotOf Z O n d ≠ RoadKit.slotOf Z ST "coder" "B" → RoadKit.Fld Z h' x O n d w
/-- **new String(chars) AT A CALL, THE ARRAYS AS LISTS**: the char[] at b holds cs, not empty, no char above 255 -/
theorem backArv {p : Program} {l : Launch} {e : Env} {R : Room} {s : State} {args : Array Value} {below : List Frame} {len W : Nat} {Z : State} {a0 : Array Value} {h : Heap} (hZ : Z.Warmed39 s.vm) (hw : ∀ d ∈ words, d.before a0 Z = true) {kI : Nat} (wi : (Jvm.Cond.instantiable ST kI).before a0 Z = true)
    {x b : Addr} {k : ClassId} {zn z : Int32} {cs : List Int32} {dv v0 c0 : Value} (E : RoadKit.Exa Z h x ST) (V : RoadKit.Fld Z h x ST "value" "[B" v0) (C : RoadKit.Fld Z h x ST "coder" "B" c0) (K : RoadKit.Arv Z h b k .char zn (cs.map Value.int) dv) (S : RoadKit.Sta Z h ST "COMPACT_STRINGS" "Z" (.int z)) (hz : ¬ z = 0)
    (hlen : zn.toNatClampNeg = cs.length) (h0 : 0 < cs.length) (hbig : cs.length ≤ 536870912) (hall : ∀ c ∈ cs, ¬ 255 < c) (hfr : 4 ≤ R.frames) (hlo : W + 65 ≤ R.locals) :
    Back l R p e below s args New1.yN len W (fun P a => a = #[.ref x, .ref b] ∧ P.U.heap = h ∧ P.cells + 1 ≤ R.cells ∧ P.slots + cs.length ≤ R.slots)
      (fun P _ v B => ∃ L, QA Z x zn cs h v B.U.heap L ∧ B.locs = P.locs ++ L ∧ B.cells = P.cells + 1 ∧ B.slots = P.slots + cs.length) := by
  obtain ⟨A, K1, K2, K3, K4, K5, K6⟩ := K
  have e : A.slots.size = cs.length := K3.trans hlen
  have hat : ∀ (i : Nat) (hi : i < cs.length), A.slots[i]? = some (.int cs[i]) := fun i hi => by rw [K5 i (by omega)]; simp [List.getD_eq_getElem?_getD, hi]
  have hcv : ∀ (i : Nat) (hi : i < cs.length), cv A i = cs[i] := fun i hi => by unfold cv; rw [hat i hi]
  have hty : Typed .char A := fun i v hv => by
    have hi : i < A.slots.size := (Array.getElem?_eq_some_iff.mp hv).1
    have q := K5 i hi
    rw [hv] at q
    rw [Option.some.inj q]
    exact K6 i hi
  refine Back.mono (back hZ hw wi E V C K1 hty S hz (by omega) (by omega) (fun i hi => by rw [hcv i (by omega)]; exact hall _ (List.getElem_mem _)) hfr hlo) (fun P a hp => ⟨hp.1, hp.2.1, hp.2.2.1, by rw [e]; exact hp.2.2.2⟩) (fun P a v B hp hq => ?_)
  obtain ⟨L, ⟨q1, q2, q3, q4, q5, q6, q7, ⟨V', v1, v2, v3, v4, v5⟩, q9⟩, hl, hc, hs⟩ := hq
  refine ⟨L, ⟨q1, q2, q3, q4, q5, q6, q7, ⟨V'.cls, v3, V', v1, rfl, by rw [v4, e, hlen], K4, fun i hi => ?_, fun i hi => ?_⟩, q9⟩, hl, hc, by rw [hs, e]⟩
  · have hi' : i < cs.length := by omega
    rw [v5 i (by omega), hcv i hi']; simp [List.getD_eq_getElem?_getD, hi']
  · have hi' : i < cs.length := by omega
    simp only [List.getD_eq_getElem?_getD, List.getElem?_map, List.getElem?_eq_getElem hi', Option.map_some, Option.getD_some]
    exact fits_lo8 _
end StrChars.Road
namespace StrChars.Road
open Jvm Sem ClassFile Op Lib Jvm.Stand Jvm.Free Jvm.Free.XT
/-- WHAT COMES BACK, in the writer's own shape -/
def QV (Z : State) (x : Addr) (N : Int32) (bs : List Int32) (h : Heap) (n0 : Nat) (v : Option Value) (h' : Heap) (L : List Loc) : Prop := v = none ∧ RoadKit.Fr n0 L ∧ RoadKit.Keep h h' [x] ∧ RoadKit.Exa Z h' x ST ∧ RoadKit.Fld Z h' x ST "coder" "B" (.int 0) ∧
  ∃ (t : Addr) (kb : ClassId), n0 ≤ t ∧ h.size ≤ t ∧ ¬ t = x ∧ RoadKit.Fld Z h' x ST "value" "[B" (.ref t) ∧ RoadKit.Arv Z h' t kb .byte N (bs.map Value.int) (.int 0)
/-- **new String(chars) AT A CALL, FOR THE WRITER**: a char[] of n known ints, each 0 to 255 -/
theorem backV {p : Program} {l : Launch} {e : Env} {R : Room} {s : State} {args : Array Value} {below : List Frame} {len W : Nat} {Z : State} {a0 : Array Value} {h : Heap} (hZ : Z.Warmed39 s.vm) (hw : ∀ d ∈ words, d.before a0 Z = true) {kI : Nat} (wi : (Jvm.Cond.instantiable ST kI).before a0 Z = true)
    {x b : Addr} {kC : ClassId} {cs bs : List Int32} {d v0 c0 : Value} {z N : Int32} {n n0 : Nat} (hx0 : n0 ≤ x) (hh0 : n0 ≤ h.size) (E : RoadKit.Exa Z h x ST) (V : RoadKit.Fld Z h x ST "value" "[B" v0) (C : RoadKit.Fld Z h x ST "coder" "B" c0) (K : RoadKit.Arv Z h b kC .char N (cs.map Value.int) d) (S : RoadKit.Sta Z h ST "COMPACT_STRINGS" "Z" (.int z)) (hz : ¬ z = 0)
    (hn : cs.length = n) (hN : N = Int32.ofNat n) (l0 : 0 < n) (l2 : n ≤ 4000) (hp : ∀ c ∈ cs, ¬ c < 0 ∧ ¬ (255 : Int32) < c) (hb : bs = cs.map (fun c => c.toInt8.toInt32)) (hfr : 4 ≤ R.frames) (hlo : W + 65 ≤ R.locals) :
    Back l R p e below s args (⟨"java/lang/String", "<init>", "([C)V"⟩ : MethodName) len W (fun P a => a = #[.ref x, .ref b] ∧ P.U.heap = h ∧ P.cells + 1 ≤ R.cells ∧ P.slots + n ≤ R.slots)
      (fun P _ v B => ∃ L, QV Z x N bs h n0 v B.U.heap L ∧ B.locs = P.locs ++ L ∧ B.cells = P.cells + 1 ∧ B.slots = P.slots + n) := by
  subst hn hN hb
  refine Back.mono (backArv hZ hw wi E V C K S hz (n32 (by omega)) l0 (by omega) (fun c hc => (hp c hc).2) hfr hlo) (fun P a hp => hp) (fun P a v B hp hq => ?_)
  obtain ⟨L, ⟨q1, q2, q3, q4, q5, q6, q7, ⟨kb, v1, v2⟩, q9⟩, hl, hc, hs⟩ := hq
  exact ⟨L, ⟨q1, fun y hy => by rw [q2 y hy]; exact hx0, q3, q5, q7, h.size, kb, hh0, Nat.le_refl _, Nat.ne_of_gt E.lt, q6, by rw [List.map_map]; exact v2⟩, hl, hc, hs⟩
end StrChars.Road
end Jvm.Pilot.@@N@@
namespace Jvm.Pilot.@@N@@
open Jvm Jvm.ClassFile Sem Op Lib Jvm.Free Jvm.Stand Jvm.LawKit Jvm.RoadKit Bundle Jvm.Pilot.@@N@@.Jvm.D
theorem wk {Z : State} {a0 : Array Value} (hw : ∀ d ∈ tables_1, d.before a0 Z = true) (i : Nat) {d : Jvm.Cond} (h : tables_1[i]? = some d) : d.before a0 Z = true := hw d (List.mem_of_getElem? h)
theorem nle {a b : Nat} (h : Nat.ble a b = true) : a ≤ b := Nat.le_of_ble_eq_true h
def QV (r : Option Value) (h0 : Heap) (n0 : Nat) (v : Option Value) (h : Heap) (L : List Loc) : Prop := v = r ∧ Fr n0 L ∧ h = h0
theorem own_ins {Z : State} {h h' : Heap} {a : Addr} {C : String} {ws : List Addr} (I : Ins Z h a C true) (K : Keep h h' ws) : Ins Z h' a C true := by
  obtain ⟨cell, cT, h1, h2, h3⟩ := I
  obtain ⟨c', q1, q2, q3, -⟩ := K.2.2 _ _ h1
  exact ⟨c', cT, q1, h2, by rw [q2, q3]; exact h3⟩
theorem own_ne_al {Z : State} {h : Heap} {a b : Addr} {c : Cell} {ty : FieldType} {C : String} {a0 : Array Value} {k : Nat} (G : Arr Z h b c ty) (F : Exa Z h a C) (wi : (Jvm.Cond.instantiable C k).before a0 Z = true) : b ≠ a := fun e => ne_arr F wi G e.symm
theorem own_sta {Z : State} {h h' : Heap} {C n dd : String} {v : Value} (F : Sta Z h C n dd v) (K : Keep h h' []) : Sta Z h' C n dd v := by
  obtain ⟨cf, i, k, f, st, cell, h1, h2, h3, h4, h5, r⟩ := F
  exact ⟨cf, i, k, f, st, cell, h1, h2, h3, h4, K.2.1 _ _ h5 (by simp), r⟩
theorem own_mS {α : Type} {P : α → Prop} {a : α} {ws : List α} (p : P a) (r : ∀ x ∈ ws, P x) : ∀ x ∈ a :: ws, P x := fun x h => by
  rcases List.mem_cons.mp h with rfl | h
  · exact p
  · exact r x h
theorem own_m0 {α : Type} {P : α → Prop} : ∀ x ∈ ([] : List α), P x := fun x h => nomatch h
theorem own_nm {a b : Addr} {ws : List Addr} (p : a ≠ b) (r : a ∉ ws) : a ∉ b :: ws := fun h => by
  rcases List.mem_cons.mp h with h | h
  · exact p h
  · exact r h
theorem own_n0 {a : Addr} : a ∉ ([] : List Addr) := fun h => nomatch h
theorem own_staK {Z : State} {h h' : Heap} {C n dd : String} {v : Value} {ws : List Addr} (F : Sta Z h C n dd v) (K : Keep h h' ws) (q : ∀ x ∈ ws, ∀ cell : Cell, h[x]? = some cell → cell.vm.isStatics = false) : Sta Z h' C n dd v := by
  obtain ⟨cf, i, k, f, st, cell, h1, h2, h3, h4, h5, h6, r⟩ := F
  exact ⟨cf, i, k, f, st, cell, h1, h2, h3, h4, K.2.1 _ _ h5 (fun hm => by rw [q _ hm _ h5] at h6; cases h6), h6, r⟩
theorem own_decl {args : Array Value} {s : State} {y : MethodName} {bytes : ByteArray} {maxL : Nat} {ret : Option FieldType} (h1 : (Jvm.Cond.instanceMethod y).before args s = true) (h2 : (Jvm.Cond.code y bytes maxL ret).before args s = true) : (Jvm.Cond.declares y).before args s = true := by
  obtain ⟨m, meth, q1, q2, q3, -⟩ := Cond.instanceMethod_spec h1
  obtain ⟨m2, c, r1, -, -, -, -, -, -, hs⟩ := Cond.code_spec q1 h2
  cases q2.symm.trans r1
  simp [Cond.before, Cond.holds, Cond.value, q1, q2, q3, hs]
theorem own_nf {args : Array Value} {s : State} {y y' : MethodName} (h1 : (Jvm.Cond.instanceMethod y).before args s = true) (nf : NotFace s y) (hc : y'.cls = y.cls) : NotFace s y' := fun r0 h0 => by
  obtain ⟨m, meth, q1, -⟩ := Cond.instanceMethod_spec h1
  obtain ⟨k, hk, hi⟩ := nf m q1
  have e1 := findClass_of_methodNamed q1
  have e2 := findClass_of_methodNamed h0
  rw [hc, e1] at e2
  exact ⟨k, by rw [← Option.some.inj e2]; exact hk, hi⟩
theorem own_same {args : Array Value} {s : State} {y : MethodName} (h1 : (Jvm.Cond.instanceMethod y).before args s = true) (nf : NotFace s y) (hy : y.cls ≠ "java/lang/invoke/MethodHandle" ∧ y.cls ≠ "java/lang/invoke/VarHandle") : (Jvm.Cond.sameMethod y.cls y.cls y.name y.desc).before args s = true := by
  obtain ⟨m, meth, q1, -⟩ := Cond.instanceMethod_spec h1
  obtain ⟨k, hk, hi⟩ := nf m q1
  have e1 := findClass_of_methodNamed q1
  have e3 := State.methodFound?_of_named q1 hy
  have q1' : s.methodNamed? ⟨y.cls, y.name, y.desc⟩ = some m := q1
  simp [Cond.before, Cond.holds, Cond.value, e1, e3, q1', hk, hi]
theorem own_tyne {Z : State} {h : Heap} {a b : Addr} {k k' : ClassId} {ty ty' : FieldType} {z z' : Int32} {vs vs' : List Value} {dv dv' : Value} (F : Arv Z h a k ty z vs dv) (G : Arv Z h b k' ty' z' vs' dv') (n : ty ≠ ty') : a ≠ b := by
  rintro rfl
  obtain ⟨c, A, -⟩ := F
  obtain ⟨c', A', -⟩ := G
  have e := Option.some.inj (A.1.symm.trans A'.1)
  subst e
  obtain ⟨-, k1, h1, u1, h2⟩ := A.2.1
  obtain ⟨-, k2, h3, u2, h4⟩ := A'.2.1
  have e2 := Option.some.inj (h1.symm.trans h3)
  subst e2
  rw [h2] at h4
  injection h4 with _ q
  exact n q
theorem own_catv {v : Value} (h : v.isRef = true) : v.category = 1 := by cases v <;> first | rfl | cases h
theorem own_narO {v : Value} {c : String} (h : v.isRef = true) : narrow (.object c) v = v := by cases v <;> first | rfl | cases h
theorem own_fitO {v : Value} {c : String} (h : v.isRef = true) : fits (.object c) v = true := by cases v <;> first | rfl | cases h
theorem own_retN {p : Program} {l : Launch} {e : Env} {R : Room} {s : State} {m : MethodId} {args : Array Value} {below : List Frame} {meth : Method} {c : Code} {T : State} {locs : List Loc} {cells slots : Nat} (X : Stand p l e R s m args below meth c T locs cells slots) (hx : p.tables.exec = Jvm.exec) {pc : Nat} {Ls : Array Slot} {z z' : Int32} {t : FieldType} {rest : List Value} (hz : nar t z = z') (hret : meth.sig.returnType = some t) (ht : t = .boolean ∨ t = .byte ∨ t = .char ∨ t = .short)
    (hd : decode c.code pc = .ok (.ireturn, 1)) {fs : List Frame} (hl : ∀ (f : JFrame) (acts : List Action), f.method = m → f.locked = none → f.entered = [] → (doReturn e (T.setTop f) acts (some (.int z'))).1 = T.setFrames fs) :
    Steps p.tables e below (T.setTop (mkF m pc Ls (.int z :: rest))) (T.setFrames fs) := by
  subst hz; exact retN X hx hret ht hd hl
def own_cv (x : Int32) : Int32 := (x &&& (255 : Int32)).toUInt32.toUInt16.toUInt32.toInt32
theorem own_cv_nar (x : Int32) : nar .char (own_cv x) = own_cv x := by
  have t : ∀ k : Fin 256, nar .char ((Int32.ofNat k.val).toUInt32.toUInt16.toUInt32.toInt32) = (Int32.ofNat k.val).toUInt32.toUInt16.toUInt32.toInt32 := by decide +kernel
  have h : (x &&& 255).toBitVec.toNat < 256 := by
    simp only [Int32.toBitVec_and, BitVec.toNat_and]
    exact Nat.lt_succ_of_le Nat.and_le_right
  have e : (x &&& 255) = Int32.ofNat (x &&& 255).toBitVec.toNat := by
    apply Int32.toBitVec_inj.mp
    show _ = BitVec.ofNat 32 _
    rw [BitVec.ofNat_toNat]; simp
  unfold own_cv
  rw [e]
  exact t ⟨_, h⟩
def own_ch (k : Int32) : Int32 := if k < (26 : Int32) then ((97 : Int32) + k).toUInt32.toUInt16.toUInt32.toInt32 else if k < (52 : Int32) then ((65 : Int32) + (k - (26 : Int32))).toUInt32.toUInt16.toUInt32.toInt32 else if k < (62 : Int32) then ((48 : Int32) + (k - (52 : Int32))).toUInt32.toUInt16.toUInt32.toInt32 else if k = (62 : Int32) then (46 : Int32) else if k = (63 : Int32) then (95 : Int32) else if k = (64 : Int32) then (45 : Int32) else if k = (65 : Int32) then (58 : Int32) else (47 : Int32)
def own_k (x : Int32) : Int32 := (x &&& (2147483647 : Int32)) % (67 : Int32)
def own_c (x : Int32) : Int32 := own_ch (own_k x)
theorem own_i2c_nar (y : Int32) : nar .char (y.toUInt32.toUInt16.toUInt32.toInt32) = y.toUInt32.toUInt16.toUInt32.toInt32 := by
  show (y.toUInt32.toUInt16.toUInt32.toInt32).toUInt32.toUInt16.toUInt32.toInt32 = _
  rw [UInt32.toUInt32_toInt32, UInt16.toUInt16_toUInt32]
def own_al (x : Int32) : Prop := (¬ x < 97 ∧ ¬ 122 < x) ∨ (¬ x < 65 ∧ ¬ 90 < x) ∨ (¬ x < 48 ∧ ¬ 57 < x) ∨ x = 46 ∨ x = 95 ∨ x = 45 ∨ x = 58 ∨ x = 47
def own_by (c : Int32) : Int32 := (nar .char c).toInt8.toInt32
def own_good (c : Int32) : Prop := (¬ nar .char c < 0 ∧ ¬ (255 : Int32) < nar .char c) ∧ own_al (own_by c &&& (255 : Int32))
theorem own_k67 (x : Int32) : ∃ i : Fin 67, own_k x = Int32.ofNat i.val := by
  have h : 0 ≤ (x &&& (2147483647 : Int32)).toInt := by
    have : (x &&& (2147483647 : Int32)).toBitVec.toNat < 2147483648 := by
      simp only [Int32.toBitVec_and, BitVec.toNat_and]
      exact Nat.lt_succ_of_le Nat.and_le_right
    show 0 ≤ (x &&& (2147483647 : Int32)).toBitVec.toInt
    rw [BitVec.toInt_eq_toNat_of_lt (by omega)]; omega
  unfold own_k
  generalize x &&& (2147483647 : Int32) = y at h
  have e : (y % (67 : Int32)).toInt = y.toInt % 67 := by
    rw [Int32.toInt_mod, show (67:Int32).toInt = 67 from by decide, Int.tmod_eq_emod_of_nonneg h]
  have b0 : 0 ≤ y.toInt % 67 := Int.emod_nonneg _ (by decide)
  have b1 : y.toInt % 67 < 67 := Int.emod_lt_of_pos _ (by decide)
  refine ⟨⟨(y.toInt % 67).toNat, by omega⟩, ?_⟩
  apply Int32.toInt_inj.mp
  rw [e]
  show _ = (Int32.ofNat (y.toInt % 67).toNat).toInt
  rw [Int32.toInt_ofNat_of_lt (by omega)]
  omega
theorem own_cgood (x : Int32) : own_good (own_c x) := by
  have t : ∀ i : Fin 67, own_good (own_ch (Int32.ofNat i.val)) := by
    unfold own_good own_al
    decide +kernel
  obtain ⟨i, hi⟩ := own_k67 x
  unfold own_c
  rw [hi]; exact t i
theorem own_alt {x : Int32} (h : own_al x) : x < (65536 : Int32) := by
  unfold own_al at h
  simp only [Int32.lt_iff_toInt_lt, ← Int32.toInt_inj, show (45:Int32).toInt = 45 from by decide, show (46:Int32).toInt = 46 from by decide, show (47:Int32).toInt = 47 from by decide, show (48:Int32).toInt = 48 from by decide, show (57:Int32).toInt = 57 from by decide, show (58:Int32).toInt = 58 from by decide, show (65:Int32).toInt = 65 from by decide, show (90:Int32).toInt = 90 from by decide, show (95:Int32).toInt = 95 from by decide, show (97:Int32).toInt = 97 from by decide, show (122:Int32).toInt = 122 from by decide, show (65536:Int32).toInt = 65536 from by decide] at *
  omega
theorem own_wS {Z : State} {a0 : Array Value} (hw : ∀ d ∈ tables_1, d.before a0 Z = true) : ∀ a ∈ Bundle.stringAtoms, a.before a0 Z = true := fun d hd => hw d ((by decide +kernel : ∀ d ∈ Bundle.stringAtoms, d ∈ tables_1) d hd)
theorem own_shr0 (z : Int32) : z >>> ((0 : Int32) &&& 31) = z := by
  have e : (0 : Int32) &&& 31 = 0 := by decide
  rw [e]; apply Int32.toBitVec_inj.mp; simp
theorem own_b65 {x : Int32} (h : ¬ (90 : Int32) < x) : x < (97 : Int32) := by
  simp only [Int32.lt_iff_toInt_lt, show (90:Int32).toInt = 90 from by decide, show (97:Int32).toInt = 97 from by decide] at *
  omega
theorem own_b48 {x : Int32} (h : ¬ (57 : Int32) < x) : x < (97 : Int32) ∧ x < (65 : Int32) := by
  simp only [Int32.lt_iff_toInt_lt, show (57:Int32).toInt = 57 from by decide, show (65:Int32).toInt = 65 from by decide, show (97:Int32).toInt = 97 from by decide] at *
  omega
theorem d1_86 : decode method_2_code 86 = .ok (.bipush 47, 2) := by decide +kernel
theorem d1_88 : decode method_2_code 88 = .ok (.ireturn, 1) := by decide +kernel
theorem d1_77 : decode method_2_code 77 = .ok (.iload_n 1, 1) := by decide +kernel
theorem d1_78 : decode method_2_code 78 = .ok (.bipush 65, 2) := by decide +kernel
theorem d1_80 : decode method_2_code 80 = .ok (.if_icmp .ne 6, 3) := by decide +kernel
theorem d1_83 : decode method_2_code 83 = .ok (.bipush 58, 2) := by decide +kernel
theorem d1_85 : decode method_2_code 85 = .ok (.ireturn, 1) := by decide +kernel
theorem d1_68 : decode method_2_code 68 = .ok (.iload_n 1, 1) := by decide +kernel
theorem d1_69 : decode method_2_code 69 = .ok (.bipush 64, 2) := by decide +kernel
theorem d1_71 : decode method_2_code 71 = .ok (.if_icmp .ne 6, 3) := by decide +kernel
theorem d1_74 : decode method_2_code 74 = .ok (.bipush 45, 2) := by decide +kernel
theorem d1_76 : decode method_2_code 76 = .ok (.ireturn, 1) := by decide +kernel
theorem d1_59 : decode method_2_code 59 = .ok (.iload_n 1, 1) := by decide +kernel
theorem d1_60 : decode method_2_code 60 = .ok (.bipush 63, 2) := by decide +kernel
theorem d1_62 : decode method_2_code 62 = .ok (.if_icmp .ne 6, 3) := by decide +kernel
theorem d1_65 : decode method_2_code 65 = .ok (.bipush 95, 2) := by decide +kernel
theorem d1_67 : decode method_2_code 67 = .ok (.ireturn, 1) := by decide +kernel
theorem d1_50 : decode method_2_code 50 = .ok (.iload_n 1, 1) := by decide +kernel
theorem d1_51 : decode method_2_code 51 = .ok (.bipush 62, 2) := by decide +kernel
theorem d1_53 : decode method_2_code 53 = .ok (.if_icmp .ne 6, 3) := by decide +kernel
theorem d1_56 : decode method_2_code 56 = .ok (.bipush 46, 2) := by decide +kernel
theorem d1_58 : decode method_2_code 58 = .ok (.ireturn, 1) := by decide +kernel
theorem d1_35 : decode method_2_code 35 = .ok (.iload_n 1, 1) := by decide +kernel
theorem d1_36 : decode method_2_code 36 = .ok (.bipush 62, 2) := by decide +kernel
theorem d1_38 : decode method_2_code 38 = .ok (.if_icmp .ge 12, 3) := by decide +kernel
theorem d1_41 : decode method_2_code 41 = .ok (.bipush 48, 2) := by decide +kernel
theorem d1_43 : decode method_2_code 43 = .ok (.iload_n 1, 1) := by decide +kernel
theorem d1_44 : decode method_2_code 44 = .ok (.bipush 52, 2) := by decide +kernel
theorem d1_46 : decode method_2_code 46 = .ok (.isub, 1) := by decide +kernel
theorem d1_47 : decode method_2_code 47 = .ok (.iadd, 1) := by decide +kernel
theorem d1_48 : decode method_2_code 48 = .ok (.i2c, 1) := by decide +kernel
theorem d1_49 : decode method_2_code 49 = .ok (.ireturn, 1) := by decide +kernel
theorem d1_20 : decode method_2_code 20 = .ok (.iload_n 1, 1) := by decide +kernel
theorem d1_21 : decode method_2_code 21 = .ok (.bipush 52, 2) := by decide +kernel
theorem d1_23 : decode method_2_code 23 = .ok (.if_icmp .ge 12, 3) := by decide +kernel
theorem d1_26 : decode method_2_code 26 = .ok (.bipush 65, 2) := by decide +kernel
theorem d1_28 : decode method_2_code 28 = .ok (.iload_n 1, 1) := by decide +kernel
theorem d1_29 : decode method_2_code 29 = .ok (.bipush 26, 2) := by decide +kernel
theorem d1_31 : decode method_2_code 31 = .ok (.isub, 1) := by decide +kernel
theorem d1_32 : decode method_2_code 32 = .ok (.iadd, 1) := by decide +kernel
theorem d1_33 : decode method_2_code 33 = .ok (.i2c, 1) := by decide +kernel
theorem d1_34 : decode method_2_code 34 = .ok (.ireturn, 1) := by decide +kernel
theorem d1_8 : decode method_2_code 8 = .ok (.iload_n 1, 1) := by decide +kernel
theorem d1_9 : decode method_2_code 9 = .ok (.bipush 26, 2) := by decide +kernel
theorem d1_11 : decode method_2_code 11 = .ok (.if_icmp .ge 9, 3) := by decide +kernel
theorem d1_14 : decode method_2_code 14 = .ok (.bipush 97, 2) := by decide +kernel
theorem d1_16 : decode method_2_code 16 = .ok (.iload_n 1, 1) := by decide +kernel
theorem d1_17 : decode method_2_code 17 = .ok (.iadd, 1) := by decide +kernel
theorem d1_18 : decode method_2_code 18 = .ok (.i2c, 1) := by decide +kernel
theorem d1_19 : decode method_2_code 19 = .ok (.ireturn, 1) := by decide +kernel
set_option maxRecDepth 65536 in
theorem own_chS {p : Program} {l : Launch} {e : Env} {R : Room} {s : State} {m : MethodId} {args : Array Value} {below : List Frame} {meth : Method} {c : Code} {T : State} {locs : List Loc} {cells slots : Nat} (X : Stand p l e R s m args below meth c T locs cells slots) (hx : p.tables.exec = Jvm.exec) (hby : c.code = method_2_code) (hret : meth.sig.returnType = some .char) (x k : Int32) {fs : List Frame} (hr : ∀ (f : JFrame) (acts : List Action), f.method = m → f.locked = none → f.entered = [] → (doReturn e (T.setTop f) acts (some (.int (own_ch k)))).1 = T.setFrames fs) : Steps p.tables e below (T.setTop (mkF m 8 #[.val (.int x), .val (.int k)] [])) (T.setFrames fs) := by
  have s86 : ¬ (k < (26 : Int32)) → ¬ (k < (52 : Int32)) → ¬ (k < (62 : Int32)) → ¬ (k = (62 : Int32)) → ¬ (k = (63 : Int32)) → ¬ (k = (64 : Int32)) → ¬ (k = (65 : Int32)) → Steps p.tables e below (T.setTop (mkF m 86 #[.val (.int x), .val (.int k)] [])) (T.setFrames fs) := by
    intro o8 o20 o35 o50 o59 o68 o77
    show Steps p.tables e below (T.setTop (mkF m 86 #[.val (.int x), .val (.int k)] [])) _
    refine XS.bipush X.here hx rfl (hb hby d1_86) ?_
    show Steps p.tables e below (T.setTop (mkF m 88 #[.val (.int x), .val (.int k)] [(.int (47 : Int32))])) _
    exact own_retN X hx (t := .char) (by rw [own_ch, if_neg o8, if_neg o20, if_neg o35, if_neg o50, if_neg o59, if_neg o68, if_neg o77]; rfl) hret (by simp) (hb hby d1_88) hr
  have s77 : ¬ (k < (26 : Int32)) → ¬ (k < (52 : Int32)) → ¬ (k < (62 : Int32)) → ¬ (k = (62 : Int32)) → ¬ (k = (63 : Int32)) → ¬ (k = (64 : Int32)) → Steps p.tables e below (T.setTop (mkF m 77 #[.val (.int x), .val (.int k)] [])) (T.setFrames fs) := by
    intro o8 o20 o35 o50 o59 o68
    by_cases g : k = (65 : Int32)
    · show Steps p.tables e below (T.setTop (mkF m 77 #[.val (.int x), .val (.int k)] [])) _
      refine XS.iloadN X.here hx rfl (hb hby d1_77) rfl ?_
      show Steps p.tables e below (T.setTop (mkF m 78 #[.val (.int x), .val (.int k)] [(.int k)])) _
      refine XS.bipush X.here hx rfl (hb hby d1_78) ?_
      show Steps p.tables e below (T.setTop (mkF m 80 #[.val (.int x), .val (.int k)] [(.int (65 : Int32)), (.int k)])) _
      refine XS.icmpNo X.here hx rfl (hb hby d1_80) rfl (teq (g : k = (65 : Int32))).2 ?_
      show Steps p.tables e below (T.setTop (mkF m 83 #[.val (.int x), .val (.int k)] [])) _
      refine XS.bipush X.here hx rfl (hb hby d1_83) ?_
      show Steps p.tables e below (T.setTop (mkF m 85 #[.val (.int x), .val (.int k)] [(.int (58 : Int32))])) _
      exact own_retN X hx (t := .char) (by rw [own_ch, if_neg o8, if_neg o20, if_neg o35, if_neg o50, if_neg o59, if_neg o68, if_pos g]; rfl) hret (by simp) (hb hby d1_85) hr
    · show Steps p.tables e below (T.setTop (mkF m 77 #[.val (.int x), .val (.int k)] [])) _
      refine XS.iloadN X.here hx rfl (hb hby d1_77) rfl ?_
      show Steps p.tables e below (T.setTop (mkF m 78 #[.val (.int x), .val (.int k)] [(.int k)])) _
      refine XS.bipush X.here hx rfl (hb hby d1_78) ?_
      show Steps p.tables e below (T.setTop (mkF m 80 #[.val (.int x), .val (.int k)] [(.int (65 : Int32)), (.int k)])) _
      refine XS.icmpYes X.here hx rfl (pc0 := 80) (pc' := 86) rfl (hb hby d1_80) rfl (feq (g : ¬ (k = (65 : Int32)))).2 (by decide) (by decide) ?_
      exact s86 o8 o20 o35 o50 o59 o68 g
  have s68 : ¬ (k < (26 : Int32)) → ¬ (k < (52 : Int32)) → ¬ (k < (62 : Int32)) → ¬ (k = (62 : Int32)) → ¬ (k = (63 : Int32)) → Steps p.tables e below (T.setTop (mkF m 68 #[.val (.int x), .val (.int k)] [])) (T.setFrames fs) := by
    intro o8 o20 o35 o50 o59
    by_cases g : k = (64 : Int32)
    · show Steps p.tables e below (T.setTop (mkF m 68 #[.val (.int x), .val (.int k)] [])) _
      refine XS.iloadN X.here hx rfl (hb hby d1_68) rfl ?_
      show Steps p.tables e below (T.setTop (mkF m 69 #[.val (.int x), .val (.int k)] [(.int k)])) _
      refine XS.bipush X.here hx rfl (hb hby d1_69) ?_
      show Steps p.tables e below (T.setTop (mkF m 71 #[.val (.int x), .val (.int k)] [(.int (64 : Int32)), (.int k)])) _
      refine XS.icmpNo X.here hx rfl (hb hby d1_71) rfl (teq (g : k = (64 : Int32))).2 ?_
      show Steps p.tables e below (T.setTop (mkF m 74 #[.val (.int x), .val (.int k)] [])) _
      refine XS.bipush X.here hx rfl (hb hby d1_74) ?_
      show Steps p.tables e below (T.setTop (mkF m 76 #[.val (.int x), .val (.int k)] [(.int (45 : Int32))])) _
      exact own_retN X hx (t := .char) (by rw [own_ch, if_neg o8, if_neg o20, if_neg o35, if_neg o50, if_neg o59, if_pos g]; rfl) hret (by simp) (hb hby d1_76) hr
    · show Steps p.tables e below (T.setTop (mkF m 68 #[.val (.int x), .val (.int k)] [])) _
      refine XS.iloadN X.here hx rfl (hb hby d1_68) rfl ?_
      show Steps p.tables e below (T.setTop (mkF m 69 #[.val (.int x), .val (.int k)] [(.int k)])) _
      refine XS.bipush X.here hx rfl (hb hby d1_69) ?_
      show Steps p.tables e below (T.setTop (mkF m 71 #[.val (.int x), .val (.int k)] [(.int (64 : Int32)), (.int k)])) _
      refine XS.icmpYes X.here hx rfl (pc0 := 71) (pc' := 77) rfl (hb hby d1_71) rfl (feq (g : ¬ (k = (64 : Int32)))).2 (by decide) (by decide) ?_
      exact s77 o8 o20 o35 o50 o59 g
  have s59 : ¬ (k < (26 : Int32)) → ¬ (k < (52 : Int32)) → ¬ (k < (62 : Int32)) → ¬ (k = (62 : Int32)) → Steps p.tables e below (T.setTop (mkF m 59 #[.val (.int x), .val (.int k)] [])) (T.setFrames fs) := by
    intro o8 o20 o35 o50
    by_cases g : k = (63 : Int32)
    · show Steps p.tables e below (T.setTop (mkF m 59 #[.val (.int x), .val (.int k)] [])) _
      refine XS.iloadN X.here hx rfl (hb hby d1_59) rfl ?_
      show Steps p.tables e below (T.setTop (mkF m 60 #[.val (.int x), .val (.int k)] [(.int k)])) _
      refine XS.bipush X.here hx rfl (hb hby d1_60) ?_
      show Steps p.tables e below (T.setTop (mkF m 62 #[.val (.int x), .val (.int k)] [(.int (63 : Int32)), (.int k)])) _
      refine XS.icmpNo X.here hx rfl (hb hby d1_62) rfl (teq (g : k = (63 : Int32))).2 ?_
      show Steps p.tables e below (T.setTop (mkF m 65 #[.val (.int x), .val (.int k)] [])) _
      refine XS.bipush X.here hx rfl (hb hby d1_65) ?_
      show Steps p.tables e below (T.setTop (mkF m 67 #[.val (.int x), .val (.int k)] [(.int (95 : Int32))])) _
      exact own_retN X hx (t := .char) (by rw [own_ch, if_neg o8, if_neg o20, if_neg o35, if_neg o50, if_pos g]; rfl) hret (by simp) (hb hby d1_67) hr
    · show Steps p.tables e below (T.setTop (mkF m 59 #[.val (.int x), .val (.int k)] [])) _
      refine XS.iloadN X.here hx rfl (hb hby d1_59) rfl ?_
      show Steps p.tables e below (T.setTop (mkF m 60 #[.val (.int x), .val (.int k)] [(.int k)])) _
      refine XS.bipush X.here hx rfl (hb hby d1_60) ?_
      show Steps p.tables e below (T.setTop (mkF m 62 #[.val (.int x), .val (.int k)] [(.int (63 : Int32)), (.int k)])) _
      refine XS.icmpYes X.here hx rfl (pc0 := 62) (pc' := 68) rfl (hb hby d1_62) rfl (feq (g : ¬ (k = (63 : Int32)))).2 (by decide) (by decide) ?_
      exact s68 o8 o20 o35 o50 g
  have s50 : ¬ (k < (26 : Int32)) → ¬ (k < (52 : Int32)) → ¬ (k < (62 : Int32)) → Steps p.tables e below (T.setTop (mkF m 50 #[.val (.int x), .val (.int k)] [])) (T.setFrames fs) := by
    intro o8 o20 o35
    by_cases g : k = (62 : Int32)
    · show Steps p.tables e below (T.setTop (mkF m 50 #[.val (.int x), .val (.int k)] [])) _
      refine XS.iloadN X.here hx rfl (hb hby d1_50) rfl ?_
      show Steps p.tables e below (T.setTop (mkF m 51 #[.val (.int x), .val (.int k)] [(.int k)])) _
      refine XS.bipush X.here hx rfl (hb hby d1_51) ?_
      show Steps p.tables e below (T.setTop (mkF m 53 #[.val (.int x), .val (.int k)] [(.int (62 : Int32)), (.int k)])) _
      refine XS.icmpNo X.here hx rfl (hb hby d1_53) rfl (teq (g : k = (62 : Int32))).2 ?_
      show Steps p.tables e below (T.setTop (mkF m 56 #[.val (.int x), .val (.int k)] [])) _
      refine XS.bipush X.here hx rfl (hb hby d1_56) ?_
      show Steps p.tables e below (T.setTop (mkF m 58 #[.val (.int x), .val (.int k)] [(.int (46 : Int32))])) _
      exact own_retN X hx (t := .char) (by rw [own_ch, if_neg o8, if_neg o20, if_neg o35, if_pos g]; rfl) hret (by simp) (hb hby d1_58) hr
    · show Steps p.tables e below (T.setTop (mkF m 50 #[.val (.int x), .val (.int k)] [])) _
      refine XS.iloadN X.here hx rfl (hb hby d1_50) rfl ?_
      show Steps p.tables e below (T.setTop (mkF m 51 #[.val (.int x), .val (.int k)] [(.int k)])) _
      refine XS.bipush X.here hx rfl (hb hby d1_51) ?_
      show Steps p.tables e below (T.setTop (mkF m 53 #[.val (.int x), .val (.int k)] [(.int (62 : Int32)), (.int k)])) _
      refine XS.icmpYes X.here hx rfl (pc0 := 53) (pc' := 59) rfl (hb hby d1_53) rfl (feq (g : ¬ (k = (62 : Int32)))).2 (by decide) (by decide) ?_
      exact s59 o8 o20 o35 g
  have s35 : ¬ (k < (26 : Int32)) → ¬ (k < (52 : Int32)) → Steps p.tables e below (T.setTop (mkF m 35 #[.val (.int x), .val (.int k)] [])) (T.setFrames fs) := by
    intro o8 o20
    by_cases g : k < (62 : Int32)
    · show Steps p.tables e below (T.setTop (mkF m 35 #[.val (.int x), .val (.int k)] [])) _
      refine XS.iloadN X.here hx rfl (hb hby d1_35) rfl ?_
      show Steps p.tables e below (T.setTop (mkF m 36 #[.val (.int x), .val (.int k)] [(.int k)])) _
      refine XS.bipush X.here hx rfl (hb hby d1_36) ?_
      show Steps p.tables e below (T.setTop (mkF m 38 #[.val (.int x), .val (.int k)] [(.int (62 : Int32)), (.int k)])) _
      refine XS.icmpNo X.here hx rfl (hb hby d1_38) rfl (tlt (g : k < (62 : Int32))).2.1 ?_
      show Steps p.tables e below (T.setTop (mkF m 41 #[.val (.int x), .val (.int k)] [])) _
      refine XS.bipush X.here hx rfl (hb hby d1_41) ?_
      show Steps p.tables e below (T.setTop (mkF m 43 #[.val (.int x), .val (.int k)] [(.int (48 : Int32))])) _
      refine XS.iloadN X.here hx rfl (hb hby d1_43) rfl ?_
      show Steps p.tables e below (T.setTop (mkF m 44 #[.val (.int x), .val (.int k)] [(.int k), (.int (48 : Int32))])) _
      refine XS.bipush X.here hx rfl (hb hby d1_44) ?_
      show Steps p.tables e below (T.setTop (mkF m 46 #[.val (.int x), .val (.int k)] [(.int (52 : Int32)), (.int k), (.int (48 : Int32))])) _
      refine XS.isub X.here hx rfl (hb hby d1_46) rfl ?_
      show Steps p.tables e below (T.setTop (mkF m 47 #[.val (.int x), .val (.int k)] [(.int (k - (52 : Int32))), (.int (48 : Int32))])) _
      refine XS.iadd X.here hx rfl (hb hby d1_47) rfl ?_
      show Steps p.tables e below (T.setTop (mkF m 48 #[.val (.int x), .val (.int k)] [(.int ((48 : Int32) + (k - (52 : Int32))))])) _
      refine XS.i2c X.here hx rfl (hb hby d1_48) rfl ?_
      show Steps p.tables e below (T.setTop (mkF m 49 #[.val (.int x), .val (.int k)] [(.int (((48 : Int32) + (k - (52 : Int32))).toUInt32.toUInt16.toUInt32.toInt32))])) _
      exact own_retN X hx (t := .char) (by rw [own_ch, if_neg o8, if_neg o20, if_pos g]; exact own_i2c_nar _) hret (by simp) (hb hby d1_49) hr
    · show Steps p.tables e below (T.setTop (mkF m 35 #[.val (.int x), .val (.int k)] [])) _
      refine XS.iloadN X.here hx rfl (hb hby d1_35) rfl ?_
      show Steps p.tables e below (T.setTop (mkF m 36 #[.val (.int x), .val (.int k)] [(.int k)])) _
      refine XS.bipush X.here hx rfl (hb hby d1_36) ?_
      show Steps p.tables e below (T.setTop (mkF m 38 #[.val (.int x), .val (.int k)] [(.int (62 : Int32)), (.int k)])) _
      refine XS.icmpYes X.here hx rfl (pc0 := 38) (pc' := 50) rfl (hb hby d1_38) rfl (flt (g : ¬ (k < (62 : Int32)))).2.1 (by decide) (by decide) ?_
      exact s50 o8 o20 g
  have s20 : ¬ (k < (26 : Int32)) → Steps p.tables e below (T.setTop (mkF m 20 #[.val (.int x), .val (.int k)] [])) (T.setFrames fs) := by
    intro o8
    by_cases g : k < (52 : Int32)
    · show Steps p.tables e below (T.setTop (mkF m 20 #[.val (.int x), .val (.int k)] [])) _
      refine XS.iloadN X.here hx rfl (hb hby d1_20) rfl ?_
      show Steps p.tables e below (T.setTop (mkF m 21 #[.val (.int x), .val (.int k)] [(.int k)])) _
      refine XS.bipush X.here hx rfl (hb hby d1_21) ?_
      show Steps p.tables e below (T.setTop (mkF m 23 #[.val (.int x), .val (.int k)] [(.int (52 : Int32)), (.int k)])) _
      refine XS.icmpNo X.here hx rfl (hb hby d1_23) rfl (tlt (g : k < (52 : Int32))).2.1 ?_
      show Steps p.tables e below (T.setTop (mkF m 26 #[.val (.int x), .val (.int k)] [])) _
      refine XS.bipush X.here hx rfl (hb hby d1_26) ?_
      show Steps p.tables e below (T.setTop (mkF m 28 #[.val (.int x), .val (.int k)] [(.int (65 : Int32))])) _
      refine XS.iloadN X.here hx rfl (hb hby d1_28) rfl ?_
      show Steps p.tables e below (T.setTop (mkF m 29 #[.val (.int x), .val (.int k)] [(.int k), (.int (65 : Int32))])) _
      refine XS.bipush X.here hx rfl (hb hby d1_29) ?_
      show Steps p.tables e below (T.setTop (mkF m 31 #[.val (.int x), .val (.int k)] [(.int (26 : Int32)), (.int k), (.int (65 : Int32))])) _
      refine XS.isub X.here hx rfl (hb hby d1_31) rfl ?_
      show Steps p.tables e below (T.setTop (mkF m 32 #[.val (.int x), .val (.int k)] [(.int (k - (26 : Int32))), (.int (65 : Int32))])) _
      refine XS.iadd X.here hx rfl (hb hby d1_32) rfl ?_
      show Steps p.tables e below (T.setTop (mkF m 33 #[.val (.int x), .val (.int k)] [(.int ((65 : Int32) + (k - (26 : Int32))))])) _
      refine XS.i2c X.here hx rfl (hb hby d1_33) rfl ?_
      show Steps p.tables e below (T.setTop (mkF m 34 #[.val (.int x), .val (.int k)] [(.int (((65 : Int32) + (k - (26 : Int32))).toUInt32.toUInt16.toUInt32.toInt32))])) _
      exact own_retN X hx (t := .char) (by rw [own_ch, if_neg o8, if_pos g]; exact own_i2c_nar _) hret (by simp) (hb hby d1_34) hr
    · show Steps p.tables e below (T.setTop (mkF m 20 #[.val (.int x), .val (.int k)] [])) _
      refine XS.iloadN X.here hx rfl (hb hby d1_20) rfl ?_
      show Steps p.tables e below (T.setTop (mkF m 21 #[.val (.int x), .val (.int k)] [(.int k)])) _
      refine XS.bipush X.here hx rfl (hb hby d1_21) ?_
      show Steps p.tables e below (T.setTop (mkF m 23 #[.val (.int x), .val (.int k)] [(.int (52 : Int32)), (.int k)])) _
      refine XS.icmpYes X.here hx rfl (pc0 := 23) (pc' := 35) rfl (hb hby d1_23) rfl (flt (g : ¬ (k < (52 : Int32)))).2.1 (by decide) (by decide) ?_
      exact s35 o8 g
  have s8 : Steps p.tables e below (T.setTop (mkF m 8 #[.val (.int x), .val (.int k)] [])) (T.setFrames fs) := by
    by_cases g : k < (26 : Int32)
    · show Steps p.tables e below (T.setTop (mkF m 8 #[.val (.int x), .val (.int k)] [])) _
      refine XS.iloadN X.here hx rfl (hb hby d1_8) rfl ?_
      show Steps p.tables e below (T.setTop (mkF m 9 #[.val (.int x), .val (.int k)] [(.int k)])) _
      refine XS.bipush X.here hx rfl (hb hby d1_9) ?_
      show Steps p.tables e below (T.setTop (mkF m 11 #[.val (.int x), .val (.int k)] [(.int (26 : Int32)), (.int k)])) _
      refine XS.icmpNo X.here hx rfl (hb hby d1_11) rfl (tlt (g : k < (26 : Int32))).2.1 ?_
      show Steps p.tables e below (T.setTop (mkF m 14 #[.val (.int x), .val (.int k)] [])) _
      refine XS.bipush X.here hx rfl (hb hby d1_14) ?_
      show Steps p.tables e below (T.setTop (mkF m 16 #[.val (.int x), .val (.int k)] [(.int (97 : Int32))])) _
      refine XS.iloadN X.here hx rfl (hb hby d1_16) rfl ?_
      show Steps p.tables e below (T.setTop (mkF m 17 #[.val (.int x), .val (.int k)] [(.int k), (.int (97 : Int32))])) _
      refine XS.iadd X.here hx rfl (hb hby d1_17) rfl ?_
      show Steps p.tables e below (T.setTop (mkF m 18 #[.val (.int x), .val (.int k)] [(.int ((97 : Int32) + k))])) _
      refine XS.i2c X.here hx rfl (hb hby d1_18) rfl ?_
      show Steps p.tables e below (T.setTop (mkF m 19 #[.val (.int x), .val (.int k)] [(.int (((97 : Int32) + k).toUInt32.toUInt16.toUInt32.toInt32))])) _
      exact own_retN X hx (t := .char) (by rw [own_ch, if_pos g]; exact own_i2c_nar _) hret (by simp) (hb hby d1_19) hr
    · show Steps p.tables e below (T.setTop (mkF m 8 #[.val (.int x), .val (.int k)] [])) _
      refine XS.iloadN X.here hx rfl (hb hby d1_8) rfl ?_
      show Steps p.tables e below (T.setTop (mkF m 9 #[.val (.int x), .val (.int k)] [(.int k)])) _
      refine XS.bipush X.here hx rfl (hb hby d1_9) ?_
      show Steps p.tables e below (T.setTop (mkF m 11 #[.val (.int x), .val (.int k)] [(.int (26 : Int32)), (.int k)])) _
      refine XS.icmpYes X.here hx rfl (pc0 := 11) (pc' := 20) rfl (hb hby d1_11) rfl (flt (g : ¬ (k < (26 : Int32)))).2.1 (by decide) (by decide) ?_
      exact s20  g
  exact s8
theorem d1_0 : decode method_2_code 0 = .ok (.iload_n 0, 1) := by decide +kernel
theorem d1_1 : decode method_2_code 1 = .ok (.ldc 7, 2) := by decide +kernel
theorem d1_3 : decode method_2_code 3 = .ok (.iand, 1) := by decide +kernel
theorem d1_4 : decode method_2_code 4 = .ok (.bipush 67, 2) := by decide +kernel
theorem d1_6 : decode method_2_code 6 = .ok (.irem, 1) := by decide +kernel
theorem d1_7 : decode method_2_code 7 = .ok (.istore_n 1, 1) := by decide +kernel
theorem pnx_com_example_portunus_portunus_lock_LockNameOfPinLaw : plainName "com/example/portunus/portunus/lock/LockNameOfPinLaw" = true := by first | (simp [plainName, overriddenIn]; done) | decide +kernel
def Q_m1 (Z : State) (x : Int32) (h0 : Heap) (n0 : Nat) (v : Option Value) (h : Heap) (L : List Loc) : Prop := v = (some (.int (own_c x))) ∧ Fr n0 L ∧ h = h0
theorem ef_m1 (m : MethodId) (x : Int32) : entryFrame m #[(.int x)] 2 = mkF m 0 #[.val (.int x), .unset] [] := by first | (simp [entryFrame, mkF, argsToLocals, Value.category]; done) | rfl
set_option maxRecDepth 65536 in
set_option maxHeartbeats 40000000 in
theorem m1 (l : Launch) (Z : State) (a0 : Array Value) (hw : ∀ d ∈ tables_1, d.before a0 Z = true) (ws : List Jvm.Cond) (x : Int32) (h0 : Heap) (n0 : Nat) (Z0 : n0 ≤ h0.size)  :
    MetFree l (⟨"com/example/portunus/portunus/lock/LockNameOfPinLaw", "ch", "(I)C"⟩ : MethodName) (head1 (Jvm.Cond.code (⟨"com/example/portunus/portunus/lock/LockNameOfPinLaw", "ch", "(I)C"⟩ : MethodName) method_2_code 2 (some .char) :: ws) ({ frames := 0, cells := 0, slots := 0, locals := 0 } : Room)) (fun ar_ U => ar_ = #[(.int x)] ∧ Z.Warmed39 U.vm ∧ U.heap = h0) (fun _ _ _ _ _ => True) (fun _ U o U' => ∃ v L, o = .returned v ∧ Q_m1 Z x h0 n0 v U'.heap L ∧ FrameEnd U o U' L ({ frames := 0, cells := 0, slots := 0, locals := 0 } : Room).cells ({ frames := 0, cells := 0, slots := 0, locals := 0 } : Room).slots) := by
  refine MetFree.of_bodySF (plainFor_of_name pnx_com_example_portunus_portunus_lock_LockNameOfPinLaw) hisR ?_
  intro p e s m args below meth c s₁ Bd hml0 hP hK
  obtain ⟨rfl, hZ, hh⟩ := hP
  have hx := Bd.exec
  have hby := Bd.bytes
  have hml : c.maxLocals = 2 := hml0
  have hown : s.vm.findClass "com/example/portunus/portunus/lock/LockNameOfPinLaw" = some m.cls := findClass_of_methodNamed Bd.named
  have hnm := (name_of_methodNamed Bd.named Bd.method).1
  have X0 : Stand p l e ({ frames := 0, cells := 0, slots := 0, locals := 0 } : Room) s m #[(.int x)] below meth c s₁ [] 0 0 := Stand.of_body Bd
  have e0 : s₁.heap = h0 := by rw [← hh, Bd.state]; rfl
  have N0 := Fr.nil n0
  have pre0 : ∀ tq_, Steps p.tables e below (s₁.setTop (mkF m 0 #[.val (.int x), .unset] [])) tq_ → Steps p.tables e below (s₁.setTop (entryFrame m #[(.int x)] 2)) tq_ := fun tq_ kt_ => castTop (ef_m1 m x ) kt_
  obtain ⟨fs, hr, hrun, hended, hW, hsame⟩ := X0.leave (v := some (.int (own_c x))) (fun h => by rw [Bd.returns] at h; cases h)
  refine ⟨_, _, pre0 _ ?_, hrun, hended, _, _, rfl, ?_, ⟨_, rfl⟩, hW, hsame.mono (nle rfl) (nle rfl)⟩
  · show Steps p.tables e below (s₁.setTop (mkF m 0 #[.val (.int x), .unset] [])) _
    refine XS.iloadN X0.here hx rfl (hb hby d1_0) rfl ?_
    show Steps p.tables e below (s₁.setTop (mkF m 1 #[.val (.int x), .unset] [(.int x)])) _
    refine X0.ldcInt hx hown (mvT hZ (wk hw 4 rfl)) (g := (mkF m 1 #[.val (.int x), .unset] [(.int x)])) rfl (hb hby d1_1) _ ?_
    show Steps p.tables e below (s₁.setTop (mkF m 3 #[.val (.int x), .unset] [(.int (2147483647 : Int32)), (.int x)])) _
    refine XS.iand X0.here hx rfl (hb hby d1_3) rfl ?_
    show Steps p.tables e below (s₁.setTop (mkF m 4 #[.val (.int x), .unset] [(.int (x &&& (2147483647 : Int32)))])) _
    refine XS.bipush X0.here hx rfl (hb hby d1_4) ?_
    show Steps p.tables e below (s₁.setTop (mkF m 6 #[.val (.int x), .unset] [(.int (67 : Int32)), (.int (x &&& (2147483647 : Int32)))])) _
    refine iremM X0 hx rfl (hb hby d1_6) rfl (by decide) ?_
    show Steps p.tables e below (s₁.setTop (mkF m 7 #[.val (.int x), .unset] [(.int ((x &&& (2147483647 : Int32)) % (67 : Int32)))])) _
    refine XS.istoreN X0.here hx rfl (hb hby d1_7) rfl (l' := #[.val (.int x), .val (.int ((x &&& (2147483647 : Int32)) % (67 : Int32)))]) rfl ?_
    show Steps p.tables e below (s₁.setTop (mkF m 8 #[.val (.int x), .val (.int ((x &&& (2147483647 : Int32)) % (67 : Int32)))] [])) _
    exact own_chS X0 hx hby Bd.returns x (own_k x) hr
  · show Q_m1 Z x h0 n0 _ s₁.heap _
    exact ⟨rfl, N0, e0⟩
theorem pdx___C_V : parseMethodDescriptor "([C)V" = some ⟨[(.array .char)], none⟩ := by decide +kernel
theorem d2_0 : decode method_3_code 0 = .ok (.iload_n 0, 1) := by decide +kernel
theorem d2_1 : decode method_3_code 1 = .ok (.iconst 1, 1) := by decide +kernel
theorem d2_2 : decode method_3_code 2 = .ok (.if_icmp .ne 18, 3) := by decide +kernel
theorem d2_5 : decode method_3_code 5 = .ok (.new 8, 3) := by decide +kernel
theorem d2_8 : decode method_3_code 8 = .ok (.dup, 1) := by decide +kernel
theorem d2_9 : decode method_3_code 9 = .ok (.iconst 1, 1) := by decide +kernel
theorem d2_10 : decode method_3_code 10 = .ok (.newarray .char, 2) := by decide +kernel
theorem d2_12 : decode method_3_code 12 = .ok (.dup, 1) := by decide +kernel
theorem d2_13 : decode method_3_code 13 = .ok (.iconst 0, 1) := by decide +kernel
theorem d2_14 : decode method_3_code 14 = .ok (.iload_n 1, 1) := by decide +kernel
theorem d2_15 : decode method_3_code 15 = .ok (.castore, 1) := by decide +kernel
theorem d2_16 : decode method_3_code 16 = .ok (.invokespecial 10, 3) := by decide +kernel
theorem d2_19 : decode method_3_code 19 = .ok (.areturn, 1) := by decide +kernel
def Q_m2_1 (Z : State) (ch0 : Int32) (ch1 : Int32) (ch2 : Int32) (ch3 : Int32) (wcs : Int32) (h0 : Heap) (n0 : Nat) (v : Option Value) (h : Heap) (L : List Loc) : Prop := ∃ (a : Addr) (t : Addr) (k : ClassId), v = (some (.ref a)) ∧ Fr n0 L ∧ Keep h0 h [] ∧ Exa Z h a "java/lang/String" ∧ Fld Z h a "java/lang/String" "coder" "B" (.int (0 : Int32)) ∧ Fld Z h a "java/lang/String" "value" "[B" (.ref t) ∧ Arv Z h t k .byte (1 : Int32) [(.int (own_by ch0))] (.int (0 : Int32)) ∧ h0.size ≤ a
theorem ef_m2_1 (m : MethodId) (ch0 : Int32) (ch1 : Int32) (ch2 : Int32) (ch3 : Int32) (wcs : Int32) : entryFrame m #[(.int (1 : Int32)), (.int ch0), (.int ch1), (.int ch2), (.int ch3)] 5 = mkF m 0 #[.val (.int (1 : Int32)), .val (.int ch0), .val (.int ch1), .val (.int ch2), .val (.int ch3)] [] := by first | (simp [entryFrame, mkF, argsToLocals, Value.category]; done) | rfl
set_option maxRecDepth 65536 in
set_option maxHeartbeats 40000000 in
theorem m2_1 (l : Launch) (Z : State) (a0 : Array Value) (hw : ∀ d ∈ tables_1, d.before a0 Z = true) (ws : List Jvm.Cond) (ch0 : Int32) (ch1 : Int32) (ch2 : Int32) (ch3 : Int32) (wcs : Int32) (h0 : Heap) (n0 : Nat) (Z0 : n0 ≤ h0.size) (S_CS : Sta Z h0 "java/lang/String" "COMPACT_STRINGS" "Z" (.int wcs)) (ncs : ¬ (wcs = (0 : Int32))) (q0 : own_good ch0) :
    MetFree l (⟨"com/example/portunus/portunus/lock/LockNameOfPinLaw", "make", "(ICCCC)Ljava/lang/String;"⟩ : MethodName) (head1 (Jvm.Cond.code (⟨"com/example/portunus/portunus/lock/LockNameOfPinLaw", "make", "(ICCCC)Ljava/lang/String;"⟩ : MethodName) method_3_code 5 (some (.object "java/lang/String")) :: ws) ({ frames := 4, cells := 3, slots := 6, locals := 66 } : Room)) (fun ar_ U => ar_ = #[(.int (1 : Int32)), (.int ch0), (.int ch1), (.int ch2), (.int ch3)] ∧ Z.Warmed39 U.vm ∧ U.heap = h0) (fun _ _ _ _ _ => True) (fun _ U o U' => ∃ v L, o = .returned v ∧ Q_m2_1 Z ch0 ch1 ch2 ch3 wcs h0 n0 v U'.heap L ∧ FrameEnd U o U' L ({ frames := 4, cells := 3, slots := 6, locals := 66 } : Room).cells ({ frames := 4, cells := 3, slots := 6, locals := 66 } : Room).slots) := by
  refine MetFree.of_bodySF (plainFor_of_name pnx_com_example_portunus_portunus_lock_LockNameOfPinLaw) hisR ?_
  intro p e s m args below meth c s₁ Bd hml0 hP hK
  obtain ⟨rfl, hZ, hh⟩ := hP
  have hx := Bd.exec
  have hby := Bd.bytes
  have hml : c.maxLocals = 5 := hml0
  have hown : s.vm.findClass "com/example/portunus/portunus/lock/LockNameOfPinLaw" = some m.cls := findClass_of_methodNamed Bd.named
  have hnm := (name_of_methodNamed Bd.named Bd.method).1
  have X0 : Stand p l e ({ frames := 4, cells := 3, slots := 6, locals := 66 } : Room) s m #[(.int (1 : Int32)), (.int ch0), (.int ch1), (.int ch2), (.int ch3)] below meth c s₁ [] 0 0 := Stand.of_body Bd
  have e0 : s₁.heap = h0 := by rw [← hh, Bd.state]; rfl
  have N0 := Fr.nil n0
  have pre0 : ∀ tq_, Steps p.tables e below (s₁.setTop (mkF m 0 #[.val (.int (1 : Int32)), .val (.int ch0), .val (.int ch1), .val (.int ch2), .val (.int ch3)] [])) tq_ → Steps p.tables e below (s₁.setTop (entryFrame m #[(.int (1 : Int32)), (.int ch0), (.int ch1), (.int ch2), (.int ch3)] 5)) tq_ := fun tq_ kt_ => castTop (ef_m2_1 m ch0 ch1 ch2 ch3 wcs ) kt_
  obtain ⟨T1, h1, X1, e1, E1, A1, D1, -, st1⟩ := newO X0 hx hZ hown (wk hw 8 rfl) (wk hw 9 rfl) (wk hw 10 rfl) e0 (g := (mkF m 5 #[.val (.int (1 : Int32)), .val (.int ch0), .val (.int ch1), .val (.int ch2), .val (.int ch3)] [])) rfl (hb hby d2_5) (nle rfl) (nle rfl)
  obtain ⟨b1, g1⟩ : ∃ z, z = h0.size := ⟨_, rfl⟩
  rw [← g1] at A1 D1 st1
  have sz_b1 : h0.size ≤ b1 := (Nat.le_of_eq g1.symm)
  have ge_b1 : n0 ≤ b1 := Nat.le_trans Z0 sz_b1
  have K2 : Keep h0 h1 [] := (Keep.refl h0 []).ext E1
  have D1_coder := D1 (Or.inr (wk hw 35 rfl)) (ty := .byte) (by decide)
  have D1_value := D1 (Or.inr (wk hw 37 rfl)) (ty := (.array .byte)) (by decide)
  obtain ⟨T3, h3, k3, X3, e3, E3, A3, st3⟩ := newP X1 hx hZ (wk hw 11 rfl) e1 (g := (mkF m 10 #[.val (.int (1 : Int32)), .val (.int ch0), .val (.int ch1), .val (.int ch2), .val (.int ch3)] [(.int (1 : Int32)), (.ref b1), (.ref b1)])) rfl (hb hby d2_10) rfl (by decide) (cap := 1) (by decide) (by decide) (nle rfl) (nle rfl)
  obtain ⟨b3, g3⟩ : ∃ z, z = h1.size := ⟨_, rfl⟩
  rw [← g3] at A3 st3
  have V3 : Arv Z h3 b3 k3 .char (1 : Int32) [] (.int (0 : Int32)) := Arv.new A3 (by decide)
  have sz_b3 : h0.size ≤ b3 := Nat.le_trans K2.1 (Nat.le_of_eq g3.symm)
  have ge_b3 : n0 ≤ b3 := Nat.le_trans Z0 sz_b3
  have ne_4 : b1 ≠ b3 := Nat.ne_of_lt (Nat.lt_of_lt_of_le A1.lt (Nat.le_of_eq g3.symm))
  have K5 : Keep h0 h3 [] := K2.ext E3
  have V7 : Arv Z h3 b3 k3 .char (1 : Int32) [(.int (0 : Int32))] (.int (0 : Int32)) := V3.pad (pad_rep [] (.int (0 : Int32)) 1)
  obtain ⟨c6, A6, q6, S6, M6, H6, U6⟩ := id V7
  obtain ⟨T6, h6, X6, e6, W6, st6⟩ := stC X3 hx hZ e3 A6 (j := (0 : Int32)) (inb_of S6 ⟨(by decide : ¬ ((0 : Int32) < (0 : Int32))), (by decide : (0 : Int32) < (1 : Int32))⟩) (g := (mkF m 15 #[.val (.int (1 : Int32)), .val (.int ch0), .val (.int ch1), .val (.int ch2), .val (.int ch3)] [(.int ch0), (.int (0 : Int32)), (.ref b3), (.ref b3), (.ref b1), (.ref b1)])) rfl rfl (hb hby d2_15)
  have N6 := Fr.snoc X6 N0 ge_b3
  have V6 : Arv Z h6 b3 k3 .char (1 : Int32) [(.int (nar .char ch0))] (.int (0 : Int32)) := Arv.set A6 q6 S6 M6 H6 U6 (fits_nar_char _) W6 0 rfl (nle rfl)
  have K8 : Keep h0 h6 [] := K5.wr W6 (Or.inr sz_b3)
  have F10 := ((A1.ext E3).wr W6)
  have F11 := ((D1_value.ext E3).other W6 (Or.inl ne_4))
  have F12 := ((D1_coder.ext E3).other W6 (Or.inl ne_4))
  have F13 := (((S_CS.ext E1).ext E3).wr W6)
  have hws : ∀ d ∈ StrChars.Road.words, d.before a0 Z = true := fun d hd => hw d ((by decide +kernel : ∀ d ∈ StrChars.Road.words, d ∈ tables_1) d hd)
  have Vc9 : Arv Z h6 b3 k3 .char (1 : Int32) (([(nar .char ch0)] : List Int32).map Value.int) (.int (0 : Int32)) := V6
  have hp : ∀ c ∈ ([(nar .char ch0)] : List Int32), ¬ c < 0 ∧ ¬ (255 : Int32) < c := (own_mS q0.1 own_m0)
  obtain ⟨_, _, ⟨T9, L9, kk9, nn9⟩, -, X9, ⟨Lc9, hQ9, l9, y9, z9⟩, st9⟩ := X6.specialBack hx (y := (⟨"java/lang/String", "<init>", "([C)V"⟩ : MethodName)) rfl hown (mvT hZ (wk hw 12 rfl)) (mvT hZ (wk hw 13 rfl)) (mvT hZ (wk hw 14 rfl)) (by decide) (StrChars.Road.backV (W := 1) hZ hws (kI := 4) (wk hw 9 rfl) (cs := ([(nar .char ch0)] : List Int32)) (bs := ([(nar .char ch0)] : List Int32).map (fun c => c.toInt8.toInt32)) (n := 1) ge_b1 (Nat.le_trans Z0 K8.1) F10 F11 F12 Vc9 F13 ncs rfl rfl (by decide) (by decide) hp rfl (by decide) (by decide)) (g := (mkF m 16 #[.val (.int (1 : Int32)), .val (.int ch0), .val (.int ch1), .val (.int ch2), .val (.int ch3)] [(.ref b3), (.ref b1), (.ref b1)])) rfl (by rw [hml]; rfl) (Steps.refl _) (a := b1) (argsL := [(.ref b3)]) (rest := [(.ref b1)]) (lenOf pdx___C_V rfl) rfl (by show 2 * 0 + _ ≤ _; exact Nat.le_of_eq rfl) (hb hby d2_16) (fun _ _ => ⟨rfl, e6, nle rfl, nle rfl⟩)
  dsimp only [Pt.U, Pt.locs, Pt.cells, Pt.slots] at X9 l9 y9 z9 st9 hQ9
  subst l9 y9 z9
  obtain ⟨rfl, Nq9, Kq9, Ex9, Fc9, t9, kb9, -, fr9, -, Fv9, Av9⟩ := hQ9
  have N9 := Fr.app N6 Nq9
  obtain ⟨h9, e9⟩ : ∃ h, T9.heap = h := ⟨_, rfl⟩
  rw [e9] at Kq9 Ex9 Fc9 Fv9 Av9
  have sz_t9 : h0.size ≤ t9 := Nat.le_trans K8.1 fr9
  have ge_t9 : n0 ≤ t9 := Nat.le_trans Z0 sz_t9
  have ne_14 : b1 ≠ t9 := Nat.ne_of_lt (Nat.lt_of_lt_of_le F10.lt fr9)
  have ne_15 : b3 ≠ t9 := Nat.ne_of_lt (Nat.lt_of_lt_of_le V6.lt fr9)
  have K16 : Keep h0 h9 [] := K8.trans Kq9 (own_mS (Or.inr sz_b1) own_m0)
  have Av9 : Arv Z h9 t9 kb9 .byte (1 : Int32) [(.int (own_by ch0))] (.int (0 : Int32)) := Av9
  obtain ⟨fs, hr, hrun, hended, hW, hsame⟩ := X9.leave (v := some (.ref b1)) (fun h => by rw [Bd.returns] at h; cases h)
  refine ⟨_, _, pre0 _ ?_, hrun, hended, _, _, rfl, ?_, ⟨_, rfl⟩, hW, hsame.mono (nle rfl) (nle rfl)⟩
  · show Steps p.tables e below (s₁.setTop (mkF m 0 #[.val (.int (1 : Int32)), .val (.int ch0), .val (.int ch1), .val (.int ch2), .val (.int ch3)] [])) _
    refine XS.iloadN X0.here hx rfl (hb hby d2_0) rfl ?_
    show Steps p.tables e below (s₁.setTop (mkF m 1 #[.val (.int (1 : Int32)), .val (.int ch0), .val (.int ch1), .val (.int ch2), .val (.int ch3)] [(.int (1 : Int32))])) _
    refine XS.iconst X0.here hx rfl (hb hby d2_1) ?_
    show Steps p.tables e below (s₁.setTop (mkF m 2 #[.val (.int (1 : Int32)), .val (.int ch0), .val (.int ch1), .val (.int ch2), .val (.int ch3)] [(.int (1 : Int32)), (.int (1 : Int32))])) _
    refine XS.icmpNo X0.here hx rfl (hb hby d2_2) rfl (teq (by decide : (1 : Int32) = (1 : Int32))).2 ?_
    show Steps p.tables e below (s₁.setTop (mkF m 5 #[.val (.int (1 : Int32)), .val (.int ch0), .val (.int ch1), .val (.int ch2), .val (.int ch3)] [])) _
    refine st1 _ ?_
    show Steps p.tables e below (T1.setTop (mkF m 8 #[.val (.int (1 : Int32)), .val (.int ch0), .val (.int ch1), .val (.int ch2), .val (.int ch3)] [(.ref b1)])) _
    refine XS.dup X1.here hx rfl (hb hby d2_8) rfl rfl ?_
    show Steps p.tables e below (T1.setTop (mkF m 9 #[.val (.int (1 : Int32)), .val (.int ch0), .val (.int ch1), .val (.int ch2), .val (.int ch3)] [(.ref b1), (.ref b1)])) _
    refine XS.iconst X1.here hx rfl (hb hby d2_9) ?_
    show Steps p.tables e below (T1.setTop (mkF m 10 #[.val (.int (1 : Int32)), .val (.int ch0), .val (.int ch1), .val (.int ch2), .val (.int ch3)] [(.int (1 : Int32)), (.ref b1), (.ref b1)])) _
    refine st3 _ ?_
    show Steps p.tables e below (T3.setTop (mkF m 12 #[.val (.int (1 : Int32)), .val (.int ch0), .val (.int ch1), .val (.int ch2), .val (.int ch3)] [(.ref b3), (.ref b1), (.ref b1)])) _
    refine XS.dup X3.here hx rfl (hb hby d2_12) rfl rfl ?_
    show Steps p.tables e below (T3.setTop (mkF m 13 #[.val (.int (1 : Int32)), .val (.int ch0), .val (.int ch1), .val (.int ch2), .val (.int ch3)] [(.ref b3), (.ref b3), (.ref b1), (.ref b1)])) _
    refine XS.iconst X3.here hx rfl (hb hby d2_13) ?_
    show Steps p.tables e below (T3.setTop (mkF m 14 #[.val (.int (1 : Int32)), .val (.int ch0), .val (.int ch1), .val (.int ch2), .val (.int ch3)] [(.int (0 : Int32)), (.ref b3), (.ref b3), (.ref b1), (.ref b1)])) _
    refine XS.iloadN X3.here hx rfl (hb hby d2_14) rfl ?_
    show Steps p.tables e below (T3.setTop (mkF m 15 #[.val (.int (1 : Int32)), .val (.int ch0), .val (.int ch1), .val (.int ch2), .val (.int ch3)] [(.int ch0), (.int (0 : Int32)), (.ref b3), (.ref b3), (.ref b1), (.ref b1)])) _
    refine st6 _ ?_
    show Steps p.tables e below (T6.setTop (mkF m 16 #[.val (.int (1 : Int32)), .val (.int ch0), .val (.int ch1), .val (.int ch2), .val (.int ch3)] [(.ref b3), (.ref b1), (.ref b1)])) _
    refine st9.trans ?_
    show Steps p.tables e below (T9.setTop (mkF m 19 #[.val (.int (1 : Int32)), .val (.int ch0), .val (.int ch1), .val (.int ch2), .val (.int ch3)] [(.ref b1)])) _
    exact X9.areturnOut hx rfl Bd.returns rfl (hb hby d2_19) hr
  · show Q_m2_1 Z ch0 ch1 ch2 ch3 wcs h0 n0 _ T9.heap _
    rw [e9]
    exact ⟨b1, t9, kb9, rfl, N9, K16, Ex9, Fc9, Fv9, Av9, sz_b1⟩
theorem d2_20 : decode method_3_code 20 = .ok (.iload_n 0, 1) := by decide +kernel
theorem d2_21 : decode method_3_code 21 = .ok (.iconst 2, 1) := by decide +kernel
theorem d2_22 : decode method_3_code 22 = .ok (.if_icmp .ne 22, 3) := by decide +kernel
theorem d2_25 : decode method_3_code 25 = .ok (.new 8, 3) := by decide +kernel
theorem d2_28 : decode method_3_code 28 = .ok (.dup, 1) := by decide +kernel
theorem d2_29 : decode method_3_code 29 = .ok (.iconst 2, 1) := by decide +kernel
theorem d2_30 : decode method_3_code 30 = .ok (.newarray .char, 2) := by decide +kernel
theorem d2_32 : decode method_3_code 32 = .ok (.dup, 1) := by decide +kernel
theorem d2_33 : decode method_3_code 33 = .ok (.iconst 0, 1) := by decide +kernel
theorem d2_34 : decode method_3_code 34 = .ok (.iload_n 1, 1) := by decide +kernel
theorem d2_35 : decode method_3_code 35 = .ok (.castore, 1) := by decide +kernel
theorem d2_36 : decode method_3_code 36 = .ok (.dup, 1) := by decide +kernel
theorem d2_37 : decode method_3_code 37 = .ok (.iconst 1, 1) := by decide +kernel
theorem d2_38 : decode method_3_code 38 = .ok (.iload_n 2, 1) := by decide +kernel
theorem d2_39 : decode method_3_code 39 = .ok (.castore, 1) := by decide +kernel
theorem d2_40 : decode method_3_code 40 = .ok (.invokespecial 10, 3) := by decide +kernel
theorem d2_43 : decode method_3_code 43 = .ok (.areturn, 1) := by decide +kernel
def Q_m2_2 (Z : State) (ch0 : Int32) (ch1 : Int32) (ch2 : Int32) (ch3 : Int32) (wcs : Int32) (h0 : Heap) (n0 : Nat) (v : Option Value) (h : Heap) (L : List Loc) : Prop := ∃ (a : Addr) (t : Addr) (k : ClassId), v = (some (.ref a)) ∧ Fr n0 L ∧ Keep h0 h [] ∧ Exa Z h a "java/lang/String" ∧ Fld Z h a "java/lang/String" "coder" "B" (.int (0 : Int32)) ∧ Fld Z h a "java/lang/String" "value" "[B" (.ref t) ∧ Arv Z h t k .byte (2 : Int32) [(.int (own_by ch0)), (.int (own_by ch1))] (.int (0 : Int32)) ∧ h0.size ≤ a
theorem ef_m2_2 (m : MethodId) (ch0 : Int32) (ch1 : Int32) (ch2 : Int32) (ch3 : Int32) (wcs : Int32) : entryFrame m #[(.int (2 : Int32)), (.int ch0), (.int ch1), (.int ch2), (.int ch3)] 5 = mkF m 0 #[.val (.int (2 : Int32)), .val (.int ch0), .val (.int ch1), .val (.int ch2), .val (.int ch3)] [] := by first | (simp [entryFrame, mkF, argsToLocals, Value.category]; done) | rfl
set_option maxRecDepth 65536 in
set_option maxHeartbeats 40000000 in
theorem m2_2 (l : Launch) (Z : State) (a0 : Array Value) (hw : ∀ d ∈ tables_1, d.before a0 Z = true) (ws : List Jvm.Cond) (ch0 : Int32) (ch1 : Int32) (ch2 : Int32) (ch3 : Int32) (wcs : Int32) (h0 : Heap) (n0 : Nat) (Z0 : n0 ≤ h0.size) (S_CS : Sta Z h0 "java/lang/String" "COMPACT_STRINGS" "Z" (.int wcs)) (ncs : ¬ (wcs = (0 : Int32))) (q0 : own_good ch0) (q1 : own_good ch1) :
    MetFree l (⟨"com/example/portunus/portunus/lock/LockNameOfPinLaw", "make", "(ICCCC)Ljava/lang/String;"⟩ : MethodName) (head1 (Jvm.Cond.code (⟨"com/example/portunus/portunus/lock/LockNameOfPinLaw", "make", "(ICCCC)Ljava/lang/String;"⟩ : MethodName) method_3_code 5 (some (.object "java/lang/String")) :: ws) ({ frames := 4, cells := 3, slots := 8, locals := 66 } : Room)) (fun ar_ U => ar_ = #[(.int (2 : Int32)), (.int ch0), (.int ch1), (.int ch2), (.int ch3)] ∧ Z.Warmed39 U.vm ∧ U.heap = h0) (fun _ _ _ _ _ => True) (fun _ U o U' => ∃ v L, o = .returned v ∧ Q_m2_2 Z ch0 ch1 ch2 ch3 wcs h0 n0 v U'.heap L ∧ FrameEnd U o U' L ({ frames := 4, cells := 3, slots := 8, locals := 66 } : Room).cells ({ frames := 4, cells := 3, slots := 8, locals := 66 } : Room).slots) := by
  refine MetFree.of_bodySF (plainFor_of_name pnx_com_example_portunus_portunus_lock_LockNameOfPinLaw) hisR ?_
  intro p e s m args below meth c s₁ Bd hml0 hP hK
  obtain ⟨rfl, hZ, hh⟩ := hP
  have hx := Bd.exec
  have hby := Bd.bytes
  have hml : c.maxLocals = 5 := hml0
  have hown : s.vm.findClass "com/example/portunus/portunus/lock/LockNameOfPinLaw" = some m.cls := findClass_of_methodNamed Bd.named
  have hnm := (name_of_methodNamed Bd.named Bd.method).1
  have X0 : Stand p l e ({ frames := 4, cells := 3, slots := 8, locals := 66 } : Room) s m #[(.int (2 : Int32)), (.int ch0), (.int ch1), (.int ch2), (.int ch3)] below meth c s₁ [] 0 0 := Stand.of_body Bd
  have e0 : s₁.heap = h0 := by rw [← hh, Bd.state]; rfl
  have N0 := Fr.nil n0
  have pre0 : ∀ tq_, Steps p.tables e below (s₁.setTop (mkF m 0 #[.val (.int (2 : Int32)), .val (.int ch0), .val (.int ch1), .val (.int ch2), .val (.int ch3)] [])) tq_ → Steps p.tables e below (s₁.setTop (entryFrame m #[(.int (2 : Int32)), (.int ch0), (.int ch1), (.int ch2), (.int ch3)] 5)) tq_ := fun tq_ kt_ => castTop (ef_m2_2 m ch0 ch1 ch2 ch3 wcs ) kt_
  obtain ⟨T1, h1, X1, e1, E1, A1, D1, -, st1⟩ := newO X0 hx hZ hown (wk hw 8 rfl) (wk hw 9 rfl) (wk hw 10 rfl) e0 (g := (mkF m 25 #[.val (.int (2 : Int32)), .val (.int ch0), .val (.int ch1), .val (.int ch2), .val (.int ch3)] [])) rfl (hb hby d2_25) (nle rfl) (nle rfl)
  obtain ⟨b1, g1⟩ : ∃ z, z = h0.size := ⟨_, rfl⟩
  rw [← g1] at A1 D1 st1
  have sz_b1 : h0.size ≤ b1 := (Nat.le_of_eq g1.symm)
  have ge_b1 : n0 ≤ b1 := Nat.le_trans Z0 sz_b1
  have K2 : Keep h0 h1 [] := (Keep.refl h0 []).ext E1
  have D1_coder := D1 (Or.inr (wk hw 35 rfl)) (ty := .byte) (by decide)
  have D1_value := D1 (Or.inr (wk hw 37 rfl)) (ty := (.array .byte)) (by decide)
  obtain ⟨T3, h3, k3, X3, e3, E3, A3, st3⟩ := newP X1 hx hZ (wk hw 11 rfl) e1 (g := (mkF m 30 #[.val (.int (2 : Int32)), .val (.int ch0), .val (.int ch1), .val (.int ch2), .val (.int ch3)] [(.int (2 : Int32)), (.ref b1), (.ref b1)])) rfl (hb hby d2_30) rfl (by decide) (cap := 2) (by decide) (by decide) (nle rfl) (nle rfl)
  obtain ⟨b3, g3⟩ : ∃ z, z = h1.size := ⟨_, rfl⟩
  rw [← g3] at A3 st3
  have V3 : Arv Z h3 b3 k3 .char (2 : Int32) [] (.int (0 : Int32)) := Arv.new A3 (by decide)
  have sz_b3 : h0.size ≤ b3 := Nat.le_trans K2.1 (Nat.le_of_eq g3.symm)
  have ge_b3 : n0 ≤ b3 := Nat.le_trans Z0 sz_b3
  have ne_4 : b1 ≠ b3 := Nat.ne_of_lt (Nat.lt_of_lt_of_le A1.lt (Nat.le_of_eq g3.symm))
  have K5 : Keep h0 h3 [] := K2.ext E3
  have V7 : Arv Z h3 b3 k3 .char (2 : Int32) [(.int (0 : Int32))] (.int (0 : Int32)) := V3.pad (pad_rep [] (.int (0 : Int32)) 1)
  obtain ⟨c6, A6, q6, S6, M6, H6, U6⟩ := id V7
  obtain ⟨T6, h6, X6, e6, W6, st6⟩ := stC X3 hx hZ e3 A6 (j := (0 : Int32)) (inb_of S6 ⟨(by decide : ¬ ((0 : Int32) < (0 : Int32))), (by decide : (0 : Int32) < (2 : Int32))⟩) (g := (mkF m 35 #[.val (.int (2 : Int32)), .val (.int ch0), .val (.int ch1), .val (.int ch2), .val (.int ch3)] [(.int ch0), (.int (0 : Int32)), (.ref b3), (.ref b3), (.ref b1), (.ref b1)])) rfl rfl (hb hby d2_35)
  have N6 := Fr.snoc X6 N0 ge_b3
  have V6 : Arv Z h6 b3 k3 .char (2 : Int32) [(.int (nar .char ch0))] (.int (0 : Int32)) := Arv.set A6 q6 S6 M6 H6 U6 (fits_nar_char _) W6 0 rfl (nle rfl)
  have K8 : Keep h0 h6 [] := K5.wr W6 (Or.inr sz_b3)
  have V10 : Arv Z h6 b3 k3 .char (2 : Int32) [(.int (nar .char ch0)), (.int (0 : Int32))] (.int (0 : Int32)) := V6.pad (pad_rep [(.int (nar .char ch0))] (.int (0 : Int32)) 1)
  obtain ⟨c9, A9, q9, S9, M9, H9, U9⟩ := id V10
  obtain ⟨T9, h9, X9, e9, W9, st9⟩ := stC X6 hx hZ e6 A9 (j := (1 : Int32)) (inb_of S9 ⟨(by decide : ¬ ((1 : Int32) < (0 : Int32))), (by decide : (1 : Int32) < (2 : Int32))⟩) (g := (mkF m 39 #[.val (.int (2 : Int32)), .val (.int ch0), .val (.int ch1), .val (.int ch2), .val (.int ch3)] [(.int ch1), (.int (1 : Int32)), (.ref b3), (.ref b3), (.ref b1), (.ref b1)])) rfl rfl (hb hby d2_39)
  have N9 := Fr.snoc X9 N6 ge_b3
  have V9 : Arv Z h9 b3 k3 .char (2 : Int32) [(.int (nar .char ch0)), (.int (nar .char ch1))] (.int (0 : Int32)) := Arv.set A9 q9 S9 M9 H9 U9 (fits_nar_char _) W9 1 rfl (nle rfl)
  have K11 : Keep h0 h9 [] := K8.wr W9 (Or.inr sz_b3)
  have F13 := (((A1.ext E3).wr W6).wr W9)
  have F14 := (((D1_value.ext E3).other W6 (Or.inl ne_4)).other W9 (Or.inl ne_4))
  have F15 := (((D1_coder.ext E3).other W6 (Or.inl ne_4)).other W9 (Or.inl ne_4))
  have F16 := ((((S_CS.ext E1).ext E3).wr W6).wr W9)
  have hws : ∀ d ∈ StrChars.Road.words, d.before a0 Z = true := fun d hd => hw d ((by decide +kernel : ∀ d ∈ StrChars.Road.words, d ∈ tables_1) d hd)
  have Vc12 : Arv Z h9 b3 k3 .char (2 : Int32) (([(nar .char ch0), (nar .char ch1)] : List Int32).map Value.int) (.int (0 : Int32)) := V9
  have hp : ∀ c ∈ ([(nar .char ch0), (nar .char ch1)] : List Int32), ¬ c < 0 ∧ ¬ (255 : Int32) < c := (own_mS q0.1 (own_mS q1.1 own_m0))
  obtain ⟨_, _, ⟨T12, L12, kk12, nn12⟩, -, X12, ⟨Lc12, hQ12, l12, y12, z12⟩, st12⟩ := X9.specialBack hx (y := (⟨"java/lang/String", "<init>", "([C)V"⟩ : MethodName)) rfl hown (mvT hZ (wk hw 12 rfl)) (mvT hZ (wk hw 13 rfl)) (mvT hZ (wk hw 14 rfl)) (by decide) (StrChars.Road.backV (W := 1) hZ hws (kI := 4) (wk hw 9 rfl) (cs := ([(nar .char ch0), (nar .char ch1)] : List Int32)) (bs := ([(nar .char ch0), (nar .char ch1)] : List Int32).map (fun c => c.toInt8.toInt32)) (n := 2) ge_b1 (Nat.le_trans Z0 K11.1) F13 F14 F15 Vc12 F16 ncs rfl rfl (by decide) (by decide) hp rfl (by decide) (by decide)) (g := (mkF m 40 #[.val (.int (2 : Int32)), .val (.int ch0), .val (.int ch1), .val (.int ch2), .val (.int ch3)] [(.ref b3), (.ref b1), (.ref b1)])) rfl (by rw [hml]; rfl) (Steps.refl _) (a := b1) (argsL := [(.ref b3)]) (rest := [(.ref b1)]) (lenOf pdx___C_V rfl) rfl (by show 2 * 0 + _ ≤ _; exact Nat.le_of_eq rfl) (hb hby d2_40) (fun _ _ => ⟨rfl, e9, nle rfl, nle rfl⟩)
  dsimp only [Pt.U, Pt.locs, Pt.cells, Pt.slots] at X12 l12 y12 z12 st12 hQ12
  subst l12 y12 z12
  obtain ⟨rfl, Nq12, Kq12, Ex12, Fc12, t12, kb12, -, fr12, -, Fv12, Av12⟩ := hQ12
  have N12 := Fr.app N9 Nq12
  obtain ⟨h12, e12⟩ : ∃ h, T12.heap = h := ⟨_, rfl⟩
  rw [e12] at Kq12 Ex12 Fc12 Fv12 Av12
  have sz_t12 : h0.size ≤ t12 := Nat.le_trans K11.1 fr12
  have ge_t12 : n0 ≤ t12 := Nat.le_trans Z0 sz_t12
  have ne_17 : b1 ≠ t12 := Nat.ne_of_lt (Nat.lt_of_lt_of_le F13.lt fr12)
  have ne_18 : b3 ≠ t12 := Nat.ne_of_lt (Nat.lt_of_lt_of_le V9.lt fr12)
  have K19 : Keep h0 h12 [] := K11.trans Kq12 (own_mS (Or.inr sz_b1) own_m0)
  have Av12 : Arv Z h12 t12 kb12 .byte (2 : Int32) [(.int (own_by ch0)), (.int (own_by ch1))] (.int (0 : Int32)) := Av12
  obtain ⟨fs, hr, hrun, hended, hW, hsame⟩ := X12.leave (v := some (.ref b1)) (fun h => by rw [Bd.returns] at h; cases h)
  refine ⟨_, _, pre0 _ ?_, hrun, hended, _, _, rfl, ?_, ⟨_, rfl⟩, hW, hsame.mono (nle rfl) (nle rfl)⟩
  · show Steps p.tables e below (s₁.setTop (mkF m 0 #[.val (.int (2 : Int32)), .val (.int ch0), .val (.int ch1), .val (.int ch2), .val (.int ch3)] [])) _
    refine XS.iloadN X0.here hx rfl (hb hby d2_0) rfl ?_
    show Steps p.tables e below (s₁.setTop (mkF m 1 #[.val (.int (2 : Int32)), .val (.int ch0), .val (.int ch1), .val (.int ch2), .val (.int ch3)] [(.int (2 : Int32))])) _
    refine XS.iconst X0.here hx rfl (hb hby d2_1) ?_
    show Steps p.tables e below (s₁.setTop (mkF m 2 #[.val (.int (2 : Int32)), .val (.int ch0), .val (.int ch1), .val (.int ch2), .val (.int ch3)] [(.int (1 : Int32)), (.int (2 : Int32))])) _
    refine XS.icmpYes X0.here hx rfl (pc0 := 2) (pc' := 20) rfl (hb hby d2_2) rfl (feq (by decide : ¬ ((2 : Int32) = (1 : Int32)))).2 (by decide) (by decide) ?_
    show Steps p.tables e below (s₁.setTop (mkF m 20 #[.val (.int (2 : Int32)), .val (.int ch0), .val (.int ch1), .val (.int ch2), .val (.int ch3)] [])) _
    refine XS.iloadN X0.here hx rfl (hb hby d2_20) rfl ?_
    show Steps p.tables e below (s₁.setTop (mkF m 21 #[.val (.int (2 : Int32)), .val (.int ch0), .val (.int ch1), .val (.int ch2), .val (.int ch3)] [(.int (2 : Int32))])) _
    refine XS.iconst X0.here hx rfl (hb hby d2_21) ?_
    show Steps p.tables e below (s₁.setTop (mkF m 22 #[.val (.int (2 : Int32)), .val (.int ch0), .val (.int ch1), .val (.int ch2), .val (.int ch3)] [(.int (2 : Int32)), (.int (2 : Int32))])) _
    refine XS.icmpNo X0.here hx rfl (hb hby d2_22) rfl (teq (by decide : (2 : Int32) = (2 : Int32))).2 ?_
    show Steps p.tables e below (s₁.setTop (mkF m 25 #[.val (.int (2 : Int32)), .val (.int ch0), .val (.int ch1), .val (.int ch2), .val (.int ch3)] [])) _
    refine st1 _ ?_
    show Steps p.tables e below (T1.setTop (mkF m 28 #[.val (.int (2 : Int32)), .val (.int ch0), .val (.int ch1), .val (.int ch2), .val (.int ch3)] [(.ref b1)])) _
    refine XS.dup X1.here hx rfl (hb hby d2_28) rfl rfl ?_
    show Steps p.tables e below (T1.setTop (mkF m 29 #[.val (.int (2 : Int32)), .val (.int ch0), .val (.int ch1), .val (.int ch2), .val (.int ch3)] [(.ref b1), (.ref b1)])) _
    refine XS.iconst X1.here hx rfl (hb hby d2_29) ?_
    show Steps p.tables e below (T1.setTop (mkF m 30 #[.val (.int (2 : Int32)), .val (.int ch0), .val (.int ch1), .val (.int ch2), .val (.int ch3)] [(.int (2 : Int32)), (.ref b1), (.ref b1)])) _
    refine st3 _ ?_
    show Steps p.tables e below (T3.setTop (mkF m 32 #[.val (.int (2 : Int32)), .val (.int ch0), .val (.int ch1), .val (.int ch2), .val (.int ch3)] [(.ref b3), (.ref b1), (.ref b1)])) _
    refine XS.dup X3.here hx rfl (hb hby d2_32) rfl rfl ?_
    show Steps p.tables e below (T3.setTop (mkF m 33 #[.val (.int (2 : Int32)), .val (.int ch0), .val (.int ch1), .val (.int ch2), .val (.int ch3)] [(.ref b3), (.ref b3), (.ref b1), (.ref b1)])) _
    refine XS.iconst X3.here hx rfl (hb hby d2_33) ?_
    show Steps p.tables e below (T3.setTop (mkF m 34 #[.val (.int (2 : Int32)), .val (.int ch0), .val (.int ch1), .val (.int ch2), .val (.int ch3)] [(.int (0 : Int32)), (.ref b3), (.ref b3), (.ref b1), (.ref b1)])) _
    refine XS.iloadN X3.here hx rfl (hb hby d2_34) rfl ?_
    show Steps p.tables e below (T3.setTop (mkF m 35 #[.val (.int (2 : Int32)), .val (.int ch0), .val (.int ch1), .val (.int ch2), .val (.int ch3)] [(.int ch0), (.int (0 : Int32)), (.ref b3), (.ref b3), (.ref b1), (.ref b1)])) _
    refine st6 _ ?_
    show Steps p.tables e below (T6.setTop (mkF m 36 #[.val (.int (2 : Int32)), .val (.int ch0), .val (.int ch1), .val (.int ch2), .val (.int ch3)] [(.ref b3), (.ref b1), (.ref b1)])) _
    refine XS.dup X6.here hx rfl (hb hby d2_36) rfl rfl ?_
    show Steps p.tables e below (T6.setTop (mkF m 37 #[.val (.int (2 : Int32)), .val (.int ch0), .val (.int ch1), .val (.int ch2), .val (.int ch3)] [(.ref b3), (.ref b3), (.ref b1), (.ref b1)])) _
    refine XS.iconst X6.here hx rfl (hb hby d2_37) ?_
    show Steps p.tables e below (T6.setTop (mkF m 38 #[.val (.int (2 : Int32)), .val (.int ch0), .val (.int ch1), .val (.int ch2), .val (.int ch3)] [(.int (1 : Int32)), (.ref b3), (.ref b3), (.ref b1), (.ref b1)])) _
    refine XS.iloadN X6.here hx rfl (hb hby d2_38) rfl ?_
    show Steps p.tables e below (T6.setTop (mkF m 39 #[.val (.int (2 : Int32)), .val (.int ch0), .val (.int ch1), .val (.int ch2), .val (.int ch3)] [(.int ch1), (.int (1 : Int32)), (.ref b3), (.ref b3), (.ref b1), (.ref b1)])) _
    refine st9 _ ?_
    show Steps p.tables e below (T9.setTop (mkF m 40 #[.val (.int (2 : Int32)), .val (.int ch0), .val (.int ch1), .val (.int ch2), .val (.int ch3)] [(.ref b3), (.ref b1), (.ref b1)])) _
    refine st12.trans ?_
    show Steps p.tables e below (T12.setTop (mkF m 43 #[.val (.int (2 : Int32)), .val (.int ch0), .val (.int ch1), .val (.int ch2), .val (.int ch3)] [(.ref b1)])) _
    exact X12.areturnOut hx rfl Bd.returns rfl (hb hby d2_43) hr
  · show Q_m2_2 Z ch0 ch1 ch2 ch3 wcs h0 n0 _ T12.heap _
    rw [e12]
    exact ⟨b1, t12, kb12, rfl, N12, K19, Ex12, Fc12, Fv12, Av12, sz_b1⟩
theorem d2_44 : decode method_3_code 44 = .ok (.iload_n 0, 1) := by decide +kernel
theorem d2_45 : decode method_3_code 45 = .ok (.iconst 3, 1) := by decide +kernel
theorem d2_46 : decode method_3_code 46 = .ok (.if_icmp .ne 26, 3) := by decide +kernel
theorem d2_49 : decode method_3_code 49 = .ok (.new 8, 3) := by decide +kernel
theorem d2_52 : decode method_3_code 52 = .ok (.dup, 1) := by decide +kernel
theorem d2_53 : decode method_3_code 53 = .ok (.iconst 3, 1) := by decide +kernel
theorem d2_54 : decode method_3_code 54 = .ok (.newarray .char, 2) := by decide +kernel
theorem d2_56 : decode method_3_code 56 = .ok (.dup, 1) := by decide +kernel
theorem d2_57 : decode method_3_code 57 = .ok (.iconst 0, 1) := by decide +kernel
theorem d2_58 : decode method_3_code 58 = .ok (.iload_n 1, 1) := by decide +kernel
theorem d2_59 : decode method_3_code 59 = .ok (.castore, 1) := by decide +kernel
theorem d2_60 : decode method_3_code 60 = .ok (.dup, 1) := by decide +kernel
theorem d2_61 : decode method_3_code 61 = .ok (.iconst 1, 1) := by decide +kernel
theorem d2_62 : decode method_3_code 62 = .ok (.iload_n 2, 1) := by decide +kernel
theorem d2_63 : decode method_3_code 63 = .ok (.castore, 1) := by decide +kernel
theorem d2_64 : decode method_3_code 64 = .ok (.dup, 1) := by decide +kernel
theorem d2_65 : decode method_3_code 65 = .ok (.iconst 2, 1) := by decide +kernel
theorem d2_66 : decode method_3_code 66 = .ok (.iload_n 3, 1) := by decide +kernel
theorem d2_67 : decode method_3_code 67 = .ok (.castore, 1) := by decide +kernel
theorem d2_68 : decode method_3_code 68 = .ok (.invokespecial 10, 3) := by decide +kernel
theorem d2_71 : decode method_3_code 71 = .ok (.areturn, 1) := by decide +kernel
def Q_m2_3 (Z : State) (ch0 : Int32) (ch1 : Int32) (ch2 : Int32) (ch3 : Int32) (wcs : Int32) (h0 : Heap) (n0 : Nat) (v : Option Value) (h : Heap) (L : List Loc) : Prop := ∃ (a : Addr) (t : Addr) (k : ClassId), v = (some (.ref a)) ∧ Fr n0 L ∧ Keep h0 h [] ∧ Exa Z h a "java/lang/String" ∧ Fld Z h a "java/lang/String" "coder" "B" (.int (0 : Int32)) ∧ Fld Z h a "java/lang/String" "value" "[B" (.ref t) ∧ Arv Z h t k .byte (3 : Int32) [(.int (own_by ch0)), (.int (own_by ch1)), (.int (own_by ch2))] (.int (0 : Int32)) ∧ h0.size ≤ a
theorem ef_m2_3 (m : MethodId) (ch0 : Int32) (ch1 : Int32) (ch2 : Int32) (ch3 : Int32) (wcs : Int32) : entryFrame m #[(.int (3 : Int32)), (.int ch0), (.int ch1), (.int ch2), (.int ch3)] 5 = mkF m 0 #[.val (.int (3 : Int32)), .val (.int ch0), .val (.int ch1), .val (.int ch2), .val (.int ch3)] [] := by first | (simp [entryFrame, mkF, argsToLocals, Value.category]; done) | rfl
set_option maxRecDepth 65536 in
set_option maxHeartbeats 40000000 in
theorem m2_3 (l : Launch) (Z : State) (a0 : Array Value) (hw : ∀ d ∈ tables_1, d.before a0 Z = true) (ws : List Jvm.Cond) (ch0 : Int32) (ch1 : Int32) (ch2 : Int32) (ch3 : Int32) (wcs : Int32) (h0 : Heap) (n0 : Nat) (Z0 : n0 ≤ h0.size) (S_CS : Sta Z h0 "java/lang/String" "COMPACT_STRINGS" "Z" (.int wcs)) (ncs : ¬ (wcs = (0 : Int32))) (q0 : own_good ch0) (q1 : own_good ch1) (q2 : own_good ch2) :
    MetFree l (⟨"com/example/portunus/portunus/lock/LockNameOfPinLaw", "make", "(ICCCC)Ljava/lang/String;"⟩ : MethodName) (head1 (Jvm.Cond.code (⟨"com/example/portunus/portunus/lock/LockNameOfPinLaw", "make", "(ICCCC)Ljava/lang/String;"⟩ : MethodName) method_3_code 5 (some (.object "java/lang/String")) :: ws) ({ frames := 4, cells := 3, slots := 10, locals := 66 } : Room)) (fun ar_ U => ar_ = #[(.int (3 : Int32)), (.int ch0), (.int ch1), (.int ch2), (.int ch3)] ∧ Z.Warmed39 U.vm ∧ U.heap = h0) (fun _ _ _ _ _ => True) (fun _ U o U' => ∃ v L, o = .returned v ∧ Q_m2_3 Z ch0 ch1 ch2 ch3 wcs h0 n0 v U'.heap L ∧ FrameEnd U o U' L ({ frames := 4, cells := 3, slots := 10, locals := 66 } : Room).cells ({ frames := 4, cells := 3, slots := 10, locals := 66 } : Room).slots) := by
  refine MetFree.of_bodySF (plainFor_of_name pnx_com_example_portunus_portunus_lock_LockNameOfPinLaw) hisR ?_
  intro p e s m args below meth c s₁ Bd hml0 hP hK
  obtain ⟨rfl, hZ, hh⟩ := hP
  have hx := Bd.exec
  have hby := Bd.bytes
  have hml : c.maxLocals = 5 := hml0
  have hown : s.vm.findClass "com/example/portunus/portunus/lock/LockNameOfPinLaw" = some m.cls := findClass_of_methodNamed Bd.named
  have hnm := (name_of_methodNamed Bd.named Bd.method).1
  have X0 : Stand p l e ({ frames := 4, cells := 3, slots := 10, locals := 66 } : Room) s m #[(.int (3 : Int32)), (.int ch0), (.int ch1), (.int ch2), (.int ch3)] below meth c s₁ [] 0 0 := Stand.of_body Bd
  have e0 : s₁.heap = h0 := by rw [← hh, Bd.state]; rfl
  have N0 := Fr.nil n0
  have pre0 : ∀ tq_, Steps p.tables e below (s₁.setTop (mkF m 0 #[.val (.int (3 : Int32)), .val (.int ch0), .val (.int ch1), .val (.int ch2), .val (.int ch3)] [])) tq_ → Steps p.tables e below (s₁.setTop (entryFrame m #[(.int (3 : Int32)), (.int ch0), (.int ch1), (.int ch2), (.int ch3)] 5)) tq_ := fun tq_ kt_ => castTop (ef_m2_3 m ch0 ch1 ch2 ch3 wcs ) kt_
  obtain ⟨T1, h1, X1, e1, E1, A1, D1, -, st1⟩ := newO X0 hx hZ hown (wk hw 8 rfl) (wk hw 9 rfl) (wk hw 10 rfl) e0 (g := (mkF m 49 #[.val (.int (3 : Int32)), .val (.int ch0), .val (.int ch1), .val (.int ch2), .val (.int ch3)] [])) rfl (hb hby d2_49) (nle rfl) (nle rfl)
  obtain ⟨b1, g1⟩ : ∃ z, z = h0.size := ⟨_, rfl⟩
  rw [← g1] at A1 D1 st1
  have sz_b1 : h0.size ≤ b1 := (Nat.le_of_eq g1.symm)
  have ge_b1 : n0 ≤ b1 := Nat.le_trans Z0 sz_b1
  have K2 : Keep h0 h1 [] := (Keep.refl h0 []).ext E1
  have D1_coder := D1 (Or.inr (wk hw 35 rfl)) (ty := .byte) (by decide)
  have D1_value := D1 (Or.inr (wk hw 37 rfl)) (ty := (.array .byte)) (by decide)
  obtain ⟨T3, h3, k3, X3, e3, E3, A3, st3⟩ := newP X1 hx hZ (wk hw 11 rfl) e1 (g := (mkF m 54 #[.val (.int (3 : Int32)), .val (.int ch0), .val (.int ch1), .val (.int ch2), .val (.int ch3)] [(.int (3 : Int32)), (.ref b1), (.ref b1)])) rfl (hb hby d2_54) rfl (by decide) (cap := 3) (by decide) (by decide) (nle rfl) (nle rfl)
  obtain ⟨b3, g3⟩ : ∃ z, z = h1.size := ⟨_, rfl⟩
  rw [← g3] at A3 st3
  have V3 : Arv Z h3 b3 k3 .char (3 : Int32) [] (.int (0 : Int32)) := Arv.new A3 (by decide)
  have sz_b3 : h0.size ≤ b3 := Nat.le_trans K2.1 (Nat.le_of_eq g3.symm)
  have ge_b3 : n0 ≤ b3 := Nat.le_trans Z0 sz_b3
  have ne_4 : b1 ≠ b3 := Nat.ne_of_lt (Nat.lt_of_lt_of_le A1.lt (Nat.le_of_eq g3.symm))
  have K5 : Keep h0 h3 [] := K2.ext E3
  have V7 : Arv Z h3 b3 k3 .char (3 : Int32) [(.int (0 : Int32))] (.int (0 : Int32)) := V3.pad (pad_rep [] (.int (0 : Int32)) 1)
  obtain ⟨c6, A6, q6, S6, M6, H6, U6⟩ := id V7
  obtain ⟨T6, h6, X6, e6, W6, st6⟩ := stC X3 hx hZ e3 A6 (j := (0 : Int32)) (inb_of S6 ⟨(by decide : ¬ ((0 : Int32) < (0 : Int32))), (by decide : (0 : Int32) < (3 : Int32))⟩) (g := (mkF m 59 #[.val (.int (3 : Int32)), .val (.int ch0), .val (.int ch1), .val (.int ch2), .val (.int ch3)] [(.int ch0), (.int (0 : Int32)), (.ref b3), (.ref b3), (.ref b1), (.ref b1)])) rfl rfl (hb hby d2_59)
  have N6 := Fr.snoc X6 N0 ge_b3
  have V6 : Arv Z h6 b3 k3 .char (3 : Int32) [(.int (nar .char ch0))] (.int (0 : Int32)) := Arv.set A6 q6 S6 M6 H6 U6 (fits_nar_char _) W6 0 rfl (nle rfl)
  have K8 : Keep h0 h6 [] := K5.wr W6 (Or.inr sz_b3)
  have V10 : Arv Z h6 b3 k3 .char (3 : Int32) [(.int (nar .char ch0)), (.int (0 : Int32))] (.int (0 : Int32)) := V6.pad (pad_rep [(.int (nar .char ch0))] (.int (0 : Int32)) 1)
  obtain ⟨c9, A9, q9, S9, M9, H9, U9⟩ := id V10
  obtain ⟨T9, h9, X9, e9, W9, st9⟩ := stC X6 hx hZ e6 A9 (j := (1 : Int32)) (inb_of S9 ⟨(by decide : ¬ ((1 : Int32) < (0 : Int32))), (by decide : (1 : Int32) < (3 : Int32))⟩) (g := (mkF m 63 #[.val (.int (3 : Int32)), .val (.int ch0), .val (.int ch1), .val (.int ch2), .val (.int ch3)] [(.int ch1), (.int (1 : Int32)), (.ref b3), (.ref b3), (.ref b1), (.ref b1)])) rfl rfl (hb hby d2_63)
  have N9 := Fr.snoc X9 N6 ge_b3
  have V9 : Arv Z h9 b3 k3 .char (3 : Int32) [(.int (nar .char ch0)), (.int (nar .char ch1))] (.int (0 : Int32)) := Arv.set A9 q9 S9 M9 H9 U9 (fits_nar_char _) W9 1 rfl (nle rfl)
  have K11 : Keep h0 h9 [] := K8.wr W9 (Or.inr sz_b3)
  have V13 : Arv Z h9 b3 k3 .char (3 : Int32) [(.int (nar .char ch0)), (.int (nar .char ch1)), (.int (0 : Int32))] (.int (0 : Int32)) := V9.pad (pad_rep [(.int (nar .char ch0)), (.int (nar .char ch1))] (.int (0 : Int32)) 1)
  obtain ⟨c12, A12, q12, S12, M12, H12, U12⟩ := id V13
  obtain ⟨T12, h12, X12, e12, W12, st12⟩ := stC X9 hx hZ e9 A12 (j := (2 : Int32)) (inb_of S12 ⟨(by decide : ¬ ((2 : Int32) < (0 : Int32))), (by decide : (2 : Int32) < (3 : Int32))⟩) (g := (mkF m 67 #[.val (.int (3 : Int32)), .val (.int ch0), .val (.int ch1), .val (.int ch2), .val (.int ch3)] [(.int ch2), (.int (2 : Int32)), (.ref b3), (.ref b3), (.ref b1), (.ref b1)])) rfl rfl (hb hby d2_67)
  have N12 := Fr.snoc X12 N9 ge_b3
  have V12 : Arv Z h12 b3 k3 .char (3 : Int32) [(.int (nar .char ch0)), (.int (nar .char ch1)), (.int (nar .char ch2))] (.int (0 : Int32)) := Arv.set A12 q12 S12 M12 H12 U12 (fits_nar_char _) W12 2 rfl (nle rfl)
  have K14 : Keep h0 h12 [] := K11.wr W12 (Or.inr sz_b3)
  have F16 := ((((A1.ext E3).wr W6).wr W9).wr W12)
  have F17 := ((((D1_value.ext E3).other W6 (Or.inl ne_4)).other W9 (Or.inl ne_4)).other W12 (Or.inl ne_4))
  have F18 := ((((D1_coder.ext E3).other W6 (Or.inl ne_4)).other W9 (Or.inl ne_4)).other W12 (Or.inl ne_4))
  have F19 := (((((S_CS.ext E1).ext E3).wr W6).wr W9).wr W12)
  have hws : ∀ d ∈ StrChars.Road.words, d.before a0 Z = true := fun d hd => hw d ((by decide +kernel : ∀ d ∈ StrChars.Road.words, d ∈ tables_1) d hd)
  have Vc15 : Arv Z h12 b3 k3 .char (3 : Int32) (([(nar .char ch0), (nar .char ch1), (nar .char ch2)] : List Int32).map Value.int) (.int (0 : Int32)) := V12
  have hp : ∀ c ∈ ([(nar .char ch0), (nar .char ch1), (nar .char ch2)] : List Int32), ¬ c < 0 ∧ ¬ (255 : Int32) < c := (own_mS q0.1 (own_mS q1.1 (own_mS q2.1 own_m0)))
  obtain ⟨_, _, ⟨T15, L15, kk15, nn15⟩, -, X15, ⟨Lc15, hQ15, l15, y15, z15⟩, st15⟩ := X12.specialBack hx (y := (⟨"java/lang/String", "<init>", "([C)V"⟩ : MethodName)) rfl hown (mvT hZ (wk hw 12 rfl)) (mvT hZ (wk hw 13 rfl)) (mvT hZ (wk hw 14 rfl)) (by decide) (StrChars.Road.backV (W := 1) hZ hws (kI := 4) (wk hw 9 rfl) (cs := ([(nar .char ch0), (nar .char ch1), (nar .char ch2)] : List Int32)) (bs := ([(nar .char ch0), (nar .char ch1), (nar .char ch2)] : List Int32).map (fun c => c.toInt8.toInt32)) (n := 3) ge_b1 (Nat.le_trans Z0 K14.1) F16 F17 F18 Vc15 F19 ncs rfl rfl (by decide) (by decide) hp rfl (by decide) (by decide)) (g := (mkF m 68 #[.val (.int (3 : Int32)), .val (.int ch0), .val (.int ch1), .val (.int ch2), .val (.int ch3)] [(.ref b3), (.ref b1), (.ref b1)])) rfl (by rw [hml]; rfl) (Steps.refl _) (a := b1) (argsL := [(.ref b3)]) (rest := [(.ref b1)]) (lenOf pdx___C_V rfl) rfl (by show 2 * 0 + _ ≤ _; exact Nat.le_of_eq rfl) (hb hby d2_68) (fun _ _ => ⟨rfl, e12, nle rfl, nle rfl⟩)
  dsimp only [Pt.U, Pt.locs, Pt.cells, Pt.slots] at X15 l15 y15 z15 st15 hQ15
  subst l15 y15 z15
  obtain ⟨rfl, Nq15, Kq15, Ex15, Fc15, t15, kb15, -, fr15, -, Fv15, Av15⟩ := hQ15
  have N15 := Fr.app N12 Nq15
  obtain ⟨h15, e15⟩ : ∃ h, T15.heap = h := ⟨_, rfl⟩
  rw [e15] at Kq15 Ex15 Fc15 Fv15 Av15
  have sz_t15 : h0.size ≤ t15 := Nat.le_trans K14.1 fr15
  have ge_t15 : n0 ≤ t15 := Nat.le_trans Z0 sz_t15
  have ne_20 : b1 ≠ t15 := Nat.ne_of_lt (Nat.lt_of_lt_of_le F16.lt fr15)
  have ne_21 : b3 ≠ t15 := Nat.ne_of_lt (Nat.lt_of_lt_of_le V12.lt fr15)
  have K22 : Keep h0 h15 [] := K14.trans Kq15 (own_mS (Or.inr sz_b1) own_m0)
  have Av15 : Arv Z h15 t15 kb15 .byte (3 : Int32) [(.int (own_by ch0)), (.int (own_by ch1)), (.int (own_by ch2))] (.int (0 : Int32)) := Av15
  obtain ⟨fs, hr, hrun, hended, hW, hsame⟩ := X15.leave (v := some (.ref b1)) (fun h => by rw [Bd.returns] at h; cases h)
  refine ⟨_, _, pre0 _ ?_, hrun, hended, _, _, rfl, ?_, ⟨_, rfl⟩, hW, hsame.mono (nle rfl) (nle rfl)⟩
  · show Steps p.tables e below (s₁.setTop (mkF m 0 #[.val (.int (3 : Int32)), .val (.int ch0), .val (.int ch1), .val (.int ch2), .val (.int ch3)] [])) _
    refine XS.iloadN X0.here hx rfl (hb hby d2_0) rfl ?_
    show Steps p.tables e below (s₁.setTop (mkF m 1 #[.val (.int (3 : Int32)), .val (.int ch0), .val (.int ch1), .val (.int ch2), .val (.int ch3)] [(.int (3 : Int32))])) _
    refine XS.iconst X0.here hx rfl (hb hby d2_1) ?_
    show Steps p.tables e below (s₁.setTop (mkF m 2 #[.val (.int (3 : Int32)), .val (.int ch0), .val (.int ch1), .val (.int ch2), .val (.int ch3)] [(.int (1 : Int32)), (.int (3 : Int32))])) _
    refine XS.icmpYes X0.here hx rfl (pc0 := 2) (pc' := 20) rfl (hb hby d2_2) rfl (feq (by decide : ¬ ((3 : Int32) = (1 : Int32)))).2 (by decide) (by decide) ?_
    show Steps p.tables e below (s₁.setTop (mkF m 20 #[.val (.int (3 : Int32)), .val (.int ch0), .val (.int ch1), .val (.int ch2), .val (.int ch3)] [])) _
    refine XS.iloadN X0.here hx rfl (hb hby d2_20) rfl ?_
    show Steps p.tables e below (s₁.setTop (mkF m 21 #[.val (.int (3 : Int32)), .val (.int ch0), .val (.int ch1), .val (.int ch2), .val (.int ch3)] [(.int (3 : Int32))])) _
    refine XS.iconst X0.here hx rfl (hb hby d2_21) ?_
    show Steps p.tables e below (s₁.setTop (mkF m 22 #[.val (.int (3 : Int32)), .val (.int ch0), .val (.int ch1), .val (.int ch2), .val (.int ch3)] [(.int (2 : Int32)), (.int (3 : Int32))])) _
    refine XS.icmpYes X0.here hx rfl (pc0 := 22) (pc' := 44) rfl (hb hby d2_22) rfl (feq (by decide : ¬ ((3 : Int32) = (2 : Int32)))).2 (by decide) (by decide) ?_
    show Steps p.tables e below (s₁.setTop (mkF m 44 #[.val (.int (3 : Int32)), .val (.int ch0), .val (.int ch1), .val (.int ch2), .val (.int ch3)] [])) _
    refine XS.iloadN X0.here hx rfl (hb hby d2_44) rfl ?_
    show Steps p.tables e below (s₁.setTop (mkF m 45 #[.val (.int (3 : Int32)), .val (.int ch0), .val (.int ch1), .val (.int ch2), .val (.int ch3)] [(.int (3 : Int32))])) _
    refine XS.iconst X0.here hx rfl (hb hby d2_45) ?_
    show Steps p.tables e below (s₁.setTop (mkF m 46 #[.val (.int (3 : Int32)), .val (.int ch0), .val (.int ch1), .val (.int ch2), .val (.int ch3)] [(.int (3 : Int32)), (.int (3 : Int32))])) _
    refine XS.icmpNo X0.here hx rfl (hb hby d2_46) rfl (teq (by decide : (3 : Int32) = (3 : Int32))).2 ?_
    show Steps p.tables e below (s₁.setTop (mkF m 49 #[.val (.int (3 : Int32)), .val (.int ch0), .val (.int ch1), .val (.int ch2), .val (.int ch3)] [])) _
    refine st1 _ ?_
    show Steps p.tables e below (T1.setTop (mkF m 52 #[.val (.int (3 : Int32)), .val (.int ch0), .val (.int ch1), .val (.int ch2), .val (.int ch3)] [(.ref b1)])) _
    refine XS.dup X1.here hx rfl (hb hby d2_52) rfl rfl ?_
    show Steps p.tables e below (T1.setTop (mkF m 53 #[.val (.int (3 : Int32)), .val (.int ch0), .val (.int ch1), .val (.int ch2), .val (.int ch3)] [(.ref b1), (.ref b1)])) _
    refine XS.iconst X1.here hx rfl (hb hby d2_53) ?_
    show Steps p.tables e below (T1.setTop (mkF m 54 #[.val (.int (3 : Int32)), .val (.int ch0), .val (.int ch1), .val (.int ch2), .val (.int ch3)] [(.int (3 : Int32)), (.ref b1), (.ref b1)])) _
    refine st3 _ ?_
    show Steps p.tables e below (T3.setTop (mkF m 56 #[.val (.int (3 : Int32)), .val (.int ch0), .val (.int ch1), .val (.int ch2), .val (.int ch3)] [(.ref b3), (.ref b1), (.ref b1)])) _
    refine XS.dup X3.here hx rfl (hb hby d2_56) rfl rfl ?_
    show Steps p.tables e below (T3.setTop (mkF m 57 #[.val (.int (3 : Int32)), .val (.int ch0), .val (.int ch1), .val (.int ch2), .val (.int ch3)] [(.ref b3), (.ref b3), (.ref b1), (.ref b1)])) _
    refine XS.iconst X3.here hx rfl (hb hby d2_57) ?_
    show Steps p.tables e below (T3.setTop (mkF m 58 #[.val (.int (3 : Int32)), .val (.int ch0), .val (.int ch1), .val (.int ch2), .val (.int ch3)] [(.int (0 : Int32)), (.ref b3), (.ref b3), (.ref b1), (.ref b1)])) _
    refine XS.iloadN X3.here hx rfl (hb hby d2_58) rfl ?_
    show Steps p.tables e below (T3.setTop (mkF m 59 #[.val (.int (3 : Int32)), .val (.int ch0), .val (.int ch1), .val (.int ch2), .val (.int ch3)] [(.int ch0), (.int (0 : Int32)), (.ref b3), (.ref b3), (.ref b1), (.ref b1)])) _
    refine st6 _ ?_
    show Steps p.tables e below (T6.setTop (mkF m 60 #[.val (.int (3 : Int32)), .val (.int ch0), .val (.int ch1), .val (.int ch2), .val (.int ch3)] [(.ref b3), (.ref b1), (.ref b1)])) _
    refine XS.dup X6.here hx rfl (hb hby d2_60) rfl rfl ?_
    show Steps p.tables e below (T6.setTop (mkF m 61 #[.val (.int (3 : Int32)), .val (.int ch0), .val (.int ch1), .val (.int ch2), .val (.int ch3)] [(.ref b3), (.ref b3), (.ref b1), (.ref b1)])) _
    refine XS.iconst X6.here hx rfl (hb hby d2_61) ?_
    show Steps p.tables e below (T6.setTop (mkF m 62 #[.val (.int (3 : Int32)), .val (.int ch0), .val (.int ch1), .val (.int ch2), .val (.int ch3)] [(.int (1 : Int32)), (.ref b3), (.ref b3), (.ref b1), (.ref b1)])) _
    refine XS.iloadN X6.here hx rfl (hb hby d2_62) rfl ?_
    show Steps p.tables e below (T6.setTop (mkF m 63 #[.val (.int (3 : Int32)), .val (.int ch0), .val (.int ch1), .val (.int ch2), .val (.int ch3)] [(.int ch1), (.int (1 : Int32)), (.ref b3), (.ref b3), (.ref b1), (.ref b1)])) _
    refine st9 _ ?_
    show Steps p.tables e below (T9.setTop (mkF m 64 #[.val (.int (3 : Int32)), .val (.int ch0), .val (.int ch1), .val (.int ch2), .val (.int ch3)] [(.ref b3), (.ref b1), (.ref b1)])) _
    refine XS.dup X9.here hx rfl (hb hby d2_64) rfl rfl ?_
    show Steps p.tables e below (T9.setTop (mkF m 65 #[.val (.int (3 : Int32)), .val (.int ch0), .val (.int ch1), .val (.int ch2), .val (.int ch3)] [(.ref b3), (.ref b3), (.ref b1), (.ref b1)])) _
    refine XS.iconst X9.here hx rfl (hb hby d2_65) ?_
    show Steps p.tables e below (T9.setTop (mkF m 66 #[.val (.int (3 : Int32)), .val (.int ch0), .val (.int ch1), .val (.int ch2), .val (.int ch3)] [(.int (2 : Int32)), (.ref b3), (.ref b3), (.ref b1), (.ref b1)])) _
    refine XS.iloadN X9.here hx rfl (hb hby d2_66) rfl ?_
    show Steps p.tables e below (T9.setTop (mkF m 67 #[.val (.int (3 : Int32)), .val (.int ch0), .val (.int ch1), .val (.int ch2), .val (.int ch3)] [(.int ch2), (.int (2 : Int32)), (.ref b3), (.ref b3), (.ref b1), (.ref b1)])) _
    refine st12 _ ?_
    show Steps p.tables e below (T12.setTop (mkF m 68 #[.val (.int (3 : Int32)), .val (.int ch0), .val (.int ch1), .val (.int ch2), .val (.int ch3)] [(.ref b3), (.ref b1), (.ref b1)])) _
    refine st15.trans ?_
    show Steps p.tables e below (T15.setTop (mkF m 71 #[.val (.int (3 : Int32)), .val (.int ch0), .val (.int ch1), .val (.int ch2), .val (.int ch3)] [(.ref b1)])) _
    exact X15.areturnOut hx rfl Bd.returns rfl (hb hby d2_71) hr
  · show Q_m2_3 Z ch0 ch1 ch2 ch3 wcs h0 n0 _ T15.heap _
    rw [e15]
    exact ⟨b1, t15, kb15, rfl, N15, K22, Ex15, Fc15, Fv15, Av15, sz_b1⟩
theorem d2_72 : decode method_3_code 72 = .ok (.new 8, 3) := by decide +kernel
theorem d2_75 : decode method_3_code 75 = .ok (.dup, 1) := by decide +kernel
theorem d2_76 : decode method_3_code 76 = .ok (.iconst 4, 1) := by decide +kernel
theorem d2_77 : decode method_3_code 77 = .ok (.newarray .char, 2) := by decide +kernel
theorem d2_79 : decode method_3_code 79 = .ok (.dup, 1) := by decide +kernel
theorem d2_80 : decode method_3_code 80 = .ok (.iconst 0, 1) := by decide +kernel
theorem d2_81 : decode method_3_code 81 = .ok (.iload_n 1, 1) := by decide +kernel
theorem d2_82 : decode method_3_code 82 = .ok (.castore, 1) := by decide +kernel
theorem d2_83 : decode method_3_code 83 = .ok (.dup, 1) := by decide +kernel
theorem d2_84 : decode method_3_code 84 = .ok (.iconst 1, 1) := by decide +kernel
theorem d2_85 : decode method_3_code 85 = .ok (.iload_n 2, 1) := by decide +kernel
theorem d2_86 : decode method_3_code 86 = .ok (.castore, 1) := by decide +kernel
theorem d2_87 : decode method_3_code 87 = .ok (.dup, 1) := by decide +kernel
theorem d2_88 : decode method_3_code 88 = .ok (.iconst 2, 1) := by decide +kernel
theorem d2_89 : decode method_3_code 89 = .ok (.iload_n 3, 1) := by decide +kernel
theorem d2_90 : decode method_3_code 90 = .ok (.castore, 1) := by decide +kernel
theorem d2_91 : decode method_3_code 91 = .ok (.dup, 1) := by decide +kernel
theorem d2_92 : decode method_3_code 92 = .ok (.iconst 3, 1) := by decide +kernel
theorem d2_93 : decode method_3_code 93 = .ok (.iload 4, 2) := by decide +kernel
theorem d2_95 : decode method_3_code 95 = .ok (.castore, 1) := by decide +kernel
theorem d2_96 : decode method_3_code 96 = .ok (.invokespecial 10, 3) := by decide +kernel
theorem d2_99 : decode method_3_code 99 = .ok (.areturn, 1) := by decide +kernel
def Q_m2_4 (Z : State) (ch0 : Int32) (ch1 : Int32) (ch2 : Int32) (ch3 : Int32) (wcs : Int32) (h0 : Heap) (n0 : Nat) (v : Option Value) (h : Heap) (L : List Loc) : Prop := ∃ (a : Addr) (t : Addr) (k : ClassId), v = (some (.ref a)) ∧ Fr n0 L ∧ Keep h0 h [] ∧ Exa Z h a "java/lang/String" ∧ Fld Z h a "java/lang/String" "coder" "B" (.int (0 : Int32)) ∧ Fld Z h a "java/lang/String" "value" "[B" (.ref t) ∧ Arv Z h t k .byte (4 : Int32) [(.int (own_by ch0)), (.int (own_by ch1)), (.int (own_by ch2)), (.int (own_by ch3))] (.int (0 : Int32)) ∧ h0.size ≤ a
theorem ef_m2_4 (m : MethodId) (ch0 : Int32) (ch1 : Int32) (ch2 : Int32) (ch3 : Int32) (wcs : Int32) : entryFrame m #[(.int (4 : Int32)), (.int ch0), (.int ch1), (.int ch2), (.int ch3)] 5 = mkF m 0 #[.val (.int (4 : Int32)), .val (.int ch0), .val (.int ch1), .val (.int ch2), .val (.int ch3)] [] := by first | (simp [entryFrame, mkF, argsToLocals, Value.category]; done) | rfl
set_option maxRecDepth 65536 in
set_option maxHeartbeats 40000000 in
theorem m2_4 (l : Launch) (Z : State) (a0 : Array Value) (hw : ∀ d ∈ tables_1, d.before a0 Z = true) (ws : List Jvm.Cond) (ch0 : Int32) (ch1 : Int32) (ch2 : Int32) (ch3 : Int32) (wcs : Int32) (h0 : Heap) (n0 : Nat) (Z0 : n0 ≤ h0.size) (S_CS : Sta Z h0 "java/lang/String" "COMPACT_STRINGS" "Z" (.int wcs)) (ncs : ¬ (wcs = (0 : Int32))) (q0 : own_good ch0) (q1 : own_good ch1) (q2 : own_good ch2) (q3 : own_good ch3) :
    MetFree l (⟨"com/example/portunus/portunus/lock/LockNameOfPinLaw", "make", "(ICCCC)Ljava/lang/String;"⟩ : MethodName) (head1 (Jvm.Cond.code (⟨"com/example/portunus/portunus/lock/LockNameOfPinLaw", "make", "(ICCCC)Ljava/lang/String;"⟩ : MethodName) method_3_code 5 (some (.object "java/lang/String")) :: ws) ({ frames := 4, cells := 3, slots := 12, locals := 66 } : Room)) (fun ar_ U => ar_ = #[(.int (4 : Int32)), (.int ch0), (.int ch1), (.int ch2), (.int ch3)] ∧ Z.Warmed39 U.vm ∧ U.heap = h0) (fun _ _ _ _ _ => True) (fun _ U o U' => ∃ v L, o = .returned v ∧ Q_m2_4 Z ch0 ch1 ch2 ch3 wcs h0 n0 v U'.heap L ∧ FrameEnd U o U' L ({ frames := 4, cells := 3, slots := 12, locals := 66 } : Room).cells ({ frames := 4, cells := 3, slots := 12, locals := 66 } : Room).slots) := by
  refine MetFree.of_bodySF (plainFor_of_name pnx_com_example_portunus_portunus_lock_LockNameOfPinLaw) hisR ?_
  intro p e s m args below meth c s₁ Bd hml0 hP hK
  obtain ⟨rfl, hZ, hh⟩ := hP
  have hx := Bd.exec
  have hby := Bd.bytes
  have hml : c.maxLocals = 5 := hml0
  have hown : s.vm.findClass "com/example/portunus/portunus/lock/LockNameOfPinLaw" = some m.cls := findClass_of_methodNamed Bd.named
  have hnm := (name_of_methodNamed Bd.named Bd.method).1
  have X0 : Stand p l e ({ frames := 4, cells := 3, slots := 12, locals := 66 } : Room) s m #[(.int (4 : Int32)), (.int ch0), (.int ch1), (.int ch2), (.int ch3)] below meth c s₁ [] 0 0 := Stand.of_body Bd
  have e0 : s₁.heap = h0 := by rw [← hh, Bd.state]; rfl
  have N0 := Fr.nil n0
  have pre0 : ∀ tq_, Steps p.tables e below (s₁.setTop (mkF m 0 #[.val (.int (4 : Int32)), .val (.int ch0), .val (.int ch1), .val (.int ch2), .val (.int ch3)] [])) tq_ → Steps p.tables e below (s₁.setTop (entryFrame m #[(.int (4 : Int32)), (.int ch0), (.int ch1), (.int ch2), (.int ch3)] 5)) tq_ := fun tq_ kt_ => castTop (ef_m2_4 m ch0 ch1 ch2 ch3 wcs ) kt_
  obtain ⟨T1, h1, X1, e1, E1, A1, D1, -, st1⟩ := newO X0 hx hZ hown (wk hw 8 rfl) (wk hw 9 rfl) (wk hw 10 rfl) e0 (g := (mkF m 72 #[.val (.int (4 : Int32)), .val (.int ch0), .val (.int ch1), .val (.int ch2), .val (.int ch3)] [])) rfl (hb hby d2_72) (nle rfl) (nle rfl)
  obtain ⟨b1, g1⟩ : ∃ z, z = h0.size := ⟨_, rfl⟩
  rw [← g1] at A1 D1 st1
  have sz_b1 : h0.size ≤ b1 := (Nat.le_of_eq g1.symm)
  have ge_b1 : n0 ≤ b1 := Nat.le_trans Z0 sz_b1
  have K2 : Keep h0 h1 [] := (Keep.refl h0 []).ext E1
  have D1_coder := D1 (Or.inr (wk hw 35 rfl)) (ty := .byte) (by decide)
  have D1_value := D1 (Or.inr (wk hw 37 rfl)) (ty := (.array .byte)) (by decide)
  obtain ⟨T3, h3, k3, X3, e3, E3, A3, st3⟩ := newP X1 hx hZ (wk hw 11 rfl) e1 (g := (mkF m 77 #[.val (.int (4 : Int32)), .val (.int ch0), .val (.int ch1), .val (.int ch2), .val (.int ch3)] [(.int (4 : Int32)), (.ref b1), (.ref b1)])) rfl (hb hby d2_77) rfl (by decide) (cap := 4) (by decide) (by decide) (nle rfl) (nle rfl)
  obtain ⟨b3, g3⟩ : ∃ z, z = h1.size := ⟨_, rfl⟩
  rw [← g3] at A3 st3
  have V3 : Arv Z h3 b3 k3 .char (4 : Int32) [] (.int (0 : Int32)) := Arv.new A3 (by decide)
  have sz_b3 : h0.size ≤ b3 := Nat.le_trans K2.1 (Nat.le_of_eq g3.symm)
  have ge_b3 : n0 ≤ b3 := Nat.le_trans Z0 sz_b3
  have ne_4 : b1 ≠ b3 := Nat.ne_of_lt (Nat.lt_of_lt_of_le A1.lt (Nat.le_of_eq g3.symm))
  have K5 : Keep h0 h3 [] := K2.ext E3
  have V7 : Arv Z h3 b3 k3 .char (4 : Int32) [(.int (0 : Int32))] (.int (0 : Int32)) := V3.pad (pad_rep [] (.int (0 : Int32)) 1)
  obtain ⟨c6, A6, q6, S6, M6, H6, U6⟩ := id V7
  obtain ⟨T6, h6, X6, e6, W6, st6⟩ := stC X3 hx hZ e3 A6 (j := (0 : Int32)) (inb_of S6 ⟨(by decide : ¬ ((0 : Int32) < (0 : Int32))), (by decide : (0 : Int32) < (4 : Int32))⟩) (g := (mkF m 82 #[.val (.int (4 : Int32)), .val (.int ch0), .val (.int ch1), .val (.int ch2), .val (.int ch3)] [(.int ch0), (.int (0 : Int32)), (.ref b3), (.ref b3), (.ref b1), (.ref b1)])) rfl rfl (hb hby d2_82)
  have N6 := Fr.snoc X6 N0 ge_b3
  have V6 : Arv Z h6 b3 k3 .char (4 : Int32) [(.int (nar .char ch0))] (.int (0 : Int32)) := Arv.set A6 q6 S6 M6 H6 U6 (fits_nar_char _) W6 0 rfl (nle rfl)
  have K8 : Keep h0 h6 [] := K5.wr W6 (Or.inr sz_b3)
  have V10 : Arv Z h6 b3 k3 .char (4 : Int32) [(.int (nar .char ch0)), (.int (0 : Int32))] (.int (0 : Int32)) := V6.pad (pad_rep [(.int (nar .char ch0))] (.int (0 : Int32)) 1)
  obtain ⟨c9, A9, q9, S9, M9, H9, U9⟩ := id V10
  obtain ⟨T9, h9, X9, e9, W9, st9⟩ := stC X6 hx hZ e6 A9 (j := (1 : Int32)) (inb_of S9 ⟨(by decide : ¬ ((1 : Int32) < (0 : Int32))), (by decide : (1 : Int32) < (4 : Int32))⟩) (g := (mkF m 86 #[.val (.int (4 : Int32)), .val (.int ch0), .val (.int ch1), .val (.int ch2), .val (.int ch3)] [(.int ch1), (.int (1 : Int32)), (.ref b3), (.ref b3), (.ref b1), (.ref b1)])) rfl rfl (hb hby d2_86)
  have N9 := Fr.snoc X9 N6 ge_b3
  have V9 : Arv Z h9 b3 k3 .char (4 : Int32) [(.int (nar .char ch0)), (.int (nar .char ch1))] (.int (0 : Int32)) := Arv.set A9 q9 S9 M9 H9 U9 (fits_nar_char _) W9 1 rfl (nle rfl)
  have K11 : Keep h0 h9 [] := K8.wr W9 (Or.inr sz_b3)
  have V13 : Arv Z h9 b3 k3 .char (4 : Int32) [(.int (nar .char ch0)), (.int (nar .char ch1)), (.int (0 : Int32))] (.int (0 : Int32)) := V9.pad (pad_rep [(.int (nar .char ch0)), (.int (nar .char ch1))] (.int (0 : Int32)) 1)
  obtain ⟨c12, A12, q12, S12, M12, H12, U12⟩ := id V13
  obtain ⟨T12, h12, X12, e12, W12, st12⟩ := stC X9 hx hZ e9 A12 (j := (2 : Int32)) (inb_of S12 ⟨(by decide : ¬ ((2 : Int32) < (0 : Int32))), (by decide : (2 : Int32) < (4 : Int32))⟩) (g := (mkF m 90 #[.val (.int (4 : Int32)), .val (.int ch0), .val (.int ch1), .val (.int ch2), .val (.int ch3)] [(.int ch2), (.int (2 : Int32)), (.ref b3), (.ref b3), (.ref b1), (.ref b1)])) rfl rfl (hb hby d2_90)
  have N12 := Fr.snoc X12 N9 ge_b3
  have V12 : Arv Z h12 b3 k3 .char (4 : Int32) [(.int (nar .char ch0)), (.int (nar .char ch1)), (.int (nar .char ch2))] (.int (0 : Int32)) := Arv.set A12 q12 S12 M12 H12 U12 (fits_nar_char _) W12 2 rfl (nle rfl)
  have K14 : Keep h0 h12 [] := K11.wr W12 (Or.inr sz_b3)
  have V16 : Arv Z h12 b3 k3 .char (4 : Int32) [(.int (nar .char ch0)), (.int (nar .char ch1)), (.int (nar .char ch2)), (.int (0 : Int32))] (.int (0 : Int32)) := V12.pad (pad_rep [(.int (nar .char ch0)), (.int (nar .char ch1)), (.int (nar .char ch2))] (.int (0 : Int32)) 1)
  obtain ⟨c15, A15, q15, S15, M15, H15, U15⟩ := id V16
  obtain ⟨T15, h15, X15, e15, W15, st15⟩ := stC X12 hx hZ e12 A15 (j := (3 : Int32)) (inb_of S15 ⟨(by decide : ¬ ((3 : Int32) < (0 : Int32))), (by decide : (3 : Int32) < (4 : Int32))⟩) (g := (mkF m 95 #[.val (.int (4 : Int32)), .val (.int ch0), .val (.int ch1), .val (.int ch2), .val (.int ch3)] [(.int ch3), (.int (3 : Int32)), (.ref b3), (.ref b3), (.ref b1), (.ref b1)])) rfl rfl (hb hby d2_95)
  have N15 := Fr.snoc X15 N12 ge_b3
  have V15 : Arv Z h15 b3 k3 .char (4 : Int32) [(.int (nar .char ch0)), (.int (nar .char ch1)), (.int (nar .char ch2)), (.int (nar .char ch3))] (.int (0 : Int32)) := Arv.set A15 q15 S15 M15 H15 U15 (fits_nar_char _) W15 3 rfl (nle rfl)
  have K17 : Keep h0 h15 [] := K14.wr W15 (Or.inr sz_b3)
  have F19 := (((((A1.ext E3).wr W6).wr W9).wr W12).wr W15)
  have F20 := (((((D1_value.ext E3).other W6 (Or.inl ne_4)).other W9 (Or.inl ne_4)).other W12 (Or.inl ne_4)).other W15 (Or.inl ne_4))
  have F21 := (((((D1_coder.ext E3).other W6 (Or.inl ne_4)).other W9 (Or.inl ne_4)).other W12 (Or.inl ne_4)).other W15 (Or.inl ne_4))
  have F22 := ((((((S_CS.ext E1).ext E3).wr W6).wr W9).wr W12).wr W15)
  have hws : ∀ d ∈ StrChars.Road.words, d.before a0 Z = true := fun d hd => hw d ((by decide +kernel : ∀ d ∈ StrChars.Road.words, d ∈ tables_1) d hd)
  have Vc18 : Arv Z h15 b3 k3 .char (4 : Int32) (([(nar .char ch0), (nar .char ch1), (nar .char ch2), (nar .char ch3)] : List Int32).map Value.int) (.int (0 : Int32)) := V15
  have hp : ∀ c ∈ ([(nar .char ch0), (nar .char ch1), (nar .char ch2), (nar .char ch3)] : List Int32), ¬ c < 0 ∧ ¬ (255 : Int32) < c := (own_mS q0.1 (own_mS q1.1 (own_mS q2.1 (own_mS q3.1 own_m0))))
  obtain ⟨_, _, ⟨T18, L18, kk18, nn18⟩, -, X18, ⟨Lc18, hQ18, l18, y18, z18⟩, st18⟩ := X15.specialBack hx (y := (⟨"java/lang/String", "<init>", "([C)V"⟩ : MethodName)) rfl hown (mvT hZ (wk hw 12 rfl)) (mvT hZ (wk hw 13 rfl)) (mvT hZ (wk hw 14 rfl)) (by decide) (StrChars.Road.backV (W := 1) hZ hws (kI := 4) (wk hw 9 rfl) (cs := ([(nar .char ch0), (nar .char ch1), (nar .char ch2), (nar .char ch3)] : List Int32)) (bs := ([(nar .char ch0), (nar .char ch1), (nar .char ch2), (nar .char ch3)] : List Int32).map (fun c => c.toInt8.toInt32)) (n := 4) ge_b1 (Nat.le_trans Z0 K17.1) F19 F20 F21 Vc18 F22 ncs rfl rfl (by decide) (by decide) hp rfl (by decide) (by decide)) (g := (mkF m 96 #[.val (.int (4 : Int32)), .val (.int ch0), .val (.int ch1), .val (.int ch2), .val (.int ch3)] [(.ref b3), (.ref b1), (.ref b1)])) rfl (by rw [hml]; rfl) (Steps.refl _) (a := b1) (argsL := [(.ref b3)]) (rest := [(.ref b1)]) (lenOf pdx___C_V rfl) rfl (by show 2 * 0 + _ ≤ _; exact Nat.le_of_eq rfl) (hb hby d2_96) (fun _ _ => ⟨rfl, e15, nle rfl, nle rfl⟩)
  dsimp only [Pt.U, Pt.locs, Pt.cells, Pt.slots] at X18 l18 y18 z18 st18 hQ18
  subst l18 y18 z18
  obtain ⟨rfl, Nq18, Kq18, Ex18, Fc18, t18, kb18, -, fr18, -, Fv18, Av18⟩ := hQ18
  have N18 := Fr.app N15 Nq18
  obtain ⟨h18, e18⟩ : ∃ h, T18.heap = h := ⟨_, rfl⟩
  rw [e18] at Kq18 Ex18 Fc18 Fv18 Av18
  have sz_t18 : h0.size ≤ t18 := Nat.le_trans K17.1 fr18
  have ge_t18 : n0 ≤ t18 := Nat.le_trans Z0 sz_t18
  have ne_23 : b1 ≠ t18 := Nat.ne_of_lt (Nat.lt_of_lt_of_le F19.lt fr18)
  have ne_24 : b3 ≠ t18 := Nat.ne_of_lt (Nat.lt_of_lt_of_le V15.lt fr18)
  have K25 : Keep h0 h18 [] := K17.trans Kq18 (own_mS (Or.inr sz_b1) own_m0)
  have Av18 : Arv Z h18 t18 kb18 .byte (4 : Int32) [(.int (own_by ch0)), (.int (own_by ch1)), (.int (own_by ch2)), (.int (own_by ch3))] (.int (0 : Int32)) := Av18
  obtain ⟨fs, hr, hrun, hended, hW, hsame⟩ := X18.leave (v := some (.ref b1)) (fun h => by rw [Bd.returns] at h; cases h)
  refine ⟨_, _, pre0 _ ?_, hrun, hended, _, _, rfl, ?_, ⟨_, rfl⟩, hW, hsame.mono (nle rfl) (nle rfl)⟩
  · show Steps p.tables e below (s₁.setTop (mkF m 0 #[.val (.int (4 : Int32)), .val (.int ch0), .val (.int ch1), .val (.int ch2), .val (.int ch3)] [])) _
    refine XS.iloadN X0.here hx rfl (hb hby d2_0) rfl ?_
    show Steps p.tables e below (s₁.setTop (mkF m 1 #[.val (.int (4 : Int32)), .val (.int ch0), .val (.int ch1), .val (.int ch2), .val (.int ch3)] [(.int (4 : Int32))])) _
    refine XS.iconst X0.here hx rfl (hb hby d2_1) ?_
    show Steps p.tables e below (s₁.setTop (mkF m 2 #[.val (.int (4 : Int32)), .val (.int ch0), .val (.int ch1), .val (.int ch2), .val (.int ch3)] [(.int (1 : Int32)), (.int (4 : Int32))])) _
    refine XS.icmpYes X0.here hx rfl (pc0 := 2) (pc' := 20) rfl (hb hby d2_2) rfl (feq (by decide : ¬ ((4 : Int32) = (1 : Int32)))).2 (by decide) (by decide) ?_
    show Steps p.tables e below (s₁.setTop (mkF m 20 #[.val (.int (4 : Int32)), .val (.int ch0), .val (.int ch1), .val (.int ch2), .val (.int ch3)] [])) _
    refine XS.iloadN X0.here hx rfl (hb hby d2_20) rfl ?_
    show Steps p.tables e below (s₁.setTop (mkF m 21 #[.val (.int (4 : Int32)), .val (.int ch0), .val (.int ch1), .val (.int ch2), .val (.int ch3)] [(.int (4 : Int32))])) _
    refine XS.iconst X0.here hx rfl (hb hby d2_21) ?_
    show Steps p.tables e below (s₁.setTop (mkF m 22 #[.val (.int (4 : Int32)), .val (.int ch0), .val (.int ch1), .val (.int ch2), .val (.int ch3)] [(.int (2 : Int32)), (.int (4 : Int32))])) _
    refine XS.icmpYes X0.here hx rfl (pc0 := 22) (pc' := 44) rfl (hb hby d2_22) rfl (feq (by decide : ¬ ((4 : Int32) = (2 : Int32)))).2 (by decide) (by decide) ?_
    show Steps p.tables e below (s₁.setTop (mkF m 44 #[.val (.int (4 : Int32)), .val (.int ch0), .val (.int ch1), .val (.int ch2), .val (.int ch3)] [])) _
    refine XS.iloadN X0.here hx rfl (hb hby d2_44) rfl ?_
    show Steps p.tables e below (s₁.setTop (mkF m 45 #[.val (.int (4 : Int32)), .val (.int ch0), .val (.int ch1), .val (.int ch2), .val (.int ch3)] [(.int (4 : Int32))])) _
    refine XS.iconst X0.here hx rfl (hb hby d2_45) ?_
    show Steps p.tables e below (s₁.setTop (mkF m 46 #[.val (.int (4 : Int32)), .val (.int ch0), .val (.int ch1), .val (.int ch2), .val (.int ch3)] [(.int (3 : Int32)), (.int (4 : Int32))])) _
    refine XS.icmpYes X0.here hx rfl (pc0 := 46) (pc' := 72) rfl (hb hby d2_46) rfl (feq (by decide : ¬ ((4 : Int32) = (3 : Int32)))).2 (by decide) (by decide) ?_
    show Steps p.tables e below (s₁.setTop (mkF m 72 #[.val (.int (4 : Int32)), .val (.int ch0), .val (.int ch1), .val (.int ch2), .val (.int ch3)] [])) _
    refine st1 _ ?_
    show Steps p.tables e below (T1.setTop (mkF m 75 #[.val (.int (4 : Int32)), .val (.int ch0), .val (.int ch1), .val (.int ch2), .val (.int ch3)] [(.ref b1)])) _
    refine XS.dup X1.here hx rfl (hb hby d2_75) rfl rfl ?_
    show Steps p.tables e below (T1.setTop (mkF m 76 #[.val (.int (4 : Int32)), .val (.int ch0), .val (.int ch1), .val (.int ch2), .val (.int ch3)] [(.ref b1), (.ref b1)])) _
    refine XS.iconst X1.here hx rfl (hb hby d2_76) ?_
    show Steps p.tables e below (T1.setTop (mkF m 77 #[.val (.int (4 : Int32)), .val (.int ch0), .val (.int ch1), .val (.int ch2), .val (.int ch3)] [(.int (4 : Int32)), (.ref b1), (.ref b1)])) _
    refine st3 _ ?_
    show Steps p.tables e below (T3.setTop (mkF m 79 #[.val (.int (4 : Int32)), .val (.int ch0), .val (.int ch1), .val (.int ch2), .val (.int ch3)] [(.ref b3), (.ref b1), (.ref b1)])) _
    refine XS.dup X3.here hx rfl (hb hby d2_79) rfl rfl ?_
    show Steps p.tables e below (T3.setTop (mkF m 80 #[.val (.int (4 : Int32)), .val (.int ch0), .val (.int ch1), .val (.int ch2), .val (.int ch3)] [(.ref b3), (.ref b3), (.ref b1), (.ref b1)])) _
    refine XS.iconst X3.here hx rfl (hb hby d2_80) ?_
    show Steps p.tables e below (T3.setTop (mkF m 81 #[.val (.int (4 : Int32)), .val (.int ch0), .val (.int ch1), .val (.int ch2), .val (.int ch3)] [(.int (0 : Int32)), (.ref b3), (.ref b3), (.ref b1), (.ref b1)])) _
    refine XS.iloadN X3.here hx rfl (hb hby d2_81) rfl ?_
    show Steps p.tables e below (T3.setTop (mkF m 82 #[.val (.int (4 : Int32)), .val (.int ch0), .val (.int ch1), .val (.int ch2), .val (.int ch3)] [(.int ch0), (.int (0 : Int32)), (.ref b3), (.ref b3), (.ref b1), (.ref b1)])) _
    refine st6 _ ?_
    show Steps p.tables e below (T6.setTop (mkF m 83 #[.val (.int (4 : Int32)), .val (.int ch0), .val (.int ch1), .val (.int ch2), .val (.int ch3)] [(.ref b3), (.ref b1), (.ref b1)])) _
    refine XS.dup X6.here hx rfl (hb hby d2_83) rfl rfl ?_
    show Steps p.tables e below (T6.setTop (mkF m 84 #[.val (.int (4 : Int32)), .val (.int ch0), .val (.int ch1), .val (.int ch2), .val (.int ch3)] [(.ref b3), (.ref b3), (.ref b1), (.ref b1)])) _
    refine XS.iconst X6.here hx rfl (hb hby d2_84) ?_
    show Steps p.tables e below (T6.setTop (mkF m 85 #[.val (.int (4 : Int32)), .val (.int ch0), .val (.int ch1), .val (.int ch2), .val (.int ch3)] [(.int (1 : Int32)), (.ref b3), (.ref b3), (.ref b1), (.ref b1)])) _
    refine XS.iloadN X6.here hx rfl (hb hby d2_85) rfl ?_
    show Steps p.tables e below (T6.setTop (mkF m 86 #[.val (.int (4 : Int32)), .val (.int ch0), .val (.int ch1), .val (.int ch2), .val (.int ch3)] [(.int ch1), (.int (1 : Int32)), (.ref b3), (.ref b3), (.ref b1), (.ref b1)])) _
    refine st9 _ ?_
    show Steps p.tables e below (T9.setTop (mkF m 87 #[.val (.int (4 : Int32)), .val (.int ch0), .val (.int ch1), .val (.int ch2), .val (.int ch3)] [(.ref b3), (.ref b1), (.ref b1)])) _
    refine XS.dup X9.here hx rfl (hb hby d2_87) rfl rfl ?_
    show Steps p.tables e below (T9.setTop (mkF m 88 #[.val (.int (4 : Int32)), .val (.int ch0), .val (.int ch1), .val (.int ch2), .val (.int ch3)] [(.ref b3), (.ref b3), (.ref b1), (.ref b1)])) _
    refine XS.iconst X9.here hx rfl (hb hby d2_88) ?_
    show Steps p.tables e below (T9.setTop (mkF m 89 #[.val (.int (4 : Int32)), .val (.int ch0), .val (.int ch1), .val (.int ch2), .val (.int ch3)] [(.int (2 : Int32)), (.ref b3), (.ref b3), (.ref b1), (.ref b1)])) _
    refine XS.iloadN X9.here hx rfl (hb hby d2_89) rfl ?_
    show Steps p.tables e below (T9.setTop (mkF m 90 #[.val (.int (4 : Int32)), .val (.int ch0), .val (.int ch1), .val (.int ch2), .val (.int ch3)] [(.int ch2), (.int (2 : Int32)), (.ref b3), (.ref b3), (.ref b1), (.ref b1)])) _
    refine st12 _ ?_
    show Steps p.tables e below (T12.setTop (mkF m 91 #[.val (.int (4 : Int32)), .val (.int ch0), .val (.int ch1), .val (.int ch2), .val (.int ch3)] [(.ref b3), (.ref b1), (.ref b1)])) _
    refine XS.dup X12.here hx rfl (hb hby d2_91) rfl rfl ?_
    show Steps p.tables e below (T12.setTop (mkF m 92 #[.val (.int (4 : Int32)), .val (.int ch0), .val (.int ch1), .val (.int ch2), .val (.int ch3)] [(.ref b3), (.ref b3), (.ref b1), (.ref b1)])) _
    refine XS.iconst X12.here hx rfl (hb hby d2_92) ?_
    show Steps p.tables e below (T12.setTop (mkF m 93 #[.val (.int (4 : Int32)), .val (.int ch0), .val (.int ch1), .val (.int ch2), .val (.int ch3)] [(.int (3 : Int32)), (.ref b3), (.ref b3), (.ref b1), (.ref b1)])) _
    refine XS.iload X12.here hx rfl (hb hby d2_93) rfl ?_
    show Steps p.tables e below (T12.setTop (mkF m 95 #[.val (.int (4 : Int32)), .val (.int ch0), .val (.int ch1), .val (.int ch2), .val (.int ch3)] [(.int ch3), (.int (3 : Int32)), (.ref b3), (.ref b3), (.ref b1), (.ref b1)])) _
    refine st15 _ ?_
    show Steps p.tables e below (T15.setTop (mkF m 96 #[.val (.int (4 : Int32)), .val (.int ch0), .val (.int ch1), .val (.int ch2), .val (.int ch3)] [(.ref b3), (.ref b1), (.ref b1)])) _
    refine st18.trans ?_
    show Steps p.tables e below (T18.setTop (mkF m 99 #[.val (.int (4 : Int32)), .val (.int ch0), .val (.int ch1), .val (.int ch2), .val (.int ch3)] [(.ref b1)])) _
    exact X18.areturnOut hx rfl Bd.returns rfl (hb hby d2_99) hr
  · show Q_m2_4 Z ch0 ch1 ch2 ch3 wcs h0 n0 _ T18.heap _
    rw [e18]
    exact ⟨b1, t18, kb18, rfl, N18, K25, Ex18, Fc18, Fv18, Av18, sz_b1⟩
theorem d13_0 : decode jdk_42_method_152_code 0 = .ok (.getstatic 38, 3) := by decide +kernel
theorem d13_3 : decode jdk_42_method_152_code 3 = .ok (.ifCond .eq 10, 3) := by decide +kernel
theorem d13_6 : decode jdk_42_method_152_code 6 = .ok (.aload_n 0, 1) := by decide +kernel
theorem d13_7 : decode jdk_42_method_152_code 7 = .ok (.getfield 15, 3) := by decide +kernel
theorem d13_10 : decode jdk_42_method_152_code 10 = .ok (.goto 4, 3) := by decide +kernel
theorem d13_14 : decode jdk_42_method_152_code 14 = .ok (.ireturn, 1) := by decide +kernel
theorem pnx_java_lang_String : plainName "java/lang/String" = true := by first | (simp [plainName, overriddenIn]; done) | decide +kernel
def Q_m13 (Z : State) (a : Addr) (wcs : Int32) (h0 : Heap) (n0 : Nat) (v : Option Value) (h : Heap) (L : List Loc) : Prop := v = (some (.int (0 : Int32))) ∧ Fr n0 L ∧ h = h0
theorem ef_m13 (m : MethodId) (a : Addr) (wcs : Int32) : entryFrame m #[(.ref a)] 1 = mkF m 0 #[.val (.ref a)] [] := by first | (simp [entryFrame, mkF, argsToLocals, Value.category]; done) | rfl
set_option maxRecDepth 65536 in
set_option maxHeartbeats 40000000 in
theorem m13 (l : Launch) (Z : State) (a0 : Array Value) (hw : ∀ d ∈ tables_1, d.before a0 Z = true) (ws : List Jvm.Cond) (a : Addr) (wcs : Int32) (h0 : Heap) (n0 : Nat) (Z0 : n0 ≤ h0.size) (Fc_a : Fld Z h0 a "java/lang/String" "coder" "B" (.int (0 : Int32))) (S_CS : Sta Z h0 "java/lang/String" "COMPACT_STRINGS" "Z" (.int wcs)) (ncs : ¬ (wcs = (0 : Int32))) :
    MetFree l (⟨"java/lang/String", "coder", "()B"⟩ : MethodName) (head1 (Jvm.Cond.code (⟨"java/lang/String", "coder", "()B"⟩ : MethodName) jdk_42_method_152_code 1 (some .byte) :: ws) ({ frames := 0, cells := 0, slots := 0, locals := 0 } : Room)) (fun ar_ U => ar_ = #[(.ref a)] ∧ Z.Warmed39 U.vm ∧ U.heap = h0) (fun _ _ _ _ _ => True) (fun _ U o U' => ∃ v L, o = .returned v ∧ Q_m13 Z a wcs h0 n0 v U'.heap L ∧ FrameEnd U o U' L ({ frames := 0, cells := 0, slots := 0, locals := 0 } : Room).cells ({ frames := 0, cells := 0, slots := 0, locals := 0 } : Room).slots) := by
  refine MetFree.of_bodySF (plainFor_of_name pnx_java_lang_String) hisR ?_
  intro p e s m args below meth c s₁ Bd hml0 hP hK
  obtain ⟨rfl, hZ, hh⟩ := hP
  have hx := Bd.exec
  have hby := Bd.bytes
  have hml : c.maxLocals = 1 := hml0
  have hown : s.vm.findClass "java/lang/String" = some m.cls := findClass_of_methodNamed Bd.named
  have hnm := (name_of_methodNamed Bd.named Bd.method).1
  have X0 : Stand p l e ({ frames := 0, cells := 0, slots := 0, locals := 0 } : Room) s m #[(.ref a)] below meth c s₁ [] 0 0 := Stand.of_body Bd
  have e0 : s₁.heap = h0 := by rw [← hh, Bd.state]; rfl
  have N0 := Fr.nil n0
  have pre0 : ∀ tq_, Steps p.tables e below (s₁.setTop (mkF m 0 #[.val (.ref a)] [])) tq_ → Steps p.tables e below (s₁.setTop (entryFrame m #[(.ref a)] 1)) tq_ := fun tq_ kt_ => castTop (ef_m13 m a wcs ) kt_
  obtain ⟨T1, X1, e1, st1⟩ := getS2 X0 hx hZ hown (host := "") (Or.inl (wk hw 22 rfl)) Via.refl e0 S_CS (g := (mkF m 0 #[.val (.ref a)] [])) rfl (hb hby d13_0)
  obtain ⟨T2, X2, e2, st2⟩ := getF X1 hx hZ hown (host := "") (Or.inl (wk hw 34 rfl)) Via.refl e1 Fc_a (g := (mkF m 7 #[.val (.ref a)] [(.ref a)])) rfl rfl (hb hby d13_7)
  obtain ⟨fs, hr, hrun, hended, hW, hsame⟩ := X2.leave (v := some (.int (0 : Int32))) (fun h => by rw [Bd.returns] at h; cases h)
  refine ⟨_, _, pre0 _ ?_, hrun, hended, _, _, rfl, ?_, ⟨_, rfl⟩, hW, hsame.mono (nle rfl) (nle rfl)⟩
  · show Steps p.tables e below (s₁.setTop (mkF m 0 #[.val (.ref a)] [])) _
    refine st1 _ ?_
    show Steps p.tables e below (T1.setTop (mkF m 3 #[.val (.ref a)] [(.int wcs)])) _
    refine XS.ifNo X1.here hx rfl (hb hby d13_3) rfl ((if0 _ _).trans (feq (ncs : ¬ (wcs = (0 : Int32)))).1) ?_
    show Steps p.tables e below (T1.setTop (mkF m 6 #[.val (.ref a)] [])) _
    refine XS.aloadN X1.here hx rfl (hb hby d13_6) rfl rfl ?_
    show Steps p.tables e below (T1.setTop (mkF m 7 #[.val (.ref a)] [(.ref a)])) _
    refine st2 _ ?_
    show Steps p.tables e below (T2.setTop (mkF m 10 #[.val (.ref a)] [(.int (0 : Int32))])) _
    refine XS.goto X2.here hx rfl (pc0 := 10) (pc' := 14) rfl (hb hby d13_10) (by decide) (by decide) ?_
    show Steps p.tables e below (T2.setTop (mkF m 14 #[.val (.ref a)] [(.int (0 : Int32))])) _
    exact own_retN X2 hx (t := .byte) rfl Bd.returns (by simp) (hb hby d13_14) hr
  · show Q_m13 Z a wcs h0 n0 _ T2.heap _
    exact ⟨rfl, N0, e2⟩
theorem pdx___B : parseMethodDescriptor "()B" = some ⟨[], some .byte⟩ := by decide +kernel
theorem d12_0 : decode jdk_42_method_54_code 0 = .ok (.aload_n 0, 1) := by decide +kernel
theorem d12_1 : decode jdk_42_method_54_code 1 = .ok (.getfield 9, 3) := by decide +kernel
theorem d12_4 : decode jdk_42_method_54_code 4 = .ok (.arraylength, 1) := by decide +kernel
theorem d12_5 : decode jdk_42_method_54_code 5 = .ok (.aload_n 0, 1) := by decide +kernel
theorem d12_6 : decode jdk_42_method_54_code 6 = .ok (.invokevirtual 335, 3) := by decide +kernel
theorem d12_9 : decode jdk_42_method_54_code 9 = .ok (.ishr, 1) := by decide +kernel
theorem d12_10 : decode jdk_42_method_54_code 10 = .ok (.ireturn, 1) := by decide +kernel
def Q_m12 (Z : State) (a : Addr) (t : Addr) (k : ClassId) (z : Int32) (vs : List Value) (wcs : Int32) (h0 : Heap) (n0 : Nat) (v : Option Value) (h : Heap) (L : List Loc) : Prop := v = (some (.int z)) ∧ Fr n0 L ∧ h = h0
theorem ef_m12 (m : MethodId) (a : Addr) (t : Addr) (k : ClassId) (z : Int32) (vs : List Value) (wcs : Int32) : entryFrame m #[(.ref a)] 1 = mkF m 0 #[.val (.ref a)] [] := by first | (simp [entryFrame, mkF, argsToLocals, Value.category]; done) | rfl
set_option maxRecDepth 65536 in
set_option maxHeartbeats 40000000 in
theorem m12 (l : Launch) (Z : State) (a0 : Array Value) (hw : ∀ d ∈ tables_1, d.before a0 Z = true) (ws : List Jvm.Cond) (a : Addr) (t : Addr) (k : ClassId) (z : Int32) (vs : List Value) (wcs : Int32) (h0 : Heap) (n0 : Nat) (Z0 : n0 ≤ h0.size) (E_a : Exa Z h0 a "java/lang/String") (Fc_a : Fld Z h0 a "java/lang/String" "coder" "B" (.int (0 : Int32))) (Fv_a : Fld Z h0 a "java/lang/String" "value" "[B" (.ref t)) (V : Arv Z h0 t k .byte z vs (.int (0 : Int32))) (S_CS : Sta Z h0 "java/lang/String" "COMPACT_STRINGS" "Z" (.int wcs)) (ncs : ¬ (wcs = (0 : Int32))) :
    MetFree l (⟨"java/lang/String", "length", "()I"⟩ : MethodName) (head1 (Jvm.Cond.code (⟨"java/lang/String", "length", "()I"⟩ : MethodName) jdk_42_method_54_code 1 (some .int) :: ws) ({ frames := 1, cells := 0, slots := 0, locals := 13 } : Room)) (fun ar_ U => ar_ = #[(.ref a)] ∧ Z.Warmed39 U.vm ∧ U.heap = h0) (fun _ _ _ _ _ => True) (fun _ U o U' => ∃ v L, o = .returned v ∧ Q_m12 Z a t k z vs wcs h0 n0 v U'.heap L ∧ FrameEnd U o U' L ({ frames := 1, cells := 0, slots := 0, locals := 13 } : Room).cells ({ frames := 1, cells := 0, slots := 0, locals := 13 } : Room).slots) := by
  refine MetFree.of_bodySF (plainFor_of_name pnx_java_lang_String) hisR ?_
  intro p e s m args below meth c s₁ Bd hml0 hP hK
  obtain ⟨rfl, hZ, hh⟩ := hP
  have hx := Bd.exec
  have hby := Bd.bytes
  have hml : c.maxLocals = 1 := hml0
  have hown : s.vm.findClass "java/lang/String" = some m.cls := findClass_of_methodNamed Bd.named
  have hnm := (name_of_methodNamed Bd.named Bd.method).1
  have X0 : Stand p l e ({ frames := 1, cells := 0, slots := 0, locals := 13 } : Room) s m #[(.ref a)] below meth c s₁ [] 0 0 := Stand.of_body Bd
  have e0 : s₁.heap = h0 := by rw [← hh, Bd.state]; rfl
  have N0 := Fr.nil n0
  have pre0 : ∀ tq_, Steps p.tables e below (s₁.setTop (mkF m 0 #[.val (.ref a)] [])) tq_ → Steps p.tables e below (s₁.setTop (entryFrame m #[(.ref a)] 1)) tq_ := fun tq_ kt_ => castTop (ef_m12 m a t k z vs wcs ) kt_
  obtain ⟨T1, X1, e1, st1⟩ := getF X0 hx hZ hown (host := "") (Or.inl (wk hw 36 rfl)) Via.refl e0 Fv_a (g := (mkF m 1 #[.val (.ref a)] [(.ref a)])) rfl rfl (hb hby d12_1)
  obtain ⟨c2, Ar2, -, Sz2, Nz2, -⟩ := id V
  obtain ⟨cq3, kq3, qa3, qb3, qc3⟩ := isOf hZ e1 E_a
  obtain ⟨_, _, ⟨T3, L3, kk3, nn3⟩, -, X3, ⟨Lc3, hQ3, l3, y3, z3⟩, st3⟩ := X1.virtualBack hx (y := (⟨"java/lang/String", "coder", "()B"⟩ : MethodName)) (z := (⟨"java/lang/String", "coder", "()B"⟩ : MethodName)) hown (mvT hZ (wk hw 59 rfl)) (mvT hZ (wk hw 60 rfl)) (notFace_of_selects (args := #[]) (mvT hZ (wk hw 62 rfl))) (mvT hZ (wk hw 62 rfl)) (mvT hZ (wk hw 61 rfl)) (by decide) (backOf (W := 1) (m13 l Z a0 hw [] a wcs h0 n0 Z0 Fc_a S_CS ncs) hZ (wk hw 63 rfl) (wk hw 10 rfl) (by decide) (by decide)) qa3 qc3 (g := (mkF m 6 #[.val (.ref a)] [(.ref a), (.int z)])) rfl (by rw [hml]; rfl) (Steps.refl _) (argsL := []) (rest := [(.int z)]) (lenOf pdx___B rfl) rfl (by show 2 * 0 + _ ≤ _; exact Nat.le_of_eq rfl) (hb hby d12_6) (fun _ _ => ⟨rfl, e1, nle rfl, nle rfl⟩)
  dsimp only [Pt.U, Pt.locs, Pt.cells, Pt.slots] at X3 l3 y3 z3 st3 hQ3
  subst l3 y3 z3
  obtain ⟨rfl, Nq3, e3⟩ := hQ3
  have N3 := Fr.app N0 Nq3
  obtain ⟨fs, hr, hrun, hended, hW, hsame⟩ := X3.leave (v := some (.int z)) (fun h => by rw [Bd.returns] at h; cases h)
  refine ⟨_, _, pre0 _ ?_, hrun, hended, _, _, rfl, ?_, ⟨_, rfl⟩, hW, hsame.mono (nle rfl) (nle rfl)⟩
  · show Steps p.tables e below (s₁.setTop (mkF m 0 #[.val (.ref a)] [])) _
    refine XS.aloadN X0.here hx rfl (hb hby d12_0) rfl rfl ?_
    show Steps p.tables e below (s₁.setTop (mkF m 1 #[.val (.ref a)] [(.ref a)])) _
    refine st1 _ ?_
    show Steps p.tables e below (T1.setTop (mkF m 4 #[.val (.ref a)] [(.ref t)])) _
    refine X1.arraylength hx (by rw [e1]; exact Ar2.1) (State.isArrayOf_alike hZ.alike Ar2.2.1) (g := (mkF m 4 #[.val (.ref a)] [(.ref t)])) rfl rfl (hb hby d12_4) _ ?_
    rw [len_of Sz2 Nz2]
    show Steps p.tables e below (T1.setTop (mkF m 5 #[.val (.ref a)] [(.int z)])) _
    refine XS.aloadN X1.here hx rfl (hb hby d12_5) rfl rfl ?_
    show Steps p.tables e below (T1.setTop (mkF m 6 #[.val (.ref a)] [(.ref a), (.int z)])) _
    refine st3.trans ?_
    show Steps p.tables e below (T3.setTop (mkF m 9 #[.val (.ref a)] [(.int (0 : Int32)), (.int z)])) _
    refine XS.ishr X3.here hx rfl (hb hby d12_9) rfl ?_
    show Steps p.tables e below (T3.setTop (mkF m 10 #[.val (.ref a)] [(.int (z >>> ((0 : Int32) &&& 31)))])) _
    rw [own_shr0]
    show Steps p.tables e below (T3.setTop (mkF m 10 #[.val (.ref a)] [(.int z)])) _
    exact retI X3 hx Bd.returns (hb hby d12_10) hr
  · show Q_m12 Z a t k z vs wcs h0 n0 _ T3.heap _
    exact ⟨rfl, N3, e3⟩
theorem d15_0 : decode jdk_42_method_154_code 0 = .ok (.getstatic 38, 3) := by decide +kernel
theorem d15_3 : decode jdk_42_method_154_code 3 = .ok (.ifCond .eq 14, 3) := by decide +kernel
theorem d15_6 : decode jdk_42_method_154_code 6 = .ok (.aload_n 0, 1) := by decide +kernel
theorem d15_7 : decode jdk_42_method_154_code 7 = .ok (.getfield 15, 3) := by decide +kernel
theorem d15_10 : decode jdk_42_method_154_code 10 = .ok (.ifCond .ne 7, 3) := by decide +kernel
theorem d15_13 : decode jdk_42_method_154_code 13 = .ok (.iconst 1, 1) := by decide +kernel
theorem d15_14 : decode jdk_42_method_154_code 14 = .ok (.goto 4, 3) := by decide +kernel
theorem d15_18 : decode jdk_42_method_154_code 18 = .ok (.ireturn, 1) := by decide +kernel
def Q_m15 (Z : State) (a : Addr) (wcs : Int32) (h0 : Heap) (n0 : Nat) (v : Option Value) (h : Heap) (L : List Loc) : Prop := v = (some (.int (1 : Int32))) ∧ Fr n0 L ∧ h = h0
theorem ef_m15 (m : MethodId) (a : Addr) (wcs : Int32) : entryFrame m #[(.ref a)] 1 = mkF m 0 #[.val (.ref a)] [] := by first | (simp [entryFrame, mkF, argsToLocals, Value.category]; done) | rfl
set_option maxRecDepth 65536 in
set_option maxHeartbeats 40000000 in
theorem m15 (l : Launch) (Z : State) (a0 : Array Value) (hw : ∀ d ∈ tables_1, d.before a0 Z = true) (ws : List Jvm.Cond) (a : Addr) (wcs : Int32) (h0 : Heap) (n0 : Nat) (Z0 : n0 ≤ h0.size) (E_a : Exa Z h0 a "java/lang/String") (Fc_a : Fld Z h0 a "java/lang/String" "coder" "B" (.int (0 : Int32))) (S_CS : Sta Z h0 "java/lang/String" "COMPACT_STRINGS" "Z" (.int wcs)) (ncs : ¬ (wcs = (0 : Int32))) :
    MetFree l (⟨"java/lang/String", "isLatin1", "()Z"⟩ : MethodName) (head1 (Jvm.Cond.code (⟨"java/lang/String", "isLatin1", "()Z"⟩ : MethodName) jdk_42_method_154_code 1 (some .boolean) :: ws) ({ frames := 0, cells := 0, slots := 0, locals := 0 } : Room)) (fun ar_ U => ar_ = #[(.ref a)] ∧ Z.Warmed39 U.vm ∧ U.heap = h0) (fun _ _ _ _ _ => True) (fun _ U o U' => ∃ v L, o = .returned v ∧ Q_m15 Z a wcs h0 n0 v U'.heap L ∧ FrameEnd U o U' L ({ frames := 0, cells := 0, slots := 0, locals := 0 } : Room).cells ({ frames := 0, cells := 0, slots := 0, locals := 0 } : Room).slots) := by
  refine MetFree.of_bodySF (plainFor_of_name pnx_java_lang_String) hisR ?_
  intro p e s m args below meth c s₁ Bd hml0 hP hK
  obtain ⟨rfl, hZ, hh⟩ := hP
  have hx := Bd.exec
  have hby := Bd.bytes
  have hml : c.maxLocals = 1 := hml0
  have hown : s.vm.findClass "java/lang/String" = some m.cls := findClass_of_methodNamed Bd.named
  have hnm := (name_of_methodNamed Bd.named Bd.method).1
  have X0 : Stand p l e ({ frames := 0, cells := 0, slots := 0, locals := 0 } : Room) s m #[(.ref a)] below meth c s₁ [] 0 0 := Stand.of_body Bd
  have e0 : s₁.heap = h0 := by rw [← hh, Bd.state]; rfl
  have N0 := Fr.nil n0
  have pre0 : ∀ tq_, Steps p.tables e below (s₁.setTop (mkF m 0 #[.val (.ref a)] [])) tq_ → Steps p.tables e below (s₁.setTop (entryFrame m #[(.ref a)] 1)) tq_ := fun tq_ kt_ => castTop (ef_m15 m a wcs ) kt_
  obtain ⟨T1, X1, e1, st1⟩ := getS2 X0 hx hZ hown (host := "") (Or.inl (wk hw 22 rfl)) Via.refl e0 S_CS (g := (mkF m 0 #[.val (.ref a)] [])) rfl (hb hby d15_0)
  obtain ⟨T2, X2, e2, st2⟩ := getF X1 hx hZ hown (host := "") (Or.inl (wk hw 34 rfl)) Via.refl e1 Fc_a (g := (mkF m 7 #[.val (.ref a)] [(.ref a)])) rfl rfl (hb hby d15_7)
  obtain ⟨fs, hr, hrun, hended, hW, hsame⟩ := X2.leave (v := some (.int (1 : Int32))) (fun h => by rw [Bd.returns] at h; cases h)
  refine ⟨_, _, pre0 _ ?_, hrun, hended, _, _, rfl, ?_, ⟨_, rfl⟩, hW, hsame.mono (nle rfl) (nle rfl)⟩
  · show Steps p.tables e below (s₁.setTop (mkF m 0 #[.val (.ref a)] [])) _
    refine st1 _ ?_
    show Steps p.tables e below (T1.setTop (mkF m 3 #[.val (.ref a)] [(.int wcs)])) _
    refine XS.ifNo X1.here hx rfl (hb hby d15_3) rfl ((if0 _ _).trans (feq (ncs : ¬ (wcs = (0 : Int32)))).1) ?_
    show Steps p.tables e below (T1.setTop (mkF m 6 #[.val (.ref a)] [])) _
    refine XS.aloadN X1.here hx rfl (hb hby d15_6) rfl rfl ?_
    show Steps p.tables e below (T1.setTop (mkF m 7 #[.val (.ref a)] [(.ref a)])) _
    refine st2 _ ?_
    show Steps p.tables e below (T2.setTop (mkF m 10 #[.val (.ref a)] [(.int (0 : Int32))])) _
    refine XS.ifNo X2.here hx rfl (hb hby d15_10) rfl ((if0 _ _).trans (teq (by decide : (0 : Int32) = (0 : Int32))).2) ?_
    show Steps p.tables e below (T2.setTop (mkF m 13 #[.val (.ref a)] [])) _
    refine XS.iconst X2.here hx rfl (hb hby d15_13) ?_
    show Steps p.tables e below (T2.setTop (mkF m 14 #[.val (.ref a)] [(.int (1 : Int32))])) _
    refine XS.goto X2.here hx rfl (pc0 := 14) (pc' := 18) rfl (hb hby d15_14) (by decide) (by decide) ?_
    show Steps p.tables e below (T2.setTop (mkF m 18 #[.val (.ref a)] [(.int (1 : Int32))])) _
    exact own_retN X2 hx (t := .boolean) rfl Bd.returns (by simp) (hb hby d15_18) hr
  · show Q_m15 Z a wcs h0 n0 _ T2.heap _
    exact ⟨rfl, N0, e2⟩
theorem d17_0 : decode jdk_41_method_11_code 0 = .ok (.iload_n 0, 1) := by decide +kernel
theorem d17_1 : decode jdk_41_method_11_code 1 = .ok (.ifCond .lt 8, 3) := by decide +kernel
theorem d17_4 : decode jdk_41_method_11_code 4 = .ok (.iload_n 0, 1) := by decide +kernel
theorem d17_5 : decode jdk_41_method_11_code 5 = .ok (.iload_n 1, 1) := by decide +kernel
theorem d17_6 : decode jdk_41_method_11_code 6 = .ok (.if_icmp .lt 10, 3) := by decide +kernel
theorem d17_16 : decode jdk_41_method_11_code 16 = .ok (.iload_n 0, 1) := by decide +kernel
theorem d17_17 : decode jdk_41_method_11_code 17 = .ok (.ireturn, 1) := by decide +kernel
theorem pnx_jdk_internal_util_Preconditions : plainName "jdk/internal/util/Preconditions" = true := by first | (simp [plainName, overriddenIn]; done) | decide +kernel
def Q_m17 (Z : State) (j : Int32) (z : Int32) (rg : Value) (h0 : Heap) (n0 : Nat) (v : Option Value) (h : Heap) (L : List Loc) : Prop := v = (some (.int j)) ∧ Fr n0 L ∧ h = h0
theorem ef_m17 (m : MethodId) (j : Int32) (z : Int32) (rg : Value) (r_rg : rg.isRef = true) : entryFrame m #[(.int j), (.int z), rg] 3 = mkF m 0 #[.val (.int j), .val (.int z), .val rg] [] := by
  have c1 : ∀ a : Addr, (Value.ref a).category = 1 := fun _ => rfl
  have c2 : ∀ z : Int32, (Value.int z).category = 1 := fun _ => rfl
  have c3 : Value.null.category = 1 := rfl
  simp [entryFrame, mkF, argsToLocals, own_catv r_rg, c1, c2, c3]
set_option maxRecDepth 65536 in
set_option maxHeartbeats 40000000 in
theorem m17 (l : Launch) (Z : State) (a0 : Array Value) (hw : ∀ d ∈ tables_1, d.before a0 Z = true) (ws : List Jvm.Cond) (j : Int32) (z : Int32) (rg : Value) (h0 : Heap) (n0 : Nat) (Z0 : n0 ≤ h0.size) (hj0 : ¬ (j < (0 : Int32))) (hjz : j < z) (r_rg : rg.isRef = true) :
    MetFree l (⟨"jdk/internal/util/Preconditions", "checkIndex", "(IILjava/util/function/BiFunction;)I"⟩ : MethodName) (head1 (Jvm.Cond.code (⟨"jdk/internal/util/Preconditions", "checkIndex", "(IILjava/util/function/BiFunction;)I"⟩ : MethodName) jdk_41_method_11_code 3 (some .int) :: ws) ({ frames := 0, cells := 0, slots := 0, locals := 0 } : Room)) (fun ar_ U => ar_ = #[(.int j), (.int z), rg] ∧ Z.Warmed39 U.vm ∧ U.heap = h0) (fun _ _ _ _ _ => True) (fun _ U o U' => ∃ v L, o = .returned v ∧ Q_m17 Z j z rg h0 n0 v U'.heap L ∧ FrameEnd U o U' L ({ frames := 0, cells := 0, slots := 0, locals := 0 } : Room).cells ({ frames := 0, cells := 0, slots := 0, locals := 0 } : Room).slots) := by
  refine MetFree.of_bodySF (plainFor_of_name pnx_jdk_internal_util_Preconditions) hisR ?_
  intro p e s m args below meth c s₁ Bd hml0 hP hK
  obtain ⟨rfl, hZ, hh⟩ := hP
  have hx := Bd.exec
  have hby := Bd.bytes
  have hml : c.maxLocals = 3 := hml0
  have hown : s.vm.findClass "jdk/internal/util/Preconditions" = some m.cls := findClass_of_methodNamed Bd.named
  have hnm := (name_of_methodNamed Bd.named Bd.method).1
  have X0 : Stand p l e ({ frames := 0, cells := 0, slots := 0, locals := 0 } : Room) s m #[(.int j), (.int z), rg] below meth c s₁ [] 0 0 := Stand.of_body Bd
  have e0 : s₁.heap = h0 := by rw [← hh, Bd.state]; rfl
  have N0 := Fr.nil n0
  have pre0 : ∀ tq_, Steps p.tables e below (s₁.setTop (mkF m 0 #[.val (.int j), .val (.int z), .val rg] [])) tq_ → Steps p.tables e below (s₁.setTop (entryFrame m #[(.int j), (.int z), rg] 3)) tq_ := fun tq_ kt_ => castTop (ef_m17 m j z rg r_rg) kt_
  obtain ⟨fs, hr, hrun, hended, hW, hsame⟩ := X0.leave (v := some (.int j)) (fun h => by rw [Bd.returns] at h; cases h)
  refine ⟨_, _, pre0 _ ?_, hrun, hended, _, _, rfl, ?_, ⟨_, rfl⟩, hW, hsame.mono (nle rfl) (nle rfl)⟩
  · show Steps p.tables e below (s₁.setTop (mkF m 0 #[.val (.int j), .val (.int z), .val rg] [])) _
    refine XS.iloadN X0.here hx rfl (hb hby d17_0) rfl ?_
    show Steps p.tables e below (s₁.setTop (mkF m 1 #[.val (.int j), .val (.int z), .val rg] [(.int j)])) _
    refine XS.ifNo X0.here hx rfl (hb hby d17_1) rfl ((if0 _ _).trans (flt (hj0 : ¬ (j < (0 : Int32)))).1) ?_
    show Steps p.tables e below (s₁.setTop (mkF m 4 #[.val (.int j), .val (.int z), .val rg] [])) _
    refine XS.iloadN X0.here hx rfl (hb hby d17_4) rfl ?_
    show Steps p.tables e below (s₁.setTop (mkF m 5 #[.val (.int j), .val (.int z), .val rg] [(.int j)])) _
    refine XS.iloadN X0.here hx rfl (hb hby d17_5) rfl ?_
    show Steps p.tables e below (s₁.setTop (mkF m 6 #[.val (.int j), .val (.int z), .val rg] [(.int z), (.int j)])) _
    refine XS.icmpYes X0.here hx rfl (pc0 := 6) (pc' := 16) rfl (hb hby d17_6) rfl (tlt (hjz : j < z)).1 (by decide) (by decide) ?_
    show Steps p.tables e below (s₁.setTop (mkF m 16 #[.val (.int j), .val (.int z), .val rg] [])) _
    refine XS.iloadN X0.here hx rfl (hb hby d17_16) rfl ?_
    show Steps p.tables e below (s₁.setTop (mkF m 17 #[.val (.int j), .val (.int z), .val rg] [(.int j)])) _
    exact retI X0 hx Bd.returns (hb hby d17_17) hr
  · show Q_m17 Z j z rg h0 n0 _ s₁.heap _
    exact ⟨rfl, N0, e0⟩
theorem pdx__IILjava_util_function_BiFunction__I : parseMethodDescriptor "(IILjava/util/function/BiFunction;)I" = some ⟨[.int, .int, (.object "java/util/function/BiFunction")], some .int⟩ := by decide +kernel
theorem d16_0 : decode jdk_42_method_155_code 0 = .ok (.iload_n 0, 1) := by decide +kernel
theorem d16_1 : decode jdk_42_method_155_code 1 = .ok (.iload_n 1, 1) := by decide +kernel
theorem d16_2 : decode jdk_42_method_155_code 2 = .ok (.getstatic 1053, 3) := by decide +kernel
theorem d16_5 : decode jdk_42_method_155_code 5 = .ok (.invokestatic 1059, 3) := by decide +kernel
theorem d16_8 : decode jdk_42_method_155_code 8 = .ok (.pop, 1) := by decide +kernel
theorem d16_9 : decode jdk_42_method_155_code 9 = .ok (.return_, 1) := by decide +kernel
def Q_m16 (Z : State) (j : Int32) (z : Int32) (rg : Value) (h0 : Heap) (n0 : Nat) (v : Option Value) (h : Heap) (L : List Loc) : Prop := v = none ∧ Fr n0 L ∧ h = h0
theorem ef_m16 (m : MethodId) (j : Int32) (z : Int32) (rg : Value) : entryFrame m #[(.int j), (.int z)] 2 = mkF m 0 #[.val (.int j), .val (.int z)] [] := by first | (simp [entryFrame, mkF, argsToLocals, Value.category]; done) | rfl
set_option maxRecDepth 65536 in
set_option maxHeartbeats 40000000 in
theorem m16 (l : Launch) (Z : State) (a0 : Array Value) (hw : ∀ d ∈ tables_1, d.before a0 Z = true) (ws : List Jvm.Cond) (j : Int32) (z : Int32) (rg : Value) (h0 : Heap) (n0 : Nat) (Z0 : n0 ≤ h0.size) (hj0 : ¬ (j < (0 : Int32))) (hjz : j < z) (S_SI : Sta Z h0 "jdk/internal/util/Preconditions" "SIOOBE_FORMATTER" "Ljava/util/function/BiFunction;" rg) (r_rg : rg.isRef = true) :
    MetFree l (⟨"java/lang/String", "checkIndex", "(II)V"⟩ : MethodName) (head1 (Jvm.Cond.code (⟨"java/lang/String", "checkIndex", "(II)V"⟩ : MethodName) jdk_42_method_155_code 2 none :: ws) ({ frames := 1, cells := 0, slots := 0, locals := 14 } : Room)) (fun ar_ U => ar_ = #[(.int j), (.int z)] ∧ Z.Warmed39 U.vm ∧ U.heap = h0) (fun _ _ _ _ _ => True) (fun _ U o U' => ∃ v L, o = .returned v ∧ Q_m16 Z j z rg h0 n0 v U'.heap L ∧ FrameEnd U o U' L ({ frames := 1, cells := 0, slots := 0, locals := 14 } : Room).cells ({ frames := 1, cells := 0, slots := 0, locals := 14 } : Room).slots) := by
  refine MetFree.of_bodySF (plainFor_of_name pnx_java_lang_String) hisR ?_
  intro p e s m args below meth c s₁ Bd hml0 hP hK
  obtain ⟨rfl, hZ, hh⟩ := hP
  have hx := Bd.exec
  have hby := Bd.bytes
  have hml : c.maxLocals = 2 := hml0
  have hown : s.vm.findClass "java/lang/String" = some m.cls := findClass_of_methodNamed Bd.named
  have hnm := (name_of_methodNamed Bd.named Bd.method).1
  have X0 : Stand p l e ({ frames := 1, cells := 0, slots := 0, locals := 14 } : Room) s m #[(.int j), (.int z)] below meth c s₁ [] 0 0 := Stand.of_body Bd
  have e0 : s₁.heap = h0 := by rw [← hh, Bd.state]; rfl
  have N0 := Fr.nil n0
  have pre0 : ∀ tq_, Steps p.tables e below (s₁.setTop (mkF m 0 #[.val (.int j), .val (.int z)] [])) tq_ → Steps p.tables e below (s₁.setTop (entryFrame m #[(.int j), (.int z)] 2)) tq_ := fun tq_ kt_ => castTop (ef_m16 m j z rg ) kt_
  obtain ⟨T1, X1, e1, st1⟩ := getS2 X0 hx hZ hown (host := "") (Or.inl (wk hw 77 rfl)) Via.refl e0 S_SI (g := (mkF m 2 #[.val (.int j), .val (.int z)] [(.int z), (.int j)])) rfl (hb hby d16_2)
  obtain ⟨_, _, ⟨T2, L2, kk2, nn2⟩, -, X2, ⟨Lc2, hQ2, l2, y2, z2⟩, st2⟩ := Jvm.LawKit.callS X1 hx (y := (⟨"jdk/internal/util/Preconditions", "checkIndex", "(IILjava/util/function/BiFunction;)I"⟩ : MethodName)) hown (mvT hZ (wk hw 79 rfl)) (mvT hZ (wk hw 80 rfl)) (mvT hZ (wk hw 78 rfl)) (mvT hZ (wk hw 81 rfl)) (by decide) (backOf (W := 0) (m17 l Z a0 hw [] j z rg h0 n0 Z0 hj0 hjz r_rg) hZ (wk hw 81 rfl) (wk hw 78 rfl) (by decide) (by decide)) (g := (mkF m 5 #[.val (.int j), .val (.int z)] [rg, (.int z), (.int j)])) rfl (by rw [hml]; rfl) (argsL := [(.int j), (.int z), rg]) (rest := []) (lenOf pdx__IILjava_util_function_BiFunction__I rfl) rfl (by show 2 * 0 + _ ≤ _; exact Nat.le_of_eq rfl) (hb hby d16_5) (fun _ _ => ⟨rfl, e1, nle rfl, nle rfl⟩)
  dsimp only [Pt.U, Pt.locs, Pt.cells, Pt.slots] at X2 l2 y2 z2 st2 hQ2
  subst l2 y2 z2
  obtain ⟨rfl, Nq2, e2⟩ := hQ2
  have N2 := Fr.app N0 Nq2
  obtain ⟨fs, hr, hrun, hended, hW, hsame⟩ := X2.leave (v := none) (fun _ => rfl)
  refine ⟨_, _, pre0 _ ?_, hrun, hended, _, _, rfl, ?_, ⟨_, rfl⟩, hW, hsame.mono (nle rfl) (nle rfl)⟩
  · show Steps p.tables e below (s₁.setTop (mkF m 0 #[.val (.int j), .val (.int z)] [])) _
    refine XS.iloadN X0.here hx rfl (hb hby d16_0) rfl ?_
    show Steps p.tables e below (s₁.setTop (mkF m 1 #[.val (.int j), .val (.int z)] [(.int j)])) _
    refine XS.iloadN X0.here hx rfl (hb hby d16_1) rfl ?_
    show Steps p.tables e below (s₁.setTop (mkF m 2 #[.val (.int j), .val (.int z)] [(.int z), (.int j)])) _
    refine st1 _ ?_
    show Steps p.tables e below (T1.setTop (mkF m 5 #[.val (.int j), .val (.int z)] [rg, (.int z), (.int j)])) _
    refine st2 _ ?_
    show Steps p.tables e below (T2.setTop (mkF m 8 #[.val (.int j), .val (.int z)] [(.int j)])) _
    refine XS.pop X2.here hx rfl (hb hby d16_8) rfl rfl ?_
    show Steps p.tables e below (T2.setTop (mkF m 9 #[.val (.int j), .val (.int z)] [])) _
    exact X2.returnOut hx Bd.returns (hb hby d16_9) hr
  · show Q_m16 Z j z rg h0 n0 _ T2.heap _
    exact ⟨rfl, N2, e2⟩
theorem pdx___Z : parseMethodDescriptor "()Z" = some ⟨[], some .boolean⟩ := by decide +kernel
theorem pdx__II_V : parseMethodDescriptor "(II)V" = some ⟨[.int, .int], none⟩ := by decide +kernel
theorem d14_0 : decode jdk_42_method_57_code 0 = .ok (.aload_n 0, 1) := by decide +kernel
theorem d14_1 : decode jdk_42_method_57_code 1 = .ok (.invokevirtual 492, 3) := by decide +kernel
theorem d14_4 : decode jdk_42_method_57_code 4 = .ok (.ifCond .eq 23, 3) := by decide +kernel
theorem d14_7 : decode jdk_42_method_57_code 7 = .ok (.iload_n 1, 1) := by decide +kernel
theorem d14_8 : decode jdk_42_method_57_code 8 = .ok (.aload_n 0, 1) := by decide +kernel
theorem d14_9 : decode jdk_42_method_57_code 9 = .ok (.getfield 9, 3) := by decide +kernel
theorem d14_12 : decode jdk_42_method_57_code 12 = .ok (.arraylength, 1) := by decide +kernel
theorem d14_13 : decode jdk_42_method_57_code 13 = .ok (.invokestatic 499, 3) := by decide +kernel
theorem d14_16 : decode jdk_42_method_57_code 16 = .ok (.aload_n 0, 1) := by decide +kernel
theorem d14_17 : decode jdk_42_method_57_code 17 = .ok (.getfield 9, 3) := by decide +kernel
theorem d14_20 : decode jdk_42_method_57_code 20 = .ok (.iload_n 1, 1) := by decide +kernel
theorem d14_21 : decode jdk_42_method_57_code 21 = .ok (.baload, 1) := by decide +kernel
theorem d14_22 : decode jdk_42_method_57_code 22 = .ok (.sipush 255, 3) := by decide +kernel
theorem d14_25 : decode jdk_42_method_57_code 25 = .ok (.iand, 1) := by decide +kernel
theorem d14_26 : decode jdk_42_method_57_code 26 = .ok (.ireturn, 1) := by decide +kernel
def Q_m14 (Z : State) (a : Addr) (t : Addr) (k : ClassId) (z : Int32) (vs : List Value) (j : Int32) (x : Int32) (wcs : Int32) (rg : Value) (h0 : Heap) (n0 : Nat) (v : Option Value) (h : Heap) (L : List Loc) : Prop := v = (some (.int (x &&& (255 : Int32)))) ∧ Fr n0 L ∧ h = h0
theorem ef_m14 (m : MethodId) (a : Addr) (t : Addr) (k : ClassId) (z : Int32) (vs : List Value) (j : Int32) (x : Int32) (wcs : Int32) (rg : Value) : entryFrame m #[(.ref a), (.int j)] 3 = mkF m 0 #[.val (.ref a), .val (.int j), .unset] [] := by first | (simp [entryFrame, mkF, argsToLocals, Value.category]; done) | rfl
set_option maxRecDepth 65536 in
set_option maxHeartbeats 40000000 in
theorem m14 (l : Launch) (Z : State) (a0 : Array Value) (hw : ∀ d ∈ tables_1, d.before a0 Z = true) (ws : List Jvm.Cond) (a : Addr) (t : Addr) (k : ClassId) (z : Int32) (vs : List Value) (j : Int32) (x : Int32) (wcs : Int32) (rg : Value) (h0 : Heap) (n0 : Nat) (Z0 : n0 ≤ h0.size) (E_a : Exa Z h0 a "java/lang/String") (Fc_a : Fld Z h0 a "java/lang/String" "coder" "B" (.int (0 : Int32))) (Fv_a : Fld Z h0 a "java/lang/String" "value" "[B" (.ref t)) (V : Arv Z h0 t k .byte z vs (.int (0 : Int32))) (hj0 : ¬ (j < (0 : Int32))) (hjz : j < z) (hv : vs.getD j.toNatClampNeg (.int (0 : Int32)) = .int x) (S_CS : Sta Z h0 "java/lang/String" "COMPACT_STRINGS" "Z" (.int wcs)) (ncs : ¬ (wcs = (0 : Int32))) (S_SI : Sta Z h0 "jdk/internal/util/Preconditions" "SIOOBE_FORMATTER" "Ljava/util/function/BiFunction;" rg) (r_rg : rg.isRef = true) :
    MetFree l (⟨"java/lang/String", "codePointAt", "(I)I"⟩ : MethodName) (head1 (Jvm.Cond.code (⟨"java/lang/String", "codePointAt", "(I)I"⟩ : MethodName) jdk_42_method_57_code 3 (some .int) :: ws) ({ frames := 2, cells := 0, slots := 0, locals := 27 } : Room)) (fun ar_ U => ar_ = #[(.ref a), (.int j)] ∧ Z.Warmed39 U.vm ∧ U.heap = h0) (fun _ _ _ _ _ => True) (fun _ U o U' => ∃ v L, o = .returned v ∧ Q_m14 Z a t k z vs j x wcs rg h0 n0 v U'.heap L ∧ FrameEnd U o U' L ({ frames := 2, cells := 0, slots := 0, locals := 27 } : Room).cells ({ frames := 2, cells := 0, slots := 0, locals := 27 } : Room).slots) := by
  refine MetFree.of_bodySF (plainFor_of_name pnx_java_lang_String) hisR ?_
  intro p e s m args below meth c s₁ Bd hml0 hP hK
  obtain ⟨rfl, hZ, hh⟩ := hP
  have hx := Bd.exec
  have hby := Bd.bytes
  have hml : c.maxLocals = 3 := hml0
  have hown : s.vm.findClass "java/lang/String" = some m.cls := findClass_of_methodNamed Bd.named
  have hnm := (name_of_methodNamed Bd.named Bd.method).1
  have X0 : Stand p l e ({ frames := 2, cells := 0, slots := 0, locals := 27 } : Room) s m #[(.ref a), (.int j)] below meth c s₁ [] 0 0 := Stand.of_body Bd
  have e0 : s₁.heap = h0 := by rw [← hh, Bd.state]; rfl
  have N0 := Fr.nil n0
  have pre0 : ∀ tq_, Steps p.tables e below (s₁.setTop (mkF m 0 #[.val (.ref a), .val (.int j), .unset] [])) tq_ → Steps p.tables e below (s₁.setTop (entryFrame m #[(.ref a), (.int j)] 3)) tq_ := fun tq_ kt_ => castTop (ef_m14 m a t k z vs j x wcs rg ) kt_
  obtain ⟨cq1, kq1, qa1, qb1, qc1⟩ := isOf hZ e0 E_a
  obtain ⟨_, _, ⟨T1, L1, kk1, nn1⟩, -, X1, ⟨Lc1, hQ1, l1, y1, z1⟩, st1⟩ := X0.virtualBack hx (y := (⟨"java/lang/String", "isLatin1", "()Z"⟩ : MethodName)) (z := (⟨"java/lang/String", "isLatin1", "()Z"⟩ : MethodName)) hown (mvT hZ (wk hw 69 rfl)) (mvT hZ (wk hw 70 rfl)) (notFace_of_selects (args := #[]) (mvT hZ (wk hw 72 rfl))) (mvT hZ (wk hw 72 rfl)) (mvT hZ (wk hw 71 rfl)) (by decide) (backOf (W := 0) (m15 l Z a0 hw [] a wcs h0 n0 Z0 E_a Fc_a S_CS ncs) hZ (wk hw 73 rfl) (wk hw 10 rfl) (by decide) (by decide)) qa1 qc1 (g := (mkF m 1 #[.val (.ref a), .val (.int j), .unset] [(.ref a)])) rfl (by rw [hml]; rfl) (Steps.refl _) (argsL := []) (rest := []) (lenOf pdx___Z rfl) rfl (by show 2 * 0 + _ ≤ _; exact Nat.le_of_eq rfl) (hb hby d14_1) (fun _ _ => ⟨rfl, e0, nle rfl, nle rfl⟩)
  dsimp only [Pt.U, Pt.locs, Pt.cells, Pt.slots] at X1 l1 y1 z1 st1 hQ1
  subst l1 y1 z1
  obtain ⟨rfl, Nq1, e1⟩ := hQ1
  have N1 := Fr.app N0 Nq1
  obtain ⟨T2, X2, e2, st2⟩ := getF X1 hx hZ hown (host := "") (Or.inl (wk hw 36 rfl)) Via.refl e1 Fv_a (g := (mkF m 9 #[.val (.ref a), .val (.int j), .unset] [(.ref a), (.int j)])) rfl rfl (hb hby d14_9)
  obtain ⟨c3, Ar3, -, Sz3, Nz3, -⟩ := id V
  obtain ⟨_, _, ⟨T4, L4, kk4, nn4⟩, -, X4, ⟨Lc4, hQ4, l4, y4, z4⟩, st4⟩ := Jvm.LawKit.callS X2 hx (y := (⟨"java/lang/String", "checkIndex", "(II)V"⟩ : MethodName)) hown (mvT hZ (wk hw 74 rfl)) (mvT hZ (wk hw 75 rfl)) (mvT hZ (wk hw 10 rfl)) (mvT hZ (wk hw 76 rfl)) (by decide) (backOf (W := 0) (m16 l Z a0 hw [] j z rg h0 n0 Z0 hj0 hjz S_SI r_rg) hZ (wk hw 76 rfl) (wk hw 10 rfl) (by decide) (by decide)) (g := (mkF m 13 #[.val (.ref a), .val (.int j), .unset] [(.int z), (.int j)])) rfl (by rw [hml]; rfl) (argsL := [(.int j), (.int z)]) (rest := []) (lenOf pdx__II_V rfl) rfl (by show 2 * 0 + _ ≤ _; exact Nat.le_of_eq rfl) (hb hby d14_13) (fun _ _ => ⟨rfl, e2, nle rfl, nle rfl⟩)
  dsimp only [Pt.U, Pt.locs, Pt.cells, Pt.slots] at X4 l4 y4 z4 st4 hQ4
  subst l4 y4 z4
  obtain ⟨rfl, Nq4, e4⟩ := hQ4
  have N4 := Fr.app N1 Nq4
  obtain ⟨T5, X5, e5, st5⟩ := getF X4 hx hZ hown (host := "") (Or.inl (wk hw 36 rfl)) Via.refl e4 Fv_a (g := (mkF m 17 #[.val (.ref a), .val (.int j), .unset] [(.ref a)])) rfl rfl (hb hby d14_17)
  obtain ⟨c6, Ar6, -, Sz6, -, H6, -⟩ := id V
  have hin6 := inb_of Sz6 ⟨hj0, hjz⟩
  have hat6 := H6 j.toNatClampNeg (Nat.lt_of_not_le fun q => hin6 (Or.inr q))
  rw [hv] at hat6
  obtain ⟨fs, hr, hrun, hended, hW, hsame⟩ := X5.leave (v := some (.int (x &&& (255 : Int32)))) (fun h => by rw [Bd.returns] at h; cases h)
  refine ⟨_, _, pre0 _ ?_, hrun, hended, _, _, rfl, ?_, ⟨_, rfl⟩, hW, hsame.mono (nle rfl) (nle rfl)⟩
  · show Steps p.tables e below (s₁.setTop (mkF m 0 #[.val (.ref a), .val (.int j), .unset] [])) _
    refine XS.aloadN X0.here hx rfl (hb hby d14_0) rfl rfl ?_
    show Steps p.tables e below (s₁.setTop (mkF m 1 #[.val (.ref a), .val (.int j), .unset] [(.ref a)])) _
    refine st1.trans ?_
    show Steps p.tables e below (T1.setTop (mkF m 4 #[.val (.ref a), .val (.int j), .unset] [(.int (1 : Int32))])) _
    refine XS.ifNo X1.here hx rfl (hb hby d14_4) rfl ((if0 _ _).trans (feq (by decide : ¬ ((1 : Int32) = (0 : Int32)))).1) ?_
    show Steps p.tables e below (T1.setTop (mkF m 7 #[.val (.ref a), .val (.int j), .unset] [])) _
    refine XS.iloadN X1.here hx rfl (hb hby d14_7) rfl ?_
    show Steps p.tables e below (T1.setTop (mkF m 8 #[.val (.ref a), .val (.int j), .unset] [(.int j)])) _
    refine XS.aloadN X1.here hx rfl (hb hby d14_8) rfl rfl ?_
    show Steps p.tables e below (T1.setTop (mkF m 9 #[.val (.ref a), .val (.int j), .unset] [(.ref a), (.int j)])) _
    refine st2 _ ?_
    show Steps p.tables e below (T2.setTop (mkF m 12 #[.val (.ref a), .val (.int j), .unset] [(.ref t), (.int j)])) _
    refine X2.arraylength hx (by rw [e2]; exact Ar3.1) (State.isArrayOf_alike hZ.alike Ar3.2.1) (g := (mkF m 12 #[.val (.ref a), .val (.int j), .unset] [(.ref t), (.int j)])) rfl rfl (hb hby d14_12) _ ?_
    rw [len_of Sz3 Nz3]
    show Steps p.tables e below (T2.setTop (mkF m 13 #[.val (.ref a), .val (.int j), .unset] [(.int z), (.int j)])) _
    refine st4 _ ?_
    show Steps p.tables e below (T4.setTop (mkF m 16 #[.val (.ref a), .val (.int j), .unset] [])) _
    refine XS.aloadN X4.here hx rfl (hb hby d14_16) rfl rfl ?_
    show Steps p.tables e below (T4.setTop (mkF m 17 #[.val (.ref a), .val (.int j), .unset] [(.ref a)])) _
    refine st5 _ ?_
    show Steps p.tables e below (T5.setTop (mkF m 20 #[.val (.ref a), .val (.int j), .unset] [(.ref t)])) _
    refine XS.iloadN X5.here hx rfl (hb hby d14_20) rfl ?_
    show Steps p.tables e below (T5.setTop (mkF m 21 #[.val (.ref a), .val (.int j), .unset] [(.int j), (.ref t)])) _
    refine X5.baloadBytes hx (j := j) (v := (.int x)) (by rw [e5]; exact Ar6.1) (State.isArrayOf_alike hZ.alike Ar6.2.1) Ar6.2.2 hin6 hat6 (g := (mkF m 21 #[.val (.ref a), .val (.int j), .unset] [(.int j), (.ref t)])) rfl rfl (hb hby d14_21) _ ?_
    show Steps p.tables e below (T5.setTop (mkF m 22 #[.val (.ref a), .val (.int j), .unset] [(.int x)])) _
    refine XS.sipush X5.here hx rfl (hb hby d14_22) ?_
    show Steps p.tables e below (T5.setTop (mkF m 25 #[.val (.ref a), .val (.int j), .unset] [(.int (255 : Int32)), (.int x)])) _
    refine XS.iand X5.here hx rfl (hb hby d14_25) rfl ?_
    show Steps p.tables e below (T5.setTop (mkF m 26 #[.val (.ref a), .val (.int j), .unset] [(.int (x &&& (255 : Int32)))])) _
    exact retI X5 hx Bd.returns (hb hby d14_26) hr
  · show Q_m14 Z a t k z vs j x wcs rg h0 n0 _ T5.heap _
    exact ⟨rfl, N4, e5⟩
theorem d11_0 : decode jdk_42_method_55_code 0 = .ok (.aload_n 0, 1) := by decide +kernel
theorem d11_1 : decode jdk_42_method_55_code 1 = .ok (.getfield 9, 3) := by decide +kernel
theorem d11_4 : decode jdk_42_method_55_code 4 = .ok (.arraylength, 1) := by decide +kernel
theorem d11_5 : decode jdk_42_method_55_code 5 = .ok (.ifCond .ne 7, 3) := by decide +kernel
theorem d11_12 : decode jdk_42_method_55_code 12 = .ok (.iconst 0, 1) := by decide +kernel
theorem d11_13 : decode jdk_42_method_55_code 13 = .ok (.ireturn, 1) := by decide +kernel
def Q_m11 (Z : State) (a : Addr) (t : Addr) (k : ClassId) (z : Int32) (vs : List Value) (h0 : Heap) (n0 : Nat) (v : Option Value) (h : Heap) (L : List Loc) : Prop := v = (some (.int (0 : Int32))) ∧ Fr n0 L ∧ h = h0
theorem ef_m11 (m : MethodId) (a : Addr) (t : Addr) (k : ClassId) (z : Int32) (vs : List Value) : entryFrame m #[(.ref a)] 1 = mkF m 0 #[.val (.ref a)] [] := by first | (simp [entryFrame, mkF, argsToLocals, Value.category]; done) | rfl
set_option maxRecDepth 65536 in
set_option maxHeartbeats 40000000 in
theorem m11 (l : Launch) (Z : State) (a0 : Array Value) (hw : ∀ d ∈ tables_1, d.before a0 Z = true) (ws : List Jvm.Cond) (a : Addr) (t : Addr) (k : ClassId) (z : Int32) (vs : List Value) (h0 : Heap) (n0 : Nat) (Z0 : n0 ≤ h0.size) (E_a : Exa Z h0 a "java/lang/String") (Fc_a : Fld Z h0 a "java/lang/String" "coder" "B" (.int (0 : Int32))) (Fv_a : Fld Z h0 a "java/lang/String" "value" "[B" (.ref t)) (V : Arv Z h0 t k .byte z vs (.int (0 : Int32))) (hz0 : ¬ (z = (0 : Int32))) :
    MetFree l (⟨"java/lang/String", "isEmpty", "()Z"⟩ : MethodName) (head1 (Jvm.Cond.code (⟨"java/lang/String", "isEmpty", "()Z"⟩ : MethodName) jdk_42_method_55_code 1 (some .boolean) :: ws) ({ frames := 0, cells := 0, slots := 0, locals := 0 } : Room)) (fun ar_ U => ar_ = #[(.ref a)] ∧ Z.Warmed39 U.vm ∧ U.heap = h0) (fun _ _ _ _ _ => True) (fun _ U o U' => ∃ v L, o = .returned v ∧ Q_m11 Z a t k z vs h0 n0 v U'.heap L ∧ FrameEnd U o U' L ({ frames := 0, cells := 0, slots := 0, locals := 0 } : Room).cells ({ frames := 0, cells := 0, slots := 0, locals := 0 } : Room).slots) := by
  refine MetFree.of_bodySF (plainFor_of_name pnx_java_lang_String) hisR ?_
  intro p e s m args below meth c s₁ Bd hml0 hP hK
  obtain ⟨rfl, hZ, hh⟩ := hP
  have hx := Bd.exec
  have hby := Bd.bytes
  have hml : c.maxLocals = 1 := hml0
  have hown : s.vm.findClass "java/lang/String" = some m.cls := findClass_of_methodNamed Bd.named
  have hnm := (name_of_methodNamed Bd.named Bd.method).1
  have X0 : Stand p l e ({ frames := 0, cells := 0, slots := 0, locals := 0 } : Room) s m #[(.ref a)] below meth c s₁ [] 0 0 := Stand.of_body Bd
  have e0 : s₁.heap = h0 := by rw [← hh, Bd.state]; rfl
  have N0 := Fr.nil n0
  have pre0 : ∀ tq_, Steps p.tables e below (s₁.setTop (mkF m 0 #[.val (.ref a)] [])) tq_ → Steps p.tables e below (s₁.setTop (entryFrame m #[(.ref a)] 1)) tq_ := fun tq_ kt_ => castTop (ef_m11 m a t k z vs ) kt_
  obtain ⟨T1, X1, e1, st1⟩ := getF X0 hx hZ hown (host := "") (Or.inl (wk hw 36 rfl)) Via.refl e0 Fv_a (g := (mkF m 1 #[.val (.ref a)] [(.ref a)])) rfl rfl (hb hby d11_1)
  obtain ⟨c2, Ar2, -, Sz2, Nz2, -⟩ := id V
  obtain ⟨fs, hr, hrun, hended, hW, hsame⟩ := X1.leave (v := some (.int (0 : Int32))) (fun h => by rw [Bd.returns] at h; cases h)
  refine ⟨_, _, pre0 _ ?_, hrun, hended, _, _, rfl, ?_, ⟨_, rfl⟩, hW, hsame.mono (nle rfl) (nle rfl)⟩
  · show Steps p.tables e below (s₁.setTop (mkF m 0 #[.val (.ref a)] [])) _
    refine XS.aloadN X0.here hx rfl (hb hby d11_0) rfl rfl ?_
    show Steps p.tables e below (s₁.setTop (mkF m 1 #[.val (.ref a)] [(.ref a)])) _
    refine st1 _ ?_
    show Steps p.tables e below (T1.setTop (mkF m 4 #[.val (.ref a)] [(.ref t)])) _
    refine X1.arraylength hx (by rw [e1]; exact Ar2.1) (State.isArrayOf_alike hZ.alike Ar2.2.1) (g := (mkF m 4 #[.val (.ref a)] [(.ref t)])) rfl rfl (hb hby d11_4) _ ?_
    rw [len_of Sz2 Nz2]
    show Steps p.tables e below (T1.setTop (mkF m 5 #[.val (.ref a)] [(.int z)])) _
    refine XS.ifYes X1.here hx rfl (pc0 := 5) (pc' := 12) rfl (hb hby d11_5) rfl ((if0 _ _).trans (feq (hz0 : ¬ (z = (0 : Int32)))).2) (by decide) (by decide) ?_
    show Steps p.tables e below (T1.setTop (mkF m 12 #[.val (.ref a)] [])) _
    refine XS.iconst X1.here hx rfl (hb hby d11_12) ?_
    show Steps p.tables e below (T1.setTop (mkF m 13 #[.val (.ref a)] [(.int (0 : Int32))])) _
    exact own_retN X1 hx (t := .boolean) rfl Bd.returns (by simp) (hb hby d11_13) hr
  · show Q_m11 Z a t k z vs h0 n0 _ T1.heap _
    exact ⟨rfl, N0, e1⟩
theorem d10_0 : decode jdk_31_method_11_code 0 = .ok (.aload_n 0, 1) := by decide +kernel
theorem d10_1 : decode jdk_31_method_11_code 1 = .ok (.ifnonnull 12, 3) := by decide +kernel
theorem d10_13 : decode jdk_31_method_11_code 13 = .ok (.aload_n 0, 1) := by decide +kernel
theorem d10_14 : decode jdk_31_method_11_code 14 = .ok (.areturn, 1) := by decide +kernel
theorem pnx_java_util_Objects : plainName "java/util/Objects" = true := by first | (simp [plainName, overriddenIn]; done) | decide +kernel
def Q_m10 (Z : State) (a : Addr) (b : Addr) (h0 : Heap) (n0 : Nat) (v : Option Value) (h : Heap) (L : List Loc) : Prop := v = (some (.ref a)) ∧ Fr n0 L ∧ h = h0
theorem ef_m10 (m : MethodId) (a : Addr) (b : Addr) : entryFrame m #[(.ref a), (.ref b)] 2 = mkF m 0 #[.val (.ref a), .val (.ref b)] [] := by first | (simp [entryFrame, mkF, argsToLocals, Value.category]; done) | rfl
set_option maxRecDepth 65536 in
set_option maxHeartbeats 40000000 in
theorem m10 (l : Launch) (Z : State) (a0 : Array Value) (hw : ∀ d ∈ tables_1, d.before a0 Z = true) (ws : List Jvm.Cond) (a : Addr) (b : Addr) (h0 : Heap) (n0 : Nat) (Z0 : n0 ≤ h0.size)  :
    MetFree l (⟨"java/util/Objects", "requireNonNull", "(Ljava/lang/Object;Ljava/lang/String;)Ljava/lang/Object;"⟩ : MethodName) (head1 (Jvm.Cond.code (⟨"java/util/Objects", "requireNonNull", "(Ljava/lang/Object;Ljava/lang/String;)Ljava/lang/Object;"⟩ : MethodName) jdk_31_method_11_code 2 (some (.object "java/lang/Object")) :: ws) ({ frames := 0, cells := 0, slots := 0, locals := 0 } : Room)) (fun ar_ U => ar_ = #[(.ref a), (.ref b)] ∧ Z.Warmed39 U.vm ∧ U.heap = h0) (fun _ _ _ _ _ => True) (fun _ U o U' => ∃ v L, o = .returned v ∧ Q_m10 Z a b h0 n0 v U'.heap L ∧ FrameEnd U o U' L ({ frames := 0, cells := 0, slots := 0, locals := 0 } : Room).cells ({ frames := 0, cells := 0, slots := 0, locals := 0 } : Room).slots) := by
  refine MetFree.of_bodySF (plainFor_of_name pnx_java_util_Objects) hisR ?_
  intro p e s m args below meth c s₁ Bd hml0 hP hK
  obtain ⟨rfl, hZ, hh⟩ := hP
  have hx := Bd.exec
  have hby := Bd.bytes
  have hml : c.maxLocals = 2 := hml0
  have hown : s.vm.findClass "java/util/Objects" = some m.cls := findClass_of_methodNamed Bd.named
  have hnm := (name_of_methodNamed Bd.named Bd.method).1
  have X0 : Stand p l e ({ frames := 0, cells := 0, slots := 0, locals := 0 } : Room) s m #[(.ref a), (.ref b)] below meth c s₁ [] 0 0 := Stand.of_body Bd
  have e0 : s₁.heap = h0 := by rw [← hh, Bd.state]; rfl
  have N0 := Fr.nil n0
  have pre0 : ∀ tq_, Steps p.tables e below (s₁.setTop (mkF m 0 #[.val (.ref a), .val (.ref b)] [])) tq_ → Steps p.tables e below (s₁.setTop (entryFrame m #[(.ref a), (.ref b)] 2)) tq_ := fun tq_ kt_ => castTop (ef_m10 m a b ) kt_
  obtain ⟨fs, hr, hrun, hended, hW, hsame⟩ := X0.leave (v := some (.ref a)) (fun h => by rw [Bd.returns] at h; cases h)
  refine ⟨_, _, pre0 _ ?_, hrun, hended, _, _, rfl, ?_, ⟨_, rfl⟩, hW, hsame.mono (nle rfl) (nle rfl)⟩
  · show Steps p.tables e below (s₁.setTop (mkF m 0 #[.val (.ref a), .val (.ref b)] [])) _
    refine XS.aloadN X0.here hx rfl (hb hby d10_0) rfl rfl ?_
    show Steps p.tables e below (s₁.setTop (mkF m 1 #[.val (.ref a), .val (.ref b)] [(.ref a)])) _
    refine XS.ifnonnullYes X0.here hx rfl (pc0 := 1) (pc' := 13) rfl (hb hby d10_1) rfl (by decide) (by decide) ?_
    show Steps p.tables e below (s₁.setTop (mkF m 13 #[.val (.ref a), .val (.ref b)] [])) _
    refine XS.aloadN X0.here hx rfl (hb hby d10_13) rfl rfl ?_
    show Steps p.tables e below (s₁.setTop (mkF m 14 #[.val (.ref a), .val (.ref b)] [(.ref a)])) _
    exact X0.areturnOut hx rfl Bd.returns rfl (hb hby d10_14) hr
  · show Q_m10 Z a b h0 n0 _ s₁.heap _
    exact ⟨rfl, N0, e0⟩
theorem d19_0 : decode jdk_89_method_18_code 0 = .ok (.iload_n 0, 1) := by decide +kernel
theorem d19_1 : decode jdk_89_method_18_code 1 = .ok (.ldc 73, 2) := by decide +kernel
theorem d19_3 : decode jdk_89_method_18_code 3 = .ok (.if_icmp .lt 7, 3) := by decide +kernel
theorem d19_10 : decode jdk_89_method_18_code 10 = .ok (.iconst 1, 1) := by decide +kernel
theorem d19_11 : decode jdk_89_method_18_code 11 = .ok (.ireturn, 1) := by decide +kernel
theorem pnx_java_lang_Character : plainName "java/lang/Character" = true := by first | (simp [plainName, overriddenIn]; done) | decide +kernel
def Q_m19 (Z : State) (x : Int32) (h0 : Heap) (n0 : Nat) (v : Option Value) (h : Heap) (L : List Loc) : Prop := v = (some (.int (1 : Int32))) ∧ Fr n0 L ∧ h = h0
theorem ef_m19 (m : MethodId) (x : Int32) : entryFrame m #[(.int x)] 1 = mkF m 0 #[.val (.int x)] [] := by first | (simp [entryFrame, mkF, argsToLocals, Value.category]; done) | rfl
set_option maxRecDepth 65536 in
set_option maxHeartbeats 40000000 in
theorem m19 (l : Launch) (Z : State) (a0 : Array Value) (hw : ∀ d ∈ tables_1, d.before a0 Z = true) (ws : List Jvm.Cond) (x : Int32) (h0 : Heap) (n0 : Nat) (Z0 : n0 ≤ h0.size) (hlt : x < (65536 : Int32)) :
    MetFree l (⟨"java/lang/Character", "charCount", "(I)I"⟩ : MethodName) (head1 (Jvm.Cond.code (⟨"java/lang/Character", "charCount", "(I)I"⟩ : MethodName) jdk_89_method_18_code 1 (some .int) :: ws) ({ frames := 0, cells := 0, slots := 0, locals := 0 } : Room)) (fun ar_ U => ar_ = #[(.int x)] ∧ Z.Warmed39 U.vm ∧ U.heap = h0) (fun _ _ _ _ _ => True) (fun _ U o U' => ∃ v L, o = .returned v ∧ Q_m19 Z x h0 n0 v U'.heap L ∧ FrameEnd U o U' L ({ frames := 0, cells := 0, slots := 0, locals := 0 } : Room).cells ({ frames := 0, cells := 0, slots := 0, locals := 0 } : Room).slots) := by
  refine MetFree.of_bodySF (plainFor_of_name pnx_java_lang_Character) hisR ?_
  intro p e s m args below meth c s₁ Bd hml0 hP hK
  obtain ⟨rfl, hZ, hh⟩ := hP
  have hx := Bd.exec
  have hby := Bd.bytes
  have hml : c.maxLocals = 1 := hml0
  have hown : s.vm.findClass "java/lang/Character" = some m.cls := findClass_of_methodNamed Bd.named
  have hnm := (name_of_methodNamed Bd.named Bd.method).1
  have X0 : Stand p l e ({ frames := 0, cells := 0, slots := 0, locals := 0 } : Room) s m #[(.int x)] below meth c s₁ [] 0 0 := Stand.of_body Bd
  have e0 : s₁.heap = h0 := by rw [← hh, Bd.state]; rfl
  have N0 := Fr.nil n0
  have pre0 : ∀ tq_, Steps p.tables e below (s₁.setTop (mkF m 0 #[.val (.int x)] [])) tq_ → Steps p.tables e below (s₁.setTop (entryFrame m #[(.int x)] 1)) tq_ := fun tq_ kt_ => castTop (ef_m19 m x ) kt_
  obtain ⟨fs, hr, hrun, hended, hW, hsame⟩ := X0.leave (v := some (.int (1 : Int32))) (fun h => by rw [Bd.returns] at h; cases h)
  refine ⟨_, _, pre0 _ ?_, hrun, hended, _, _, rfl, ?_, ⟨_, rfl⟩, hW, hsame.mono (nle rfl) (nle rfl)⟩
  · show Steps p.tables e below (s₁.setTop (mkF m 0 #[.val (.int x)] [])) _
    refine XS.iloadN X0.here hx rfl (hb hby d19_0) rfl ?_
    show Steps p.tables e below (s₁.setTop (mkF m 1 #[.val (.int x)] [(.int x)])) _
    refine X0.ldcInt hx hown (mvT hZ (wk hw 89 rfl)) (g := (mkF m 1 #[.val (.int x)] [(.int x)])) rfl (hb hby d19_1) _ ?_
    show Steps p.tables e below (s₁.setTop (mkF m 3 #[.val (.int x)] [(.int (65536 : Int32)), (.int x)])) _
    refine XS.icmpYes X0.here hx rfl (pc0 := 3) (pc' := 10) rfl (hb hby d19_3) rfl (tlt (hlt : x < (65536 : Int32))).1 (by decide) (by decide) ?_
    show Steps p.tables e below (s₁.setTop (mkF m 10 #[.val (.int x)] [])) _
    refine XS.iconst X0.here hx rfl (hb hby d19_10) ?_
    show Steps p.tables e below (s₁.setTop (mkF m 11 #[.val (.int x)] [(.int (1 : Int32))])) _
    exact retI X0 hx Bd.returns (hb hby d19_11) hr
  · show Q_m19 Z x h0 n0 _ s₁.heap _
    exact ⟨rfl, N0, e0⟩
theorem d31_0 : decode jdk_43_method_23_code 0 = .ok (.iload_n 1, 1) := by decide +kernel
theorem d31_1 : decode jdk_43_method_23_code 1 = .ok (.i2b, 1) := by decide +kernel
theorem d31_2 : decode jdk_43_method_23_code 2 = .ok (.istore 4, 2) := by decide +kernel
theorem d31_4 : decode jdk_43_method_23_code 4 = .ok (.iload_n 2, 1) := by decide +kernel
theorem d31_5 : decode jdk_43_method_23_code 5 = .ok (.istore 5, 2) := by decide +kernel
theorem d31_7 : decode jdk_43_method_23_code 7 = .ok (.iload 5, 2) := by decide +kernel
theorem d31_9 : decode jdk_43_method_23_code 9 = .ok (.iload_n 3, 1) := by decide +kernel
theorem d31_10 : decode jdk_43_method_23_code 10 = .ok (.if_icmp .ge 21, 3) := by decide +kernel
theorem d31_13 : decode jdk_43_method_23_code 13 = .ok (.aload_n 0, 1) := by decide +kernel
theorem d31_14 : decode jdk_43_method_23_code 14 = .ok (.iload 5, 2) := by decide +kernel
theorem d31_16 : decode jdk_43_method_23_code 16 = .ok (.baload, 1) := by decide +kernel
theorem d31_17 : decode jdk_43_method_23_code 17 = .ok (.iload 4, 2) := by decide +kernel
theorem d31_19 : decode jdk_43_method_23_code 19 = .ok (.if_icmp .ne 6, 3) := by decide +kernel
theorem d31_22 : decode jdk_43_method_23_code 22 = .ok (.iload 5, 2) := by decide +kernel
theorem d31_24 : decode jdk_43_method_23_code 24 = .ok (.ireturn, 1) := by decide +kernel
theorem pnx_java_lang_StringLatin1 : plainName "java/lang/StringLatin1" = true := by first | (simp [plainName, overriddenIn]; done) | decide +kernel
def Q_m31_0 (Z : State) (b : Addr) (kb : ClassId) (h0 : Heap) (n0 : Nat) (v : Option Value) (h : Heap) (L : List Loc) : Prop := v = (some (.int (0 : Int32))) ∧ Fr n0 L ∧ h = h0
theorem ef_m31_0 (m : MethodId) (b : Addr) (kb : ClassId) : entryFrame m #[(.ref b), (.int (46 : Int32)), (.int (0 : Int32)), (.int (5 : Int32))] 6 = mkF m 0 #[.val (.ref b), .val (.int (46 : Int32)), .val (.int (0 : Int32)), .val (.int (5 : Int32)), .unset, .unset] [] := by first | (simp [entryFrame, mkF, argsToLocals, Value.category]; done) | rfl
set_option maxRecDepth 65536 in
set_option maxHeartbeats 40000000 in
theorem m31_0 (l : Launch) (Z : State) (a0 : Array Value) (hw : ∀ d ∈ tables_1, d.before a0 Z = true) (ws : List Jvm.Cond) (b : Addr) (kb : ClassId) (h0 : Heap) (n0 : Nat) (Z0 : n0 ≤ h0.size) (V : Arv Z h0 b kb .byte (5 : Int32) [(.int (46 : Int32)), (.int (95 : Int32)), (.int (45 : Int32)), (.int (58 : Int32)), (.int (47 : Int32))] (.int (0 : Int32))) :
    MetFree l (⟨"java/lang/StringLatin1", "indexOfChar", "([BIII)I"⟩ : MethodName) (head1 (Jvm.Cond.code (⟨"java/lang/StringLatin1", "indexOfChar", "([BIII)I"⟩ : MethodName) jdk_43_method_23_code 6 (some .int) :: ws) ({ frames := 0, cells := 0, slots := 0, locals := 0 } : Room)) (fun ar_ U => ar_ = #[(.ref b), (.int (46 : Int32)), (.int (0 : Int32)), (.int (5 : Int32))] ∧ Z.Warmed39 U.vm ∧ U.heap = h0) (fun _ _ _ _ _ => True) (fun _ U o U' => ∃ v L, o = .returned v ∧ Q_m31_0 Z b kb h0 n0 v U'.heap L ∧ FrameEnd U o U' L ({ frames := 0, cells := 0, slots := 0, locals := 0 } : Room).cells ({ frames := 0, cells := 0, slots := 0, locals := 0 } : Room).slots) := by
  refine MetFree.of_bodySF (plainFor_of_name pnx_java_lang_StringLatin1) hisR ?_
  intro p e s m args below meth c s₁ Bd hml0 hP hK
  obtain ⟨rfl, hZ, hh⟩ := hP
  have hx := Bd.exec
  have hby := Bd.bytes
  have hml : c.maxLocals = 6 := hml0
  have hown : s.vm.findClass "java/lang/StringLatin1" = some m.cls := findClass_of_methodNamed Bd.named
  have hnm := (name_of_methodNamed Bd.named Bd.method).1
  have X0 : Stand p l e ({ frames := 0, cells := 0, slots := 0, locals := 0 } : Room) s m #[(.ref b), (.int (46 : Int32)), (.int (0 : Int32)), (.int (5 : Int32))] below meth c s₁ [] 0 0 := Stand.of_body Bd
  have e0 : s₁.heap = h0 := by rw [← hh, Bd.state]; rfl
  have N0 := Fr.nil n0
  have pre0 : ∀ tq_, Steps p.tables e below (s₁.setTop (mkF m 0 #[.val (.ref b), .val (.int (46 : Int32)), .val (.int (0 : Int32)), .val (.int (5 : Int32)), .unset, .unset] [])) tq_ → Steps p.tables e below (s₁.setTop (entryFrame m #[(.ref b), (.int (46 : Int32)), (.int (0 : Int32)), (.int (5 : Int32))] 6)) tq_ := fun tq_ kt_ => castTop (ef_m31_0 m b kb ) kt_
  obtain ⟨c1, Ar1, -, Sz1, -, H1, -⟩ := id V
  have hin1 := inb_of (j := (0 : Int32)) Sz1 ⟨by decide, by decide⟩
  have hat1 : c1.slots[((0 : Int32) : Int32).toNatClampNeg]? = some (.int (46 : Int32)) := H1 _ (Nat.lt_of_not_le fun q => hin1 (Or.inr q))
  obtain ⟨fs, hr, hrun, hended, hW, hsame⟩ := X0.leave (v := some (.int (0 : Int32))) (fun h => by rw [Bd.returns] at h; cases h)
  refine ⟨_, _, pre0 _ ?_, hrun, hended, _, _, rfl, ?_, ⟨_, rfl⟩, hW, hsame.mono (nle rfl) (nle rfl)⟩
  · show Steps p.tables e below (s₁.setTop (mkF m 0 #[.val (.ref b), .val (.int (46 : Int32)), .val (.int (0 : Int32)), .val (.int (5 : Int32)), .unset, .unset] [])) _
    refine XS.iloadN X0.here hx rfl (hb hby d31_0) rfl ?_
    show Steps p.tables e below (s₁.setTop (mkF m 1 #[.val (.ref b), .val (.int (46 : Int32)), .val (.int (0 : Int32)), .val (.int (5 : Int32)), .unset, .unset] [(.int (46 : Int32))])) _
    show Steps p.tables e below (s₁.setTop (mkF m 1 #[.val (.ref b), .val (.int (46 : Int32)), .val (.int (0 : Int32)), .val (.int (5 : Int32)), .unset, .unset] [(.int (46 : Int32))])) _
    refine XS.i2b X0.here hx rfl (hb hby d31_1) rfl ?_
    show Steps p.tables e below (s₁.setTop (mkF m 2 #[.val (.ref b), .val (.int (46 : Int32)), .val (.int (0 : Int32)), .val (.int (5 : Int32)), .unset, .unset] [(.int ((46 : Int32).toInt8.toInt32))])) _
    rw [show ((46 : Int32).toInt8.toInt32) = (46 : Int32) from by decide]
    show Steps p.tables e below (s₁.setTop (mkF m 2 #[.val (.ref b), .val (.int (46 : Int32)), .val (.int (0 : Int32)), .val (.int (5 : Int32)), .unset, .unset] [(.int (46 : Int32))])) _
    refine XS.istore X0.here hx rfl (hb hby d31_2) rfl (l' := #[.val (.ref b), .val (.int (46 : Int32)), .val (.int (0 : Int32)), .val (.int (5 : Int32)), .val (.int (46 : Int32)), .unset]) rfl ?_
    show Steps p.tables e below (s₁.setTop (mkF m 4 #[.val (.ref b), .val (.int (46 : Int32)), .val (.int (0 : Int32)), .val (.int (5 : Int32)), .val (.int (46 : Int32)), .unset] [])) _
    refine XS.iloadN X0.here hx rfl (hb hby d31_4) rfl ?_
    show Steps p.tables e below (s₁.setTop (mkF m 5 #[.val (.ref b), .val (.int (46 : Int32)), .val (.int (0 : Int32)), .val (.int (5 : Int32)), .val (.int (46 : Int32)), .unset] [(.int (0 : Int32))])) _
    refine XS.istore X0.here hx rfl (hb hby d31_5) rfl (l' := #[.val (.ref b), .val (.int (46 : Int32)), .val (.int (0 : Int32)), .val (.int (5 : Int32)), .val (.int (46 : Int32)), .val (.int (0 : Int32))]) rfl ?_
    show Steps p.tables e below (s₁.setTop (mkF m 7 #[.val (.ref b), .val (.int (46 : Int32)), .val (.int (0 : Int32)), .val (.int (5 : Int32)), .val (.int (46 : Int32)), .val (.int (0 : Int32))] [])) _
    refine XS.iload X0.here hx rfl (hb hby d31_7) rfl ?_
    show Steps p.tables e below (s₁.setTop (mkF m 9 #[.val (.ref b), .val (.int (46 : Int32)), .val (.int (0 : Int32)), .val (.int (5 : Int32)), .val (.int (46 : Int32)), .val (.int (0 : Int32))] [(.int (0 : Int32))])) _
    refine XS.iloadN X0.here hx rfl (hb hby d31_9) rfl ?_
    show Steps p.tables e below (s₁.setTop (mkF m 10 #[.val (.ref b), .val (.int (46 : Int32)), .val (.int (0 : Int32)), .val (.int (5 : Int32)), .val (.int (46 : Int32)), .val (.int (0 : Int32))] [(.int (5 : Int32)), (.int (0 : Int32))])) _
    refine XS.icmpNo X0.here hx rfl (hb hby d31_10) rfl (tlt (by decide : (0 : Int32) < (5 : Int32))).2.1 ?_
    show Steps p.tables e below (s₁.setTop (mkF m 13 #[.val (.ref b), .val (.int (46 : Int32)), .val (.int (0 : Int32)), .val (.int (5 : Int32)), .val (.int (46 : Int32)), .val (.int (0 : Int32))] [])) _
    refine XS.aloadN X0.here hx rfl (hb hby d31_13) rfl rfl ?_
    show Steps p.tables e below (s₁.setTop (mkF m 14 #[.val (.ref b), .val (.int (46 : Int32)), .val (.int (0 : Int32)), .val (.int (5 : Int32)), .val (.int (46 : Int32)), .val (.int (0 : Int32))] [(.ref b)])) _
    refine XS.iload X0.here hx rfl (hb hby d31_14) rfl ?_
    show Steps p.tables e below (s₁.setTop (mkF m 16 #[.val (.ref b), .val (.int (46 : Int32)), .val (.int (0 : Int32)), .val (.int (5 : Int32)), .val (.int (46 : Int32)), .val (.int (0 : Int32))] [(.int (0 : Int32)), (.ref b)])) _
    refine X0.baloadBytes hx (j := (0 : Int32)) (v := (.int (46 : Int32))) (by rw [e0]; exact Ar1.1) (State.isArrayOf_alike hZ.alike Ar1.2.1) Ar1.2.2 hin1 hat1 (g := (mkF m 16 #[.val (.ref b), .val (.int (46 : Int32)), .val (.int (0 : Int32)), .val (.int (5 : Int32)), .val (.int (46 : Int32)), .val (.int (0 : Int32))] [(.int (0 : Int32)), (.ref b)])) rfl rfl (hb hby d31_16) _ ?_
    show Steps p.tables e below (s₁.setTop (mkF m 17 #[.val (.ref b), .val (.int (46 : Int32)), .val (.int (0 : Int32)), .val (.int (5 : Int32)), .val (.int (46 : Int32)), .val (.int (0 : Int32))] [(.int (46 : Int32))])) _
    refine XS.iload X0.here hx rfl (hb hby d31_17) rfl ?_
    show Steps p.tables e below (s₁.setTop (mkF m 19 #[.val (.ref b), .val (.int (46 : Int32)), .val (.int (0 : Int32)), .val (.int (5 : Int32)), .val (.int (46 : Int32)), .val (.int (0 : Int32))] [(.int (46 : Int32)), (.int (46 : Int32))])) _
    refine XS.icmpNo X0.here hx rfl (hb hby d31_19) rfl (teq (by decide : (46 : Int32) = (46 : Int32))).2 ?_
    show Steps p.tables e below (s₁.setTop (mkF m 22 #[.val (.ref b), .val (.int (46 : Int32)), .val (.int (0 : Int32)), .val (.int (5 : Int32)), .val (.int (46 : Int32)), .val (.int (0 : Int32))] [])) _
    refine XS.iload X0.here hx rfl (hb hby d31_22) rfl ?_
    show Steps p.tables e below (s₁.setTop (mkF m 24 #[.val (.ref b), .val (.int (46 : Int32)), .val (.int (0 : Int32)), .val (.int (5 : Int32)), .val (.int (46 : Int32)), .val (.int (0 : Int32))] [(.int (0 : Int32))])) _
    exact retI X0 hx Bd.returns (hb hby d31_24) hr
  · show Q_m31_0 Z b kb h0 n0 _ s₁.heap _
    exact ⟨rfl, N0, e0⟩
theorem d31_25 : decode jdk_43_method_23_code 25 = .ok (.iinc 5 1, 3) := by decide +kernel
theorem d31_28 : decode jdk_43_method_23_code 28 = .ok (.goto (-21), 3) := by decide +kernel
def Q_m31_1 (Z : State) (b : Addr) (kb : ClassId) (h0 : Heap) (n0 : Nat) (v : Option Value) (h : Heap) (L : List Loc) : Prop := v = (some (.int (1 : Int32))) ∧ Fr n0 L ∧ h = h0
theorem ef_m31_1 (m : MethodId) (b : Addr) (kb : ClassId) : entryFrame m #[(.ref b), (.int (95 : Int32)), (.int (0 : Int32)), (.int (5 : Int32))] 6 = mkF m 0 #[.val (.ref b), .val (.int (95 : Int32)), .val (.int (0 : Int32)), .val (.int (5 : Int32)), .unset, .unset] [] := by first | (simp [entryFrame, mkF, argsToLocals, Value.category]; done) | rfl
set_option maxRecDepth 65536 in
set_option maxHeartbeats 40000000 in
theorem m31_1 (l : Launch) (Z : State) (a0 : Array Value) (hw : ∀ d ∈ tables_1, d.before a0 Z = true) (ws : List Jvm.Cond) (b : Addr) (kb : ClassId) (h0 : Heap) (n0 : Nat) (Z0 : n0 ≤ h0.size) (V : Arv Z h0 b kb .byte (5 : Int32) [(.int (46 : Int32)), (.int (95 : Int32)), (.int (45 : Int32)), (.int (58 : Int32)), (.int (47 : Int32))] (.int (0 : Int32))) :
    MetFree l (⟨"java/lang/StringLatin1", "indexOfChar", "([BIII)I"⟩ : MethodName) (head1 (Jvm.Cond.code (⟨"java/lang/StringLatin1", "indexOfChar", "([BIII)I"⟩ : MethodName) jdk_43_method_23_code 6 (some .int) :: ws) ({ frames := 0, cells := 0, slots := 0, locals := 0 } : Room)) (fun ar_ U => ar_ = #[(.ref b), (.int (95 : Int32)), (.int (0 : Int32)), (.int (5 : Int32))] ∧ Z.Warmed39 U.vm ∧ U.heap = h0) (fun _ _ _ _ _ => True) (fun _ U o U' => ∃ v L, o = .returned v ∧ Q_m31_1 Z b kb h0 n0 v U'.heap L ∧ FrameEnd U o U' L ({ frames := 0, cells := 0, slots := 0, locals := 0 } : Room).cells ({ frames := 0, cells := 0, slots := 0, locals := 0 } : Room).slots) := by
  refine MetFree.of_bodySF (plainFor_of_name pnx_java_lang_StringLatin1) hisR ?_
  intro p e s m args below meth c s₁ Bd hml0 hP hK
  obtain ⟨rfl, hZ, hh⟩ := hP
  have hx := Bd.exec
  have hby := Bd.bytes
  have hml : c.maxLocals = 6 := hml0
  have hown : s.vm.findClass "java/lang/StringLatin1" = some m.cls := findClass_of_methodNamed Bd.named
  have hnm := (name_of_methodNamed Bd.named Bd.method).1
  have X0 : Stand p l e ({ frames := 0, cells := 0, slots := 0, locals := 0 } : Room) s m #[(.ref b), (.int (95 : Int32)), (.int (0 : Int32)), (.int (5 : Int32))] below meth c s₁ [] 0 0 := Stand.of_body Bd
  have e0 : s₁.heap = h0 := by rw [← hh, Bd.state]; rfl
  have N0 := Fr.nil n0
  have pre0 : ∀ tq_, Steps p.tables e below (s₁.setTop (mkF m 0 #[.val (.ref b), .val (.int (95 : Int32)), .val (.int (0 : Int32)), .val (.int (5 : Int32)), .unset, .unset] [])) tq_ → Steps p.tables e below (s₁.setTop (entryFrame m #[(.ref b), (.int (95 : Int32)), (.int (0 : Int32)), (.int (5 : Int32))] 6)) tq_ := fun tq_ kt_ => castTop (ef_m31_1 m b kb ) kt_
  obtain ⟨c1, Ar1, -, Sz1, -, H1, -⟩ := id V
  have hin1 := inb_of (j := (0 : Int32)) Sz1 ⟨by decide, by decide⟩
  have hat1 : c1.slots[((0 : Int32) : Int32).toNatClampNeg]? = some (.int (46 : Int32)) := H1 _ (Nat.lt_of_not_le fun q => hin1 (Or.inr q))
  obtain ⟨c2, Ar2, -, Sz2, -, H2, -⟩ := id V
  have hin2 := inb_of (j := (1 : Int32)) Sz2 ⟨by decide, by decide⟩
  have hat2 : c2.slots[((1 : Int32) : Int32).toNatClampNeg]? = some (.int (95 : Int32)) := H2 _ (Nat.lt_of_not_le fun q => hin2 (Or.inr q))
  obtain ⟨fs, hr, hrun, hended, hW, hsame⟩ := X0.leave (v := some (.int (1 : Int32))) (fun h => by rw [Bd.returns] at h; cases h)
  refine ⟨_, _, pre0 _ ?_, hrun, hended, _, _, rfl, ?_, ⟨_, rfl⟩, hW, hsame.mono (nle rfl) (nle rfl)⟩
  · show Steps p.tables e below (s₁.setTop (mkF m 0 #[.val (.ref b), .val (.int (95 : Int32)), .val (.int (0 : Int32)), .val (.int (5 : Int32)), .unset, .unset] [])) _
    refine XS.iloadN X0.here hx rfl (hb hby d31_0) rfl ?_
    show Steps p.tables e below (s₁.setTop (mkF m 1 #[.val (.ref b), .val (.int (95 : Int32)), .val (.int (0 : Int32)), .val (.int (5 : Int32)), .unset, .unset] [(.int (95 : Int32))])) _
    show Steps p.tables e below (s₁.setTop (mkF m 1 #[.val (.ref b), .val (.int (95 : Int32)), .val (.int (0 : Int32)), .val (.int (5 : Int32)), .unset, .unset] [(.int (95 : Int32))])) _
    refine XS.i2b X0.here hx rfl (hb hby d31_1) rfl ?_
    show Steps p.tables e below (s₁.setTop (mkF m 2 #[.val (.ref b), .val (.int (95 : Int32)), .val (.int (0 : Int32)), .val (.int (5 : Int32)), .unset, .unset] [(.int ((95 : Int32).toInt8.toInt32))])) _
    rw [show ((95 : Int32).toInt8.toInt32) = (95 : Int32) from by decide]
    show Steps p.tables e below (s₁.setTop (mkF m 2 #[.val (.ref b), .val (.int (95 : Int32)), .val (.int (0 : Int32)), .val (.int (5 : Int32)), .unset, .unset] [(.int (95 : Int32))])) _
    refine XS.istore X0.here hx rfl (hb hby d31_2) rfl (l' := #[.val (.ref b), .val (.int (95 : Int32)), .val (.int (0 : Int32)), .val (.int (5 : Int32)), .val (.int (95 : Int32)), .unset]) rfl ?_
    show Steps p.tables e below (s₁.setTop (mkF m 4 #[.val (.ref b), .val (.int (95 : Int32)), .val (.int (0 : Int32)), .val (.int (5 : Int32)), .val (.int (95 : Int32)), .unset] [])) _
    refine XS.iloadN X0.here hx rfl (hb hby d31_4) rfl ?_
    show Steps p.tables e below (s₁.setTop (mkF m 5 #[.val (.ref b), .val (.int (95 : Int32)), .val (.int (0 : Int32)), .val (.int (5 : Int32)), .val (.int (95 : Int32)), .unset] [(.int (0 : Int32))])) _
    refine XS.istore X0.here hx rfl (hb hby d31_5) rfl (l' := #[.val (.ref b), .val (.int (95 : Int32)), .val (.int (0 : Int32)), .val (.int (5 : Int32)), .val (.int (95 : Int32)), .val (.int (0 : Int32))]) rfl ?_
    show Steps p.tables e below (s₁.setTop (mkF m 7 #[.val (.ref b), .val (.int (95 : Int32)), .val (.int (0 : Int32)), .val (.int (5 : Int32)), .val (.int (95 : Int32)), .val (.int (0 : Int32))] [])) _
    refine XS.iload X0.here hx rfl (hb hby d31_7) rfl ?_
    show Steps p.tables e below (s₁.setTop (mkF m 9 #[.val (.ref b), .val (.int (95 : Int32)), .val (.int (0 : Int32)), .val (.int (5 : Int32)), .val (.int (95 : Int32)), .val (.int (0 : Int32))] [(.int (0 : Int32))])) _
    refine XS.iloadN X0.here hx rfl (hb hby d31_9) rfl ?_
    show Steps p.tables e below (s₁.setTop (mkF m 10 #[.val (.ref b), .val (.int (95 : Int32)), .val (.int (0 : Int32)), .val (.int (5 : Int32)), .val (.int (95 : Int32)), .val (.int (0 : Int32))] [(.int (5 : Int32)), (.int (0 : Int32))])) _
    refine XS.icmpNo X0.here hx rfl (hb hby d31_10) rfl (tlt (by decide : (0 : Int32) < (5 : Int32))).2.1 ?_
    show Steps p.tables e below (s₁.setTop (mkF m 13 #[.val (.ref b), .val (.int (95 : Int32)), .val (.int (0 : Int32)), .val (.int (5 : Int32)), .val (.int (95 : Int32)), .val (.int (0 : Int32))] [])) _
    refine XS.aloadN X0.here hx rfl (hb hby d31_13) rfl rfl ?_
    show Steps p.tables e below (s₁.setTop (mkF m 14 #[.val (.ref b), .val (.int (95 : Int32)), .val (.int (0 : Int32)), .val (.int (5 : Int32)), .val (.int (95 : Int32)), .val (.int (0 : Int32))] [(.ref b)])) _
    refine XS.iload X0.here hx rfl (hb hby d31_14) rfl ?_
    show Steps p.tables e below (s₁.setTop (mkF m 16 #[.val (.ref b), .val (.int (95 : Int32)), .val (.int (0 : Int32)), .val (.int (5 : Int32)), .val (.int (95 : Int32)), .val (.int (0 : Int32))] [(.int (0 : Int32)), (.ref b)])) _
    refine X0.baloadBytes hx (j := (0 : Int32)) (v := (.int (46 : Int32))) (by rw [e0]; exact Ar1.1) (State.isArrayOf_alike hZ.alike Ar1.2.1) Ar1.2.2 hin1 hat1 (g := (mkF m 16 #[.val (.ref b), .val (.int (95 : Int32)), .val (.int (0 : Int32)), .val (.int (5 : Int32)), .val (.int (95 : Int32)), .val (.int (0 : Int32))] [(.int (0 : Int32)), (.ref b)])) rfl rfl (hb hby d31_16) _ ?_
    show Steps p.tables e below (s₁.setTop (mkF m 17 #[.val (.ref b), .val (.int (95 : Int32)), .val (.int (0 : Int32)), .val (.int (5 : Int32)), .val (.int (95 : Int32)), .val (.int (0 : Int32))] [(.int (46 : Int32))])) _
    refine XS.iload X0.here hx rfl (hb hby d31_17) rfl ?_
    show Steps p.tables e below (s₁.setTop (mkF m 19 #[.val (.ref b), .val (.int (95 : Int32)), .val (.int (0 : Int32)), .val (.int (5 : Int32)), .val (.int (95 : Int32)), .val (.int (0 : Int32))] [(.int (95 : Int32)), (.int (46 : Int32))])) _
    refine XS.icmpYes X0.here hx rfl (pc0 := 19) (pc' := 25) rfl (hb hby d31_19) rfl (feq (by decide : ¬ ((46 : Int32) = (95 : Int32)))).2 (by decide) (by decide) ?_
    show Steps p.tables e below (s₁.setTop (mkF m 25 #[.val (.ref b), .val (.int (95 : Int32)), .val (.int (0 : Int32)), .val (.int (5 : Int32)), .val (.int (95 : Int32)), .val (.int (0 : Int32))] [])) _
    refine XS.iinc X0.here hx rfl (hb hby d31_25) rfl (l' := #[.val (.ref b), .val (.int (95 : Int32)), .val (.int (0 : Int32)), .val (.int (5 : Int32)), .val (.int (95 : Int32)), .val (.int (1 : Int32))]) rfl ?_
    show Steps p.tables e below (s₁.setTop (mkF m 28 #[.val (.ref b), .val (.int (95 : Int32)), .val (.int (0 : Int32)), .val (.int (5 : Int32)), .val (.int (95 : Int32)), .val (.int (1 : Int32))] [])) _
    refine XS.goto X0.here hx rfl (pc0 := 28) (pc' := 7) rfl (hb hby d31_28) (by decide) (by decide) ?_
    show Steps p.tables e below (s₁.setTop (mkF m 7 #[.val (.ref b), .val (.int (95 : Int32)), .val (.int (0 : Int32)), .val (.int (5 : Int32)), .val (.int (95 : Int32)), .val (.int (1 : Int32))] [])) _
    refine XS.iload X0.here hx rfl (hb hby d31_7) rfl ?_
    show Steps p.tables e below (s₁.setTop (mkF m 9 #[.val (.ref b), .val (.int (95 : Int32)), .val (.int (0 : Int32)), .val (.int (5 : Int32)), .val (.int (95 : Int32)), .val (.int (1 : Int32))] [(.int (1 : Int32))])) _
    refine XS.iloadN X0.here hx rfl (hb hby d31_9) rfl ?_
    show Steps p.tables e below (s₁.setTop (mkF m 10 #[.val (.ref b), .val (.int (95 : Int32)), .val (.int (0 : Int32)), .val (.int (5 : Int32)), .val (.int (95 : Int32)), .val (.int (1 : Int32))] [(.int (5 : Int32)), (.int (1 : Int32))])) _
    refine XS.icmpNo X0.here hx rfl (hb hby d31_10) rfl (tlt (by decide : (1 : Int32) < (5 : Int32))).2.1 ?_
    show Steps p.tables e below (s₁.setTop (mkF m 13 #[.val (.ref b), .val (.int (95 : Int32)), .val (.int (0 : Int32)), .val (.int (5 : Int32)), .val (.int (95 : Int32)), .val (.int (1 : Int32))] [])) _
    refine XS.aloadN X0.here hx rfl (hb hby d31_13) rfl rfl ?_
    show Steps p.tables e below (s₁.setTop (mkF m 14 #[.val (.ref b), .val (.int (95 : Int32)), .val (.int (0 : Int32)), .val (.int (5 : Int32)), .val (.int (95 : Int32)), .val (.int (1 : Int32))] [(.ref b)])) _
    refine XS.iload X0.here hx rfl (hb hby d31_14) rfl ?_
    show Steps p.tables e below (s₁.setTop (mkF m 16 #[.val (.ref b), .val (.int (95 : Int32)), .val (.int (0 : Int32)), .val (.int (5 : Int32)), .val (.int (95 : Int32)), .val (.int (1 : Int32))] [(.int (1 : Int32)), (.ref b)])) _
    refine X0.baloadBytes hx (j := (1 : Int32)) (v := (.int (95 : Int32))) (by rw [e0]; exact Ar2.1) (State.isArrayOf_alike hZ.alike Ar2.2.1) Ar2.2.2 hin2 hat2 (g := (mkF m 16 #[.val (.ref b), .val (.int (95 : Int32)), .val (.int (0 : Int32)), .val (.int (5 : Int32)), .val (.int (95 : Int32)), .val (.int (1 : Int32))] [(.int (1 : Int32)), (.ref b)])) rfl rfl (hb hby d31_16) _ ?_
    show Steps p.tables e below (s₁.setTop (mkF m 17 #[.val (.ref b), .val (.int (95 : Int32)), .val (.int (0 : Int32)), .val (.int (5 : Int32)), .val (.int (95 : Int32)), .val (.int (1 : Int32))] [(.int (95 : Int32))])) _
    refine XS.iload X0.here hx rfl (hb hby d31_17) rfl ?_
    show Steps p.tables e below (s₁.setTop (mkF m 19 #[.val (.ref b), .val (.int (95 : Int32)), .val (.int (0 : Int32)), .val (.int (5 : Int32)), .val (.int (95 : Int32)), .val (.int (1 : Int32))] [(.int (95 : Int32)), (.int (95 : Int32))])) _
    refine XS.icmpNo X0.here hx rfl (hb hby d31_19) rfl (teq (by decide : (95 : Int32) = (95 : Int32))).2 ?_
    show Steps p.tables e below (s₁.setTop (mkF m 22 #[.val (.ref b), .val (.int (95 : Int32)), .val (.int (0 : Int32)), .val (.int (5 : Int32)), .val (.int (95 : Int32)), .val (.int (1 : Int32))] [])) _
    refine XS.iload X0.here hx rfl (hb hby d31_22) rfl ?_
    show Steps p.tables e below (s₁.setTop (mkF m 24 #[.val (.ref b), .val (.int (95 : Int32)), .val (.int (0 : Int32)), .val (.int (5 : Int32)), .val (.int (95 : Int32)), .val (.int (1 : Int32))] [(.int (1 : Int32))])) _
    exact retI X0 hx Bd.returns (hb hby d31_24) hr
  · show Q_m31_1 Z b kb h0 n0 _ s₁.heap _
    exact ⟨rfl, N0, e0⟩
def Q_m31_2 (Z : State) (b : Addr) (kb : ClassId) (h0 : Heap) (n0 : Nat) (v : Option Value) (h : Heap) (L : List Loc) : Prop := v = (some (.int (2 : Int32))) ∧ Fr n0 L ∧ h = h0
theorem ef_m31_2 (m : MethodId) (b : Addr) (kb : ClassId) : entryFrame m #[(.ref b), (.int (45 : Int32)), (.int (0 : Int32)), (.int (5 : Int32))] 6 = mkF m 0 #[.val (.ref b), .val (.int (45 : Int32)), .val (.int (0 : Int32)), .val (.int (5 : Int32)), .unset, .unset] [] := by first | (simp [entryFrame, mkF, argsToLocals, Value.category]; done) | rfl
set_option maxRecDepth 65536 in
set_option maxHeartbeats 40000000 in
theorem m31_2 (l : Launch) (Z : State) (a0 : Array Value) (hw : ∀ d ∈ tables_1, d.before a0 Z = true) (ws : List Jvm.Cond) (b : Addr) (kb : ClassId) (h0 : Heap) (n0 : Nat) (Z0 : n0 ≤ h0.size) (V : Arv Z h0 b kb .byte (5 : Int32) [(.int (46 : Int32)), (.int (95 : Int32)), (.int (45 : Int32)), (.int (58 : Int32)), (.int (47 : Int32))] (.int (0 : Int32))) :
    MetFree l (⟨"java/lang/StringLatin1", "indexOfChar", "([BIII)I"⟩ : MethodName) (head1 (Jvm.Cond.code (⟨"java/lang/StringLatin1", "indexOfChar", "([BIII)I"⟩ : MethodName) jdk_43_method_23_code 6 (some .int) :: ws) ({ frames := 0, cells := 0, slots := 0, locals := 0 } : Room)) (fun ar_ U => ar_ = #[(.ref b), (.int (45 : Int32)), (.int (0 : Int32)), (.int (5 : Int32))] ∧ Z.Warmed39 U.vm ∧ U.heap = h0) (fun _ _ _ _ _ => True) (fun _ U o U' => ∃ v L, o = .returned v ∧ Q_m31_2 Z b kb h0 n0 v U'.heap L ∧ FrameEnd U o U' L ({ frames := 0, cells := 0, slots := 0, locals := 0 } : Room).cells ({ frames := 0, cells := 0, slots := 0, locals := 0 } : Room).slots) := by
  refine MetFree.of_bodySF (plainFor_of_name pnx_java_lang_StringLatin1) hisR ?_
  intro p e s m args below meth c s₁ Bd hml0 hP hK
  obtain ⟨rfl, hZ, hh⟩ := hP
  have hx := Bd.exec
  have hby := Bd.bytes
  have hml : c.maxLocals = 6 := hml0
  have hown : s.vm.findClass "java/lang/StringLatin1" = some m.cls := findClass_of_methodNamed Bd.named
  have hnm := (name_of_methodNamed Bd.named Bd.method).1
  have X0 : Stand p l e ({ frames := 0, cells := 0, slots := 0, locals := 0 } : Room) s m #[(.ref b), (.int (45 : Int32)), (.int (0 : Int32)), (.int (5 : Int32))] below meth c s₁ [] 0 0 := Stand.of_body Bd
  have e0 : s₁.heap = h0 := by rw [← hh, Bd.state]; rfl
  have N0 := Fr.nil n0
  have pre0 : ∀ tq_, Steps p.tables e below (s₁.setTop (mkF m 0 #[.val (.ref b), .val (.int (45 : Int32)), .val (.int (0 : Int32)), .val (.int (5 : Int32)), .unset, .unset] [])) tq_ → Steps p.tables e below (s₁.setTop (entryFrame m #[(.ref b), (.int (45 : Int32)), (.int (0 : Int32)), (.int (5 : Int32))] 6)) tq_ := fun tq_ kt_ => castTop (ef_m31_2 m b kb ) kt_
  obtain ⟨c1, Ar1, -, Sz1, -, H1, -⟩ := id V
  have hin1 := inb_of (j := (0 : Int32)) Sz1 ⟨by decide, by decide⟩
  have hat1 : c1.slots[((0 : Int32) : Int32).toNatClampNeg]? = some (.int (46 : Int32)) := H1 _ (Nat.lt_of_not_le fun q => hin1 (Or.inr q))
  obtain ⟨c2, Ar2, -, Sz2, -, H2, -⟩ := id V
  have hin2 := inb_of (j := (1 : Int32)) Sz2 ⟨by decide, by decide⟩
  have hat2 : c2.slots[((1 : Int32) : Int32).toNatClampNeg]? = some (.int (95 : Int32)) := H2 _ (Nat.lt_of_not_le fun q => hin2 (Or.inr q))
  obtain ⟨c3, Ar3, -, Sz3, -, H3, -⟩ := id V
  have hin3 := inb_of (j := (2 : Int32)) Sz3 ⟨by decide, by decide⟩
  have hat3 : c3.slots[((2 : Int32) : Int32).toNatClampNeg]? = some (.int (45 : Int32)) := H3 _ (Nat.lt_of_not_le fun q => hin3 (Or.inr q))
  obtain ⟨fs, hr, hrun, hended, hW, hsame⟩ := X0.leave (v := some (.int (2 : Int32))) (fun h => by rw [Bd.returns] at h; cases h)
  refine ⟨_, _, pre0 _ ?_, hrun, hended, _, _, rfl, ?_, ⟨_, rfl⟩, hW, hsame.mono (nle rfl) (nle rfl)⟩
  · show Steps p.tables e below (s₁.setTop (mkF m 0 #[.val (.ref b), .val (.int (45 : Int32)), .val (.int (0 : Int32)), .val (.int (5 : Int32)), .unset, .unset] [])) _
    refine XS.iloadN X0.here hx rfl (hb hby d31_0) rfl ?_
    show Steps p.tables e below (s₁.setTop (mkF m 1 #[.val (.ref b), .val (.int (45 : Int32)), .val (.int (0 : Int32)), .val (.int (5 : Int32)), .unset, .unset] [(.int (45 : Int32))])) _
    show Steps p.tables e below (s₁.setTop (mkF m 1 #[.val (.ref b), .val (.int (45 : Int32)), .val (.int (0 : Int32)), .val (.int (5 : Int32)), .unset, .unset] [(.int (45 : Int32))])) _
    refine XS.i2b X0.here hx rfl (hb hby d31_1) rfl ?_
    show Steps p.tables e below (s₁.setTop (mkF m 2 #[.val (.ref b), .val (.int (45 : Int32)), .val (.int (0 : Int32)), .val (.int (5 : Int32)), .unset, .unset] [(.int ((45 : Int32).toInt8.toInt32))])) _
    rw [show ((45 : Int32).toInt8.toInt32) = (45 : Int32) from by decide]
    show Steps p.tables e below (s₁.setTop (mkF m 2 #[.val (.ref b), .val (.int (45 : Int32)), .val (.int (0 : Int32)), .val (.int (5 : Int32)), .unset, .unset] [(.int (45 : Int32))])) _
    refine XS.istore X0.here hx rfl (hb hby d31_2) rfl (l' := #[.val (.ref b), .val (.int (45 : Int32)), .val (.int (0 : Int32)), .val (.int (5 : Int32)), .val (.int (45 : Int32)), .unset]) rfl ?_
    show Steps p.tables e below (s₁.setTop (mkF m 4 #[.val (.ref b), .val (.int (45 : Int32)), .val (.int (0 : Int32)), .val (.int (5 : Int32)), .val (.int (45 : Int32)), .unset] [])) _
    refine XS.iloadN X0.here hx rfl (hb hby d31_4) rfl ?_
    show Steps p.tables e below (s₁.setTop (mkF m 5 #[.val (.ref b), .val (.int (45 : Int32)), .val (.int (0 : Int32)), .val (.int (5 : Int32)), .val (.int (45 : Int32)), .unset] [(.int (0 : Int32))])) _
    refine XS.istore X0.here hx rfl (hb hby d31_5) rfl (l' := #[.val (.ref b), .val (.int (45 : Int32)), .val (.int (0 : Int32)), .val (.int (5 : Int32)), .val (.int (45 : Int32)), .val (.int (0 : Int32))]) rfl ?_
    show Steps p.tables e below (s₁.setTop (mkF m 7 #[.val (.ref b), .val (.int (45 : Int32)), .val (.int (0 : Int32)), .val (.int (5 : Int32)), .val (.int (45 : Int32)), .val (.int (0 : Int32))] [])) _
    refine XS.iload X0.here hx rfl (hb hby d31_7) rfl ?_
    show Steps p.tables e below (s₁.setTop (mkF m 9 #[.val (.ref b), .val (.int (45 : Int32)), .val (.int (0 : Int32)), .val (.int (5 : Int32)), .val (.int (45 : Int32)), .val (.int (0 : Int32))] [(.int (0 : Int32))])) _
    refine XS.iloadN X0.here hx rfl (hb hby d31_9) rfl ?_
    show Steps p.tables e below (s₁.setTop (mkF m 10 #[.val (.ref b), .val (.int (45 : Int32)), .val (.int (0 : Int32)), .val (.int (5 : Int32)), .val (.int (45 : Int32)), .val (.int (0 : Int32))] [(.int (5 : Int32)), (.int (0 : Int32))])) _
    refine XS.icmpNo X0.here hx rfl (hb hby d31_10) rfl (tlt (by decide : (0 : Int32) < (5 : Int32))).2.1 ?_
    show Steps p.tables e below (s₁.setTop (mkF m 13 #[.val (.ref b), .val (.int (45 : Int32)), .val (.int (0 : Int32)), .val (.int (5 : Int32)), .val (.int (45 : Int32)), .val (.int (0 : Int32))] [])) _
    refine XS.aloadN X0.here hx rfl (hb hby d31_13) rfl rfl ?_
    show Steps p.tables e below (s₁.setTop (mkF m 14 #[.val (.ref b), .val (.int (45 : Int32)), .val (.int (0 : Int32)), .val (.int (5 : Int32)), .val (.int (45 : Int32)), .val (.int (0 : Int32))] [(.ref b)])) _
    refine XS.iload X0.here hx rfl (hb hby d31_14) rfl ?_
    show Steps p.tables e below (s₁.setTop (mkF m 16 #[.val (.ref b), .val (.int (45 : Int32)), .val (.int (0 : Int32)), .val (.int (5 : Int32)), .val (.int (45 : Int32)), .val (.int (0 : Int32))] [(.int (0 : Int32)), (.ref b)])) _
    refine X0.baloadBytes hx (j := (0 : Int32)) (v := (.int (46 : Int32))) (by rw [e0]; exact Ar1.1) (State.isArrayOf_alike hZ.alike Ar1.2.1) Ar1.2.2 hin1 hat1 (g := (mkF m 16 #[.val (.ref b), .val (.int (45 : Int32)), .val (.int (0 : Int32)), .val (.int (5 : Int32)), .val (.int (45 : Int32)), .val (.int (0 : Int32))] [(.int (0 : Int32)), (.ref b)])) rfl rfl (hb hby d31_16) _ ?_
    show Steps p.tables e below (s₁.setTop (mkF m 17 #[.val (.ref b), .val (.int (45 : Int32)), .val (.int (0 : Int32)), .val (.int (5 : Int32)), .val (.int (45 : Int32)), .val (.int (0 : Int32))] [(.int (46 : Int32))])) _
    refine XS.iload X0.here hx rfl (hb hby d31_17) rfl ?_
    show Steps p.tables e below (s₁.setTop (mkF m 19 #[.val (.ref b), .val (.int (45 : Int32)), .val (.int (0 : Int32)), .val (.int (5 : Int32)), .val (.int (45 : Int32)), .val (.int (0 : Int32))] [(.int (45 : Int32)), (.int (46 : Int32))])) _
    refine XS.icmpYes X0.here hx rfl (pc0 := 19) (pc' := 25) rfl (hb hby d31_19) rfl (feq (by decide : ¬ ((46 : Int32) = (45 : Int32)))).2 (by decide) (by decide) ?_
    show Steps p.tables e below (s₁.setTop (mkF m 25 #[.val (.ref b), .val (.int (45 : Int32)), .val (.int (0 : Int32)), .val (.int (5 : Int32)), .val (.int (45 : Int32)), .val (.int (0 : Int32))] [])) _
    refine XS.iinc X0.here hx rfl (hb hby d31_25) rfl (l' := #[.val (.ref b), .val (.int (45 : Int32)), .val (.int (0 : Int32)), .val (.int (5 : Int32)), .val (.int (45 : Int32)), .val (.int (1 : Int32))]) rfl ?_
    show Steps p.tables e below (s₁.setTop (mkF m 28 #[.val (.ref b), .val (.int (45 : Int32)), .val (.int (0 : Int32)), .val (.int (5 : Int32)), .val (.int (45 : Int32)), .val (.int (1 : Int32))] [])) _
    refine XS.goto X0.here hx rfl (pc0 := 28) (pc' := 7) rfl (hb hby d31_28) (by decide) (by decide) ?_
    show Steps p.tables e below (s₁.setTop (mkF m 7 #[.val (.ref b), .val (.int (45 : Int32)), .val (.int (0 : Int32)), .val (.int (5 : Int32)), .val (.int (45 : Int32)), .val (.int (1 : Int32))] [])) _
    refine XS.iload X0.here hx rfl (hb hby d31_7) rfl ?_
    show Steps p.tables e below (s₁.setTop (mkF m 9 #[.val (.ref b), .val (.int (45 : Int32)), .val (.int (0 : Int32)), .val (.int (5 : Int32)), .val (.int (45 : Int32)), .val (.int (1 : Int32))] [(.int (1 : Int32))])) _
    refine XS.iloadN X0.here hx rfl (hb hby d31_9) rfl ?_
    show Steps p.tables e below (s₁.setTop (mkF m 10 #[.val (.ref b), .val (.int (45 : Int32)), .val (.int (0 : Int32)), .val (.int (5 : Int32)), .val (.int (45 : Int32)), .val (.int (1 : Int32))] [(.int (5 : Int32)), (.int (1 : Int32))])) _
    refine XS.icmpNo X0.here hx rfl (hb hby d31_10) rfl (tlt (by decide : (1 : Int32) < (5 : Int32))).2.1 ?_
    show Steps p.tables e below (s₁.setTop (mkF m 13 #[.val (.ref b), .val (.int (45 : Int32)), .val (.int (0 : Int32)), .val (.int (5 : Int32)), .val (.int (45 : Int32)), .val (.int (1 : Int32))] [])) _
    refine XS.aloadN X0.here hx rfl (hb hby d31_13) rfl rfl ?_
    show Steps p.tables e below (s₁.setTop (mkF m 14 #[.val (.ref b), .val (.int (45 : Int32)), .val (.int (0 : Int32)), .val (.int (5 : Int32)), .val (.int (45 : Int32)), .val (.int (1 : Int32))] [(.ref b)])) _
    refine XS.iload X0.here hx rfl (hb hby d31_14) rfl ?_
    show Steps p.tables e below (s₁.setTop (mkF m 16 #[.val (.ref b), .val (.int (45 : Int32)), .val (.int (0 : Int32)), .val (.int (5 : Int32)), .val (.int (45 : Int32)), .val (.int (1 : Int32))] [(.int (1 : Int32)), (.ref b)])) _
    refine X0.baloadBytes hx (j := (1 : Int32)) (v := (.int (95 : Int32))) (by rw [e0]; exact Ar2.1) (State.isArrayOf_alike hZ.alike Ar2.2.1) Ar2.2.2 hin2 hat2 (g := (mkF m 16 #[.val (.ref b), .val (.int (45 : Int32)), .val (.int (0 : Int32)), .val (.int (5 : Int32)), .val (.int (45 : Int32)), .val (.int (1 : Int32))] [(.int (1 : Int32)), (.ref b)])) rfl rfl (hb hby d31_16) _ ?_
    show Steps p.tables e below (s₁.setTop (mkF m 17 #[.val (.ref b), .val (.int (45 : Int32)), .val (.int (0 : Int32)), .val (.int (5 : Int32)), .val (.int (45 : Int32)), .val (.int (1 : Int32))] [(.int (95 : Int32))])) _
    refine XS.iload X0.here hx rfl (hb hby d31_17) rfl ?_
    show Steps p.tables e below (s₁.setTop (mkF m 19 #[.val (.ref b), .val (.int (45 : Int32)), .val (.int (0 : Int32)), .val (.int (5 : Int32)), .val (.int (45 : Int32)), .val (.int (1 : Int32))] [(.int (45 : Int32)), (.int (95 : Int32))])) _
    refine XS.icmpYes X0.here hx rfl (pc0 := 19) (pc' := 25) rfl (hb hby d31_19) rfl (feq (by decide : ¬ ((95 : Int32) = (45 : Int32)))).2 (by decide) (by decide) ?_
    show Steps p.tables e below (s₁.setTop (mkF m 25 #[.val (.ref b), .val (.int (45 : Int32)), .val (.int (0 : Int32)), .val (.int (5 : Int32)), .val (.int (45 : Int32)), .val (.int (1 : Int32))] [])) _
    refine XS.iinc X0.here hx rfl (hb hby d31_25) rfl (l' := #[.val (.ref b), .val (.int (45 : Int32)), .val (.int (0 : Int32)), .val (.int (5 : Int32)), .val (.int (45 : Int32)), .val (.int (2 : Int32))]) rfl ?_
    show Steps p.tables e below (s₁.setTop (mkF m 28 #[.val (.ref b), .val (.int (45 : Int32)), .val (.int (0 : Int32)), .val (.int (5 : Int32)), .val (.int (45 : Int32)), .val (.int (2 : Int32))] [])) _
    refine XS.goto X0.here hx rfl (pc0 := 28) (pc' := 7) rfl (hb hby d31_28) (by decide) (by decide) ?_
    show Steps p.tables e below (s₁.setTop (mkF m 7 #[.val (.ref b), .val (.int (45 : Int32)), .val (.int (0 : Int32)), .val (.int (5 : Int32)), .val (.int (45 : Int32)), .val (.int (2 : Int32))] [])) _
    refine XS.iload X0.here hx rfl (hb hby d31_7) rfl ?_
    show Steps p.tables e below (s₁.setTop (mkF m 9 #[.val (.ref b), .val (.int (45 : Int32)), .val (.int (0 : Int32)), .val (.int (5 : Int32)), .val (.int (45 : Int32)), .val (.int (2 : Int32))] [(.int (2 : Int32))])) _
    refine XS.iloadN X0.here hx rfl (hb hby d31_9) rfl ?_
    show Steps p.tables e below (s₁.setTop (mkF m 10 #[.val (.ref b), .val (.int (45 : Int32)), .val (.int (0 : Int32)), .val (.int (5 : Int32)), .val (.int (45 : Int32)), .val (.int (2 : Int32))] [(.int (5 : Int32)), (.int (2 : Int32))])) _
    refine XS.icmpNo X0.here hx rfl (hb hby d31_10) rfl (tlt (by decide : (2 : Int32) < (5 : Int32))).2.1 ?_
    show Steps p.tables e below (s₁.setTop (mkF m 13 #[.val (.ref b), .val (.int (45 : Int32)), .val (.int (0 : Int32)), .val (.int (5 : Int32)), .val (.int (45 : Int32)), .val (.int (2 : Int32))] [])) _
    refine XS.aloadN X0.here hx rfl (hb hby d31_13) rfl rfl ?_
    show Steps p.tables e below (s₁.setTop (mkF m 14 #[.val (.ref b), .val (.int (45 : Int32)), .val (.int (0 : Int32)), .val (.int (5 : Int32)), .val (.int (45 : Int32)), .val (.int (2 : Int32))] [(.ref b)])) _
    refine XS.iload X0.here hx rfl (hb hby d31_14) rfl ?_
    show Steps p.tables e below (s₁.setTop (mkF m 16 #[.val (.ref b), .val (.int (45 : Int32)), .val (.int (0 : Int32)), .val (.int (5 : Int32)), .val (.int (45 : Int32)), .val (.int (2 : Int32))] [(.int (2 : Int32)), (.ref b)])) _
    refine X0.baloadBytes hx (j := (2 : Int32)) (v := (.int (45 : Int32))) (by rw [e0]; exact Ar3.1) (State.isArrayOf_alike hZ.alike Ar3.2.1) Ar3.2.2 hin3 hat3 (g := (mkF m 16 #[.val (.ref b), .val (.int (45 : Int32)), .val (.int (0 : Int32)), .val (.int (5 : Int32)), .val (.int (45 : Int32)), .val (.int (2 : Int32))] [(.int (2 : Int32)), (.ref b)])) rfl rfl (hb hby d31_16) _ ?_
    show Steps p.tables e below (s₁.setTop (mkF m 17 #[.val (.ref b), .val (.int (45 : Int32)), .val (.int (0 : Int32)), .val (.int (5 : Int32)), .val (.int (45 : Int32)), .val (.int (2 : Int32))] [(.int (45 : Int32))])) _
    refine XS.iload X0.here hx rfl (hb hby d31_17) rfl ?_
    show Steps p.tables e below (s₁.setTop (mkF m 19 #[.val (.ref b), .val (.int (45 : Int32)), .val (.int (0 : Int32)), .val (.int (5 : Int32)), .val (.int (45 : Int32)), .val (.int (2 : Int32))] [(.int (45 : Int32)), (.int (45 : Int32))])) _
    refine XS.icmpNo X0.here hx rfl (hb hby d31_19) rfl (teq (by decide : (45 : Int32) = (45 : Int32))).2 ?_
    show Steps p.tables e below (s₁.setTop (mkF m 22 #[.val (.ref b), .val (.int (45 : Int32)), .val (.int (0 : Int32)), .val (.int (5 : Int32)), .val (.int (45 : Int32)), .val (.int (2 : Int32))] [])) _
    refine XS.iload X0.here hx rfl (hb hby d31_22) rfl ?_
    show Steps p.tables e below (s₁.setTop (mkF m 24 #[.val (.ref b), .val (.int (45 : Int32)), .val (.int (0 : Int32)), .val (.int (5 : Int32)), .val (.int (45 : Int32)), .val (.int (2 : Int32))] [(.int (2 : Int32))])) _
    exact retI X0 hx Bd.returns (hb hby d31_24) hr
  · show Q_m31_2 Z b kb h0 n0 _ s₁.heap _
    exact ⟨rfl, N0, e0⟩
def Q_m31_3 (Z : State) (b : Addr) (kb : ClassId) (h0 : Heap) (n0 : Nat) (v : Option Value) (h : Heap) (L : List Loc) : Prop := v = (some (.int (3 : Int32))) ∧ Fr n0 L ∧ h = h0
theorem ef_m31_3 (m : MethodId) (b : Addr) (kb : ClassId) : entryFrame m #[(.ref b), (.int (58 : Int32)), (.int (0 : Int32)), (.int (5 : Int32))] 6 = mkF m 0 #[.val (.ref b), .val (.int (58 : Int32)), .val (.int (0 : Int32)), .val (.int (5 : Int32)), .unset, .unset] [] := by first | (simp [entryFrame, mkF, argsToLocals, Value.category]; done) | rfl
set_option maxRecDepth 65536 in
set_option maxHeartbeats 40000000 in
theorem m31_3 (l : Launch) (Z : State) (a0 : Array Value) (hw : ∀ d ∈ tables_1, d.before a0 Z = true) (ws : List Jvm.Cond) (b : Addr) (kb : ClassId) (h0 : Heap) (n0 : Nat) (Z0 : n0 ≤ h0.size) (V : Arv Z h0 b kb .byte (5 : Int32) [(.int (46 : Int32)), (.int (95 : Int32)), (.int (45 : Int32)), (.int (58 : Int32)), (.int (47 : Int32))] (.int (0 : Int32))) :
    MetFree l (⟨"java/lang/StringLatin1", "indexOfChar", "([BIII)I"⟩ : MethodName) (head1 (Jvm.Cond.code (⟨"java/lang/StringLatin1", "indexOfChar", "([BIII)I"⟩ : MethodName) jdk_43_method_23_code 6 (some .int) :: ws) ({ frames := 0, cells := 0, slots := 0, locals := 0 } : Room)) (fun ar_ U => ar_ = #[(.ref b), (.int (58 : Int32)), (.int (0 : Int32)), (.int (5 : Int32))] ∧ Z.Warmed39 U.vm ∧ U.heap = h0) (fun _ _ _ _ _ => True) (fun _ U o U' => ∃ v L, o = .returned v ∧ Q_m31_3 Z b kb h0 n0 v U'.heap L ∧ FrameEnd U o U' L ({ frames := 0, cells := 0, slots := 0, locals := 0 } : Room).cells ({ frames := 0, cells := 0, slots := 0, locals := 0 } : Room).slots) := by
  refine MetFree.of_bodySF (plainFor_of_name pnx_java_lang_StringLatin1) hisR ?_
  intro p e s m args below meth c s₁ Bd hml0 hP hK
  obtain ⟨rfl, hZ, hh⟩ := hP
  have hx := Bd.exec
  have hby := Bd.bytes
  have hml : c.maxLocals = 6 := hml0
  have hown : s.vm.findClass "java/lang/StringLatin1" = some m.cls := findClass_of_methodNamed Bd.named
  have hnm := (name_of_methodNamed Bd.named Bd.method).1
  have X0 : Stand p l e ({ frames := 0, cells := 0, slots := 0, locals := 0 } : Room) s m #[(.ref b), (.int (58 : Int32)), (.int (0 : Int32)), (.int (5 : Int32))] below meth c s₁ [] 0 0 := Stand.of_body Bd
  have e0 : s₁.heap = h0 := by rw [← hh, Bd.state]; rfl
  have N0 := Fr.nil n0
  have pre0 : ∀ tq_, Steps p.tables e below (s₁.setTop (mkF m 0 #[.val (.ref b), .val (.int (58 : Int32)), .val (.int (0 : Int32)), .val (.int (5 : Int32)), .unset, .unset] [])) tq_ → Steps p.tables e below (s₁.setTop (entryFrame m #[(.ref b), (.int (58 : Int32)), (.int (0 : Int32)), (.int (5 : Int32))] 6)) tq_ := fun tq_ kt_ => castTop (ef_m31_3 m b kb ) kt_
  obtain ⟨c1, Ar1, -, Sz1, -, H1, -⟩ := id V
  have hin1 := inb_of (j := (0 : Int32)) Sz1 ⟨by decide, by decide⟩
  have hat1 : c1.slots[((0 : Int32) : Int32).toNatClampNeg]? = some (.int (46 : Int32)) := H1 _ (Nat.lt_of_not_le fun q => hin1 (Or.inr q))
  obtain ⟨c2, Ar2, -, Sz2, -, H2, -⟩ := id V
  have hin2 := inb_of (j := (1 : Int32)) Sz2 ⟨by decide, by decide⟩
  have hat2 : c2.slots[((1 : Int32) : Int32).toNatClampNeg]? = some (.int (95 : Int32)) := H2 _ (Nat.lt_of_not_le fun q => hin2 (Or.inr q))
  obtain ⟨c3, Ar3, -, Sz3, -, H3, -⟩ := id V
  have hin3 := inb_of (j := (2 : Int32)) Sz3 ⟨by decide, by decide⟩
  have hat3 : c3.slots[((2 : Int32) : Int32).toNatClampNeg]? = some (.int (45 : Int32)) := H3 _ (Nat.lt_of_not_le fun q => hin3 (Or.inr q))
  obtain ⟨c4, Ar4, -, Sz4, -, H4, -⟩ := id V
  have hin4 := inb_of (j := (3 : Int32)) Sz4 ⟨by decide, by decide⟩
  have hat4 : c4.slots[((3 : Int32) : Int32).toNatClampNeg]? = some (.int (58 : Int32)) := H4 _ (Nat.lt_of_not_le fun q => hin4 (Or.inr q))
  obtain ⟨fs, hr, hrun, hended, hW, hsame⟩ := X0.leave (v := some (.int (3 : Int32))) (fun h => by rw [Bd.returns] at h; cases h)
  refine ⟨_, _, pre0 _ ?_, hrun, hended, _, _, rfl, ?_, ⟨_, rfl⟩, hW, hsame.mono (nle rfl) (nle rfl)⟩
  · show Steps p.tables e below (s₁.setTop (mkF m 0 #[.val (.ref b), .val (.int (58 : Int32)), .val (.int (0 : Int32)), .val (.int (5 : Int32)), .unset, .unset] [])) _
    refine XS.iloadN X0.here hx rfl (hb hby d31_0) rfl ?_
    show Steps p.tables e below (s₁.setTop (mkF m 1 #[.val (.ref b), .val (.int (58 : Int32)), .val (.int (0 : Int32)), .val (.int (5 : Int32)), .unset, .unset] [(.int (58 : Int32))])) _
    show Steps p.tables e below (s₁.setTop (mkF m 1 #[.val (.ref b), .val (.int (58 : Int32)), .val (.int (0 : Int32)), .val (.int (5 : Int32)), .unset, .unset] [(.int (58 : Int32))])) _
    refine XS.i2b X0.here hx rfl (hb hby d31_1) rfl ?_
    show Steps p.tables e below (s₁.setTop (mkF m 2 #[.val (.ref b), .val (.int (58 : Int32)), .val (.int (0 : Int32)), .val (.int (5 : Int32)), .unset, .unset] [(.int ((58 : Int32).toInt8.toInt32))])) _
    rw [show ((58 : Int32).toInt8.toInt32) = (58 : Int32) from by decide]
    show Steps p.tables e below (s₁.setTop (mkF m 2 #[.val (.ref b), .val (.int (58 : Int32)), .val (.int (0 : Int32)), .val (.int (5 : Int32)), .unset, .unset] [(.int (58 : Int32))])) _
    refine XS.istore X0.here hx rfl (hb hby d31_2) rfl (l' := #[.val (.ref b), .val (.int (58 : Int32)), .val (.int (0 : Int32)), .val (.int (5 : Int32)), .val (.int (58 : Int32)), .unset]) rfl ?_
    show Steps p.tables e below (s₁.setTop (mkF m 4 #[.val (.ref b), .val (.int (58 : Int32)), .val (.int (0 : Int32)), .val (.int (5 : Int32)), .val (.int (58 : Int32)), .unset] [])) _
    refine XS.iloadN X0.here hx rfl (hb hby d31_4) rfl ?_
    show Steps p.tables e below (s₁.setTop (mkF m 5 #[.val (.ref b), .val (.int (58 : Int32)), .val (.int (0 : Int32)), .val (.int (5 : Int32)), .val (.int (58 : Int32)), .unset] [(.int (0 : Int32))])) _
    refine XS.istore X0.here hx rfl (hb hby d31_5) rfl (l' := #[.val (.ref b), .val (.int (58 : Int32)), .val (.int (0 : Int32)), .val (.int (5 : Int32)), .val (.int (58 : Int32)), .val (.int (0 : Int32))]) rfl ?_
    show Steps p.tables e below (s₁.setTop (mkF m 7 #[.val (.ref b), .val (.int (58 : Int32)), .val (.int (0 : Int32)), .val (.int (5 : Int32)), .val (.int (58 : Int32)), .val (.int (0 : Int32))] [])) _
    refine XS.iload X0.here hx rfl (hb hby d31_7) rfl ?_
    show Steps p.tables e below (s₁.setTop (mkF m 9 #[.val (.ref b), .val (.int (58 : Int32)), .val (.int (0 : Int32)), .val (.int (5 : Int32)), .val (.int (58 : Int32)), .val (.int (0 : Int32))] [(.int (0 : Int32))])) _
    refine XS.iloadN X0.here hx rfl (hb hby d31_9) rfl ?_
    show Steps p.tables e below (s₁.setTop (mkF m 10 #[.val (.ref b), .val (.int (58 : Int32)), .val (.int (0 : Int32)), .val (.int (5 : Int32)), .val (.int (58 : Int32)), .val (.int (0 : Int32))] [(.int (5 : Int32)), (.int (0 : Int32))])) _
    refine XS.icmpNo X0.here hx rfl (hb hby d31_10) rfl (tlt (by decide : (0 : Int32) < (5 : Int32))).2.1 ?_
    show Steps p.tables e below (s₁.setTop (mkF m 13 #[.val (.ref b), .val (.int (58 : Int32)), .val (.int (0 : Int32)), .val (.int (5 : Int32)), .val (.int (58 : Int32)), .val (.int (0 : Int32))] [])) _
    refine XS.aloadN X0.here hx rfl (hb hby d31_13) rfl rfl ?_
    show Steps p.tables e below (s₁.setTop (mkF m 14 #[.val (.ref b), .val (.int (58 : Int32)), .val (.int (0 : Int32)), .val (.int (5 : Int32)), .val (.int (58 : Int32)), .val (.int (0 : Int32))] [(.ref b)])) _
    refine XS.iload X0.here hx rfl (hb hby d31_14) rfl ?_
    show Steps p.tables e below (s₁.setTop (mkF m 16 #[.val (.ref b), .val (.int (58 : Int32)), .val (.int (0 : Int32)), .val (.int (5 : Int32)), .val (.int (58 : Int32)), .val (.int (0 : Int32))] [(.int (0 : Int32)), (.ref b)])) _
    refine X0.baloadBytes hx (j := (0 : Int32)) (v := (.int (46 : Int32))) (by rw [e0]; exact Ar1.1) (State.isArrayOf_alike hZ.alike Ar1.2.1) Ar1.2.2 hin1 hat1 (g := (mkF m 16 #[.val (.ref b), .val (.int (58 : Int32)), .val (.int (0 : Int32)), .val (.int (5 : Int32)), .val (.int (58 : Int32)), .val (.int (0 : Int32))] [(.int (0 : Int32)), (.ref b)])) rfl rfl (hb hby d31_16) _ ?_
    show Steps p.tables e below (s₁.setTop (mkF m 17 #[.val (.ref b), .val (.int (58 : Int32)), .val (.int (0 : Int32)), .val (.int (5 : Int32)), .val (.int (58 : Int32)), .val (.int (0 : Int32))] [(.int (46 : Int32))])) _
    refine XS.iload X0.here hx rfl (hb hby d31_17) rfl ?_
    show Steps p.tables e below (s₁.setTop (mkF m 19 #[.val (.ref b), .val (.int (58 : Int32)), .val (.int (0 : Int32)), .val (.int (5 : Int32)), .val (.int (58 : Int32)), .val (.int (0 : Int32))] [(.int (58 : Int32)), (.int (46 : Int32))])) _
    refine XS.icmpYes X0.here hx rfl (pc0 := 19) (pc' := 25) rfl (hb hby d31_19) rfl (feq (by decide : ¬ ((46 : Int32) = (58 : Int32)))).2 (by decide) (by decide) ?_
    show Steps p.tables e below (s₁.setTop (mkF m 25 #[.val (.ref b), .val (.int (58 : Int32)), .val (.int (0 : Int32)), .val (.int (5 : Int32)), .val (.int (58 : Int32)), .val (.int (0 : Int32))] [])) _
    refine XS.iinc X0.here hx rfl (hb hby d31_25) rfl (l' := #[.val (.ref b), .val (.int (58 : Int32)), .val (.int (0 : Int32)), .val (.int (5 : Int32)), .val (.int (58 : Int32)), .val (.int (1 : Int32))]) rfl ?_
    show Steps p.tables e below (s₁.setTop (mkF m 28 #[.val (.ref b), .val (.int (58 : Int32)), .val (.int (0 : Int32)), .val (.int (5 : Int32)), .val (.int (58 : Int32)), .val (.int (1 : Int32))] [])) _
    refine XS.goto X0.here hx rfl (pc0 := 28) (pc' := 7) rfl (hb hby d31_28) (by decide) (by decide) ?_
    show Steps p.tables e below (s₁.setTop (mkF m 7 #[.val (.ref b), .val (.int (58 : Int32)), .val (.int (0 : Int32)), .val (.int (5 : Int32)), .val (.int (58 : Int32)), .val (.int (1 : Int32))] [])) _
    refine XS.iload X0.here hx rfl (hb hby d31_7) rfl ?_
    show Steps p.tables e below (s₁.setTop (mkF m 9 #[.val (.ref b), .val (.int (58 : Int32)), .val (.int (0 : Int32)), .val (.int (5 : Int32)), .val (.int (58 : Int32)), .val (.int (1 : Int32))] [(.int (1 : Int32))])) _
    refine XS.iloadN X0.here hx rfl (hb hby d31_9) rfl ?_
    show Steps p.tables e below (s₁.setTop (mkF m 10 #[.val (.ref b), .val (.int (58 : Int32)), .val (.int (0 : Int32)), .val (.int (5 : Int32)), .val (.int (58 : Int32)), .val (.int (1 : Int32))] [(.int (5 : Int32)), (.int (1 : Int32))])) _
    refine XS.icmpNo X0.here hx rfl (hb hby d31_10) rfl (tlt (by decide : (1 : Int32) < (5 : Int32))).2.1 ?_
    show Steps p.tables e below (s₁.setTop (mkF m 13 #[.val (.ref b), .val (.int (58 : Int32)), .val (.int (0 : Int32)), .val (.int (5 : Int32)), .val (.int (58 : Int32)), .val (.int (1 : Int32))] [])) _
    refine XS.aloadN X0.here hx rfl (hb hby d31_13) rfl rfl ?_
    show Steps p.tables e below (s₁.setTop (mkF m 14 #[.val (.ref b), .val (.int (58 : Int32)), .val (.int (0 : Int32)), .val (.int (5 : Int32)), .val (.int (58 : Int32)), .val (.int (1 : Int32))] [(.ref b)])) _
    refine XS.iload X0.here hx rfl (hb hby d31_14) rfl ?_
    show Steps p.tables e below (s₁.setTop (mkF m 16 #[.val (.ref b), .val (.int (58 : Int32)), .val (.int (0 : Int32)), .val (.int (5 : Int32)), .val (.int (58 : Int32)), .val (.int (1 : Int32))] [(.int (1 : Int32)), (.ref b)])) _
    refine X0.baloadBytes hx (j := (1 : Int32)) (v := (.int (95 : Int32))) (by rw [e0]; exact Ar2.1) (State.isArrayOf_alike hZ.alike Ar2.2.1) Ar2.2.2 hin2 hat2 (g := (mkF m 16 #[.val (.ref b), .val (.int (58 : Int32)), .val (.int (0 : Int32)), .val (.int (5 : Int32)), .val (.int (58 : Int32)), .val (.int (1 : Int32))] [(.int (1 : Int32)), (.ref b)])) rfl rfl (hb hby d31_16) _ ?_
    show Steps p.tables e below (s₁.setTop (mkF m 17 #[.val (.ref b), .val (.int (58 : Int32)), .val (.int (0 : Int32)), .val (.int (5 : Int32)), .val (.int (58 : Int32)), .val (.int (1 : Int32))] [(.int (95 : Int32))])) _
    refine XS.iload X0.here hx rfl (hb hby d31_17) rfl ?_
    show Steps p.tables e below (s₁.setTop (mkF m 19 #[.val (.ref b), .val (.int (58 : Int32)), .val (.int (0 : Int32)), .val (.int (5 : Int32)), .val (.int (58 : Int32)), .val (.int (1 : Int32))] [(.int (58 : Int32)), (.int (95 : Int32))])) _
    refine XS.icmpYes X0.here hx rfl (pc0 := 19) (pc' := 25) rfl (hb hby d31_19) rfl (feq (by decide : ¬ ((95 : Int32) = (58 : Int32)))).2 (by decide) (by decide) ?_
    show Steps p.tables e below (s₁.setTop (mkF m 25 #[.val (.ref b), .val (.int (58 : Int32)), .val (.int (0 : Int32)), .val (.int (5 : Int32)), .val (.int (58 : Int32)), .val (.int (1 : Int32))] [])) _
    refine XS.iinc X0.here hx rfl (hb hby d31_25) rfl (l' := #[.val (.ref b), .val (.int (58 : Int32)), .val (.int (0 : Int32)), .val (.int (5 : Int32)), .val (.int (58 : Int32)), .val (.int (2 : Int32))]) rfl ?_
    show Steps p.tables e below (s₁.setTop (mkF m 28 #[.val (.ref b), .val (.int (58 : Int32)), .val (.int (0 : Int32)), .val (.int (5 : Int32)), .val (.int (58 : Int32)), .val (.int (2 : Int32))] [])) _
    refine XS.goto X0.here hx rfl (pc0 := 28) (pc' := 7) rfl (hb hby d31_28) (by decide) (by decide) ?_
    show Steps p.tables e below (s₁.setTop (mkF m 7 #[.val (.ref b), .val (.int (58 : Int32)), .val (.int (0 : Int32)), .val (.int (5 : Int32)), .val (.int (58 : Int32)), .val (.int (2 : Int32))] [])) _
    refine XS.iload X0.here hx rfl (hb hby d31_7) rfl ?_
    show Steps p.tables e below (s₁.setTop (mkF m 9 #[.val (.ref b), .val (.int (58 : Int32)), .val (.int (0 : Int32)), .val (.int (5 : Int32)), .val (.int (58 : Int32)), .val (.int (2 : Int32))] [(.int (2 : Int32))])) _
    refine XS.iloadN X0.here hx rfl (hb hby d31_9) rfl ?_
    show Steps p.tables e below (s₁.setTop (mkF m 10 #[.val (.ref b), .val (.int (58 : Int32)), .val (.int (0 : Int32)), .val (.int (5 : Int32)), .val (.int (58 : Int32)), .val (.int (2 : Int32))] [(.int (5 : Int32)), (.int (2 : Int32))])) _
    refine XS.icmpNo X0.here hx rfl (hb hby d31_10) rfl (tlt (by decide : (2 : Int32) < (5 : Int32))).2.1 ?_
    show Steps p.tables e below (s₁.setTop (mkF m 13 #[.val (.ref b), .val (.int (58 : Int32)), .val (.int (0 : Int32)), .val (.int (5 : Int32)), .val (.int (58 : Int32)), .val (.int (2 : Int32))] [])) _
    refine XS.aloadN X0.here hx rfl (hb hby d31_13) rfl rfl ?_
    show Steps p.tables e below (s₁.setTop (mkF m 14 #[.val (.ref b), .val (.int (58 : Int32)), .val (.int (0 : Int32)), .val (.int (5 : Int32)), .val (.int (58 : Int32)), .val (.int (2 : Int32))] [(.ref b)])) _
    refine XS.iload X0.here hx rfl (hb hby d31_14) rfl ?_
    show Steps p.tables e below (s₁.setTop (mkF m 16 #[.val (.ref b), .val (.int (58 : Int32)), .val (.int (0 : Int32)), .val (.int (5 : Int32)), .val (.int (58 : Int32)), .val (.int (2 : Int32))] [(.int (2 : Int32)), (.ref b)])) _
    refine X0.baloadBytes hx (j := (2 : Int32)) (v := (.int (45 : Int32))) (by rw [e0]; exact Ar3.1) (State.isArrayOf_alike hZ.alike Ar3.2.1) Ar3.2.2 hin3 hat3 (g := (mkF m 16 #[.val (.ref b), .val (.int (58 : Int32)), .val (.int (0 : Int32)), .val (.int (5 : Int32)), .val (.int (58 : Int32)), .val (.int (2 : Int32))] [(.int (2 : Int32)), (.ref b)])) rfl rfl (hb hby d31_16) _ ?_
    show Steps p.tables e below (s₁.setTop (mkF m 17 #[.val (.ref b), .val (.int (58 : Int32)), .val (.int (0 : Int32)), .val (.int (5 : Int32)), .val (.int (58 : Int32)), .val (.int (2 : Int32))] [(.int (45 : Int32))])) _
    refine XS.iload X0.here hx rfl (hb hby d31_17) rfl ?_
    show Steps p.tables e below (s₁.setTop (mkF m 19 #[.val (.ref b), .val (.int (58 : Int32)), .val (.int (0 : Int32)), .val (.int (5 : Int32)), .val (.int (58 : Int32)), .val (.int (2 : Int32))] [(.int (58 : Int32)), (.int (45 : Int32))])) _
    refine XS.icmpYes X0.here hx rfl (pc0 := 19) (pc' := 25) rfl (hb hby d31_19) rfl (feq (by decide : ¬ ((45 : Int32) = (58 : Int32)))).2 (by decide) (by decide) ?_
    show Steps p.tables e below (s₁.setTop (mkF m 25 #[.val (.ref b), .val (.int (58 : Int32)), .val (.int (0 : Int32)), .val (.int (5 : Int32)), .val (.int (58 : Int32)), .val (.int (2 : Int32))] [])) _
    refine XS.iinc X0.here hx rfl (hb hby d31_25) rfl (l' := #[.val (.ref b), .val (.int (58 : Int32)), .val (.int (0 : Int32)), .val (.int (5 : Int32)), .val (.int (58 : Int32)), .val (.int (3 : Int32))]) rfl ?_
    show Steps p.tables e below (s₁.setTop (mkF m 28 #[.val (.ref b), .val (.int (58 : Int32)), .val (.int (0 : Int32)), .val (.int (5 : Int32)), .val (.int (58 : Int32)), .val (.int (3 : Int32))] [])) _
    refine XS.goto X0.here hx rfl (pc0 := 28) (pc' := 7) rfl (hb hby d31_28) (by decide) (by decide) ?_
    show Steps p.tables e below (s₁.setTop (mkF m 7 #[.val (.ref b), .val (.int (58 : Int32)), .val (.int (0 : Int32)), .val (.int (5 : Int32)), .val (.int (58 : Int32)), .val (.int (3 : Int32))] [])) _
    refine XS.iload X0.here hx rfl (hb hby d31_7) rfl ?_
    show Steps p.tables e below (s₁.setTop (mkF m 9 #[.val (.ref b), .val (.int (58 : Int32)), .val (.int (0 : Int32)), .val (.int (5 : Int32)), .val (.int (58 : Int32)), .val (.int (3 : Int32))] [(.int (3 : Int32))])) _
    refine XS.iloadN X0.here hx rfl (hb hby d31_9) rfl ?_
    show Steps p.tables e below (s₁.setTop (mkF m 10 #[.val (.ref b), .val (.int (58 : Int32)), .val (.int (0 : Int32)), .val (.int (5 : Int32)), .val (.int (58 : Int32)), .val (.int (3 : Int32))] [(.int (5 : Int32)), (.int (3 : Int32))])) _
    refine XS.icmpNo X0.here hx rfl (hb hby d31_10) rfl (tlt (by decide : (3 : Int32) < (5 : Int32))).2.1 ?_
    show Steps p.tables e below (s₁.setTop (mkF m 13 #[.val (.ref b), .val (.int (58 : Int32)), .val (.int (0 : Int32)), .val (.int (5 : Int32)), .val (.int (58 : Int32)), .val (.int (3 : Int32))] [])) _
    refine XS.aloadN X0.here hx rfl (hb hby d31_13) rfl rfl ?_
    show Steps p.tables e below (s₁.setTop (mkF m 14 #[.val (.ref b), .val (.int (58 : Int32)), .val (.int (0 : Int32)), .val (.int (5 : Int32)), .val (.int (58 : Int32)), .val (.int (3 : Int32))] [(.ref b)])) _
    refine XS.iload X0.here hx rfl (hb hby d31_14) rfl ?_
    show Steps p.tables e below (s₁.setTop (mkF m 16 #[.val (.ref b), .val (.int (58 : Int32)), .val (.int (0 : Int32)), .val (.int (5 : Int32)), .val (.int (58 : Int32)), .val (.int (3 : Int32))] [(.int (3 : Int32)), (.ref b)])) _
    refine X0.baloadBytes hx (j := (3 : Int32)) (v := (.int (58 : Int32))) (by rw [e0]; exact Ar4.1) (State.isArrayOf_alike hZ.alike Ar4.2.1) Ar4.2.2 hin4 hat4 (g := (mkF m 16 #[.val (.ref b), .val (.int (58 : Int32)), .val (.int (0 : Int32)), .val (.int (5 : Int32)), .val (.int (58 : Int32)), .val (.int (3 : Int32))] [(.int (3 : Int32)), (.ref b)])) rfl rfl (hb hby d31_16) _ ?_
    show Steps p.tables e below (s₁.setTop (mkF m 17 #[.val (.ref b), .val (.int (58 : Int32)), .val (.int (0 : Int32)), .val (.int (5 : Int32)), .val (.int (58 : Int32)), .val (.int (3 : Int32))] [(.int (58 : Int32))])) _
    refine XS.iload X0.here hx rfl (hb hby d31_17) rfl ?_
    show Steps p.tables e below (s₁.setTop (mkF m 19 #[.val (.ref b), .val (.int (58 : Int32)), .val (.int (0 : Int32)), .val (.int (5 : Int32)), .val (.int (58 : Int32)), .val (.int (3 : Int32))] [(.int (58 : Int32)), (.int (58 : Int32))])) _
    refine XS.icmpNo X0.here hx rfl (hb hby d31_19) rfl (teq (by decide : (58 : Int32) = (58 : Int32))).2 ?_
    show Steps p.tables e below (s₁.setTop (mkF m 22 #[.val (.ref b), .val (.int (58 : Int32)), .val (.int (0 : Int32)), .val (.int (5 : Int32)), .val (.int (58 : Int32)), .val (.int (3 : Int32))] [])) _
    refine XS.iload X0.here hx rfl (hb hby d31_22) rfl ?_
    show Steps p.tables e below (s₁.setTop (mkF m 24 #[.val (.ref b), .val (.int (58 : Int32)), .val (.int (0 : Int32)), .val (.int (5 : Int32)), .val (.int (58 : Int32)), .val (.int (3 : Int32))] [(.int (3 : Int32))])) _
    exact retI X0 hx Bd.returns (hb hby d31_24) hr
  · show Q_m31_3 Z b kb h0 n0 _ s₁.heap _
    exact ⟨rfl, N0, e0⟩
def Q_m31_4 (Z : State) (b : Addr) (kb : ClassId) (h0 : Heap) (n0 : Nat) (v : Option Value) (h : Heap) (L : List Loc) : Prop := v = (some (.int (4 : Int32))) ∧ Fr n0 L ∧ h = h0
theorem ef_m31_4 (m : MethodId) (b : Addr) (kb : ClassId) : entryFrame m #[(.ref b), (.int (47 : Int32)), (.int (0 : Int32)), (.int (5 : Int32))] 6 = mkF m 0 #[.val (.ref b), .val (.int (47 : Int32)), .val (.int (0 : Int32)), .val (.int (5 : Int32)), .unset, .unset] [] := by first | (simp [entryFrame, mkF, argsToLocals, Value.category]; done) | rfl
set_option maxRecDepth 65536 in
set_option maxHeartbeats 40000000 in
theorem m31_4 (l : Launch) (Z : State) (a0 : Array Value) (hw : ∀ d ∈ tables_1, d.before a0 Z = true) (ws : List Jvm.Cond) (b : Addr) (kb : ClassId) (h0 : Heap) (n0 : Nat) (Z0 : n0 ≤ h0.size) (V : Arv Z h0 b kb .byte (5 : Int32) [(.int (46 : Int32)), (.int (95 : Int32)), (.int (45 : Int32)), (.int (58 : Int32)), (.int (47 : Int32))] (.int (0 : Int32))) :
    MetFree l (⟨"java/lang/StringLatin1", "indexOfChar", "([BIII)I"⟩ : MethodName) (head1 (Jvm.Cond.code (⟨"java/lang/StringLatin1", "indexOfChar", "([BIII)I"⟩ : MethodName) jdk_43_method_23_code 6 (some .int) :: ws) ({ frames := 0, cells := 0, slots := 0, locals := 0 } : Room)) (fun ar_ U => ar_ = #[(.ref b), (.int (47 : Int32)), (.int (0 : Int32)), (.int (5 : Int32))] ∧ Z.Warmed39 U.vm ∧ U.heap = h0) (fun _ _ _ _ _ => True) (fun _ U o U' => ∃ v L, o = .returned v ∧ Q_m31_4 Z b kb h0 n0 v U'.heap L ∧ FrameEnd U o U' L ({ frames := 0, cells := 0, slots := 0, locals := 0 } : Room).cells ({ frames := 0, cells := 0, slots := 0, locals := 0 } : Room).slots) := by
  refine MetFree.of_bodySF (plainFor_of_name pnx_java_lang_StringLatin1) hisR ?_
  intro p e s m args below meth c s₁ Bd hml0 hP hK
  obtain ⟨rfl, hZ, hh⟩ := hP
  have hx := Bd.exec
  have hby := Bd.bytes
  have hml : c.maxLocals = 6 := hml0
  have hown : s.vm.findClass "java/lang/StringLatin1" = some m.cls := findClass_of_methodNamed Bd.named
  have hnm := (name_of_methodNamed Bd.named Bd.method).1
  have X0 : Stand p l e ({ frames := 0, cells := 0, slots := 0, locals := 0 } : Room) s m #[(.ref b), (.int (47 : Int32)), (.int (0 : Int32)), (.int (5 : Int32))] below meth c s₁ [] 0 0 := Stand.of_body Bd
  have e0 : s₁.heap = h0 := by rw [← hh, Bd.state]; rfl
  have N0 := Fr.nil n0
  have pre0 : ∀ tq_, Steps p.tables e below (s₁.setTop (mkF m 0 #[.val (.ref b), .val (.int (47 : Int32)), .val (.int (0 : Int32)), .val (.int (5 : Int32)), .unset, .unset] [])) tq_ → Steps p.tables e below (s₁.setTop (entryFrame m #[(.ref b), (.int (47 : Int32)), (.int (0 : Int32)), (.int (5 : Int32))] 6)) tq_ := fun tq_ kt_ => castTop (ef_m31_4 m b kb ) kt_
  obtain ⟨c1, Ar1, -, Sz1, -, H1, -⟩ := id V
  have hin1 := inb_of (j := (0 : Int32)) Sz1 ⟨by decide, by decide⟩
  have hat1 : c1.slots[((0 : Int32) : Int32).toNatClampNeg]? = some (.int (46 : Int32)) := H1 _ (Nat.lt_of_not_le fun q => hin1 (Or.inr q))
  obtain ⟨c2, Ar2, -, Sz2, -, H2, -⟩ := id V
  have hin2 := inb_of (j := (1 : Int32)) Sz2 ⟨by decide, by decide⟩
  have hat2 : c2.slots[((1 : Int32) : Int32).toNatClampNeg]? = some (.int (95 : Int32)) := H2 _ (Nat.lt_of_not_le fun q => hin2 (Or.inr q))
  obtain ⟨c3, Ar3, -, Sz3, -, H3, -⟩ := id V
  have hin3 := inb_of (j := (2 : Int32)) Sz3 ⟨by decide, by decide⟩
  have hat3 : c3.slots[((2 : Int32) : Int32).toNatClampNeg]? = some (.int (45 : Int32)) := H3 _ (Nat.lt_of_not_le fun q => hin3 (Or.inr q))
  obtain ⟨c4, Ar4, -, Sz4, -, H4, -⟩ := id V
  have hin4 := inb_of (j := (3 : Int32)) Sz4 ⟨by decide, by decide⟩
  have hat4 : c4.slots[((3 : Int32) : Int32).toNatClampNeg]? = some (.int (58 : Int32)) := H4 _ (Nat.lt_of_not_le fun q => hin4 (Or.inr q))
  obtain ⟨c5, Ar5, -, Sz5, -, H5, -⟩ := id V
  have hin5 := inb_of (j := (4 : Int32)) Sz5 ⟨by decide, by decide⟩
  have hat5 : c5.slots[((4 : Int32) : Int32).toNatClampNeg]? = some (.int (47 : Int32)) := H5 _ (Nat.lt_of_not_le fun q => hin5 (Or.inr q))
  obtain ⟨fs, hr, hrun, hended, hW, hsame⟩ := X0.leave (v := some (.int (4 : Int32))) (fun h => by rw [Bd.returns] at h; cases h)
  refine ⟨_, _, pre0 _ ?_, hrun, hended, _, _, rfl, ?_, ⟨_, rfl⟩, hW, hsame.mono (nle rfl) (nle rfl)⟩
  · show Steps p.tables e below (s₁.setTop (mkF m 0 #[.val (.ref b), .val (.int (47 : Int32)), .val (.int (0 : Int32)), .val (.int (5 : Int32)), .unset, .unset] [])) _
    refine XS.iloadN X0.here hx rfl (hb hby d31_0) rfl ?_
    show Steps p.tables e below (s₁.setTop (mkF m 1 #[.val (.ref b), .val (.int (47 : Int32)), .val (.int (0 : Int32)), .val (.int (5 : Int32)), .unset, .unset] [(.int (47 : Int32))])) _
    show Steps p.tables e below (s₁.setTop (mkF m 1 #[.val (.ref b), .val (.int (47 : Int32)), .val (.int (0 : Int32)), .val (.int (5 : Int32)), .unset, .unset] [(.int (47 : Int32))])) _
    refine XS.i2b X0.here hx rfl (hb hby d31_1) rfl ?_
    show Steps p.tables e below (s₁.setTop (mkF m 2 #[.val (.ref b), .val (.int (47 : Int32)), .val (.int (0 : Int32)), .val (.int (5 : Int32)), .unset, .unset] [(.int ((47 : Int32).toInt8.toInt32))])) _
    rw [show ((47 : Int32).toInt8.toInt32) = (47 : Int32) from by decide]
    show Steps p.tables e below (s₁.setTop (mkF m 2 #[.val (.ref b), .val (.int (47 : Int32)), .val (.int (0 : Int32)), .val (.int (5 : Int32)), .unset, .unset] [(.int (47 : Int32))])) _
    refine XS.istore X0.here hx rfl (hb hby d31_2) rfl (l' := #[.val (.ref b), .val (.int (47 : Int32)), .val (.int (0 : Int32)), .val (.int (5 : Int32)), .val (.int (47 : Int32)), .unset]) rfl ?_
    show Steps p.tables e below (s₁.setTop (mkF m 4 #[.val (.ref b), .val (.int (47 : Int32)), .val (.int (0 : Int32)), .val (.int (5 : Int32)), .val (.int (47 : Int32)), .unset] [])) _
    refine XS.iloadN X0.here hx rfl (hb hby d31_4) rfl ?_
    show Steps p.tables e below (s₁.setTop (mkF m 5 #[.val (.ref b), .val (.int (47 : Int32)), .val (.int (0 : Int32)), .val (.int (5 : Int32)), .val (.int (47 : Int32)), .unset] [(.int (0 : Int32))])) _
    refine XS.istore X0.here hx rfl (hb hby d31_5) rfl (l' := #[.val (.ref b), .val (.int (47 : Int32)), .val (.int (0 : Int32)), .val (.int (5 : Int32)), .val (.int (47 : Int32)), .val (.int (0 : Int32))]) rfl ?_
    show Steps p.tables e below (s₁.setTop (mkF m 7 #[.val (.ref b), .val (.int (47 : Int32)), .val (.int (0 : Int32)), .val (.int (5 : Int32)), .val (.int (47 : Int32)), .val (.int (0 : Int32))] [])) _
    refine XS.iload X0.here hx rfl (hb hby d31_7) rfl ?_
    show Steps p.tables e below (s₁.setTop (mkF m 9 #[.val (.ref b), .val (.int (47 : Int32)), .val (.int (0 : Int32)), .val (.int (5 : Int32)), .val (.int (47 : Int32)), .val (.int (0 : Int32))] [(.int (0 : Int32))])) _
    refine XS.iloadN X0.here hx rfl (hb hby d31_9) rfl ?_
    show Steps p.tables e below (s₁.setTop (mkF m 10 #[.val (.ref b), .val (.int (47 : Int32)), .val (.int (0 : Int32)), .val (.int (5 : Int32)), .val (.int (47 : Int32)), .val (.int (0 : Int32))] [(.int (5 : Int32)), (.int (0 : Int32))])) _
    refine XS.icmpNo X0.here hx rfl (hb hby d31_10) rfl (tlt (by decide : (0 : Int32) < (5 : Int32))).2.1 ?_
    show Steps p.tables e below (s₁.setTop (mkF m 13 #[.val (.ref b), .val (.int (47 : Int32)), .val (.int (0 : Int32)), .val (.int (5 : Int32)), .val (.int (47 : Int32)), .val (.int (0 : Int32))] [])) _
    refine XS.aloadN X0.here hx rfl (hb hby d31_13) rfl rfl ?_
    show Steps p.tables e below (s₁.setTop (mkF m 14 #[.val (.ref b), .val (.int (47 : Int32)), .val (.int (0 : Int32)), .val (.int (5 : Int32)), .val (.int (47 : Int32)), .val (.int (0 : Int32))] [(.ref b)])) _
    refine XS.iload X0.here hx rfl (hb hby d31_14) rfl ?_
    show Steps p.tables e below (s₁.setTop (mkF m 16 #[.val (.ref b), .val (.int (47 : Int32)), .val (.int (0 : Int32)), .val (.int (5 : Int32)), .val (.int (47 : Int32)), .val (.int (0 : Int32))] [(.int (0 : Int32)), (.ref b)])) _
    refine X0.baloadBytes hx (j := (0 : Int32)) (v := (.int (46 : Int32))) (by rw [e0]; exact Ar1.1) (State.isArrayOf_alike hZ.alike Ar1.2.1) Ar1.2.2 hin1 hat1 (g := (mkF m 16 #[.val (.ref b), .val (.int (47 : Int32)), .val (.int (0 : Int32)), .val (.int (5 : Int32)), .val (.int (47 : Int32)), .val (.int (0 : Int32))] [(.int (0 : Int32)), (.ref b)])) rfl rfl (hb hby d31_16) _ ?_
    show Steps p.tables e below (s₁.setTop (mkF m 17 #[.val (.ref b), .val (.int (47 : Int32)), .val (.int (0 : Int32)), .val (.int (5 : Int32)), .val (.int (47 : Int32)), .val (.int (0 : Int32))] [(.int (46 : Int32))])) _
    refine XS.iload X0.here hx rfl (hb hby d31_17) rfl ?_
    show Steps p.tables e below (s₁.setTop (mkF m 19 #[.val (.ref b), .val (.int (47 : Int32)), .val (.int (0 : Int32)), .val (.int (5 : Int32)), .val (.int (47 : Int32)), .val (.int (0 : Int32))] [(.int (47 : Int32)), (.int (46 : Int32))])) _
    refine XS.icmpYes X0.here hx rfl (pc0 := 19) (pc' := 25) rfl (hb hby d31_19) rfl (feq (by decide : ¬ ((46 : Int32) = (47 : Int32)))).2 (by decide) (by decide) ?_
    show Steps p.tables e below (s₁.setTop (mkF m 25 #[.val (.ref b), .val (.int (47 : Int32)), .val (.int (0 : Int32)), .val (.int (5 : Int32)), .val (.int (47 : Int32)), .val (.int (0 : Int32))] [])) _
    refine XS.iinc X0.here hx rfl (hb hby d31_25) rfl (l' := #[.val (.ref b), .val (.int (47 : Int32)), .val (.int (0 : Int32)), .val (.int (5 : Int32)), .val (.int (47 : Int32)), .val (.int (1 : Int32))]) rfl ?_
    show Steps p.tables e below (s₁.setTop (mkF m 28 #[.val (.ref b), .val (.int (47 : Int32)), .val (.int (0 : Int32)), .val (.int (5 : Int32)), .val (.int (47 : Int32)), .val (.int (1 : Int32))] [])) _
    refine XS.goto X0.here hx rfl (pc0 := 28) (pc' := 7) rfl (hb hby d31_28) (by decide) (by decide) ?_
    show Steps p.tables e below (s₁.setTop (mkF m 7 #[.val (.ref b), .val (.int (47 : Int32)), .val (.int (0 : Int32)), .val (.int (5 : Int32)), .val (.int (47 : Int32)), .val (.int (1 : Int32))] [])) _
    refine XS.iload X0.here hx rfl (hb hby d31_7) rfl ?_
    show Steps p.tables e below (s₁.setTop (mkF m 9 #[.val (.ref b), .val (.int (47 : Int32)), .val (.int (0 : Int32)), .val (.int (5 : Int32)), .val (.int (47 : Int32)), .val (.int (1 : Int32))] [(.int (1 : Int32))])) _
    refine XS.iloadN X0.here hx rfl (hb hby d31_9) rfl ?_
    show Steps p.tables e below (s₁.setTop (mkF m 10 #[.val (.ref b), .val (.int (47 : Int32)), .val (.int (0 : Int32)), .val (.int (5 : Int32)), .val (.int (47 : Int32)), .val (.int (1 : Int32))] [(.int (5 : Int32)), (.int (1 : Int32))])) _
    refine XS.icmpNo X0.here hx rfl (hb hby d31_10) rfl (tlt (by decide : (1 : Int32) < (5 : Int32))).2.1 ?_
    show Steps p.tables e below (s₁.setTop (mkF m 13 #[.val (.ref b), .val (.int (47 : Int32)), .val (.int (0 : Int32)), .val (.int (5 : Int32)), .val (.int (47 : Int32)), .val (.int (1 : Int32))] [])) _
    refine XS.aloadN X0.here hx rfl (hb hby d31_13) rfl rfl ?_
    show Steps p.tables e below (s₁.setTop (mkF m 14 #[.val (.ref b), .val (.int (47 : Int32)), .val (.int (0 : Int32)), .val (.int (5 : Int32)), .val (.int (47 : Int32)), .val (.int (1 : Int32))] [(.ref b)])) _
    refine XS.iload X0.here hx rfl (hb hby d31_14) rfl ?_
    show Steps p.tables e below (s₁.setTop (mkF m 16 #[.val (.ref b), .val (.int (47 : Int32)), .val (.int (0 : Int32)), .val (.int (5 : Int32)), .val (.int (47 : Int32)), .val (.int (1 : Int32))] [(.int (1 : Int32)), (.ref b)])) _
    refine X0.baloadBytes hx (j := (1 : Int32)) (v := (.int (95 : Int32))) (by rw [e0]; exact Ar2.1) (State.isArrayOf_alike hZ.alike Ar2.2.1) Ar2.2.2 hin2 hat2 (g := (mkF m 16 #[.val (.ref b), .val (.int (47 : Int32)), .val (.int (0 : Int32)), .val (.int (5 : Int32)), .val (.int (47 : Int32)), .val (.int (1 : Int32))] [(.int (1 : Int32)), (.ref b)])) rfl rfl (hb hby d31_16) _ ?_
    show Steps p.tables e below (s₁.setTop (mkF m 17 #[.val (.ref b), .val (.int (47 : Int32)), .val (.int (0 : Int32)), .val (.int (5 : Int32)), .val (.int (47 : Int32)), .val (.int (1 : Int32))] [(.int (95 : Int32))])) _
    refine XS.iload X0.here hx rfl (hb hby d31_17) rfl ?_
    show Steps p.tables e below (s₁.setTop (mkF m 19 #[.val (.ref b), .val (.int (47 : Int32)), .val (.int (0 : Int32)), .val (.int (5 : Int32)), .val (.int (47 : Int32)), .val (.int (1 : Int32))] [(.int (47 : Int32)), (.int (95 : Int32))])) _
    refine XS.icmpYes X0.here hx rfl (pc0 := 19) (pc' := 25) rfl (hb hby d31_19) rfl (feq (by decide : ¬ ((95 : Int32) = (47 : Int32)))).2 (by decide) (by decide) ?_
    show Steps p.tables e below (s₁.setTop (mkF m 25 #[.val (.ref b), .val (.int (47 : Int32)), .val (.int (0 : Int32)), .val (.int (5 : Int32)), .val (.int (47 : Int32)), .val (.int (1 : Int32))] [])) _
    refine XS.iinc X0.here hx rfl (hb hby d31_25) rfl (l' := #[.val (.ref b), .val (.int (47 : Int32)), .val (.int (0 : Int32)), .val (.int (5 : Int32)), .val (.int (47 : Int32)), .val (.int (2 : Int32))]) rfl ?_
    show Steps p.tables e below (s₁.setTop (mkF m 28 #[.val (.ref b), .val (.int (47 : Int32)), .val (.int (0 : Int32)), .val (.int (5 : Int32)), .val (.int (47 : Int32)), .val (.int (2 : Int32))] [])) _
    refine XS.goto X0.here hx rfl (pc0 := 28) (pc' := 7) rfl (hb hby d31_28) (by decide) (by decide) ?_
    show Steps p.tables e below (s₁.setTop (mkF m 7 #[.val (.ref b), .val (.int (47 : Int32)), .val (.int (0 : Int32)), .val (.int (5 : Int32)), .val (.int (47 : Int32)), .val (.int (2 : Int32))] [])) _
    refine XS.iload X0.here hx rfl (hb hby d31_7) rfl ?_
    show Steps p.tables e below (s₁.setTop (mkF m 9 #[.val (.ref b), .val (.int (47 : Int32)), .val (.int (0 : Int32)), .val (.int (5 : Int32)), .val (.int (47 : Int32)), .val (.int (2 : Int32))] [(.int (2 : Int32))])) _
    refine XS.iloadN X0.here hx rfl (hb hby d31_9) rfl ?_
    show Steps p.tables e below (s₁.setTop (mkF m 10 #[.val (.ref b), .val (.int (47 : Int32)), .val (.int (0 : Int32)), .val (.int (5 : Int32)), .val (.int (47 : Int32)), .val (.int (2 : Int32))] [(.int (5 : Int32)), (.int (2 : Int32))])) _
    refine XS.icmpNo X0.here hx rfl (hb hby d31_10) rfl (tlt (by decide : (2 : Int32) < (5 : Int32))).2.1 ?_
    show Steps p.tables e below (s₁.setTop (mkF m 13 #[.val (.ref b), .val (.int (47 : Int32)), .val (.int (0 : Int32)), .val (.int (5 : Int32)), .val (.int (47 : Int32)), .val (.int (2 : Int32))] [])) _
    refine XS.aloadN X0.here hx rfl (hb hby d31_13) rfl rfl ?_
    show Steps p.tables e below (s₁.setTop (mkF m 14 #[.val (.ref b), .val (.int (47 : Int32)), .val (.int (0 : Int32)), .val (.int (5 : Int32)), .val (.int (47 : Int32)), .val (.int (2 : Int32))] [(.ref b)])) _
    refine XS.iload X0.here hx rfl (hb hby d31_14) rfl ?_
    show Steps p.tables e below (s₁.setTop (mkF m 16 #[.val (.ref b), .val (.int (47 : Int32)), .val (.int (0 : Int32)), .val (.int (5 : Int32)), .val (.int (47 : Int32)), .val (.int (2 : Int32))] [(.int (2 : Int32)), (.ref b)])) _
    refine X0.baloadBytes hx (j := (2 : Int32)) (v := (.int (45 : Int32))) (by rw [e0]; exact Ar3.1) (State.isArrayOf_alike hZ.alike Ar3.2.1) Ar3.2.2 hin3 hat3 (g := (mkF m 16 #[.val (.ref b), .val (.int (47 : Int32)), .val (.int (0 : Int32)), .val (.int (5 : Int32)), .val (.int (47 : Int32)), .val (.int (2 : Int32))] [(.int (2 : Int32)), (.ref b)])) rfl rfl (hb hby d31_16) _ ?_
    show Steps p.tables e below (s₁.setTop (mkF m 17 #[.val (.ref b), .val (.int (47 : Int32)), .val (.int (0 : Int32)), .val (.int (5 : Int32)), .val (.int (47 : Int32)), .val (.int (2 : Int32))] [(.int (45 : Int32))])) _
    refine XS.iload X0.here hx rfl (hb hby d31_17) rfl ?_
    show Steps p.tables e below (s₁.setTop (mkF m 19 #[.val (.ref b), .val (.int (47 : Int32)), .val (.int (0 : Int32)), .val (.int (5 : Int32)), .val (.int (47 : Int32)), .val (.int (2 : Int32))] [(.int (47 : Int32)), (.int (45 : Int32))])) _
    refine XS.icmpYes X0.here hx rfl (pc0 := 19) (pc' := 25) rfl (hb hby d31_19) rfl (feq (by decide : ¬ ((45 : Int32) = (47 : Int32)))).2 (by decide) (by decide) ?_
    show Steps p.tables e below (s₁.setTop (mkF m 25 #[.val (.ref b), .val (.int (47 : Int32)), .val (.int (0 : Int32)), .val (.int (5 : Int32)), .val (.int (47 : Int32)), .val (.int (2 : Int32))] [])) _
    refine XS.iinc X0.here hx rfl (hb hby d31_25) rfl (l' := #[.val (.ref b), .val (.int (47 : Int32)), .val (.int (0 : Int32)), .val (.int (5 : Int32)), .val (.int (47 : Int32)), .val (.int (3 : Int32))]) rfl ?_
    show Steps p.tables e below (s₁.setTop (mkF m 28 #[.val (.ref b), .val (.int (47 : Int32)), .val (.int (0 : Int32)), .val (.int (5 : Int32)), .val (.int (47 : Int32)), .val (.int (3 : Int32))] [])) _
    refine XS.goto X0.here hx rfl (pc0 := 28) (pc' := 7) rfl (hb hby d31_28) (by decide) (by decide) ?_
    show Steps p.tables e below (s₁.setTop (mkF m 7 #[.val (.ref b), .val (.int (47 : Int32)), .val (.int (0 : Int32)), .val (.int (5 : Int32)), .val (.int (47 : Int32)), .val (.int (3 : Int32))] [])) _
    refine XS.iload X0.here hx rfl (hb hby d31_7) rfl ?_
    show Steps p.tables e below (s₁.setTop (mkF m 9 #[.val (.ref b), .val (.int (47 : Int32)), .val (.int (0 : Int32)), .val (.int (5 : Int32)), .val (.int (47 : Int32)), .val (.int (3 : Int32))] [(.int (3 : Int32))])) _
    refine XS.iloadN X0.here hx rfl (hb hby d31_9) rfl ?_
    show Steps p.tables e below (s₁.setTop (mkF m 10 #[.val (.ref b), .val (.int (47 : Int32)), .val (.int (0 : Int32)), .val (.int (5 : Int32)), .val (.int (47 : Int32)), .val (.int (3 : Int32))] [(.int (5 : Int32)), (.int (3 : Int32))])) _
    refine XS.icmpNo X0.here hx rfl (hb hby d31_10) rfl (tlt (by decide : (3 : Int32) < (5 : Int32))).2.1 ?_
    show Steps p.tables e below (s₁.setTop (mkF m 13 #[.val (.ref b), .val (.int (47 : Int32)), .val (.int (0 : Int32)), .val (.int (5 : Int32)), .val (.int (47 : Int32)), .val (.int (3 : Int32))] [])) _
    refine XS.aloadN X0.here hx rfl (hb hby d31_13) rfl rfl ?_
    show Steps p.tables e below (s₁.setTop (mkF m 14 #[.val (.ref b), .val (.int (47 : Int32)), .val (.int (0 : Int32)), .val (.int (5 : Int32)), .val (.int (47 : Int32)), .val (.int (3 : Int32))] [(.ref b)])) _
    refine XS.iload X0.here hx rfl (hb hby d31_14) rfl ?_
    show Steps p.tables e below (s₁.setTop (mkF m 16 #[.val (.ref b), .val (.int (47 : Int32)), .val (.int (0 : Int32)), .val (.int (5 : Int32)), .val (.int (47 : Int32)), .val (.int (3 : Int32))] [(.int (3 : Int32)), (.ref b)])) _
    refine X0.baloadBytes hx (j := (3 : Int32)) (v := (.int (58 : Int32))) (by rw [e0]; exact Ar4.1) (State.isArrayOf_alike hZ.alike Ar4.2.1) Ar4.2.2 hin4 hat4 (g := (mkF m 16 #[.val (.ref b), .val (.int (47 : Int32)), .val (.int (0 : Int32)), .val (.int (5 : Int32)), .val (.int (47 : Int32)), .val (.int (3 : Int32))] [(.int (3 : Int32)), (.ref b)])) rfl rfl (hb hby d31_16) _ ?_
    show Steps p.tables e below (s₁.setTop (mkF m 17 #[.val (.ref b), .val (.int (47 : Int32)), .val (.int (0 : Int32)), .val (.int (5 : Int32)), .val (.int (47 : Int32)), .val (.int (3 : Int32))] [(.int (58 : Int32))])) _
    refine XS.iload X0.here hx rfl (hb hby d31_17) rfl ?_
    show Steps p.tables e below (s₁.setTop (mkF m 19 #[.val (.ref b), .val (.int (47 : Int32)), .val (.int (0 : Int32)), .val (.int (5 : Int32)), .val (.int (47 : Int32)), .val (.int (3 : Int32))] [(.int (47 : Int32)), (.int (58 : Int32))])) _
    refine XS.icmpYes X0.here hx rfl (pc0 := 19) (pc' := 25) rfl (hb hby d31_19) rfl (feq (by decide : ¬ ((58 : Int32) = (47 : Int32)))).2 (by decide) (by decide) ?_
    show Steps p.tables e below (s₁.setTop (mkF m 25 #[.val (.ref b), .val (.int (47 : Int32)), .val (.int (0 : Int32)), .val (.int (5 : Int32)), .val (.int (47 : Int32)), .val (.int (3 : Int32))] [])) _
    refine XS.iinc X0.here hx rfl (hb hby d31_25) rfl (l' := #[.val (.ref b), .val (.int (47 : Int32)), .val (.int (0 : Int32)), .val (.int (5 : Int32)), .val (.int (47 : Int32)), .val (.int (4 : Int32))]) rfl ?_
    show Steps p.tables e below (s₁.setTop (mkF m 28 #[.val (.ref b), .val (.int (47 : Int32)), .val (.int (0 : Int32)), .val (.int (5 : Int32)), .val (.int (47 : Int32)), .val (.int (4 : Int32))] [])) _
    refine XS.goto X0.here hx rfl (pc0 := 28) (pc' := 7) rfl (hb hby d31_28) (by decide) (by decide) ?_
    show Steps p.tables e below (s₁.setTop (mkF m 7 #[.val (.ref b), .val (.int (47 : Int32)), .val (.int (0 : Int32)), .val (.int (5 : Int32)), .val (.int (47 : Int32)), .val (.int (4 : Int32))] [])) _
    refine XS.iload X0.here hx rfl (hb hby d31_7) rfl ?_
    show Steps p.tables e below (s₁.setTop (mkF m 9 #[.val (.ref b), .val (.int (47 : Int32)), .val (.int (0 : Int32)), .val (.int (5 : Int32)), .val (.int (47 : Int32)), .val (.int (4 : Int32))] [(.int (4 : Int32))])) _
    refine XS.iloadN X0.here hx rfl (hb hby d31_9) rfl ?_
    show Steps p.tables e below (s₁.setTop (mkF m 10 #[.val (.ref b), .val (.int (47 : Int32)), .val (.int (0 : Int32)), .val (.int (5 : Int32)), .val (.int (47 : Int32)), .val (.int (4 : Int32))] [(.int (5 : Int32)), (.int (4 : Int32))])) _
    refine XS.icmpNo X0.here hx rfl (hb hby d31_10) rfl (tlt (by decide : (4 : Int32) < (5 : Int32))).2.1 ?_
    show Steps p.tables e below (s₁.setTop (mkF m 13 #[.val (.ref b), .val (.int (47 : Int32)), .val (.int (0 : Int32)), .val (.int (5 : Int32)), .val (.int (47 : Int32)), .val (.int (4 : Int32))] [])) _
    refine XS.aloadN X0.here hx rfl (hb hby d31_13) rfl rfl ?_
    show Steps p.tables e below (s₁.setTop (mkF m 14 #[.val (.ref b), .val (.int (47 : Int32)), .val (.int (0 : Int32)), .val (.int (5 : Int32)), .val (.int (47 : Int32)), .val (.int (4 : Int32))] [(.ref b)])) _
    refine XS.iload X0.here hx rfl (hb hby d31_14) rfl ?_
    show Steps p.tables e below (s₁.setTop (mkF m 16 #[.val (.ref b), .val (.int (47 : Int32)), .val (.int (0 : Int32)), .val (.int (5 : Int32)), .val (.int (47 : Int32)), .val (.int (4 : Int32))] [(.int (4 : Int32)), (.ref b)])) _
    refine X0.baloadBytes hx (j := (4 : Int32)) (v := (.int (47 : Int32))) (by rw [e0]; exact Ar5.1) (State.isArrayOf_alike hZ.alike Ar5.2.1) Ar5.2.2 hin5 hat5 (g := (mkF m 16 #[.val (.ref b), .val (.int (47 : Int32)), .val (.int (0 : Int32)), .val (.int (5 : Int32)), .val (.int (47 : Int32)), .val (.int (4 : Int32))] [(.int (4 : Int32)), (.ref b)])) rfl rfl (hb hby d31_16) _ ?_
    show Steps p.tables e below (s₁.setTop (mkF m 17 #[.val (.ref b), .val (.int (47 : Int32)), .val (.int (0 : Int32)), .val (.int (5 : Int32)), .val (.int (47 : Int32)), .val (.int (4 : Int32))] [(.int (47 : Int32))])) _
    refine XS.iload X0.here hx rfl (hb hby d31_17) rfl ?_
    show Steps p.tables e below (s₁.setTop (mkF m 19 #[.val (.ref b), .val (.int (47 : Int32)), .val (.int (0 : Int32)), .val (.int (5 : Int32)), .val (.int (47 : Int32)), .val (.int (4 : Int32))] [(.int (47 : Int32)), (.int (47 : Int32))])) _
    refine XS.icmpNo X0.here hx rfl (hb hby d31_19) rfl (teq (by decide : (47 : Int32) = (47 : Int32))).2 ?_
    show Steps p.tables e below (s₁.setTop (mkF m 22 #[.val (.ref b), .val (.int (47 : Int32)), .val (.int (0 : Int32)), .val (.int (5 : Int32)), .val (.int (47 : Int32)), .val (.int (4 : Int32))] [])) _
    refine XS.iload X0.here hx rfl (hb hby d31_22) rfl ?_
    show Steps p.tables e below (s₁.setTop (mkF m 24 #[.val (.ref b), .val (.int (47 : Int32)), .val (.int (0 : Int32)), .val (.int (5 : Int32)), .val (.int (47 : Int32)), .val (.int (4 : Int32))] [(.int (4 : Int32))])) _
    exact retI X0 hx Bd.returns (hb hby d31_24) hr
  · show Q_m31_4 Z b kb h0 n0 _ s₁.heap _
    exact ⟨rfl, N0, e0⟩
theorem own_m31 (l : Launch) (Z : State) (a0 : Array Value) (hw : ∀ d ∈ tables_1, d.before a0 Z = true) (ws : List Jvm.Cond) (b : Addr) (kb : ClassId) (cc r : Int32) (h0 : Heap) (n0 : Nat) (Z0 : n0 ≤ h0.size) (V : Arv Z h0 b kb .byte (5 : Int32) [(.int (46 : Int32)), (.int (95 : Int32)), (.int (45 : Int32)), (.int (58 : Int32)), (.int (47 : Int32))] (.int (0 : Int32))) (hk : (cc = (46 : Int32) ∧ r = (0 : Int32)) ∨ (cc = (95 : Int32) ∧ r = (1 : Int32)) ∨ (cc = (45 : Int32) ∧ r = (2 : Int32)) ∨ (cc = (58 : Int32) ∧ r = (3 : Int32)) ∨ (cc = (47 : Int32) ∧ r = (4 : Int32))) :
    MetFree l (⟨"java/lang/StringLatin1", "indexOfChar", "([BIII)I"⟩ : MethodName) (head1 (Jvm.Cond.code (⟨"java/lang/StringLatin1", "indexOfChar", "([BIII)I"⟩ : MethodName) jdk_43_method_23_code 6 (some .int) :: ws) ({ frames := 0, cells := 0, slots := 0, locals := 0 } : Room)) (fun ar_ U => ar_ = #[(.ref b), (.int cc), (.int (0 : Int32)), (.int (5 : Int32))] ∧ Z.Warmed39 U.vm ∧ U.heap = h0) (fun _ _ _ _ _ => True) (fun _ U o U' => ∃ v L, o = .returned v ∧ QV (some (.int r)) h0 n0 v U'.heap L ∧ FrameEnd U o U' L ({ frames := 0, cells := 0, slots := 0, locals := 0 } : Room).cells ({ frames := 0, cells := 0, slots := 0, locals := 0 } : Room).slots) := by
  rcases hk with ⟨rfl, rfl⟩ | ⟨rfl, rfl⟩ | ⟨rfl, rfl⟩ | ⟨rfl, rfl⟩ | ⟨rfl, rfl⟩
  · exact m31_0 l Z a0 hw ws b kb h0 n0 Z0 V
  · exact m31_1 l Z a0 hw ws b kb h0 n0 Z0 V
  · exact m31_2 l Z a0 hw ws b kb h0 n0 Z0 V
  · exact m31_3 l Z a0 hw ws b kb h0 n0 Z0 V
  · exact m31_4 l Z a0 hw ws b kb h0 n0 Z0 V
theorem d28_0 : decode jdk_43_method_4_code 0 = .ok (.iload_n 0, 1) := by decide +kernel
theorem d28_1 : decode jdk_43_method_4_code 1 = .ok (.ifCond .lt 14, 3) := by decide +kernel
theorem d28_4 : decode jdk_43_method_4_code 4 = .ok (.iload_n 0, 1) := by decide +kernel
theorem d28_5 : decode jdk_43_method_4_code 5 = .ok (.sipush 255, 3) := by decide +kernel
theorem d28_8 : decode jdk_43_method_4_code 8 = .ok (.if_icmp .gt 7, 3) := by decide +kernel
theorem d28_11 : decode jdk_43_method_4_code 11 = .ok (.iconst 1, 1) := by decide +kernel
theorem d28_12 : decode jdk_43_method_4_code 12 = .ok (.goto 4, 3) := by decide +kernel
theorem d28_16 : decode jdk_43_method_4_code 16 = .ok (.ireturn, 1) := by decide +kernel
def Q_m28 (Z : State) (x : Int32) (h0 : Heap) (n0 : Nat) (v : Option Value) (h : Heap) (L : List Loc) : Prop := v = (some (.int (1 : Int32))) ∧ Fr n0 L ∧ h = h0
theorem ef_m28 (m : MethodId) (x : Int32) : entryFrame m #[(.int x)] 1 = mkF m 0 #[.val (.int x)] [] := by first | (simp [entryFrame, mkF, argsToLocals, Value.category]; done) | rfl
set_option maxRecDepth 65536 in
set_option maxHeartbeats 40000000 in
theorem m28 (l : Launch) (Z : State) (a0 : Array Value) (hw : ∀ d ∈ tables_1, d.before a0 Z = true) (ws : List Jvm.Cond) (x : Int32) (h0 : Heap) (n0 : Nat) (Z0 : n0 ≤ h0.size) (hx0 : ¬ (x < (0 : Int32))) (hx255 : ¬ ((255 : Int32) < x)) :
    MetFree l (⟨"java/lang/StringLatin1", "canEncode", "(I)Z"⟩ : MethodName) (head1 (Jvm.Cond.code (⟨"java/lang/StringLatin1", "canEncode", "(I)Z"⟩ : MethodName) jdk_43_method_4_code 1 (some .boolean) :: ws) ({ frames := 0, cells := 0, slots := 0, locals := 0 } : Room)) (fun ar_ U => ar_ = #[(.int x)] ∧ Z.Warmed39 U.vm ∧ U.heap = h0) (fun _ _ _ _ _ => True) (fun _ U o U' => ∃ v L, o = .returned v ∧ Q_m28 Z x h0 n0 v U'.heap L ∧ FrameEnd U o U' L ({ frames := 0, cells := 0, slots := 0, locals := 0 } : Room).cells ({ frames := 0, cells := 0, slots := 0, locals := 0 } : Room).slots) := by
  refine MetFree.of_bodySF (plainFor_of_name pnx_java_lang_StringLatin1) hisR ?_
  intro p e s m args below meth c s₁ Bd hml0 hP hK
  obtain ⟨rfl, hZ, hh⟩ := hP
  have hx := Bd.exec
  have hby := Bd.bytes
  have hml : c.maxLocals = 1 := hml0
  have hown : s.vm.findClass "java/lang/StringLatin1" = some m.cls := findClass_of_methodNamed Bd.named
  have hnm := (name_of_methodNamed Bd.named Bd.method).1
  have X0 : Stand p l e ({ frames := 0, cells := 0, slots := 0, locals := 0 } : Room) s m #[(.int x)] below meth c s₁ [] 0 0 := Stand.of_body Bd
  have e0 : s₁.heap = h0 := by rw [← hh, Bd.state]; rfl
  have N0 := Fr.nil n0
  have pre0 : ∀ tq_, Steps p.tables e below (s₁.setTop (mkF m 0 #[.val (.int x)] [])) tq_ → Steps p.tables e below (s₁.setTop (entryFrame m #[(.int x)] 1)) tq_ := fun tq_ kt_ => castTop (ef_m28 m x ) kt_
  obtain ⟨fs, hr, hrun, hended, hW, hsame⟩ := X0.leave (v := some (.int (1 : Int32))) (fun h => by rw [Bd.returns] at h; cases h)
  refine ⟨_, _, pre0 _ ?_, hrun, hended, _, _, rfl, ?_, ⟨_, rfl⟩, hW, hsame.mono (nle rfl) (nle rfl)⟩
  · show Steps p.tables e below (s₁.setTop (mkF m 0 #[.val (.int x)] [])) _
    refine XS.iloadN X0.here hx rfl (hb hby d28_0) rfl ?_
    show Steps p.tables e below (s₁.setTop (mkF m 1 #[.val (.int x)] [(.int x)])) _
    refine XS.ifNo X0.here hx rfl (hb hby d28_1) rfl ((if0 _ _).trans (flt (hx0 : ¬ (x < (0 : Int32)))).1) ?_
    show Steps p.tables e below (s₁.setTop (mkF m 4 #[.val (.int x)] [])) _
    refine XS.iloadN X0.here hx rfl (hb hby d28_4) rfl ?_
    show Steps p.tables e below (s₁.setTop (mkF m 5 #[.val (.int x)] [(.int x)])) _
    refine XS.sipush X0.here hx rfl (hb hby d28_5) ?_
    show Steps p.tables e below (s₁.setTop (mkF m 8 #[.val (.int x)] [(.int (255 : Int32)), (.int x)])) _
    refine XS.icmpNo X0.here hx rfl (hb hby d28_8) rfl (flt (hx255 : ¬ ((255 : Int32) < x))).2.2.1 ?_
    show Steps p.tables e below (s₁.setTop (mkF m 11 #[.val (.int x)] [])) _
    refine XS.iconst X0.here hx rfl (hb hby d28_11) ?_
    show Steps p.tables e below (s₁.setTop (mkF m 12 #[.val (.int x)] [(.int (1 : Int32))])) _
    refine XS.goto X0.here hx rfl (pc0 := 12) (pc' := 16) rfl (hb hby d28_12) (by decide) (by decide) ?_
    show Steps p.tables e below (s₁.setTop (mkF m 16 #[.val (.int x)] [(.int (1 : Int32))])) _
    exact own_retN X0 hx (t := .boolean) rfl Bd.returns (by simp) (hb hby d28_16) hr
  · show Q_m28 Z x h0 n0 _ s₁.heap _
    exact ⟨rfl, N0, e0⟩
theorem d29_0 : decode jdk_29_method_65_code 0 = .ok (.iload_n 0, 1) := by decide +kernel
theorem d29_1 : decode jdk_29_method_65_code 1 = .ok (.iload_n 1, 1) := by decide +kernel
theorem d29_2 : decode jdk_29_method_65_code 2 = .ok (.if_icmp .lt 7, 3) := by decide +kernel
theorem d29_5 : decode jdk_29_method_65_code 5 = .ok (.iload_n 0, 1) := by decide +kernel
theorem d29_6 : decode jdk_29_method_65_code 6 = .ok (.goto 4, 3) := by decide +kernel
theorem d29_10 : decode jdk_29_method_65_code 10 = .ok (.ireturn, 1) := by decide +kernel
theorem pnx_m29 : plainFor (⟨"java/lang/Math", "max", "(II)I"⟩ : MethodName) = true := by decide +kernel
def Q_m29 (Z : State)  (h0 : Heap) (n0 : Nat) (v : Option Value) (h : Heap) (L : List Loc) : Prop := v = (some (.int (0 : Int32))) ∧ Fr n0 L ∧ h = h0
theorem ef_m29 (m : MethodId)  : entryFrame m #[(.int (0 : Int32)), (.int (0 : Int32))] 2 = mkF m 0 #[.val (.int (0 : Int32)), .val (.int (0 : Int32))] [] := by first | (simp [entryFrame, mkF, argsToLocals, Value.category]; done) | rfl
set_option maxRecDepth 65536 in
set_option maxHeartbeats 40000000 in
theorem m29 (l : Launch) (Z : State) (a0 : Array Value) (hw : ∀ d ∈ tables_1, d.before a0 Z = true) (ws : List Jvm.Cond)  (h0 : Heap) (n0 : Nat) (Z0 : n0 ≤ h0.size)  :
    MetFree l (⟨"java/lang/Math", "max", "(II)I"⟩ : MethodName) (head1 (Jvm.Cond.code (⟨"java/lang/Math", "max", "(II)I"⟩ : MethodName) jdk_29_method_65_code 2 (some .int) :: ws) ({ frames := 0, cells := 0, slots := 0, locals := 0 } : Room)) (fun ar_ U => ar_ = #[(.int (0 : Int32)), (.int (0 : Int32))] ∧ Z.Warmed39 U.vm ∧ U.heap = h0) (fun _ _ _ _ _ => True) (fun _ U o U' => ∃ v L, o = .returned v ∧ Q_m29 Z  h0 n0 v U'.heap L ∧ FrameEnd U o U' L ({ frames := 0, cells := 0, slots := 0, locals := 0 } : Room).cells ({ frames := 0, cells := 0, slots := 0, locals := 0 } : Room).slots) := by
  refine MetFree.of_bodySF pnx_m29 hisR ?_
  intro p e s m args below meth c s₁ Bd hml0 hP hK
  obtain ⟨rfl, hZ, hh⟩ := hP
  have hx := Bd.exec
  have hby := Bd.bytes
  have hml : c.maxLocals = 2 := hml0
  have hown : s.vm.findClass "java/lang/Math" = some m.cls := findClass_of_methodNamed Bd.named
  have hnm := (name_of_methodNamed Bd.named Bd.method).1
  have X0 : Stand p l e ({ frames := 0, cells := 0, slots := 0, locals := 0 } : Room) s m #[(.int (0 : Int32)), (.int (0 : Int32))] below meth c s₁ [] 0 0 := Stand.of_body Bd
  have e0 : s₁.heap = h0 := by rw [← hh, Bd.state]; rfl
  have N0 := Fr.nil n0
  have pre0 : ∀ tq_, Steps p.tables e below (s₁.setTop (mkF m 0 #[.val (.int (0 : Int32)), .val (.int (0 : Int32))] [])) tq_ → Steps p.tables e below (s₁.setTop (entryFrame m #[(.int (0 : Int32)), (.int (0 : Int32))] 2)) tq_ := fun tq_ kt_ => castTop (ef_m29 m  ) kt_
  obtain ⟨fs, hr, hrun, hended, hW, hsame⟩ := X0.leave (v := some (.int (0 : Int32))) (fun h => by rw [Bd.returns] at h; cases h)
  refine ⟨_, _, pre0 _ ?_, hrun, hended, _, _, rfl, ?_, ⟨_, rfl⟩, hW, hsame.mono (nle rfl) (nle rfl)⟩
  · show Steps p.tables e below (s₁.setTop (mkF m 0 #[.val (.int (0 : Int32)), .val (.int (0 : Int32))] [])) _
    refine XS.iloadN X0.here hx rfl (hb hby d29_0) rfl ?_
    show Steps p.tables e below (s₁.setTop (mkF m 1 #[.val (.int (0 : Int32)), .val (.int (0 : Int32))] [(.int (0 : Int32))])) _
    refine XS.iloadN X0.here hx rfl (hb hby d29_1) rfl ?_
    show Steps p.tables e below (s₁.setTop (mkF m 2 #[.val (.int (0 : Int32)), .val (.int (0 : Int32))] [(.int (0 : Int32)), (.int (0 : Int32))])) _
    refine XS.icmpNo X0.here hx rfl (hb hby d29_2) rfl (flt (by decide : ¬ ((0 : Int32) < (0 : Int32)))).1 ?_
    show Steps p.tables e below (s₁.setTop (mkF m 5 #[.val (.int (0 : Int32)), .val (.int (0 : Int32))] [])) _
    refine XS.iloadN X0.here hx rfl (hb hby d29_5) rfl ?_
    show Steps p.tables e below (s₁.setTop (mkF m 6 #[.val (.int (0 : Int32)), .val (.int (0 : Int32))] [(.int (0 : Int32))])) _
    refine XS.goto X0.here hx rfl (pc0 := 6) (pc' := 10) rfl (hb hby d29_6) (by decide) (by decide) ?_
    show Steps p.tables e below (s₁.setTop (mkF m 10 #[.val (.int (0 : Int32)), .val (.int (0 : Int32))] [(.int (0 : Int32))])) _
    exact retI X0 hx Bd.returns (hb hby d29_10) hr
  · show Q_m29 Z  h0 n0 _ s₁.heap _
    exact ⟨rfl, N0, e0⟩
theorem d30_0 : decode jdk_29_method_69_code 0 = .ok (.iload_n 0, 1) := by decide +kernel
theorem d30_1 : decode jdk_29_method_69_code 1 = .ok (.iload_n 1, 1) := by decide +kernel
theorem d30_2 : decode jdk_29_method_69_code 2 = .ok (.if_icmp .gt 7, 3) := by decide +kernel
theorem d30_5 : decode jdk_29_method_69_code 5 = .ok (.iload_n 0, 1) := by decide +kernel
theorem d30_6 : decode jdk_29_method_69_code 6 = .ok (.goto 4, 3) := by decide +kernel
theorem d30_10 : decode jdk_29_method_69_code 10 = .ok (.ireturn, 1) := by decide +kernel
theorem pnx_m30 : plainFor (⟨"java/lang/Math", "min", "(II)I"⟩ : MethodName) = true := by decide +kernel
def Q_m30 (Z : State)  (h0 : Heap) (n0 : Nat) (v : Option Value) (h : Heap) (L : List Loc) : Prop := v = (some (.int (5 : Int32))) ∧ Fr n0 L ∧ h = h0
theorem ef_m30 (m : MethodId)  : entryFrame m #[(.int (5 : Int32)), (.int (5 : Int32))] 2 = mkF m 0 #[.val (.int (5 : Int32)), .val (.int (5 : Int32))] [] := by first | (simp [entryFrame, mkF, argsToLocals, Value.category]; done) | rfl
set_option maxRecDepth 65536 in
set_option maxHeartbeats 40000000 in
theorem m30 (l : Launch) (Z : State) (a0 : Array Value) (hw : ∀ d ∈ tables_1, d.before a0 Z = true) (ws : List Jvm.Cond)  (h0 : Heap) (n0 : Nat) (Z0 : n0 ≤ h0.size)  :
    MetFree l (⟨"java/lang/Math", "min", "(II)I"⟩ : MethodName) (head1 (Jvm.Cond.code (⟨"java/lang/Math", "min", "(II)I"⟩ : MethodName) jdk_29_method_69_code 2 (some .int) :: ws) ({ frames := 0, cells := 0, slots := 0, locals := 0 } : Room)) (fun ar_ U => ar_ = #[(.int (5 : Int32)), (.int (5 : Int32))] ∧ Z.Warmed39 U.vm ∧ U.heap = h0) (fun _ _ _ _ _ => True) (fun _ U o U' => ∃ v L, o = .returned v ∧ Q_m30 Z  h0 n0 v U'.heap L ∧ FrameEnd U o U' L ({ frames := 0, cells := 0, slots := 0, locals := 0 } : Room).cells ({ frames := 0, cells := 0, slots := 0, locals := 0 } : Room).slots) := by
  refine MetFree.of_bodySF pnx_m30 hisR ?_
  intro p e s m args below meth c s₁ Bd hml0 hP hK
  obtain ⟨rfl, hZ, hh⟩ := hP
  have hx := Bd.exec
  have hby := Bd.bytes
  have hml : c.maxLocals = 2 := hml0
  have hown : s.vm.findClass "java/lang/Math" = some m.cls := findClass_of_methodNamed Bd.named
  have hnm := (name_of_methodNamed Bd.named Bd.method).1
  have X0 : Stand p l e ({ frames := 0, cells := 0, slots := 0, locals := 0 } : Room) s m #[(.int (5 : Int32)), (.int (5 : Int32))] below meth c s₁ [] 0 0 := Stand.of_body Bd
  have e0 : s₁.heap = h0 := by rw [← hh, Bd.state]; rfl
  have N0 := Fr.nil n0
  have pre0 : ∀ tq_, Steps p.tables e below (s₁.setTop (mkF m 0 #[.val (.int (5 : Int32)), .val (.int (5 : Int32))] [])) tq_ → Steps p.tables e below (s₁.setTop (entryFrame m #[(.int (5 : Int32)), (.int (5 : Int32))] 2)) tq_ := fun tq_ kt_ => castTop (ef_m30 m  ) kt_
  obtain ⟨fs, hr, hrun, hended, hW, hsame⟩ := X0.leave (v := some (.int (5 : Int32))) (fun h => by rw [Bd.returns] at h; cases h)
  refine ⟨_, _, pre0 _ ?_, hrun, hended, _, _, rfl, ?_, ⟨_, rfl⟩, hW, hsame.mono (nle rfl) (nle rfl)⟩
  · show Steps p.tables e below (s₁.setTop (mkF m 0 #[.val (.int (5 : Int32)), .val (.int (5 : Int32))] [])) _
    refine XS.iloadN X0.here hx rfl (hb hby d30_0) rfl ?_
    show Steps p.tables e below (s₁.setTop (mkF m 1 #[.val (.int (5 : Int32)), .val (.int (5 : Int32))] [(.int (5 : Int32))])) _
    refine XS.iloadN X0.here hx rfl (hb hby d30_1) rfl ?_
    show Steps p.tables e below (s₁.setTop (mkF m 2 #[.val (.int (5 : Int32)), .val (.int (5 : Int32))] [(.int (5 : Int32)), (.int (5 : Int32))])) _
    refine XS.icmpNo X0.here hx rfl (hb hby d30_2) rfl (flt (by decide : ¬ ((5 : Int32) < (5 : Int32)))).2.2.1 ?_
    show Steps p.tables e below (s₁.setTop (mkF m 5 #[.val (.int (5 : Int32)), .val (.int (5 : Int32))] [])) _
    refine XS.iloadN X0.here hx rfl (hb hby d30_5) rfl ?_
    show Steps p.tables e below (s₁.setTop (mkF m 6 #[.val (.int (5 : Int32)), .val (.int (5 : Int32))] [(.int (5 : Int32))])) _
    refine XS.goto X0.here hx rfl (pc0 := 6) (pc' := 10) rfl (hb hby d30_6) (by decide) (by decide) ?_
    show Steps p.tables e below (s₁.setTop (mkF m 10 #[.val (.int (5 : Int32)), .val (.int (5 : Int32))] [(.int (5 : Int32))])) _
    exact retI X0 hx Bd.returns (hb hby d30_10) hr
  · show Q_m30 Z  h0 n0 _ s₁.heap _
    exact ⟨rfl, N0, e0⟩
theorem pdx__I_Z : parseMethodDescriptor "(I)Z" = some ⟨[.int], some .boolean⟩ := by decide +kernel
theorem pdx__II_I : parseMethodDescriptor "(II)I" = some ⟨[.int, .int], some .int⟩ := by decide +kernel
theorem pdx___BIII_I : parseMethodDescriptor "([BIII)I" = some ⟨[(.array .byte), .int, .int, .int], some .int⟩ := by decide +kernel
theorem d27_0 : decode jdk_43_method_22_code 0 = .ok (.iload_n 1, 1) := by decide +kernel
theorem d27_1 : decode jdk_43_method_22_code 1 = .ok (.invokestatic 88, 3) := by decide +kernel
theorem d27_4 : decode jdk_43_method_22_code 4 = .ok (.ifCond .ne 5, 3) := by decide +kernel
theorem d27_9 : decode jdk_43_method_22_code 9 = .ok (.iload_n 2, 1) := by decide +kernel
theorem d27_10 : decode jdk_43_method_22_code 10 = .ok (.iconst 0, 1) := by decide +kernel
theorem d27_11 : decode jdk_43_method_22_code 11 = .ok (.invokestatic 92, 3) := by decide +kernel
theorem d27_14 : decode jdk_43_method_22_code 14 = .ok (.istore_n 2, 1) := by decide +kernel
theorem d27_15 : decode jdk_43_method_22_code 15 = .ok (.iload_n 3, 1) := by decide +kernel
theorem d27_16 : decode jdk_43_method_22_code 16 = .ok (.aload_n 0, 1) := by decide +kernel
theorem d27_17 : decode jdk_43_method_22_code 17 = .ok (.arraylength, 1) := by decide +kernel
theorem d27_18 : decode jdk_43_method_22_code 18 = .ok (.invokestatic 38, 3) := by decide +kernel
theorem d27_21 : decode jdk_43_method_22_code 21 = .ok (.istore_n 3, 1) := by decide +kernel
theorem d27_22 : decode jdk_43_method_22_code 22 = .ok (.iload_n 2, 1) := by decide +kernel
theorem d27_23 : decode jdk_43_method_22_code 23 = .ok (.iload_n 3, 1) := by decide +kernel
theorem d27_24 : decode jdk_43_method_22_code 24 = .ok (.if_icmp .lt 5, 3) := by decide +kernel
theorem d27_29 : decode jdk_43_method_22_code 29 = .ok (.aload_n 0, 1) := by decide +kernel
theorem d27_30 : decode jdk_43_method_22_code 30 = .ok (.iload_n 1, 1) := by decide +kernel
theorem d27_31 : decode jdk_43_method_22_code 31 = .ok (.iload_n 2, 1) := by decide +kernel
theorem d27_32 : decode jdk_43_method_22_code 32 = .ok (.iload_n 3, 1) := by decide +kernel
theorem d27_33 : decode jdk_43_method_22_code 33 = .ok (.invokestatic 95, 3) := by decide +kernel
theorem d27_36 : decode jdk_43_method_22_code 36 = .ok (.ireturn, 1) := by decide +kernel
def Q_m27 (Z : State) (b : Addr) (kb : ClassId) (cc : Int32) (r : Int32) (h0 : Heap) (n0 : Nat) (v : Option Value) (h : Heap) (L : List Loc) : Prop := v = (some (.int r)) ∧ Fr n0 L ∧ h = h0
theorem ef_m27 (m : MethodId) (b : Addr) (kb : ClassId) (cc : Int32) (r : Int32) : entryFrame m #[(.ref b), (.int cc), (.int (0 : Int32)), (.int (5 : Int32))] 4 = mkF m 0 #[.val (.ref b), .val (.int cc), .val (.int (0 : Int32)), .val (.int (5 : Int32))] [] := by first | (simp [entryFrame, mkF, argsToLocals, Value.category]; done) | rfl
set_option maxRecDepth 65536 in
set_option maxHeartbeats 40000000 in
theorem m27 (l : Launch) (Z : State) (a0 : Array Value) (hw : ∀ d ∈ tables_1, d.before a0 Z = true) (ws : List Jvm.Cond) (b : Addr) (kb : ClassId) (cc : Int32) (r : Int32) (h0 : Heap) (n0 : Nat) (Z0 : n0 ≤ h0.size) (V : Arv Z h0 b kb .byte (5 : Int32) [(.int (46 : Int32)), (.int (95 : Int32)), (.int (45 : Int32)), (.int (58 : Int32)), (.int (47 : Int32))] (.int (0 : Int32))) (hk : (cc = (46 : Int32) ∧ r = (0 : Int32)) ∨ (cc = (95 : Int32) ∧ r = (1 : Int32)) ∨ (cc = (45 : Int32) ∧ r = (2 : Int32)) ∨ (cc = (58 : Int32) ∧ r = (3 : Int32)) ∨ (cc = (47 : Int32) ∧ r = (4 : Int32))) :
    MetFree l (⟨"java/lang/StringLatin1", "indexOf", "([BIII)I"⟩ : MethodName) (head1 (Jvm.Cond.code (⟨"java/lang/StringLatin1", "indexOf", "([BIII)I"⟩ : MethodName) jdk_43_method_22_code 4 (some .int) :: ws) ({ frames := 1, cells := 0, slots := 0, locals := 17 } : Room)) (fun ar_ U => ar_ = #[(.ref b), (.int cc), (.int (0 : Int32)), (.int (5 : Int32))] ∧ Z.Warmed39 U.vm ∧ U.heap = h0) (fun _ _ _ _ _ => True) (fun _ U o U' => ∃ v L, o = .returned v ∧ Q_m27 Z b kb cc r h0 n0 v U'.heap L ∧ FrameEnd U o U' L ({ frames := 1, cells := 0, slots := 0, locals := 17 } : Room).cells ({ frames := 1, cells := 0, slots := 0, locals := 17 } : Room).slots) := by
  refine MetFree.of_bodySF (plainFor_of_name pnx_java_lang_StringLatin1) hisR ?_
  intro p e s m args below meth c s₁ Bd hml0 hP hK
  obtain ⟨rfl, hZ, hh⟩ := hP
  have hx := Bd.exec
  have hby := Bd.bytes
  have hml : c.maxLocals = 4 := hml0
  have hown : s.vm.findClass "java/lang/StringLatin1" = some m.cls := findClass_of_methodNamed Bd.named
  have hnm := (name_of_methodNamed Bd.named Bd.method).1
  have X0 : Stand p l e ({ frames := 1, cells := 0, slots := 0, locals := 17 } : Room) s m #[(.ref b), (.int cc), (.int (0 : Int32)), (.int (5 : Int32))] below meth c s₁ [] 0 0 := Stand.of_body Bd
  have e0 : s₁.heap = h0 := by rw [← hh, Bd.state]; rfl
  have N0 := Fr.nil n0
  have pre0 : ∀ tq_, Steps p.tables e below (s₁.setTop (mkF m 0 #[.val (.ref b), .val (.int cc), .val (.int (0 : Int32)), .val (.int (5 : Int32))] [])) tq_ → Steps p.tables e below (s₁.setTop (entryFrame m #[(.ref b), (.int cc), (.int (0 : Int32)), (.int (5 : Int32))] 4)) tq_ := fun tq_ kt_ => castTop (ef_m27 m b kb cc r ) kt_
  obtain ⟨_, _, ⟨T1, L1, kk1, nn1⟩, -, X1, ⟨Lc1, hQ1, l1, y1, z1⟩, st1⟩ := Jvm.LawKit.callS X0 hx (y := (⟨"java/lang/StringLatin1", "canEncode", "(I)Z"⟩ : MethodName)) hown (mvT hZ (wk hw 135 rfl)) (mvT hZ (wk hw 136 rfl)) (mvT hZ (wk hw 118 rfl)) (mvT hZ (wk hw 137 rfl)) (by decide) (backOf (W := 0) (m28 l Z a0 hw [] cc h0 n0 Z0 (by rcases hk with ⟨rfl, rfl⟩ | ⟨rfl, rfl⟩ | ⟨rfl, rfl⟩ | ⟨rfl, rfl⟩ | ⟨rfl, rfl⟩ <;> decide) (by rcases hk with ⟨rfl, rfl⟩ | ⟨rfl, rfl⟩ | ⟨rfl, rfl⟩ | ⟨rfl, rfl⟩ | ⟨rfl, rfl⟩ <;> decide)) hZ (wk hw 137 rfl) (wk hw 118 rfl) (by decide) (by decide)) (g := (mkF m 1 #[.val (.ref b), .val (.int cc), .val (.int (0 : Int32)), .val (.int (5 : Int32))] [(.int cc)])) rfl (by rw [hml]; rfl) (argsL := [(.int cc)]) (rest := []) (lenOf pdx__I_Z rfl) rfl (by show 2 * 0 + _ ≤ _; exact Nat.le_of_eq rfl) (hb hby d27_1) (fun _ _ => ⟨rfl, e0, nle rfl, nle rfl⟩)
  dsimp only [Pt.U, Pt.locs, Pt.cells, Pt.slots] at X1 l1 y1 z1 st1 hQ1
  subst l1 y1 z1
  obtain ⟨rfl, Nq1, e1⟩ := hQ1
  have N1 := Fr.app N0 Nq1
  obtain ⟨_, _, ⟨T2, L2, kk2, nn2⟩, -, X2, ⟨Lc2, hQ2, l2, y2, z2⟩, st2⟩ := Jvm.LawKit.callS X1 hx (y := (⟨"java/lang/Math", "max", "(II)I"⟩ : MethodName)) hown (mvT hZ (wk hw 138 rfl)) (mvT hZ (wk hw 139 rfl)) (mvT hZ (wk hw 140 rfl)) (mvT hZ (wk hw 141 rfl)) (by decide) (backOf (W := 0) (m29 l Z a0 hw []  h0 n0 Z0 ) hZ (wk hw 141 rfl) (wk hw 140 rfl) (by decide) (by decide)) (g := (mkF m 11 #[.val (.ref b), .val (.int cc), .val (.int (0 : Int32)), .val (.int (5 : Int32))] [(.int (0 : Int32)), (.int (0 : Int32))])) rfl (by rw [hml]; rfl) (argsL := [(.int (0 : Int32)), (.int (0 : Int32))]) (rest := []) (lenOf pdx__II_I rfl) rfl (by show 2 * 0 + _ ≤ _; exact Nat.le_of_eq rfl) (hb hby d27_11) (fun _ _ => ⟨rfl, e1, nle rfl, nle rfl⟩)
  dsimp only [Pt.U, Pt.locs, Pt.cells, Pt.slots] at X2 l2 y2 z2 st2 hQ2
  subst l2 y2 z2
  obtain ⟨rfl, Nq2, e2⟩ := hQ2
  have N2 := Fr.app N1 Nq2
  obtain ⟨c3, Ar3, -, Sz3, Nz3, -⟩ := id V
  obtain ⟨_, _, ⟨T4, L4, kk4, nn4⟩, -, X4, ⟨Lc4, hQ4, l4, y4, z4⟩, st4⟩ := Jvm.LawKit.callS X2 hx (y := (⟨"java/lang/Math", "min", "(II)I"⟩ : MethodName)) hown (mvT hZ (wk hw 142 rfl)) (mvT hZ (wk hw 143 rfl)) (mvT hZ (wk hw 140 rfl)) (mvT hZ (wk hw 144 rfl)) (by decide) (backOf (W := 0) (m30 l Z a0 hw []  h0 n0 Z0 ) hZ (wk hw 144 rfl) (wk hw 140 rfl) (by decide) (by decide)) (g := (mkF m 18 #[.val (.ref b), .val (.int cc), .val (.int (0 : Int32)), .val (.int (5 : Int32))] [(.int (5 : Int32)), (.int (5 : Int32))])) rfl (by rw [hml]; rfl) (argsL := [(.int (5 : Int32)), (.int (5 : Int32))]) (rest := []) (lenOf pdx__II_I rfl) rfl (by show 2 * 0 + _ ≤ _; exact Nat.le_of_eq rfl) (hb hby d27_18) (fun _ _ => ⟨rfl, e2, nle rfl, nle rfl⟩)
  dsimp only [Pt.U, Pt.locs, Pt.cells, Pt.slots] at X4 l4 y4 z4 st4 hQ4
  subst l4 y4 z4
  obtain ⟨rfl, Nq4, e4⟩ := hQ4
  have N4 := Fr.app N2 Nq4
  obtain ⟨_, _, ⟨T5, L5, kk5, nn5⟩, -, X5, ⟨Lc5, hQ5, l5, y5, z5⟩, st5⟩ := Jvm.LawKit.callS X4 hx (y := (⟨"java/lang/StringLatin1", "indexOfChar", "([BIII)I"⟩ : MethodName)) hown (mvT hZ (wk hw 145 rfl)) (mvT hZ (wk hw 146 rfl)) (mvT hZ (wk hw 118 rfl)) (mvT hZ (wk hw 147 rfl)) (by decide) (backOf (W := 0) (own_m31 l Z a0 hw [] b kb cc r h0 n0 Z0 V hk) hZ (wk hw 147 rfl) (wk hw 118 rfl) (by decide) (by decide)) (g := (mkF m 33 #[.val (.ref b), .val (.int cc), .val (.int (0 : Int32)), .val (.int (5 : Int32))] [(.int (5 : Int32)), (.int (0 : Int32)), (.int cc), (.ref b)])) rfl (by rw [hml]; rfl) (argsL := [(.ref b), (.int cc), (.int (0 : Int32)), (.int (5 : Int32))]) (rest := []) (lenOf pdx___BIII_I rfl) rfl (by show 2 * 0 + _ ≤ _; exact Nat.le_of_eq rfl) (hb hby d27_33) (fun _ _ => ⟨rfl, e4, nle rfl, nle rfl⟩)
  dsimp only [Pt.U, Pt.locs, Pt.cells, Pt.slots] at X5 l5 y5 z5 st5 hQ5
  subst l5 y5 z5
  obtain ⟨rfl, Nq5, e5⟩ := hQ5
  have N5 := Fr.app N4 Nq5
  obtain ⟨fs, hr, hrun, hended, hW, hsame⟩ := X5.leave (v := some (.int r)) (fun h => by rw [Bd.returns] at h; cases h)
  refine ⟨_, _, pre0 _ ?_, hrun, hended, _, _, rfl, ?_, ⟨_, rfl⟩, hW, hsame.mono (nle rfl) (nle rfl)⟩
  · show Steps p.tables e below (s₁.setTop (mkF m 0 #[.val (.ref b), .val (.int cc), .val (.int (0 : Int32)), .val (.int (5 : Int32))] [])) _
    refine XS.iloadN X0.here hx rfl (hb hby d27_0) rfl ?_
    show Steps p.tables e below (s₁.setTop (mkF m 1 #[.val (.ref b), .val (.int cc), .val (.int (0 : Int32)), .val (.int (5 : Int32))] [(.int cc)])) _
    refine st1 _ ?_
    show Steps p.tables e below (T1.setTop (mkF m 4 #[.val (.ref b), .val (.int cc), .val (.int (0 : Int32)), .val (.int (5 : Int32))] [(.int (1 : Int32))])) _
    refine XS.ifYes X1.here hx rfl (pc0 := 4) (pc' := 9) rfl (hb hby d27_4) rfl ((if0 _ _).trans (feq (by decide : ¬ ((1 : Int32) = (0 : Int32)))).2) (by decide) (by decide) ?_
    show Steps p.tables e below (T1.setTop (mkF m 9 #[.val (.ref b), .val (.int cc), .val (.int (0 : Int32)), .val (.int (5 : Int32))] [])) _
    refine XS.iloadN X1.here hx rfl (hb hby d27_9) rfl ?_
    show Steps p.tables e below (T1.setTop (mkF m 10 #[.val (.ref b), .val (.int cc), .val (.int (0 : Int32)), .val (.int (5 : Int32))] [(.int (0 : Int32))])) _
    refine XS.iconst X1.here hx rfl (hb hby d27_10) ?_
    show Steps p.tables e below (T1.setTop (mkF m 11 #[.val (.ref b), .val (.int cc), .val (.int (0 : Int32)), .val (.int (5 : Int32))] [(.int (0 : Int32)), (.int (0 : Int32))])) _
    refine st2 _ ?_
    show Steps p.tables e below (T2.setTop (mkF m 14 #[.val (.ref b), .val (.int cc), .val (.int (0 : Int32)), .val (.int (5 : Int32))] [(.int (0 : Int32))])) _
    refine XS.istoreN X2.here hx rfl (hb hby d27_14) rfl (l' := #[.val (.ref b), .val (.int cc), .val (.int (0 : Int32)), .val (.int (5 : Int32))]) rfl ?_
    show Steps p.tables e below (T2.setTop (mkF m 15 #[.val (.ref b), .val (.int cc), .val (.int (0 : Int32)), .val (.int (5 : Int32))] [])) _
    refine XS.iloadN X2.here hx rfl (hb hby d27_15) rfl ?_
    show Steps p.tables e below (T2.setTop (mkF m 16 #[.val (.ref b), .val (.int cc), .val (.int (0 : Int32)), .val (.int (5 : Int32))] [(.int (5 : Int32))])) _
    refine XS.aloadN X2.here hx rfl (hb hby d27_16) rfl rfl ?_
    show Steps p.tables e below (T2.setTop (mkF m 17 #[.val (.ref b), .val (.int cc), .val (.int (0 : Int32)), .val (.int (5 : Int32))] [(.ref b), (.int (5 : Int32))])) _
    refine X2.arraylength hx (by rw [e2]; exact Ar3.1) (State.isArrayOf_alike hZ.alike Ar3.2.1) (g := (mkF m 17 #[.val (.ref b), .val (.int cc), .val (.int (0 : Int32)), .val (.int (5 : Int32))] [(.ref b), (.int (5 : Int32))])) rfl rfl (hb hby d27_17) _ ?_
    rw [len_of Sz3 Nz3]
    show Steps p.tables e below (T2.setTop (mkF m 18 #[.val (.ref b), .val (.int cc), .val (.int (0 : Int32)), .val (.int (5 : Int32))] [(.int (5 : Int32)), (.int (5 : Int32))])) _
    refine st4 _ ?_
    show Steps p.tables e below (T4.setTop (mkF m 21 #[.val (.ref b), .val (.int cc), .val (.int (0 : Int32)), .val (.int (5 : Int32))] [(.int (5 : Int32))])) _
    refine XS.istoreN X4.here hx rfl (hb hby d27_21) rfl (l' := #[.val (.ref b), .val (.int cc), .val (.int (0 : Int32)), .val (.int (5 : Int32))]) rfl ?_
    show Steps p.tables e below (T4.setTop (mkF m 22 #[.val (.ref b), .val (.int cc), .val (.int (0 : Int32)), .val (.int (5 : Int32))] [])) _
    refine XS.iloadN X4.here hx rfl (hb hby d27_22) rfl ?_
    show Steps p.tables e below (T4.setTop (mkF m 23 #[.val (.ref b), .val (.int cc), .val (.int (0 : Int32)), .val (.int (5 : Int32))] [(.int (0 : Int32))])) _
    refine XS.iloadN X4.here hx rfl (hb hby d27_23) rfl ?_
    show Steps p.tables e below (T4.setTop (mkF m 24 #[.val (.ref b), .val (.int cc), .val (.int (0 : Int32)), .val (.int (5 : Int32))] [(.int (5 : Int32)), (.int (0 : Int32))])) _
    refine XS.icmpYes X4.here hx rfl (pc0 := 24) (pc' := 29) rfl (hb hby d27_24) rfl (tlt (by decide : (0 : Int32) < (5 : Int32))).1 (by decide) (by decide) ?_
    show Steps p.tables e below (T4.setTop (mkF m 29 #[.val (.ref b), .val (.int cc), .val (.int (0 : Int32)), .val (.int (5 : Int32))] [])) _
    refine XS.aloadN X4.here hx rfl (hb hby d27_29) rfl rfl ?_
    show Steps p.tables e below (T4.setTop (mkF m 30 #[.val (.ref b), .val (.int cc), .val (.int (0 : Int32)), .val (.int (5 : Int32))] [(.ref b)])) _
    refine XS.iloadN X4.here hx rfl (hb hby d27_30) rfl ?_
    show Steps p.tables e below (T4.setTop (mkF m 31 #[.val (.ref b), .val (.int cc), .val (.int (0 : Int32)), .val (.int (5 : Int32))] [(.int cc), (.ref b)])) _
    refine XS.iloadN X4.here hx rfl (hb hby d27_31) rfl ?_
    show Steps p.tables e below (T4.setTop (mkF m 32 #[.val (.ref b), .val (.int cc), .val (.int (0 : Int32)), .val (.int (5 : Int32))] [(.int (0 : Int32)), (.int cc), (.ref b)])) _
    refine XS.iloadN X4.here hx rfl (hb hby d27_32) rfl ?_
    show Steps p.tables e below (T4.setTop (mkF m 33 #[.val (.ref b), .val (.int cc), .val (.int (0 : Int32)), .val (.int (5 : Int32))] [(.int (5 : Int32)), (.int (0 : Int32)), (.int cc), (.ref b)])) _
    refine st5 _ ?_
    show Steps p.tables e below (T5.setTop (mkF m 36 #[.val (.ref b), .val (.int cc), .val (.int (0 : Int32)), .val (.int (5 : Int32))] [(.int r)])) _
    exact retI X5 hx Bd.returns (hb hby d27_36) hr
  · show Q_m27 Z b kb cc r h0 n0 _ T5.heap _
    exact ⟨rfl, N5, e5⟩
theorem pdx___I : parseMethodDescriptor "()I" = some ⟨[], some .int⟩ := by decide +kernel
theorem d26_0 : decode jdk_42_method_80_code 0 = .ok (.aload_n 0, 1) := by decide +kernel
theorem d26_1 : decode jdk_42_method_80_code 1 = .ok (.invokevirtual 492, 3) := by decide +kernel
theorem d26_4 : decode jdk_42_method_80_code 4 = .ok (.ifCond .eq 19, 3) := by decide +kernel
theorem d26_7 : decode jdk_42_method_80_code 7 = .ok (.aload_n 0, 1) := by decide +kernel
theorem d26_8 : decode jdk_42_method_80_code 8 = .ok (.getfield 9, 3) := by decide +kernel
theorem d26_11 : decode jdk_42_method_80_code 11 = .ok (.iload_n 1, 1) := by decide +kernel
theorem d26_12 : decode jdk_42_method_80_code 12 = .ok (.iload_n 2, 1) := by decide +kernel
theorem d26_13 : decode jdk_42_method_80_code 13 = .ok (.aload_n 0, 1) := by decide +kernel
theorem d26_14 : decode jdk_42_method_80_code 14 = .ok (.invokevirtual 505, 3) := by decide +kernel
theorem d26_17 : decode jdk_42_method_80_code 17 = .ok (.invokestatic 637, 3) := by decide +kernel
theorem d26_20 : decode jdk_42_method_80_code 20 = .ok (.goto 16, 3) := by decide +kernel
theorem d26_36 : decode jdk_42_method_80_code 36 = .ok (.ireturn, 1) := by decide +kernel
def Q_m26 (Z : State) (a : Addr) (b : Addr) (kb : ClassId) (cc : Int32) (r : Int32) (wcs : Int32) (h0 : Heap) (n0 : Nat) (v : Option Value) (h : Heap) (L : List Loc) : Prop := v = (some (.int r)) ∧ Fr n0 L ∧ h = h0
theorem ef_m26 (m : MethodId) (a : Addr) (b : Addr) (kb : ClassId) (cc : Int32) (r : Int32) (wcs : Int32) : entryFrame m #[(.ref a), (.int cc), (.int (0 : Int32))] 3 = mkF m 0 #[.val (.ref a), .val (.int cc), .val (.int (0 : Int32))] [] := by first | (simp [entryFrame, mkF, argsToLocals, Value.category]; done) | rfl
set_option maxRecDepth 65536 in
set_option maxHeartbeats 40000000 in
theorem m26 (l : Launch) (Z : State) (a0 : Array Value) (hw : ∀ d ∈ tables_1, d.before a0 Z = true) (ws : List Jvm.Cond) (a : Addr) (b : Addr) (kb : ClassId) (cc : Int32) (r : Int32) (wcs : Int32) (h0 : Heap) (n0 : Nat) (Z0 : n0 ≤ h0.size) (E_a : Exa Z h0 a "java/lang/String") (Fc_a : Fld Z h0 a "java/lang/String" "coder" "B" (.int (0 : Int32))) (Fv_a : Fld Z h0 a "java/lang/String" "value" "[B" (.ref b)) (V : Arv Z h0 b kb .byte (5 : Int32) [(.int (46 : Int32)), (.int (95 : Int32)), (.int (45 : Int32)), (.int (58 : Int32)), (.int (47 : Int32))] (.int (0 : Int32))) (hk : (cc = (46 : Int32) ∧ r = (0 : Int32)) ∨ (cc = (95 : Int32) ∧ r = (1 : Int32)) ∨ (cc = (45 : Int32) ∧ r = (2 : Int32)) ∨ (cc = (58 : Int32) ∧ r = (3 : Int32)) ∨ (cc = (47 : Int32) ∧ r = (4 : Int32))) (S_CS : Sta Z h0 "java/lang/String" "COMPACT_STRINGS" "Z" (.int wcs)) (ncs : ¬ (wcs = (0 : Int32))) :
    MetFree l (⟨"java/lang/String", "indexOf", "(II)I"⟩ : MethodName) (head1 (Jvm.Cond.code (⟨"java/lang/String", "indexOf", "(II)I"⟩ : MethodName) jdk_42_method_80_code 3 (some .int) :: ws) ({ frames := 2, cells := 0, slots := 0, locals := 32 } : Room)) (fun ar_ U => ar_ = #[(.ref a), (.int cc), (.int (0 : Int32))] ∧ Z.Warmed39 U.vm ∧ U.heap = h0) (fun _ _ _ _ _ => True) (fun _ U o U' => ∃ v L, o = .returned v ∧ Q_m26 Z a b kb cc r wcs h0 n0 v U'.heap L ∧ FrameEnd U o U' L ({ frames := 2, cells := 0, slots := 0, locals := 32 } : Room).cells ({ frames := 2, cells := 0, slots := 0, locals := 32 } : Room).slots) := by
  refine MetFree.of_bodySF (plainFor_of_name pnx_java_lang_String) hisR ?_
  intro p e s m args below meth c s₁ Bd hml0 hP hK
  obtain ⟨rfl, hZ, hh⟩ := hP
  have hx := Bd.exec
  have hby := Bd.bytes
  have hml : c.maxLocals = 3 := hml0
  have hown : s.vm.findClass "java/lang/String" = some m.cls := findClass_of_methodNamed Bd.named
  have hnm := (name_of_methodNamed Bd.named Bd.method).1
  have X0 : Stand p l e ({ frames := 2, cells := 0, slots := 0, locals := 32 } : Room) s m #[(.ref a), (.int cc), (.int (0 : Int32))] below meth c s₁ [] 0 0 := Stand.of_body Bd
  have e0 : s₁.heap = h0 := by rw [← hh, Bd.state]; rfl
  have N0 := Fr.nil n0
  have pre0 : ∀ tq_, Steps p.tables e below (s₁.setTop (mkF m 0 #[.val (.ref a), .val (.int cc), .val (.int (0 : Int32))] [])) tq_ → Steps p.tables e below (s₁.setTop (entryFrame m #[(.ref a), (.int cc), (.int (0 : Int32))] 3)) tq_ := fun tq_ kt_ => castTop (ef_m26 m a b kb cc r wcs ) kt_
  obtain ⟨cq1, kq1, qa1, qb1, qc1⟩ := isOf hZ e0 E_a
  obtain ⟨_, _, ⟨T1, L1, kk1, nn1⟩, -, X1, ⟨Lc1, hQ1, l1, y1, z1⟩, st1⟩ := X0.virtualBack hx (y := (⟨"java/lang/String", "isLatin1", "()Z"⟩ : MethodName)) (z := (⟨"java/lang/String", "isLatin1", "()Z"⟩ : MethodName)) hown (mvT hZ (wk hw 69 rfl)) (mvT hZ (wk hw 70 rfl)) (notFace_of_selects (args := #[]) (mvT hZ (wk hw 72 rfl))) (mvT hZ (wk hw 72 rfl)) (mvT hZ (wk hw 71 rfl)) (by decide) (backOf (W := 0) (m15 l Z a0 hw [] a wcs h0 n0 Z0 E_a Fc_a S_CS ncs) hZ (wk hw 73 rfl) (wk hw 10 rfl) (by decide) (by decide)) qa1 qc1 (g := (mkF m 1 #[.val (.ref a), .val (.int cc), .val (.int (0 : Int32))] [(.ref a)])) rfl (by rw [hml]; rfl) (Steps.refl _) (argsL := []) (rest := []) (lenOf pdx___Z rfl) rfl (by show 2 * 0 + _ ≤ _; exact Nat.le_of_eq rfl) (hb hby d26_1) (fun _ _ => ⟨rfl, e0, nle rfl, nle rfl⟩)
  dsimp only [Pt.U, Pt.locs, Pt.cells, Pt.slots] at X1 l1 y1 z1 st1 hQ1
  subst l1 y1 z1
  obtain ⟨rfl, Nq1, e1⟩ := hQ1
  have N1 := Fr.app N0 Nq1
  obtain ⟨T2, X2, e2, st2⟩ := getF X1 hx hZ hown (host := "") (Or.inl (wk hw 36 rfl)) Via.refl e1 Fv_a (g := (mkF m 8 #[.val (.ref a), .val (.int cc), .val (.int (0 : Int32))] [(.ref a)])) rfl rfl (hb hby d26_8)
  obtain ⟨cq3, kq3, qa3, qb3, qc3⟩ := isOf hZ e2 E_a
  obtain ⟨_, _, ⟨T3, L3, kk3, nn3⟩, -, X3, ⟨Lc3, hQ3, l3, y3, z3⟩, st3⟩ := X2.virtualBack hx (y := (⟨"java/lang/String", "length", "()I"⟩ : MethodName)) (z := (⟨"java/lang/String", "length", "()I"⟩ : MethodName)) hown (mvT hZ (wk hw 131 rfl)) (mvT hZ (wk hw 55 rfl)) (notFace_of_selects (args := #[]) (mvT hZ (wk hw 57 rfl))) (mvT hZ (wk hw 57 rfl)) (mvT hZ (wk hw 56 rfl)) (by decide) (backOf (W := 3) (m12 l Z a0 hw [] a b kb (5 : Int32) [(.int (46 : Int32)), (.int (95 : Int32)), (.int (45 : Int32)), (.int (58 : Int32)), (.int (47 : Int32))] wcs h0 n0 Z0 E_a Fc_a Fv_a V S_CS ncs) hZ (wk hw 58 rfl) (wk hw 10 rfl) (by decide) (by decide)) qa3 qc3 (g := (mkF m 14 #[.val (.ref a), .val (.int cc), .val (.int (0 : Int32))] [(.ref a), (.int (0 : Int32)), (.int cc), (.ref b)])) rfl (by rw [hml]; rfl) (Steps.refl _) (argsL := []) (rest := [(.int (0 : Int32)), (.int cc), (.ref b)]) (lenOf pdx___I rfl) rfl (by show 2 * 0 + _ ≤ _; exact Nat.le_of_eq rfl) (hb hby d26_14) (fun _ _ => ⟨rfl, e2, nle rfl, nle rfl⟩)
  dsimp only [Pt.U, Pt.locs, Pt.cells, Pt.slots] at X3 l3 y3 z3 st3 hQ3
  subst l3 y3 z3
  obtain ⟨rfl, Nq3, e3⟩ := hQ3
  have N3 := Fr.app N1 Nq3
  obtain ⟨_, _, ⟨T4, L4, kk4, nn4⟩, -, X4, ⟨Lc4, hQ4, l4, y4, z4⟩, st4⟩ := Jvm.LawKit.callS X3 hx (y := (⟨"java/lang/StringLatin1", "indexOf", "([BIII)I"⟩ : MethodName)) hown (mvT hZ (wk hw 132 rfl)) (mvT hZ (wk hw 133 rfl)) (mvT hZ (wk hw 118 rfl)) (mvT hZ (wk hw 134 rfl)) (by decide) (backOf (W := 0) (m27 l Z a0 hw [] b kb cc r h0 n0 Z0 V hk) hZ (wk hw 134 rfl) (wk hw 118 rfl) (by decide) (by decide)) (g := (mkF m 17 #[.val (.ref a), .val (.int cc), .val (.int (0 : Int32))] [(.int (5 : Int32)), (.int (0 : Int32)), (.int cc), (.ref b)])) rfl (by rw [hml]; rfl) (argsL := [(.ref b), (.int cc), (.int (0 : Int32)), (.int (5 : Int32))]) (rest := []) (lenOf pdx___BIII_I rfl) rfl (by show 2 * 0 + _ ≤ _; exact Nat.le_of_eq rfl) (hb hby d26_17) (fun _ _ => ⟨rfl, e3, nle rfl, nle rfl⟩)
  dsimp only [Pt.U, Pt.locs, Pt.cells, Pt.slots] at X4 l4 y4 z4 st4 hQ4
  subst l4 y4 z4
  obtain ⟨rfl, Nq4, e4⟩ := hQ4
  have N4 := Fr.app N3 Nq4
  obtain ⟨fs, hr, hrun, hended, hW, hsame⟩ := X4.leave (v := some (.int r)) (fun h => by rw [Bd.returns] at h; cases h)
  refine ⟨_, _, pre0 _ ?_, hrun, hended, _, _, rfl, ?_, ⟨_, rfl⟩, hW, hsame.mono (nle rfl) (nle rfl)⟩
  · show Steps p.tables e below (s₁.setTop (mkF m 0 #[.val (.ref a), .val (.int cc), .val (.int (0 : Int32))] [])) _
    refine XS.aloadN X0.here hx rfl (hb hby d26_0) rfl rfl ?_
    show Steps p.tables e below (s₁.setTop (mkF m 1 #[.val (.ref a), .val (.int cc), .val (.int (0 : Int32))] [(.ref a)])) _
    refine st1.trans ?_
    show Steps p.tables e below (T1.setTop (mkF m 4 #[.val (.ref a), .val (.int cc), .val (.int (0 : Int32))] [(.int (1 : Int32))])) _
    refine XS.ifNo X1.here hx rfl (hb hby d26_4) rfl ((if0 _ _).trans (feq (by decide : ¬ ((1 : Int32) = (0 : Int32)))).1) ?_
    show Steps p.tables e below (T1.setTop (mkF m 7 #[.val (.ref a), .val (.int cc), .val (.int (0 : Int32))] [])) _
    refine XS.aloadN X1.here hx rfl (hb hby d26_7) rfl rfl ?_
    show Steps p.tables e below (T1.setTop (mkF m 8 #[.val (.ref a), .val (.int cc), .val (.int (0 : Int32))] [(.ref a)])) _
    refine st2 _ ?_
    show Steps p.tables e below (T2.setTop (mkF m 11 #[.val (.ref a), .val (.int cc), .val (.int (0 : Int32))] [(.ref b)])) _
    refine XS.iloadN X2.here hx rfl (hb hby d26_11) rfl ?_
    show Steps p.tables e below (T2.setTop (mkF m 12 #[.val (.ref a), .val (.int cc), .val (.int (0 : Int32))] [(.int cc), (.ref b)])) _
    refine XS.iloadN X2.here hx rfl (hb hby d26_12) rfl ?_
    show Steps p.tables e below (T2.setTop (mkF m 13 #[.val (.ref a), .val (.int cc), .val (.int (0 : Int32))] [(.int (0 : Int32)), (.int cc), (.ref b)])) _
    refine XS.aloadN X2.here hx rfl (hb hby d26_13) rfl rfl ?_
    show Steps p.tables e below (T2.setTop (mkF m 14 #[.val (.ref a), .val (.int cc), .val (.int (0 : Int32))] [(.ref a), (.int (0 : Int32)), (.int cc), (.ref b)])) _
    refine st3.trans ?_
    show Steps p.tables e below (T3.setTop (mkF m 17 #[.val (.ref a), .val (.int cc), .val (.int (0 : Int32))] [(.int (5 : Int32)), (.int (0 : Int32)), (.int cc), (.ref b)])) _
    refine st4 _ ?_
    show Steps p.tables e below (T4.setTop (mkF m 20 #[.val (.ref a), .val (.int cc), .val (.int (0 : Int32))] [(.int r)])) _
    refine XS.goto X4.here hx rfl (pc0 := 20) (pc' := 36) rfl (hb hby d26_20) (by decide) (by decide) ?_
    show Steps p.tables e below (T4.setTop (mkF m 36 #[.val (.ref a), .val (.int cc), .val (.int (0 : Int32))] [(.int r)])) _
    exact retI X4 hx Bd.returns (hb hby d26_36) hr
  · show Q_m26 Z a b kb cc r wcs h0 n0 _ T4.heap _
    exact ⟨rfl, N4, e4⟩
theorem d25_0 : decode jdk_42_method_79_code 0 = .ok (.aload_n 0, 1) := by decide +kernel
theorem d25_1 : decode jdk_42_method_79_code 1 = .ok (.iload_n 1, 1) := by decide +kernel
theorem d25_2 : decode jdk_42_method_79_code 2 = .ok (.iconst 0, 1) := by decide +kernel
theorem d25_3 : decode jdk_42_method_79_code 3 = .ok (.invokevirtual 633, 3) := by decide +kernel
theorem d25_6 : decode jdk_42_method_79_code 6 = .ok (.ireturn, 1) := by decide +kernel
def Q_m25 (Z : State) (a : Addr) (b : Addr) (kb : ClassId) (cc : Int32) (r : Int32) (wcs : Int32) (h0 : Heap) (n0 : Nat) (v : Option Value) (h : Heap) (L : List Loc) : Prop := v = (some (.int r)) ∧ Fr n0 L ∧ h = h0
theorem ef_m25 (m : MethodId) (a : Addr) (b : Addr) (kb : ClassId) (cc : Int32) (r : Int32) (wcs : Int32) : entryFrame m #[(.ref a), (.int cc)] 2 = mkF m 0 #[.val (.ref a), .val (.int cc)] [] := by first | (simp [entryFrame, mkF, argsToLocals, Value.category]; done) | rfl
set_option maxRecDepth 65536 in
set_option maxHeartbeats 40000000 in
theorem m25 (l : Launch) (Z : State) (a0 : Array Value) (hw : ∀ d ∈ tables_1, d.before a0 Z = true) (ws : List Jvm.Cond) (a : Addr) (b : Addr) (kb : ClassId) (cc : Int32) (r : Int32) (wcs : Int32) (h0 : Heap) (n0 : Nat) (Z0 : n0 ≤ h0.size) (E_a : Exa Z h0 a "java/lang/String") (Fc_a : Fld Z h0 a "java/lang/String" "coder" "B" (.int (0 : Int32))) (Fv_a : Fld Z h0 a "java/lang/String" "value" "[B" (.ref b)) (V : Arv Z h0 b kb .byte (5 : Int32) [(.int (46 : Int32)), (.int (95 : Int32)), (.int (45 : Int32)), (.int (58 : Int32)), (.int (47 : Int32))] (.int (0 : Int32))) (hk : (cc = (46 : Int32) ∧ r = (0 : Int32)) ∨ (cc = (95 : Int32) ∧ r = (1 : Int32)) ∨ (cc = (45 : Int32) ∧ r = (2 : Int32)) ∨ (cc = (58 : Int32) ∧ r = (3 : Int32)) ∨ (cc = (47 : Int32) ∧ r = (4 : Int32))) (S_CS : Sta Z h0 "java/lang/String" "COMPACT_STRINGS" "Z" (.int wcs)) (ncs : ¬ (wcs = (0 : Int32))) :
    MetFree l (⟨"java/lang/String", "indexOf", "(I)I"⟩ : MethodName) (head1 (Jvm.Cond.code (⟨"java/lang/String", "indexOf", "(I)I"⟩ : MethodName) jdk_42_method_79_code 2 (some .int) :: ws) ({ frames := 3, cells := 0, slots := 0, locals := 46 } : Room)) (fun ar_ U => ar_ = #[(.ref a), (.int cc)] ∧ Z.Warmed39 U.vm ∧ U.heap = h0) (fun _ _ _ _ _ => True) (fun _ U o U' => ∃ v L, o = .returned v ∧ Q_m25 Z a b kb cc r wcs h0 n0 v U'.heap L ∧ FrameEnd U o U' L ({ frames := 3, cells := 0, slots := 0, locals := 46 } : Room).cells ({ frames := 3, cells := 0, slots := 0, locals := 46 } : Room).slots) := by
  refine MetFree.of_bodySF (plainFor_of_name pnx_java_lang_String) hisR ?_
  intro p e s m args below meth c s₁ Bd hml0 hP hK
  obtain ⟨rfl, hZ, hh⟩ := hP
  have hx := Bd.exec
  have hby := Bd.bytes
  have hml : c.maxLocals = 2 := hml0
  have hown : s.vm.findClass "java/lang/String" = some m.cls := findClass_of_methodNamed Bd.named
  have hnm := (name_of_methodNamed Bd.named Bd.method).1
  have X0 : Stand p l e ({ frames := 3, cells := 0, slots := 0, locals := 46 } : Room) s m #[(.ref a), (.int cc)] below meth c s₁ [] 0 0 := Stand.of_body Bd
  have e0 : s₁.heap = h0 := by rw [← hh, Bd.state]; rfl
  have N0 := Fr.nil n0
  have pre0 : ∀ tq_, Steps p.tables e below (s₁.setTop (mkF m 0 #[.val (.ref a), .val (.int cc)] [])) tq_ → Steps p.tables e below (s₁.setTop (entryFrame m #[(.ref a), (.int cc)] 2)) tq_ := fun tq_ kt_ => castTop (ef_m25 m a b kb cc r wcs ) kt_
  obtain ⟨cq1, kq1, qa1, qb1, qc1⟩ := isOf hZ e0 E_a
  obtain ⟨_, _, ⟨T1, L1, kk1, nn1⟩, -, X1, ⟨Lc1, hQ1, l1, y1, z1⟩, st1⟩ := X0.virtualBack hx (y := (⟨"java/lang/String", "indexOf", "(II)I"⟩ : MethodName)) (z := (⟨"java/lang/String", "indexOf", "(II)I"⟩ : MethodName)) hown (mvT hZ (wk hw 126 rfl)) (mvT hZ (wk hw 127 rfl)) (notFace_of_selects (args := #[]) (mvT hZ (wk hw 129 rfl))) (mvT hZ (wk hw 129 rfl)) (mvT hZ (wk hw 128 rfl)) (by decide) (backOf (W := 0) (m26 l Z a0 hw [] a b kb cc r wcs h0 n0 Z0 E_a Fc_a Fv_a V hk S_CS ncs) hZ (wk hw 130 rfl) (wk hw 10 rfl) (by decide) (by decide)) qa1 qc1 (g := (mkF m 3 #[.val (.ref a), .val (.int cc)] [(.int (0 : Int32)), (.int cc), (.ref a)])) rfl (by rw [hml]; rfl) (Steps.refl _) (argsL := [(.int cc), (.int (0 : Int32))]) (rest := []) (lenOf pdx__II_I rfl) rfl (by show 2 * 0 + _ ≤ _; exact Nat.le_of_eq rfl) (hb hby d25_3) (fun _ _ => ⟨rfl, e0, nle rfl, nle rfl⟩)
  dsimp only [Pt.U, Pt.locs, Pt.cells, Pt.slots] at X1 l1 y1 z1 st1 hQ1
  subst l1 y1 z1
  obtain ⟨rfl, Nq1, e1⟩ := hQ1
  have N1 := Fr.app N0 Nq1
  obtain ⟨fs, hr, hrun, hended, hW, hsame⟩ := X1.leave (v := some (.int r)) (fun h => by rw [Bd.returns] at h; cases h)
  refine ⟨_, _, pre0 _ ?_, hrun, hended, _, _, rfl, ?_, ⟨_, rfl⟩, hW, hsame.mono (nle rfl) (nle rfl)⟩
  · show Steps p.tables e below (s₁.setTop (mkF m 0 #[.val (.ref a), .val (.int cc)] [])) _
    refine XS.aloadN X0.here hx rfl (hb hby d25_0) rfl rfl ?_
    show Steps p.tables e below (s₁.setTop (mkF m 1 #[.val (.ref a), .val (.int cc)] [(.ref a)])) _
    refine XS.iloadN X0.here hx rfl (hb hby d25_1) rfl ?_
    show Steps p.tables e below (s₁.setTop (mkF m 2 #[.val (.ref a), .val (.int cc)] [(.int cc), (.ref a)])) _
    refine XS.iconst X0.here hx rfl (hb hby d25_2) ?_
    show Steps p.tables e below (s₁.setTop (mkF m 3 #[.val (.ref a), .val (.int cc)] [(.int (0 : Int32)), (.int cc), (.ref a)])) _
    refine st1.trans ?_
    show Steps p.tables e below (T1.setTop (mkF m 6 #[.val (.ref a), .val (.int cc)] [(.int r)])) _
    exact retI X1 hx Bd.returns (hb hby d25_6) hr
  · show Q_m25 Z a b kb cc r wcs h0 n0 _ T1.heap _
    exact ⟨rfl, N1, e1⟩
theorem pdx__I_I : parseMethodDescriptor "(I)I" = some ⟨[.int], some .int⟩ := by decide +kernel
theorem d18_0 : decode prog_10_method_6_code 0 = .ok (.iload_n 0, 1) := by decide +kernel
theorem d18_1 : decode prog_10_method_6_code 1 = .ok (.bipush 97, 2) := by decide +kernel
theorem d18_3 : decode prog_10_method_6_code 3 = .ok (.if_icmp .lt 9, 3) := by decide +kernel
theorem d18_12 : decode prog_10_method_6_code 12 = .ok (.iload_n 0, 1) := by decide +kernel
theorem d18_13 : decode prog_10_method_6_code 13 = .ok (.bipush 65, 2) := by decide +kernel
theorem d18_15 : decode prog_10_method_6_code 15 = .ok (.if_icmp .lt 9, 3) := by decide +kernel
theorem d18_24 : decode prog_10_method_6_code 24 = .ok (.iload_n 0, 1) := by decide +kernel
theorem d18_25 : decode prog_10_method_6_code 25 = .ok (.bipush 48, 2) := by decide +kernel
theorem d18_27 : decode prog_10_method_6_code 27 = .ok (.if_icmp .lt 9, 3) := by decide +kernel
theorem d18_36 : decode prog_10_method_6_code 36 = .ok (.ldc 82, 2) := by decide +kernel
theorem d18_38 : decode prog_10_method_6_code 38 = .ok (.iload_n 0, 1) := by decide +kernel
theorem d18_39 : decode prog_10_method_6_code 39 = .ok (.invokevirtual 84, 3) := by decide +kernel
theorem d18_42 : decode prog_10_method_6_code 42 = .ok (.ifCond .lt 7, 3) := by decide +kernel
theorem d18_45 : decode prog_10_method_6_code 45 = .ok (.iconst 1, 1) := by decide +kernel
theorem d18_46 : decode prog_10_method_6_code 46 = .ok (.goto 4, 3) := by decide +kernel
theorem d18_50 : decode prog_10_method_6_code 50 = .ok (.ireturn, 1) := by decide +kernel
theorem pnx_com_example_portunus_portunus_lock_LockName : plainName "com/example/portunus/portunus/lock/LockName" = true := by first | (simp [plainName, overriddenIn]; done) | decide +kernel
def Q_m18_0 (Z : State) (wcs : Int32) (EL : List (String × Nat)) (h0 : Heap) (n0 : Nat) (v : Option Value) (h : Heap) (L : List Loc) : Prop := v = (some (.int (1 : Int32))) ∧ Fr n0 L ∧ Keep h0 h []
theorem ef_m18_0 (m : MethodId) (wcs : Int32) (EL : List (String × Nat)) : entryFrame m #[(.int (46 : Int32))] 1 = mkF m 0 #[.val (.int (46 : Int32))] [] := by first | (simp [entryFrame, mkF, argsToLocals, Value.category]; done) | rfl
set_option maxRecDepth 65536 in
set_option maxHeartbeats 40000000 in
theorem m18_0 (l : Launch) (Z : State) (a0 : Array Value) (hw : ∀ d ∈ tables_1, d.before a0 Z = true) (ws : List Jvm.Cond) (wcs : Int32) (EL : List (String × Nat)) (h0 : Heap) (n0 : Nat) (Z0 : n0 ≤ h0.size) (S_CS : Sta Z h0 "java/lang/String" "COMPACT_STRINGS" "Z" (.int wcs)) (ncs : ¬ (wcs = (0 : Int32))) (hEL : EW Z a0 EL) (hm82 : (("com/example/portunus/portunus/lock/LockName", 82) : String × Nat) ∈ EL) :
    MetFree l (⟨"com/example/portunus/portunus/lock/LockName", "allowed", "(I)Z"⟩ : MethodName) (head1 (Jvm.Cond.code (⟨"com/example/portunus/portunus/lock/LockName", "allowed", "(I)Z"⟩ : MethodName) prog_10_method_6_code 1 (some .boolean) :: ws) ({ frames := 4, cells := 2, slots := 24, locals := 61 } : Room)) (fun ar_ U => ar_ = #[(.int (46 : Int32))] ∧ Z.Warmed39 U.vm ∧ U.heap = h0 ∧ CHv Z EL U.vm h0) (fun _ _ _ _ _ => True) (fun _ U o U' => ∃ v L, o = .returned v ∧ Q_m18_0 Z wcs EL h0 n0 v U'.heap L ∧ CHr Z EL U.vm U.heap U'.vm U'.heap ∧ ReturnedEndW U o U' L ({ frames := 4, cells := 2, slots := 24, locals := 61 } : Room).cells ({ frames := 4, cells := 2, slots := 24, locals := 61 } : Room).slots) := by
  refine MetFree.of_bodySF (plainFor_of_name pnx_com_example_portunus_portunus_lock_LockName) hisR ?_
  intro p e s m args below meth c s₁ Bd hml0 hP hK
  obtain ⟨rfl, hZ, hh, HC⟩ := hP
  have hx := Bd.exec
  have hby := Bd.bytes
  have hml : c.maxLocals = 1 := hml0
  have hown : s.vm.findClass "com/example/portunus/portunus/lock/LockName" = some m.cls := findClass_of_methodNamed Bd.named
  have hnm := (name_of_methodNamed Bd.named Bd.method).1
  have X0 : Stand p l e ({ frames := 4, cells := 2, slots := 24, locals := 61 } : Room) s m #[(.int (46 : Int32))] below meth c s₁ [] 0 0 := Stand.of_body Bd
  have e0 : s₁.heap = h0 := by rw [← hh, Bd.state]; rfl
  have N0 := Fr.nil n0
  have pre0 : ∀ tq_, Steps p.tables e below (s₁.setTop (mkF m 0 #[.val (.int (46 : Int32))] [])) tq_ → Steps p.tables e below (s₁.setTop (entryFrame m #[(.int (46 : Int32))] 1)) tq_ := fun tq_ kt_ => castTop (ef_m18_0 m wcs EL ) kt_
  obtain ⟨li1, T1, h1, k1, b1, kb1, X1, e1, E1, hS1, hk1, hZ, hown, EX1, FC1, FV1, AV1, la1, lb1, C1, Lt1, ne1, st1⟩ := ldcCH (s := s) (vm0 := s.vm) (EL := EL) X0 hx hZ hown (wk hw 120 rfl) (own_wS hw) e0 ((State.WarmedH.refl s).since 0) (Nat.zero_le _) hEL hm82 HC (vs := [(.int (46 : Int32)), (.int (95 : Int32)), (.int (45 : Int32)), (.int (58 : Int32)), (.int (47 : Int32))]) (z := (5 : Int32)) ⟨by decide, by decide⟩ (by decide) (by decide) (g := (mkF m 36 #[.val (.int (46 : Int32))] [])) rfl (hb hby d18_36) (n := 20) (by decide) (by decide) (nle rfl) (nle rfl)
  have CR1 := C1
  have K2 : Keep h0 h1 [] := (Keep.refl h0 []).ext E1
  have F4 := (S_CS.ext E1)
  obtain ⟨cq3, kq3, qa3, qb3, qc3⟩ := isOf hZ e1 EX1
  obtain ⟨_, _, ⟨T3, L3, kk3, nn3⟩, -, X3, ⟨Lc3, hQ3, l3, y3, z3⟩, st3⟩ := X1.virtualBack hx (y := (⟨"java/lang/String", "indexOf", "(I)I"⟩ : MethodName)) (z := (⟨"java/lang/String", "indexOf", "(I)I"⟩ : MethodName)) hown (mvT hZ (wk hw 121 rfl)) (mvT hZ (wk hw 122 rfl)) (notFace_of_selects (args := #[]) (mvT hZ (wk hw 124 rfl))) (mvT hZ (wk hw 124 rfl)) (mvT hZ (wk hw 123 rfl)) (by decide) (backOf (W := 0) (m25 l Z a0 hw [] li1 b1 kb1 (46 : Int32) (0 : Int32) wcs h1 n0 (Nat.le_trans Z0 K2.1) EX1 FC1 FV1 AV1 (by decide) F4 ncs) hZ (wk hw 125 rfl) (wk hw 10 rfl) (by decide) (by decide)) qa3 qc3 (g := (mkF m 39 #[.val (.int (46 : Int32))] [(.int (46 : Int32)), (.ref li1)])) rfl (by rw [hml]; rfl) (Steps.refl _) (argsL := [(.int (46 : Int32))]) (rest := []) (lenOf pdx__I_I rfl) rfl (by show 2 * 0 + _ ≤ _; exact Nat.le_of_eq rfl) (hb hby d18_39) (fun _ _ => ⟨rfl, e1, nle rfl, nle rfl⟩)
  dsimp only [Pt.U, Pt.locs, Pt.cells, Pt.slots] at X3 l3 y3 z3 st3 hQ3
  subst l3 y3 z3
  obtain ⟨rfl, Nq3, e3⟩ := hQ3
  have N3 := Fr.app N0 Nq3
  obtain ⟨fs, hr, hrun, hended, hWW⟩ := leaveW (s := s) X3 hS1 (by rw [e3]; exact hk1) (v := some (.int (1 : Int32))) (fun h => by rw [Bd.returns] at h; cases h)
  refine ⟨_, _, pre0 _ ?_, hrun, hended, _, _, rfl, ?_, ?_, ⟨hWW.1, hWW.2.1, hWW.2.2.1, hWW.2.2.2.mono (nle rfl) (nle rfl)⟩⟩
  · show Steps p.tables e below (s₁.setTop (mkF m 0 #[.val (.int (46 : Int32))] [])) _
    refine XS.iloadN X0.here hx rfl (hb hby d18_0) rfl ?_
    show Steps p.tables e below (s₁.setTop (mkF m 1 #[.val (.int (46 : Int32))] [(.int (46 : Int32))])) _
    refine XS.bipush X0.here hx rfl (hb hby d18_1) ?_
    show Steps p.tables e below (s₁.setTop (mkF m 3 #[.val (.int (46 : Int32))] [(.int (97 : Int32)), (.int (46 : Int32))])) _
    refine XS.icmpYes X0.here hx rfl (pc0 := 3) (pc' := 12) rfl (hb hby d18_3) rfl (tlt (by decide : (46 : Int32) < (97 : Int32))).1 (by decide) (by decide) ?_
    show Steps p.tables e below (s₁.setTop (mkF m 12 #[.val (.int (46 : Int32))] [])) _
    refine XS.iloadN X0.here hx rfl (hb hby d18_12) rfl ?_
    show Steps p.tables e below (s₁.setTop (mkF m 13 #[.val (.int (46 : Int32))] [(.int (46 : Int32))])) _
    refine XS.bipush X0.here hx rfl (hb hby d18_13) ?_
    show Steps p.tables e below (s₁.setTop (mkF m 15 #[.val (.int (46 : Int32))] [(.int (65 : Int32)), (.int (46 : Int32))])) _
    refine XS.icmpYes X0.here hx rfl (pc0 := 15) (pc' := 24) rfl (hb hby d18_15) rfl (tlt (by decide : (46 : Int32) < (65 : Int32))).1 (by decide) (by decide) ?_
    show Steps p.tables e below (s₁.setTop (mkF m 24 #[.val (.int (46 : Int32))] [])) _
    refine XS.iloadN X0.here hx rfl (hb hby d18_24) rfl ?_
    show Steps p.tables e below (s₁.setTop (mkF m 25 #[.val (.int (46 : Int32))] [(.int (46 : Int32))])) _
    refine XS.bipush X0.here hx rfl (hb hby d18_25) ?_
    show Steps p.tables e below (s₁.setTop (mkF m 27 #[.val (.int (46 : Int32))] [(.int (48 : Int32)), (.int (46 : Int32))])) _
    refine XS.icmpYes X0.here hx rfl (pc0 := 27) (pc' := 36) rfl (hb hby d18_27) rfl (tlt (by decide : (46 : Int32) < (48 : Int32))).1 (by decide) (by decide) ?_
    show Steps p.tables e below (s₁.setTop (mkF m 36 #[.val (.int (46 : Int32))] [])) _
    refine st1 _ ?_
    show Steps p.tables e below (T1.setTop (mkF m 38 #[.val (.int (46 : Int32))] [(.ref li1)])) _
    refine XS.iloadN X1.here hx rfl (hb hby d18_38) rfl ?_
    show Steps p.tables e below (T1.setTop (mkF m 39 #[.val (.int (46 : Int32))] [(.int (46 : Int32)), (.ref li1)])) _
    refine st3.trans ?_
    show Steps p.tables e below (T3.setTop (mkF m 42 #[.val (.int (46 : Int32))] [(.int (0 : Int32))])) _
    refine XS.ifNo X3.here hx rfl (hb hby d18_42) rfl ((if0 _ _).trans (flt (by decide : ¬ ((0 : Int32) < (0 : Int32)))).1) ?_
    show Steps p.tables e below (T3.setTop (mkF m 45 #[.val (.int (46 : Int32))] [])) _
    refine XS.iconst X3.here hx rfl (hb hby d18_45) ?_
    show Steps p.tables e below (T3.setTop (mkF m 46 #[.val (.int (46 : Int32))] [(.int (1 : Int32))])) _
    refine XS.goto X3.here hx rfl (pc0 := 46) (pc' := 50) rfl (hb hby d18_46) (by decide) (by decide) ?_
    show Steps p.tables e below (T3.setTop (mkF m 50 #[.val (.int (46 : Int32))] [(.int (1 : Int32))])) _
    exact own_retN X3 hx (t := .boolean) rfl Bd.returns (by simp) (hb hby d18_50) hr
  · show Q_m18_0 Z wcs EL h0 n0 _ T3.heap _
    rw [e3]
    exact ⟨rfl, N3, K2⟩
  · show CHr Z EL s.vm s.heap T3.vm T3.heap
    rw [e3, hh]
    exact CR1.trans (CHv.at (s := s) (vm0 := T1.vm) X3 hZ hEL CR1.1)
theorem d18_18 : decode prog_10_method_6_code 18 = .ok (.iload_n 0, 1) := by decide +kernel
theorem d18_19 : decode prog_10_method_6_code 19 = .ok (.bipush 90, 2) := by decide +kernel
theorem d18_21 : decode prog_10_method_6_code 21 = .ok (.if_icmp .le 24, 3) := by decide +kernel
theorem d18_30 : decode prog_10_method_6_code 30 = .ok (.iload_n 0, 1) := by decide +kernel
theorem d18_31 : decode prog_10_method_6_code 31 = .ok (.bipush 57, 2) := by decide +kernel
theorem d18_33 : decode prog_10_method_6_code 33 = .ok (.if_icmp .le 12, 3) := by decide +kernel
def Q_m18_1 (Z : State) (wcs : Int32) (EL : List (String × Nat)) (h0 : Heap) (n0 : Nat) (v : Option Value) (h : Heap) (L : List Loc) : Prop := v = (some (.int (1 : Int32))) ∧ Fr n0 L ∧ Keep h0 h []
theorem ef_m18_1 (m : MethodId) (wcs : Int32) (EL : List (String × Nat)) : entryFrame m #[(.int (95 : Int32))] 1 = mkF m 0 #[.val (.int (95 : Int32))] [] := by first | (simp [entryFrame, mkF, argsToLocals, Value.category]; done) | rfl
set_option maxRecDepth 65536 in
set_option maxHeartbeats 40000000 in
theorem m18_1 (l : Launch) (Z : State) (a0 : Array Value) (hw : ∀ d ∈ tables_1, d.before a0 Z = true) (ws : List Jvm.Cond) (wcs : Int32) (EL : List (String × Nat)) (h0 : Heap) (n0 : Nat) (Z0 : n0 ≤ h0.size) (S_CS : Sta Z h0 "java/lang/String" "COMPACT_STRINGS" "Z" (.int wcs)) (ncs : ¬ (wcs = (0 : Int32))) (hEL : EW Z a0 EL) (hm82 : (("com/example/portunus/portunus/lock/LockName", 82) : String × Nat) ∈ EL) :
    MetFree l (⟨"com/example/portunus/portunus/lock/LockName", "allowed", "(I)Z"⟩ : MethodName) (head1 (Jvm.Cond.code (⟨"com/example/portunus/portunus/lock/LockName", "allowed", "(I)Z"⟩ : MethodName) prog_10_method_6_code 1 (some .boolean) :: ws) ({ frames := 4, cells := 2, slots := 24, locals := 61 } : Room)) (fun ar_ U => ar_ = #[(.int (95 : Int32))] ∧ Z.Warmed39 U.vm ∧ U.heap = h0 ∧ CHv Z EL U.vm h0) (fun _ _ _ _ _ => True) (fun _ U o U' => ∃ v L, o = .returned v ∧ Q_m18_1 Z wcs EL h0 n0 v U'.heap L ∧ CHr Z EL U.vm U.heap U'.vm U'.heap ∧ ReturnedEndW U o U' L ({ frames := 4, cells := 2, slots := 24, locals := 61 } : Room).cells ({ frames := 4, cells := 2, slots := 24, locals := 61 } : Room).slots) := by
  refine MetFree.of_bodySF (plainFor_of_name pnx_com_example_portunus_portunus_lock_LockName) hisR ?_
  intro p e s m args below meth c s₁ Bd hml0 hP hK
  obtain ⟨rfl, hZ, hh, HC⟩ := hP
  have hx := Bd.exec
  have hby := Bd.bytes
  have hml : c.maxLocals = 1 := hml0
  have hown : s.vm.findClass "com/example/portunus/portunus/lock/LockName" = some m.cls := findClass_of_methodNamed Bd.named
  have hnm := (name_of_methodNamed Bd.named Bd.method).1
  have X0 : Stand p l e ({ frames := 4, cells := 2, slots := 24, locals := 61 } : Room) s m #[(.int (95 : Int32))] below meth c s₁ [] 0 0 := Stand.of_body Bd
  have e0 : s₁.heap = h0 := by rw [← hh, Bd.state]; rfl
  have N0 := Fr.nil n0
  have pre0 : ∀ tq_, Steps p.tables e below (s₁.setTop (mkF m 0 #[.val (.int (95 : Int32))] [])) tq_ → Steps p.tables e below (s₁.setTop (entryFrame m #[(.int (95 : Int32))] 1)) tq_ := fun tq_ kt_ => castTop (ef_m18_1 m wcs EL ) kt_
  obtain ⟨li1, T1, h1, k1, b1, kb1, X1, e1, E1, hS1, hk1, hZ, hown, EX1, FC1, FV1, AV1, la1, lb1, C1, Lt1, ne1, st1⟩ := ldcCH (s := s) (vm0 := s.vm) (EL := EL) X0 hx hZ hown (wk hw 120 rfl) (own_wS hw) e0 ((State.WarmedH.refl s).since 0) (Nat.zero_le _) hEL hm82 HC (vs := [(.int (46 : Int32)), (.int (95 : Int32)), (.int (45 : Int32)), (.int (58 : Int32)), (.int (47 : Int32))]) (z := (5 : Int32)) ⟨by decide, by decide⟩ (by decide) (by decide) (g := (mkF m 36 #[.val (.int (95 : Int32))] [])) rfl (hb hby d18_36) (n := 20) (by decide) (by decide) (nle rfl) (nle rfl)
  have CR1 := C1
  have K2 : Keep h0 h1 [] := (Keep.refl h0 []).ext E1
  have F4 := (S_CS.ext E1)
  obtain ⟨cq3, kq3, qa3, qb3, qc3⟩ := isOf hZ e1 EX1
  obtain ⟨_, _, ⟨T3, L3, kk3, nn3⟩, -, X3, ⟨Lc3, hQ3, l3, y3, z3⟩, st3⟩ := X1.virtualBack hx (y := (⟨"java/lang/String", "indexOf", "(I)I"⟩ : MethodName)) (z := (⟨"java/lang/String", "indexOf", "(I)I"⟩ : MethodName)) hown (mvT hZ (wk hw 121 rfl)) (mvT hZ (wk hw 122 rfl)) (notFace_of_selects (args := #[]) (mvT hZ (wk hw 124 rfl))) (mvT hZ (wk hw 124 rfl)) (mvT hZ (wk hw 123 rfl)) (by decide) (backOf (W := 0) (m25 l Z a0 hw [] li1 b1 kb1 (95 : Int32) (1 : Int32) wcs h1 n0 (Nat.le_trans Z0 K2.1) EX1 FC1 FV1 AV1 (by decide) F4 ncs) hZ (wk hw 125 rfl) (wk hw 10 rfl) (by decide) (by decide)) qa3 qc3 (g := (mkF m 39 #[.val (.int (95 : Int32))] [(.int (95 : Int32)), (.ref li1)])) rfl (by rw [hml]; rfl) (Steps.refl _) (argsL := [(.int (95 : Int32))]) (rest := []) (lenOf pdx__I_I rfl) rfl (by show 2 * 0 + _ ≤ _; exact Nat.le_of_eq rfl) (hb hby d18_39) (fun _ _ => ⟨rfl, e1, nle rfl, nle rfl⟩)
  dsimp only [Pt.U, Pt.locs, Pt.cells, Pt.slots] at X3 l3 y3 z3 st3 hQ3
  subst l3 y3 z3
  obtain ⟨rfl, Nq3, e3⟩ := hQ3
  have N3 := Fr.app N0 Nq3
  obtain ⟨fs, hr, hrun, hended, hWW⟩ := leaveW (s := s) X3 hS1 (by rw [e3]; exact hk1) (v := some (.int (1 : Int32))) (fun h => by rw [Bd.returns] at h; cases h)
  refine ⟨_, _, pre0 _ ?_, hrun, hended, _, _, rfl, ?_, ?_, ⟨hWW.1, hWW.2.1, hWW.2.2.1, hWW.2.2.2.mono (nle rfl) (nle rfl)⟩⟩
  · show Steps p.tables e below (s₁.setTop (mkF m 0 #[.val (.int (95 : Int32))] [])) _
    refine XS.iloadN X0.here hx rfl (hb hby d18_0) rfl ?_
    show Steps p.tables e below (s₁.setTop (mkF m 1 #[.val (.int (95 : Int32))] [(.int (95 : Int32))])) _
    refine XS.bipush X0.here hx rfl (hb hby d18_1) ?_
    show Steps p.tables e below (s₁.setTop (mkF m 3 #[.val (.int (95 : Int32))] [(.int (97 : Int32)), (.int (95 : Int32))])) _
    refine XS.icmpYes X0.here hx rfl (pc0 := 3) (pc' := 12) rfl (hb hby d18_3) rfl (tlt (by decide : (95 : Int32) < (97 : Int32))).1 (by decide) (by decide) ?_
    show Steps p.tables e below (s₁.setTop (mkF m 12 #[.val (.int (95 : Int32))] [])) _
    refine XS.iloadN X0.here hx rfl (hb hby d18_12) rfl ?_
    show Steps p.tables e below (s₁.setTop (mkF m 13 #[.val (.int (95 : Int32))] [(.int (95 : Int32))])) _
    refine XS.bipush X0.here hx rfl (hb hby d18_13) ?_
    show Steps p.tables e below (s₁.setTop (mkF m 15 #[.val (.int (95 : Int32))] [(.int (65 : Int32)), (.int (95 : Int32))])) _
    refine XS.icmpNo X0.here hx rfl (hb hby d18_15) rfl (flt (by decide : ¬ ((95 : Int32) < (65 : Int32)))).1 ?_
    show Steps p.tables e below (s₁.setTop (mkF m 18 #[.val (.int (95 : Int32))] [])) _
    refine XS.iloadN X0.here hx rfl (hb hby d18_18) rfl ?_
    show Steps p.tables e below (s₁.setTop (mkF m 19 #[.val (.int (95 : Int32))] [(.int (95 : Int32))])) _
    refine XS.bipush X0.here hx rfl (hb hby d18_19) ?_
    show Steps p.tables e below (s₁.setTop (mkF m 21 #[.val (.int (95 : Int32))] [(.int (90 : Int32)), (.int (95 : Int32))])) _
    refine XS.icmpNo X0.here hx rfl (hb hby d18_21) rfl (tlt (by decide : (90 : Int32) < (95 : Int32))).2.2.2 ?_
    show Steps p.tables e below (s₁.setTop (mkF m 24 #[.val (.int (95 : Int32))] [])) _
    refine XS.iloadN X0.here hx rfl (hb hby d18_24) rfl ?_
    show Steps p.tables e below (s₁.setTop (mkF m 25 #[.val (.int (95 : Int32))] [(.int (95 : Int32))])) _
    refine XS.bipush X0.here hx rfl (hb hby d18_25) ?_
    show Steps p.tables e below (s₁.setTop (mkF m 27 #[.val (.int (95 : Int32))] [(.int (48 : Int32)), (.int (95 : Int32))])) _
    refine XS.icmpNo X0.here hx rfl (hb hby d18_27) rfl (flt (by decide : ¬ ((95 : Int32) < (48 : Int32)))).1 ?_
    show Steps p.tables e below (s₁.setTop (mkF m 30 #[.val (.int (95 : Int32))] [])) _
    refine XS.iloadN X0.here hx rfl (hb hby d18_30) rfl ?_
    show Steps p.tables e below (s₁.setTop (mkF m 31 #[.val (.int (95 : Int32))] [(.int (95 : Int32))])) _
    refine XS.bipush X0.here hx rfl (hb hby d18_31) ?_
    show Steps p.tables e below (s₁.setTop (mkF m 33 #[.val (.int (95 : Int32))] [(.int (57 : Int32)), (.int (95 : Int32))])) _
    refine XS.icmpNo X0.here hx rfl (hb hby d18_33) rfl (tlt (by decide : (57 : Int32) < (95 : Int32))).2.2.2 ?_
    show Steps p.tables e below (s₁.setTop (mkF m 36 #[.val (.int (95 : Int32))] [])) _
    refine st1 _ ?_
    show Steps p.tables e below (T1.setTop (mkF m 38 #[.val (.int (95 : Int32))] [(.ref li1)])) _
    refine XS.iloadN X1.here hx rfl (hb hby d18_38) rfl ?_
    show Steps p.tables e below (T1.setTop (mkF m 39 #[.val (.int (95 : Int32))] [(.int (95 : Int32)), (.ref li1)])) _
    refine st3.trans ?_
    show Steps p.tables e below (T3.setTop (mkF m 42 #[.val (.int (95 : Int32))] [(.int (1 : Int32))])) _
    refine XS.ifNo X3.here hx rfl (hb hby d18_42) rfl ((if0 _ _).trans (flt (by decide : ¬ ((1 : Int32) < (0 : Int32)))).1) ?_
    show Steps p.tables e below (T3.setTop (mkF m 45 #[.val (.int (95 : Int32))] [])) _
    refine XS.iconst X3.here hx rfl (hb hby d18_45) ?_
    show Steps p.tables e below (T3.setTop (mkF m 46 #[.val (.int (95 : Int32))] [(.int (1 : Int32))])) _
    refine XS.goto X3.here hx rfl (pc0 := 46) (pc' := 50) rfl (hb hby d18_46) (by decide) (by decide) ?_
    show Steps p.tables e below (T3.setTop (mkF m 50 #[.val (.int (95 : Int32))] [(.int (1 : Int32))])) _
    exact own_retN X3 hx (t := .boolean) rfl Bd.returns (by simp) (hb hby d18_50) hr
  · show Q_m18_1 Z wcs EL h0 n0 _ T3.heap _
    rw [e3]
    exact ⟨rfl, N3, K2⟩
  · show CHr Z EL s.vm s.heap T3.vm T3.heap
    rw [e3, hh]
    exact CR1.trans (CHv.at (s := s) (vm0 := T1.vm) X3 hZ hEL CR1.1)
def Q_m18_2 (Z : State) (wcs : Int32) (EL : List (String × Nat)) (h0 : Heap) (n0 : Nat) (v : Option Value) (h : Heap) (L : List Loc) : Prop := v = (some (.int (1 : Int32))) ∧ Fr n0 L ∧ Keep h0 h []
theorem ef_m18_2 (m : MethodId) (wcs : Int32) (EL : List (String × Nat)) : entryFrame m #[(.int (45 : Int32))] 1 = mkF m 0 #[.val (.int (45 : Int32))] [] := by first | (simp [entryFrame, mkF, argsToLocals, Value.category]; done) | rfl
set_option maxRecDepth 65536 in
set_option maxHeartbeats 40000000 in
theorem m18_2 (l : Launch) (Z : State) (a0 : Array Value) (hw : ∀ d ∈ tables_1, d.before a0 Z = true) (ws : List Jvm.Cond) (wcs : Int32) (EL : List (String × Nat)) (h0 : Heap) (n0 : Nat) (Z0 : n0 ≤ h0.size) (S_CS : Sta Z h0 "java/lang/String" "COMPACT_STRINGS" "Z" (.int wcs)) (ncs : ¬ (wcs = (0 : Int32))) (hEL : EW Z a0 EL) (hm82 : (("com/example/portunus/portunus/lock/LockName", 82) : String × Nat) ∈ EL) :
    MetFree l (⟨"com/example/portunus/portunus/lock/LockName", "allowed", "(I)Z"⟩ : MethodName) (head1 (Jvm.Cond.code (⟨"com/example/portunus/portunus/lock/LockName", "allowed", "(I)Z"⟩ : MethodName) prog_10_method_6_code 1 (some .boolean) :: ws) ({ frames := 4, cells := 2, slots := 24, locals := 61 } : Room)) (fun ar_ U => ar_ = #[(.int (45 : Int32))] ∧ Z.Warmed39 U.vm ∧ U.heap = h0 ∧ CHv Z EL U.vm h0) (fun _ _ _ _ _ => True) (fun _ U o U' => ∃ v L, o = .returned v ∧ Q_m18_2 Z wcs EL h0 n0 v U'.heap L ∧ CHr Z EL U.vm U.heap U'.vm U'.heap ∧ ReturnedEndW U o U' L ({ frames := 4, cells := 2, slots := 24, locals := 61 } : Room).cells ({ frames := 4, cells := 2, slots := 24, locals := 61 } : Room).slots) := by
  refine MetFree.of_bodySF (plainFor_of_name pnx_com_example_portunus_portunus_lock_LockName) hisR ?_
  intro p e s m args below meth c s₁ Bd hml0 hP hK
  obtain ⟨rfl, hZ, hh, HC⟩ := hP
  have hx := Bd.exec
  have hby := Bd.bytes
  have hml : c.maxLocals = 1 := hml0
  have hown : s.vm.findClass "com/example/portunus/portunus/lock/LockName" = some m.cls := findClass_of_methodNamed Bd.named
  have hnm := (name_of_methodNamed Bd.named Bd.method).1
  have X0 : Stand p l e ({ frames := 4, cells := 2, slots := 24, locals := 61 } : Room) s m #[(.int (45 : Int32))] below meth c s₁ [] 0 0 := Stand.of_body Bd
  have e0 : s₁.heap = h0 := by rw [← hh, Bd.state]; rfl
  have N0 := Fr.nil n0
  have pre0 : ∀ tq_, Steps p.tables e below (s₁.setTop (mkF m 0 #[.val (.int (45 : Int32))] [])) tq_ → Steps p.tables e below (s₁.setTop (entryFrame m #[(.int (45 : Int32))] 1)) tq_ := fun tq_ kt_ => castTop (ef_m18_2 m wcs EL ) kt_
  obtain ⟨li1, T1, h1, k1, b1, kb1, X1, e1, E1, hS1, hk1, hZ, hown, EX1, FC1, FV1, AV1, la1, lb1, C1, Lt1, ne1, st1⟩ := ldcCH (s := s) (vm0 := s.vm) (EL := EL) X0 hx hZ hown (wk hw 120 rfl) (own_wS hw) e0 ((State.WarmedH.refl s).since 0) (Nat.zero_le _) hEL hm82 HC (vs := [(.int (46 : Int32)), (.int (95 : Int32)), (.int (45 : Int32)), (.int (58 : Int32)), (.int (47 : Int32))]) (z := (5 : Int32)) ⟨by decide, by decide⟩ (by decide) (by decide) (g := (mkF m 36 #[.val (.int (45 : Int32))] [])) rfl (hb hby d18_36) (n := 20) (by decide) (by decide) (nle rfl) (nle rfl)
  have CR1 := C1
  have K2 : Keep h0 h1 [] := (Keep.refl h0 []).ext E1
  have F4 := (S_CS.ext E1)
  obtain ⟨cq3, kq3, qa3, qb3, qc3⟩ := isOf hZ e1 EX1
  obtain ⟨_, _, ⟨T3, L3, kk3, nn3⟩, -, X3, ⟨Lc3, hQ3, l3, y3, z3⟩, st3⟩ := X1.virtualBack hx (y := (⟨"java/lang/String", "indexOf", "(I)I"⟩ : MethodName)) (z := (⟨"java/lang/String", "indexOf", "(I)I"⟩ : MethodName)) hown (mvT hZ (wk hw 121 rfl)) (mvT hZ (wk hw 122 rfl)) (notFace_of_selects (args := #[]) (mvT hZ (wk hw 124 rfl))) (mvT hZ (wk hw 124 rfl)) (mvT hZ (wk hw 123 rfl)) (by decide) (backOf (W := 0) (m25 l Z a0 hw [] li1 b1 kb1 (45 : Int32) (2 : Int32) wcs h1 n0 (Nat.le_trans Z0 K2.1) EX1 FC1 FV1 AV1 (by decide) F4 ncs) hZ (wk hw 125 rfl) (wk hw 10 rfl) (by decide) (by decide)) qa3 qc3 (g := (mkF m 39 #[.val (.int (45 : Int32))] [(.int (45 : Int32)), (.ref li1)])) rfl (by rw [hml]; rfl) (Steps.refl _) (argsL := [(.int (45 : Int32))]) (rest := []) (lenOf pdx__I_I rfl) rfl (by show 2 * 0 + _ ≤ _; exact Nat.le_of_eq rfl) (hb hby d18_39) (fun _ _ => ⟨rfl, e1, nle rfl, nle rfl⟩)
  dsimp only [Pt.U, Pt.locs, Pt.cells, Pt.slots] at X3 l3 y3 z3 st3 hQ3
  subst l3 y3 z3
  obtain ⟨rfl, Nq3, e3⟩ := hQ3
  have N3 := Fr.app N0 Nq3
  obtain ⟨fs, hr, hrun, hended, hWW⟩ := leaveW (s := s) X3 hS1 (by rw [e3]; exact hk1) (v := some (.int (1 : Int32))) (fun h => by rw [Bd.returns] at h; cases h)
  refine ⟨_, _, pre0 _ ?_, hrun, hended, _, _, rfl, ?_, ?_, ⟨hWW.1, hWW.2.1, hWW.2.2.1, hWW.2.2.2.mono (nle rfl) (nle rfl)⟩⟩
  · show Steps p.tables e below (s₁.setTop (mkF m 0 #[.val (.int (45 : Int32))] [])) _
    refine XS.iloadN X0.here hx rfl (hb hby d18_0) rfl ?_
    show Steps p.tables e below (s₁.setTop (mkF m 1 #[.val (.int (45 : Int32))] [(.int (45 : Int32))])) _
    refine XS.bipush X0.here hx rfl (hb hby d18_1) ?_
    show Steps p.tables e below (s₁.setTop (mkF m 3 #[.val (.int (45 : Int32))] [(.int (97 : Int32)), (.int (45 : Int32))])) _
    refine XS.icmpYes X0.here hx rfl (pc0 := 3) (pc' := 12) rfl (hb hby d18_3) rfl (tlt (by decide : (45 : Int32) < (97 : Int32))).1 (by decide) (by decide) ?_
    show Steps p.tables e below (s₁.setTop (mkF m 12 #[.val (.int (45 : Int32))] [])) _
    refine XS.iloadN X0.here hx rfl (hb hby d18_12) rfl ?_
    show Steps p.tables e below (s₁.setTop (mkF m 13 #[.val (.int (45 : Int32))] [(.int (45 : Int32))])) _
    refine XS.bipush X0.here hx rfl (hb hby d18_13) ?_
    show Steps p.tables e below (s₁.setTop (mkF m 15 #[.val (.int (45 : Int32))] [(.int (65 : Int32)), (.int (45 : Int32))])) _
    refine XS.icmpYes X0.here hx rfl (pc0 := 15) (pc' := 24) rfl (hb hby d18_15) rfl (tlt (by decide : (45 : Int32) < (65 : Int32))).1 (by decide) (by decide) ?_
    show Steps p.tables e below (s₁.setTop (mkF m 24 #[.val (.int (45 : Int32))] [])) _
    refine XS.iloadN X0.here hx rfl (hb hby d18_24) rfl ?_
    show Steps p.tables e below (s₁.setTop (mkF m 25 #[.val (.int (45 : Int32))] [(.int (45 : Int32))])) _
    refine XS.bipush X0.here hx rfl (hb hby d18_25) ?_
    show Steps p.tables e below (s₁.setTop (mkF m 27 #[.val (.int (45 : Int32))] [(.int (48 : Int32)), (.int (45 : Int32))])) _
    refine XS.icmpYes X0.here hx rfl (pc0 := 27) (pc' := 36) rfl (hb hby d18_27) rfl (tlt (by decide : (45 : Int32) < (48 : Int32))).1 (by decide) (by decide) ?_
    show Steps p.tables e below (s₁.setTop (mkF m 36 #[.val (.int (45 : Int32))] [])) _
    refine st1 _ ?_
    show Steps p.tables e below (T1.setTop (mkF m 38 #[.val (.int (45 : Int32))] [(.ref li1)])) _
    refine XS.iloadN X1.here hx rfl (hb hby d18_38) rfl ?_
    show Steps p.tables e below (T1.setTop (mkF m 39 #[.val (.int (45 : Int32))] [(.int (45 : Int32)), (.ref li1)])) _
    refine st3.trans ?_
    show Steps p.tables e below (T3.setTop (mkF m 42 #[.val (.int (45 : Int32))] [(.int (2 : Int32))])) _
    refine XS.ifNo X3.here hx rfl (hb hby d18_42) rfl ((if0 _ _).trans (flt (by decide : ¬ ((2 : Int32) < (0 : Int32)))).1) ?_
    show Steps p.tables e below (T3.setTop (mkF m 45 #[.val (.int (45 : Int32))] [])) _
    refine XS.iconst X3.here hx rfl (hb hby d18_45) ?_
    show Steps p.tables e below (T3.setTop (mkF m 46 #[.val (.int (45 : Int32))] [(.int (1 : Int32))])) _
    refine XS.goto X3.here hx rfl (pc0 := 46) (pc' := 50) rfl (hb hby d18_46) (by decide) (by decide) ?_
    show Steps p.tables e below (T3.setTop (mkF m 50 #[.val (.int (45 : Int32))] [(.int (1 : Int32))])) _
    exact own_retN X3 hx (t := .boolean) rfl Bd.returns (by simp) (hb hby d18_50) hr
  · show Q_m18_2 Z wcs EL h0 n0 _ T3.heap _
    rw [e3]
    exact ⟨rfl, N3, K2⟩
  · show CHr Z EL s.vm s.heap T3.vm T3.heap
    rw [e3, hh]
    exact CR1.trans (CHv.at (s := s) (vm0 := T1.vm) X3 hZ hEL CR1.1)
def Q_m18_3 (Z : State) (wcs : Int32) (EL : List (String × Nat)) (h0 : Heap) (n0 : Nat) (v : Option Value) (h : Heap) (L : List Loc) : Prop := v = (some (.int (1 : Int32))) ∧ Fr n0 L ∧ Keep h0 h []
theorem ef_m18_3 (m : MethodId) (wcs : Int32) (EL : List (String × Nat)) : entryFrame m #[(.int (58 : Int32))] 1 = mkF m 0 #[.val (.int (58 : Int32))] [] := by first | (simp [entryFrame, mkF, argsToLocals, Value.category]; done) | rfl
set_option maxRecDepth 65536 in
set_option maxHeartbeats 40000000 in
theorem m18_3 (l : Launch) (Z : State) (a0 : Array Value) (hw : ∀ d ∈ tables_1, d.before a0 Z = true) (ws : List Jvm.Cond) (wcs : Int32) (EL : List (String × Nat)) (h0 : Heap) (n0 : Nat) (Z0 : n0 ≤ h0.size) (S_CS : Sta Z h0 "java/lang/String" "COMPACT_STRINGS" "Z" (.int wcs)) (ncs : ¬ (wcs = (0 : Int32))) (hEL : EW Z a0 EL) (hm82 : (("com/example/portunus/portunus/lock/LockName", 82) : String × Nat) ∈ EL) :
    MetFree l (⟨"com/example/portunus/portunus/lock/LockName", "allowed", "(I)Z"⟩ : MethodName) (head1 (Jvm.Cond.code (⟨"com/example/portunus/portunus/lock/LockName", "allowed", "(I)Z"⟩ : MethodName) prog_10_method_6_code 1 (some .boolean) :: ws) ({ frames := 4, cells := 2, slots := 24, locals := 61 } : Room)) (fun ar_ U => ar_ = #[(.int (58 : Int32))] ∧ Z.Warmed39 U.vm ∧ U.heap = h0 ∧ CHv Z EL U.vm h0) (fun _ _ _ _ _ => True) (fun _ U o U' => ∃ v L, o = .returned v ∧ Q_m18_3 Z wcs EL h0 n0 v U'.heap L ∧ CHr Z EL U.vm U.heap U'.vm U'.heap ∧ ReturnedEndW U o U' L ({ frames := 4, cells := 2, slots := 24, locals := 61 } : Room).cells ({ frames := 4, cells := 2, slots := 24, locals := 61 } : Room).slots) := by
  refine MetFree.of_bodySF (plainFor_of_name pnx_com_example_portunus_portunus_lock_LockName) hisR ?_
  intro p e s m args below meth c s₁ Bd hml0 hP hK
  obtain ⟨rfl, hZ, hh, HC⟩ := hP
  have hx := Bd.exec
  have hby := Bd.bytes
  have hml : c.maxLocals = 1 := hml0
  have hown : s.vm.findClass "com/example/portunus/portunus/lock/LockName" = some m.cls := findClass_of_methodNamed Bd.named
  have hnm := (name_of_methodNamed Bd.named Bd.method).1
  have X0 : Stand p l e ({ frames := 4, cells := 2, slots := 24, locals := 61 } : Room) s m #[(.int (58 : Int32))] below meth c s₁ [] 0 0 := Stand.of_body Bd
  have e0 : s₁.heap = h0 := by rw [← hh, Bd.state]; rfl
  have N0 := Fr.nil n0
  have pre0 : ∀ tq_, Steps p.tables e below (s₁.setTop (mkF m 0 #[.val (.int (58 : Int32))] [])) tq_ → Steps p.tables e below (s₁.setTop (entryFrame m #[(.int (58 : Int32))] 1)) tq_ := fun tq_ kt_ => castTop (ef_m18_3 m wcs EL ) kt_
  obtain ⟨li1, T1, h1, k1, b1, kb1, X1, e1, E1, hS1, hk1, hZ, hown, EX1, FC1, FV1, AV1, la1, lb1, C1, Lt1, ne1, st1⟩ := ldcCH (s := s) (vm0 := s.vm) (EL := EL) X0 hx hZ hown (wk hw 120 rfl) (own_wS hw) e0 ((State.WarmedH.refl s).since 0) (Nat.zero_le _) hEL hm82 HC (vs := [(.int (46 : Int32)), (.int (95 : Int32)), (.int (45 : Int32)), (.int (58 : Int32)), (.int (47 : Int32))]) (z := (5 : Int32)) ⟨by decide, by decide⟩ (by decide) (by decide) (g := (mkF m 36 #[.val (.int (58 : Int32))] [])) rfl (hb hby d18_36) (n := 20) (by decide) (by decide) (nle rfl) (nle rfl)
  have CR1 := C1
  have K2 : Keep h0 h1 [] := (Keep.refl h0 []).ext E1
  have F4 := (S_CS.ext E1)
  obtain ⟨cq3, kq3, qa3, qb3, qc3⟩ := isOf hZ e1 EX1
  obtain ⟨_, _, ⟨T3, L3, kk3, nn3⟩, -, X3, ⟨Lc3, hQ3, l3, y3, z3⟩, st3⟩ := X1.virtualBack hx (y := (⟨"java/lang/String", "indexOf", "(I)I"⟩ : MethodName)) (z := (⟨"java/lang/String", "indexOf", "(I)I"⟩ : MethodName)) hown (mvT hZ (wk hw 121 rfl)) (mvT hZ (wk hw 122 rfl)) (notFace_of_selects (args := #[]) (mvT hZ (wk hw 124 rfl))) (mvT hZ (wk hw 124 rfl)) (mvT hZ (wk hw 123 rfl)) (by decide) (backOf (W := 0) (m25 l Z a0 hw [] li1 b1 kb1 (58 : Int32) (3 : Int32) wcs h1 n0 (Nat.le_trans Z0 K2.1) EX1 FC1 FV1 AV1 (by decide) F4 ncs) hZ (wk hw 125 rfl) (wk hw 10 rfl) (by decide) (by decide)) qa3 qc3 (g := (mkF m 39 #[.val (.int (58 : Int32))] [(.int (58 : Int32)), (.ref li1)])) rfl (by rw [hml]; rfl) (Steps.refl _) (argsL := [(.int (58 : Int32))]) (rest := []) (lenOf pdx__I_I rfl) rfl (by show 2 * 0 + _ ≤ _; exact Nat.le_of_eq rfl) (hb hby d18_39) (fun _ _ => ⟨rfl, e1, nle rfl, nle rfl⟩)
  dsimp only [Pt.U, Pt.locs, Pt.cells, Pt.slots] at X3 l3 y3 z3 st3 hQ3
  subst l3 y3 z3
  obtain ⟨rfl, Nq3, e3⟩ := hQ3
  have N3 := Fr.app N0 Nq3
  obtain ⟨fs, hr, hrun, hended, hWW⟩ := leaveW (s := s) X3 hS1 (by rw [e3]; exact hk1) (v := some (.int (1 : Int32))) (fun h => by rw [Bd.returns] at h; cases h)
  refine ⟨_, _, pre0 _ ?_, hrun, hended, _, _, rfl, ?_, ?_, ⟨hWW.1, hWW.2.1, hWW.2.2.1, hWW.2.2.2.mono (nle rfl) (nle rfl)⟩⟩
  · show Steps p.tables e below (s₁.setTop (mkF m 0 #[.val (.int (58 : Int32))] [])) _
    refine XS.iloadN X0.here hx rfl (hb hby d18_0) rfl ?_
    show Steps p.tables e below (s₁.setTop (mkF m 1 #[.val (.int (58 : Int32))] [(.int (58 : Int32))])) _
    refine XS.bipush X0.here hx rfl (hb hby d18_1) ?_
    show Steps p.tables e below (s₁.setTop (mkF m 3 #[.val (.int (58 : Int32))] [(.int (97 : Int32)), (.int (58 : Int32))])) _
    refine XS.icmpYes X0.here hx rfl (pc0 := 3) (pc' := 12) rfl (hb hby d18_3) rfl (tlt (by decide : (58 : Int32) < (97 : Int32))).1 (by decide) (by decide) ?_
    show Steps p.tables e below (s₁.setTop (mkF m 12 #[.val (.int (58 : Int32))] [])) _
    refine XS.iloadN X0.here hx rfl (hb hby d18_12) rfl ?_
    show Steps p.tables e below (s₁.setTop (mkF m 13 #[.val (.int (58 : Int32))] [(.int (58 : Int32))])) _
    refine XS.bipush X0.here hx rfl (hb hby d18_13) ?_
    show Steps p.tables e below (s₁.setTop (mkF m 15 #[.val (.int (58 : Int32))] [(.int (65 : Int32)), (.int (58 : Int32))])) _
    refine XS.icmpYes X0.here hx rfl (pc0 := 15) (pc' := 24) rfl (hb hby d18_15) rfl (tlt (by decide : (58 : Int32) < (65 : Int32))).1 (by decide) (by decide) ?_
    show Steps p.tables e below (s₁.setTop (mkF m 24 #[.val (.int (58 : Int32))] [])) _
    refine XS.iloadN X0.here hx rfl (hb hby d18_24) rfl ?_
    show Steps p.tables e below (s₁.setTop (mkF m 25 #[.val (.int (58 : Int32))] [(.int (58 : Int32))])) _
    refine XS.bipush X0.here hx rfl (hb hby d18_25) ?_
    show Steps p.tables e below (s₁.setTop (mkF m 27 #[.val (.int (58 : Int32))] [(.int (48 : Int32)), (.int (58 : Int32))])) _
    refine XS.icmpNo X0.here hx rfl (hb hby d18_27) rfl (flt (by decide : ¬ ((58 : Int32) < (48 : Int32)))).1 ?_
    show Steps p.tables e below (s₁.setTop (mkF m 30 #[.val (.int (58 : Int32))] [])) _
    refine XS.iloadN X0.here hx rfl (hb hby d18_30) rfl ?_
    show Steps p.tables e below (s₁.setTop (mkF m 31 #[.val (.int (58 : Int32))] [(.int (58 : Int32))])) _
    refine XS.bipush X0.here hx rfl (hb hby d18_31) ?_
    show Steps p.tables e below (s₁.setTop (mkF m 33 #[.val (.int (58 : Int32))] [(.int (57 : Int32)), (.int (58 : Int32))])) _
    refine XS.icmpNo X0.here hx rfl (hb hby d18_33) rfl (tlt (by decide : (57 : Int32) < (58 : Int32))).2.2.2 ?_
    show Steps p.tables e below (s₁.setTop (mkF m 36 #[.val (.int (58 : Int32))] [])) _
    refine st1 _ ?_
    show Steps p.tables e below (T1.setTop (mkF m 38 #[.val (.int (58 : Int32))] [(.ref li1)])) _
    refine XS.iloadN X1.here hx rfl (hb hby d18_38) rfl ?_
    show Steps p.tables e below (T1.setTop (mkF m 39 #[.val (.int (58 : Int32))] [(.int (58 : Int32)), (.ref li1)])) _
    refine st3.trans ?_
    show Steps p.tables e below (T3.setTop (mkF m 42 #[.val (.int (58 : Int32))] [(.int (3 : Int32))])) _
    refine XS.ifNo X3.here hx rfl (hb hby d18_42) rfl ((if0 _ _).trans (flt (by decide : ¬ ((3 : Int32) < (0 : Int32)))).1) ?_
    show Steps p.tables e below (T3.setTop (mkF m 45 #[.val (.int (58 : Int32))] [])) _
    refine XS.iconst X3.here hx rfl (hb hby d18_45) ?_
    show Steps p.tables e below (T3.setTop (mkF m 46 #[.val (.int (58 : Int32))] [(.int (1 : Int32))])) _
    refine XS.goto X3.here hx rfl (pc0 := 46) (pc' := 50) rfl (hb hby d18_46) (by decide) (by decide) ?_
    show Steps p.tables e below (T3.setTop (mkF m 50 #[.val (.int (58 : Int32))] [(.int (1 : Int32))])) _
    exact own_retN X3 hx (t := .boolean) rfl Bd.returns (by simp) (hb hby d18_50) hr
  · show Q_m18_3 Z wcs EL h0 n0 _ T3.heap _
    rw [e3]
    exact ⟨rfl, N3, K2⟩
  · show CHr Z EL s.vm s.heap T3.vm T3.heap
    rw [e3, hh]
    exact CR1.trans (CHv.at (s := s) (vm0 := T1.vm) X3 hZ hEL CR1.1)
def Q_m18_4 (Z : State) (wcs : Int32) (EL : List (String × Nat)) (h0 : Heap) (n0 : Nat) (v : Option Value) (h : Heap) (L : List Loc) : Prop := v = (some (.int (1 : Int32))) ∧ Fr n0 L ∧ Keep h0 h []
theorem ef_m18_4 (m : MethodId) (wcs : Int32) (EL : List (String × Nat)) : entryFrame m #[(.int (47 : Int32))] 1 = mkF m 0 #[.val (.int (47 : Int32))] [] := by first | (simp [entryFrame, mkF, argsToLocals, Value.category]; done) | rfl
set_option maxRecDepth 65536 in
set_option maxHeartbeats 40000000 in
theorem m18_4 (l : Launch) (Z : State) (a0 : Array Value) (hw : ∀ d ∈ tables_1, d.before a0 Z = true) (ws : List Jvm.Cond) (wcs : Int32) (EL : List (String × Nat)) (h0 : Heap) (n0 : Nat) (Z0 : n0 ≤ h0.size) (S_CS : Sta Z h0 "java/lang/String" "COMPACT_STRINGS" "Z" (.int wcs)) (ncs : ¬ (wcs = (0 : Int32))) (hEL : EW Z a0 EL) (hm82 : (("com/example/portunus/portunus/lock/LockName", 82) : String × Nat) ∈ EL) :
    MetFree l (⟨"com/example/portunus/portunus/lock/LockName", "allowed", "(I)Z"⟩ : MethodName) (head1 (Jvm.Cond.code (⟨"com/example/portunus/portunus/lock/LockName", "allowed", "(I)Z"⟩ : MethodName) prog_10_method_6_code 1 (some .boolean) :: ws) ({ frames := 4, cells := 2, slots := 24, locals := 61 } : Room)) (fun ar_ U => ar_ = #[(.int (47 : Int32))] ∧ Z.Warmed39 U.vm ∧ U.heap = h0 ∧ CHv Z EL U.vm h0) (fun _ _ _ _ _ => True) (fun _ U o U' => ∃ v L, o = .returned v ∧ Q_m18_4 Z wcs EL h0 n0 v U'.heap L ∧ CHr Z EL U.vm U.heap U'.vm U'.heap ∧ ReturnedEndW U o U' L ({ frames := 4, cells := 2, slots := 24, locals := 61 } : Room).cells ({ frames := 4, cells := 2, slots := 24, locals := 61 } : Room).slots) := by
  refine MetFree.of_bodySF (plainFor_of_name pnx_com_example_portunus_portunus_lock_LockName) hisR ?_
  intro p e s m args below meth c s₁ Bd hml0 hP hK
  obtain ⟨rfl, hZ, hh, HC⟩ := hP
  have hx := Bd.exec
  have hby := Bd.bytes
  have hml : c.maxLocals = 1 := hml0
  have hown : s.vm.findClass "com/example/portunus/portunus/lock/LockName" = some m.cls := findClass_of_methodNamed Bd.named
  have hnm := (name_of_methodNamed Bd.named Bd.method).1
  have X0 : Stand p l e ({ frames := 4, cells := 2, slots := 24, locals := 61 } : Room) s m #[(.int (47 : Int32))] below meth c s₁ [] 0 0 := Stand.of_body Bd
  have e0 : s₁.heap = h0 := by rw [← hh, Bd.state]; rfl
  have N0 := Fr.nil n0
  have pre0 : ∀ tq_, Steps p.tables e below (s₁.setTop (mkF m 0 #[.val (.int (47 : Int32))] [])) tq_ → Steps p.tables e below (s₁.setTop (entryFrame m #[(.int (47 : Int32))] 1)) tq_ := fun tq_ kt_ => castTop (ef_m18_4 m wcs EL ) kt_
  obtain ⟨li1, T1, h1, k1, b1, kb1, X1, e1, E1, hS1, hk1, hZ, hown, EX1, FC1, FV1, AV1, la1, lb1, C1, Lt1, ne1, st1⟩ := ldcCH (s := s) (vm0 := s.vm) (EL := EL) X0 hx hZ hown (wk hw 120 rfl) (own_wS hw) e0 ((State.WarmedH.refl s).since 0) (Nat.zero_le _) hEL hm82 HC (vs := [(.int (46 : Int32)), (.int (95 : Int32)), (.int (45 : Int32)), (.int (58 : Int32)), (.int (47 : Int32))]) (z := (5 : Int32)) ⟨by decide, by decide⟩ (by decide) (by decide) (g := (mkF m 36 #[.val (.int (47 : Int32))] [])) rfl (hb hby d18_36) (n := 20) (by decide) (by decide) (nle rfl) (nle rfl)
  have CR1 := C1
  have K2 : Keep h0 h1 [] := (Keep.refl h0 []).ext E1
  have F4 := (S_CS.ext E1)
  obtain ⟨cq3, kq3, qa3, qb3, qc3⟩ := isOf hZ e1 EX1
  obtain ⟨_, _, ⟨T3, L3, kk3, nn3⟩, -, X3, ⟨Lc3, hQ3, l3, y3, z3⟩, st3⟩ := X1.virtualBack hx (y := (⟨"java/lang/String", "indexOf", "(I)I"⟩ : MethodName)) (z := (⟨"java/lang/String", "indexOf", "(I)I"⟩ : MethodName)) hown (mvT hZ (wk hw 121 rfl)) (mvT hZ (wk hw 122 rfl)) (notFace_of_selects (args := #[]) (mvT hZ (wk hw 124 rfl))) (mvT hZ (wk hw 124 rfl)) (mvT hZ (wk hw 123 rfl)) (by decide) (backOf (W := 0) (m25 l Z a0 hw [] li1 b1 kb1 (47 : Int32) (4 : Int32) wcs h1 n0 (Nat.le_trans Z0 K2.1) EX1 FC1 FV1 AV1 (by decide) F4 ncs) hZ (wk hw 125 rfl) (wk hw 10 rfl) (by decide) (by decide)) qa3 qc3 (g := (mkF m 39 #[.val (.int (47 : Int32))] [(.int (47 : Int32)), (.ref li1)])) rfl (by rw [hml]; rfl) (Steps.refl _) (argsL := [(.int (47 : Int32))]) (rest := []) (lenOf pdx__I_I rfl) rfl (by show 2 * 0 + _ ≤ _; exact Nat.le_of_eq rfl) (hb hby d18_39) (fun _ _ => ⟨rfl, e1, nle rfl, nle rfl⟩)
  dsimp only [Pt.U, Pt.locs, Pt.cells, Pt.slots] at X3 l3 y3 z3 st3 hQ3
  subst l3 y3 z3
  obtain ⟨rfl, Nq3, e3⟩ := hQ3
  have N3 := Fr.app N0 Nq3
  obtain ⟨fs, hr, hrun, hended, hWW⟩ := leaveW (s := s) X3 hS1 (by rw [e3]; exact hk1) (v := some (.int (1 : Int32))) (fun h => by rw [Bd.returns] at h; cases h)
  refine ⟨_, _, pre0 _ ?_, hrun, hended, _, _, rfl, ?_, ?_, ⟨hWW.1, hWW.2.1, hWW.2.2.1, hWW.2.2.2.mono (nle rfl) (nle rfl)⟩⟩
  · show Steps p.tables e below (s₁.setTop (mkF m 0 #[.val (.int (47 : Int32))] [])) _
    refine XS.iloadN X0.here hx rfl (hb hby d18_0) rfl ?_
    show Steps p.tables e below (s₁.setTop (mkF m 1 #[.val (.int (47 : Int32))] [(.int (47 : Int32))])) _
    refine XS.bipush X0.here hx rfl (hb hby d18_1) ?_
    show Steps p.tables e below (s₁.setTop (mkF m 3 #[.val (.int (47 : Int32))] [(.int (97 : Int32)), (.int (47 : Int32))])) _
    refine XS.icmpYes X0.here hx rfl (pc0 := 3) (pc' := 12) rfl (hb hby d18_3) rfl (tlt (by decide : (47 : Int32) < (97 : Int32))).1 (by decide) (by decide) ?_
    show Steps p.tables e below (s₁.setTop (mkF m 12 #[.val (.int (47 : Int32))] [])) _
    refine XS.iloadN X0.here hx rfl (hb hby d18_12) rfl ?_
    show Steps p.tables e below (s₁.setTop (mkF m 13 #[.val (.int (47 : Int32))] [(.int (47 : Int32))])) _
    refine XS.bipush X0.here hx rfl (hb hby d18_13) ?_
    show Steps p.tables e below (s₁.setTop (mkF m 15 #[.val (.int (47 : Int32))] [(.int (65 : Int32)), (.int (47 : Int32))])) _
    refine XS.icmpYes X0.here hx rfl (pc0 := 15) (pc' := 24) rfl (hb hby d18_15) rfl (tlt (by decide : (47 : Int32) < (65 : Int32))).1 (by decide) (by decide) ?_
    show Steps p.tables e below (s₁.setTop (mkF m 24 #[.val (.int (47 : Int32))] [])) _
    refine XS.iloadN X0.here hx rfl (hb hby d18_24) rfl ?_
    show Steps p.tables e below (s₁.setTop (mkF m 25 #[.val (.int (47 : Int32))] [(.int (47 : Int32))])) _
    refine XS.bipush X0.here hx rfl (hb hby d18_25) ?_
    show Steps p.tables e below (s₁.setTop (mkF m 27 #[.val (.int (47 : Int32))] [(.int (48 : Int32)), (.int (47 : Int32))])) _
    refine XS.icmpYes X0.here hx rfl (pc0 := 27) (pc' := 36) rfl (hb hby d18_27) rfl (tlt (by decide : (47 : Int32) < (48 : Int32))).1 (by decide) (by decide) ?_
    show Steps p.tables e below (s₁.setTop (mkF m 36 #[.val (.int (47 : Int32))] [])) _
    refine st1 _ ?_
    show Steps p.tables e below (T1.setTop (mkF m 38 #[.val (.int (47 : Int32))] [(.ref li1)])) _
    refine XS.iloadN X1.here hx rfl (hb hby d18_38) rfl ?_
    show Steps p.tables e below (T1.setTop (mkF m 39 #[.val (.int (47 : Int32))] [(.int (47 : Int32)), (.ref li1)])) _
    refine st3.trans ?_
    show Steps p.tables e below (T3.setTop (mkF m 42 #[.val (.int (47 : Int32))] [(.int (4 : Int32))])) _
    refine XS.ifNo X3.here hx rfl (hb hby d18_42) rfl ((if0 _ _).trans (flt (by decide : ¬ ((4 : Int32) < (0 : Int32)))).1) ?_
    show Steps p.tables e below (T3.setTop (mkF m 45 #[.val (.int (47 : Int32))] [])) _
    refine XS.iconst X3.here hx rfl (hb hby d18_45) ?_
    show Steps p.tables e below (T3.setTop (mkF m 46 #[.val (.int (47 : Int32))] [(.int (1 : Int32))])) _
    refine XS.goto X3.here hx rfl (pc0 := 46) (pc' := 50) rfl (hb hby d18_46) (by decide) (by decide) ?_
    show Steps p.tables e below (T3.setTop (mkF m 50 #[.val (.int (47 : Int32))] [(.int (1 : Int32))])) _
    exact own_retN X3 hx (t := .boolean) rfl Bd.returns (by simp) (hb hby d18_50) hr
  · show Q_m18_4 Z wcs EL h0 n0 _ T3.heap _
    rw [e3]
    exact ⟨rfl, N3, K2⟩
  · show CHr Z EL s.vm s.heap T3.vm T3.heap
    rw [e3, hh]
    exact CR1.trans (CHv.at (s := s) (vm0 := T1.vm) X3 hZ hEL CR1.1)
theorem d18_6 : decode prog_10_method_6_code 6 = .ok (.iload_n 0, 1) := by decide +kernel
theorem d18_7 : decode prog_10_method_6_code 7 = .ok (.bipush 122, 2) := by decide +kernel
theorem d18_9 : decode prog_10_method_6_code 9 = .ok (.if_icmp .le 36, 3) := by decide +kernel
def Q_m18a (Z : State) (x : Int32) (EL : List (String × Nat)) (h0 : Heap) (n0 : Nat) (v : Option Value) (h : Heap) (L : List Loc) : Prop := v = (some (.int (1 : Int32))) ∧ Fr n0 L ∧ Keep h0 h []
theorem ef_m18a (m : MethodId) (x : Int32) (EL : List (String × Nat)) : entryFrame m #[(.int x)] 1 = mkF m 0 #[.val (.int x)] [] := by first | (simp [entryFrame, mkF, argsToLocals, Value.category]; done) | rfl
set_option maxRecDepth 65536 in
set_option maxHeartbeats 40000000 in
theorem m18a (l : Launch) (Z : State) (a0 : Array Value) (hw : ∀ d ∈ tables_1, d.before a0 Z = true) (ws : List Jvm.Cond) (x : Int32) (EL : List (String × Nat)) (h0 : Heap) (n0 : Nat) (Z0 : n0 ≤ h0.size) (hEL : EW Z a0 EL) (h1 : ¬ (x < (97 : Int32))) (h2 : ¬ ((122 : Int32) < x)) :
    MetFree l (⟨"com/example/portunus/portunus/lock/LockName", "allowed", "(I)Z"⟩ : MethodName) (head1 (Jvm.Cond.code (⟨"com/example/portunus/portunus/lock/LockName", "allowed", "(I)Z"⟩ : MethodName) prog_10_method_6_code 1 (some .boolean) :: ws) ({ frames := 4, cells := 2, slots := 24, locals := 61 } : Room)) (fun ar_ U => ar_ = #[(.int x)] ∧ Z.Warmed39 U.vm ∧ U.heap = h0 ∧ CHv Z EL U.vm h0) (fun _ _ _ _ _ => True) (fun _ U o U' => ∃ v L, o = .returned v ∧ Q_m18a Z x EL h0 n0 v U'.heap L ∧ CHr Z EL U.vm U.heap U'.vm U'.heap ∧ ReturnedEndW U o U' L ({ frames := 4, cells := 2, slots := 24, locals := 61 } : Room).cells ({ frames := 4, cells := 2, slots := 24, locals := 61 } : Room).slots) := by
  refine MetFree.of_bodySF (plainFor_of_name pnx_com_example_portunus_portunus_lock_LockName) hisR ?_
  intro p e s m args below meth c s₁ Bd hml0 hP hK
  obtain ⟨rfl, hZ, hh, HC⟩ := hP
  have hx := Bd.exec
  have hby := Bd.bytes
  have hml : c.maxLocals = 1 := hml0
  have hown : s.vm.findClass "com/example/portunus/portunus/lock/LockName" = some m.cls := findClass_of_methodNamed Bd.named
  have hnm := (name_of_methodNamed Bd.named Bd.method).1
  have X0 : Stand p l e ({ frames := 4, cells := 2, slots := 24, locals := 61 } : Room) s m #[(.int x)] below meth c s₁ [] 0 0 := Stand.of_body Bd
  have e0 : s₁.heap = h0 := by rw [← hh, Bd.state]; rfl
  have N0 := Fr.nil n0
  have pre0 : ∀ tq_, Steps p.tables e below (s₁.setTop (mkF m 0 #[.val (.int x)] [])) tq_ → Steps p.tables e below (s₁.setTop (entryFrame m #[(.int x)] 1)) tq_ := fun tq_ kt_ => castTop (ef_m18a m x EL ) kt_
  obtain ⟨fs, hr, hrun, hended, hWW⟩ := leaveW (s := s) X0 ((State.WarmedH.refl s).since 0) (Nat.zero_le _) (v := some (.int (1 : Int32))) (fun h => by rw [Bd.returns] at h; cases h)
  refine ⟨_, _, pre0 _ ?_, hrun, hended, _, _, rfl, ?_, ?_, ⟨hWW.1, hWW.2.1, hWW.2.2.1, hWW.2.2.2.mono (nle rfl) (nle rfl)⟩⟩
  · show Steps p.tables e below (s₁.setTop (mkF m 0 #[.val (.int x)] [])) _
    refine XS.iloadN X0.here hx rfl (hb hby d18_0) rfl ?_
    show Steps p.tables e below (s₁.setTop (mkF m 1 #[.val (.int x)] [(.int x)])) _
    refine XS.bipush X0.here hx rfl (hb hby d18_1) ?_
    show Steps p.tables e below (s₁.setTop (mkF m 3 #[.val (.int x)] [(.int (97 : Int32)), (.int x)])) _
    refine XS.icmpNo X0.here hx rfl (hb hby d18_3) rfl (flt (h1 : ¬ (x < (97 : Int32)))).1 ?_
    show Steps p.tables e below (s₁.setTop (mkF m 6 #[.val (.int x)] [])) _
    refine XS.iloadN X0.here hx rfl (hb hby d18_6) rfl ?_
    show Steps p.tables e below (s₁.setTop (mkF m 7 #[.val (.int x)] [(.int x)])) _
    refine XS.bipush X0.here hx rfl (hb hby d18_7) ?_
    show Steps p.tables e below (s₁.setTop (mkF m 9 #[.val (.int x)] [(.int (122 : Int32)), (.int x)])) _
    refine XS.icmpYes X0.here hx rfl (pc0 := 9) (pc' := 45) rfl (hb hby d18_9) rfl (flt (h2 : ¬ ((122 : Int32) < x))).2.2.2 (by decide) (by decide) ?_
    show Steps p.tables e below (s₁.setTop (mkF m 45 #[.val (.int x)] [])) _
    refine XS.iconst X0.here hx rfl (hb hby d18_45) ?_
    show Steps p.tables e below (s₁.setTop (mkF m 46 #[.val (.int x)] [(.int (1 : Int32))])) _
    refine XS.goto X0.here hx rfl (pc0 := 46) (pc' := 50) rfl (hb hby d18_46) (by decide) (by decide) ?_
    show Steps p.tables e below (s₁.setTop (mkF m 50 #[.val (.int x)] [(.int (1 : Int32))])) _
    exact own_retN X0 hx (t := .boolean) rfl Bd.returns (by simp) (hb hby d18_50) hr
  · show Q_m18a Z x EL h0 n0 _ s₁.heap _
    rw [e0]
    exact ⟨rfl, N0, (Keep.refl h0 [])⟩
  · show CHr Z EL s.vm s.heap s₁.vm s₁.heap
    rw [e0, hh]
    exact (CHv.at (s := s) (vm0 := s.vm) X0 hZ hEL HC)
def Q_m18b (Z : State) (x : Int32) (EL : List (String × Nat)) (h0 : Heap) (n0 : Nat) (v : Option Value) (h : Heap) (L : List Loc) : Prop := v = (some (.int (1 : Int32))) ∧ Fr n0 L ∧ Keep h0 h []
theorem ef_m18b (m : MethodId) (x : Int32) (EL : List (String × Nat)) : entryFrame m #[(.int x)] 1 = mkF m 0 #[.val (.int x)] [] := by first | (simp [entryFrame, mkF, argsToLocals, Value.category]; done) | rfl
set_option maxRecDepth 65536 in
set_option maxHeartbeats 40000000 in
theorem m18b (l : Launch) (Z : State) (a0 : Array Value) (hw : ∀ d ∈ tables_1, d.before a0 Z = true) (ws : List Jvm.Cond) (x : Int32) (EL : List (String × Nat)) (h0 : Heap) (n0 : Nat) (Z0 : n0 ≤ h0.size) (hEL : EW Z a0 EL) (h1 : ¬ (x < (65 : Int32))) (h2 : ¬ ((90 : Int32) < x)) :
    MetFree l (⟨"com/example/portunus/portunus/lock/LockName", "allowed", "(I)Z"⟩ : MethodName) (head1 (Jvm.Cond.code (⟨"com/example/portunus/portunus/lock/LockName", "allowed", "(I)Z"⟩ : MethodName) prog_10_method_6_code 1 (some .boolean) :: ws) ({ frames := 4, cells := 2, slots := 24, locals := 61 } : Room)) (fun ar_ U => ar_ = #[(.int x)] ∧ Z.Warmed39 U.vm ∧ U.heap = h0 ∧ CHv Z EL U.vm h0) (fun _ _ _ _ _ => True) (fun _ U o U' => ∃ v L, o = .returned v ∧ Q_m18b Z x EL h0 n0 v U'.heap L ∧ CHr Z EL U.vm U.heap U'.vm U'.heap ∧ ReturnedEndW U o U' L ({ frames := 4, cells := 2, slots := 24, locals := 61 } : Room).cells ({ frames := 4, cells := 2, slots := 24, locals := 61 } : Room).slots) := by
  refine MetFree.of_bodySF (plainFor_of_name pnx_com_example_portunus_portunus_lock_LockName) hisR ?_
  intro p e s m args below meth c s₁ Bd hml0 hP hK
  obtain ⟨rfl, hZ, hh, HC⟩ := hP
  have hx := Bd.exec
  have hby := Bd.bytes
  have hml : c.maxLocals = 1 := hml0
  have hown : s.vm.findClass "com/example/portunus/portunus/lock/LockName" = some m.cls := findClass_of_methodNamed Bd.named
  have hnm := (name_of_methodNamed Bd.named Bd.method).1
  have X0 : Stand p l e ({ frames := 4, cells := 2, slots := 24, locals := 61 } : Room) s m #[(.int x)] below meth c s₁ [] 0 0 := Stand.of_body Bd
  have e0 : s₁.heap = h0 := by rw [← hh, Bd.state]; rfl
  have N0 := Fr.nil n0
  have pre0 : ∀ tq_, Steps p.tables e below (s₁.setTop (mkF m 0 #[.val (.int x)] [])) tq_ → Steps p.tables e below (s₁.setTop (entryFrame m #[(.int x)] 1)) tq_ := fun tq_ kt_ => castTop (ef_m18b m x EL ) kt_
  obtain ⟨fs, hr, hrun, hended, hWW⟩ := leaveW (s := s) X0 ((State.WarmedH.refl s).since 0) (Nat.zero_le _) (v := some (.int (1 : Int32))) (fun h => by rw [Bd.returns] at h; cases h)
  refine ⟨_, _, pre0 _ ?_, hrun, hended, _, _, rfl, ?_, ?_, ⟨hWW.1, hWW.2.1, hWW.2.2.1, hWW.2.2.2.mono (nle rfl) (nle rfl)⟩⟩
  · show Steps p.tables e below (s₁.setTop (mkF m 0 #[.val (.int x)] [])) _
    refine XS.iloadN X0.here hx rfl (hb hby d18_0) rfl ?_
    show Steps p.tables e below (s₁.setTop (mkF m 1 #[.val (.int x)] [(.int x)])) _
    refine XS.bipush X0.here hx rfl (hb hby d18_1) ?_
    show Steps p.tables e below (s₁.setTop (mkF m 3 #[.val (.int x)] [(.int (97 : Int32)), (.int x)])) _
    refine XS.icmpYes X0.here hx rfl (pc0 := 3) (pc' := 12) rfl (hb hby d18_3) rfl (tlt ((own_b65 h2) : x < (97 : Int32))).1 (by decide) (by decide) ?_
    show Steps p.tables e below (s₁.setTop (mkF m 12 #[.val (.int x)] [])) _
    refine XS.iloadN X0.here hx rfl (hb hby d18_12) rfl ?_
    show Steps p.tables e below (s₁.setTop (mkF m 13 #[.val (.int x)] [(.int x)])) _
    refine XS.bipush X0.here hx rfl (hb hby d18_13) ?_
    show Steps p.tables e below (s₁.setTop (mkF m 15 #[.val (.int x)] [(.int (65 : Int32)), (.int x)])) _
    refine XS.icmpNo X0.here hx rfl (hb hby d18_15) rfl (flt (h1 : ¬ (x < (65 : Int32)))).1 ?_
    show Steps p.tables e below (s₁.setTop (mkF m 18 #[.val (.int x)] [])) _
    refine XS.iloadN X0.here hx rfl (hb hby d18_18) rfl ?_
    show Steps p.tables e below (s₁.setTop (mkF m 19 #[.val (.int x)] [(.int x)])) _
    refine XS.bipush X0.here hx rfl (hb hby d18_19) ?_
    show Steps p.tables e below (s₁.setTop (mkF m 21 #[.val (.int x)] [(.int (90 : Int32)), (.int x)])) _
    refine XS.icmpYes X0.here hx rfl (pc0 := 21) (pc' := 45) rfl (hb hby d18_21) rfl (flt (h2 : ¬ ((90 : Int32) < x))).2.2.2 (by decide) (by decide) ?_
    show Steps p.tables e below (s₁.setTop (mkF m 45 #[.val (.int x)] [])) _
    refine XS.iconst X0.here hx rfl (hb hby d18_45) ?_
    show Steps p.tables e below (s₁.setTop (mkF m 46 #[.val (.int x)] [(.int (1 : Int32))])) _
    refine XS.goto X0.here hx rfl (pc0 := 46) (pc' := 50) rfl (hb hby d18_46) (by decide) (by decide) ?_
    show Steps p.tables e below (s₁.setTop (mkF m 50 #[.val (.int x)] [(.int (1 : Int32))])) _
    exact own_retN X0 hx (t := .boolean) rfl Bd.returns (by simp) (hb hby d18_50) hr
  · show Q_m18b Z x EL h0 n0 _ s₁.heap _
    rw [e0]
    exact ⟨rfl, N0, (Keep.refl h0 [])⟩
  · show CHr Z EL s.vm s.heap s₁.vm s₁.heap
    rw [e0, hh]
    exact (CHv.at (s := s) (vm0 := s.vm) X0 hZ hEL HC)
def Q_m18c (Z : State) (x : Int32) (EL : List (String × Nat)) (h0 : Heap) (n0 : Nat) (v : Option Value) (h : Heap) (L : List Loc) : Prop := v = (some (.int (1 : Int32))) ∧ Fr n0 L ∧ Keep h0 h []
theorem ef_m18c (m : MethodId) (x : Int32) (EL : List (String × Nat)) : entryFrame m #[(.int x)] 1 = mkF m 0 #[.val (.int x)] [] := by first | (simp [entryFrame, mkF, argsToLocals, Value.category]; done) | rfl
set_option maxRecDepth 65536 in
set_option maxHeartbeats 40000000 in
theorem m18c (l : Launch) (Z : State) (a0 : Array Value) (hw : ∀ d ∈ tables_1, d.before a0 Z = true) (ws : List Jvm.Cond) (x : Int32) (EL : List (String × Nat)) (h0 : Heap) (n0 : Nat) (Z0 : n0 ≤ h0.size) (hEL : EW Z a0 EL) (h1 : ¬ (x < (48 : Int32))) (h2 : ¬ ((57 : Int32) < x)) :
    MetFree l (⟨"com/example/portunus/portunus/lock/LockName", "allowed", "(I)Z"⟩ : MethodName) (head1 (Jvm.Cond.code (⟨"com/example/portunus/portunus/lock/LockName", "allowed", "(I)Z"⟩ : MethodName) prog_10_method_6_code 1 (some .boolean) :: ws) ({ frames := 4, cells := 2, slots := 24, locals := 61 } : Room)) (fun ar_ U => ar_ = #[(.int x)] ∧ Z.Warmed39 U.vm ∧ U.heap = h0 ∧ CHv Z EL U.vm h0) (fun _ _ _ _ _ => True) (fun _ U o U' => ∃ v L, o = .returned v ∧ Q_m18c Z x EL h0 n0 v U'.heap L ∧ CHr Z EL U.vm U.heap U'.vm U'.heap ∧ ReturnedEndW U o U' L ({ frames := 4, cells := 2, slots := 24, locals := 61 } : Room).cells ({ frames := 4, cells := 2, slots := 24, locals := 61 } : Room).slots) := by
  refine MetFree.of_bodySF (plainFor_of_name pnx_com_example_portunus_portunus_lock_LockName) hisR ?_
  intro p e s m args below meth c s₁ Bd hml0 hP hK
  obtain ⟨rfl, hZ, hh, HC⟩ := hP
  have hx := Bd.exec
  have hby := Bd.bytes
  have hml : c.maxLocals = 1 := hml0
  have hown : s.vm.findClass "com/example/portunus/portunus/lock/LockName" = some m.cls := findClass_of_methodNamed Bd.named
  have hnm := (name_of_methodNamed Bd.named Bd.method).1
  have X0 : Stand p l e ({ frames := 4, cells := 2, slots := 24, locals := 61 } : Room) s m #[(.int x)] below meth c s₁ [] 0 0 := Stand.of_body Bd
  have e0 : s₁.heap = h0 := by rw [← hh, Bd.state]; rfl
  have N0 := Fr.nil n0
  have pre0 : ∀ tq_, Steps p.tables e below (s₁.setTop (mkF m 0 #[.val (.int x)] [])) tq_ → Steps p.tables e below (s₁.setTop (entryFrame m #[(.int x)] 1)) tq_ := fun tq_ kt_ => castTop (ef_m18c m x EL ) kt_
  obtain ⟨fs, hr, hrun, hended, hWW⟩ := leaveW (s := s) X0 ((State.WarmedH.refl s).since 0) (Nat.zero_le _) (v := some (.int (1 : Int32))) (fun h => by rw [Bd.returns] at h; cases h)
  refine ⟨_, _, pre0 _ ?_, hrun, hended, _, _, rfl, ?_, ?_, ⟨hWW.1, hWW.2.1, hWW.2.2.1, hWW.2.2.2.mono (nle rfl) (nle rfl)⟩⟩
  · show Steps p.tables e below (s₁.setTop (mkF m 0 #[.val (.int x)] [])) _
    refine XS.iloadN X0.here hx rfl (hb hby d18_0) rfl ?_
    show Steps p.tables e below (s₁.setTop (mkF m 1 #[.val (.int x)] [(.int x)])) _
    refine XS.bipush X0.here hx rfl (hb hby d18_1) ?_
    show Steps p.tables e below (s₁.setTop (mkF m 3 #[.val (.int x)] [(.int (97 : Int32)), (.int x)])) _
    refine XS.icmpYes X0.here hx rfl (pc0 := 3) (pc' := 12) rfl (hb hby d18_3) rfl (tlt ((own_b48 h2).1 : x < (97 : Int32))).1 (by decide) (by decide) ?_
    show Steps p.tables e below (s₁.setTop (mkF m 12 #[.val (.int x)] [])) _
    refine XS.iloadN X0.here hx rfl (hb hby d18_12) rfl ?_
    show Steps p.tables e below (s₁.setTop (mkF m 13 #[.val (.int x)] [(.int x)])) _
    refine XS.bipush X0.here hx rfl (hb hby d18_13) ?_
    show Steps p.tables e below (s₁.setTop (mkF m 15 #[.val (.int x)] [(.int (65 : Int32)), (.int x)])) _
    refine XS.icmpYes X0.here hx rfl (pc0 := 15) (pc' := 24) rfl (hb hby d18_15) rfl (tlt ((own_b48 h2).2 : x < (65 : Int32))).1 (by decide) (by decide) ?_
    show Steps p.tables e below (s₁.setTop (mkF m 24 #[.val (.int x)] [])) _
    refine XS.iloadN X0.here hx rfl (hb hby d18_24) rfl ?_
    show Steps p.tables e below (s₁.setTop (mkF m 25 #[.val (.int x)] [(.int x)])) _
    refine XS.bipush X0.here hx rfl (hb hby d18_25) ?_
    show Steps p.tables e below (s₁.setTop (mkF m 27 #[.val (.int x)] [(.int (48 : Int32)), (.int x)])) _
    refine XS.icmpNo X0.here hx rfl (hb hby d18_27) rfl (flt (h1 : ¬ (x < (48 : Int32)))).1 ?_
    show Steps p.tables e below (s₁.setTop (mkF m 30 #[.val (.int x)] [])) _
    refine XS.iloadN X0.here hx rfl (hb hby d18_30) rfl ?_
    show Steps p.tables e below (s₁.setTop (mkF m 31 #[.val (.int x)] [(.int x)])) _
    refine XS.bipush X0.here hx rfl (hb hby d18_31) ?_
    show Steps p.tables e below (s₁.setTop (mkF m 33 #[.val (.int x)] [(.int (57 : Int32)), (.int x)])) _
    refine XS.icmpYes X0.here hx rfl (pc0 := 33) (pc' := 45) rfl (hb hby d18_33) rfl (flt (h2 : ¬ ((57 : Int32) < x))).2.2.2 (by decide) (by decide) ?_
    show Steps p.tables e below (s₁.setTop (mkF m 45 #[.val (.int x)] [])) _
    refine XS.iconst X0.here hx rfl (hb hby d18_45) ?_
    show Steps p.tables e below (s₁.setTop (mkF m 46 #[.val (.int x)] [(.int (1 : Int32))])) _
    refine XS.goto X0.here hx rfl (pc0 := 46) (pc' := 50) rfl (hb hby d18_46) (by decide) (by decide) ?_
    show Steps p.tables e below (s₁.setTop (mkF m 50 #[.val (.int x)] [(.int (1 : Int32))])) _
    exact own_retN X0 hx (t := .boolean) rfl Bd.returns (by simp) (hb hby d18_50) hr
  · show Q_m18c Z x EL h0 n0 _ s₁.heap _
    rw [e0]
    exact ⟨rfl, N0, (Keep.refl h0 [])⟩
  · show CHr Z EL s.vm s.heap s₁.vm s₁.heap
    rw [e0, hh]
    exact (CHv.at (s := s) (vm0 := s.vm) X0 hZ hEL HC)
def Q_18 (h0 : Heap) (n0 : Nat) (v : Option Value) (h : Heap) (L : List Loc) : Prop := v = (some (.int (1 : Int32))) ∧ Fr n0 L ∧ Keep h0 h []
theorem own_m18 (l : Launch) (Z : State) (a0 : Array Value) (hw : ∀ d ∈ tables_1, d.before a0 Z = true) (ws : List Jvm.Cond) (x : Int32) (wcs : Int32) (EL : List (String × Nat)) (h0 : Heap) (n0 : Nat) (Z0 : n0 ≤ h0.size) (S_CS : Sta Z h0 "java/lang/String" "COMPACT_STRINGS" "Z" (.int wcs)) (ncs : ¬ (wcs = (0 : Int32))) (hEL : EW Z a0 EL) (hm82 : (("com/example/portunus/portunus/lock/LockName", 82) : String × Nat) ∈ EL) (al : own_al x) :
    MetFree l (⟨"com/example/portunus/portunus/lock/LockName", "allowed", "(I)Z"⟩ : MethodName) (head1 (Jvm.Cond.code (⟨"com/example/portunus/portunus/lock/LockName", "allowed", "(I)Z"⟩ : MethodName) prog_10_method_6_code 1 (some .boolean) :: ws) ({ frames := 4, cells := 2, slots := 24, locals := 61 } : Room)) (fun ar_ U => ar_ = #[(.int x)] ∧ Z.Warmed39 U.vm ∧ U.heap = h0 ∧ CHv Z EL U.vm h0) (fun _ _ _ _ _ => True) (fun _ U o U' => ∃ v L, o = .returned v ∧ Q_18 h0 n0 v U'.heap L ∧ CHr Z EL U.vm U.heap U'.vm U'.heap ∧ ReturnedEndW U o U' L ({ frames := 4, cells := 2, slots := 24, locals := 61 } : Room).cells ({ frames := 4, cells := 2, slots := 24, locals := 61 } : Room).slots) := by
  rcases al with ⟨h1, h2⟩ | ⟨h1, h2⟩ | ⟨h1, h2⟩ | rfl | rfl | rfl | rfl | rfl
  · exact m18a l Z a0 hw ws x EL h0 n0 Z0 hEL h1 h2
  · exact m18b l Z a0 hw ws x EL h0 n0 Z0 hEL h1 h2
  · exact m18c l Z a0 hw ws x EL h0 n0 Z0 hEL h1 h2
  · exact m18_0 l Z a0 hw ws wcs EL h0 n0 Z0 S_CS ncs hEL hm82
  · exact m18_1 l Z a0 hw ws wcs EL h0 n0 Z0 S_CS ncs hEL hm82
  · exact m18_2 l Z a0 hw ws wcs EL h0 n0 Z0 S_CS ncs hEL hm82
  · exact m18_3 l Z a0 hw ws wcs EL h0 n0 Z0 S_CS ncs hEL hm82
  · exact m18_4 l Z a0 hw ws wcs EL h0 n0 Z0 S_CS ncs hEL hm82
theorem d20_0 : decode prog_10_method_1_code 0 = .ok (.aload_n 0, 1) := by decide +kernel
theorem d20_1 : decode prog_10_method_1_code 1 = .ok (.invokespecial 1, 3) := by decide +kernel
theorem d20_4 : decode prog_10_method_1_code 4 = .ok (.aload_n 0, 1) := by decide +kernel
theorem d20_5 : decode prog_10_method_1_code 5 = .ok (.aload_n 1, 1) := by decide +kernel
theorem d20_6 : decode prog_10_method_1_code 6 = .ok (.putfield 7, 3) := by decide +kernel
theorem d20_9 : decode prog_10_method_1_code 9 = .ok (.return_, 1) := by decide +kernel
def Q_m20 (Z : State) (b : Addr) (a : Addr) (u : Value) (h0 : Heap) (n0 : Nat) (v : Option Value) (h : Heap) (L : List Loc) : Prop := v = none ∧ Fr n0 L ∧ Keep h0 h [b] ∧ Exa Z h b "com/example/portunus/portunus/lock/LockName" ∧ Fld Z h b "com/example/portunus/portunus/lock/LockName" "text" "Ljava/lang/String;" (.ref a)
theorem ef_m20 (m : MethodId) (b : Addr) (a : Addr) (u : Value) : entryFrame m #[(.ref b), (.ref a)] 2 = mkF m 0 #[.val (.ref b), .val (.ref a)] [] := by first | (simp [entryFrame, mkF, argsToLocals, Value.category]; done) | rfl
set_option maxRecDepth 65536 in
set_option maxHeartbeats 40000000 in
theorem m20 (l : Launch) (Z : State) (a0 : Array Value) (hw : ∀ d ∈ tables_1, d.before a0 Z = true) (ws : List Jvm.Cond) (b : Addr) (a : Addr) (u : Value) (h0 : Heap) (n0 : Nat) (Z0 : n0 ≤ h0.size) (E_b : Exa Z h0 b "com/example/portunus/portunus/lock/LockName") (F1 : Fld Z h0 b "com/example/portunus/portunus/lock/LockName" "text" "Ljava/lang/String;" u) (gb : n0 ≤ b) :
    MetFree l (⟨"com/example/portunus/portunus/lock/LockName", "<init>", "(Ljava/lang/String;)V"⟩ : MethodName) (head1 (Jvm.Cond.code (⟨"com/example/portunus/portunus/lock/LockName", "<init>", "(Ljava/lang/String;)V"⟩ : MethodName) prog_10_method_1_code 2 none :: ws) ({ frames := 1, cells := 0, slots := 0, locals := 12 } : Room)) (fun ar_ U => ar_ = #[(.ref b), (.ref a)] ∧ Z.Warmed39 U.vm ∧ U.heap = h0) (fun _ _ _ _ _ => True) (fun _ U o U' => ∃ v L, o = .returned v ∧ Q_m20 Z b a u h0 n0 v U'.heap L ∧ FrameEnd U o U' L ({ frames := 1, cells := 0, slots := 0, locals := 12 } : Room).cells ({ frames := 1, cells := 0, slots := 0, locals := 12 } : Room).slots) := by
  refine MetFree.of_bodySF (plainFor_of_name pnx_com_example_portunus_portunus_lock_LockName) hisR ?_
  intro p e s m args below meth c s₁ Bd hml0 hP hK
  obtain ⟨rfl, hZ, hh⟩ := hP
  have hx := Bd.exec
  have hby := Bd.bytes
  have hml : c.maxLocals = 2 := hml0
  have hown : s.vm.findClass "com/example/portunus/portunus/lock/LockName" = some m.cls := findClass_of_methodNamed Bd.named
  have hnm := (name_of_methodNamed Bd.named Bd.method).1
  have X0 : Stand p l e ({ frames := 1, cells := 0, slots := 0, locals := 12 } : Room) s m #[(.ref b), (.ref a)] below meth c s₁ [] 0 0 := Stand.of_body Bd
  have e0 : s₁.heap = h0 := by rw [← hh, Bd.state]; rfl
  have N0 := Fr.nil n0
  have pre0 : ∀ tq_, Steps p.tables e below (s₁.setTop (mkF m 0 #[.val (.ref b), .val (.ref a)] [])) tq_ → Steps p.tables e below (s₁.setTop (entryFrame m #[(.ref b), (.ref a)] 2)) tq_ := fun tq_ kt_ => castTop (ef_m20 m b a u ) kt_
  obtain ⟨T1, X1, e1, st1⟩ := initO X0 hx hZ hown (wk hw 95 rfl) (wk hw 20 rfl) (wk hw 21 rfl) e0 (g := (mkF m 1 #[.val (.ref b), .val (.ref a)] [(.ref b)])) rfl (by rw [hml]; rfl) rfl (hb hby d20_1) (by decide) (W := 0) (by show 2 * 0 + _ ≤ _; exact Nat.le_of_eq rfl) (by decide)
  obtain ⟨T2, h2, X2, e2, W2, st2⟩ := putF X1 hx hZ hown (host := "") (Or.inl (wk hw 96 rfl)) Via.refl e1 F1 E_b (Or.inr ⟨(wk hw 97 rfl), rfl, hnm⟩) (wk hw 91 rfl) (ty := (.object "java/lang/String")) (by decide) rfl rfl (g := (mkF m 6 #[.val (.ref b), .val (.ref a)] [(.ref a), (.ref b)])) rfl rfl (hb hby d20_6)
  have Fw2 := F1.same W2
  have K3 : Keep h0 h2 [b] := (Keep.refl h0 [b]).wr W2 (Or.inl (by simp))
  have N2 := Fr.snoc X2 N0 gb
  have F4 := (E_b.wr W2)
  obtain ⟨fs, hr, hrun, hended, hW, hsame⟩ := X2.leave (v := none) (fun _ => rfl)
  refine ⟨_, _, pre0 _ ?_, hrun, hended, _, _, rfl, ?_, ⟨_, rfl⟩, hW, hsame.mono (nle rfl) (nle rfl)⟩
  · show Steps p.tables e below (s₁.setTop (mkF m 0 #[.val (.ref b), .val (.ref a)] [])) _
    refine XS.aloadN X0.here hx rfl (hb hby d20_0) rfl rfl ?_
    show Steps p.tables e below (s₁.setTop (mkF m 1 #[.val (.ref b), .val (.ref a)] [(.ref b)])) _
    refine st1 _ ?_
    show Steps p.tables e below (T1.setTop (mkF m 4 #[.val (.ref b), .val (.ref a)] [])) _
    refine XS.aloadN X1.here hx rfl (hb hby d20_4) rfl rfl ?_
    show Steps p.tables e below (T1.setTop (mkF m 5 #[.val (.ref b), .val (.ref a)] [(.ref b)])) _
    refine XS.aloadN X1.here hx rfl (hb hby d20_5) rfl rfl ?_
    show Steps p.tables e below (T1.setTop (mkF m 6 #[.val (.ref b), .val (.ref a)] [(.ref a), (.ref b)])) _
    refine st2 _ ?_
    show Steps p.tables e below (T2.setTop (mkF m 9 #[.val (.ref b), .val (.ref a)] [])) _
    exact X2.returnOut hx Bd.returns (hb hby d20_9) hr
  · show Q_m20 Z b a u h0 n0 _ T2.heap _
    rw [e2]
    exact ⟨rfl, N2, K3, F4, Fw2⟩
theorem d21_0 : decode prog_10_method_3_code 0 = .ok (.aload_n 0, 1) := by decide +kernel
theorem d21_1 : decode prog_10_method_3_code 1 = .ok (.getfield 7, 3) := by decide +kernel
theorem d21_4 : decode prog_10_method_3_code 4 = .ok (.areturn, 1) := by decide +kernel
def Q_m21 (Z : State) (b : Addr) (a : Addr) (h0 : Heap) (n0 : Nat) (v : Option Value) (h : Heap) (L : List Loc) : Prop := v = (some (.ref a)) ∧ Fr n0 L ∧ h = h0
theorem ef_m21 (m : MethodId) (b : Addr) (a : Addr) : entryFrame m #[(.ref b)] 1 = mkF m 0 #[.val (.ref b)] [] := by first | (simp [entryFrame, mkF, argsToLocals, Value.category]; done) | rfl
set_option maxRecDepth 65536 in
set_option maxHeartbeats 40000000 in
theorem m21 (l : Launch) (Z : State) (a0 : Array Value) (hw : ∀ d ∈ tables_1, d.before a0 Z = true) (ws : List Jvm.Cond) (b : Addr) (a : Addr) (h0 : Heap) (n0 : Nat) (Z0 : n0 ≤ h0.size) (F1 : Fld Z h0 b "com/example/portunus/portunus/lock/LockName" "text" "Ljava/lang/String;" (.ref a)) :
    MetFree l (⟨"com/example/portunus/portunus/lock/LockName", "toString", "()Ljava/lang/String;"⟩ : MethodName) (head1 (Jvm.Cond.code (⟨"com/example/portunus/portunus/lock/LockName", "toString", "()Ljava/lang/String;"⟩ : MethodName) prog_10_method_3_code 1 (some (.object "java/lang/String")) :: ws) ({ frames := 0, cells := 0, slots := 0, locals := 0 } : Room)) (fun ar_ U => ar_ = #[(.ref b)] ∧ Z.Warmed39 U.vm ∧ U.heap = h0) (fun _ _ _ _ _ => True) (fun _ U o U' => ∃ v L, o = .returned v ∧ Q_m21 Z b a h0 n0 v U'.heap L ∧ FrameEnd U o U' L ({ frames := 0, cells := 0, slots := 0, locals := 0 } : Room).cells ({ frames := 0, cells := 0, slots := 0, locals := 0 } : Room).slots) := by
  refine MetFree.of_bodySF (plainFor_of_name pnx_com_example_portunus_portunus_lock_LockName) hisR ?_
  intro p e s m args below meth c s₁ Bd hml0 hP hK
  obtain ⟨rfl, hZ, hh⟩ := hP
  have hx := Bd.exec
  have hby := Bd.bytes
  have hml : c.maxLocals = 1 := hml0
  have hown : s.vm.findClass "com/example/portunus/portunus/lock/LockName" = some m.cls := findClass_of_methodNamed Bd.named
  have hnm := (name_of_methodNamed Bd.named Bd.method).1
  have X0 : Stand p l e ({ frames := 0, cells := 0, slots := 0, locals := 0 } : Room) s m #[(.ref b)] below meth c s₁ [] 0 0 := Stand.of_body Bd
  have e0 : s₁.heap = h0 := by rw [← hh, Bd.state]; rfl
  have N0 := Fr.nil n0
  have pre0 : ∀ tq_, Steps p.tables e below (s₁.setTop (mkF m 0 #[.val (.ref b)] [])) tq_ → Steps p.tables e below (s₁.setTop (entryFrame m #[(.ref b)] 1)) tq_ := fun tq_ kt_ => castTop (ef_m21 m b a ) kt_
  obtain ⟨T1, X1, e1, st1⟩ := getF X0 hx hZ hown (host := "") (Or.inl (wk hw 96 rfl)) Via.refl e0 F1 (g := (mkF m 1 #[.val (.ref b)] [(.ref b)])) rfl rfl (hb hby d21_1)
  obtain ⟨fs, hr, hrun, hended, hW, hsame⟩ := X1.leave (v := some (.ref a)) (fun h => by rw [Bd.returns] at h; cases h)
  refine ⟨_, _, pre0 _ ?_, hrun, hended, _, _, rfl, ?_, ⟨_, rfl⟩, hW, hsame.mono (nle rfl) (nle rfl)⟩
  · show Steps p.tables e below (s₁.setTop (mkF m 0 #[.val (.ref b)] [])) _
    refine XS.aloadN X0.here hx rfl (hb hby d21_0) rfl rfl ?_
    show Steps p.tables e below (s₁.setTop (mkF m 1 #[.val (.ref b)] [(.ref b)])) _
    refine st1 _ ?_
    show Steps p.tables e below (T1.setTop (mkF m 4 #[.val (.ref b)] [(.ref a)])) _
    exact X1.areturnOut hx rfl Bd.returns rfl (hb hby d21_4) hr
  · show Q_m21 Z b a h0 n0 _ T1.heap _
    exact ⟨rfl, N0, e1⟩
theorem pdx__Ljava_lang_Object_Ljava_lang_String__Ljava_lang_Object_ : parseMethodDescriptor "(Ljava/lang/Object;Ljava/lang/String;)Ljava/lang/Object;" = some ⟨[(.object "java/lang/Object"), (.object "java/lang/String")], some (.object "java/lang/Object")⟩ := by decide +kernel
theorem pdx__Ljava_lang_String__V : parseMethodDescriptor "(Ljava/lang/String;)V" = some ⟨[(.object "java/lang/String")], none⟩ := by decide +kernel
theorem d9_0 : decode prog_10_method_2_code 0 = .ok (.aload_n 0, 1) := by decide +kernel
theorem d9_1 : decode prog_10_method_2_code 1 = .ok (.ldc 13, 2) := by decide +kernel
theorem d9_3 : decode prog_10_method_2_code 3 = .ok (.invokestatic 15, 3) := by decide +kernel
theorem d9_6 : decode prog_10_method_2_code 6 = .ok (.pop, 1) := by decide +kernel
theorem d9_7 : decode prog_10_method_2_code 7 = .ok (.aload_n 0, 1) := by decide +kernel
theorem d9_8 : decode prog_10_method_2_code 8 = .ok (.invokevirtual 21, 3) := by decide +kernel
theorem d9_11 : decode prog_10_method_2_code 11 = .ok (.ifCond .eq 13, 3) := by decide +kernel
theorem d9_24 : decode prog_10_method_2_code 24 = .ok (.iconst 0, 1) := by decide +kernel
theorem d9_25 : decode prog_10_method_2_code 25 = .ok (.istore_n 1, 1) := by decide +kernel
theorem d9_26 : decode prog_10_method_2_code 26 = .ok (.iload_n 1, 1) := by decide +kernel
theorem d9_27 : decode prog_10_method_2_code 27 = .ok (.aload_n 0, 1) := by decide +kernel
theorem d9_28 : decode prog_10_method_2_code 28 = .ok (.invokevirtual 34, 3) := by decide +kernel
theorem d9_31 : decode prog_10_method_2_code 31 = .ok (.if_icmp .ge 63, 3) := by decide +kernel
theorem d9_34 : decode prog_10_method_2_code 34 = .ok (.aload_n 0, 1) := by decide +kernel
theorem d9_35 : decode prog_10_method_2_code 35 = .ok (.iload_n 1, 1) := by decide +kernel
theorem d9_36 : decode prog_10_method_2_code 36 = .ok (.invokevirtual 38, 3) := by decide +kernel
theorem d9_39 : decode prog_10_method_2_code 39 = .ok (.istore_n 2, 1) := by decide +kernel
theorem d9_40 : decode prog_10_method_2_code 40 = .ok (.iload_n 2, 1) := by decide +kernel
theorem d9_41 : decode prog_10_method_2_code 41 = .ok (.invokestatic 42, 3) := by decide +kernel
theorem d9_44 : decode prog_10_method_2_code 44 = .ok (.ifCond .ne 40, 3) := by decide +kernel
theorem d9_84 : decode prog_10_method_2_code 84 = .ok (.iload_n 1, 1) := by decide +kernel
theorem d9_85 : decode prog_10_method_2_code 85 = .ok (.iload_n 2, 1) := by decide +kernel
theorem d9_86 : decode prog_10_method_2_code 86 = .ok (.invokestatic 67, 3) := by decide +kernel
theorem d9_89 : decode prog_10_method_2_code 89 = .ok (.iadd, 1) := by decide +kernel
theorem d9_90 : decode prog_10_method_2_code 90 = .ok (.istore_n 1, 1) := by decide +kernel
theorem d9_91 : decode prog_10_method_2_code 91 = .ok (.goto (-65), 3) := by decide +kernel
theorem d9_94 : decode prog_10_method_2_code 94 = .ok (.aload_n 0, 1) := by decide +kernel
theorem d9_95 : decode prog_10_method_2_code 95 = .ok (.invokevirtual 34, 3) := by decide +kernel
theorem d9_98 : decode prog_10_method_2_code 98 = .ok (.sipush 128, 3) := by decide +kernel
theorem d9_101 : decode prog_10_method_2_code 101 = .ok (.if_icmp .le 39, 3) := by decide +kernel
theorem d9_140 : decode prog_10_method_2_code 140 = .ok (.new 8, 3) := by decide +kernel
theorem d9_143 : decode prog_10_method_2_code 143 = .ok (.dup, 1) := by decide +kernel
theorem d9_144 : decode prog_10_method_2_code 144 = .ok (.aload_n 0, 1) := by decide +kernel
theorem d9_145 : decode prog_10_method_2_code 145 = .ok (.invokespecial 74, 3) := by decide +kernel
theorem d9_148 : decode prog_10_method_2_code 148 = .ok (.areturn, 1) := by decide +kernel
def Q_m9_4 (Z : State) (a : Addr) (t : Addr) (k : ClassId) (x0 : Int32) (x1 : Int32) (x2 : Int32) (x3 : Int32) (wcs : Int32) (rg : Value) (EL : List (String × Nat)) (h0 : Heap) (n0 : Nat) (v : Option Value) (h : Heap) (L : List Loc) : Prop := ∃ (b : Addr), v = (some (.ref b)) ∧ Fr n0 L ∧ Keep h0 h [] ∧ Exa Z h b "com/example/portunus/portunus/lock/LockName" ∧ Fld Z h b "com/example/portunus/portunus/lock/LockName" "text" "Ljava/lang/String;" (.ref a) ∧ h0.size ≤ b
theorem ef_m9_4 (m : MethodId) (a : Addr) (t : Addr) (k : ClassId) (x0 : Int32) (x1 : Int32) (x2 : Int32) (x3 : Int32) (wcs : Int32) (rg : Value) (EL : List (String × Nat)) : entryFrame m #[(.ref a)] 3 = mkF m 0 #[.val (.ref a), .unset, .unset] [] := by first | (simp [entryFrame, mkF, argsToLocals, Value.category]; done) | rfl
set_option maxRecDepth 65536 in
set_option maxHeartbeats 40000000 in
theorem m9_4 (l : Launch) (Z : State) (a0 : Array Value) (hw : ∀ d ∈ tables_1, d.before a0 Z = true) (ws : List Jvm.Cond) (a : Addr) (t : Addr) (k : ClassId) (x0 : Int32) (x1 : Int32) (x2 : Int32) (x3 : Int32) (wcs : Int32) (rg : Value) (EL : List (String × Nat)) (h0 : Heap) (n0 : Nat) (Z0 : n0 ≤ h0.size) (E_a : Exa Z h0 a "java/lang/String") (Fc_a : Fld Z h0 a "java/lang/String" "coder" "B" (.int (0 : Int32))) (Fv_a : Fld Z h0 a "java/lang/String" "value" "[B" (.ref t)) (V : Arv Z h0 t k .byte (4 : Int32) [(.int x0), (.int x1), (.int x2), (.int x3)] (.int (0 : Int32))) (S_CS : Sta Z h0 "java/lang/String" "COMPACT_STRINGS" "Z" (.int wcs)) (ncs : ¬ (wcs = (0 : Int32))) (S_SI : Sta Z h0 "jdk/internal/util/Preconditions" "SIOOBE_FORMATTER" "Ljava/util/function/BiFunction;" rg) (r_rg : rg.isRef = true) (hEL : EW Z a0 EL) (hm13 : (("com/example/portunus/portunus/lock/LockName", 13) : String × Nat) ∈ EL) (hm82 : (("com/example/portunus/portunus/lock/LockName", 82) : String × Nat) ∈ EL) (al0 : own_al (x0 &&& (255 : Int32))) (al1 : own_al (x1 &&& (255 : Int32))) (al2 : own_al (x2 &&& (255 : Int32))) (al3 : own_al (x3 &&& (255 : Int32))) :
    MetFree l (⟨"com/example/portunus/portunus/lock/LockName", "of", "(Ljava/lang/String;)Lcom/example/portunus/portunus/lock/LockName;"⟩ : MethodName) (head1 (Jvm.Cond.code (⟨"com/example/portunus/portunus/lock/LockName", "of", "(Ljava/lang/String;)Lcom/example/portunus/portunus/lock/LockName;"⟩ : MethodName) prog_10_method_2_code 3 (some (.object "com/example/portunus/portunus/lock/LockName")) :: ws) ({ frames := 5, cells := 11, slots := 137, locals := 73 } : Room)) (fun ar_ U => ar_ = #[(.ref a)] ∧ Z.Warmed39 U.vm ∧ U.heap = h0 ∧ CHv Z EL U.vm h0) (fun _ _ _ _ _ => True) (fun _ U o U' => ∃ v L, o = .returned v ∧ Q_m9_4 Z a t k x0 x1 x2 x3 wcs rg EL h0 n0 v U'.heap L ∧ CHr Z EL U.vm U.heap U'.vm U'.heap ∧ ReturnedEndW U o U' L ({ frames := 5, cells := 11, slots := 137, locals := 73 } : Room).cells ({ frames := 5, cells := 11, slots := 137, locals := 73 } : Room).slots) := by
  refine MetFree.of_bodySF (plainFor_of_name pnx_com_example_portunus_portunus_lock_LockName) hisR ?_
  intro p e s m args below meth c s₁ Bd hml0 hP hK
  obtain ⟨rfl, hZ, hh, HC⟩ := hP
  have hx := Bd.exec
  have hby := Bd.bytes
  have hml : c.maxLocals = 3 := hml0
  have hown : s.vm.findClass "com/example/portunus/portunus/lock/LockName" = some m.cls := findClass_of_methodNamed Bd.named
  have hnm := (name_of_methodNamed Bd.named Bd.method).1
  have X0 : Stand p l e ({ frames := 5, cells := 11, slots := 137, locals := 73 } : Room) s m #[(.ref a)] below meth c s₁ [] 0 0 := Stand.of_body Bd
  have e0 : s₁.heap = h0 := by rw [← hh, Bd.state]; rfl
  have N0 := Fr.nil n0
  have pre0 : ∀ tq_, Steps p.tables e below (s₁.setTop (mkF m 0 #[.val (.ref a), .unset, .unset] [])) tq_ → Steps p.tables e below (s₁.setTop (entryFrame m #[(.ref a)] 3)) tq_ := fun tq_ kt_ => castTop (ef_m9_4 m a t k x0 x1 x2 x3 wcs rg EL ) kt_
  obtain ⟨li1, T1, h1, k1, b1, kb1, X1, e1, E1, hS1, hk1, hZ, hown, EX1, FC1, FV1, AV1, la1, lb1, C1, Lt1, ne1, st1⟩ := ldcCH (s := s) (vm0 := s.vm) (EL := EL) X0 hx hZ hown (wk hw 42 rfl) (own_wS hw) e0 ((State.WarmedH.refl s).since 0) (Nat.zero_le _) hEL hm13 HC (vs := [(.int (108 : Int32)), (.int (111 : Int32)), (.int (99 : Int32)), (.int (107 : Int32)), (.int (32 : Int32)), (.int (110 : Int32)), (.int (97 : Int32)), (.int (109 : Int32)), (.int (101 : Int32))]) (z := (9 : Int32)) ⟨by decide, by decide⟩ (by decide) (by decide) (g := (mkF m 1 #[.val (.ref a), .unset, .unset] [(.ref a)])) rfl (hb hby d9_1) (n := 36) (by decide) (by decide) (nle rfl) (nle rfl)
  have CR1 := C1
  have K2 : Keep h0 h1 [] := (Keep.refl h0 []).ext E1
  obtain ⟨_, _, ⟨T3, L3, kk3, nn3⟩, -, X3, ⟨Lc3, hQ3, l3, y3, z3⟩, st3⟩ := Jvm.LawKit.callS X1 hx (y := (⟨"java/util/Objects", "requireNonNull", "(Ljava/lang/Object;Ljava/lang/String;)Ljava/lang/Object;"⟩ : MethodName)) hown (mvT hZ (wk hw 45 rfl)) (mvT hZ (wk hw 46 rfl)) (mvT hZ (wk hw 47 rfl)) (mvT hZ (wk hw 48 rfl)) (by decide) (backOf (W := 0) (m10 l Z a0 hw [] a li1 h1 n0 (Nat.le_trans Z0 K2.1) ) hZ (wk hw 48 rfl) (wk hw 47 rfl) (by decide) (by decide)) (g := (mkF m 3 #[.val (.ref a), .unset, .unset] [(.ref li1), (.ref a)])) rfl (by rw [hml]; rfl) (argsL := [(.ref a), (.ref li1)]) (rest := []) (lenOf pdx__Ljava_lang_Object_Ljava_lang_String__Ljava_lang_Object_ rfl) rfl (by show 2 * 0 + _ ≤ _; exact Nat.le_of_eq rfl) (hb hby d9_3) (fun _ _ => ⟨rfl, e1, nle rfl, nle rfl⟩)
  dsimp only [Pt.U, Pt.locs, Pt.cells, Pt.slots] at X3 l3 y3 z3 st3 hQ3
  subst l3 y3 z3
  obtain ⟨rfl, Nq3, e3⟩ := hQ3
  have N3 := Fr.app N0 Nq3
  have F5 := (E_a.ext E1)
  have F6 := (Fc_a.ext E1)
  have F7 := (Fv_a.ext E1)
  have F8 := (V.ext E1)
  obtain ⟨cq4, kq4, qa4, qb4, qc4⟩ := isOf hZ e3 F5
  obtain ⟨_, _, ⟨T4, L4, kk4, nn4⟩, -, X4, ⟨Lc4, hQ4, l4, y4, z4⟩, st4⟩ := X3.virtualBack hx (y := (⟨"java/lang/String", "isEmpty", "()Z"⟩ : MethodName)) (z := (⟨"java/lang/String", "isEmpty", "()Z"⟩ : MethodName)) hown (mvT hZ (wk hw 49 rfl)) (mvT hZ (wk hw 50 rfl)) (notFace_of_selects (args := #[]) (mvT hZ (wk hw 52 rfl))) (mvT hZ (wk hw 52 rfl)) (mvT hZ (wk hw 51 rfl)) (by decide) (backOf (W := 0) (m11 l Z a0 hw [] a t k (4 : Int32) [(.int x0), (.int x1), (.int x2), (.int x3)] h1 n0 (Nat.le_trans Z0 K2.1) F5 F6 F7 F8 (by decide)) hZ (wk hw 53 rfl) (wk hw 10 rfl) (by decide) (by decide)) qa4 qc4 (g := (mkF m 8 #[.val (.ref a), .unset, .unset] [(.ref a)])) rfl (by rw [hml]; rfl) (Steps.refl _) (argsL := []) (rest := []) (lenOf pdx___Z rfl) rfl (by show 2 * 0 + _ ≤ _; exact Nat.le_of_eq rfl) (hb hby d9_8) (fun _ _ => ⟨rfl, e3, nle rfl, nle rfl⟩)
  dsimp only [Pt.U, Pt.locs, Pt.cells, Pt.slots] at X4 l4 y4 z4 st4 hQ4
  subst l4 y4 z4
  obtain ⟨rfl, Nq4, e4⟩ := hQ4
  have N4 := Fr.app N3 Nq4
  have F10 := (S_CS.ext E1)
  obtain ⟨cq9, kq9, qa9, qb9, qc9⟩ := isOf hZ e4 F5
  obtain ⟨_, _, ⟨T9, L9, kk9, nn9⟩, -, X9, ⟨Lc9, hQ9, l9, y9, z9⟩, st9⟩ := X4.virtualBack hx (y := (⟨"java/lang/String", "length", "()I"⟩ : MethodName)) (z := (⟨"java/lang/String", "length", "()I"⟩ : MethodName)) hown (mvT hZ (wk hw 54 rfl)) (mvT hZ (wk hw 55 rfl)) (notFace_of_selects (args := #[]) (mvT hZ (wk hw 57 rfl))) (mvT hZ (wk hw 57 rfl)) (mvT hZ (wk hw 56 rfl)) (by decide) (backOf (W := 1) (m12 l Z a0 hw [] a t k (4 : Int32) [(.int x0), (.int x1), (.int x2), (.int x3)] wcs h1 n0 (Nat.le_trans Z0 K2.1) F5 F6 F7 F8 F10 ncs) hZ (wk hw 58 rfl) (wk hw 10 rfl) (by decide) (by decide)) qa9 qc9 (g := (mkF m 28 #[.val (.ref a), .val (.int (0 : Int32)), .unset] [(.ref a), (.int (0 : Int32))])) rfl (by rw [hml]; rfl) (Steps.refl _) (argsL := []) (rest := [(.int (0 : Int32))]) (lenOf pdx___I rfl) rfl (by show 2 * 0 + _ ≤ _; exact Nat.le_of_eq rfl) (hb hby d9_28) (fun _ _ => ⟨rfl, e4, nle rfl, nle rfl⟩)
  dsimp only [Pt.U, Pt.locs, Pt.cells, Pt.slots] at X9 l9 y9 z9 st9 hQ9
  subst l9 y9 z9
  obtain ⟨rfl, Nq9, e9⟩ := hQ9
  have N9 := Fr.app N4 Nq9
  have F12 := (S_SI.ext E1)
  obtain ⟨cq11, kq11, qa11, qb11, qc11⟩ := isOf hZ e9 F5
  obtain ⟨_, _, ⟨T11, L11, kk11, nn11⟩, -, X11, ⟨Lc11, hQ11, l11, y11, z11⟩, st11⟩ := X9.virtualBack hx (y := (⟨"java/lang/String", "codePointAt", "(I)I"⟩ : MethodName)) (z := (⟨"java/lang/String", "codePointAt", "(I)I"⟩ : MethodName)) hown (mvT hZ (wk hw 64 rfl)) (mvT hZ (wk hw 65 rfl)) (notFace_of_selects (args := #[]) (mvT hZ (wk hw 67 rfl))) (mvT hZ (wk hw 67 rfl)) (mvT hZ (wk hw 66 rfl)) (by decide) (backOf (W := 0) (m14 l Z a0 hw [] a t k (4 : Int32) [(.int x0), (.int x1), (.int x2), (.int x3)] (0 : Int32) x0 wcs rg h1 n0 (Nat.le_trans Z0 K2.1) F5 F6 F7 F8 (by decide) (by decide) rfl F10 ncs F12 r_rg) hZ (wk hw 68 rfl) (wk hw 10 rfl) (by decide) (by decide)) qa11 qc11 (g := (mkF m 36 #[.val (.ref a), .val (.int (0 : Int32)), .unset] [(.int (0 : Int32)), (.ref a)])) rfl (by rw [hml]; rfl) (Steps.refl _) (argsL := [(.int (0 : Int32))]) (rest := []) (lenOf pdx__I_I rfl) rfl (by show 2 * 0 + _ ≤ _; exact Nat.le_of_eq rfl) (hb hby d9_36) (fun _ _ => ⟨rfl, e9, nle rfl, nle rfl⟩)
  dsimp only [Pt.U, Pt.locs, Pt.cells, Pt.slots] at X11 l11 y11 z11 st11 hQ11
  subst l11 y11 z11
  obtain ⟨rfl, Nq11, e11⟩ := hQ11
  have N11 := Fr.app N9 Nq11
  obtain ⟨_, _, ⟨T13, L13, kk13, nn13⟩, -, X13, hSq13, hg13, ⟨Lc13, hQ13, l13, y13, z13, C13⟩, st13⟩ := callSS (s := s.setVm T1.vm) X11 hx (y := (⟨"com/example/portunus/portunus/lock/LockName", "allowed", "(I)Z"⟩ : MethodName)) hown (mvT hZ (wk hw 82 rfl)) (mvT hZ (wk hw 83 rfl)) (mvT hZ (wk hw 40 rfl)) (mvT hZ (wk hw 84 rfl)) (by decide) (backOfSH (s := s) (vm0 := T1.vm) (W := 0) (own_m18 l Z a0 hw [] (x0 &&& (255 : Int32)) wcs EL h1 n0 (Nat.le_trans Z0 K2.1) F10 ncs hEL hm82 al0) hZ (wk hw 84 rfl) (wk hw 40 rfl) (by decide) (by decide) hEL CR1.1) (g := (mkF m 41 #[.val (.ref a), .val (.int (0 : Int32)), .val (.int (x0 &&& (255 : Int32)))] [(.int (x0 &&& (255 : Int32)))])) rfl (by rw [hml]; rfl) (argsL := [(.int (x0 &&& (255 : Int32)))]) (rest := []) (lenOf pdx__I_Z rfl) rfl (by show 2 * 0 + _ ≤ _; exact Nat.le_of_eq rfl) (hb hby d9_41) (fun _ _ => ⟨rfl, e11, nle rfl, nle rfl⟩)
  dsimp only [Pt.U, Pt.locs, Pt.cells, Pt.slots] at X13 hSq13 hg13 l13 y13 z13 st13 hQ13 C13
  subst l13 y13 z13
  obtain ⟨rfl, Nq13, Kq13⟩ := hQ13
  have N13 := Fr.app N11 Nq13
  obtain ⟨h13, e13⟩ : ∃ h, T13.heap = h := ⟨_, rfl⟩
  rw [e13] at Kq13 C13 hSq13
  have hZ : Z.Warmed39 (s.setVm T13.vm).vm := State.Warmed39.trans (t := s.setVm T1.vm) hZ hSq13.1
  have hown : (s.setVm T13.vm).vm.findClass "com/example/portunus/portunus/lock/LockName" = some m.cls := by rw [show (s.setVm T13.vm).vm = T13.vm from rfl, hSq13.1.alike.findClass]; exact hown
  have X13 : Stand p l e _ (s.setVm T13.vm) m _ below meth c T13 _ _ _ := X13
  have hS13 : s.Since T13.vm h13.size := (hS1).trans hSq13 (Nat.le_trans hk1 Kq13.1)
  have CR13 := CR1.trans C13
  have K14 : Keep h0 h13 [] := K2.trans Kq13 own_m0
  obtain ⟨_, _, ⟨T15, L15, kk15, nn15⟩, -, X15, ⟨Lc15, hQ15, l15, y15, z15⟩, st15⟩ := Jvm.LawKit.callS X13 hx (y := (⟨"java/lang/Character", "charCount", "(I)I"⟩ : MethodName)) hown (mvT hZ (wk hw 85 rfl)) (mvT hZ (wk hw 86 rfl)) (mvT hZ (wk hw 87 rfl)) (mvT hZ (wk hw 88 rfl)) (by decide) (backOf (W := 1) (m19 l Z a0 hw [] (x0 &&& (255 : Int32)) h13 n0 (Nat.le_trans Z0 K14.1) (own_alt al0)) hZ (wk hw 88 rfl) (wk hw 87 rfl) (by decide) (by decide)) (g := (mkF m 86 #[.val (.ref a), .val (.int (0 : Int32)), .val (.int (x0 &&& (255 : Int32)))] [(.int (x0 &&& (255 : Int32))), (.int (0 : Int32))])) rfl (by rw [hml]; rfl) (argsL := [(.int (x0 &&& (255 : Int32)))]) (rest := [(.int (0 : Int32))]) (lenOf pdx__I_I rfl) rfl (by show 2 * 0 + _ ≤ _; exact Nat.le_of_eq rfl) (hb hby d9_86) (fun _ _ => ⟨rfl, e13, nle rfl, nle rfl⟩)
  dsimp only [Pt.U, Pt.locs, Pt.cells, Pt.slots] at X15 l15 y15 z15 st15 hQ15
  subst l15 y15 z15
  obtain ⟨rfl, Nq15, e15⟩ := hQ15
  have N15 := Fr.app N13 Nq15
  have F17 := (F5.keep Kq13)
  have F18 := (F6.keep Kq13 own_n0)
  have F19 := (F7.keep Kq13 own_n0)
  have F20 := (F8.keep Kq13 own_n0)
  have F21 := (own_staK F10 Kq13 ns0)
  obtain ⟨cq16, kq16, qa16, qb16, qc16⟩ := isOf hZ e15 F17
  obtain ⟨_, _, ⟨T16, L16, kk16, nn16⟩, -, X16, ⟨Lc16, hQ16, l16, y16, z16⟩, st16⟩ := X15.virtualBack hx (y := (⟨"java/lang/String", "length", "()I"⟩ : MethodName)) (z := (⟨"java/lang/String", "length", "()I"⟩ : MethodName)) hown (mvT hZ (wk hw 54 rfl)) (mvT hZ (wk hw 55 rfl)) (notFace_of_selects (args := #[]) (mvT hZ (wk hw 57 rfl))) (mvT hZ (wk hw 57 rfl)) (mvT hZ (wk hw 56 rfl)) (by decide) (backOf (W := 1) (m12 l Z a0 hw [] a t k (4 : Int32) [(.int x0), (.int x1), (.int x2), (.int x3)] wcs h13 n0 (Nat.le_trans Z0 K14.1) F17 F18 F19 F20 F21 ncs) hZ (wk hw 58 rfl) (wk hw 10 rfl) (by decide) (by decide)) qa16 qc16 (g := (mkF m 28 #[.val (.ref a), .val (.int (1 : Int32)), .val (.int (x0 &&& (255 : Int32)))] [(.ref a), (.int (1 : Int32))])) rfl (by rw [hml]; rfl) (Steps.refl _) (argsL := []) (rest := [(.int (1 : Int32))]) (lenOf pdx___I rfl) rfl (by show 2 * 0 + _ ≤ _; exact Nat.le_of_eq rfl) (hb hby d9_28) (fun _ _ => ⟨rfl, e15, nle rfl, nle rfl⟩)
  dsimp only [Pt.U, Pt.locs, Pt.cells, Pt.slots] at X16 l16 y16 z16 st16 hQ16
  subst l16 y16 z16
  obtain ⟨rfl, Nq16, e16⟩ := hQ16
  have N16 := Fr.app N15 Nq16
  have F23 := (own_staK F12 Kq13 ns0)
  obtain ⟨cq22, kq22, qa22, qb22, qc22⟩ := isOf hZ e16 F17
  obtain ⟨_, _, ⟨T22, L22, kk22, nn22⟩, -, X22, ⟨Lc22, hQ22, l22, y22, z22⟩, st22⟩ := X16.virtualBack hx (y := (⟨"java/lang/String", "codePointAt", "(I)I"⟩ : MethodName)) (z := (⟨"java/lang/String", "codePointAt", "(I)I"⟩ : MethodName)) hown (mvT hZ (wk hw 64 rfl)) (mvT hZ (wk hw 65 rfl)) (notFace_of_selects (args := #[]) (mvT hZ (wk hw 67 rfl))) (mvT hZ (wk hw 67 rfl)) (mvT hZ (wk hw 66 rfl)) (by decide) (backOf (W := 0) (m14 l Z a0 hw [] a t k (4 : Int32) [(.int x0), (.int x1), (.int x2), (.int x3)] (1 : Int32) x1 wcs rg h13 n0 (Nat.le_trans Z0 K14.1) F17 F18 F19 F20 (by decide) (by decide) rfl F21 ncs F23 r_rg) hZ (wk hw 68 rfl) (wk hw 10 rfl) (by decide) (by decide)) qa22 qc22 (g := (mkF m 36 #[.val (.ref a), .val (.int (1 : Int32)), .val (.int (x0 &&& (255 : Int32)))] [(.int (1 : Int32)), (.ref a)])) rfl (by rw [hml]; rfl) (Steps.refl _) (argsL := [(.int (1 : Int32))]) (rest := []) (lenOf pdx__I_I rfl) rfl (by show 2 * 0 + _ ≤ _; exact Nat.le_of_eq rfl) (hb hby d9_36) (fun _ _ => ⟨rfl, e16, nle rfl, nle rfl⟩)
  dsimp only [Pt.U, Pt.locs, Pt.cells, Pt.slots] at X22 l22 y22 z22 st22 hQ22
  subst l22 y22 z22
  obtain ⟨rfl, Nq22, e22⟩ := hQ22
  have N22 := Fr.app N16 Nq22
  obtain ⟨_, _, ⟨T24, L24, kk24, nn24⟩, -, X24, hSq24, hg24, ⟨Lc24, hQ24, l24, y24, z24, C24⟩, st24⟩ := callSS (s := s.setVm T13.vm) X22 hx (y := (⟨"com/example/portunus/portunus/lock/LockName", "allowed", "(I)Z"⟩ : MethodName)) hown (mvT hZ (wk hw 82 rfl)) (mvT hZ (wk hw 83 rfl)) (mvT hZ (wk hw 40 rfl)) (mvT hZ (wk hw 84 rfl)) (by decide) (backOfSH (s := s) (vm0 := T13.vm) (W := 0) (own_m18 l Z a0 hw [] (x1 &&& (255 : Int32)) wcs EL h13 n0 (Nat.le_trans Z0 K14.1) F21 ncs hEL hm82 al1) hZ (wk hw 84 rfl) (wk hw 40 rfl) (by decide) (by decide) hEL CR13.1) (g := (mkF m 41 #[.val (.ref a), .val (.int (1 : Int32)), .val (.int (x1 &&& (255 : Int32)))] [(.int (x1 &&& (255 : Int32)))])) rfl (by rw [hml]; rfl) (argsL := [(.int (x1 &&& (255 : Int32)))]) (rest := []) (lenOf pdx__I_Z rfl) rfl (by show 2 * 0 + _ ≤ _; exact Nat.le_of_eq rfl) (hb hby d9_41) (fun _ _ => ⟨rfl, e22, nle rfl, nle rfl⟩)
  dsimp only [Pt.U, Pt.locs, Pt.cells, Pt.slots] at X24 hSq24 hg24 l24 y24 z24 st24 hQ24 C24
  subst l24 y24 z24
  obtain ⟨rfl, Nq24, Kq24⟩ := hQ24
  have N24 := Fr.app N22 Nq24
  obtain ⟨h24, e24⟩ : ∃ h, T24.heap = h := ⟨_, rfl⟩
  rw [e24] at Kq24 C24 hSq24
  have hZ : Z.Warmed39 (s.setVm T24.vm).vm := State.Warmed39.trans (t := s.setVm T13.vm) hZ hSq24.1
  have hown : (s.setVm T24.vm).vm.findClass "com/example/portunus/portunus/lock/LockName" = some m.cls := by rw [show (s.setVm T24.vm).vm = T24.vm from rfl, hSq24.1.alike.findClass]; exact hown
  have X24 : Stand p l e _ (s.setVm T24.vm) m _ below meth c T24 _ _ _ := X24
  have hS24 : s.Since T24.vm h24.size := (hS13).trans hSq24 (Nat.le_trans (Nat.le_refl _) Kq24.1)
  have CR24 := CR13.trans C24
  have K25 : Keep h0 h24 [] := K14.trans Kq24 own_m0
  obtain ⟨_, _, ⟨T26, L26, kk26, nn26⟩, -, X26, ⟨Lc26, hQ26, l26, y26, z26⟩, st26⟩ := Jvm.LawKit.callS X24 hx (y := (⟨"java/lang/Character", "charCount", "(I)I"⟩ : MethodName)) hown (mvT hZ (wk hw 85 rfl)) (mvT hZ (wk hw 86 rfl)) (mvT hZ (wk hw 87 rfl)) (mvT hZ (wk hw 88 rfl)) (by decide) (backOf (W := 1) (m19 l Z a0 hw [] (x1 &&& (255 : Int32)) h24 n0 (Nat.le_trans Z0 K25.1) (own_alt al1)) hZ (wk hw 88 rfl) (wk hw 87 rfl) (by decide) (by decide)) (g := (mkF m 86 #[.val (.ref a), .val (.int (1 : Int32)), .val (.int (x1 &&& (255 : Int32)))] [(.int (x1 &&& (255 : Int32))), (.int (1 : Int32))])) rfl (by rw [hml]; rfl) (argsL := [(.int (x1 &&& (255 : Int32)))]) (rest := [(.int (1 : Int32))]) (lenOf pdx__I_I rfl) rfl (by show 2 * 0 + _ ≤ _; exact Nat.le_of_eq rfl) (hb hby d9_86) (fun _ _ => ⟨rfl, e24, nle rfl, nle rfl⟩)
  dsimp only [Pt.U, Pt.locs, Pt.cells, Pt.slots] at X26 l26 y26 z26 st26 hQ26
  subst l26 y26 z26
  obtain ⟨rfl, Nq26, e26⟩ := hQ26
  have N26 := Fr.app N24 Nq26
  have F28 := (F17.keep Kq24)
  have F29 := (F18.keep Kq24 own_n0)
  have F30 := (F19.keep Kq24 own_n0)
  have F31 := (F20.keep Kq24 own_n0)
  have F32 := (own_staK F21 Kq24 ns0)
  obtain ⟨cq27, kq27, qa27, qb27, qc27⟩ := isOf hZ e26 F28
  obtain ⟨_, _, ⟨T27, L27, kk27, nn27⟩, -, X27, ⟨Lc27, hQ27, l27, y27, z27⟩, st27⟩ := X26.virtualBack hx (y := (⟨"java/lang/String", "length", "()I"⟩ : MethodName)) (z := (⟨"java/lang/String", "length", "()I"⟩ : MethodName)) hown (mvT hZ (wk hw 54 rfl)) (mvT hZ (wk hw 55 rfl)) (notFace_of_selects (args := #[]) (mvT hZ (wk hw 57 rfl))) (mvT hZ (wk hw 57 rfl)) (mvT hZ (wk hw 56 rfl)) (by decide) (backOf (W := 1) (m12 l Z a0 hw [] a t k (4 : Int32) [(.int x0), (.int x1), (.int x2), (.int x3)] wcs h24 n0 (Nat.le_trans Z0 K25.1) F28 F29 F30 F31 F32 ncs) hZ (wk hw 58 rfl) (wk hw 10 rfl) (by decide) (by decide)) qa27 qc27 (g := (mkF m 28 #[.val (.ref a), .val (.int (2 : Int32)), .val (.int (x1 &&& (255 : Int32)))] [(.ref a), (.int (2 : Int32))])) rfl (by rw [hml]; rfl) (Steps.refl _) (argsL := []) (rest := [(.int (2 : Int32))]) (lenOf pdx___I rfl) rfl (by show 2 * 0 + _ ≤ _; exact Nat.le_of_eq rfl) (hb hby d9_28) (fun _ _ => ⟨rfl, e26, nle rfl, nle rfl⟩)
  dsimp only [Pt.U, Pt.locs, Pt.cells, Pt.slots] at X27 l27 y27 z27 st27 hQ27
  subst l27 y27 z27
  obtain ⟨rfl, Nq27, e27⟩ := hQ27
  have N27 := Fr.app N26 Nq27
  have F34 := (own_staK F23 Kq24 ns0)
  obtain ⟨cq33, kq33, qa33, qb33, qc33⟩ := isOf hZ e27 F28
  obtain ⟨_, _, ⟨T33, L33, kk33, nn33⟩, -, X33, ⟨Lc33, hQ33, l33, y33, z33⟩, st33⟩ := X27.virtualBack hx (y := (⟨"java/lang/String", "codePointAt", "(I)I"⟩ : MethodName)) (z := (⟨"java/lang/String", "codePointAt", "(I)I"⟩ : MethodName)) hown (mvT hZ (wk hw 64 rfl)) (mvT hZ (wk hw 65 rfl)) (notFace_of_selects (args := #[]) (mvT hZ (wk hw 67 rfl))) (mvT hZ (wk hw 67 rfl)) (mvT hZ (wk hw 66 rfl)) (by decide) (backOf (W := 0) (m14 l Z a0 hw [] a t k (4 : Int32) [(.int x0), (.int x1), (.int x2), (.int x3)] (2 : Int32) x2 wcs rg h24 n0 (Nat.le_trans Z0 K25.1) F28 F29 F30 F31 (by decide) (by decide) rfl F32 ncs F34 r_rg) hZ (wk hw 68 rfl) (wk hw 10 rfl) (by decide) (by decide)) qa33 qc33 (g := (mkF m 36 #[.val (.ref a), .val (.int (2 : Int32)), .val (.int (x1 &&& (255 : Int32)))] [(.int (2 : Int32)), (.ref a)])) rfl (by rw [hml]; rfl) (Steps.refl _) (argsL := [(.int (2 : Int32))]) (rest := []) (lenOf pdx__I_I rfl) rfl (by show 2 * 0 + _ ≤ _; exact Nat.le_of_eq rfl) (hb hby d9_36) (fun _ _ => ⟨rfl, e27, nle rfl, nle rfl⟩)
  dsimp only [Pt.U, Pt.locs, Pt.cells, Pt.slots] at X33 l33 y33 z33 st33 hQ33
  subst l33 y33 z33
  obtain ⟨rfl, Nq33, e33⟩ := hQ33
  have N33 := Fr.app N27 Nq33
  obtain ⟨_, _, ⟨T35, L35, kk35, nn35⟩, -, X35, hSq35, hg35, ⟨Lc35, hQ35, l35, y35, z35, C35⟩, st35⟩ := callSS (s := s.setVm T24.vm) X33 hx (y := (⟨"com/example/portunus/portunus/lock/LockName", "allowed", "(I)Z"⟩ : MethodName)) hown (mvT hZ (wk hw 82 rfl)) (mvT hZ (wk hw 83 rfl)) (mvT hZ (wk hw 40 rfl)) (mvT hZ (wk hw 84 rfl)) (by decide) (backOfSH (s := s) (vm0 := T24.vm) (W := 0) (own_m18 l Z a0 hw [] (x2 &&& (255 : Int32)) wcs EL h24 n0 (Nat.le_trans Z0 K25.1) F32 ncs hEL hm82 al2) hZ (wk hw 84 rfl) (wk hw 40 rfl) (by decide) (by decide) hEL CR24.1) (g := (mkF m 41 #[.val (.ref a), .val (.int (2 : Int32)), .val (.int (x2 &&& (255 : Int32)))] [(.int (x2 &&& (255 : Int32)))])) rfl (by rw [hml]; rfl) (argsL := [(.int (x2 &&& (255 : Int32)))]) (rest := []) (lenOf pdx__I_Z rfl) rfl (by show 2 * 0 + _ ≤ _; exact Nat.le_of_eq rfl) (hb hby d9_41) (fun _ _ => ⟨rfl, e33, nle rfl, nle rfl⟩)
  dsimp only [Pt.U, Pt.locs, Pt.cells, Pt.slots] at X35 hSq35 hg35 l35 y35 z35 st35 hQ35 C35
  subst l35 y35 z35
  obtain ⟨rfl, Nq35, Kq35⟩ := hQ35
  have N35 := Fr.app N33 Nq35
  obtain ⟨h35, e35⟩ : ∃ h, T35.heap = h := ⟨_, rfl⟩
  rw [e35] at Kq35 C35 hSq35
  have hZ : Z.Warmed39 (s.setVm T35.vm).vm := State.Warmed39.trans (t := s.setVm T24.vm) hZ hSq35.1
  have hown : (s.setVm T35.vm).vm.findClass "com/example/portunus/portunus/lock/LockName" = some m.cls := by rw [show (s.setVm T35.vm).vm = T35.vm from rfl, hSq35.1.alike.findClass]; exact hown
  have X35 : Stand p l e _ (s.setVm T35.vm) m _ below meth c T35 _ _ _ := X35
  have hS35 : s.Since T35.vm h35.size := (hS24).trans hSq35 (Nat.le_trans (Nat.le_refl _) Kq35.1)
  have CR35 := CR24.trans C35
  have K36 : Keep h0 h35 [] := K25.trans Kq35 own_m0
  obtain ⟨_, _, ⟨T37, L37, kk37, nn37⟩, -, X37, ⟨Lc37, hQ37, l37, y37, z37⟩, st37⟩ := Jvm.LawKit.callS X35 hx (y := (⟨"java/lang/Character", "charCount", "(I)I"⟩ : MethodName)) hown (mvT hZ (wk hw 85 rfl)) (mvT hZ (wk hw 86 rfl)) (mvT hZ (wk hw 87 rfl)) (mvT hZ (wk hw 88 rfl)) (by decide) (backOf (W := 1) (m19 l Z a0 hw [] (x2 &&& (255 : Int32)) h35 n0 (Nat.le_trans Z0 K36.1) (own_alt al2)) hZ (wk hw 88 rfl) (wk hw 87 rfl) (by decide) (by decide)) (g := (mkF m 86 #[.val (.ref a), .val (.int (2 : Int32)), .val (.int (x2 &&& (255 : Int32)))] [(.int (x2 &&& (255 : Int32))), (.int (2 : Int32))])) rfl (by rw [hml]; rfl) (argsL := [(.int (x2 &&& (255 : Int32)))]) (rest := [(.int (2 : Int32))]) (lenOf pdx__I_I rfl) rfl (by show 2 * 0 + _ ≤ _; exact Nat.le_of_eq rfl) (hb hby d9_86) (fun _ _ => ⟨rfl, e35, nle rfl, nle rfl⟩)
  dsimp only [Pt.U, Pt.locs, Pt.cells, Pt.slots] at X37 l37 y37 z37 st37 hQ37
  subst l37 y37 z37
  obtain ⟨rfl, Nq37, e37⟩ := hQ37
  have N37 := Fr.app N35 Nq37
  have F39 := (F28.keep Kq35)
  have F40 := (F29.keep Kq35 own_n0)
  have F41 := (F30.keep Kq35 own_n0)
  have F42 := (F31.keep Kq35 own_n0)
  have F43 := (own_staK F32 Kq35 ns0)
  obtain ⟨cq38, kq38, qa38, qb38, qc38⟩ := isOf hZ e37 F39
  obtain ⟨_, _, ⟨T38, L38, kk38, nn38⟩, -, X38, ⟨Lc38, hQ38, l38, y38, z38⟩, st38⟩ := X37.virtualBack hx (y := (⟨"java/lang/String", "length", "()I"⟩ : MethodName)) (z := (⟨"java/lang/String", "length", "()I"⟩ : MethodName)) hown (mvT hZ (wk hw 54 rfl)) (mvT hZ (wk hw 55 rfl)) (notFace_of_selects (args := #[]) (mvT hZ (wk hw 57 rfl))) (mvT hZ (wk hw 57 rfl)) (mvT hZ (wk hw 56 rfl)) (by decide) (backOf (W := 1) (m12 l Z a0 hw [] a t k (4 : Int32) [(.int x0), (.int x1), (.int x2), (.int x3)] wcs h35 n0 (Nat.le_trans Z0 K36.1) F39 F40 F41 F42 F43 ncs) hZ (wk hw 58 rfl) (wk hw 10 rfl) (by decide) (by decide)) qa38 qc38 (g := (mkF m 28 #[.val (.ref a), .val (.int (3 : Int32)), .val (.int (x2 &&& (255 : Int32)))] [(.ref a), (.int (3 : Int32))])) rfl (by rw [hml]; rfl) (Steps.refl _) (argsL := []) (rest := [(.int (3 : Int32))]) (lenOf pdx___I rfl) rfl (by show 2 * 0 + _ ≤ _; exact Nat.le_of_eq rfl) (hb hby d9_28) (fun _ _ => ⟨rfl, e37, nle rfl, nle rfl⟩)
  dsimp only [Pt.U, Pt.locs, Pt.cells, Pt.slots] at X38 l38 y38 z38 st38 hQ38
  subst l38 y38 z38
  obtain ⟨rfl, Nq38, e38⟩ := hQ38
  have N38 := Fr.app N37 Nq38
  have F45 := (own_staK F34 Kq35 ns0)
  obtain ⟨cq44, kq44, qa44, qb44, qc44⟩ := isOf hZ e38 F39
  obtain ⟨_, _, ⟨T44, L44, kk44, nn44⟩, -, X44, ⟨Lc44, hQ44, l44, y44, z44⟩, st44⟩ := X38.virtualBack hx (y := (⟨"java/lang/String", "codePointAt", "(I)I"⟩ : MethodName)) (z := (⟨"java/lang/String", "codePointAt", "(I)I"⟩ : MethodName)) hown (mvT hZ (wk hw 64 rfl)) (mvT hZ (wk hw 65 rfl)) (notFace_of_selects (args := #[]) (mvT hZ (wk hw 67 rfl))) (mvT hZ (wk hw 67 rfl)) (mvT hZ (wk hw 66 rfl)) (by decide) (backOf (W := 0) (m14 l Z a0 hw [] a t k (4 : Int32) [(.int x0), (.int x1), (.int x2), (.int x3)] (3 : Int32) x3 wcs rg h35 n0 (Nat.le_trans Z0 K36.1) F39 F40 F41 F42 (by decide) (by decide) rfl F43 ncs F45 r_rg) hZ (wk hw 68 rfl) (wk hw 10 rfl) (by decide) (by decide)) qa44 qc44 (g := (mkF m 36 #[.val (.ref a), .val (.int (3 : Int32)), .val (.int (x2 &&& (255 : Int32)))] [(.int (3 : Int32)), (.ref a)])) rfl (by rw [hml]; rfl) (Steps.refl _) (argsL := [(.int (3 : Int32))]) (rest := []) (lenOf pdx__I_I rfl) rfl (by show 2 * 0 + _ ≤ _; exact Nat.le_of_eq rfl) (hb hby d9_36) (fun _ _ => ⟨rfl, e38, nle rfl, nle rfl⟩)
  dsimp only [Pt.U, Pt.locs, Pt.cells, Pt.slots] at X44 l44 y44 z44 st44 hQ44
  subst l44 y44 z44
  obtain ⟨rfl, Nq44, e44⟩ := hQ44
  have N44 := Fr.app N38 Nq44
  obtain ⟨_, _, ⟨T46, L46, kk46, nn46⟩, -, X46, hSq46, hg46, ⟨Lc46, hQ46, l46, y46, z46, C46⟩, st46⟩ := callSS (s := s.setVm T35.vm) X44 hx (y := (⟨"com/example/portunus/portunus/lock/LockName", "allowed", "(I)Z"⟩ : MethodName)) hown (mvT hZ (wk hw 82 rfl)) (mvT hZ (wk hw 83 rfl)) (mvT hZ (wk hw 40 rfl)) (mvT hZ (wk hw 84 rfl)) (by decide) (backOfSH (s := s) (vm0 := T35.vm) (W := 0) (own_m18 l Z a0 hw [] (x3 &&& (255 : Int32)) wcs EL h35 n0 (Nat.le_trans Z0 K36.1) F43 ncs hEL hm82 al3) hZ (wk hw 84 rfl) (wk hw 40 rfl) (by decide) (by decide) hEL CR35.1) (g := (mkF m 41 #[.val (.ref a), .val (.int (3 : Int32)), .val (.int (x3 &&& (255 : Int32)))] [(.int (x3 &&& (255 : Int32)))])) rfl (by rw [hml]; rfl) (argsL := [(.int (x3 &&& (255 : Int32)))]) (rest := []) (lenOf pdx__I_Z rfl) rfl (by show 2 * 0 + _ ≤ _; exact Nat.le_of_eq rfl) (hb hby d9_41) (fun _ _ => ⟨rfl, e44, nle rfl, nle rfl⟩)
  dsimp only [Pt.U, Pt.locs, Pt.cells, Pt.slots] at X46 hSq46 hg46 l46 y46 z46 st46 hQ46 C46
  subst l46 y46 z46
  obtain ⟨rfl, Nq46, Kq46⟩ := hQ46
  have N46 := Fr.app N44 Nq46
  obtain ⟨h46, e46⟩ : ∃ h, T46.heap = h := ⟨_, rfl⟩
  rw [e46] at Kq46 C46 hSq46
  have hZ : Z.Warmed39 (s.setVm T46.vm).vm := State.Warmed39.trans (t := s.setVm T35.vm) hZ hSq46.1
  have hown : (s.setVm T46.vm).vm.findClass "com/example/portunus/portunus/lock/LockName" = some m.cls := by rw [show (s.setVm T46.vm).vm = T46.vm from rfl, hSq46.1.alike.findClass]; exact hown
  have X46 : Stand p l e _ (s.setVm T46.vm) m _ below meth c T46 _ _ _ := X46
  have hS46 : s.Since T46.vm h46.size := (hS35).trans hSq46 (Nat.le_trans (Nat.le_refl _) Kq46.1)
  have CR46 := CR35.trans C46
  have K47 : Keep h0 h46 [] := K36.trans Kq46 own_m0
  obtain ⟨_, _, ⟨T48, L48, kk48, nn48⟩, -, X48, ⟨Lc48, hQ48, l48, y48, z48⟩, st48⟩ := Jvm.LawKit.callS X46 hx (y := (⟨"java/lang/Character", "charCount", "(I)I"⟩ : MethodName)) hown (mvT hZ (wk hw 85 rfl)) (mvT hZ (wk hw 86 rfl)) (mvT hZ (wk hw 87 rfl)) (mvT hZ (wk hw 88 rfl)) (by decide) (backOf (W := 1) (m19 l Z a0 hw [] (x3 &&& (255 : Int32)) h46 n0 (Nat.le_trans Z0 K47.1) (own_alt al3)) hZ (wk hw 88 rfl) (wk hw 87 rfl) (by decide) (by decide)) (g := (mkF m 86 #[.val (.ref a), .val (.int (3 : Int32)), .val (.int (x3 &&& (255 : Int32)))] [(.int (x3 &&& (255 : Int32))), (.int (3 : Int32))])) rfl (by rw [hml]; rfl) (argsL := [(.int (x3 &&& (255 : Int32)))]) (rest := [(.int (3 : Int32))]) (lenOf pdx__I_I rfl) rfl (by show 2 * 0 + _ ≤ _; exact Nat.le_of_eq rfl) (hb hby d9_86) (fun _ _ => ⟨rfl, e46, nle rfl, nle rfl⟩)
  dsimp only [Pt.U, Pt.locs, Pt.cells, Pt.slots] at X48 l48 y48 z48 st48 hQ48
  subst l48 y48 z48
  obtain ⟨rfl, Nq48, e48⟩ := hQ48
  have N48 := Fr.app N46 Nq48
  have F50 := (F39.keep Kq46)
  have F51 := (F40.keep Kq46 own_n0)
  have F52 := (F41.keep Kq46 own_n0)
  have F53 := (F42.keep Kq46 own_n0)
  have F54 := (own_staK F43 Kq46 ns0)
  obtain ⟨cq49, kq49, qa49, qb49, qc49⟩ := isOf hZ e48 F50
  obtain ⟨_, _, ⟨T49, L49, kk49, nn49⟩, -, X49, ⟨Lc49, hQ49, l49, y49, z49⟩, st49⟩ := X48.virtualBack hx (y := (⟨"java/lang/String", "length", "()I"⟩ : MethodName)) (z := (⟨"java/lang/String", "length", "()I"⟩ : MethodName)) hown (mvT hZ (wk hw 54 rfl)) (mvT hZ (wk hw 55 rfl)) (notFace_of_selects (args := #[]) (mvT hZ (wk hw 57 rfl))) (mvT hZ (wk hw 57 rfl)) (mvT hZ (wk hw 56 rfl)) (by decide) (backOf (W := 1) (m12 l Z a0 hw [] a t k (4 : Int32) [(.int x0), (.int x1), (.int x2), (.int x3)] wcs h46 n0 (Nat.le_trans Z0 K47.1) F50 F51 F52 F53 F54 ncs) hZ (wk hw 58 rfl) (wk hw 10 rfl) (by decide) (by decide)) qa49 qc49 (g := (mkF m 28 #[.val (.ref a), .val (.int (4 : Int32)), .val (.int (x3 &&& (255 : Int32)))] [(.ref a), (.int (4 : Int32))])) rfl (by rw [hml]; rfl) (Steps.refl _) (argsL := []) (rest := [(.int (4 : Int32))]) (lenOf pdx___I rfl) rfl (by show 2 * 0 + _ ≤ _; exact Nat.le_of_eq rfl) (hb hby d9_28) (fun _ _ => ⟨rfl, e48, nle rfl, nle rfl⟩)
  dsimp only [Pt.U, Pt.locs, Pt.cells, Pt.slots] at X49 l49 y49 z49 st49 hQ49
  subst l49 y49 z49
  obtain ⟨rfl, Nq49, e49⟩ := hQ49
  have N49 := Fr.app N48 Nq49
  obtain ⟨cq55, kq55, qa55, qb55, qc55⟩ := isOf hZ e49 F50
  obtain ⟨_, _, ⟨T55, L55, kk55, nn55⟩, -, X55, ⟨Lc55, hQ55, l55, y55, z55⟩, st55⟩ := X49.virtualBack hx (y := (⟨"java/lang/String", "length", "()I"⟩ : MethodName)) (z := (⟨"java/lang/String", "length", "()I"⟩ : MethodName)) hown (mvT hZ (wk hw 54 rfl)) (mvT hZ (wk hw 55 rfl)) (notFace_of_selects (args := #[]) (mvT hZ (wk hw 57 rfl))) (mvT hZ (wk hw 57 rfl)) (mvT hZ (wk hw 56 rfl)) (by decide) (backOf (W := 0) (m12 l Z a0 hw [] a t k (4 : Int32) [(.int x0), (.int x1), (.int x2), (.int x3)] wcs h46 n0 (Nat.le_trans Z0 K47.1) F50 F51 F52 F53 F54 ncs) hZ (wk hw 58 rfl) (wk hw 10 rfl) (by decide) (by decide)) qa55 qc55 (g := (mkF m 95 #[.val (.ref a), .val (.int (4 : Int32)), .val (.int (x3 &&& (255 : Int32)))] [(.ref a)])) rfl (by rw [hml]; rfl) (Steps.refl _) (argsL := []) (rest := []) (lenOf pdx___I rfl) rfl (by show 2 * 0 + _ ≤ _; exact Nat.le_of_eq rfl) (hb hby d9_95) (fun _ _ => ⟨rfl, e49, nle rfl, nle rfl⟩)
  dsimp only [Pt.U, Pt.locs, Pt.cells, Pt.slots] at X55 l55 y55 z55 st55 hQ55
  subst l55 y55 z55
  obtain ⟨rfl, Nq55, e55⟩ := hQ55
  have N55 := Fr.app N49 Nq55
  obtain ⟨T56, h56, X56, e56, E56, A56, D56, -, st56⟩ := newO X55 hx hZ hown (wk hw 90 rfl) (wk hw 91 rfl) (wk hw 40 rfl) e55 (g := (mkF m 140 #[.val (.ref a), .val (.int (4 : Int32)), .val (.int (x3 &&& (255 : Int32)))] [])) rfl (hb hby d9_140) (nle rfl) (nle rfl)
  obtain ⟨b56, g56⟩ : ∃ z, z = h46.size := ⟨_, rfl⟩
  rw [← g56] at A56 D56 st56
  have sz_b56 : h0.size ≤ b56 := Nat.le_trans K47.1 (Nat.le_of_eq g56.symm)
  have ge_b56 : n0 ≤ b56 := Nat.le_trans Z0 sz_b56
  have ne_57 : a ≠ b56 := Nat.ne_of_lt (Nat.lt_of_lt_of_le F50.lt (Nat.le_of_eq g56.symm))
  have ne_58 : t ≠ b56 := Nat.ne_of_lt (Nat.lt_of_lt_of_le F53.lt (Nat.le_of_eq g56.symm))
  have F60 := ((((EX1.keep Kq13).keep Kq24).keep Kq35).keep Kq46)
  have ne_59 : li1 ≠ b56 := Nat.ne_of_lt (Nat.lt_of_lt_of_le F60.lt (Nat.le_of_eq g56.symm))
  have F62 := ((((AV1.keep Kq13 own_n0).keep Kq24 own_n0).keep Kq35 own_n0).keep Kq46 own_n0)
  have ne_61 : b1 ≠ b56 := Nat.ne_of_lt (Nat.lt_of_lt_of_le F62.lt (Nat.le_of_eq g56.symm))
  have CR63 := CR46.trans (CHr.ext E56 CR46.1)
  have K64 : Keep h0 h56 [] := K47.ext E56
  have D56_text := D56 (Or.inr (wk hw 97 rfl)) (ty := (.object "java/lang/String")) (by decide)
  obtain ⟨_, _, ⟨T65, L65, kk65, nn65⟩, -, X65, ⟨Lc65, hQ65, l65, y65, z65⟩, st65⟩ := X56.specialBack hx (y := (⟨"com/example/portunus/portunus/lock/LockName", "<init>", "(Ljava/lang/String;)V"⟩ : MethodName)) rfl hown (mvT hZ (wk hw 92 rfl)) (mvT hZ (wk hw 93 rfl)) (mvT hZ (wk hw 94 rfl)) (by decide) (backOf (W := 1) (m20 l Z a0 hw [] b56 a .null h56 n0 (Nat.le_trans Z0 K64.1) A56 D56_text ge_b56) hZ (wk hw 94 rfl) (wk hw 40 rfl) (by decide) (by decide)) (g := (mkF m 145 #[.val (.ref a), .val (.int (4 : Int32)), .val (.int (x3 &&& (255 : Int32)))] [(.ref a), (.ref b56), (.ref b56)])) rfl (by rw [hml]; rfl) (Steps.refl _) (a := b56) (argsL := [(.ref a)]) (rest := [(.ref b56)]) (lenOf pdx__Ljava_lang_String__V rfl) rfl (by show 2 * 0 + _ ≤ _; exact Nat.le_of_eq rfl) (hb hby d9_145) (fun _ _ => ⟨rfl, e56, nle rfl, nle rfl⟩)
  dsimp only [Pt.U, Pt.locs, Pt.cells, Pt.slots] at X65 l65 y65 z65 st65 hQ65
  subst l65 y65 z65
  obtain ⟨rfl, Nq65, Kq65, P65_0, P65_1⟩ := hQ65
  have N65 := Fr.app N55 Nq65
  obtain ⟨h65, e65⟩ : ∃ h, T65.heap = h := ⟨_, rfl⟩
  rw [e65] at Kq65 P65_0 P65_1
  have ns65 := (nsS A56.nostat ns0)
  have CR66 := CR63.trans (CHr.keep Kq65 (sfS (Safe.exa hZ.alike A56 (by decide) (by decide)) sf0) CR63.1)
  have K67 : Keep h0 h65 [] := K64.trans Kq65 (own_mS (Or.inr sz_b56) own_m0)
  obtain ⟨fs, hr, hrun, hended, hWW⟩ := leaveW (s := s) X65 hS46 (by rw [e65]; exact (Nat.le_trans (Nat.le_trans (Nat.le_refl _) E56.1) Kq65.1)) (v := some (.ref b56)) (fun h => by rw [Bd.returns] at h; cases h)
  refine ⟨_, _, pre0 _ ?_, hrun, hended, _, _, rfl, ?_, ?_, ⟨hWW.1, hWW.2.1, hWW.2.2.1, hWW.2.2.2.mono (nle rfl) (nle rfl)⟩⟩
  · show Steps p.tables e below (s₁.setTop (mkF m 0 #[.val (.ref a), .unset, .unset] [])) _
    refine XS.aloadN X0.here hx rfl (hb hby d9_0) rfl rfl ?_
    show Steps p.tables e below (s₁.setTop (mkF m 1 #[.val (.ref a), .unset, .unset] [(.ref a)])) _
    refine st1 _ ?_
    show Steps p.tables e below (T1.setTop (mkF m 3 #[.val (.ref a), .unset, .unset] [(.ref li1), (.ref a)])) _
    refine st3 _ ?_
    show Steps p.tables e below (T3.setTop (mkF m 6 #[.val (.ref a), .unset, .unset] [(.ref a)])) _
    refine XS.pop X3.here hx rfl (hb hby d9_6) rfl rfl ?_
    show Steps p.tables e below (T3.setTop (mkF m 7 #[.val (.ref a), .unset, .unset] [])) _
    refine XS.aloadN X3.here hx rfl (hb hby d9_7) rfl rfl ?_
    show Steps p.tables e below (T3.setTop (mkF m 8 #[.val (.ref a), .unset, .unset] [(.ref a)])) _
    refine st4.trans ?_
    show Steps p.tables e below (T4.setTop (mkF m 11 #[.val (.ref a), .unset, .unset] [(.int (0 : Int32))])) _
    refine XS.ifYes X4.here hx rfl (pc0 := 11) (pc' := 24) rfl (hb hby d9_11) rfl ((if0 _ _).trans (teq (by decide : (0 : Int32) = (0 : Int32))).1) (by decide) (by decide) ?_
    show Steps p.tables e below (T4.setTop (mkF m 24 #[.val (.ref a), .unset, .unset] [])) _
    refine XS.iconst X4.here hx rfl (hb hby d9_24) ?_
    show Steps p.tables e below (T4.setTop (mkF m 25 #[.val (.ref a), .unset, .unset] [(.int (0 : Int32))])) _
    refine XS.istoreN X4.here hx rfl (hb hby d9_25) rfl (l' := #[.val (.ref a), .val (.int (0 : Int32)), .unset]) rfl ?_
    show Steps p.tables e below (T4.setTop (mkF m 26 #[.val (.ref a), .val (.int (0 : Int32)), .unset] [])) _
    refine XS.iloadN X4.here hx rfl (hb hby d9_26) rfl ?_
    show Steps p.tables e below (T4.setTop (mkF m 27 #[.val (.ref a), .val (.int (0 : Int32)), .unset] [(.int (0 : Int32))])) _
    refine XS.aloadN X4.here hx rfl (hb hby d9_27) rfl rfl ?_
    show Steps p.tables e below (T4.setTop (mkF m 28 #[.val (.ref a), .val (.int (0 : Int32)), .unset] [(.ref a), (.int (0 : Int32))])) _
    refine st9.trans ?_
    show Steps p.tables e below (T9.setTop (mkF m 31 #[.val (.ref a), .val (.int (0 : Int32)), .unset] [(.int (4 : Int32)), (.int (0 : Int32))])) _
    refine XS.icmpNo X9.here hx rfl (hb hby d9_31) rfl (tlt (by decide : (0 : Int32) < (4 : Int32))).2.1 ?_
    show Steps p.tables e below (T9.setTop (mkF m 34 #[.val (.ref a), .val (.int (0 : Int32)), .unset] [])) _
    refine XS.aloadN X9.here hx rfl (hb hby d9_34) rfl rfl ?_
    show Steps p.tables e below (T9.setTop (mkF m 35 #[.val (.ref a), .val (.int (0 : Int32)), .unset] [(.ref a)])) _
    refine XS.iloadN X9.here hx rfl (hb hby d9_35) rfl ?_
    show Steps p.tables e below (T9.setTop (mkF m 36 #[.val (.ref a), .val (.int (0 : Int32)), .unset] [(.int (0 : Int32)), (.ref a)])) _
    refine st11.trans ?_
    show Steps p.tables e below (T11.setTop (mkF m 39 #[.val (.ref a), .val (.int (0 : Int32)), .unset] [(.int (x0 &&& (255 : Int32)))])) _
    refine XS.istoreN X11.here hx rfl (hb hby d9_39) rfl (l' := #[.val (.ref a), .val (.int (0 : Int32)), .val (.int (x0 &&& (255 : Int32)))]) rfl ?_
    show Steps p.tables e below (T11.setTop (mkF m 40 #[.val (.ref a), .val (.int (0 : Int32)), .val (.int (x0 &&& (255 : Int32)))] [])) _
    refine XS.iloadN X11.here hx rfl (hb hby d9_40) rfl ?_
    show Steps p.tables e below (T11.setTop (mkF m 41 #[.val (.ref a), .val (.int (0 : Int32)), .val (.int (x0 &&& (255 : Int32)))] [(.int (x0 &&& (255 : Int32)))])) _
    refine st13.trans ?_
    show Steps p.tables e below (T13.setTop (mkF m 44 #[.val (.ref a), .val (.int (0 : Int32)), .val (.int (x0 &&& (255 : Int32)))] [(.int (1 : Int32))])) _
    refine XS.ifYes X13.here hx rfl (pc0 := 44) (pc' := 84) rfl (hb hby d9_44) rfl ((if0 _ _).trans (feq (by decide : ¬ ((1 : Int32) = (0 : Int32)))).2) (by decide) (by decide) ?_
    show Steps p.tables e below (T13.setTop (mkF m 84 #[.val (.ref a), .val (.int (0 : Int32)), .val (.int (x0 &&& (255 : Int32)))] [])) _
    refine XS.iloadN X13.here hx rfl (hb hby d9_84) rfl ?_
    show Steps p.tables e below (T13.setTop (mkF m 85 #[.val (.ref a), .val (.int (0 : Int32)), .val (.int (x0 &&& (255 : Int32)))] [(.int (0 : Int32))])) _
    refine XS.iloadN X13.here hx rfl (hb hby d9_85) rfl ?_
    show Steps p.tables e below (T13.setTop (mkF m 86 #[.val (.ref a), .val (.int (0 : Int32)), .val (.int (x0 &&& (255 : Int32)))] [(.int (x0 &&& (255 : Int32))), (.int (0 : Int32))])) _
    refine st15 _ ?_
    show Steps p.tables e below (T15.setTop (mkF m 89 #[.val (.ref a), .val (.int (0 : Int32)), .val (.int (x0 &&& (255 : Int32)))] [(.int (1 : Int32)), (.int (0 : Int32))])) _
    show Steps p.tables e below (T15.setTop (mkF m 89 #[.val (.ref a), .val (.int (0 : Int32)), .val (.int (x0 &&& (255 : Int32)))] [(.int (1 : Int32)), (.int (0 : Int32))])) _
    refine XS.iadd X15.here hx rfl (hb hby d9_89) rfl ?_
    show Steps p.tables e below (T15.setTop (mkF m 90 #[.val (.ref a), .val (.int (0 : Int32)), .val (.int (x0 &&& (255 : Int32)))] [(.int (1 : Int32))])) _
    refine XS.istoreN X15.here hx rfl (hb hby d9_90) rfl (l' := #[.val (.ref a), .val (.int (1 : Int32)), .val (.int (x0 &&& (255 : Int32)))]) rfl ?_
    show Steps p.tables e below (T15.setTop (mkF m 91 #[.val (.ref a), .val (.int (1 : Int32)), .val (.int (x0 &&& (255 : Int32)))] [])) _
    refine XS.goto X15.here hx rfl (pc0 := 91) (pc' := 26) rfl (hb hby d9_91) (by decide) (by decide) ?_
    show Steps p.tables e below (T15.setTop (mkF m 26 #[.val (.ref a), .val (.int (1 : Int32)), .val (.int (x0 &&& (255 : Int32)))] [])) _
    refine XS.iloadN X15.here hx rfl (hb hby d9_26) rfl ?_
    show Steps p.tables e below (T15.setTop (mkF m 27 #[.val (.ref a), .val (.int (1 : Int32)), .val (.int (x0 &&& (255 : Int32)))] [(.int (1 : Int32))])) _
    refine XS.aloadN X15.here hx rfl (hb hby d9_27) rfl rfl ?_
    show Steps p.tables e below (T15.setTop (mkF m 28 #[.val (.ref a), .val (.int (1 : Int32)), .val (.int (x0 &&& (255 : Int32)))] [(.ref a), (.int (1 : Int32))])) _
    refine st16.trans ?_
    show Steps p.tables e below (T16.setTop (mkF m 31 #[.val (.ref a), .val (.int (1 : Int32)), .val (.int (x0 &&& (255 : Int32)))] [(.int (4 : Int32)), (.int (1 : Int32))])) _
    refine XS.icmpNo X16.here hx rfl (hb hby d9_31) rfl (tlt (by decide : (1 : Int32) < (4 : Int32))).2.1 ?_
    show Steps p.tables e below (T16.setTop (mkF m 34 #[.val (.ref a), .val (.int (1 : Int32)), .val (.int (x0 &&& (255 : Int32)))] [])) _
    refine XS.aloadN X16.here hx rfl (hb hby d9_34) rfl rfl ?_
    show Steps p.tables e below (T16.setTop (mkF m 35 #[.val (.ref a), .val (.int (1 : Int32)), .val (.int (x0 &&& (255 : Int32)))] [(.ref a)])) _
    refine XS.iloadN X16.here hx rfl (hb hby d9_35) rfl ?_
    show Steps p.tables e below (T16.setTop (mkF m 36 #[.val (.ref a), .val (.int (1 : Int32)), .val (.int (x0 &&& (255 : Int32)))] [(.int (1 : Int32)), (.ref a)])) _
    refine st22.trans ?_
    show Steps p.tables e below (T22.setTop (mkF m 39 #[.val (.ref a), .val (.int (1 : Int32)), .val (.int (x0 &&& (255 : Int32)))] [(.int (x1 &&& (255 : Int32)))])) _
    refine XS.istoreN X22.here hx rfl (hb hby d9_39) rfl (l' := #[.val (.ref a), .val (.int (1 : Int32)), .val (.int (x1 &&& (255 : Int32)))]) rfl ?_
    show Steps p.tables e below (T22.setTop (mkF m 40 #[.val (.ref a), .val (.int (1 : Int32)), .val (.int (x1 &&& (255 : Int32)))] [])) _
    refine XS.iloadN X22.here hx rfl (hb hby d9_40) rfl ?_
    show Steps p.tables e below (T22.setTop (mkF m 41 #[.val (.ref a), .val (.int (1 : Int32)), .val (.int (x1 &&& (255 : Int32)))] [(.int (x1 &&& (255 : Int32)))])) _
    refine st24.trans ?_
    show Steps p.tables e below (T24.setTop (mkF m 44 #[.val (.ref a), .val (.int (1 : Int32)), .val (.int (x1 &&& (255 : Int32)))] [(.int (1 : Int32))])) _
    refine XS.ifYes X24.here hx rfl (pc0 := 44) (pc' := 84) rfl (hb hby d9_44) rfl ((if0 _ _).trans (feq (by decide : ¬ ((1 : Int32) = (0 : Int32)))).2) (by decide) (by decide) ?_
    show Steps p.tables e below (T24.setTop (mkF m 84 #[.val (.ref a), .val (.int (1 : Int32)), .val (.int (x1 &&& (255 : Int32)))] [])) _
    refine XS.iloadN X24.here hx rfl (hb hby d9_84) rfl ?_
    show Steps p.tables e below (T24.setTop (mkF m 85 #[.val (.ref a), .val (.int (1 : Int32)), .val (.int (x1 &&& (255 : Int32)))] [(.int (1 : Int32))])) _
    refine XS.iloadN X24.here hx rfl (hb hby d9_85) rfl ?_
    show Steps p.tables e below (T24.setTop (mkF m 86 #[.val (.ref a), .val (.int (1 : Int32)), .val (.int (x1 &&& (255 : Int32)))] [(.int (x1 &&& (255 : Int32))), (.int (1 : Int32))])) _
    refine st26 _ ?_
    show Steps p.tables e below (T26.setTop (mkF m 89 #[.val (.ref a), .val (.int (1 : Int32)), .val (.int (x1 &&& (255 : Int32)))] [(.int (1 : Int32)), (.int (1 : Int32))])) _
    show Steps p.tables e below (T26.setTop (mkF m 89 #[.val (.ref a), .val (.int (1 : Int32)), .val (.int (x1 &&& (255 : Int32)))] [(.int (1 : Int32)), (.int (1 : Int32))])) _
    refine XS.iadd X26.here hx rfl (hb hby d9_89) rfl ?_
    show Steps p.tables e below (T26.setTop (mkF m 90 #[.val (.ref a), .val (.int (1 : Int32)), .val (.int (x1 &&& (255 : Int32)))] [(.int (2 : Int32))])) _
    refine XS.istoreN X26.here hx rfl (hb hby d9_90) rfl (l' := #[.val (.ref a), .val (.int (2 : Int32)), .val (.int (x1 &&& (255 : Int32)))]) rfl ?_
    show Steps p.tables e below (T26.setTop (mkF m 91 #[.val (.ref a), .val (.int (2 : Int32)), .val (.int (x1 &&& (255 : Int32)))] [])) _
    refine XS.goto X26.here hx rfl (pc0 := 91) (pc' := 26) rfl (hb hby d9_91) (by decide) (by decide) ?_
    show Steps p.tables e below (T26.setTop (mkF m 26 #[.val (.ref a), .val (.int (2 : Int32)), .val (.int (x1 &&& (255 : Int32)))] [])) _
    refine XS.iloadN X26.here hx rfl (hb hby d9_26) rfl ?_
    show Steps p.tables e below (T26.setTop (mkF m 27 #[.val (.ref a), .val (.int (2 : Int32)), .val (.int (x1 &&& (255 : Int32)))] [(.int (2 : Int32))])) _
    refine XS.aloadN X26.here hx rfl (hb hby d9_27) rfl rfl ?_
    show Steps p.tables e below (T26.setTop (mkF m 28 #[.val (.ref a), .val (.int (2 : Int32)), .val (.int (x1 &&& (255 : Int32)))] [(.ref a), (.int (2 : Int32))])) _
    refine st27.trans ?_
    show Steps p.tables e below (T27.setTop (mkF m 31 #[.val (.ref a), .val (.int (2 : Int32)), .val (.int (x1 &&& (255 : Int32)))] [(.int (4 : Int32)), (.int (2 : Int32))])) _
    refine XS.icmpNo X27.here hx rfl (hb hby d9_31) rfl (tlt (by decide : (2 : Int32) < (4 : Int32))).2.1 ?_
    show Steps p.tables e below (T27.setTop (mkF m 34 #[.val (.ref a), .val (.int (2 : Int32)), .val (.int (x1 &&& (255 : Int32)))] [])) _
    refine XS.aloadN X27.here hx rfl (hb hby d9_34) rfl rfl ?_
    show Steps p.tables e below (T27.setTop (mkF m 35 #[.val (.ref a), .val (.int (2 : Int32)), .val (.int (x1 &&& (255 : Int32)))] [(.ref a)])) _
    refine XS.iloadN X27.here hx rfl (hb hby d9_35) rfl ?_
    show Steps p.tables e below (T27.setTop (mkF m 36 #[.val (.ref a), .val (.int (2 : Int32)), .val (.int (x1 &&& (255 : Int32)))] [(.int (2 : Int32)), (.ref a)])) _
    refine st33.trans ?_
    show Steps p.tables e below (T33.setTop (mkF m 39 #[.val (.ref a), .val (.int (2 : Int32)), .val (.int (x1 &&& (255 : Int32)))] [(.int (x2 &&& (255 : Int32)))])) _
    refine XS.istoreN X33.here hx rfl (hb hby d9_39) rfl (l' := #[.val (.ref a), .val (.int (2 : Int32)), .val (.int (x2 &&& (255 : Int32)))]) rfl ?_
    show Steps p.tables e below (T33.setTop (mkF m 40 #[.val (.ref a), .val (.int (2 : Int32)), .val (.int (x2 &&& (255 : Int32)))] [])) _
    refine XS.iloadN X33.here hx rfl (hb hby d9_40) rfl ?_
    show Steps p.tables e below (T33.setTop (mkF m 41 #[.val (.ref a), .val (.int (2 : Int32)), .val (.int (x2 &&& (255 : Int32)))] [(.int (x2 &&& (255 : Int32)))])) _
    refine st35.trans ?_
    show Steps p.tables e below (T35.setTop (mkF m 44 #[.val (.ref a), .val (.int (2 : Int32)), .val (.int (x2 &&& (255 : Int32)))] [(.int (1 : Int32))])) _
    refine XS.ifYes X35.here hx rfl (pc0 := 44) (pc' := 84) rfl (hb hby d9_44) rfl ((if0 _ _).trans (feq (by decide : ¬ ((1 : Int32) = (0 : Int32)))).2) (by decide) (by decide) ?_
    show Steps p.tables e below (T35.setTop (mkF m 84 #[.val (.ref a), .val (.int (2 : Int32)), .val (.int (x2 &&& (255 : Int32)))] [])) _
    refine XS.iloadN X35.here hx rfl (hb hby d9_84) rfl ?_
    show Steps p.tables e below (T35.setTop (mkF m 85 #[.val (.ref a), .val (.int (2 : Int32)), .val (.int (x2 &&& (255 : Int32)))] [(.int (2 : Int32))])) _
    refine XS.iloadN X35.here hx rfl (hb hby d9_85) rfl ?_
    show Steps p.tables e below (T35.setTop (mkF m 86 #[.val (.ref a), .val (.int (2 : Int32)), .val (.int (x2 &&& (255 : Int32)))] [(.int (x2 &&& (255 : Int32))), (.int (2 : Int32))])) _
    refine st37 _ ?_
    show Steps p.tables e below (T37.setTop (mkF m 89 #[.val (.ref a), .val (.int (2 : Int32)), .val (.int (x2 &&& (255 : Int32)))] [(.int (1 : Int32)), (.int (2 : Int32))])) _
    show Steps p.tables e below (T37.setTop (mkF m 89 #[.val (.ref a), .val (.int (2 : Int32)), .val (.int (x2 &&& (255 : Int32)))] [(.int (1 : Int32)), (.int (2 : Int32))])) _
    refine XS.iadd X37.here hx rfl (hb hby d9_89) rfl ?_
    show Steps p.tables e below (T37.setTop (mkF m 90 #[.val (.ref a), .val (.int (2 : Int32)), .val (.int (x2 &&& (255 : Int32)))] [(.int (3 : Int32))])) _
    refine XS.istoreN X37.here hx rfl (hb hby d9_90) rfl (l' := #[.val (.ref a), .val (.int (3 : Int32)), .val (.int (x2 &&& (255 : Int32)))]) rfl ?_
    show Steps p.tables e below (T37.setTop (mkF m 91 #[.val (.ref a), .val (.int (3 : Int32)), .val (.int (x2 &&& (255 : Int32)))] [])) _
    refine XS.goto X37.here hx rfl (pc0 := 91) (pc' := 26) rfl (hb hby d9_91) (by decide) (by decide) ?_
    show Steps p.tables e below (T37.setTop (mkF m 26 #[.val (.ref a), .val (.int (3 : Int32)), .val (.int (x2 &&& (255 : Int32)))] [])) _
    refine XS.iloadN X37.here hx rfl (hb hby d9_26) rfl ?_
    show Steps p.tables e below (T37.setTop (mkF m 27 #[.val (.ref a), .val (.int (3 : Int32)), .val (.int (x2 &&& (255 : Int32)))] [(.int (3 : Int32))])) _
    refine XS.aloadN X37.here hx rfl (hb hby d9_27) rfl rfl ?_
    show Steps p.tables e below (T37.setTop (mkF m 28 #[.val (.ref a), .val (.int (3 : Int32)), .val (.int (x2 &&& (255 : Int32)))] [(.ref a), (.int (3 : Int32))])) _
    refine st38.trans ?_
    show Steps p.tables e below (T38.setTop (mkF m 31 #[.val (.ref a), .val (.int (3 : Int32)), .val (.int (x2 &&& (255 : Int32)))] [(.int (4 : Int32)), (.int (3 : Int32))])) _
    refine XS.icmpNo X38.here hx rfl (hb hby d9_31) rfl (tlt (by decide : (3 : Int32) < (4 : Int32))).2.1 ?_
    show Steps p.tables e below (T38.setTop (mkF m 34 #[.val (.ref a), .val (.int (3 : Int32)), .val (.int (x2 &&& (255 : Int32)))] [])) _
    refine XS.aloadN X38.here hx rfl (hb hby d9_34) rfl rfl ?_
    show Steps p.tables e below (T38.setTop (mkF m 35 #[.val (.ref a), .val (.int (3 : Int32)), .val (.int (x2 &&& (255 : Int32)))] [(.ref a)])) _
    refine XS.iloadN X38.here hx rfl (hb hby d9_35) rfl ?_
    show Steps p.tables e below (T38.setTop (mkF m 36 #[.val (.ref a), .val (.int (3 : Int32)), .val (.int (x2 &&& (255 : Int32)))] [(.int (3 : Int32)), (.ref a)])) _
    refine st44.trans ?_
    show Steps p.tables e below (T44.setTop (mkF m 39 #[.val (.ref a), .val (.int (3 : Int32)), .val (.int (x2 &&& (255 : Int32)))] [(.int (x3 &&& (255 : Int32)))])) _
    refine XS.istoreN X44.here hx rfl (hb hby d9_39) rfl (l' := #[.val (.ref a), .val (.int (3 : Int32)), .val (.int (x3 &&& (255 : Int32)))]) rfl ?_
    show Steps p.tables e below (T44.setTop (mkF m 40 #[.val (.ref a), .val (.int (3 : Int32)), .val (.int (x3 &&& (255 : Int32)))] [])) _
    refine XS.iloadN X44.here hx rfl (hb hby d9_40) rfl ?_
    show Steps p.tables e below (T44.setTop (mkF m 41 #[.val (.ref a), .val (.int (3 : Int32)), .val (.int (x3 &&& (255 : Int32)))] [(.int (x3 &&& (255 : Int32)))])) _
    refine st46.trans ?_
    show Steps p.tables e below (T46.setTop (mkF m 44 #[.val (.ref a), .val (.int (3 : Int32)), .val (.int (x3 &&& (255 : Int32)))] [(.int (1 : Int32))])) _
    refine XS.ifYes X46.here hx rfl (pc0 := 44) (pc' := 84) rfl (hb hby d9_44) rfl ((if0 _ _).trans (feq (by decide : ¬ ((1 : Int32) = (0 : Int32)))).2) (by decide) (by decide) ?_
    show Steps p.tables e below (T46.setTop (mkF m 84 #[.val (.ref a), .val (.int (3 : Int32)), .val (.int (x3 &&& (255 : Int32)))] [])) _
    refine XS.iloadN X46.here hx rfl (hb hby d9_84) rfl ?_
    show Steps p.tables e below (T46.setTop (mkF m 85 #[.val (.ref a), .val (.int (3 : Int32)), .val (.int (x3 &&& (255 : Int32)))] [(.int (3 : Int32))])) _
    refine XS.iloadN X46.here hx rfl (hb hby d9_85) rfl ?_
    show Steps p.tables e below (T46.setTop (mkF m 86 #[.val (.ref a), .val (.int (3 : Int32)), .val (.int (x3 &&& (255 : Int32)))] [(.int (x3 &&& (255 : Int32))), (.int (3 : Int32))])) _
    refine st48 _ ?_
    show Steps p.tables e below (T48.setTop (mkF m 89 #[.val (.ref a), .val (.int (3 : Int32)), .val (.int (x3 &&& (255 : Int32)))] [(.int (1 : Int32)), (.int (3 : Int32))])) _
    show Steps p.tables e below (T48.setTop (mkF m 89 #[.val (.ref a), .val (.int (3 : Int32)), .val (.int (x3 &&& (255 : Int32)))] [(.int (1 : Int32)), (.int (3 : Int32))])) _
    refine XS.iadd X48.here hx rfl (hb hby d9_89) rfl ?_
    show Steps p.tables e below (T48.setTop (mkF m 90 #[.val (.ref a), .val (.int (3 : Int32)), .val (.int (x3 &&& (255 : Int32)))] [(.int (4 : Int32))])) _
    refine XS.istoreN X48.here hx rfl (hb hby d9_90) rfl (l' := #[.val (.ref a), .val (.int (4 : Int32)), .val (.int (x3 &&& (255 : Int32)))]) rfl ?_
    show Steps p.tables e below (T48.setTop (mkF m 91 #[.val (.ref a), .val (.int (4 : Int32)), .val (.int (x3 &&& (255 : Int32)))] [])) _
    refine XS.goto X48.here hx rfl (pc0 := 91) (pc' := 26) rfl (hb hby d9_91) (by decide) (by decide) ?_
    show Steps p.tables e below (T48.setTop (mkF m 26 #[.val (.ref a), .val (.int (4 : Int32)), .val (.int (x3 &&& (255 : Int32)))] [])) _
    refine XS.iloadN X48.here hx rfl (hb hby d9_26) rfl ?_
    show Steps p.tables e below (T48.setTop (mkF m 27 #[.val (.ref a), .val (.int (4 : Int32)), .val (.int (x3 &&& (255 : Int32)))] [(.int (4 : Int32))])) _
    refine XS.aloadN X48.here hx rfl (hb hby d9_27) rfl rfl ?_
    show Steps p.tables e below (T48.setTop (mkF m 28 #[.val (.ref a), .val (.int (4 : Int32)), .val (.int (x3 &&& (255 : Int32)))] [(.ref a), (.int (4 : Int32))])) _
    refine st49.trans ?_
    show Steps p.tables e below (T49.setTop (mkF m 31 #[.val (.ref a), .val (.int (4 : Int32)), .val (.int (x3 &&& (255 : Int32)))] [(.int (4 : Int32)), (.int (4 : Int32))])) _
    refine XS.icmpYes X49.here hx rfl (pc0 := 31) (pc' := 94) rfl (hb hby d9_31) rfl (flt (by decide : ¬ ((4 : Int32) < (4 : Int32)))).2.1 (by decide) (by decide) ?_
    show Steps p.tables e below (T49.setTop (mkF m 94 #[.val (.ref a), .val (.int (4 : Int32)), .val (.int (x3 &&& (255 : Int32)))] [])) _
    refine XS.aloadN X49.here hx rfl (hb hby d9_94) rfl rfl ?_
    show Steps p.tables e below (T49.setTop (mkF m 95 #[.val (.ref a), .val (.int (4 : Int32)), .val (.int (x3 &&& (255 : Int32)))] [(.ref a)])) _
    refine st55.trans ?_
    show Steps p.tables e below (T55.setTop (mkF m 98 #[.val (.ref a), .val (.int (4 : Int32)), .val (.int (x3 &&& (255 : Int32)))] [(.int (4 : Int32))])) _
    refine XS.sipush X55.here hx rfl (hb hby d9_98) ?_
    show Steps p.tables e below (T55.setTop (mkF m 101 #[.val (.ref a), .val (.int (4 : Int32)), .val (.int (x3 &&& (255 : Int32)))] [(.int (128 : Int32)), (.int (4 : Int32))])) _
    refine XS.icmpYes X55.here hx rfl (pc0 := 101) (pc' := 140) rfl (hb hby d9_101) rfl (flt (by decide : ¬ ((128 : Int32) < (4 : Int32)))).2.2.2 (by decide) (by decide) ?_
    show Steps p.tables e below (T55.setTop (mkF m 140 #[.val (.ref a), .val (.int (4 : Int32)), .val (.int (x3 &&& (255 : Int32)))] [])) _
    refine st56 _ ?_
    show Steps p.tables e below (T56.setTop (mkF m 143 #[.val (.ref a), .val (.int (4 : Int32)), .val (.int (x3 &&& (255 : Int32)))] [(.ref b56)])) _
    refine XS.dup X56.here hx rfl (hb hby d9_143) rfl rfl ?_
    show Steps p.tables e below (T56.setTop (mkF m 144 #[.val (.ref a), .val (.int (4 : Int32)), .val (.int (x3 &&& (255 : Int32)))] [(.ref b56), (.ref b56)])) _
    refine XS.aloadN X56.here hx rfl (hb hby d9_144) rfl rfl ?_
    show Steps p.tables e below (T56.setTop (mkF m 145 #[.val (.ref a), .val (.int (4 : Int32)), .val (.int (x3 &&& (255 : Int32)))] [(.ref a), (.ref b56), (.ref b56)])) _
    refine st65.trans ?_
    show Steps p.tables e below (T65.setTop (mkF m 148 #[.val (.ref a), .val (.int (4 : Int32)), .val (.int (x3 &&& (255 : Int32)))] [(.ref b56)])) _
    exact X65.areturnOut hx rfl Bd.returns rfl (hb hby d9_148) hr
  · show Q_m9_4 Z a t k x0 x1 x2 x3 wcs rg EL h0 n0 _ T65.heap _
    rw [e65]
    exact ⟨b56, rfl, N65, K67, P65_0, P65_1, sz_b56⟩
  · show CHr Z EL s.vm s.heap T65.vm T65.heap
    rw [e65, hh]
    exact CR66.trans (CHv.at (s := s) (vm0 := T46.vm) X65 hZ hEL CR66.1)
def Q_m9_3 (Z : State) (a : Addr) (t : Addr) (k : ClassId) (x0 : Int32) (x1 : Int32) (x2 : Int32) (wcs : Int32) (rg : Value) (EL : List (String × Nat)) (h0 : Heap) (n0 : Nat) (v : Option Value) (h : Heap) (L : List Loc) : Prop := ∃ (b : Addr), v = (some (.ref b)) ∧ Fr n0 L ∧ Keep h0 h [] ∧ Exa Z h b "com/example/portunus/portunus/lock/LockName" ∧ Fld Z h b "com/example/portunus/portunus/lock/LockName" "text" "Ljava/lang/String;" (.ref a) ∧ h0.size ≤ b
theorem ef_m9_3 (m : MethodId) (a : Addr) (t : Addr) (k : ClassId) (x0 : Int32) (x1 : Int32) (x2 : Int32) (wcs : Int32) (rg : Value) (EL : List (String × Nat)) : entryFrame m #[(.ref a)] 3 = mkF m 0 #[.val (.ref a), .unset, .unset] [] := by first | (simp [entryFrame, mkF, argsToLocals, Value.category]; done) | rfl
set_option maxRecDepth 65536 in
set_option maxHeartbeats 40000000 in
theorem m9_3 (l : Launch) (Z : State) (a0 : Array Value) (hw : ∀ d ∈ tables_1, d.before a0 Z = true) (ws : List Jvm.Cond) (a : Addr) (t : Addr) (k : ClassId) (x0 : Int32) (x1 : Int32) (x2 : Int32) (wcs : Int32) (rg : Value) (EL : List (String × Nat)) (h0 : Heap) (n0 : Nat) (Z0 : n0 ≤ h0.size) (E_a : Exa Z h0 a "java/lang/String") (Fc_a : Fld Z h0 a "java/lang/String" "coder" "B" (.int (0 : Int32))) (Fv_a : Fld Z h0 a "java/lang/String" "value" "[B" (.ref t)) (V : Arv Z h0 t k .byte (3 : Int32) [(.int x0), (.int x1), (.int x2)] (.int (0 : Int32))) (S_CS : Sta Z h0 "java/lang/String" "COMPACT_STRINGS" "Z" (.int wcs)) (ncs : ¬ (wcs = (0 : Int32))) (S_SI : Sta Z h0 "jdk/internal/util/Preconditions" "SIOOBE_FORMATTER" "Ljava/util/function/BiFunction;" rg) (r_rg : rg.isRef = true) (hEL : EW Z a0 EL) (hm13 : (("com/example/portunus/portunus/lock/LockName", 13) : String × Nat) ∈ EL) (hm82 : (("com/example/portunus/portunus/lock/LockName", 82) : String × Nat) ∈ EL) (al0 : own_al (x0 &&& (255 : Int32))) (al1 : own_al (x1 &&& (255 : Int32))) (al2 : own_al (x2 &&& (255 : Int32))) :
    MetFree l (⟨"com/example/portunus/portunus/lock/LockName", "of", "(Ljava/lang/String;)Lcom/example/portunus/portunus/lock/LockName;"⟩ : MethodName) (head1 (Jvm.Cond.code (⟨"com/example/portunus/portunus/lock/LockName", "of", "(Ljava/lang/String;)Lcom/example/portunus/portunus/lock/LockName;"⟩ : MethodName) prog_10_method_2_code 3 (some (.object "com/example/portunus/portunus/lock/LockName")) :: ws) ({ frames := 5, cells := 11, slots := 137, locals := 73 } : Room)) (fun ar_ U => ar_ = #[(.ref a)] ∧ Z.Warmed39 U.vm ∧ U.heap = h0 ∧ CHv Z EL U.vm h0) (fun _ _ _ _ _ => True) (fun _ U o U' => ∃ v L, o = .returned v ∧ Q_m9_3 Z a t k x0 x1 x2 wcs rg EL h0 n0 v U'.heap L ∧ CHr Z EL U.vm U.heap U'.vm U'.heap ∧ ReturnedEndW U o U' L ({ frames := 5, cells := 11, slots := 137, locals := 73 } : Room).cells ({ frames := 5, cells := 11, slots := 137, locals := 73 } : Room).slots) := by
  refine MetFree.of_bodySF (plainFor_of_name pnx_com_example_portunus_portunus_lock_LockName) hisR ?_
  intro p e s m args below meth c s₁ Bd hml0 hP hK
  obtain ⟨rfl, hZ, hh, HC⟩ := hP
  have hx := Bd.exec
  have hby := Bd.bytes
  have hml : c.maxLocals = 3 := hml0
  have hown : s.vm.findClass "com/example/portunus/portunus/lock/LockName" = some m.cls := findClass_of_methodNamed Bd.named
  have hnm := (name_of_methodNamed Bd.named Bd.method).1
  have X0 : Stand p l e ({ frames := 5, cells := 11, slots := 137, locals := 73 } : Room) s m #[(.ref a)] below meth c s₁ [] 0 0 := Stand.of_body Bd
  have e0 : s₁.heap = h0 := by rw [← hh, Bd.state]; rfl
  have N0 := Fr.nil n0
  have pre0 : ∀ tq_, Steps p.tables e below (s₁.setTop (mkF m 0 #[.val (.ref a), .unset, .unset] [])) tq_ → Steps p.tables e below (s₁.setTop (entryFrame m #[(.ref a)] 3)) tq_ := fun tq_ kt_ => castTop (ef_m9_3 m a t k x0 x1 x2 wcs rg EL ) kt_
  obtain ⟨li1, T1, h1, k1, b1, kb1, X1, e1, E1, hS1, hk1, hZ, hown, EX1, FC1, FV1, AV1, la1, lb1, C1, Lt1, ne1, st1⟩ := ldcCH (s := s) (vm0 := s.vm) (EL := EL) X0 hx hZ hown (wk hw 42 rfl) (own_wS hw) e0 ((State.WarmedH.refl s).since 0) (Nat.zero_le _) hEL hm13 HC (vs := [(.int (108 : Int32)), (.int (111 : Int32)), (.int (99 : Int32)), (.int (107 : Int32)), (.int (32 : Int32)), (.int (110 : Int32)), (.int (97 : Int32)), (.int (109 : Int32)), (.int (101 : Int32))]) (z := (9 : Int32)) ⟨by decide, by decide⟩ (by decide) (by decide) (g := (mkF m 1 #[.val (.ref a), .unset, .unset] [(.ref a)])) rfl (hb hby d9_1) (n := 36) (by decide) (by decide) (nle rfl) (nle rfl)
  have CR1 := C1
  have K2 : Keep h0 h1 [] := (Keep.refl h0 []).ext E1
  obtain ⟨_, _, ⟨T3, L3, kk3, nn3⟩, -, X3, ⟨Lc3, hQ3, l3, y3, z3⟩, st3⟩ := Jvm.LawKit.callS X1 hx (y := (⟨"java/util/Objects", "requireNonNull", "(Ljava/lang/Object;Ljava/lang/String;)Ljava/lang/Object;"⟩ : MethodName)) hown (mvT hZ (wk hw 45 rfl)) (mvT hZ (wk hw 46 rfl)) (mvT hZ (wk hw 47 rfl)) (mvT hZ (wk hw 48 rfl)) (by decide) (backOf (W := 0) (m10 l Z a0 hw [] a li1 h1 n0 (Nat.le_trans Z0 K2.1) ) hZ (wk hw 48 rfl) (wk hw 47 rfl) (by decide) (by decide)) (g := (mkF m 3 #[.val (.ref a), .unset, .unset] [(.ref li1), (.ref a)])) rfl (by rw [hml]; rfl) (argsL := [(.ref a), (.ref li1)]) (rest := []) (lenOf pdx__Ljava_lang_Object_Ljava_lang_String__Ljava_lang_Object_ rfl) rfl (by show 2 * 0 + _ ≤ _; exact Nat.le_of_eq rfl) (hb hby d9_3) (fun _ _ => ⟨rfl, e1, nle rfl, nle rfl⟩)
  dsimp only [Pt.U, Pt.locs, Pt.cells, Pt.slots] at X3 l3 y3 z3 st3 hQ3
  subst l3 y3 z3
  obtain ⟨rfl, Nq3, e3⟩ := hQ3
  have N3 := Fr.app N0 Nq3
  have F5 := (E_a.ext E1)
  have F6 := (Fc_a.ext E1)
  have F7 := (Fv_a.ext E1)
  have F8 := (V.ext E1)
  obtain ⟨cq4, kq4, qa4, qb4, qc4⟩ := isOf hZ e3 F5
  obtain ⟨_, _, ⟨T4, L4, kk4, nn4⟩, -, X4, ⟨Lc4, hQ4, l4, y4, z4⟩, st4⟩ := X3.virtualBack hx (y := (⟨"java/lang/String", "isEmpty", "()Z"⟩ : MethodName)) (z := (⟨"java/lang/String", "isEmpty", "()Z"⟩ : MethodName)) hown (mvT hZ (wk hw 49 rfl)) (mvT hZ (wk hw 50 rfl)) (notFace_of_selects (args := #[]) (mvT hZ (wk hw 52 rfl))) (mvT hZ (wk hw 52 rfl)) (mvT hZ (wk hw 51 rfl)) (by decide) (backOf (W := 0) (m11 l Z a0 hw [] a t k (3 : Int32) [(.int x0), (.int x1), (.int x2)] h1 n0 (Nat.le_trans Z0 K2.1) F5 F6 F7 F8 (by decide)) hZ (wk hw 53 rfl) (wk hw 10 rfl) (by decide) (by decide)) qa4 qc4 (g := (mkF m 8 #[.val (.ref a), .unset, .unset] [(.ref a)])) rfl (by rw [hml]; rfl) (Steps.refl _) (argsL := []) (rest := []) (lenOf pdx___Z rfl) rfl (by show 2 * 0 + _ ≤ _; exact Nat.le_of_eq rfl) (hb hby d9_8) (fun _ _ => ⟨rfl, e3, nle rfl, nle rfl⟩)
  dsimp only [Pt.U, Pt.locs, Pt.cells, Pt.slots] at X4 l4 y4 z4 st4 hQ4
  subst l4 y4 z4
  obtain ⟨rfl, Nq4, e4⟩ := hQ4
  have N4 := Fr.app N3 Nq4
  have F10 := (S_CS.ext E1)
  obtain ⟨cq9, kq9, qa9, qb9, qc9⟩ := isOf hZ e4 F5
  obtain ⟨_, _, ⟨T9, L9, kk9, nn9⟩, -, X9, ⟨Lc9, hQ9, l9, y9, z9⟩, st9⟩ := X4.virtualBack hx (y := (⟨"java/lang/String", "length", "()I"⟩ : MethodName)) (z := (⟨"java/lang/String", "length", "()I"⟩ : MethodName)) hown (mvT hZ (wk hw 54 rfl)) (mvT hZ (wk hw 55 rfl)) (notFace_of_selects (args := #[]) (mvT hZ (wk hw 57 rfl))) (mvT hZ (wk hw 57 rfl)) (mvT hZ (wk hw 56 rfl)) (by decide) (backOf (W := 1) (m12 l Z a0 hw [] a t k (3 : Int32) [(.int x0), (.int x1), (.int x2)] wcs h1 n0 (Nat.le_trans Z0 K2.1) F5 F6 F7 F8 F10 ncs) hZ (wk hw 58 rfl) (wk hw 10 rfl) (by decide) (by decide)) qa9 qc9 (g := (mkF m 28 #[.val (.ref a), .val (.int (0 : Int32)), .unset] [(.ref a), (.int (0 : Int32))])) rfl (by rw [hml]; rfl) (Steps.refl _) (argsL := []) (rest := [(.int (0 : Int32))]) (lenOf pdx___I rfl) rfl (by show 2 * 0 + _ ≤ _; exact Nat.le_of_eq rfl) (hb hby d9_28) (fun _ _ => ⟨rfl, e4, nle rfl, nle rfl⟩)
  dsimp only [Pt.U, Pt.locs, Pt.cells, Pt.slots] at X9 l9 y9 z9 st9 hQ9
  subst l9 y9 z9
  obtain ⟨rfl, Nq9, e9⟩ := hQ9
  have N9 := Fr.app N4 Nq9
  have F12 := (S_SI.ext E1)
  obtain ⟨cq11, kq11, qa11, qb11, qc11⟩ := isOf hZ e9 F5
  obtain ⟨_, _, ⟨T11, L11, kk11, nn11⟩, -, X11, ⟨Lc11, hQ11, l11, y11, z11⟩, st11⟩ := X9.virtualBack hx (y := (⟨"java/lang/String", "codePointAt", "(I)I"⟩ : MethodName)) (z := (⟨"java/lang/String", "codePointAt", "(I)I"⟩ : MethodName)) hown (mvT hZ (wk hw 64 rfl)) (mvT hZ (wk hw 65 rfl)) (notFace_of_selects (args := #[]) (mvT hZ (wk hw 67 rfl))) (mvT hZ (wk hw 67 rfl)) (mvT hZ (wk hw 66 rfl)) (by decide) (backOf (W := 0) (m14 l Z a0 hw [] a t k (3 : Int32) [(.int x0), (.int x1), (.int x2)] (0 : Int32) x0 wcs rg h1 n0 (Nat.le_trans Z0 K2.1) F5 F6 F7 F8 (by decide) (by decide) rfl F10 ncs F12 r_rg) hZ (wk hw 68 rfl) (wk hw 10 rfl) (by decide) (by decide)) qa11 qc11 (g := (mkF m 36 #[.val (.ref a), .val (.int (0 : Int32)), .unset] [(.int (0 : Int32)), (.ref a)])) rfl (by rw [hml]; rfl) (Steps.refl _) (argsL := [(.int (0 : Int32))]) (rest := []) (lenOf pdx__I_I rfl) rfl (by show 2 * 0 + _ ≤ _; exact Nat.le_of_eq rfl) (hb hby d9_36) (fun _ _ => ⟨rfl, e9, nle rfl, nle rfl⟩)
  dsimp only [Pt.U, Pt.locs, Pt.cells, Pt.slots] at X11 l11 y11 z11 st11 hQ11
  subst l11 y11 z11
  obtain ⟨rfl, Nq11, e11⟩ := hQ11
  have N11 := Fr.app N9 Nq11
  obtain ⟨_, _, ⟨T13, L13, kk13, nn13⟩, -, X13, hSq13, hg13, ⟨Lc13, hQ13, l13, y13, z13, C13⟩, st13⟩ := callSS (s := s.setVm T1.vm) X11 hx (y := (⟨"com/example/portunus/portunus/lock/LockName", "allowed", "(I)Z"⟩ : MethodName)) hown (mvT hZ (wk hw 82 rfl)) (mvT hZ (wk hw 83 rfl)) (mvT hZ (wk hw 40 rfl)) (mvT hZ (wk hw 84 rfl)) (by decide) (backOfSH (s := s) (vm0 := T1.vm) (W := 0) (own_m18 l Z a0 hw [] (x0 &&& (255 : Int32)) wcs EL h1 n0 (Nat.le_trans Z0 K2.1) F10 ncs hEL hm82 al0) hZ (wk hw 84 rfl) (wk hw 40 rfl) (by decide) (by decide) hEL CR1.1) (g := (mkF m 41 #[.val (.ref a), .val (.int (0 : Int32)), .val (.int (x0 &&& (255 : Int32)))] [(.int (x0 &&& (255 : Int32)))])) rfl (by rw [hml]; rfl) (argsL := [(.int (x0 &&& (255 : Int32)))]) (rest := []) (lenOf pdx__I_Z rfl) rfl (by show 2 * 0 + _ ≤ _; exact Nat.le_of_eq rfl) (hb hby d9_41) (fun _ _ => ⟨rfl, e11, nle rfl, nle rfl⟩)
  dsimp only [Pt.U, Pt.locs, Pt.cells, Pt.slots] at X13 hSq13 hg13 l13 y13 z13 st13 hQ13 C13
  subst l13 y13 z13
  obtain ⟨rfl, Nq13, Kq13⟩ := hQ13
  have N13 := Fr.app N11 Nq13
  obtain ⟨h13, e13⟩ : ∃ h, T13.heap = h := ⟨_, rfl⟩
  rw [e13] at Kq13 C13 hSq13
  have hZ : Z.Warmed39 (s.setVm T13.vm).vm := State.Warmed39.trans (t := s.setVm T1.vm) hZ hSq13.1
  have hown : (s.setVm T13.vm).vm.findClass "com/example/portunus/portunus/lock/LockName" = some m.cls := by rw [show (s.setVm T13.vm).vm = T13.vm from rfl, hSq13.1.alike.findClass]; exact hown
  have X13 : Stand p l e _ (s.setVm T13.vm) m _ below meth c T13 _ _ _ := X13
  have hS13 : s.Since T13.vm h13.size := (hS1).trans hSq13 (Nat.le_trans hk1 Kq13.1)
  have CR13 := CR1.trans C13
  have K14 : Keep h0 h13 [] := K2.trans Kq13 own_m0
  obtain ⟨_, _, ⟨T15, L15, kk15, nn15⟩, -, X15, ⟨Lc15, hQ15, l15, y15, z15⟩, st15⟩ := Jvm.LawKit.callS X13 hx (y := (⟨"java/lang/Character", "charCount", "(I)I"⟩ : MethodName)) hown (mvT hZ (wk hw 85 rfl)) (mvT hZ (wk hw 86 rfl)) (mvT hZ (wk hw 87 rfl)) (mvT hZ (wk hw 88 rfl)) (by decide) (backOf (W := 1) (m19 l Z a0 hw [] (x0 &&& (255 : Int32)) h13 n0 (Nat.le_trans Z0 K14.1) (own_alt al0)) hZ (wk hw 88 rfl) (wk hw 87 rfl) (by decide) (by decide)) (g := (mkF m 86 #[.val (.ref a), .val (.int (0 : Int32)), .val (.int (x0 &&& (255 : Int32)))] [(.int (x0 &&& (255 : Int32))), (.int (0 : Int32))])) rfl (by rw [hml]; rfl) (argsL := [(.int (x0 &&& (255 : Int32)))]) (rest := [(.int (0 : Int32))]) (lenOf pdx__I_I rfl) rfl (by show 2 * 0 + _ ≤ _; exact Nat.le_of_eq rfl) (hb hby d9_86) (fun _ _ => ⟨rfl, e13, nle rfl, nle rfl⟩)
  dsimp only [Pt.U, Pt.locs, Pt.cells, Pt.slots] at X15 l15 y15 z15 st15 hQ15
  subst l15 y15 z15
  obtain ⟨rfl, Nq15, e15⟩ := hQ15
  have N15 := Fr.app N13 Nq15
  have F17 := (F5.keep Kq13)
  have F18 := (F6.keep Kq13 own_n0)
  have F19 := (F7.keep Kq13 own_n0)
  have F20 := (F8.keep Kq13 own_n0)
  have F21 := (own_staK F10 Kq13 ns0)
  obtain ⟨cq16, kq16, qa16, qb16, qc16⟩ := isOf hZ e15 F17
  obtain ⟨_, _, ⟨T16, L16, kk16, nn16⟩, -, X16, ⟨Lc16, hQ16, l16, y16, z16⟩, st16⟩ := X15.virtualBack hx (y := (⟨"java/lang/String", "length", "()I"⟩ : MethodName)) (z := (⟨"java/lang/String", "length", "()I"⟩ : MethodName)) hown (mvT hZ (wk hw 54 rfl)) (mvT hZ (wk hw 55 rfl)) (notFace_of_selects (args := #[]) (mvT hZ (wk hw 57 rfl))) (mvT hZ (wk hw 57 rfl)) (mvT hZ (wk hw 56 rfl)) (by decide) (backOf (W := 1) (m12 l Z a0 hw [] a t k (3 : Int32) [(.int x0), (.int x1), (.int x2)] wcs h13 n0 (Nat.le_trans Z0 K14.1) F17 F18 F19 F20 F21 ncs) hZ (wk hw 58 rfl) (wk hw 10 rfl) (by decide) (by decide)) qa16 qc16 (g := (mkF m 28 #[.val (.ref a), .val (.int (1 : Int32)), .val (.int (x0 &&& (255 : Int32)))] [(.ref a), (.int (1 : Int32))])) rfl (by rw [hml]; rfl) (Steps.refl _) (argsL := []) (rest := [(.int (1 : Int32))]) (lenOf pdx___I rfl) rfl (by show 2 * 0 + _ ≤ _; exact Nat.le_of_eq rfl) (hb hby d9_28) (fun _ _ => ⟨rfl, e15, nle rfl, nle rfl⟩)
  dsimp only [Pt.U, Pt.locs, Pt.cells, Pt.slots] at X16 l16 y16 z16 st16 hQ16
  subst l16 y16 z16
  obtain ⟨rfl, Nq16, e16⟩ := hQ16
  have N16 := Fr.app N15 Nq16
  have F23 := (own_staK F12 Kq13 ns0)
  obtain ⟨cq22, kq22, qa22, qb22, qc22⟩ := isOf hZ e16 F17
  obtain ⟨_, _, ⟨T22, L22, kk22, nn22⟩, -, X22, ⟨Lc22, hQ22, l22, y22, z22⟩, st22⟩ := X16.virtualBack hx (y := (⟨"java/lang/String", "codePointAt", "(I)I"⟩ : MethodName)) (z := (⟨"java/lang/String", "codePointAt", "(I)I"⟩ : MethodName)) hown (mvT hZ (wk hw 64 rfl)) (mvT hZ (wk hw 65 rfl)) (notFace_of_selects (args := #[]) (mvT hZ (wk hw 67 rfl))) (mvT hZ (wk hw 67 rfl)) (mvT hZ (wk hw 66 rfl)) (by decide) (backOf (W := 0) (m14 l Z a0 hw [] a t k (3 : Int32) [(.int x0), (.int x1), (.int x2)] (1 : Int32) x1 wcs rg h13 n0 (Nat.le_trans Z0 K14.1) F17 F18 F19 F20 (by decide) (by decide) rfl F21 ncs F23 r_rg) hZ (wk hw 68 rfl) (wk hw 10 rfl) (by decide) (by decide)) qa22 qc22 (g := (mkF m 36 #[.val (.ref a), .val (.int (1 : Int32)), .val (.int (x0 &&& (255 : Int32)))] [(.int (1 : Int32)), (.ref a)])) rfl (by rw [hml]; rfl) (Steps.refl _) (argsL := [(.int (1 : Int32))]) (rest := []) (lenOf pdx__I_I rfl) rfl (by show 2 * 0 + _ ≤ _; exact Nat.le_of_eq rfl) (hb hby d9_36) (fun _ _ => ⟨rfl, e16, nle rfl, nle rfl⟩)
  dsimp only [Pt.U, Pt.locs, Pt.cells, Pt.slots] at X22 l22 y22 z22 st22 hQ22
  subst l22 y22 z22
  obtain ⟨rfl, Nq22, e22⟩ := hQ22
  have N22 := Fr.app N16 Nq22
  obtain ⟨_, _, ⟨T24, L24, kk24, nn24⟩, -, X24, hSq24, hg24, ⟨Lc24, hQ24, l24, y24, z24, C24⟩, st24⟩ := callSS (s := s.setVm T13.vm) X22 hx (y := (⟨"com/example/portunus/portunus/lock/LockName", "allowed", "(I)Z"⟩ : MethodName)) hown (mvT hZ (wk hw 82 rfl)) (mvT hZ (wk hw 83 rfl)) (mvT hZ (wk hw 40 rfl)) (mvT hZ (wk hw 84 rfl)) (by decide) (backOfSH (s := s) (vm0 := T13.vm) (W := 0) (own_m18 l Z a0 hw [] (x1 &&& (255 : Int32)) wcs EL h13 n0 (Nat.le_trans Z0 K14.1) F21 ncs hEL hm82 al1) hZ (wk hw 84 rfl) (wk hw 40 rfl) (by decide) (by decide) hEL CR13.1) (g := (mkF m 41 #[.val (.ref a), .val (.int (1 : Int32)), .val (.int (x1 &&& (255 : Int32)))] [(.int (x1 &&& (255 : Int32)))])) rfl (by rw [hml]; rfl) (argsL := [(.int (x1 &&& (255 : Int32)))]) (rest := []) (lenOf pdx__I_Z rfl) rfl (by show 2 * 0 + _ ≤ _; exact Nat.le_of_eq rfl) (hb hby d9_41) (fun _ _ => ⟨rfl, e22, nle rfl, nle rfl⟩)
  dsimp only [Pt.U, Pt.locs, Pt.cells, Pt.slots] at X24 hSq24 hg24 l24 y24 z24 st24 hQ24 C24
  subst l24 y24 z24
  obtain ⟨rfl, Nq24, Kq24⟩ := hQ24
  have N24 := Fr.app N22 Nq24
  obtain ⟨h24, e24⟩ : ∃ h, T24.heap = h := ⟨_, rfl⟩
  rw [e24] at Kq24 C24 hSq24
  have hZ : Z.Warmed39 (s.setVm T24.vm).vm := State.Warmed39.trans (t := s.setVm T13.vm) hZ hSq24.1
  have hown : (s.setVm T24.vm).vm.findClass "com/example/portunus/portunus/lock/LockName" = some m.cls := by rw [show (s.setVm T24.vm).vm = T24.vm from rfl, hSq24.1.alike.findClass]; exact hown
  have X24 : Stand p l e _ (s.setVm T24.vm) m _ below meth c T24 _ _ _ := X24
  have hS24 : s.Since T24.vm h24.size := (hS13).trans hSq24 (Nat.le_trans (Nat.le_refl _) Kq24.1)
  have CR24 := CR13.trans C24
  have K25 : Keep h0 h24 [] := K14.trans Kq24 own_m0
  obtain ⟨_, _, ⟨T26, L26, kk26, nn26⟩, -, X26, ⟨Lc26, hQ26, l26, y26, z26⟩, st26⟩ := Jvm.LawKit.callS X24 hx (y := (⟨"java/lang/Character", "charCount", "(I)I"⟩ : MethodName)) hown (mvT hZ (wk hw 85 rfl)) (mvT hZ (wk hw 86 rfl)) (mvT hZ (wk hw 87 rfl)) (mvT hZ (wk hw 88 rfl)) (by decide) (backOf (W := 1) (m19 l Z a0 hw [] (x1 &&& (255 : Int32)) h24 n0 (Nat.le_trans Z0 K25.1) (own_alt al1)) hZ (wk hw 88 rfl) (wk hw 87 rfl) (by decide) (by decide)) (g := (mkF m 86 #[.val (.ref a), .val (.int (1 : Int32)), .val (.int (x1 &&& (255 : Int32)))] [(.int (x1 &&& (255 : Int32))), (.int (1 : Int32))])) rfl (by rw [hml]; rfl) (argsL := [(.int (x1 &&& (255 : Int32)))]) (rest := [(.int (1 : Int32))]) (lenOf pdx__I_I rfl) rfl (by show 2 * 0 + _ ≤ _; exact Nat.le_of_eq rfl) (hb hby d9_86) (fun _ _ => ⟨rfl, e24, nle rfl, nle rfl⟩)
  dsimp only [Pt.U, Pt.locs, Pt.cells, Pt.slots] at X26 l26 y26 z26 st26 hQ26
  subst l26 y26 z26
  obtain ⟨rfl, Nq26, e26⟩ := hQ26
  have N26 := Fr.app N24 Nq26
  have F28 := (F17.keep Kq24)
  have F29 := (F18.keep Kq24 own_n0)
  have F30 := (F19.keep Kq24 own_n0)
  have F31 := (F20.keep Kq24 own_n0)
  have F32 := (own_staK F21 Kq24 ns0)
  obtain ⟨cq27, kq27, qa27, qb27, qc27⟩ := isOf hZ e26 F28
  obtain ⟨_, _, ⟨T27, L27, kk27, nn27⟩, -, X27, ⟨Lc27, hQ27, l27, y27, z27⟩, st27⟩ := X26.virtualBack hx (y := (⟨"java/lang/String", "length", "()I"⟩ : MethodName)) (z := (⟨"java/lang/String", "length", "()I"⟩ : MethodName)) hown (mvT hZ (wk hw 54 rfl)) (mvT hZ (wk hw 55 rfl)) (notFace_of_selects (args := #[]) (mvT hZ (wk hw 57 rfl))) (mvT hZ (wk hw 57 rfl)) (mvT hZ (wk hw 56 rfl)) (by decide) (backOf (W := 1) (m12 l Z a0 hw [] a t k (3 : Int32) [(.int x0), (.int x1), (.int x2)] wcs h24 n0 (Nat.le_trans Z0 K25.1) F28 F29 F30 F31 F32 ncs) hZ (wk hw 58 rfl) (wk hw 10 rfl) (by decide) (by decide)) qa27 qc27 (g := (mkF m 28 #[.val (.ref a), .val (.int (2 : Int32)), .val (.int (x1 &&& (255 : Int32)))] [(.ref a), (.int (2 : Int32))])) rfl (by rw [hml]; rfl) (Steps.refl _) (argsL := []) (rest := [(.int (2 : Int32))]) (lenOf pdx___I rfl) rfl (by show 2 * 0 + _ ≤ _; exact Nat.le_of_eq rfl) (hb hby d9_28) (fun _ _ => ⟨rfl, e26, nle rfl, nle rfl⟩)
  dsimp only [Pt.U, Pt.locs, Pt.cells, Pt.slots] at X27 l27 y27 z27 st27 hQ27
  subst l27 y27 z27
  obtain ⟨rfl, Nq27, e27⟩ := hQ27
  have N27 := Fr.app N26 Nq27
  have F34 := (own_staK F23 Kq24 ns0)
  obtain ⟨cq33, kq33, qa33, qb33, qc33⟩ := isOf hZ e27 F28
  obtain ⟨_, _, ⟨T33, L33, kk33, nn33⟩, -, X33, ⟨Lc33, hQ33, l33, y33, z33⟩, st33⟩ := X27.virtualBack hx (y := (⟨"java/lang/String", "codePointAt", "(I)I"⟩ : MethodName)) (z := (⟨"java/lang/String", "codePointAt", "(I)I"⟩ : MethodName)) hown (mvT hZ (wk hw 64 rfl)) (mvT hZ (wk hw 65 rfl)) (notFace_of_selects (args := #[]) (mvT hZ (wk hw 67 rfl))) (mvT hZ (wk hw 67 rfl)) (mvT hZ (wk hw 66 rfl)) (by decide) (backOf (W := 0) (m14 l Z a0 hw [] a t k (3 : Int32) [(.int x0), (.int x1), (.int x2)] (2 : Int32) x2 wcs rg h24 n0 (Nat.le_trans Z0 K25.1) F28 F29 F30 F31 (by decide) (by decide) rfl F32 ncs F34 r_rg) hZ (wk hw 68 rfl) (wk hw 10 rfl) (by decide) (by decide)) qa33 qc33 (g := (mkF m 36 #[.val (.ref a), .val (.int (2 : Int32)), .val (.int (x1 &&& (255 : Int32)))] [(.int (2 : Int32)), (.ref a)])) rfl (by rw [hml]; rfl) (Steps.refl _) (argsL := [(.int (2 : Int32))]) (rest := []) (lenOf pdx__I_I rfl) rfl (by show 2 * 0 + _ ≤ _; exact Nat.le_of_eq rfl) (hb hby d9_36) (fun _ _ => ⟨rfl, e27, nle rfl, nle rfl⟩)
  dsimp only [Pt.U, Pt.locs, Pt.cells, Pt.slots] at X33 l33 y33 z33 st33 hQ33
  subst l33 y33 z33
  obtain ⟨rfl, Nq33, e33⟩ := hQ33
  have N33 := Fr.app N27 Nq33
  obtain ⟨_, _, ⟨T35, L35, kk35, nn35⟩, -, X35, hSq35, hg35, ⟨Lc35, hQ35, l35, y35, z35, C35⟩, st35⟩ := callSS (s := s.setVm T24.vm) X33 hx (y := (⟨"com/example/portunus/portunus/lock/LockName", "allowed", "(I)Z"⟩ : MethodName)) hown (mvT hZ (wk hw 82 rfl)) (mvT hZ (wk hw 83 rfl)) (mvT hZ (wk hw 40 rfl)) (mvT hZ (wk hw 84 rfl)) (by decide) (backOfSH (s := s) (vm0 := T24.vm) (W := 0) (own_m18 l Z a0 hw [] (x2 &&& (255 : Int32)) wcs EL h24 n0 (Nat.le_trans Z0 K25.1) F32 ncs hEL hm82 al2) hZ (wk hw 84 rfl) (wk hw 40 rfl) (by decide) (by decide) hEL CR24.1) (g := (mkF m 41 #[.val (.ref a), .val (.int (2 : Int32)), .val (.int (x2 &&& (255 : Int32)))] [(.int (x2 &&& (255 : Int32)))])) rfl (by rw [hml]; rfl) (argsL := [(.int (x2 &&& (255 : Int32)))]) (rest := []) (lenOf pdx__I_Z rfl) rfl (by show 2 * 0 + _ ≤ _; exact Nat.le_of_eq rfl) (hb hby d9_41) (fun _ _ => ⟨rfl, e33, nle rfl, nle rfl⟩)
  dsimp only [Pt.U, Pt.locs, Pt.cells, Pt.slots] at X35 hSq35 hg35 l35 y35 z35 st35 hQ35 C35
  subst l35 y35 z35
  obtain ⟨rfl, Nq35, Kq35⟩ := hQ35
  have N35 := Fr.app N33 Nq35
  obtain ⟨h35, e35⟩ : ∃ h, T35.heap = h := ⟨_, rfl⟩
  rw [e35] at Kq35 C35 hSq35
  have hZ : Z.Warmed39 (s.setVm T35.vm).vm := State.Warmed39.trans (t := s.setVm T24.vm) hZ hSq35.1
  have hown : (s.setVm T35.vm).vm.findClass "com/example/portunus/portunus/lock/LockName" = some m.cls := by rw [show (s.setVm T35.vm).vm = T35.vm from rfl, hSq35.1.alike.findClass]; exact hown
  have X35 : Stand p l e _ (s.setVm T35.vm) m _ below meth c T35 _ _ _ := X35
  have hS35 : s.Since T35.vm h35.size := (hS24).trans hSq35 (Nat.le_trans (Nat.le_refl _) Kq35.1)
  have CR35 := CR24.trans C35
  have K36 : Keep h0 h35 [] := K25.trans Kq35 own_m0
  obtain ⟨_, _, ⟨T37, L37, kk37, nn37⟩, -, X37, ⟨Lc37, hQ37, l37, y37, z37⟩, st37⟩ := Jvm.LawKit.callS X35 hx (y := (⟨"java/lang/Character", "charCount", "(I)I"⟩ : MethodName)) hown (mvT hZ (wk hw 85 rfl)) (mvT hZ (wk hw 86 rfl)) (mvT hZ (wk hw 87 rfl)) (mvT hZ (wk hw 88 rfl)) (by decide) (backOf (W := 1) (m19 l Z a0 hw [] (x2 &&& (255 : Int32)) h35 n0 (Nat.le_trans Z0 K36.1) (own_alt al2)) hZ (wk hw 88 rfl) (wk hw 87 rfl) (by decide) (by decide)) (g := (mkF m 86 #[.val (.ref a), .val (.int (2 : Int32)), .val (.int (x2 &&& (255 : Int32)))] [(.int (x2 &&& (255 : Int32))), (.int (2 : Int32))])) rfl (by rw [hml]; rfl) (argsL := [(.int (x2 &&& (255 : Int32)))]) (rest := [(.int (2 : Int32))]) (lenOf pdx__I_I rfl) rfl (by show 2 * 0 + _ ≤ _; exact Nat.le_of_eq rfl) (hb hby d9_86) (fun _ _ => ⟨rfl, e35, nle rfl, nle rfl⟩)
  dsimp only [Pt.U, Pt.locs, Pt.cells, Pt.slots] at X37 l37 y37 z37 st37 hQ37
  subst l37 y37 z37
  obtain ⟨rfl, Nq37, e37⟩ := hQ37
  have N37 := Fr.app N35 Nq37
  have F39 := (F28.keep Kq35)
  have F40 := (F29.keep Kq35 own_n0)
  have F41 := (F30.keep Kq35 own_n0)
  have F42 := (F31.keep Kq35 own_n0)
  have F43 := (own_staK F32 Kq35 ns0)
  obtain ⟨cq38, kq38, qa38, qb38, qc38⟩ := isOf hZ e37 F39
  obtain ⟨_, _, ⟨T38, L38, kk38, nn38⟩, -, X38, ⟨Lc38, hQ38, l38, y38, z38⟩, st38⟩ := X37.virtualBack hx (y := (⟨"java/lang/String", "length", "()I"⟩ : MethodName)) (z := (⟨"java/lang/String", "length", "()I"⟩ : MethodName)) hown (mvT hZ (wk hw 54 rfl)) (mvT hZ (wk hw 55 rfl)) (notFace_of_selects (args := #[]) (mvT hZ (wk hw 57 rfl))) (mvT hZ (wk hw 57 rfl)) (mvT hZ (wk hw 56 rfl)) (by decide) (backOf (W := 1) (m12 l Z a0 hw [] a t k (3 : Int32) [(.int x0), (.int x1), (.int x2)] wcs h35 n0 (Nat.le_trans Z0 K36.1) F39 F40 F41 F42 F43 ncs) hZ (wk hw 58 rfl) (wk hw 10 rfl) (by decide) (by decide)) qa38 qc38 (g := (mkF m 28 #[.val (.ref a), .val (.int (3 : Int32)), .val (.int (x2 &&& (255 : Int32)))] [(.ref a), (.int (3 : Int32))])) rfl (by rw [hml]; rfl) (Steps.refl _) (argsL := []) (rest := [(.int (3 : Int32))]) (lenOf pdx___I rfl) rfl (by show 2 * 0 + _ ≤ _; exact Nat.le_of_eq rfl) (hb hby d9_28) (fun _ _ => ⟨rfl, e37, nle rfl, nle rfl⟩)
  dsimp only [Pt.U, Pt.locs, Pt.cells, Pt.slots] at X38 l38 y38 z38 st38 hQ38
  subst l38 y38 z38
  obtain ⟨rfl, Nq38, e38⟩ := hQ38
  have N38 := Fr.app N37 Nq38
  obtain ⟨cq44, kq44, qa44, qb44, qc44⟩ := isOf hZ e38 F39
  obtain ⟨_, _, ⟨T44, L44, kk44, nn44⟩, -, X44, ⟨Lc44, hQ44, l44, y44, z44⟩, st44⟩ := X38.virtualBack hx (y := (⟨"java/lang/String", "length", "()I"⟩ : MethodName)) (z := (⟨"java/lang/String", "length", "()I"⟩ : MethodName)) hown (mvT hZ (wk hw 54 rfl)) (mvT hZ (wk hw 55 rfl)) (notFace_of_selects (args := #[]) (mvT hZ (wk hw 57 rfl))) (mvT hZ (wk hw 57 rfl)) (mvT hZ (wk hw 56 rfl)) (by decide) (backOf (W := 0) (m12 l Z a0 hw [] a t k (3 : Int32) [(.int x0), (.int x1), (.int x2)] wcs h35 n0 (Nat.le_trans Z0 K36.1) F39 F40 F41 F42 F43 ncs) hZ (wk hw 58 rfl) (wk hw 10 rfl) (by decide) (by decide)) qa44 qc44 (g := (mkF m 95 #[.val (.ref a), .val (.int (3 : Int32)), .val (.int (x2 &&& (255 : Int32)))] [(.ref a)])) rfl (by rw [hml]; rfl) (Steps.refl _) (argsL := []) (rest := []) (lenOf pdx___I rfl) rfl (by show 2 * 0 + _ ≤ _; exact Nat.le_of_eq rfl) (hb hby d9_95) (fun _ _ => ⟨rfl, e38, nle rfl, nle rfl⟩)
  dsimp only [Pt.U, Pt.locs, Pt.cells, Pt.slots] at X44 l44 y44 z44 st44 hQ44
  subst l44 y44 z44
  obtain ⟨rfl, Nq44, e44⟩ := hQ44
  have N44 := Fr.app N38 Nq44
  obtain ⟨T45, h45, X45, e45, E45, A45, D45, -, st45⟩ := newO X44 hx hZ hown (wk hw 90 rfl) (wk hw 91 rfl) (wk hw 40 rfl) e44 (g := (mkF m 140 #[.val (.ref a), .val (.int (3 : Int32)), .val (.int (x2 &&& (255 : Int32)))] [])) rfl (hb hby d9_140) (nle rfl) (nle rfl)
  obtain ⟨b45, g45⟩ : ∃ z, z = h35.size := ⟨_, rfl⟩
  rw [← g45] at A45 D45 st45
  have sz_b45 : h0.size ≤ b45 := Nat.le_trans K36.1 (Nat.le_of_eq g45.symm)
  have ge_b45 : n0 ≤ b45 := Nat.le_trans Z0 sz_b45
  have ne_46 : a ≠ b45 := Nat.ne_of_lt (Nat.lt_of_lt_of_le F39.lt (Nat.le_of_eq g45.symm))
  have ne_47 : t ≠ b45 := Nat.ne_of_lt (Nat.lt_of_lt_of_le F42.lt (Nat.le_of_eq g45.symm))
  have F49 := (((EX1.keep Kq13).keep Kq24).keep Kq35)
  have ne_48 : li1 ≠ b45 := Nat.ne_of_lt (Nat.lt_of_lt_of_le F49.lt (Nat.le_of_eq g45.symm))
  have F51 := (((AV1.keep Kq13 own_n0).keep Kq24 own_n0).keep Kq35 own_n0)
  have ne_50 : b1 ≠ b45 := Nat.ne_of_lt (Nat.lt_of_lt_of_le F51.lt (Nat.le_of_eq g45.symm))
  have CR52 := CR35.trans (CHr.ext E45 CR35.1)
  have K53 : Keep h0 h45 [] := K36.ext E45
  have D45_text := D45 (Or.inr (wk hw 97 rfl)) (ty := (.object "java/lang/String")) (by decide)
  obtain ⟨_, _, ⟨T54, L54, kk54, nn54⟩, -, X54, ⟨Lc54, hQ54, l54, y54, z54⟩, st54⟩ := X45.specialBack hx (y := (⟨"com/example/portunus/portunus/lock/LockName", "<init>", "(Ljava/lang/String;)V"⟩ : MethodName)) rfl hown (mvT hZ (wk hw 92 rfl)) (mvT hZ (wk hw 93 rfl)) (mvT hZ (wk hw 94 rfl)) (by decide) (backOf (W := 1) (m20 l Z a0 hw [] b45 a .null h45 n0 (Nat.le_trans Z0 K53.1) A45 D45_text ge_b45) hZ (wk hw 94 rfl) (wk hw 40 rfl) (by decide) (by decide)) (g := (mkF m 145 #[.val (.ref a), .val (.int (3 : Int32)), .val (.int (x2 &&& (255 : Int32)))] [(.ref a), (.ref b45), (.ref b45)])) rfl (by rw [hml]; rfl) (Steps.refl _) (a := b45) (argsL := [(.ref a)]) (rest := [(.ref b45)]) (lenOf pdx__Ljava_lang_String__V rfl) rfl (by show 2 * 0 + _ ≤ _; exact Nat.le_of_eq rfl) (hb hby d9_145) (fun _ _ => ⟨rfl, e45, nle rfl, nle rfl⟩)
  dsimp only [Pt.U, Pt.locs, Pt.cells, Pt.slots] at X54 l54 y54 z54 st54 hQ54
  subst l54 y54 z54
  obtain ⟨rfl, Nq54, Kq54, P54_0, P54_1⟩ := hQ54
  have N54 := Fr.app N44 Nq54
  obtain ⟨h54, e54⟩ : ∃ h, T54.heap = h := ⟨_, rfl⟩
  rw [e54] at Kq54 P54_0 P54_1
  have ns54 := (nsS A45.nostat ns0)
  have CR55 := CR52.trans (CHr.keep Kq54 (sfS (Safe.exa hZ.alike A45 (by decide) (by decide)) sf0) CR52.1)
  have K56 : Keep h0 h54 [] := K53.trans Kq54 (own_mS (Or.inr sz_b45) own_m0)
  obtain ⟨fs, hr, hrun, hended, hWW⟩ := leaveW (s := s) X54 hS35 (by rw [e54]; exact (Nat.le_trans (Nat.le_trans (Nat.le_refl _) E45.1) Kq54.1)) (v := some (.ref b45)) (fun h => by rw [Bd.returns] at h; cases h)
  refine ⟨_, _, pre0 _ ?_, hrun, hended, _, _, rfl, ?_, ?_, ⟨hWW.1, hWW.2.1, hWW.2.2.1, hWW.2.2.2.mono (nle rfl) (nle rfl)⟩⟩
  · show Steps p.tables e below (s₁.setTop (mkF m 0 #[.val (.ref a), .unset, .unset] [])) _
    refine XS.aloadN X0.here hx rfl (hb hby d9_0) rfl rfl ?_
    show Steps p.tables e below (s₁.setTop (mkF m 1 #[.val (.ref a), .unset, .unset] [(.ref a)])) _
    refine st1 _ ?_
    show Steps p.tables e below (T1.setTop (mkF m 3 #[.val (.ref a), .unset, .unset] [(.ref li1), (.ref a)])) _
    refine st3 _ ?_
    show Steps p.tables e below (T3.setTop (mkF m 6 #[.val (.ref a), .unset, .unset] [(.ref a)])) _
    refine XS.pop X3.here hx rfl (hb hby d9_6) rfl rfl ?_
    show Steps p.tables e below (T3.setTop (mkF m 7 #[.val (.ref a), .unset, .unset] [])) _
    refine XS.aloadN X3.here hx rfl (hb hby d9_7) rfl rfl ?_
    show Steps p.tables e below (T3.setTop (mkF m 8 #[.val (.ref a), .unset, .unset] [(.ref a)])) _
    refine st4.trans ?_
    show Steps p.tables e below (T4.setTop (mkF m 11 #[.val (.ref a), .unset, .unset] [(.int (0 : Int32))])) _
    refine XS.ifYes X4.here hx rfl (pc0 := 11) (pc' := 24) rfl (hb hby d9_11) rfl ((if0 _ _).trans (teq (by decide : (0 : Int32) = (0 : Int32))).1) (by decide) (by decide) ?_
    show Steps p.tables e below (T4.setTop (mkF m 24 #[.val (.ref a), .unset, .unset] [])) _
    refine XS.iconst X4.here hx rfl (hb hby d9_24) ?_
    show Steps p.tables e below (T4.setTop (mkF m 25 #[.val (.ref a), .unset, .unset] [(.int (0 : Int32))])) _
    refine XS.istoreN X4.here hx rfl (hb hby d9_25) rfl (l' := #[.val (.ref a), .val (.int (0 : Int32)), .unset]) rfl ?_
    show Steps p.tables e below (T4.setTop (mkF m 26 #[.val (.ref a), .val (.int (0 : Int32)), .unset] [])) _
    refine XS.iloadN X4.here hx rfl (hb hby d9_26) rfl ?_
    show Steps p.tables e below (T4.setTop (mkF m 27 #[.val (.ref a), .val (.int (0 : Int32)), .unset] [(.int (0 : Int32))])) _
    refine XS.aloadN X4.here hx rfl (hb hby d9_27) rfl rfl ?_
    show Steps p.tables e below (T4.setTop (mkF m 28 #[.val (.ref a), .val (.int (0 : Int32)), .unset] [(.ref a), (.int (0 : Int32))])) _
    refine st9.trans ?_
    show Steps p.tables e below (T9.setTop (mkF m 31 #[.val (.ref a), .val (.int (0 : Int32)), .unset] [(.int (3 : Int32)), (.int (0 : Int32))])) _
    refine XS.icmpNo X9.here hx rfl (hb hby d9_31) rfl (tlt (by decide : (0 : Int32) < (3 : Int32))).2.1 ?_
    show Steps p.tables e below (T9.setTop (mkF m 34 #[.val (.ref a), .val (.int (0 : Int32)), .unset] [])) _
    refine XS.aloadN X9.here hx rfl (hb hby d9_34) rfl rfl ?_
    show Steps p.tables e below (T9.setTop (mkF m 35 #[.val (.ref a), .val (.int (0 : Int32)), .unset] [(.ref a)])) _
    refine XS.iloadN X9.here hx rfl (hb hby d9_35) rfl ?_
    show Steps p.tables e below (T9.setTop (mkF m 36 #[.val (.ref a), .val (.int (0 : Int32)), .unset] [(.int (0 : Int32)), (.ref a)])) _
    refine st11.trans ?_
    show Steps p.tables e below (T11.setTop (mkF m 39 #[.val (.ref a), .val (.int (0 : Int32)), .unset] [(.int (x0 &&& (255 : Int32)))])) _
    refine XS.istoreN X11.here hx rfl (hb hby d9_39) rfl (l' := #[.val (.ref a), .val (.int (0 : Int32)), .val (.int (x0 &&& (255 : Int32)))]) rfl ?_
    show Steps p.tables e below (T11.setTop (mkF m 40 #[.val (.ref a), .val (.int (0 : Int32)), .val (.int (x0 &&& (255 : Int32)))] [])) _
    refine XS.iloadN X11.here hx rfl (hb hby d9_40) rfl ?_
    show Steps p.tables e below (T11.setTop (mkF m 41 #[.val (.ref a), .val (.int (0 : Int32)), .val (.int (x0 &&& (255 : Int32)))] [(.int (x0 &&& (255 : Int32)))])) _
    refine st13.trans ?_
    show Steps p.tables e below (T13.setTop (mkF m 44 #[.val (.ref a), .val (.int (0 : Int32)), .val (.int (x0 &&& (255 : Int32)))] [(.int (1 : Int32))])) _
    refine XS.ifYes X13.here hx rfl (pc0 := 44) (pc' := 84) rfl (hb hby d9_44) rfl ((if0 _ _).trans (feq (by decide : ¬ ((1 : Int32) = (0 : Int32)))).2) (by decide) (by decide) ?_
    show Steps p.tables e below (T13.setTop (mkF m 84 #[.val (.ref a), .val (.int (0 : Int32)), .val (.int (x0 &&& (255 : Int32)))] [])) _
    refine XS.iloadN X13.here hx rfl (hb hby d9_84) rfl ?_
    show Steps p.tables e below (T13.setTop (mkF m 85 #[.val (.ref a), .val (.int (0 : Int32)), .val (.int (x0 &&& (255 : Int32)))] [(.int (0 : Int32))])) _
    refine XS.iloadN X13.here hx rfl (hb hby d9_85) rfl ?_
    show Steps p.tables e below (T13.setTop (mkF m 86 #[.val (.ref a), .val (.int (0 : Int32)), .val (.int (x0 &&& (255 : Int32)))] [(.int (x0 &&& (255 : Int32))), (.int (0 : Int32))])) _
    refine st15 _ ?_
    show Steps p.tables e below (T15.setTop (mkF m 89 #[.val (.ref a), .val (.int (0 : Int32)), .val (.int (x0 &&& (255 : Int32)))] [(.int (1 : Int32)), (.int (0 : Int32))])) _
    show Steps p.tables e below (T15.setTop (mkF m 89 #[.val (.ref a), .val (.int (0 : Int32)), .val (.int (x0 &&& (255 : Int32)))] [(.int (1 : Int32)), (.int (0 : Int32))])) _
    refine XS.iadd X15.here hx rfl (hb hby d9_89) rfl ?_
    show Steps p.tables e below (T15.setTop (mkF m 90 #[.val (.ref a), .val (.int (0 : Int32)), .val (.int (x0 &&& (255 : Int32)))] [(.int (1 : Int32))])) _
    refine XS.istoreN X15.here hx rfl (hb hby d9_90) rfl (l' := #[.val (.ref a), .val (.int (1 : Int32)), .val (.int (x0 &&& (255 : Int32)))]) rfl ?_
    show Steps p.tables e below (T15.setTop (mkF m 91 #[.val (.ref a), .val (.int (1 : Int32)), .val (.int (x0 &&& (255 : Int32)))] [])) _
    refine XS.goto X15.here hx rfl (pc0 := 91) (pc' := 26) rfl (hb hby d9_91) (by decide) (by decide) ?_
    show Steps p.tables e below (T15.setTop (mkF m 26 #[.val (.ref a), .val (.int (1 : Int32)), .val (.int (x0 &&& (255 : Int32)))] [])) _
    refine XS.iloadN X15.here hx rfl (hb hby d9_26) rfl ?_
    show Steps p.tables e below (T15.setTop (mkF m 27 #[.val (.ref a), .val (.int (1 : Int32)), .val (.int (x0 &&& (255 : Int32)))] [(.int (1 : Int32))])) _
    refine XS.aloadN X15.here hx rfl (hb hby d9_27) rfl rfl ?_
    show Steps p.tables e below (T15.setTop (mkF m 28 #[.val (.ref a), .val (.int (1 : Int32)), .val (.int (x0 &&& (255 : Int32)))] [(.ref a), (.int (1 : Int32))])) _
    refine st16.trans ?_
    show Steps p.tables e below (T16.setTop (mkF m 31 #[.val (.ref a), .val (.int (1 : Int32)), .val (.int (x0 &&& (255 : Int32)))] [(.int (3 : Int32)), (.int (1 : Int32))])) _
    refine XS.icmpNo X16.here hx rfl (hb hby d9_31) rfl (tlt (by decide : (1 : Int32) < (3 : Int32))).2.1 ?_
    show Steps p.tables e below (T16.setTop (mkF m 34 #[.val (.ref a), .val (.int (1 : Int32)), .val (.int (x0 &&& (255 : Int32)))] [])) _
    refine XS.aloadN X16.here hx rfl (hb hby d9_34) rfl rfl ?_
    show Steps p.tables e below (T16.setTop (mkF m 35 #[.val (.ref a), .val (.int (1 : Int32)), .val (.int (x0 &&& (255 : Int32)))] [(.ref a)])) _
    refine XS.iloadN X16.here hx rfl (hb hby d9_35) rfl ?_
    show Steps p.tables e below (T16.setTop (mkF m 36 #[.val (.ref a), .val (.int (1 : Int32)), .val (.int (x0 &&& (255 : Int32)))] [(.int (1 : Int32)), (.ref a)])) _
    refine st22.trans ?_
    show Steps p.tables e below (T22.setTop (mkF m 39 #[.val (.ref a), .val (.int (1 : Int32)), .val (.int (x0 &&& (255 : Int32)))] [(.int (x1 &&& (255 : Int32)))])) _
    refine XS.istoreN X22.here hx rfl (hb hby d9_39) rfl (l' := #[.val (.ref a), .val (.int (1 : Int32)), .val (.int (x1 &&& (255 : Int32)))]) rfl ?_
    show Steps p.tables e below (T22.setTop (mkF m 40 #[.val (.ref a), .val (.int (1 : Int32)), .val (.int (x1 &&& (255 : Int32)))] [])) _
    refine XS.iloadN X22.here hx rfl (hb hby d9_40) rfl ?_
    show Steps p.tables e below (T22.setTop (mkF m 41 #[.val (.ref a), .val (.int (1 : Int32)), .val (.int (x1 &&& (255 : Int32)))] [(.int (x1 &&& (255 : Int32)))])) _
    refine st24.trans ?_
    show Steps p.tables e below (T24.setTop (mkF m 44 #[.val (.ref a), .val (.int (1 : Int32)), .val (.int (x1 &&& (255 : Int32)))] [(.int (1 : Int32))])) _
    refine XS.ifYes X24.here hx rfl (pc0 := 44) (pc' := 84) rfl (hb hby d9_44) rfl ((if0 _ _).trans (feq (by decide : ¬ ((1 : Int32) = (0 : Int32)))).2) (by decide) (by decide) ?_
    show Steps p.tables e below (T24.setTop (mkF m 84 #[.val (.ref a), .val (.int (1 : Int32)), .val (.int (x1 &&& (255 : Int32)))] [])) _
    refine XS.iloadN X24.here hx rfl (hb hby d9_84) rfl ?_
    show Steps p.tables e below (T24.setTop (mkF m 85 #[.val (.ref a), .val (.int (1 : Int32)), .val (.int (x1 &&& (255 : Int32)))] [(.int (1 : Int32))])) _
    refine XS.iloadN X24.here hx rfl (hb hby d9_85) rfl ?_
    show Steps p.tables e below (T24.setTop (mkF m 86 #[.val (.ref a), .val (.int (1 : Int32)), .val (.int (x1 &&& (255 : Int32)))] [(.int (x1 &&& (255 : Int32))), (.int (1 : Int32))])) _
    refine st26 _ ?_
    show Steps p.tables e below (T26.setTop (mkF m 89 #[.val (.ref a), .val (.int (1 : Int32)), .val (.int (x1 &&& (255 : Int32)))] [(.int (1 : Int32)), (.int (1 : Int32))])) _
    show Steps p.tables e below (T26.setTop (mkF m 89 #[.val (.ref a), .val (.int (1 : Int32)), .val (.int (x1 &&& (255 : Int32)))] [(.int (1 : Int32)), (.int (1 : Int32))])) _
    refine XS.iadd X26.here hx rfl (hb hby d9_89) rfl ?_
    show Steps p.tables e below (T26.setTop (mkF m 90 #[.val (.ref a), .val (.int (1 : Int32)), .val (.int (x1 &&& (255 : Int32)))] [(.int (2 : Int32))])) _
    refine XS.istoreN X26.here hx rfl (hb hby d9_90) rfl (l' := #[.val (.ref a), .val (.int (2 : Int32)), .val (.int (x1 &&& (255 : Int32)))]) rfl ?_
    show Steps p.tables e below (T26.setTop (mkF m 91 #[.val (.ref a), .val (.int (2 : Int32)), .val (.int (x1 &&& (255 : Int32)))] [])) _
    refine XS.goto X26.here hx rfl (pc0 := 91) (pc' := 26) rfl (hb hby d9_91) (by decide) (by decide) ?_
    show Steps p.tables e below (T26.setTop (mkF m 26 #[.val (.ref a), .val (.int (2 : Int32)), .val (.int (x1 &&& (255 : Int32)))] [])) _
    refine XS.iloadN X26.here hx rfl (hb hby d9_26) rfl ?_
    show Steps p.tables e below (T26.setTop (mkF m 27 #[.val (.ref a), .val (.int (2 : Int32)), .val (.int (x1 &&& (255 : Int32)))] [(.int (2 : Int32))])) _
    refine XS.aloadN X26.here hx rfl (hb hby d9_27) rfl rfl ?_
    show Steps p.tables e below (T26.setTop (mkF m 28 #[.val (.ref a), .val (.int (2 : Int32)), .val (.int (x1 &&& (255 : Int32)))] [(.ref a), (.int (2 : Int32))])) _
    refine st27.trans ?_
    show Steps p.tables e below (T27.setTop (mkF m 31 #[.val (.ref a), .val (.int (2 : Int32)), .val (.int (x1 &&& (255 : Int32)))] [(.int (3 : Int32)), (.int (2 : Int32))])) _
    refine XS.icmpNo X27.here hx rfl (hb hby d9_31) rfl (tlt (by decide : (2 : Int32) < (3 : Int32))).2.1 ?_
    show Steps p.tables e below (T27.setTop (mkF m 34 #[.val (.ref a), .val (.int (2 : Int32)), .val (.int (x1 &&& (255 : Int32)))] [])) _
    refine XS.aloadN X27.here hx rfl (hb hby d9_34) rfl rfl ?_
    show Steps p.tables e below (T27.setTop (mkF m 35 #[.val (.ref a), .val (.int (2 : Int32)), .val (.int (x1 &&& (255 : Int32)))] [(.ref a)])) _
    refine XS.iloadN X27.here hx rfl (hb hby d9_35) rfl ?_
    show Steps p.tables e below (T27.setTop (mkF m 36 #[.val (.ref a), .val (.int (2 : Int32)), .val (.int (x1 &&& (255 : Int32)))] [(.int (2 : Int32)), (.ref a)])) _
    refine st33.trans ?_
    show Steps p.tables e below (T33.setTop (mkF m 39 #[.val (.ref a), .val (.int (2 : Int32)), .val (.int (x1 &&& (255 : Int32)))] [(.int (x2 &&& (255 : Int32)))])) _
    refine XS.istoreN X33.here hx rfl (hb hby d9_39) rfl (l' := #[.val (.ref a), .val (.int (2 : Int32)), .val (.int (x2 &&& (255 : Int32)))]) rfl ?_
    show Steps p.tables e below (T33.setTop (mkF m 40 #[.val (.ref a), .val (.int (2 : Int32)), .val (.int (x2 &&& (255 : Int32)))] [])) _
    refine XS.iloadN X33.here hx rfl (hb hby d9_40) rfl ?_
    show Steps p.tables e below (T33.setTop (mkF m 41 #[.val (.ref a), .val (.int (2 : Int32)), .val (.int (x2 &&& (255 : Int32)))] [(.int (x2 &&& (255 : Int32)))])) _
    refine st35.trans ?_
    show Steps p.tables e below (T35.setTop (mkF m 44 #[.val (.ref a), .val (.int (2 : Int32)), .val (.int (x2 &&& (255 : Int32)))] [(.int (1 : Int32))])) _
    refine XS.ifYes X35.here hx rfl (pc0 := 44) (pc' := 84) rfl (hb hby d9_44) rfl ((if0 _ _).trans (feq (by decide : ¬ ((1 : Int32) = (0 : Int32)))).2) (by decide) (by decide) ?_
    show Steps p.tables e below (T35.setTop (mkF m 84 #[.val (.ref a), .val (.int (2 : Int32)), .val (.int (x2 &&& (255 : Int32)))] [])) _
    refine XS.iloadN X35.here hx rfl (hb hby d9_84) rfl ?_
    show Steps p.tables e below (T35.setTop (mkF m 85 #[.val (.ref a), .val (.int (2 : Int32)), .val (.int (x2 &&& (255 : Int32)))] [(.int (2 : Int32))])) _
    refine XS.iloadN X35.here hx rfl (hb hby d9_85) rfl ?_
    show Steps p.tables e below (T35.setTop (mkF m 86 #[.val (.ref a), .val (.int (2 : Int32)), .val (.int (x2 &&& (255 : Int32)))] [(.int (x2 &&& (255 : Int32))), (.int (2 : Int32))])) _
    refine st37 _ ?_
    show Steps p.tables e below (T37.setTop (mkF m 89 #[.val (.ref a), .val (.int (2 : Int32)), .val (.int (x2 &&& (255 : Int32)))] [(.int (1 : Int32)), (.int (2 : Int32))])) _
    show Steps p.tables e below (T37.setTop (mkF m 89 #[.val (.ref a), .val (.int (2 : Int32)), .val (.int (x2 &&& (255 : Int32)))] [(.int (1 : Int32)), (.int (2 : Int32))])) _
    refine XS.iadd X37.here hx rfl (hb hby d9_89) rfl ?_
    show Steps p.tables e below (T37.setTop (mkF m 90 #[.val (.ref a), .val (.int (2 : Int32)), .val (.int (x2 &&& (255 : Int32)))] [(.int (3 : Int32))])) _
    refine XS.istoreN X37.here hx rfl (hb hby d9_90) rfl (l' := #[.val (.ref a), .val (.int (3 : Int32)), .val (.int (x2 &&& (255 : Int32)))]) rfl ?_
    show Steps p.tables e below (T37.setTop (mkF m 91 #[.val (.ref a), .val (.int (3 : Int32)), .val (.int (x2 &&& (255 : Int32)))] [])) _
    refine XS.goto X37.here hx rfl (pc0 := 91) (pc' := 26) rfl (hb hby d9_91) (by decide) (by decide) ?_
    show Steps p.tables e below (T37.setTop (mkF m 26 #[.val (.ref a), .val (.int (3 : Int32)), .val (.int (x2 &&& (255 : Int32)))] [])) _
    refine XS.iloadN X37.here hx rfl (hb hby d9_26) rfl ?_
    show Steps p.tables e below (T37.setTop (mkF m 27 #[.val (.ref a), .val (.int (3 : Int32)), .val (.int (x2 &&& (255 : Int32)))] [(.int (3 : Int32))])) _
    refine XS.aloadN X37.here hx rfl (hb hby d9_27) rfl rfl ?_
    show Steps p.tables e below (T37.setTop (mkF m 28 #[.val (.ref a), .val (.int (3 : Int32)), .val (.int (x2 &&& (255 : Int32)))] [(.ref a), (.int (3 : Int32))])) _
    refine st38.trans ?_
    show Steps p.tables e below (T38.setTop (mkF m 31 #[.val (.ref a), .val (.int (3 : Int32)), .val (.int (x2 &&& (255 : Int32)))] [(.int (3 : Int32)), (.int (3 : Int32))])) _
    refine XS.icmpYes X38.here hx rfl (pc0 := 31) (pc' := 94) rfl (hb hby d9_31) rfl (flt (by decide : ¬ ((3 : Int32) < (3 : Int32)))).2.1 (by decide) (by decide) ?_
    show Steps p.tables e below (T38.setTop (mkF m 94 #[.val (.ref a), .val (.int (3 : Int32)), .val (.int (x2 &&& (255 : Int32)))] [])) _
    refine XS.aloadN X38.here hx rfl (hb hby d9_94) rfl rfl ?_
    show Steps p.tables e below (T38.setTop (mkF m 95 #[.val (.ref a), .val (.int (3 : Int32)), .val (.int (x2 &&& (255 : Int32)))] [(.ref a)])) _
    refine st44.trans ?_
    show Steps p.tables e below (T44.setTop (mkF m 98 #[.val (.ref a), .val (.int (3 : Int32)), .val (.int (x2 &&& (255 : Int32)))] [(.int (3 : Int32))])) _
    refine XS.sipush X44.here hx rfl (hb hby d9_98) ?_
    show Steps p.tables e below (T44.setTop (mkF m 101 #[.val (.ref a), .val (.int (3 : Int32)), .val (.int (x2 &&& (255 : Int32)))] [(.int (128 : Int32)), (.int (3 : Int32))])) _
    refine XS.icmpYes X44.here hx rfl (pc0 := 101) (pc' := 140) rfl (hb hby d9_101) rfl (flt (by decide : ¬ ((128 : Int32) < (3 : Int32)))).2.2.2 (by decide) (by decide) ?_
    show Steps p.tables e below (T44.setTop (mkF m 140 #[.val (.ref a), .val (.int (3 : Int32)), .val (.int (x2 &&& (255 : Int32)))] [])) _
    refine st45 _ ?_
    show Steps p.tables e below (T45.setTop (mkF m 143 #[.val (.ref a), .val (.int (3 : Int32)), .val (.int (x2 &&& (255 : Int32)))] [(.ref b45)])) _
    refine XS.dup X45.here hx rfl (hb hby d9_143) rfl rfl ?_
    show Steps p.tables e below (T45.setTop (mkF m 144 #[.val (.ref a), .val (.int (3 : Int32)), .val (.int (x2 &&& (255 : Int32)))] [(.ref b45), (.ref b45)])) _
    refine XS.aloadN X45.here hx rfl (hb hby d9_144) rfl rfl ?_
    show Steps p.tables e below (T45.setTop (mkF m 145 #[.val (.ref a), .val (.int (3 : Int32)), .val (.int (x2 &&& (255 : Int32)))] [(.ref a), (.ref b45), (.ref b45)])) _
    refine st54.trans ?_
    show Steps p.tables e below (T54.setTop (mkF m 148 #[.val (.ref a), .val (.int (3 : Int32)), .val (.int (x2 &&& (255 : Int32)))] [(.ref b45)])) _
    exact X54.areturnOut hx rfl Bd.returns rfl (hb hby d9_148) hr
  · show Q_m9_3 Z a t k x0 x1 x2 wcs rg EL h0 n0 _ T54.heap _
    rw [e54]
    exact ⟨b45, rfl, N54, K56, P54_0, P54_1, sz_b45⟩
  · show CHr Z EL s.vm s.heap T54.vm T54.heap
    rw [e54, hh]
    exact CR55.trans (CHv.at (s := s) (vm0 := T35.vm) X54 hZ hEL CR55.1)
def Q_m9_2 (Z : State) (a : Addr) (t : Addr) (k : ClassId) (x0 : Int32) (x1 : Int32) (wcs : Int32) (rg : Value) (EL : List (String × Nat)) (h0 : Heap) (n0 : Nat) (v : Option Value) (h : Heap) (L : List Loc) : Prop := ∃ (b : Addr), v = (some (.ref b)) ∧ Fr n0 L ∧ Keep h0 h [] ∧ Exa Z h b "com/example/portunus/portunus/lock/LockName" ∧ Fld Z h b "com/example/portunus/portunus/lock/LockName" "text" "Ljava/lang/String;" (.ref a) ∧ h0.size ≤ b
theorem ef_m9_2 (m : MethodId) (a : Addr) (t : Addr) (k : ClassId) (x0 : Int32) (x1 : Int32) (wcs : Int32) (rg : Value) (EL : List (String × Nat)) : entryFrame m #[(.ref a)] 3 = mkF m 0 #[.val (.ref a), .unset, .unset] [] := by first | (simp [entryFrame, mkF, argsToLocals, Value.category]; done) | rfl
set_option maxRecDepth 65536 in
set_option maxHeartbeats 40000000 in
theorem m9_2 (l : Launch) (Z : State) (a0 : Array Value) (hw : ∀ d ∈ tables_1, d.before a0 Z = true) (ws : List Jvm.Cond) (a : Addr) (t : Addr) (k : ClassId) (x0 : Int32) (x1 : Int32) (wcs : Int32) (rg : Value) (EL : List (String × Nat)) (h0 : Heap) (n0 : Nat) (Z0 : n0 ≤ h0.size) (E_a : Exa Z h0 a "java/lang/String") (Fc_a : Fld Z h0 a "java/lang/String" "coder" "B" (.int (0 : Int32))) (Fv_a : Fld Z h0 a "java/lang/String" "value" "[B" (.ref t)) (V : Arv Z h0 t k .byte (2 : Int32) [(.int x0), (.int x1)] (.int (0 : Int32))) (S_CS : Sta Z h0 "java/lang/String" "COMPACT_STRINGS" "Z" (.int wcs)) (ncs : ¬ (wcs = (0 : Int32))) (S_SI : Sta Z h0 "jdk/internal/util/Preconditions" "SIOOBE_FORMATTER" "Ljava/util/function/BiFunction;" rg) (r_rg : rg.isRef = true) (hEL : EW Z a0 EL) (hm13 : (("com/example/portunus/portunus/lock/LockName", 13) : String × Nat) ∈ EL) (hm82 : (("com/example/portunus/portunus/lock/LockName", 82) : String × Nat) ∈ EL) (al0 : own_al (x0 &&& (255 : Int32))) (al1 : own_al (x1 &&& (255 : Int32))) :
    MetFree l (⟨"com/example/portunus/portunus/lock/LockName", "of", "(Ljava/lang/String;)Lcom/example/portunus/portunus/lock/LockName;"⟩ : MethodName) (head1 (Jvm.Cond.code (⟨"com/example/portunus/portunus/lock/LockName", "of", "(Ljava/lang/String;)Lcom/example/portunus/portunus/lock/LockName;"⟩ : MethodName) prog_10_method_2_code 3 (some (.object "com/example/portunus/portunus/lock/LockName")) :: ws) ({ frames := 5, cells := 11, slots := 137, locals := 73 } : Room)) (fun ar_ U => ar_ = #[(.ref a)] ∧ Z.Warmed39 U.vm ∧ U.heap = h0 ∧ CHv Z EL U.vm h0) (fun _ _ _ _ _ => True) (fun _ U o U' => ∃ v L, o = .returned v ∧ Q_m9_2 Z a t k x0 x1 wcs rg EL h0 n0 v U'.heap L ∧ CHr Z EL U.vm U.heap U'.vm U'.heap ∧ ReturnedEndW U o U' L ({ frames := 5, cells := 11, slots := 137, locals := 73 } : Room).cells ({ frames := 5, cells := 11, slots := 137, locals := 73 } : Room).slots) := by
  refine MetFree.of_bodySF (plainFor_of_name pnx_com_example_portunus_portunus_lock_LockName) hisR ?_
  intro p e s m args below meth c s₁ Bd hml0 hP hK
  obtain ⟨rfl, hZ, hh, HC⟩ := hP
  have hx := Bd.exec
  have hby := Bd.bytes
  have hml : c.maxLocals = 3 := hml0
  have hown : s.vm.findClass "com/example/portunus/portunus/lock/LockName" = some m.cls := findClass_of_methodNamed Bd.named
  have hnm := (name_of_methodNamed Bd.named Bd.method).1
  have X0 : Stand p l e ({ frames := 5, cells := 11, slots := 137, locals := 73 } : Room) s m #[(.ref a)] below meth c s₁ [] 0 0 := Stand.of_body Bd
  have e0 : s₁.heap = h0 := by rw [← hh, Bd.state]; rfl
  have N0 := Fr.nil n0
  have pre0 : ∀ tq_, Steps p.tables e below (s₁.setTop (mkF m 0 #[.val (.ref a), .unset, .unset] [])) tq_ → Steps p.tables e below (s₁.setTop (entryFrame m #[(.ref a)] 3)) tq_ := fun tq_ kt_ => castTop (ef_m9_2 m a t k x0 x1 wcs rg EL ) kt_
  obtain ⟨li1, T1, h1, k1, b1, kb1, X1, e1, E1, hS1, hk1, hZ, hown, EX1, FC1, FV1, AV1, la1, lb1, C1, Lt1, ne1, st1⟩ := ldcCH (s := s) (vm0 := s.vm) (EL := EL) X0 hx hZ hown (wk hw 42 rfl) (own_wS hw) e0 ((State.WarmedH.refl s).since 0) (Nat.zero_le _) hEL hm13 HC (vs := [(.int (108 : Int32)), (.int (111 : Int32)), (.int (99 : Int32)), (.int (107 : Int32)), (.int (32 : Int32)), (.int (110 : Int32)), (.int (97 : Int32)), (.int (109 : Int32)), (.int (101 : Int32))]) (z := (9 : Int32)) ⟨by decide, by decide⟩ (by decide) (by decide) (g := (mkF m 1 #[.val (.ref a), .unset, .unset] [(.ref a)])) rfl (hb hby d9_1) (n := 36) (by decide) (by decide) (nle rfl) (nle rfl)
  have CR1 := C1
  have K2 : Keep h0 h1 [] := (Keep.refl h0 []).ext E1
  obtain ⟨_, _, ⟨T3, L3, kk3, nn3⟩, -, X3, ⟨Lc3, hQ3, l3, y3, z3⟩, st3⟩ := Jvm.LawKit.callS X1 hx (y := (⟨"java/util/Objects", "requireNonNull", "(Ljava/lang/Object;Ljava/lang/String;)Ljava/lang/Object;"⟩ : MethodName)) hown (mvT hZ (wk hw 45 rfl)) (mvT hZ (wk hw 46 rfl)) (mvT hZ (wk hw 47 rfl)) (mvT hZ (wk hw 48 rfl)) (by decide) (backOf (W := 0) (m10 l Z a0 hw [] a li1 h1 n0 (Nat.le_trans Z0 K2.1) ) hZ (wk hw 48 rfl) (wk hw 47 rfl) (by decide) (by decide)) (g := (mkF m 3 #[.val (.ref a), .unset, .unset] [(.ref li1), (.ref a)])) rfl (by rw [hml]; rfl) (argsL := [(.ref a), (.ref li1)]) (rest := []) (lenOf pdx__Ljava_lang_Object_Ljava_lang_String__Ljava_lang_Object_ rfl) rfl (by show 2 * 0 + _ ≤ _; exact Nat.le_of_eq rfl) (hb hby d9_3) (fun _ _ => ⟨rfl, e1, nle rfl, nle rfl⟩)
  dsimp only [Pt.U, Pt.locs, Pt.cells, Pt.slots] at X3 l3 y3 z3 st3 hQ3
  subst l3 y3 z3
  obtain ⟨rfl, Nq3, e3⟩ := hQ3
  have N3 := Fr.app N0 Nq3
  have F5 := (E_a.ext E1)
  have F6 := (Fc_a.ext E1)
  have F7 := (Fv_a.ext E1)
  have F8 := (V.ext E1)
  obtain ⟨cq4, kq4, qa4, qb4, qc4⟩ := isOf hZ e3 F5
  obtain ⟨_, _, ⟨T4, L4, kk4, nn4⟩, -, X4, ⟨Lc4, hQ4, l4, y4, z4⟩, st4⟩ := X3.virtualBack hx (y := (⟨"java/lang/String", "isEmpty", "()Z"⟩ : MethodName)) (z := (⟨"java/lang/String", "isEmpty", "()Z"⟩ : MethodName)) hown (mvT hZ (wk hw 49 rfl)) (mvT hZ (wk hw 50 rfl)) (notFace_of_selects (args := #[]) (mvT hZ (wk hw 52 rfl))) (mvT hZ (wk hw 52 rfl)) (mvT hZ (wk hw 51 rfl)) (by decide) (backOf (W := 0) (m11 l Z a0 hw [] a t k (2 : Int32) [(.int x0), (.int x1)] h1 n0 (Nat.le_trans Z0 K2.1) F5 F6 F7 F8 (by decide)) hZ (wk hw 53 rfl) (wk hw 10 rfl) (by decide) (by decide)) qa4 qc4 (g := (mkF m 8 #[.val (.ref a), .unset, .unset] [(.ref a)])) rfl (by rw [hml]; rfl) (Steps.refl _) (argsL := []) (rest := []) (lenOf pdx___Z rfl) rfl (by show 2 * 0 + _ ≤ _; exact Nat.le_of_eq rfl) (hb hby d9_8) (fun _ _ => ⟨rfl, e3, nle rfl, nle rfl⟩)
  dsimp only [Pt.U, Pt.locs, Pt.cells, Pt.slots] at X4 l4 y4 z4 st4 hQ4
  subst l4 y4 z4
  obtain ⟨rfl, Nq4, e4⟩ := hQ4
  have N4 := Fr.app N3 Nq4
  have F10 := (S_CS.ext E1)
  obtain ⟨cq9, kq9, qa9, qb9, qc9⟩ := isOf hZ e4 F5
  obtain ⟨_, _, ⟨T9, L9, kk9, nn9⟩, -, X9, ⟨Lc9, hQ9, l9, y9, z9⟩, st9⟩ := X4.virtualBack hx (y := (⟨"java/lang/String", "length", "()I"⟩ : MethodName)) (z := (⟨"java/lang/String", "length", "()I"⟩ : MethodName)) hown (mvT hZ (wk hw 54 rfl)) (mvT hZ (wk hw 55 rfl)) (notFace_of_selects (args := #[]) (mvT hZ (wk hw 57 rfl))) (mvT hZ (wk hw 57 rfl)) (mvT hZ (wk hw 56 rfl)) (by decide) (backOf (W := 1) (m12 l Z a0 hw [] a t k (2 : Int32) [(.int x0), (.int x1)] wcs h1 n0 (Nat.le_trans Z0 K2.1) F5 F6 F7 F8 F10 ncs) hZ (wk hw 58 rfl) (wk hw 10 rfl) (by decide) (by decide)) qa9 qc9 (g := (mkF m 28 #[.val (.ref a), .val (.int (0 : Int32)), .unset] [(.ref a), (.int (0 : Int32))])) rfl (by rw [hml]; rfl) (Steps.refl _) (argsL := []) (rest := [(.int (0 : Int32))]) (lenOf pdx___I rfl) rfl (by show 2 * 0 + _ ≤ _; exact Nat.le_of_eq rfl) (hb hby d9_28) (fun _ _ => ⟨rfl, e4, nle rfl, nle rfl⟩)
  dsimp only [Pt.U, Pt.locs, Pt.cells, Pt.slots] at X9 l9 y9 z9 st9 hQ9
  subst l9 y9 z9
  obtain ⟨rfl, Nq9, e9⟩ := hQ9
  have N9 := Fr.app N4 Nq9
  have F12 := (S_SI.ext E1)
  obtain ⟨cq11, kq11, qa11, qb11, qc11⟩ := isOf hZ e9 F5
  obtain ⟨_, _, ⟨T11, L11, kk11, nn11⟩, -, X11, ⟨Lc11, hQ11, l11, y11, z11⟩, st11⟩ := X9.virtualBack hx (y := (⟨"java/lang/String", "codePointAt", "(I)I"⟩ : MethodName)) (z := (⟨"java/lang/String", "codePointAt", "(I)I"⟩ : MethodName)) hown (mvT hZ (wk hw 64 rfl)) (mvT hZ (wk hw 65 rfl)) (notFace_of_selects (args := #[]) (mvT hZ (wk hw 67 rfl))) (mvT hZ (wk hw 67 rfl)) (mvT hZ (wk hw 66 rfl)) (by decide) (backOf (W := 0) (m14 l Z a0 hw [] a t k (2 : Int32) [(.int x0), (.int x1)] (0 : Int32) x0 wcs rg h1 n0 (Nat.le_trans Z0 K2.1) F5 F6 F7 F8 (by decide) (by decide) rfl F10 ncs F12 r_rg) hZ (wk hw 68 rfl) (wk hw 10 rfl) (by decide) (by decide)) qa11 qc11 (g := (mkF m 36 #[.val (.ref a), .val (.int (0 : Int32)), .unset] [(.int (0 : Int32)), (.ref a)])) rfl (by rw [hml]; rfl) (Steps.refl _) (argsL := [(.int (0 : Int32))]) (rest := []) (lenOf pdx__I_I rfl) rfl (by show 2 * 0 + _ ≤ _; exact Nat.le_of_eq rfl) (hb hby d9_36) (fun _ _ => ⟨rfl, e9, nle rfl, nle rfl⟩)
  dsimp only [Pt.U, Pt.locs, Pt.cells, Pt.slots] at X11 l11 y11 z11 st11 hQ11
  subst l11 y11 z11
  obtain ⟨rfl, Nq11, e11⟩ := hQ11
  have N11 := Fr.app N9 Nq11
  obtain ⟨_, _, ⟨T13, L13, kk13, nn13⟩, -, X13, hSq13, hg13, ⟨Lc13, hQ13, l13, y13, z13, C13⟩, st13⟩ := callSS (s := s.setVm T1.vm) X11 hx (y := (⟨"com/example/portunus/portunus/lock/LockName", "allowed", "(I)Z"⟩ : MethodName)) hown (mvT hZ (wk hw 82 rfl)) (mvT hZ (wk hw 83 rfl)) (mvT hZ (wk hw 40 rfl)) (mvT hZ (wk hw 84 rfl)) (by decide) (backOfSH (s := s) (vm0 := T1.vm) (W := 0) (own_m18 l Z a0 hw [] (x0 &&& (255 : Int32)) wcs EL h1 n0 (Nat.le_trans Z0 K2.1) F10 ncs hEL hm82 al0) hZ (wk hw 84 rfl) (wk hw 40 rfl) (by decide) (by decide) hEL CR1.1) (g := (mkF m 41 #[.val (.ref a), .val (.int (0 : Int32)), .val (.int (x0 &&& (255 : Int32)))] [(.int (x0 &&& (255 : Int32)))])) rfl (by rw [hml]; rfl) (argsL := [(.int (x0 &&& (255 : Int32)))]) (rest := []) (lenOf pdx__I_Z rfl) rfl (by show 2 * 0 + _ ≤ _; exact Nat.le_of_eq rfl) (hb hby d9_41) (fun _ _ => ⟨rfl, e11, nle rfl, nle rfl⟩)
  dsimp only [Pt.U, Pt.locs, Pt.cells, Pt.slots] at X13 hSq13 hg13 l13 y13 z13 st13 hQ13 C13
  subst l13 y13 z13
  obtain ⟨rfl, Nq13, Kq13⟩ := hQ13
  have N13 := Fr.app N11 Nq13
  obtain ⟨h13, e13⟩ : ∃ h, T13.heap = h := ⟨_, rfl⟩
  rw [e13] at Kq13 C13 hSq13
  have hZ : Z.Warmed39 (s.setVm T13.vm).vm := State.Warmed39.trans (t := s.setVm T1.vm) hZ hSq13.1
  have hown : (s.setVm T13.vm).vm.findClass "com/example/portunus/portunus/lock/LockName" = some m.cls := by rw [show (s.setVm T13.vm).vm = T13.vm from rfl, hSq13.1.alike.findClass]; exact hown
  have X13 : Stand p l e _ (s.setVm T13.vm) m _ below meth c T13 _ _ _ := X13
  have hS13 : s.Since T13.vm h13.size := (hS1).trans hSq13 (Nat.le_trans hk1 Kq13.1)
  have CR13 := CR1.trans C13
  have K14 : Keep h0 h13 [] := K2.trans Kq13 own_m0
  obtain ⟨_, _, ⟨T15, L15, kk15, nn15⟩, -, X15, ⟨Lc15, hQ15, l15, y15, z15⟩, st15⟩ := Jvm.LawKit.callS X13 hx (y := (⟨"java/lang/Character", "charCount", "(I)I"⟩ : MethodName)) hown (mvT hZ (wk hw 85 rfl)) (mvT hZ (wk hw 86 rfl)) (mvT hZ (wk hw 87 rfl)) (mvT hZ (wk hw 88 rfl)) (by decide) (backOf (W := 1) (m19 l Z a0 hw [] (x0 &&& (255 : Int32)) h13 n0 (Nat.le_trans Z0 K14.1) (own_alt al0)) hZ (wk hw 88 rfl) (wk hw 87 rfl) (by decide) (by decide)) (g := (mkF m 86 #[.val (.ref a), .val (.int (0 : Int32)), .val (.int (x0 &&& (255 : Int32)))] [(.int (x0 &&& (255 : Int32))), (.int (0 : Int32))])) rfl (by rw [hml]; rfl) (argsL := [(.int (x0 &&& (255 : Int32)))]) (rest := [(.int (0 : Int32))]) (lenOf pdx__I_I rfl) rfl (by show 2 * 0 + _ ≤ _; exact Nat.le_of_eq rfl) (hb hby d9_86) (fun _ _ => ⟨rfl, e13, nle rfl, nle rfl⟩)
  dsimp only [Pt.U, Pt.locs, Pt.cells, Pt.slots] at X15 l15 y15 z15 st15 hQ15
  subst l15 y15 z15
  obtain ⟨rfl, Nq15, e15⟩ := hQ15
  have N15 := Fr.app N13 Nq15
  have F17 := (F5.keep Kq13)
  have F18 := (F6.keep Kq13 own_n0)
  have F19 := (F7.keep Kq13 own_n0)
  have F20 := (F8.keep Kq13 own_n0)
  have F21 := (own_staK F10 Kq13 ns0)
  obtain ⟨cq16, kq16, qa16, qb16, qc16⟩ := isOf hZ e15 F17
  obtain ⟨_, _, ⟨T16, L16, kk16, nn16⟩, -, X16, ⟨Lc16, hQ16, l16, y16, z16⟩, st16⟩ := X15.virtualBack hx (y := (⟨"java/lang/String", "length", "()I"⟩ : MethodName)) (z := (⟨"java/lang/String", "length", "()I"⟩ : MethodName)) hown (mvT hZ (wk hw 54 rfl)) (mvT hZ (wk hw 55 rfl)) (notFace_of_selects (args := #[]) (mvT hZ (wk hw 57 rfl))) (mvT hZ (wk hw 57 rfl)) (mvT hZ (wk hw 56 rfl)) (by decide) (backOf (W := 1) (m12 l Z a0 hw [] a t k (2 : Int32) [(.int x0), (.int x1)] wcs h13 n0 (Nat.le_trans Z0 K14.1) F17 F18 F19 F20 F21 ncs) hZ (wk hw 58 rfl) (wk hw 10 rfl) (by decide) (by decide)) qa16 qc16 (g := (mkF m 28 #[.val (.ref a), .val (.int (1 : Int32)), .val (.int (x0 &&& (255 : Int32)))] [(.ref a), (.int (1 : Int32))])) rfl (by rw [hml]; rfl) (Steps.refl _) (argsL := []) (rest := [(.int (1 : Int32))]) (lenOf pdx___I rfl) rfl (by show 2 * 0 + _ ≤ _; exact Nat.le_of_eq rfl) (hb hby d9_28) (fun _ _ => ⟨rfl, e15, nle rfl, nle rfl⟩)
  dsimp only [Pt.U, Pt.locs, Pt.cells, Pt.slots] at X16 l16 y16 z16 st16 hQ16
  subst l16 y16 z16
  obtain ⟨rfl, Nq16, e16⟩ := hQ16
  have N16 := Fr.app N15 Nq16
  have F23 := (own_staK F12 Kq13 ns0)
  obtain ⟨cq22, kq22, qa22, qb22, qc22⟩ := isOf hZ e16 F17
  obtain ⟨_, _, ⟨T22, L22, kk22, nn22⟩, -, X22, ⟨Lc22, hQ22, l22, y22, z22⟩, st22⟩ := X16.virtualBack hx (y := (⟨"java/lang/String", "codePointAt", "(I)I"⟩ : MethodName)) (z := (⟨"java/lang/String", "codePointAt", "(I)I"⟩ : MethodName)) hown (mvT hZ (wk hw 64 rfl)) (mvT hZ (wk hw 65 rfl)) (notFace_of_selects (args := #[]) (mvT hZ (wk hw 67 rfl))) (mvT hZ (wk hw 67 rfl)) (mvT hZ (wk hw 66 rfl)) (by decide) (backOf (W := 0) (m14 l Z a0 hw [] a t k (2 : Int32) [(.int x0), (.int x1)] (1 : Int32) x1 wcs rg h13 n0 (Nat.le_trans Z0 K14.1) F17 F18 F19 F20 (by decide) (by decide) rfl F21 ncs F23 r_rg) hZ (wk hw 68 rfl) (wk hw 10 rfl) (by decide) (by decide)) qa22 qc22 (g := (mkF m 36 #[.val (.ref a), .val (.int (1 : Int32)), .val (.int (x0 &&& (255 : Int32)))] [(.int (1 : Int32)), (.ref a)])) rfl (by rw [hml]; rfl) (Steps.refl _) (argsL := [(.int (1 : Int32))]) (rest := []) (lenOf pdx__I_I rfl) rfl (by show 2 * 0 + _ ≤ _; exact Nat.le_of_eq rfl) (hb hby d9_36) (fun _ _ => ⟨rfl, e16, nle rfl, nle rfl⟩)
  dsimp only [Pt.U, Pt.locs, Pt.cells, Pt.slots] at X22 l22 y22 z22 st22 hQ22
  subst l22 y22 z22
  obtain ⟨rfl, Nq22, e22⟩ := hQ22
  have N22 := Fr.app N16 Nq22
  obtain ⟨_, _, ⟨T24, L24, kk24, nn24⟩, -, X24, hSq24, hg24, ⟨Lc24, hQ24, l24, y24, z24, C24⟩, st24⟩ := callSS (s := s.setVm T13.vm) X22 hx (y := (⟨"com/example/portunus/portunus/lock/LockName", "allowed", "(I)Z"⟩ : MethodName)) hown (mvT hZ (wk hw 82 rfl)) (mvT hZ (wk hw 83 rfl)) (mvT hZ (wk hw 40 rfl)) (mvT hZ (wk hw 84 rfl)) (by decide) (backOfSH (s := s) (vm0 := T13.vm) (W := 0) (own_m18 l Z a0 hw [] (x1 &&& (255 : Int32)) wcs EL h13 n0 (Nat.le_trans Z0 K14.1) F21 ncs hEL hm82 al1) hZ (wk hw 84 rfl) (wk hw 40 rfl) (by decide) (by decide) hEL CR13.1) (g := (mkF m 41 #[.val (.ref a), .val (.int (1 : Int32)), .val (.int (x1 &&& (255 : Int32)))] [(.int (x1 &&& (255 : Int32)))])) rfl (by rw [hml]; rfl) (argsL := [(.int (x1 &&& (255 : Int32)))]) (rest := []) (lenOf pdx__I_Z rfl) rfl (by show 2 * 0 + _ ≤ _; exact Nat.le_of_eq rfl) (hb hby d9_41) (fun _ _ => ⟨rfl, e22, nle rfl, nle rfl⟩)
  dsimp only [Pt.U, Pt.locs, Pt.cells, Pt.slots] at X24 hSq24 hg24 l24 y24 z24 st24 hQ24 C24
  subst l24 y24 z24
  obtain ⟨rfl, Nq24, Kq24⟩ := hQ24
  have N24 := Fr.app N22 Nq24
  obtain ⟨h24, e24⟩ : ∃ h, T24.heap = h := ⟨_, rfl⟩
  rw [e24] at Kq24 C24 hSq24
  have hZ : Z.Warmed39 (s.setVm T24.vm).vm := State.Warmed39.trans (t := s.setVm T13.vm) hZ hSq24.1
  have hown : (s.setVm T24.vm).vm.findClass "com/example/portunus/portunus/lock/LockName" = some m.cls := by rw [show (s.setVm T24.vm).vm = T24.vm from rfl, hSq24.1.alike.findClass]; exact hown
  have X24 : Stand p l e _ (s.setVm T24.vm) m _ below meth c T24 _ _ _ := X24
  have hS24 : s.Since T24.vm h24.size := (hS13).trans hSq24 (Nat.le_trans (Nat.le_refl _) Kq24.1)
  have CR24 := CR13.trans C24
  have K25 : Keep h0 h24 [] := K14.trans Kq24 own_m0
  obtain ⟨_, _, ⟨T26, L26, kk26, nn26⟩, -, X26, ⟨Lc26, hQ26, l26, y26, z26⟩, st26⟩ := Jvm.LawKit.callS X24 hx (y := (⟨"java/lang/Character", "charCount", "(I)I"⟩ : MethodName)) hown (mvT hZ (wk hw 85 rfl)) (mvT hZ (wk hw 86 rfl)) (mvT hZ (wk hw 87 rfl)) (mvT hZ (wk hw 88 rfl)) (by decide) (backOf (W := 1) (m19 l Z a0 hw [] (x1 &&& (255 : Int32)) h24 n0 (Nat.le_trans Z0 K25.1) (own_alt al1)) hZ (wk hw 88 rfl) (wk hw 87 rfl) (by decide) (by decide)) (g := (mkF m 86 #[.val (.ref a), .val (.int (1 : Int32)), .val (.int (x1 &&& (255 : Int32)))] [(.int (x1 &&& (255 : Int32))), (.int (1 : Int32))])) rfl (by rw [hml]; rfl) (argsL := [(.int (x1 &&& (255 : Int32)))]) (rest := [(.int (1 : Int32))]) (lenOf pdx__I_I rfl) rfl (by show 2 * 0 + _ ≤ _; exact Nat.le_of_eq rfl) (hb hby d9_86) (fun _ _ => ⟨rfl, e24, nle rfl, nle rfl⟩)
  dsimp only [Pt.U, Pt.locs, Pt.cells, Pt.slots] at X26 l26 y26 z26 st26 hQ26
  subst l26 y26 z26
  obtain ⟨rfl, Nq26, e26⟩ := hQ26
  have N26 := Fr.app N24 Nq26
  have F28 := (F17.keep Kq24)
  have F29 := (F18.keep Kq24 own_n0)
  have F30 := (F19.keep Kq24 own_n0)
  have F31 := (F20.keep Kq24 own_n0)
  have F32 := (own_staK F21 Kq24 ns0)
  obtain ⟨cq27, kq27, qa27, qb27, qc27⟩ := isOf hZ e26 F28
  obtain ⟨_, _, ⟨T27, L27, kk27, nn27⟩, -, X27, ⟨Lc27, hQ27, l27, y27, z27⟩, st27⟩ := X26.virtualBack hx (y := (⟨"java/lang/String", "length", "()I"⟩ : MethodName)) (z := (⟨"java/lang/String", "length", "()I"⟩ : MethodName)) hown (mvT hZ (wk hw 54 rfl)) (mvT hZ (wk hw 55 rfl)) (notFace_of_selects (args := #[]) (mvT hZ (wk hw 57 rfl))) (mvT hZ (wk hw 57 rfl)) (mvT hZ (wk hw 56 rfl)) (by decide) (backOf (W := 1) (m12 l Z a0 hw [] a t k (2 : Int32) [(.int x0), (.int x1)] wcs h24 n0 (Nat.le_trans Z0 K25.1) F28 F29 F30 F31 F32 ncs) hZ (wk hw 58 rfl) (wk hw 10 rfl) (by decide) (by decide)) qa27 qc27 (g := (mkF m 28 #[.val (.ref a), .val (.int (2 : Int32)), .val (.int (x1 &&& (255 : Int32)))] [(.ref a), (.int (2 : Int32))])) rfl (by rw [hml]; rfl) (Steps.refl _) (argsL := []) (rest := [(.int (2 : Int32))]) (lenOf pdx___I rfl) rfl (by show 2 * 0 + _ ≤ _; exact Nat.le_of_eq rfl) (hb hby d9_28) (fun _ _ => ⟨rfl, e26, nle rfl, nle rfl⟩)
  dsimp only [Pt.U, Pt.locs, Pt.cells, Pt.slots] at X27 l27 y27 z27 st27 hQ27
  subst l27 y27 z27
  obtain ⟨rfl, Nq27, e27⟩ := hQ27
  have N27 := Fr.app N26 Nq27
  obtain ⟨cq33, kq33, qa33, qb33, qc33⟩ := isOf hZ e27 F28
  obtain ⟨_, _, ⟨T33, L33, kk33, nn33⟩, -, X33, ⟨Lc33, hQ33, l33, y33, z33⟩, st33⟩ := X27.virtualBack hx (y := (⟨"java/lang/String", "length", "()I"⟩ : MethodName)) (z := (⟨"java/lang/String", "length", "()I"⟩ : MethodName)) hown (mvT hZ (wk hw 54 rfl)) (mvT hZ (wk hw 55 rfl)) (notFace_of_selects (args := #[]) (mvT hZ (wk hw 57 rfl))) (mvT hZ (wk hw 57 rfl)) (mvT hZ (wk hw 56 rfl)) (by decide) (backOf (W := 0) (m12 l Z a0 hw [] a t k (2 : Int32) [(.int x0), (.int x1)] wcs h24 n0 (Nat.le_trans Z0 K25.1) F28 F29 F30 F31 F32 ncs) hZ (wk hw 58 rfl) (wk hw 10 rfl) (by decide) (by decide)) qa33 qc33 (g := (mkF m 95 #[.val (.ref a), .val (.int (2 : Int32)), .val (.int (x1 &&& (255 : Int32)))] [(.ref a)])) rfl (by rw [hml]; rfl) (Steps.refl _) (argsL := []) (rest := []) (lenOf pdx___I rfl) rfl (by show 2 * 0 + _ ≤ _; exact Nat.le_of_eq rfl) (hb hby d9_95) (fun _ _ => ⟨rfl, e27, nle rfl, nle rfl⟩)
  dsimp only [Pt.U, Pt.locs, Pt.cells, Pt.slots] at X33 l33 y33 z33 st33 hQ33
  subst l33 y33 z33
  obtain ⟨rfl, Nq33, e33⟩ := hQ33
  have N33 := Fr.app N27 Nq33
  obtain ⟨T34, h34, X34, e34, E34, A34, D34, -, st34⟩ := newO X33 hx hZ hown (wk hw 90 rfl) (wk hw 91 rfl) (wk hw 40 rfl) e33 (g := (mkF m 140 #[.val (.ref a), .val (.int (2 : Int32)), .val (.int (x1 &&& (255 : Int32)))] [])) rfl (hb hby d9_140) (nle rfl) (nle rfl)
  obtain ⟨b34, g34⟩ : ∃ z, z = h24.size := ⟨_, rfl⟩
  rw [← g34] at A34 D34 st34
  have sz_b34 : h0.size ≤ b34 := Nat.le_trans K25.1 (Nat.le_of_eq g34.symm)
  have ge_b34 : n0 ≤ b34 := Nat.le_trans Z0 sz_b34
  have ne_35 : a ≠ b34 := Nat.ne_of_lt (Nat.lt_of_lt_of_le F28.lt (Nat.le_of_eq g34.symm))
  have ne_36 : t ≠ b34 := Nat.ne_of_lt (Nat.lt_of_lt_of_le F31.lt (Nat.le_of_eq g34.symm))
  have F38 := ((EX1.keep Kq13).keep Kq24)
  have ne_37 : li1 ≠ b34 := Nat.ne_of_lt (Nat.lt_of_lt_of_le F38.lt (Nat.le_of_eq g34.symm))
  have F40 := ((AV1.keep Kq13 own_n0).keep Kq24 own_n0)
  have ne_39 : b1 ≠ b34 := Nat.ne_of_lt (Nat.lt_of_lt_of_le F40.lt (Nat.le_of_eq g34.symm))
  have CR41 := CR24.trans (CHr.ext E34 CR24.1)
  have K42 : Keep h0 h34 [] := K25.ext E34
  have D34_text := D34 (Or.inr (wk hw 97 rfl)) (ty := (.object "java/lang/String")) (by decide)
  obtain ⟨_, _, ⟨T43, L43, kk43, nn43⟩, -, X43, ⟨Lc43, hQ43, l43, y43, z43⟩, st43⟩ := X34.specialBack hx (y := (⟨"com/example/portunus/portunus/lock/LockName", "<init>", "(Ljava/lang/String;)V"⟩ : MethodName)) rfl hown (mvT hZ (wk hw 92 rfl)) (mvT hZ (wk hw 93 rfl)) (mvT hZ (wk hw 94 rfl)) (by decide) (backOf (W := 1) (m20 l Z a0 hw [] b34 a .null h34 n0 (Nat.le_trans Z0 K42.1) A34 D34_text ge_b34) hZ (wk hw 94 rfl) (wk hw 40 rfl) (by decide) (by decide)) (g := (mkF m 145 #[.val (.ref a), .val (.int (2 : Int32)), .val (.int (x1 &&& (255 : Int32)))] [(.ref a), (.ref b34), (.ref b34)])) rfl (by rw [hml]; rfl) (Steps.refl _) (a := b34) (argsL := [(.ref a)]) (rest := [(.ref b34)]) (lenOf pdx__Ljava_lang_String__V rfl) rfl (by show 2 * 0 + _ ≤ _; exact Nat.le_of_eq rfl) (hb hby d9_145) (fun _ _ => ⟨rfl, e34, nle rfl, nle rfl⟩)
  dsimp only [Pt.U, Pt.locs, Pt.cells, Pt.slots] at X43 l43 y43 z43 st43 hQ43
  subst l43 y43 z43
  obtain ⟨rfl, Nq43, Kq43, P43_0, P43_1⟩ := hQ43
  have N43 := Fr.app N33 Nq43
  obtain ⟨h43, e43⟩ : ∃ h, T43.heap = h := ⟨_, rfl⟩
  rw [e43] at Kq43 P43_0 P43_1
  have ns43 := (nsS A34.nostat ns0)
  have CR44 := CR41.trans (CHr.keep Kq43 (sfS (Safe.exa hZ.alike A34 (by decide) (by decide)) sf0) CR41.1)
  have K45 : Keep h0 h43 [] := K42.trans Kq43 (own_mS (Or.inr sz_b34) own_m0)
  obtain ⟨fs, hr, hrun, hended, hWW⟩ := leaveW (s := s) X43 hS24 (by rw [e43]; exact (Nat.le_trans (Nat.le_trans (Nat.le_refl _) E34.1) Kq43.1)) (v := some (.ref b34)) (fun h => by rw [Bd.returns] at h; cases h)
  refine ⟨_, _, pre0 _ ?_, hrun, hended, _, _, rfl, ?_, ?_, ⟨hWW.1, hWW.2.1, hWW.2.2.1, hWW.2.2.2.mono (nle rfl) (nle rfl)⟩⟩
  · show Steps p.tables e below (s₁.setTop (mkF m 0 #[.val (.ref a), .unset, .unset] [])) _
    refine XS.aloadN X0.here hx rfl (hb hby d9_0) rfl rfl ?_
    show Steps p.tables e below (s₁.setTop (mkF m 1 #[.val (.ref a), .unset, .unset] [(.ref a)])) _
    refine st1 _ ?_
    show Steps p.tables e below (T1.setTop (mkF m 3 #[.val (.ref a), .unset, .unset] [(.ref li1), (.ref a)])) _
    refine st3 _ ?_
    show Steps p.tables e below (T3.setTop (mkF m 6 #[.val (.ref a), .unset, .unset] [(.ref a)])) _
    refine XS.pop X3.here hx rfl (hb hby d9_6) rfl rfl ?_
    show Steps p.tables e below (T3.setTop (mkF m 7 #[.val (.ref a), .unset, .unset] [])) _
    refine XS.aloadN X3.here hx rfl (hb hby d9_7) rfl rfl ?_
    show Steps p.tables e below (T3.setTop (mkF m 8 #[.val (.ref a), .unset, .unset] [(.ref a)])) _
    refine st4.trans ?_
    show Steps p.tables e below (T4.setTop (mkF m 11 #[.val (.ref a), .unset, .unset] [(.int (0 : Int32))])) _
    refine XS.ifYes X4.here hx rfl (pc0 := 11) (pc' := 24) rfl (hb hby d9_11) rfl ((if0 _ _).trans (teq (by decide : (0 : Int32) = (0 : Int32))).1) (by decide) (by decide) ?_
    show Steps p.tables e below (T4.setTop (mkF m 24 #[.val (.ref a), .unset, .unset] [])) _
    refine XS.iconst X4.here hx rfl (hb hby d9_24) ?_
    show Steps p.tables e below (T4.setTop (mkF m 25 #[.val (.ref a), .unset, .unset] [(.int (0 : Int32))])) _
    refine XS.istoreN X4.here hx rfl (hb hby d9_25) rfl (l' := #[.val (.ref a), .val (.int (0 : Int32)), .unset]) rfl ?_
    show Steps p.tables e below (T4.setTop (mkF m 26 #[.val (.ref a), .val (.int (0 : Int32)), .unset] [])) _
    refine XS.iloadN X4.here hx rfl (hb hby d9_26) rfl ?_
    show Steps p.tables e below (T4.setTop (mkF m 27 #[.val (.ref a), .val (.int (0 : Int32)), .unset] [(.int (0 : Int32))])) _
    refine XS.aloadN X4.here hx rfl (hb hby d9_27) rfl rfl ?_
    show Steps p.tables e below (T4.setTop (mkF m 28 #[.val (.ref a), .val (.int (0 : Int32)), .unset] [(.ref a), (.int (0 : Int32))])) _
    refine st9.trans ?_
    show Steps p.tables e below (T9.setTop (mkF m 31 #[.val (.ref a), .val (.int (0 : Int32)), .unset] [(.int (2 : Int32)), (.int (0 : Int32))])) _
    refine XS.icmpNo X9.here hx rfl (hb hby d9_31) rfl (tlt (by decide : (0 : Int32) < (2 : Int32))).2.1 ?_
    show Steps p.tables e below (T9.setTop (mkF m 34 #[.val (.ref a), .val (.int (0 : Int32)), .unset] [])) _
    refine XS.aloadN X9.here hx rfl (hb hby d9_34) rfl rfl ?_
    show Steps p.tables e below (T9.setTop (mkF m 35 #[.val (.ref a), .val (.int (0 : Int32)), .unset] [(.ref a)])) _
    refine XS.iloadN X9.here hx rfl (hb hby d9_35) rfl ?_
    show Steps p.tables e below (T9.setTop (mkF m 36 #[.val (.ref a), .val (.int (0 : Int32)), .unset] [(.int (0 : Int32)), (.ref a)])) _
    refine st11.trans ?_
    show Steps p.tables e below (T11.setTop (mkF m 39 #[.val (.ref a), .val (.int (0 : Int32)), .unset] [(.int (x0 &&& (255 : Int32)))])) _
    refine XS.istoreN X11.here hx rfl (hb hby d9_39) rfl (l' := #[.val (.ref a), .val (.int (0 : Int32)), .val (.int (x0 &&& (255 : Int32)))]) rfl ?_
    show Steps p.tables e below (T11.setTop (mkF m 40 #[.val (.ref a), .val (.int (0 : Int32)), .val (.int (x0 &&& (255 : Int32)))] [])) _
    refine XS.iloadN X11.here hx rfl (hb hby d9_40) rfl ?_
    show Steps p.tables e below (T11.setTop (mkF m 41 #[.val (.ref a), .val (.int (0 : Int32)), .val (.int (x0 &&& (255 : Int32)))] [(.int (x0 &&& (255 : Int32)))])) _
    refine st13.trans ?_
    show Steps p.tables e below (T13.setTop (mkF m 44 #[.val (.ref a), .val (.int (0 : Int32)), .val (.int (x0 &&& (255 : Int32)))] [(.int (1 : Int32))])) _
    refine XS.ifYes X13.here hx rfl (pc0 := 44) (pc' := 84) rfl (hb hby d9_44) rfl ((if0 _ _).trans (feq (by decide : ¬ ((1 : Int32) = (0 : Int32)))).2) (by decide) (by decide) ?_
    show Steps p.tables e below (T13.setTop (mkF m 84 #[.val (.ref a), .val (.int (0 : Int32)), .val (.int (x0 &&& (255 : Int32)))] [])) _
    refine XS.iloadN X13.here hx rfl (hb hby d9_84) rfl ?_
    show Steps p.tables e below (T13.setTop (mkF m 85 #[.val (.ref a), .val (.int (0 : Int32)), .val (.int (x0 &&& (255 : Int32)))] [(.int (0 : Int32))])) _
    refine XS.iloadN X13.here hx rfl (hb hby d9_85) rfl ?_
    show Steps p.tables e below (T13.setTop (mkF m 86 #[.val (.ref a), .val (.int (0 : Int32)), .val (.int (x0 &&& (255 : Int32)))] [(.int (x0 &&& (255 : Int32))), (.int (0 : Int32))])) _
    refine st15 _ ?_
    show Steps p.tables e below (T15.setTop (mkF m 89 #[.val (.ref a), .val (.int (0 : Int32)), .val (.int (x0 &&& (255 : Int32)))] [(.int (1 : Int32)), (.int (0 : Int32))])) _
    show Steps p.tables e below (T15.setTop (mkF m 89 #[.val (.ref a), .val (.int (0 : Int32)), .val (.int (x0 &&& (255 : Int32)))] [(.int (1 : Int32)), (.int (0 : Int32))])) _
    refine XS.iadd X15.here hx rfl (hb hby d9_89) rfl ?_
    show Steps p.tables e below (T15.setTop (mkF m 90 #[.val (.ref a), .val (.int (0 : Int32)), .val (.int (x0 &&& (255 : Int32)))] [(.int (1 : Int32))])) _
    refine XS.istoreN X15.here hx rfl (hb hby d9_90) rfl (l' := #[.val (.ref a), .val (.int (1 : Int32)), .val (.int (x0 &&& (255 : Int32)))]) rfl ?_
    show Steps p.tables e below (T15.setTop (mkF m 91 #[.val (.ref a), .val (.int (1 : Int32)), .val (.int (x0 &&& (255 : Int32)))] [])) _
    refine XS.goto X15.here hx rfl (pc0 := 91) (pc' := 26) rfl (hb hby d9_91) (by decide) (by decide) ?_
    show Steps p.tables e below (T15.setTop (mkF m 26 #[.val (.ref a), .val (.int (1 : Int32)), .val (.int (x0 &&& (255 : Int32)))] [])) _
    refine XS.iloadN X15.here hx rfl (hb hby d9_26) rfl ?_
    show Steps p.tables e below (T15.setTop (mkF m 27 #[.val (.ref a), .val (.int (1 : Int32)), .val (.int (x0 &&& (255 : Int32)))] [(.int (1 : Int32))])) _
    refine XS.aloadN X15.here hx rfl (hb hby d9_27) rfl rfl ?_
    show Steps p.tables e below (T15.setTop (mkF m 28 #[.val (.ref a), .val (.int (1 : Int32)), .val (.int (x0 &&& (255 : Int32)))] [(.ref a), (.int (1 : Int32))])) _
    refine st16.trans ?_
    show Steps p.tables e below (T16.setTop (mkF m 31 #[.val (.ref a), .val (.int (1 : Int32)), .val (.int (x0 &&& (255 : Int32)))] [(.int (2 : Int32)), (.int (1 : Int32))])) _
    refine XS.icmpNo X16.here hx rfl (hb hby d9_31) rfl (tlt (by decide : (1 : Int32) < (2 : Int32))).2.1 ?_
    show Steps p.tables e below (T16.setTop (mkF m 34 #[.val (.ref a), .val (.int (1 : Int32)), .val (.int (x0 &&& (255 : Int32)))] [])) _
    refine XS.aloadN X16.here hx rfl (hb hby d9_34) rfl rfl ?_
    show Steps p.tables e below (T16.setTop (mkF m 35 #[.val (.ref a), .val (.int (1 : Int32)), .val (.int (x0 &&& (255 : Int32)))] [(.ref a)])) _
    refine XS.iloadN X16.here hx rfl (hb hby d9_35) rfl ?_
    show Steps p.tables e below (T16.setTop (mkF m 36 #[.val (.ref a), .val (.int (1 : Int32)), .val (.int (x0 &&& (255 : Int32)))] [(.int (1 : Int32)), (.ref a)])) _
    refine st22.trans ?_
    show Steps p.tables e below (T22.setTop (mkF m 39 #[.val (.ref a), .val (.int (1 : Int32)), .val (.int (x0 &&& (255 : Int32)))] [(.int (x1 &&& (255 : Int32)))])) _
    refine XS.istoreN X22.here hx rfl (hb hby d9_39) rfl (l' := #[.val (.ref a), .val (.int (1 : Int32)), .val (.int (x1 &&& (255 : Int32)))]) rfl ?_
    show Steps p.tables e below (T22.setTop (mkF m 40 #[.val (.ref a), .val (.int (1 : Int32)), .val (.int (x1 &&& (255 : Int32)))] [])) _
    refine XS.iloadN X22.here hx rfl (hb hby d9_40) rfl ?_
    show Steps p.tables e below (T22.setTop (mkF m 41 #[.val (.ref a), .val (.int (1 : Int32)), .val (.int (x1 &&& (255 : Int32)))] [(.int (x1 &&& (255 : Int32)))])) _
    refine st24.trans ?_
    show Steps p.tables e below (T24.setTop (mkF m 44 #[.val (.ref a), .val (.int (1 : Int32)), .val (.int (x1 &&& (255 : Int32)))] [(.int (1 : Int32))])) _
    refine XS.ifYes X24.here hx rfl (pc0 := 44) (pc' := 84) rfl (hb hby d9_44) rfl ((if0 _ _).trans (feq (by decide : ¬ ((1 : Int32) = (0 : Int32)))).2) (by decide) (by decide) ?_
    show Steps p.tables e below (T24.setTop (mkF m 84 #[.val (.ref a), .val (.int (1 : Int32)), .val (.int (x1 &&& (255 : Int32)))] [])) _
    refine XS.iloadN X24.here hx rfl (hb hby d9_84) rfl ?_
    show Steps p.tables e below (T24.setTop (mkF m 85 #[.val (.ref a), .val (.int (1 : Int32)), .val (.int (x1 &&& (255 : Int32)))] [(.int (1 : Int32))])) _
    refine XS.iloadN X24.here hx rfl (hb hby d9_85) rfl ?_
    show Steps p.tables e below (T24.setTop (mkF m 86 #[.val (.ref a), .val (.int (1 : Int32)), .val (.int (x1 &&& (255 : Int32)))] [(.int (x1 &&& (255 : Int32))), (.int (1 : Int32))])) _
    refine st26 _ ?_
    show Steps p.tables e below (T26.setTop (mkF m 89 #[.val (.ref a), .val (.int (1 : Int32)), .val (.int (x1 &&& (255 : Int32)))] [(.int (1 : Int32)), (.int (1 : Int32))])) _
    show Steps p.tables e below (T26.setTop (mkF m 89 #[.val (.ref a), .val (.int (1 : Int32)), .val (.int (x1 &&& (255 : Int32)))] [(.int (1 : Int32)), (.int (1 : Int32))])) _
    refine XS.iadd X26.here hx rfl (hb hby d9_89) rfl ?_
    show Steps p.tables e below (T26.setTop (mkF m 90 #[.val (.ref a), .val (.int (1 : Int32)), .val (.int (x1 &&& (255 : Int32)))] [(.int (2 : Int32))])) _
    refine XS.istoreN X26.here hx rfl (hb hby d9_90) rfl (l' := #[.val (.ref a), .val (.int (2 : Int32)), .val (.int (x1 &&& (255 : Int32)))]) rfl ?_
    show Steps p.tables e below (T26.setTop (mkF m 91 #[.val (.ref a), .val (.int (2 : Int32)), .val (.int (x1 &&& (255 : Int32)))] [])) _
    refine XS.goto X26.here hx rfl (pc0 := 91) (pc' := 26) rfl (hb hby d9_91) (by decide) (by decide) ?_
    show Steps p.tables e below (T26.setTop (mkF m 26 #[.val (.ref a), .val (.int (2 : Int32)), .val (.int (x1 &&& (255 : Int32)))] [])) _
    refine XS.iloadN X26.here hx rfl (hb hby d9_26) rfl ?_
    show Steps p.tables e below (T26.setTop (mkF m 27 #[.val (.ref a), .val (.int (2 : Int32)), .val (.int (x1 &&& (255 : Int32)))] [(.int (2 : Int32))])) _
    refine XS.aloadN X26.here hx rfl (hb hby d9_27) rfl rfl ?_
    show Steps p.tables e below (T26.setTop (mkF m 28 #[.val (.ref a), .val (.int (2 : Int32)), .val (.int (x1 &&& (255 : Int32)))] [(.ref a), (.int (2 : Int32))])) _
    refine st27.trans ?_
    show Steps p.tables e below (T27.setTop (mkF m 31 #[.val (.ref a), .val (.int (2 : Int32)), .val (.int (x1 &&& (255 : Int32)))] [(.int (2 : Int32)), (.int (2 : Int32))])) _
    refine XS.icmpYes X27.here hx rfl (pc0 := 31) (pc' := 94) rfl (hb hby d9_31) rfl (flt (by decide : ¬ ((2 : Int32) < (2 : Int32)))).2.1 (by decide) (by decide) ?_
    show Steps p.tables e below (T27.setTop (mkF m 94 #[.val (.ref a), .val (.int (2 : Int32)), .val (.int (x1 &&& (255 : Int32)))] [])) _
    refine XS.aloadN X27.here hx rfl (hb hby d9_94) rfl rfl ?_
    show Steps p.tables e below (T27.setTop (mkF m 95 #[.val (.ref a), .val (.int (2 : Int32)), .val (.int (x1 &&& (255 : Int32)))] [(.ref a)])) _
    refine st33.trans ?_
    show Steps p.tables e below (T33.setTop (mkF m 98 #[.val (.ref a), .val (.int (2 : Int32)), .val (.int (x1 &&& (255 : Int32)))] [(.int (2 : Int32))])) _
    refine XS.sipush X33.here hx rfl (hb hby d9_98) ?_
    show Steps p.tables e below (T33.setTop (mkF m 101 #[.val (.ref a), .val (.int (2 : Int32)), .val (.int (x1 &&& (255 : Int32)))] [(.int (128 : Int32)), (.int (2 : Int32))])) _
    refine XS.icmpYes X33.here hx rfl (pc0 := 101) (pc' := 140) rfl (hb hby d9_101) rfl (flt (by decide : ¬ ((128 : Int32) < (2 : Int32)))).2.2.2 (by decide) (by decide) ?_
    show Steps p.tables e below (T33.setTop (mkF m 140 #[.val (.ref a), .val (.int (2 : Int32)), .val (.int (x1 &&& (255 : Int32)))] [])) _
    refine st34 _ ?_
    show Steps p.tables e below (T34.setTop (mkF m 143 #[.val (.ref a), .val (.int (2 : Int32)), .val (.int (x1 &&& (255 : Int32)))] [(.ref b34)])) _
    refine XS.dup X34.here hx rfl (hb hby d9_143) rfl rfl ?_
    show Steps p.tables e below (T34.setTop (mkF m 144 #[.val (.ref a), .val (.int (2 : Int32)), .val (.int (x1 &&& (255 : Int32)))] [(.ref b34), (.ref b34)])) _
    refine XS.aloadN X34.here hx rfl (hb hby d9_144) rfl rfl ?_
    show Steps p.tables e below (T34.setTop (mkF m 145 #[.val (.ref a), .val (.int (2 : Int32)), .val (.int (x1 &&& (255 : Int32)))] [(.ref a), (.ref b34), (.ref b34)])) _
    refine st43.trans ?_
    show Steps p.tables e below (T43.setTop (mkF m 148 #[.val (.ref a), .val (.int (2 : Int32)), .val (.int (x1 &&& (255 : Int32)))] [(.ref b34)])) _
    exact X43.areturnOut hx rfl Bd.returns rfl (hb hby d9_148) hr
  · show Q_m9_2 Z a t k x0 x1 wcs rg EL h0 n0 _ T43.heap _
    rw [e43]
    exact ⟨b34, rfl, N43, K45, P43_0, P43_1, sz_b34⟩
  · show CHr Z EL s.vm s.heap T43.vm T43.heap
    rw [e43, hh]
    exact CR44.trans (CHv.at (s := s) (vm0 := T24.vm) X43 hZ hEL CR44.1)
def Q_m9_1 (Z : State) (a : Addr) (t : Addr) (k : ClassId) (x0 : Int32) (wcs : Int32) (rg : Value) (EL : List (String × Nat)) (h0 : Heap) (n0 : Nat) (v : Option Value) (h : Heap) (L : List Loc) : Prop := ∃ (b : Addr), v = (some (.ref b)) ∧ Fr n0 L ∧ Keep h0 h [] ∧ Exa Z h b "com/example/portunus/portunus/lock/LockName" ∧ Fld Z h b "com/example/portunus/portunus/lock/LockName" "text" "Ljava/lang/String;" (.ref a) ∧ h0.size ≤ b
theorem ef_m9_1 (m : MethodId) (a : Addr) (t : Addr) (k : ClassId) (x0 : Int32) (wcs : Int32) (rg : Value) (EL : List (String × Nat)) : entryFrame m #[(.ref a)] 3 = mkF m 0 #[.val (.ref a), .unset, .unset] [] := by first | (simp [entryFrame, mkF, argsToLocals, Value.category]; done) | rfl
set_option maxRecDepth 65536 in
set_option maxHeartbeats 40000000 in
theorem m9_1 (l : Launch) (Z : State) (a0 : Array Value) (hw : ∀ d ∈ tables_1, d.before a0 Z = true) (ws : List Jvm.Cond) (a : Addr) (t : Addr) (k : ClassId) (x0 : Int32) (wcs : Int32) (rg : Value) (EL : List (String × Nat)) (h0 : Heap) (n0 : Nat) (Z0 : n0 ≤ h0.size) (E_a : Exa Z h0 a "java/lang/String") (Fc_a : Fld Z h0 a "java/lang/String" "coder" "B" (.int (0 : Int32))) (Fv_a : Fld Z h0 a "java/lang/String" "value" "[B" (.ref t)) (V : Arv Z h0 t k .byte (1 : Int32) [(.int x0)] (.int (0 : Int32))) (S_CS : Sta Z h0 "java/lang/String" "COMPACT_STRINGS" "Z" (.int wcs)) (ncs : ¬ (wcs = (0 : Int32))) (S_SI : Sta Z h0 "jdk/internal/util/Preconditions" "SIOOBE_FORMATTER" "Ljava/util/function/BiFunction;" rg) (r_rg : rg.isRef = true) (hEL : EW Z a0 EL) (hm13 : (("com/example/portunus/portunus/lock/LockName", 13) : String × Nat) ∈ EL) (hm82 : (("com/example/portunus/portunus/lock/LockName", 82) : String × Nat) ∈ EL) (al0 : own_al (x0 &&& (255 : Int32))) :
    MetFree l (⟨"com/example/portunus/portunus/lock/LockName", "of", "(Ljava/lang/String;)Lcom/example/portunus/portunus/lock/LockName;"⟩ : MethodName) (head1 (Jvm.Cond.code (⟨"com/example/portunus/portunus/lock/LockName", "of", "(Ljava/lang/String;)Lcom/example/portunus/portunus/lock/LockName;"⟩ : MethodName) prog_10_method_2_code 3 (some (.object "com/example/portunus/portunus/lock/LockName")) :: ws) ({ frames := 5, cells := 11, slots := 137, locals := 73 } : Room)) (fun ar_ U => ar_ = #[(.ref a)] ∧ Z.Warmed39 U.vm ∧ U.heap = h0 ∧ CHv Z EL U.vm h0) (fun _ _ _ _ _ => True) (fun _ U o U' => ∃ v L, o = .returned v ∧ Q_m9_1 Z a t k x0 wcs rg EL h0 n0 v U'.heap L ∧ CHr Z EL U.vm U.heap U'.vm U'.heap ∧ ReturnedEndW U o U' L ({ frames := 5, cells := 11, slots := 137, locals := 73 } : Room).cells ({ frames := 5, cells := 11, slots := 137, locals := 73 } : Room).slots) := by
  refine MetFree.of_bodySF (plainFor_of_name pnx_com_example_portunus_portunus_lock_LockName) hisR ?_
  intro p e s m args below meth c s₁ Bd hml0 hP hK
  obtain ⟨rfl, hZ, hh, HC⟩ := hP
  have hx := Bd.exec
  have hby := Bd.bytes
  have hml : c.maxLocals = 3 := hml0
  have hown : s.vm.findClass "com/example/portunus/portunus/lock/LockName" = some m.cls := findClass_of_methodNamed Bd.named
  have hnm := (name_of_methodNamed Bd.named Bd.method).1
  have X0 : Stand p l e ({ frames := 5, cells := 11, slots := 137, locals := 73 } : Room) s m #[(.ref a)] below meth c s₁ [] 0 0 := Stand.of_body Bd
  have e0 : s₁.heap = h0 := by rw [← hh, Bd.state]; rfl
  have N0 := Fr.nil n0
  have pre0 : ∀ tq_, Steps p.tables e below (s₁.setTop (mkF m 0 #[.val (.ref a), .unset, .unset] [])) tq_ → Steps p.tables e below (s₁.setTop (entryFrame m #[(.ref a)] 3)) tq_ := fun tq_ kt_ => castTop (ef_m9_1 m a t k x0 wcs rg EL ) kt_
  obtain ⟨li1, T1, h1, k1, b1, kb1, X1, e1, E1, hS1, hk1, hZ, hown, EX1, FC1, FV1, AV1, la1, lb1, C1, Lt1, ne1, st1⟩ := ldcCH (s := s) (vm0 := s.vm) (EL := EL) X0 hx hZ hown (wk hw 42 rfl) (own_wS hw) e0 ((State.WarmedH.refl s).since 0) (Nat.zero_le _) hEL hm13 HC (vs := [(.int (108 : Int32)), (.int (111 : Int32)), (.int (99 : Int32)), (.int (107 : Int32)), (.int (32 : Int32)), (.int (110 : Int32)), (.int (97 : Int32)), (.int (109 : Int32)), (.int (101 : Int32))]) (z := (9 : Int32)) ⟨by decide, by decide⟩ (by decide) (by decide) (g := (mkF m 1 #[.val (.ref a), .unset, .unset] [(.ref a)])) rfl (hb hby d9_1) (n := 36) (by decide) (by decide) (nle rfl) (nle rfl)
  have CR1 := C1
  have K2 : Keep h0 h1 [] := (Keep.refl h0 []).ext E1
  obtain ⟨_, _, ⟨T3, L3, kk3, nn3⟩, -, X3, ⟨Lc3, hQ3, l3, y3, z3⟩, st3⟩ := Jvm.LawKit.callS X1 hx (y := (⟨"java/util/Objects", "requireNonNull", "(Ljava/lang/Object;Ljava/lang/String;)Ljava/lang/Object;"⟩ : MethodName)) hown (mvT hZ (wk hw 45 rfl)) (mvT hZ (wk hw 46 rfl)) (mvT hZ (wk hw 47 rfl)) (mvT hZ (wk hw 48 rfl)) (by decide) (backOf (W := 0) (m10 l Z a0 hw [] a li1 h1 n0 (Nat.le_trans Z0 K2.1) ) hZ (wk hw 48 rfl) (wk hw 47 rfl) (by decide) (by decide)) (g := (mkF m 3 #[.val (.ref a), .unset, .unset] [(.ref li1), (.ref a)])) rfl (by rw [hml]; rfl) (argsL := [(.ref a), (.ref li1)]) (rest := []) (lenOf pdx__Ljava_lang_Object_Ljava_lang_String__Ljava_lang_Object_ rfl) rfl (by show 2 * 0 + _ ≤ _; exact Nat.le_of_eq rfl) (hb hby d9_3) (fun _ _ => ⟨rfl, e1, nle rfl, nle rfl⟩)
  dsimp only [Pt.U, Pt.locs, Pt.cells, Pt.slots] at X3 l3 y3 z3 st3 hQ3
  subst l3 y3 z3
  obtain ⟨rfl, Nq3, e3⟩ := hQ3
  have N3 := Fr.app N0 Nq3
  have F5 := (E_a.ext E1)
  have F6 := (Fc_a.ext E1)
  have F7 := (Fv_a.ext E1)
  have F8 := (V.ext E1)
  obtain ⟨cq4, kq4, qa4, qb4, qc4⟩ := isOf hZ e3 F5
  obtain ⟨_, _, ⟨T4, L4, kk4, nn4⟩, -, X4, ⟨Lc4, hQ4, l4, y4, z4⟩, st4⟩ := X3.virtualBack hx (y := (⟨"java/lang/String", "isEmpty", "()Z"⟩ : MethodName)) (z := (⟨"java/lang/String", "isEmpty", "()Z"⟩ : MethodName)) hown (mvT hZ (wk hw 49 rfl)) (mvT hZ (wk hw 50 rfl)) (notFace_of_selects (args := #[]) (mvT hZ (wk hw 52 rfl))) (mvT hZ (wk hw 52 rfl)) (mvT hZ (wk hw 51 rfl)) (by decide) (backOf (W := 0) (m11 l Z a0 hw [] a t k (1 : Int32) [(.int x0)] h1 n0 (Nat.le_trans Z0 K2.1) F5 F6 F7 F8 (by decide)) hZ (wk hw 53 rfl) (wk hw 10 rfl) (by decide) (by decide)) qa4 qc4 (g := (mkF m 8 #[.val (.ref a), .unset, .unset] [(.ref a)])) rfl (by rw [hml]; rfl) (Steps.refl _) (argsL := []) (rest := []) (lenOf pdx___Z rfl) rfl (by show 2 * 0 + _ ≤ _; exact Nat.le_of_eq rfl) (hb hby d9_8) (fun _ _ => ⟨rfl, e3, nle rfl, nle rfl⟩)
  dsimp only [Pt.U, Pt.locs, Pt.cells, Pt.slots] at X4 l4 y4 z4 st4 hQ4
  subst l4 y4 z4
  obtain ⟨rfl, Nq4, e4⟩ := hQ4
  have N4 := Fr.app N3 Nq4
  have F10 := (S_CS.ext E1)
  obtain ⟨cq9, kq9, qa9, qb9, qc9⟩ := isOf hZ e4 F5
  obtain ⟨_, _, ⟨T9, L9, kk9, nn9⟩, -, X9, ⟨Lc9, hQ9, l9, y9, z9⟩, st9⟩ := X4.virtualBack hx (y := (⟨"java/lang/String", "length", "()I"⟩ : MethodName)) (z := (⟨"java/lang/String", "length", "()I"⟩ : MethodName)) hown (mvT hZ (wk hw 54 rfl)) (mvT hZ (wk hw 55 rfl)) (notFace_of_selects (args := #[]) (mvT hZ (wk hw 57 rfl))) (mvT hZ (wk hw 57 rfl)) (mvT hZ (wk hw 56 rfl)) (by decide) (backOf (W := 1) (m12 l Z a0 hw [] a t k (1 : Int32) [(.int x0)] wcs h1 n0 (Nat.le_trans Z0 K2.1) F5 F6 F7 F8 F10 ncs) hZ (wk hw 58 rfl) (wk hw 10 rfl) (by decide) (by decide)) qa9 qc9 (g := (mkF m 28 #[.val (.ref a), .val (.int (0 : Int32)), .unset] [(.ref a), (.int (0 : Int32))])) rfl (by rw [hml]; rfl) (Steps.refl _) (argsL := []) (rest := [(.int (0 : Int32))]) (lenOf pdx___I rfl) rfl (by show 2 * 0 + _ ≤ _; exact Nat.le_of_eq rfl) (hb hby d9_28) (fun _ _ => ⟨rfl, e4, nle rfl, nle rfl⟩)
  dsimp only [Pt.U, Pt.locs, Pt.cells, Pt.slots] at X9 l9 y9 z9 st9 hQ9
  subst l9 y9 z9
  obtain ⟨rfl, Nq9, e9⟩ := hQ9
  have N9 := Fr.app N4 Nq9
  have F12 := (S_SI.ext E1)
  obtain ⟨cq11, kq11, qa11, qb11, qc11⟩ := isOf hZ e9 F5
  obtain ⟨_, _, ⟨T11, L11, kk11, nn11⟩, -, X11, ⟨Lc11, hQ11, l11, y11, z11⟩, st11⟩ := X9.virtualBack hx (y := (⟨"java/lang/String", "codePointAt", "(I)I"⟩ : MethodName)) (z := (⟨"java/lang/String", "codePointAt", "(I)I"⟩ : MethodName)) hown (mvT hZ (wk hw 64 rfl)) (mvT hZ (wk hw 65 rfl)) (notFace_of_selects (args := #[]) (mvT hZ (wk hw 67 rfl))) (mvT hZ (wk hw 67 rfl)) (mvT hZ (wk hw 66 rfl)) (by decide) (backOf (W := 0) (m14 l Z a0 hw [] a t k (1 : Int32) [(.int x0)] (0 : Int32) x0 wcs rg h1 n0 (Nat.le_trans Z0 K2.1) F5 F6 F7 F8 (by decide) (by decide) rfl F10 ncs F12 r_rg) hZ (wk hw 68 rfl) (wk hw 10 rfl) (by decide) (by decide)) qa11 qc11 (g := (mkF m 36 #[.val (.ref a), .val (.int (0 : Int32)), .unset] [(.int (0 : Int32)), (.ref a)])) rfl (by rw [hml]; rfl) (Steps.refl _) (argsL := [(.int (0 : Int32))]) (rest := []) (lenOf pdx__I_I rfl) rfl (by show 2 * 0 + _ ≤ _; exact Nat.le_of_eq rfl) (hb hby d9_36) (fun _ _ => ⟨rfl, e9, nle rfl, nle rfl⟩)
  dsimp only [Pt.U, Pt.locs, Pt.cells, Pt.slots] at X11 l11 y11 z11 st11 hQ11
  subst l11 y11 z11
  obtain ⟨rfl, Nq11, e11⟩ := hQ11
  have N11 := Fr.app N9 Nq11
  obtain ⟨_, _, ⟨T13, L13, kk13, nn13⟩, -, X13, hSq13, hg13, ⟨Lc13, hQ13, l13, y13, z13, C13⟩, st13⟩ := callSS (s := s.setVm T1.vm) X11 hx (y := (⟨"com/example/portunus/portunus/lock/LockName", "allowed", "(I)Z"⟩ : MethodName)) hown (mvT hZ (wk hw 82 rfl)) (mvT hZ (wk hw 83 rfl)) (mvT hZ (wk hw 40 rfl)) (mvT hZ (wk hw 84 rfl)) (by decide) (backOfSH (s := s) (vm0 := T1.vm) (W := 0) (own_m18 l Z a0 hw [] (x0 &&& (255 : Int32)) wcs EL h1 n0 (Nat.le_trans Z0 K2.1) F10 ncs hEL hm82 al0) hZ (wk hw 84 rfl) (wk hw 40 rfl) (by decide) (by decide) hEL CR1.1) (g := (mkF m 41 #[.val (.ref a), .val (.int (0 : Int32)), .val (.int (x0 &&& (255 : Int32)))] [(.int (x0 &&& (255 : Int32)))])) rfl (by rw [hml]; rfl) (argsL := [(.int (x0 &&& (255 : Int32)))]) (rest := []) (lenOf pdx__I_Z rfl) rfl (by show 2 * 0 + _ ≤ _; exact Nat.le_of_eq rfl) (hb hby d9_41) (fun _ _ => ⟨rfl, e11, nle rfl, nle rfl⟩)
  dsimp only [Pt.U, Pt.locs, Pt.cells, Pt.slots] at X13 hSq13 hg13 l13 y13 z13 st13 hQ13 C13
  subst l13 y13 z13
  obtain ⟨rfl, Nq13, Kq13⟩ := hQ13
  have N13 := Fr.app N11 Nq13
  obtain ⟨h13, e13⟩ : ∃ h, T13.heap = h := ⟨_, rfl⟩
  rw [e13] at Kq13 C13 hSq13
  have hZ : Z.Warmed39 (s.setVm T13.vm).vm := State.Warmed39.trans (t := s.setVm T1.vm) hZ hSq13.1
  have hown : (s.setVm T13.vm).vm.findClass "com/example/portunus/portunus/lock/LockName" = some m.cls := by rw [show (s.setVm T13.vm).vm = T13.vm from rfl, hSq13.1.alike.findClass]; exact hown
  have X13 : Stand p l e _ (s.setVm T13.vm) m _ below meth c T13 _ _ _ := X13
  have hS13 : s.Since T13.vm h13.size := (hS1).trans hSq13 (Nat.le_trans hk1 Kq13.1)
  have CR13 := CR1.trans C13
  have K14 : Keep h0 h13 [] := K2.trans Kq13 own_m0
  obtain ⟨_, _, ⟨T15, L15, kk15, nn15⟩, -, X15, ⟨Lc15, hQ15, l15, y15, z15⟩, st15⟩ := Jvm.LawKit.callS X13 hx (y := (⟨"java/lang/Character", "charCount", "(I)I"⟩ : MethodName)) hown (mvT hZ (wk hw 85 rfl)) (mvT hZ (wk hw 86 rfl)) (mvT hZ (wk hw 87 rfl)) (mvT hZ (wk hw 88 rfl)) (by decide) (backOf (W := 1) (m19 l Z a0 hw [] (x0 &&& (255 : Int32)) h13 n0 (Nat.le_trans Z0 K14.1) (own_alt al0)) hZ (wk hw 88 rfl) (wk hw 87 rfl) (by decide) (by decide)) (g := (mkF m 86 #[.val (.ref a), .val (.int (0 : Int32)), .val (.int (x0 &&& (255 : Int32)))] [(.int (x0 &&& (255 : Int32))), (.int (0 : Int32))])) rfl (by rw [hml]; rfl) (argsL := [(.int (x0 &&& (255 : Int32)))]) (rest := [(.int (0 : Int32))]) (lenOf pdx__I_I rfl) rfl (by show 2 * 0 + _ ≤ _; exact Nat.le_of_eq rfl) (hb hby d9_86) (fun _ _ => ⟨rfl, e13, nle rfl, nle rfl⟩)
  dsimp only [Pt.U, Pt.locs, Pt.cells, Pt.slots] at X15 l15 y15 z15 st15 hQ15
  subst l15 y15 z15
  obtain ⟨rfl, Nq15, e15⟩ := hQ15
  have N15 := Fr.app N13 Nq15
  have F17 := (F5.keep Kq13)
  have F18 := (F6.keep Kq13 own_n0)
  have F19 := (F7.keep Kq13 own_n0)
  have F20 := (F8.keep Kq13 own_n0)
  have F21 := (own_staK F10 Kq13 ns0)
  obtain ⟨cq16, kq16, qa16, qb16, qc16⟩ := isOf hZ e15 F17
  obtain ⟨_, _, ⟨T16, L16, kk16, nn16⟩, -, X16, ⟨Lc16, hQ16, l16, y16, z16⟩, st16⟩ := X15.virtualBack hx (y := (⟨"java/lang/String", "length", "()I"⟩ : MethodName)) (z := (⟨"java/lang/String", "length", "()I"⟩ : MethodName)) hown (mvT hZ (wk hw 54 rfl)) (mvT hZ (wk hw 55 rfl)) (notFace_of_selects (args := #[]) (mvT hZ (wk hw 57 rfl))) (mvT hZ (wk hw 57 rfl)) (mvT hZ (wk hw 56 rfl)) (by decide) (backOf (W := 1) (m12 l Z a0 hw [] a t k (1 : Int32) [(.int x0)] wcs h13 n0 (Nat.le_trans Z0 K14.1) F17 F18 F19 F20 F21 ncs) hZ (wk hw 58 rfl) (wk hw 10 rfl) (by decide) (by decide)) qa16 qc16 (g := (mkF m 28 #[.val (.ref a), .val (.int (1 : Int32)), .val (.int (x0 &&& (255 : Int32)))] [(.ref a), (.int (1 : Int32))])) rfl (by rw [hml]; rfl) (Steps.refl _) (argsL := []) (rest := [(.int (1 : Int32))]) (lenOf pdx___I rfl) rfl (by show 2 * 0 + _ ≤ _; exact Nat.le_of_eq rfl) (hb hby d9_28) (fun _ _ => ⟨rfl, e15, nle rfl, nle rfl⟩)
  dsimp only [Pt.U, Pt.locs, Pt.cells, Pt.slots] at X16 l16 y16 z16 st16 hQ16
  subst l16 y16 z16
  obtain ⟨rfl, Nq16, e16⟩ := hQ16
  have N16 := Fr.app N15 Nq16
  obtain ⟨cq22, kq22, qa22, qb22, qc22⟩ := isOf hZ e16 F17
  obtain ⟨_, _, ⟨T22, L22, kk22, nn22⟩, -, X22, ⟨Lc22, hQ22, l22, y22, z22⟩, st22⟩ := X16.virtualBack hx (y := (⟨"java/lang/String", "length", "()I"⟩ : MethodName)) (z := (⟨"java/lang/String", "length", "()I"⟩ : MethodName)) hown (mvT hZ (wk hw 54 rfl)) (mvT hZ (wk hw 55 rfl)) (notFace_of_selects (args := #[]) (mvT hZ (wk hw 57 rfl))) (mvT hZ (wk hw 57 rfl)) (mvT hZ (wk hw 56 rfl)) (by decide) (backOf (W := 0) (m12 l Z a0 hw [] a t k (1 : Int32) [(.int x0)] wcs h13 n0 (Nat.le_trans Z0 K14.1) F17 F18 F19 F20 F21 ncs) hZ (wk hw 58 rfl) (wk hw 10 rfl) (by decide) (by decide)) qa22 qc22 (g := (mkF m 95 #[.val (.ref a), .val (.int (1 : Int32)), .val (.int (x0 &&& (255 : Int32)))] [(.ref a)])) rfl (by rw [hml]; rfl) (Steps.refl _) (argsL := []) (rest := []) (lenOf pdx___I rfl) rfl (by show 2 * 0 + _ ≤ _; exact Nat.le_of_eq rfl) (hb hby d9_95) (fun _ _ => ⟨rfl, e16, nle rfl, nle rfl⟩)
  dsimp only [Pt.U, Pt.locs, Pt.cells, Pt.slots] at X22 l22 y22 z22 st22 hQ22
  subst l22 y22 z22
  obtain ⟨rfl, Nq22, e22⟩ := hQ22
  have N22 := Fr.app N16 Nq22
  obtain ⟨T23, h23, X23, e23, E23, A23, D23, -, st23⟩ := newO X22 hx hZ hown (wk hw 90 rfl) (wk hw 91 rfl) (wk hw 40 rfl) e22 (g := (mkF m 140 #[.val (.ref a), .val (.int (1 : Int32)), .val (.int (x0 &&& (255 : Int32)))] [])) rfl (hb hby d9_140) (nle rfl) (nle rfl)
  obtain ⟨b23, g23⟩ : ∃ z, z = h13.size := ⟨_, rfl⟩
  rw [← g23] at A23 D23 st23
  have sz_b23 : h0.size ≤ b23 := Nat.le_trans K14.1 (Nat.le_of_eq g23.symm)
  have ge_b23 : n0 ≤ b23 := Nat.le_trans Z0 sz_b23
  have ne_24 : a ≠ b23 := Nat.ne_of_lt (Nat.lt_of_lt_of_le F17.lt (Nat.le_of_eq g23.symm))
  have ne_25 : t ≠ b23 := Nat.ne_of_lt (Nat.lt_of_lt_of_le F20.lt (Nat.le_of_eq g23.symm))
  have F27 := (EX1.keep Kq13)
  have ne_26 : li1 ≠ b23 := Nat.ne_of_lt (Nat.lt_of_lt_of_le F27.lt (Nat.le_of_eq g23.symm))
  have F29 := (AV1.keep Kq13 own_n0)
  have ne_28 : b1 ≠ b23 := Nat.ne_of_lt (Nat.lt_of_lt_of_le F29.lt (Nat.le_of_eq g23.symm))
  have CR30 := CR13.trans (CHr.ext E23 CR13.1)
  have K31 : Keep h0 h23 [] := K14.ext E23
  have D23_text := D23 (Or.inr (wk hw 97 rfl)) (ty := (.object "java/lang/String")) (by decide)
  obtain ⟨_, _, ⟨T32, L32, kk32, nn32⟩, -, X32, ⟨Lc32, hQ32, l32, y32, z32⟩, st32⟩ := X23.specialBack hx (y := (⟨"com/example/portunus/portunus/lock/LockName", "<init>", "(Ljava/lang/String;)V"⟩ : MethodName)) rfl hown (mvT hZ (wk hw 92 rfl)) (mvT hZ (wk hw 93 rfl)) (mvT hZ (wk hw 94 rfl)) (by decide) (backOf (W := 1) (m20 l Z a0 hw [] b23 a .null h23 n0 (Nat.le_trans Z0 K31.1) A23 D23_text ge_b23) hZ (wk hw 94 rfl) (wk hw 40 rfl) (by decide) (by decide)) (g := (mkF m 145 #[.val (.ref a), .val (.int (1 : Int32)), .val (.int (x0 &&& (255 : Int32)))] [(.ref a), (.ref b23), (.ref b23)])) rfl (by rw [hml]; rfl) (Steps.refl _) (a := b23) (argsL := [(.ref a)]) (rest := [(.ref b23)]) (lenOf pdx__Ljava_lang_String__V rfl) rfl (by show 2 * 0 + _ ≤ _; exact Nat.le_of_eq rfl) (hb hby d9_145) (fun _ _ => ⟨rfl, e23, nle rfl, nle rfl⟩)
  dsimp only [Pt.U, Pt.locs, Pt.cells, Pt.slots] at X32 l32 y32 z32 st32 hQ32
  subst l32 y32 z32
  obtain ⟨rfl, Nq32, Kq32, P32_0, P32_1⟩ := hQ32
  have N32 := Fr.app N22 Nq32
  obtain ⟨h32, e32⟩ : ∃ h, T32.heap = h := ⟨_, rfl⟩
  rw [e32] at Kq32 P32_0 P32_1
  have ns32 := (nsS A23.nostat ns0)
  have CR33 := CR30.trans (CHr.keep Kq32 (sfS (Safe.exa hZ.alike A23 (by decide) (by decide)) sf0) CR30.1)
  have K34 : Keep h0 h32 [] := K31.trans Kq32 (own_mS (Or.inr sz_b23) own_m0)
  obtain ⟨fs, hr, hrun, hended, hWW⟩ := leaveW (s := s) X32 hS13 (by rw [e32]; exact (Nat.le_trans (Nat.le_trans (Nat.le_refl _) E23.1) Kq32.1)) (v := some (.ref b23)) (fun h => by rw [Bd.returns] at h; cases h)
  refine ⟨_, _, pre0 _ ?_, hrun, hended, _, _, rfl, ?_, ?_, ⟨hWW.1, hWW.2.1, hWW.2.2.1, hWW.2.2.2.mono (nle rfl) (nle rfl)⟩⟩
  · show Steps p.tables e below (s₁.setTop (mkF m 0 #[.val (.ref a), .unset, .unset] [])) _
    refine XS.aloadN X0.here hx rfl (hb hby d9_0) rfl rfl ?_
    show Steps p.tables e below (s₁.setTop (mkF m 1 #[.val (.ref a), .unset, .unset] [(.ref a)])) _
    refine st1 _ ?_
    show Steps p.tables e below (T1.setTop (mkF m 3 #[.val (.ref a), .unset, .unset] [(.ref li1), (.ref a)])) _
    refine st3 _ ?_
    show Steps p.tables e below (T3.setTop (mkF m 6 #[.val (.ref a), .unset, .unset] [(.ref a)])) _
    refine XS.pop X3.here hx rfl (hb hby d9_6) rfl rfl ?_
    show Steps p.tables e below (T3.setTop (mkF m 7 #[.val (.ref a), .unset, .unset] [])) _
    refine XS.aloadN X3.here hx rfl (hb hby d9_7) rfl rfl ?_
    show Steps p.tables e below (T3.setTop (mkF m 8 #[.val (.ref a), .unset, .unset] [(.ref a)])) _
    refine st4.trans ?_
    show Steps p.tables e below (T4.setTop (mkF m 11 #[.val (.ref a), .unset, .unset] [(.int (0 : Int32))])) _
    refine XS.ifYes X4.here hx rfl (pc0 := 11) (pc' := 24) rfl (hb hby d9_11) rfl ((if0 _ _).trans (teq (by decide : (0 : Int32) = (0 : Int32))).1) (by decide) (by decide) ?_
    show Steps p.tables e below (T4.setTop (mkF m 24 #[.val (.ref a), .unset, .unset] [])) _
    refine XS.iconst X4.here hx rfl (hb hby d9_24) ?_
    show Steps p.tables e below (T4.setTop (mkF m 25 #[.val (.ref a), .unset, .unset] [(.int (0 : Int32))])) _
    refine XS.istoreN X4.here hx rfl (hb hby d9_25) rfl (l' := #[.val (.ref a), .val (.int (0 : Int32)), .unset]) rfl ?_
    show Steps p.tables e below (T4.setTop (mkF m 26 #[.val (.ref a), .val (.int (0 : Int32)), .unset] [])) _
    refine XS.iloadN X4.here hx rfl (hb hby d9_26) rfl ?_
    show Steps p.tables e below (T4.setTop (mkF m 27 #[.val (.ref a), .val (.int (0 : Int32)), .unset] [(.int (0 : Int32))])) _
    refine XS.aloadN X4.here hx rfl (hb hby d9_27) rfl rfl ?_
    show Steps p.tables e below (T4.setTop (mkF m 28 #[.val (.ref a), .val (.int (0 : Int32)), .unset] [(.ref a), (.int (0 : Int32))])) _
    refine st9.trans ?_
    show Steps p.tables e below (T9.setTop (mkF m 31 #[.val (.ref a), .val (.int (0 : Int32)), .unset] [(.int (1 : Int32)), (.int (0 : Int32))])) _
    refine XS.icmpNo X9.here hx rfl (hb hby d9_31) rfl (tlt (by decide : (0 : Int32) < (1 : Int32))).2.1 ?_
    show Steps p.tables e below (T9.setTop (mkF m 34 #[.val (.ref a), .val (.int (0 : Int32)), .unset] [])) _
    refine XS.aloadN X9.here hx rfl (hb hby d9_34) rfl rfl ?_
    show Steps p.tables e below (T9.setTop (mkF m 35 #[.val (.ref a), .val (.int (0 : Int32)), .unset] [(.ref a)])) _
    refine XS.iloadN X9.here hx rfl (hb hby d9_35) rfl ?_
    show Steps p.tables e below (T9.setTop (mkF m 36 #[.val (.ref a), .val (.int (0 : Int32)), .unset] [(.int (0 : Int32)), (.ref a)])) _
    refine st11.trans ?_
    show Steps p.tables e below (T11.setTop (mkF m 39 #[.val (.ref a), .val (.int (0 : Int32)), .unset] [(.int (x0 &&& (255 : Int32)))])) _
    refine XS.istoreN X11.here hx rfl (hb hby d9_39) rfl (l' := #[.val (.ref a), .val (.int (0 : Int32)), .val (.int (x0 &&& (255 : Int32)))]) rfl ?_
    show Steps p.tables e below (T11.setTop (mkF m 40 #[.val (.ref a), .val (.int (0 : Int32)), .val (.int (x0 &&& (255 : Int32)))] [])) _
    refine XS.iloadN X11.here hx rfl (hb hby d9_40) rfl ?_
    show Steps p.tables e below (T11.setTop (mkF m 41 #[.val (.ref a), .val (.int (0 : Int32)), .val (.int (x0 &&& (255 : Int32)))] [(.int (x0 &&& (255 : Int32)))])) _
    refine st13.trans ?_
    show Steps p.tables e below (T13.setTop (mkF m 44 #[.val (.ref a), .val (.int (0 : Int32)), .val (.int (x0 &&& (255 : Int32)))] [(.int (1 : Int32))])) _
    refine XS.ifYes X13.here hx rfl (pc0 := 44) (pc' := 84) rfl (hb hby d9_44) rfl ((if0 _ _).trans (feq (by decide : ¬ ((1 : Int32) = (0 : Int32)))).2) (by decide) (by decide) ?_
    show Steps p.tables e below (T13.setTop (mkF m 84 #[.val (.ref a), .val (.int (0 : Int32)), .val (.int (x0 &&& (255 : Int32)))] [])) _
    refine XS.iloadN X13.here hx rfl (hb hby d9_84) rfl ?_
    show Steps p.tables e below (T13.setTop (mkF m 85 #[.val (.ref a), .val (.int (0 : Int32)), .val (.int (x0 &&& (255 : Int32)))] [(.int (0 : Int32))])) _
    refine XS.iloadN X13.here hx rfl (hb hby d9_85) rfl ?_
    show Steps p.tables e below (T13.setTop (mkF m 86 #[.val (.ref a), .val (.int (0 : Int32)), .val (.int (x0 &&& (255 : Int32)))] [(.int (x0 &&& (255 : Int32))), (.int (0 : Int32))])) _
    refine st15 _ ?_
    show Steps p.tables e below (T15.setTop (mkF m 89 #[.val (.ref a), .val (.int (0 : Int32)), .val (.int (x0 &&& (255 : Int32)))] [(.int (1 : Int32)), (.int (0 : Int32))])) _
    show Steps p.tables e below (T15.setTop (mkF m 89 #[.val (.ref a), .val (.int (0 : Int32)), .val (.int (x0 &&& (255 : Int32)))] [(.int (1 : Int32)), (.int (0 : Int32))])) _
    refine XS.iadd X15.here hx rfl (hb hby d9_89) rfl ?_
    show Steps p.tables e below (T15.setTop (mkF m 90 #[.val (.ref a), .val (.int (0 : Int32)), .val (.int (x0 &&& (255 : Int32)))] [(.int (1 : Int32))])) _
    refine XS.istoreN X15.here hx rfl (hb hby d9_90) rfl (l' := #[.val (.ref a), .val (.int (1 : Int32)), .val (.int (x0 &&& (255 : Int32)))]) rfl ?_
    show Steps p.tables e below (T15.setTop (mkF m 91 #[.val (.ref a), .val (.int (1 : Int32)), .val (.int (x0 &&& (255 : Int32)))] [])) _
    refine XS.goto X15.here hx rfl (pc0 := 91) (pc' := 26) rfl (hb hby d9_91) (by decide) (by decide) ?_
    show Steps p.tables e below (T15.setTop (mkF m 26 #[.val (.ref a), .val (.int (1 : Int32)), .val (.int (x0 &&& (255 : Int32)))] [])) _
    refine XS.iloadN X15.here hx rfl (hb hby d9_26) rfl ?_
    show Steps p.tables e below (T15.setTop (mkF m 27 #[.val (.ref a), .val (.int (1 : Int32)), .val (.int (x0 &&& (255 : Int32)))] [(.int (1 : Int32))])) _
    refine XS.aloadN X15.here hx rfl (hb hby d9_27) rfl rfl ?_
    show Steps p.tables e below (T15.setTop (mkF m 28 #[.val (.ref a), .val (.int (1 : Int32)), .val (.int (x0 &&& (255 : Int32)))] [(.ref a), (.int (1 : Int32))])) _
    refine st16.trans ?_
    show Steps p.tables e below (T16.setTop (mkF m 31 #[.val (.ref a), .val (.int (1 : Int32)), .val (.int (x0 &&& (255 : Int32)))] [(.int (1 : Int32)), (.int (1 : Int32))])) _
    refine XS.icmpYes X16.here hx rfl (pc0 := 31) (pc' := 94) rfl (hb hby d9_31) rfl (flt (by decide : ¬ ((1 : Int32) < (1 : Int32)))).2.1 (by decide) (by decide) ?_
    show Steps p.tables e below (T16.setTop (mkF m 94 #[.val (.ref a), .val (.int (1 : Int32)), .val (.int (x0 &&& (255 : Int32)))] [])) _
    refine XS.aloadN X16.here hx rfl (hb hby d9_94) rfl rfl ?_
    show Steps p.tables e below (T16.setTop (mkF m 95 #[.val (.ref a), .val (.int (1 : Int32)), .val (.int (x0 &&& (255 : Int32)))] [(.ref a)])) _
    refine st22.trans ?_
    show Steps p.tables e below (T22.setTop (mkF m 98 #[.val (.ref a), .val (.int (1 : Int32)), .val (.int (x0 &&& (255 : Int32)))] [(.int (1 : Int32))])) _
    refine XS.sipush X22.here hx rfl (hb hby d9_98) ?_
    show Steps p.tables e below (T22.setTop (mkF m 101 #[.val (.ref a), .val (.int (1 : Int32)), .val (.int (x0 &&& (255 : Int32)))] [(.int (128 : Int32)), (.int (1 : Int32))])) _
    refine XS.icmpYes X22.here hx rfl (pc0 := 101) (pc' := 140) rfl (hb hby d9_101) rfl (flt (by decide : ¬ ((128 : Int32) < (1 : Int32)))).2.2.2 (by decide) (by decide) ?_
    show Steps p.tables e below (T22.setTop (mkF m 140 #[.val (.ref a), .val (.int (1 : Int32)), .val (.int (x0 &&& (255 : Int32)))] [])) _
    refine st23 _ ?_
    show Steps p.tables e below (T23.setTop (mkF m 143 #[.val (.ref a), .val (.int (1 : Int32)), .val (.int (x0 &&& (255 : Int32)))] [(.ref b23)])) _
    refine XS.dup X23.here hx rfl (hb hby d9_143) rfl rfl ?_
    show Steps p.tables e below (T23.setTop (mkF m 144 #[.val (.ref a), .val (.int (1 : Int32)), .val (.int (x0 &&& (255 : Int32)))] [(.ref b23), (.ref b23)])) _
    refine XS.aloadN X23.here hx rfl (hb hby d9_144) rfl rfl ?_
    show Steps p.tables e below (T23.setTop (mkF m 145 #[.val (.ref a), .val (.int (1 : Int32)), .val (.int (x0 &&& (255 : Int32)))] [(.ref a), (.ref b23), (.ref b23)])) _
    refine st32.trans ?_
    show Steps p.tables e below (T32.setTop (mkF m 148 #[.val (.ref a), .val (.int (1 : Int32)), .val (.int (x0 &&& (255 : Int32)))] [(.ref b23)])) _
    exact X32.areturnOut hx rfl Bd.returns rfl (hb hby d9_148) hr
  · show Q_m9_1 Z a t k x0 wcs rg EL h0 n0 _ T32.heap _
    rw [e32]
    exact ⟨b23, rfl, N32, K34, P32_0, P32_1, sz_b23⟩
  · show CHr Z EL s.vm s.heap T32.vm T32.heap
    rw [e32, hh]
    exact CR33.trans (CHv.at (s := s) (vm0 := T13.vm) X32 hZ hEL CR33.1)
def own_AL (z : Int32) (vs : List Value) : Prop := (z = (1 : Int32) ∧ ∃ x0 : Int32, vs = [(.int x0)] ∧ own_al (x0 &&& (255 : Int32))) ∨ (z = (2 : Int32) ∧ ∃ x0 x1 : Int32, vs = [(.int x0), (.int x1)] ∧ own_al (x0 &&& (255 : Int32)) ∧ own_al (x1 &&& (255 : Int32))) ∨ (z = (3 : Int32) ∧ ∃ x0 x1 x2 : Int32, vs = [(.int x0), (.int x1), (.int x2)] ∧ own_al (x0 &&& (255 : Int32)) ∧ own_al (x1 &&& (255 : Int32)) ∧ own_al (x2 &&& (255 : Int32))) ∨ (z = (4 : Int32) ∧ ∃ x0 x1 x2 x3 : Int32, vs = [(.int x0), (.int x1), (.int x2), (.int x3)] ∧ own_al (x0 &&& (255 : Int32)) ∧ own_al (x1 &&& (255 : Int32)) ∧ own_al (x2 &&& (255 : Int32)) ∧ own_al (x3 &&& (255 : Int32)))
def Q_9 (Z : State) (a : Addr) (h0 : Heap) (n0 : Nat) (v : Option Value) (h : Heap) (L : List Loc) : Prop := ∃ (b : Addr), v = (some (.ref b)) ∧ Fr n0 L ∧ Keep h0 h [] ∧ Exa Z h b "com/example/portunus/portunus/lock/LockName" ∧ Fld Z h b "com/example/portunus/portunus/lock/LockName" "text" "Ljava/lang/String;" (.ref a) ∧ h0.size ≤ b
theorem own_m9 (l : Launch) (Z : State) (a0 : Array Value) (hw : ∀ d ∈ tables_1, d.before a0 Z = true) (ws : List Jvm.Cond) (a : Addr) (t : Addr) (k : ClassId) (z : Int32) (vs : List Value) (wcs : Int32) (rg : Value) (EL : List (String × Nat)) (h0 : Heap) (n0 : Nat) (Z0 : n0 ≤ h0.size) (E_a : Exa Z h0 a "java/lang/String") (Fc_a : Fld Z h0 a "java/lang/String" "coder" "B" (.int (0 : Int32))) (Fv_a : Fld Z h0 a "java/lang/String" "value" "[B" (.ref t)) (V : Arv Z h0 t k .byte z vs (.int (0 : Int32))) (S_CS : Sta Z h0 "java/lang/String" "COMPACT_STRINGS" "Z" (.int wcs)) (ncs : ¬ (wcs = (0 : Int32))) (S_SI : Sta Z h0 "jdk/internal/util/Preconditions" "SIOOBE_FORMATTER" "Ljava/util/function/BiFunction;" rg) (r_rg : rg.isRef = true) (hEL : EW Z a0 EL) (hm13 : (("com/example/portunus/portunus/lock/LockName", 13) : String × Nat) ∈ EL) (hm82 : (("com/example/portunus/portunus/lock/LockName", 82) : String × Nat) ∈ EL) (hal : own_AL z vs) :
    MetFree l (⟨"com/example/portunus/portunus/lock/LockName", "of", "(Ljava/lang/String;)Lcom/example/portunus/portunus/lock/LockName;"⟩ : MethodName) (head1 (Jvm.Cond.code (⟨"com/example/portunus/portunus/lock/LockName", "of", "(Ljava/lang/String;)Lcom/example/portunus/portunus/lock/LockName;"⟩ : MethodName) prog_10_method_2_code 3 (some (.object "com/example/portunus/portunus/lock/LockName")) :: ws) ({ frames := 5, cells := 11, slots := 137, locals := 73 } : Room)) (fun ar_ U => ar_ = #[(.ref a)] ∧ Z.Warmed39 U.vm ∧ U.heap = h0 ∧ CHv Z EL U.vm h0) (fun _ _ _ _ _ => True) (fun _ U o U' => ∃ v L, o = .returned v ∧ Q_9 Z a h0 n0 v U'.heap L ∧ CHr Z EL U.vm U.heap U'.vm U'.heap ∧ ReturnedEndW U o U' L ({ frames := 5, cells := 11, slots := 137, locals := 73 } : Room).cells ({ frames := 5, cells := 11, slots := 137, locals := 73 } : Room).slots) := by
  rcases hal with ⟨rfl, x0, rfl, g0⟩ | ⟨rfl, x0, x1, rfl, g0, g1⟩ | ⟨rfl, x0, x1, x2, rfl, g0, g1, g2⟩ | ⟨rfl, x0, x1, x2, x3, rfl, g0, g1, g2, g3⟩
  · exact m9_1 l Z a0 hw ws a t k x0 wcs rg EL h0 n0 Z0 E_a Fc_a Fv_a V S_CS ncs S_SI r_rg hEL hm13 hm82 g0
  · exact m9_2 l Z a0 hw ws a t k x0 x1 wcs rg EL h0 n0 Z0 E_a Fc_a Fv_a V S_CS ncs S_SI r_rg hEL hm13 hm82 g0 g1
  · exact m9_3 l Z a0 hw ws a t k x0 x1 x2 wcs rg EL h0 n0 Z0 E_a Fc_a Fv_a V S_CS ncs S_SI r_rg hEL hm13 hm82 g0 g1 g2
  · exact m9_4 l Z a0 hw ws a t k x0 x1 x2 x3 wcs rg EL h0 n0 Z0 E_a Fc_a Fv_a V S_CS ncs S_SI r_rg hEL hm13 hm82 g0 g1 g2 g3
theorem d24_0 : decode jdk_43_method_13_code 0 = .ok (.aload_n 0, 1) := by decide +kernel
theorem d24_1 : decode jdk_43_method_13_code 1 = .ok (.arraylength, 1) := by decide +kernel
theorem d24_2 : decode jdk_43_method_13_code 2 = .ok (.aload_n 1, 1) := by decide +kernel
theorem d24_3 : decode jdk_43_method_13_code 3 = .ok (.arraylength, 1) := by decide +kernel
theorem d24_4 : decode jdk_43_method_13_code 4 = .ok (.if_icmp .ne 30, 3) := by decide +kernel
theorem d24_7 : decode jdk_43_method_13_code 7 = .ok (.iconst 0, 1) := by decide +kernel
theorem d24_8 : decode jdk_43_method_13_code 8 = .ok (.istore_n 2, 1) := by decide +kernel
theorem d24_9 : decode jdk_43_method_13_code 9 = .ok (.iload_n 2, 1) := by decide +kernel
theorem d24_10 : decode jdk_43_method_13_code 10 = .ok (.aload_n 0, 1) := by decide +kernel
theorem d24_11 : decode jdk_43_method_13_code 11 = .ok (.arraylength, 1) := by decide +kernel
theorem d24_12 : decode jdk_43_method_13_code 12 = .ok (.if_icmp .ge 20, 3) := by decide +kernel
theorem d24_15 : decode jdk_43_method_13_code 15 = .ok (.aload_n 0, 1) := by decide +kernel
theorem d24_16 : decode jdk_43_method_13_code 16 = .ok (.iload_n 2, 1) := by decide +kernel
theorem d24_17 : decode jdk_43_method_13_code 17 = .ok (.baload, 1) := by decide +kernel
theorem d24_18 : decode jdk_43_method_13_code 18 = .ok (.aload_n 1, 1) := by decide +kernel
theorem d24_19 : decode jdk_43_method_13_code 19 = .ok (.iload_n 2, 1) := by decide +kernel
theorem d24_20 : decode jdk_43_method_13_code 20 = .ok (.baload, 1) := by decide +kernel
theorem d24_21 : decode jdk_43_method_13_code 21 = .ok (.if_icmp .eq 5, 3) := by decide +kernel
theorem d24_24 : decode jdk_43_method_13_code 24 = .ok (.iconst 0, 1) := by decide +kernel
theorem d24_25 : decode jdk_43_method_13_code 25 = .ok (.ireturn, 1) := by decide +kernel
def Q_m24n (Z : State) (b1 : Addr) (k1 : ClassId) (vs1 : List Value) (b2 : Addr) (k2 : ClassId) (vs2 : List Value) (z : Int32) (x : Int32) (y : Int32) (h0 : Heap) (n0 : Nat) (v : Option Value) (h : Heap) (L : List Loc) : Prop := v = (some (.int (0 : Int32))) ∧ Fr n0 L ∧ h = h0
theorem ef_m24n (m : MethodId) (b1 : Addr) (k1 : ClassId) (vs1 : List Value) (b2 : Addr) (k2 : ClassId) (vs2 : List Value) (z : Int32) (x : Int32) (y : Int32) : entryFrame m #[(.ref b1), (.ref b2)] 3 = mkF m 0 #[.val (.ref b1), .val (.ref b2), .unset] [] := by first | (simp [entryFrame, mkF, argsToLocals, Value.category]; done) | rfl
set_option maxRecDepth 65536 in
set_option maxHeartbeats 40000000 in
theorem m24n (l : Launch) (Z : State) (a0 : Array Value) (hw : ∀ d ∈ tables_1, d.before a0 Z = true) (ws : List Jvm.Cond) (b1 : Addr) (k1 : ClassId) (vs1 : List Value) (b2 : Addr) (k2 : ClassId) (vs2 : List Value) (z : Int32) (x : Int32) (y : Int32) (h0 : Heap) (n0 : Nat) (Z0 : n0 ≤ h0.size) (V1 : Arv Z h0 b1 k1 .byte z vs1 (.int (0 : Int32))) (V2 : Arv Z h0 b2 k2 .byte z vs2 (.int (0 : Int32))) (hz : (0 : Int32) < z) (hv1_0 : vs1.getD (0 : Int32).toNatClampNeg (.int (0 : Int32)) = .int x) (hv2_0 : vs2.getD (0 : Int32).toNatClampNeg (.int (0 : Int32)) = .int y) (hne : ¬ (x = y)) :
    MetFree l (⟨"java/lang/StringLatin1", "equals", "([B[B)Z"⟩ : MethodName) (head1 (Jvm.Cond.code (⟨"java/lang/StringLatin1", "equals", "([B[B)Z"⟩ : MethodName) jdk_43_method_13_code 3 (some .boolean) :: ws) ({ frames := 0, cells := 0, slots := 0, locals := 0 } : Room)) (fun ar_ U => ar_ = #[(.ref b1), (.ref b2)] ∧ Z.Warmed39 U.vm ∧ U.heap = h0) (fun _ _ _ _ _ => True) (fun _ U o U' => ∃ v L, o = .returned v ∧ Q_m24n Z b1 k1 vs1 b2 k2 vs2 z x y h0 n0 v U'.heap L ∧ FrameEnd U o U' L ({ frames := 0, cells := 0, slots := 0, locals := 0 } : Room).cells ({ frames := 0, cells := 0, slots := 0, locals := 0 } : Room).slots) := by
  refine MetFree.of_bodySF (plainFor_of_name pnx_java_lang_StringLatin1) hisR ?_
  intro p e s m args below meth c s₁ Bd hml0 hP hK
  obtain ⟨rfl, hZ, hh⟩ := hP
  have hx := Bd.exec
  have hby := Bd.bytes
  have hml : c.maxLocals = 3 := hml0
  have hown : s.vm.findClass "java/lang/StringLatin1" = some m.cls := findClass_of_methodNamed Bd.named
  have hnm := (name_of_methodNamed Bd.named Bd.method).1
  have X0 : Stand p l e ({ frames := 0, cells := 0, slots := 0, locals := 0 } : Room) s m #[(.ref b1), (.ref b2)] below meth c s₁ [] 0 0 := Stand.of_body Bd
  have e0 : s₁.heap = h0 := by rw [← hh, Bd.state]; rfl
  have N0 := Fr.nil n0
  have pre0 : ∀ tq_, Steps p.tables e below (s₁.setTop (mkF m 0 #[.val (.ref b1), .val (.ref b2), .unset] [])) tq_ → Steps p.tables e below (s₁.setTop (entryFrame m #[(.ref b1), (.ref b2)] 3)) tq_ := fun tq_ kt_ => castTop (ef_m24n m b1 k1 vs1 b2 k2 vs2 z x y ) kt_
  obtain ⟨c1, Ar1, -, Sz1, Nz1, -⟩ := id V1
  obtain ⟨c2, Ar2, -, Sz2, Nz2, -⟩ := id V2
  obtain ⟨c3, Ar3, -, Sz3, Nz3, -⟩ := id V1
  obtain ⟨c4, Ar4, -, Sz4, -, H4, -⟩ := id V1
  have hin4 := inb_of Sz4 ⟨(by decide : ¬ ((0 : Int32) < (0 : Int32))), (hz : (0 : Int32) < z)⟩
  have hat4 := H4 (0 : Int32).toNatClampNeg (Nat.lt_of_not_le fun q => hin4 (Or.inr q))
  rw [hv1_0] at hat4
  obtain ⟨c5, Ar5, -, Sz5, -, H5, -⟩ := id V2
  have hin5 := inb_of Sz5 ⟨(by decide : ¬ ((0 : Int32) < (0 : Int32))), (hz : (0 : Int32) < z)⟩
  have hat5 := H5 (0 : Int32).toNatClampNeg (Nat.lt_of_not_le fun q => hin5 (Or.inr q))
  rw [hv2_0] at hat5
  obtain ⟨fs, hr, hrun, hended, hW, hsame⟩ := X0.leave (v := some (.int (0 : Int32))) (fun h => by rw [Bd.returns] at h; cases h)
  refine ⟨_, _, pre0 _ ?_, hrun, hended, _, _, rfl, ?_, ⟨_, rfl⟩, hW, hsame.mono (nle rfl) (nle rfl)⟩
  · show Steps p.tables e below (s₁.setTop (mkF m 0 #[.val (.ref b1), .val (.ref b2), .unset] [])) _
    refine XS.aloadN X0.here hx rfl (hb hby d24_0) rfl rfl ?_
    show Steps p.tables e below (s₁.setTop (mkF m 1 #[.val (.ref b1), .val (.ref b2), .unset] [(.ref b1)])) _
    refine X0.arraylength hx (by rw [e0]; exact Ar1.1) (State.isArrayOf_alike hZ.alike Ar1.2.1) (g := (mkF m 1 #[.val (.ref b1), .val (.ref b2), .unset] [(.ref b1)])) rfl rfl (hb hby d24_1) _ ?_
    rw [len_of Sz1 Nz1]
    show Steps p.tables e below (s₁.setTop (mkF m 2 #[.val (.ref b1), .val (.ref b2), .unset] [(.int z)])) _
    refine XS.aloadN X0.here hx rfl (hb hby d24_2) rfl rfl ?_
    show Steps p.tables e below (s₁.setTop (mkF m 3 #[.val (.ref b1), .val (.ref b2), .unset] [(.ref b2), (.int z)])) _
    refine X0.arraylength hx (by rw [e0]; exact Ar2.1) (State.isArrayOf_alike hZ.alike Ar2.2.1) (g := (mkF m 3 #[.val (.ref b1), .val (.ref b2), .unset] [(.ref b2), (.int z)])) rfl rfl (hb hby d24_3) _ ?_
    rw [len_of Sz2 Nz2]
    show Steps p.tables e below (s₁.setTop (mkF m 4 #[.val (.ref b1), .val (.ref b2), .unset] [(.int z), (.int z)])) _
    refine XS.icmpNo X0.here hx rfl (hb hby d24_4) rfl (teq (rfl : z = z)).2 ?_
    show Steps p.tables e below (s₁.setTop (mkF m 7 #[.val (.ref b1), .val (.ref b2), .unset] [])) _
    refine XS.iconst X0.here hx rfl (hb hby d24_7) ?_
    show Steps p.tables e below (s₁.setTop (mkF m 8 #[.val (.ref b1), .val (.ref b2), .unset] [(.int (0 : Int32))])) _
    refine XS.istoreN X0.here hx rfl (hb hby d24_8) rfl (l' := #[.val (.ref b1), .val (.ref b2), .val (.int (0 : Int32))]) rfl ?_
    show Steps p.tables e below (s₁.setTop (mkF m 9 #[.val (.ref b1), .val (.ref b2), .val (.int (0 : Int32))] [])) _
    refine XS.iloadN X0.here hx rfl (hb hby d24_9) rfl ?_
    show Steps p.tables e below (s₁.setTop (mkF m 10 #[.val (.ref b1), .val (.ref b2), .val (.int (0 : Int32))] [(.int (0 : Int32))])) _
    refine XS.aloadN X0.here hx rfl (hb hby d24_10) rfl rfl ?_
    show Steps p.tables e below (s₁.setTop (mkF m 11 #[.val (.ref b1), .val (.ref b2), .val (.int (0 : Int32))] [(.ref b1), (.int (0 : Int32))])) _
    refine X0.arraylength hx (by rw [e0]; exact Ar3.1) (State.isArrayOf_alike hZ.alike Ar3.2.1) (g := (mkF m 11 #[.val (.ref b1), .val (.ref b2), .val (.int (0 : Int32))] [(.ref b1), (.int (0 : Int32))])) rfl rfl (hb hby d24_11) _ ?_
    rw [len_of Sz3 Nz3]
    show Steps p.tables e below (s₁.setTop (mkF m 12 #[.val (.ref b1), .val (.ref b2), .val (.int (0 : Int32))] [(.int z), (.int (0 : Int32))])) _
    refine XS.icmpNo X0.here hx rfl (hb hby d24_12) rfl (tlt (hz : (0 : Int32) < z)).2.1 ?_
    show Steps p.tables e below (s₁.setTop (mkF m 15 #[.val (.ref b1), .val (.ref b2), .val (.int (0 : Int32))] [])) _
    refine XS.aloadN X0.here hx rfl (hb hby d24_15) rfl rfl ?_
    show Steps p.tables e below (s₁.setTop (mkF m 16 #[.val (.ref b1), .val (.ref b2), .val (.int (0 : Int32))] [(.ref b1)])) _
    refine XS.iloadN X0.here hx rfl (hb hby d24_16) rfl ?_
    show Steps p.tables e below (s₁.setTop (mkF m 17 #[.val (.ref b1), .val (.ref b2), .val (.int (0 : Int32))] [(.int (0 : Int32)), (.ref b1)])) _
    refine X0.baloadBytes hx (j := (0 : Int32)) (v := (.int x)) (by rw [e0]; exact Ar4.1) (State.isArrayOf_alike hZ.alike Ar4.2.1) Ar4.2.2 hin4 hat4 (g := (mkF m 17 #[.val (.ref b1), .val (.ref b2), .val (.int (0 : Int32))] [(.int (0 : Int32)), (.ref b1)])) rfl rfl (hb hby d24_17) _ ?_
    show Steps p.tables e below (s₁.setTop (mkF m 18 #[.val (.ref b1), .val (.ref b2), .val (.int (0 : Int32))] [(.int x)])) _
    refine XS.aloadN X0.here hx rfl (hb hby d24_18) rfl rfl ?_
    show Steps p.tables e below (s₁.setTop (mkF m 19 #[.val (.ref b1), .val (.ref b2), .val (.int (0 : Int32))] [(.ref b2), (.int x)])) _
    refine XS.iloadN X0.here hx rfl (hb hby d24_19) rfl ?_
    show Steps p.tables e below (s₁.setTop (mkF m 20 #[.val (.ref b1), .val (.ref b2), .val (.int (0 : Int32))] [(.int (0 : Int32)), (.ref b2), (.int x)])) _
    refine X0.baloadBytes hx (j := (0 : Int32)) (v := (.int y)) (by rw [e0]; exact Ar5.1) (State.isArrayOf_alike hZ.alike Ar5.2.1) Ar5.2.2 hin5 hat5 (g := (mkF m 20 #[.val (.ref b1), .val (.ref b2), .val (.int (0 : Int32))] [(.int (0 : Int32)), (.ref b2), (.int x)])) rfl rfl (hb hby d24_20) _ ?_
    show Steps p.tables e below (s₁.setTop (mkF m 21 #[.val (.ref b1), .val (.ref b2), .val (.int (0 : Int32))] [(.int y), (.int x)])) _
    refine XS.icmpNo X0.here hx rfl (hb hby d24_21) rfl (feq (hne : ¬ (x = y))).1 ?_
    show Steps p.tables e below (s₁.setTop (mkF m 24 #[.val (.ref b1), .val (.ref b2), .val (.int (0 : Int32))] [])) _
    refine XS.iconst X0.here hx rfl (hb hby d24_24) ?_
    show Steps p.tables e below (s₁.setTop (mkF m 25 #[.val (.ref b1), .val (.ref b2), .val (.int (0 : Int32))] [(.int (0 : Int32))])) _
    exact own_retN X0 hx (t := .boolean) rfl Bd.returns (by simp) (hb hby d24_25) hr
  · show Q_m24n Z b1 k1 vs1 b2 k2 vs2 z x y h0 n0 _ s₁.heap _
    exact ⟨rfl, N0, e0⟩
theorem d24_26 : decode jdk_43_method_13_code 26 = .ok (.iinc 2 1, 3) := by decide +kernel
theorem d24_29 : decode jdk_43_method_13_code 29 = .ok (.goto (-20), 3) := by decide +kernel
theorem d24_32 : decode jdk_43_method_13_code 32 = .ok (.iconst 1, 1) := by decide +kernel
theorem d24_33 : decode jdk_43_method_13_code 33 = .ok (.ireturn, 1) := by decide +kernel
def Q_m24_1 (Z : State) (b1 : Addr) (k1 : ClassId) (vs1 : List Value) (b2 : Addr) (k2 : ClassId) (vs2 : List Value) (x0 : Int32) (h0 : Heap) (n0 : Nat) (v : Option Value) (h : Heap) (L : List Loc) : Prop := v = (some (.int (1 : Int32))) ∧ Fr n0 L ∧ h = h0
theorem ef_m24_1 (m : MethodId) (b1 : Addr) (k1 : ClassId) (vs1 : List Value) (b2 : Addr) (k2 : ClassId) (vs2 : List Value) (x0 : Int32) : entryFrame m #[(.ref b1), (.ref b2)] 3 = mkF m 0 #[.val (.ref b1), .val (.ref b2), .unset] [] := by first | (simp [entryFrame, mkF, argsToLocals, Value.category]; done) | rfl
set_option maxRecDepth 65536 in
set_option maxHeartbeats 40000000 in
theorem m24_1 (l : Launch) (Z : State) (a0 : Array Value) (hw : ∀ d ∈ tables_1, d.before a0 Z = true) (ws : List Jvm.Cond) (b1 : Addr) (k1 : ClassId) (vs1 : List Value) (b2 : Addr) (k2 : ClassId) (vs2 : List Value) (x0 : Int32) (h0 : Heap) (n0 : Nat) (Z0 : n0 ≤ h0.size) (V1 : Arv Z h0 b1 k1 .byte (1 : Int32) vs1 (.int (0 : Int32))) (V2 : Arv Z h0 b2 k2 .byte (1 : Int32) vs2 (.int (0 : Int32))) (hv1_0 : vs1.getD (0 : Int32).toNatClampNeg (.int (0 : Int32)) = .int x0) (hv2_0 : vs2.getD (0 : Int32).toNatClampNeg (.int (0 : Int32)) = .int x0) :
    MetFree l (⟨"java/lang/StringLatin1", "equals", "([B[B)Z"⟩ : MethodName) (head1 (Jvm.Cond.code (⟨"java/lang/StringLatin1", "equals", "([B[B)Z"⟩ : MethodName) jdk_43_method_13_code 3 (some .boolean) :: ws) ({ frames := 0, cells := 0, slots := 0, locals := 0 } : Room)) (fun ar_ U => ar_ = #[(.ref b1), (.ref b2)] ∧ Z.Warmed39 U.vm ∧ U.heap = h0) (fun _ _ _ _ _ => True) (fun _ U o U' => ∃ v L, o = .returned v ∧ Q_m24_1 Z b1 k1 vs1 b2 k2 vs2 x0 h0 n0 v U'.heap L ∧ FrameEnd U o U' L ({ frames := 0, cells := 0, slots := 0, locals := 0 } : Room).cells ({ frames := 0, cells := 0, slots := 0, locals := 0 } : Room).slots) := by
  refine MetFree.of_bodySF (plainFor_of_name pnx_java_lang_StringLatin1) hisR ?_
  intro p e s m args below meth c s₁ Bd hml0 hP hK
  obtain ⟨rfl, hZ, hh⟩ := hP
  have hx := Bd.exec
  have hby := Bd.bytes
  have hml : c.maxLocals = 3 := hml0
  have hown : s.vm.findClass "java/lang/StringLatin1" = some m.cls := findClass_of_methodNamed Bd.named
  have hnm := (name_of_methodNamed Bd.named Bd.method).1
  have X0 : Stand p l e ({ frames := 0, cells := 0, slots := 0, locals := 0 } : Room) s m #[(.ref b1), (.ref b2)] below meth c s₁ [] 0 0 := Stand.of_body Bd
  have e0 : s₁.heap = h0 := by rw [← hh, Bd.state]; rfl
  have N0 := Fr.nil n0
  have pre0 : ∀ tq_, Steps p.tables e below (s₁.setTop (mkF m 0 #[.val (.ref b1), .val (.ref b2), .unset] [])) tq_ → Steps p.tables e below (s₁.setTop (entryFrame m #[(.ref b1), (.ref b2)] 3)) tq_ := fun tq_ kt_ => castTop (ef_m24_1 m b1 k1 vs1 b2 k2 vs2 x0 ) kt_
  obtain ⟨c1, Ar1, -, Sz1, Nz1, -⟩ := id V1
  obtain ⟨c2, Ar2, -, Sz2, Nz2, -⟩ := id V2
  obtain ⟨c3, Ar3, -, Sz3, Nz3, -⟩ := id V1
  obtain ⟨c4, Ar4, -, Sz4, -, H4, -⟩ := id V1
  have hin4 := inb_of Sz4 ⟨(by decide : ¬ ((0 : Int32) < (0 : Int32))), ((by decide) : (0 : Int32) < (1 : Int32))⟩
  have hat4 := H4 (0 : Int32).toNatClampNeg (Nat.lt_of_not_le fun q => hin4 (Or.inr q))
  rw [hv1_0] at hat4
  obtain ⟨c5, Ar5, -, Sz5, -, H5, -⟩ := id V2
  have hin5 := inb_of Sz5 ⟨(by decide : ¬ ((0 : Int32) < (0 : Int32))), ((by decide) : (0 : Int32) < (1 : Int32))⟩
  have hat5 := H5 (0 : Int32).toNatClampNeg (Nat.lt_of_not_le fun q => hin5 (Or.inr q))
  rw [hv2_0] at hat5
  obtain ⟨c6, Ar6, -, Sz6, Nz6, -⟩ := id V1
  obtain ⟨fs, hr, hrun, hended, hW, hsame⟩ := X0.leave (v := some (.int (1 : Int32))) (fun h => by rw [Bd.returns] at h; cases h)
  refine ⟨_, _, pre0 _ ?_, hrun, hended, _, _, rfl, ?_, ⟨_, rfl⟩, hW, hsame.mono (nle rfl) (nle rfl)⟩
  · show Steps p.tables e below (s₁.setTop (mkF m 0 #[.val (.ref b1), .val (.ref b2), .unset] [])) _
    refine XS.aloadN X0.here hx rfl (hb hby d24_0) rfl rfl ?_
    show Steps p.tables e below (s₁.setTop (mkF m 1 #[.val (.ref b1), .val (.ref b2), .unset] [(.ref b1)])) _
    refine X0.arraylength hx (by rw [e0]; exact Ar1.1) (State.isArrayOf_alike hZ.alike Ar1.2.1) (g := (mkF m 1 #[.val (.ref b1), .val (.ref b2), .unset] [(.ref b1)])) rfl rfl (hb hby d24_1) _ ?_
    rw [len_of Sz1 Nz1]
    show Steps p.tables e below (s₁.setTop (mkF m 2 #[.val (.ref b1), .val (.ref b2), .unset] [(.int (1 : Int32))])) _
    refine XS.aloadN X0.here hx rfl (hb hby d24_2) rfl rfl ?_
    show Steps p.tables e below (s₁.setTop (mkF m 3 #[.val (.ref b1), .val (.ref b2), .unset] [(.ref b2), (.int (1 : Int32))])) _
    refine X0.arraylength hx (by rw [e0]; exact Ar2.1) (State.isArrayOf_alike hZ.alike Ar2.2.1) (g := (mkF m 3 #[.val (.ref b1), .val (.ref b2), .unset] [(.ref b2), (.int (1 : Int32))])) rfl rfl (hb hby d24_3) _ ?_
    rw [len_of Sz2 Nz2]
    show Steps p.tables e below (s₁.setTop (mkF m 4 #[.val (.ref b1), .val (.ref b2), .unset] [(.int (1 : Int32)), (.int (1 : Int32))])) _
    refine XS.icmpNo X0.here hx rfl (hb hby d24_4) rfl (teq (by decide : (1 : Int32) = (1 : Int32))).2 ?_
    show Steps p.tables e below (s₁.setTop (mkF m 7 #[.val (.ref b1), .val (.ref b2), .unset] [])) _
    refine XS.iconst X0.here hx rfl (hb hby d24_7) ?_
    show Steps p.tables e below (s₁.setTop (mkF m 8 #[.val (.ref b1), .val (.ref b2), .unset] [(.int (0 : Int32))])) _
    refine XS.istoreN X0.here hx rfl (hb hby d24_8) rfl (l' := #[.val (.ref b1), .val (.ref b2), .val (.int (0 : Int32))]) rfl ?_
    show Steps p.tables e below (s₁.setTop (mkF m 9 #[.val (.ref b1), .val (.ref b2), .val (.int (0 : Int32))] [])) _
    refine XS.iloadN X0.here hx rfl (hb hby d24_9) rfl ?_
    show Steps p.tables e below (s₁.setTop (mkF m 10 #[.val (.ref b1), .val (.ref b2), .val (.int (0 : Int32))] [(.int (0 : Int32))])) _
    refine XS.aloadN X0.here hx rfl (hb hby d24_10) rfl rfl ?_
    show Steps p.tables e below (s₁.setTop (mkF m 11 #[.val (.ref b1), .val (.ref b2), .val (.int (0 : Int32))] [(.ref b1), (.int (0 : Int32))])) _
    refine X0.arraylength hx (by rw [e0]; exact Ar3.1) (State.isArrayOf_alike hZ.alike Ar3.2.1) (g := (mkF m 11 #[.val (.ref b1), .val (.ref b2), .val (.int (0 : Int32))] [(.ref b1), (.int (0 : Int32))])) rfl rfl (hb hby d24_11) _ ?_
    rw [len_of Sz3 Nz3]
    show Steps p.tables e below (s₁.setTop (mkF m 12 #[.val (.ref b1), .val (.ref b2), .val (.int (0 : Int32))] [(.int (1 : Int32)), (.int (0 : Int32))])) _
    refine XS.icmpNo X0.here hx rfl (hb hby d24_12) rfl (tlt (by decide : (0 : Int32) < (1 : Int32))).2.1 ?_
    show Steps p.tables e below (s₁.setTop (mkF m 15 #[.val (.ref b1), .val (.ref b2), .val (.int (0 : Int32))] [])) _
    refine XS.aloadN X0.here hx rfl (hb hby d24_15) rfl rfl ?_
    show Steps p.tables e below (s₁.setTop (mkF m 16 #[.val (.ref b1), .val (.ref b2), .val (.int (0 : Int32))] [(.ref b1)])) _
    refine XS.iloadN X0.here hx rfl (hb hby d24_16) rfl ?_
    show Steps p.tables e below (s₁.setTop (mkF m 17 #[.val (.ref b1), .val (.ref b2), .val (.int (0 : Int32))] [(.int (0 : Int32)), (.ref b1)])) _
    refine X0.baloadBytes hx (j := (0 : Int32)) (v := (.int x0)) (by rw [e0]; exact Ar4.1) (State.isArrayOf_alike hZ.alike Ar4.2.1) Ar4.2.2 hin4 hat4 (g := (mkF m 17 #[.val (.ref b1), .val (.ref b2), .val (.int (0 : Int32))] [(.int (0 : Int32)), (.ref b1)])) rfl rfl (hb hby d24_17) _ ?_
    show Steps p.tables e below (s₁.setTop (mkF m 18 #[.val (.ref b1), .val (.ref b2), .val (.int (0 : Int32))] [(.int x0)])) _
    refine XS.aloadN X0.here hx rfl (hb hby d24_18) rfl rfl ?_
    show Steps p.tables e below (s₁.setTop (mkF m 19 #[.val (.ref b1), .val (.ref b2), .val (.int (0 : Int32))] [(.ref b2), (.int x0)])) _
    refine XS.iloadN X0.here hx rfl (hb hby d24_19) rfl ?_
    show Steps p.tables e below (s₁.setTop (mkF m 20 #[.val (.ref b1), .val (.ref b2), .val (.int (0 : Int32))] [(.int (0 : Int32)), (.ref b2), (.int x0)])) _
    refine X0.baloadBytes hx (j := (0 : Int32)) (v := (.int x0)) (by rw [e0]; exact Ar5.1) (State.isArrayOf_alike hZ.alike Ar5.2.1) Ar5.2.2 hin5 hat5 (g := (mkF m 20 #[.val (.ref b1), .val (.ref b2), .val (.int (0 : Int32))] [(.int (0 : Int32)), (.ref b2), (.int x0)])) rfl rfl (hb hby d24_20) _ ?_
    show Steps p.tables e below (s₁.setTop (mkF m 21 #[.val (.ref b1), .val (.ref b2), .val (.int (0 : Int32))] [(.int x0), (.int x0)])) _
    refine XS.icmpYes X0.here hx rfl (pc0 := 21) (pc' := 26) rfl (hb hby d24_21) rfl (teq (rfl : x0 = x0)).1 (by decide) (by decide) ?_
    show Steps p.tables e below (s₁.setTop (mkF m 26 #[.val (.ref b1), .val (.ref b2), .val (.int (0 : Int32))] [])) _
    refine XS.iinc X0.here hx rfl (hb hby d24_26) rfl (l' := #[.val (.ref b1), .val (.ref b2), .val (.int (1 : Int32))]) rfl ?_
    show Steps p.tables e below (s₁.setTop (mkF m 29 #[.val (.ref b1), .val (.ref b2), .val (.int (1 : Int32))] [])) _
    refine XS.goto X0.here hx rfl (pc0 := 29) (pc' := 9) rfl (hb hby d24_29) (by decide) (by decide) ?_
    show Steps p.tables e below (s₁.setTop (mkF m 9 #[.val (.ref b1), .val (.ref b2), .val (.int (1 : Int32))] [])) _
    refine XS.iloadN X0.here hx rfl (hb hby d24_9) rfl ?_
    show Steps p.tables e below (s₁.setTop (mkF m 10 #[.val (.ref b1), .val (.ref b2), .val (.int (1 : Int32))] [(.int (1 : Int32))])) _
    refine XS.aloadN X0.here hx rfl (hb hby d24_10) rfl rfl ?_
    show Steps p.tables e below (s₁.setTop (mkF m 11 #[.val (.ref b1), .val (.ref b2), .val (.int (1 : Int32))] [(.ref b1), (.int (1 : Int32))])) _
    refine X0.arraylength hx (by rw [e0]; exact Ar6.1) (State.isArrayOf_alike hZ.alike Ar6.2.1) (g := (mkF m 11 #[.val (.ref b1), .val (.ref b2), .val (.int (1 : Int32))] [(.ref b1), (.int (1 : Int32))])) rfl rfl (hb hby d24_11) _ ?_
    rw [len_of Sz6 Nz6]
    show Steps p.tables e below (s₁.setTop (mkF m 12 #[.val (.ref b1), .val (.ref b2), .val (.int (1 : Int32))] [(.int (1 : Int32)), (.int (1 : Int32))])) _
    refine XS.icmpYes X0.here hx rfl (pc0 := 12) (pc' := 32) rfl (hb hby d24_12) rfl (flt (by decide : ¬ ((1 : Int32) < (1 : Int32)))).2.1 (by decide) (by decide) ?_
    show Steps p.tables e below (s₁.setTop (mkF m 32 #[.val (.ref b1), .val (.ref b2), .val (.int (1 : Int32))] [])) _
    refine XS.iconst X0.here hx rfl (hb hby d24_32) ?_
    show Steps p.tables e below (s₁.setTop (mkF m 33 #[.val (.ref b1), .val (.ref b2), .val (.int (1 : Int32))] [(.int (1 : Int32))])) _
    exact own_retN X0 hx (t := .boolean) rfl Bd.returns (by simp) (hb hby d24_33) hr
  · show Q_m24_1 Z b1 k1 vs1 b2 k2 vs2 x0 h0 n0 _ s₁.heap _
    exact ⟨rfl, N0, e0⟩
def Q_m24_2 (Z : State) (b1 : Addr) (k1 : ClassId) (vs1 : List Value) (b2 : Addr) (k2 : ClassId) (vs2 : List Value) (x0 : Int32) (x1 : Int32) (h0 : Heap) (n0 : Nat) (v : Option Value) (h : Heap) (L : List Loc) : Prop := v = (some (.int (1 : Int32))) ∧ Fr n0 L ∧ h = h0
theorem ef_m24_2 (m : MethodId) (b1 : Addr) (k1 : ClassId) (vs1 : List Value) (b2 : Addr) (k2 : ClassId) (vs2 : List Value) (x0 : Int32) (x1 : Int32) : entryFrame m #[(.ref b1), (.ref b2)] 3 = mkF m 0 #[.val (.ref b1), .val (.ref b2), .unset] [] := by first | (simp [entryFrame, mkF, argsToLocals, Value.category]; done) | rfl
set_option maxRecDepth 65536 in
set_option maxHeartbeats 40000000 in
theorem m24_2 (l : Launch) (Z : State) (a0 : Array Value) (hw : ∀ d ∈ tables_1, d.before a0 Z = true) (ws : List Jvm.Cond) (b1 : Addr) (k1 : ClassId) (vs1 : List Value) (b2 : Addr) (k2 : ClassId) (vs2 : List Value) (x0 : Int32) (x1 : Int32) (h0 : Heap) (n0 : Nat) (Z0 : n0 ≤ h0.size) (V1 : Arv Z h0 b1 k1 .byte (2 : Int32) vs1 (.int (0 : Int32))) (V2 : Arv Z h0 b2 k2 .byte (2 : Int32) vs2 (.int (0 : Int32))) (hv1_0 : vs1.getD (0 : Int32).toNatClampNeg (.int (0 : Int32)) = .int x0) (hv2_0 : vs2.getD (0 : Int32).toNatClampNeg (.int (0 : Int32)) = .int x0) (hv1_1 : vs1.getD (1 : Int32).toNatClampNeg (.int (0 : Int32)) = .int x1) (hv2_1 : vs2.getD (1 : Int32).toNatClampNeg (.int (0 : Int32)) = .int x1) :
    MetFree l (⟨"java/lang/StringLatin1", "equals", "([B[B)Z"⟩ : MethodName) (head1 (Jvm.Cond.code (⟨"java/lang/StringLatin1", "equals", "([B[B)Z"⟩ : MethodName) jdk_43_method_13_code 3 (some .boolean) :: ws) ({ frames := 0, cells := 0, slots := 0, locals := 0 } : Room)) (fun ar_ U => ar_ = #[(.ref b1), (.ref b2)] ∧ Z.Warmed39 U.vm ∧ U.heap = h0) (fun _ _ _ _ _ => True) (fun _ U o U' => ∃ v L, o = .returned v ∧ Q_m24_2 Z b1 k1 vs1 b2 k2 vs2 x0 x1 h0 n0 v U'.heap L ∧ FrameEnd U o U' L ({ frames := 0, cells := 0, slots := 0, locals := 0 } : Room).cells ({ frames := 0, cells := 0, slots := 0, locals := 0 } : Room).slots) := by
  refine MetFree.of_bodySF (plainFor_of_name pnx_java_lang_StringLatin1) hisR ?_
  intro p e s m args below meth c s₁ Bd hml0 hP hK
  obtain ⟨rfl, hZ, hh⟩ := hP
  have hx := Bd.exec
  have hby := Bd.bytes
  have hml : c.maxLocals = 3 := hml0
  have hown : s.vm.findClass "java/lang/StringLatin1" = some m.cls := findClass_of_methodNamed Bd.named
  have hnm := (name_of_methodNamed Bd.named Bd.method).1
  have X0 : Stand p l e ({ frames := 0, cells := 0, slots := 0, locals := 0 } : Room) s m #[(.ref b1), (.ref b2)] below meth c s₁ [] 0 0 := Stand.of_body Bd
  have e0 : s₁.heap = h0 := by rw [← hh, Bd.state]; rfl
  have N0 := Fr.nil n0
  have pre0 : ∀ tq_, Steps p.tables e below (s₁.setTop (mkF m 0 #[.val (.ref b1), .val (.ref b2), .unset] [])) tq_ → Steps p.tables e below (s₁.setTop (entryFrame m #[(.ref b1), (.ref b2)] 3)) tq_ := fun tq_ kt_ => castTop (ef_m24_2 m b1 k1 vs1 b2 k2 vs2 x0 x1 ) kt_
  obtain ⟨c1, Ar1, -, Sz1, Nz1, -⟩ := id V1
  obtain ⟨c2, Ar2, -, Sz2, Nz2, -⟩ := id V2
  obtain ⟨c3, Ar3, -, Sz3, Nz3, -⟩ := id V1
  obtain ⟨c4, Ar4, -, Sz4, -, H4, -⟩ := id V1
  have hin4 := inb_of Sz4 ⟨(by decide : ¬ ((0 : Int32) < (0 : Int32))), ((by decide) : (0 : Int32) < (2 : Int32))⟩
  have hat4 := H4 (0 : Int32).toNatClampNeg (Nat.lt_of_not_le fun q => hin4 (Or.inr q))
  rw [hv1_0] at hat4
  obtain ⟨c5, Ar5, -, Sz5, -, H5, -⟩ := id V2
  have hin5 := inb_of Sz5 ⟨(by decide : ¬ ((0 : Int32) < (0 : Int32))), ((by decide) : (0 : Int32) < (2 : Int32))⟩
  have hat5 := H5 (0 : Int32).toNatClampNeg (Nat.lt_of_not_le fun q => hin5 (Or.inr q))
  rw [hv2_0] at hat5
  obtain ⟨c6, Ar6, -, Sz6, Nz6, -⟩ := id V1
  obtain ⟨c7, Ar7, -, Sz7, -, H7, -⟩ := id V1
  have hin7 := inb_of Sz7 ⟨(by decide : ¬ ((1 : Int32) < (0 : Int32))), ((by decide) : (1 : Int32) < (2 : Int32))⟩
  have hat7 := H7 (1 : Int32).toNatClampNeg (Nat.lt_of_not_le fun q => hin7 (Or.inr q))
  rw [hv1_1] at hat7
  obtain ⟨c8, Ar8, -, Sz8, -, H8, -⟩ := id V2
  have hin8 := inb_of Sz8 ⟨(by decide : ¬ ((1 : Int32) < (0 : Int32))), ((by decide) : (1 : Int32) < (2 : Int32))⟩
  have hat8 := H8 (1 : Int32).toNatClampNeg (Nat.lt_of_not_le fun q => hin8 (Or.inr q))
  rw [hv2_1] at hat8
  obtain ⟨c9, Ar9, -, Sz9, Nz9, -⟩ := id V1
  obtain ⟨fs, hr, hrun, hended, hW, hsame⟩ := X0.leave (v := some (.int (1 : Int32))) (fun h => by rw [Bd.returns] at h; cases h)
  refine ⟨_, _, pre0 _ ?_, hrun, hended, _, _, rfl, ?_, ⟨_, rfl⟩, hW, hsame.mono (nle rfl) (nle rfl)⟩
  · show Steps p.tables e below (s₁.setTop (mkF m 0 #[.val (.ref b1), .val (.ref b2), .unset] [])) _
    refine XS.aloadN X0.here hx rfl (hb hby d24_0) rfl rfl ?_
    show Steps p.tables e below (s₁.setTop (mkF m 1 #[.val (.ref b1), .val (.ref b2), .unset] [(.ref b1)])) _
    refine X0.arraylength hx (by rw [e0]; exact Ar1.1) (State.isArrayOf_alike hZ.alike Ar1.2.1) (g := (mkF m 1 #[.val (.ref b1), .val (.ref b2), .unset] [(.ref b1)])) rfl rfl (hb hby d24_1) _ ?_
    rw [len_of Sz1 Nz1]
    show Steps p.tables e below (s₁.setTop (mkF m 2 #[.val (.ref b1), .val (.ref b2), .unset] [(.int (2 : Int32))])) _
    refine XS.aloadN X0.here hx rfl (hb hby d24_2) rfl rfl ?_
    show Steps p.tables e below (s₁.setTop (mkF m 3 #[.val (.ref b1), .val (.ref b2), .unset] [(.ref b2), (.int (2 : Int32))])) _
    refine X0.arraylength hx (by rw [e0]; exact Ar2.1) (State.isArrayOf_alike hZ.alike Ar2.2.1) (g := (mkF m 3 #[.val (.ref b1), .val (.ref b2), .unset] [(.ref b2), (.int (2 : Int32))])) rfl rfl (hb hby d24_3) _ ?_
    rw [len_of Sz2 Nz2]
    show Steps p.tables e below (s₁.setTop (mkF m 4 #[.val (.ref b1), .val (.ref b2), .unset] [(.int (2 : Int32)), (.int (2 : Int32))])) _
    refine XS.icmpNo X0.here hx rfl (hb hby d24_4) rfl (teq (by decide : (2 : Int32) = (2 : Int32))).2 ?_
    show Steps p.tables e below (s₁.setTop (mkF m 7 #[.val (.ref b1), .val (.ref b2), .unset] [])) _
    refine XS.iconst X0.here hx rfl (hb hby d24_7) ?_
    show Steps p.tables e below (s₁.setTop (mkF m 8 #[.val (.ref b1), .val (.ref b2), .unset] [(.int (0 : Int32))])) _
    refine XS.istoreN X0.here hx rfl (hb hby d24_8) rfl (l' := #[.val (.ref b1), .val (.ref b2), .val (.int (0 : Int32))]) rfl ?_
    show Steps p.tables e below (s₁.setTop (mkF m 9 #[.val (.ref b1), .val (.ref b2), .val (.int (0 : Int32))] [])) _
    refine XS.iloadN X0.here hx rfl (hb hby d24_9) rfl ?_
    show Steps p.tables e below (s₁.setTop (mkF m 10 #[.val (.ref b1), .val (.ref b2), .val (.int (0 : Int32))] [(.int (0 : Int32))])) _
    refine XS.aloadN X0.here hx rfl (hb hby d24_10) rfl rfl ?_
    show Steps p.tables e below (s₁.setTop (mkF m 11 #[.val (.ref b1), .val (.ref b2), .val (.int (0 : Int32))] [(.ref b1), (.int (0 : Int32))])) _
    refine X0.arraylength hx (by rw [e0]; exact Ar3.1) (State.isArrayOf_alike hZ.alike Ar3.2.1) (g := (mkF m 11 #[.val (.ref b1), .val (.ref b2), .val (.int (0 : Int32))] [(.ref b1), (.int (0 : Int32))])) rfl rfl (hb hby d24_11) _ ?_
    rw [len_of Sz3 Nz3]
    show Steps p.tables e below (s₁.setTop (mkF m 12 #[.val (.ref b1), .val (.ref b2), .val (.int (0 : Int32))] [(.int (2 : Int32)), (.int (0 : Int32))])) _
    refine XS.icmpNo X0.here hx rfl (hb hby d24_12) rfl (tlt (by decide : (0 : Int32) < (2 : Int32))).2.1 ?_
    show Steps p.tables e below (s₁.setTop (mkF m 15 #[.val (.ref b1), .val (.ref b2), .val (.int (0 : Int32))] [])) _
    refine XS.aloadN X0.here hx rfl (hb hby d24_15) rfl rfl ?_
    show Steps p.tables e below (s₁.setTop (mkF m 16 #[.val (.ref b1), .val (.ref b2), .val (.int (0 : Int32))] [(.ref b1)])) _
    refine XS.iloadN X0.here hx rfl (hb hby d24_16) rfl ?_
    show Steps p.tables e below (s₁.setTop (mkF m 17 #[.val (.ref b1), .val (.ref b2), .val (.int (0 : Int32))] [(.int (0 : Int32)), (.ref b1)])) _
    refine X0.baloadBytes hx (j := (0 : Int32)) (v := (.int x0)) (by rw [e0]; exact Ar4.1) (State.isArrayOf_alike hZ.alike Ar4.2.1) Ar4.2.2 hin4 hat4 (g := (mkF m 17 #[.val (.ref b1), .val (.ref b2), .val (.int (0 : Int32))] [(.int (0 : Int32)), (.ref b1)])) rfl rfl (hb hby d24_17) _ ?_
    show Steps p.tables e below (s₁.setTop (mkF m 18 #[.val (.ref b1), .val (.ref b2), .val (.int (0 : Int32))] [(.int x0)])) _
    refine XS.aloadN X0.here hx rfl (hb hby d24_18) rfl rfl ?_
    show Steps p.tables e below (s₁.setTop (mkF m 19 #[.val (.ref b1), .val (.ref b2), .val (.int (0 : Int32))] [(.ref b2), (.int x0)])) _
    refine XS.iloadN X0.here hx rfl (hb hby d24_19) rfl ?_
    show Steps p.tables e below (s₁.setTop (mkF m 20 #[.val (.ref b1), .val (.ref b2), .val (.int (0 : Int32))] [(.int (0 : Int32)), (.ref b2), (.int x0)])) _
    refine X0.baloadBytes hx (j := (0 : Int32)) (v := (.int x0)) (by rw [e0]; exact Ar5.1) (State.isArrayOf_alike hZ.alike Ar5.2.1) Ar5.2.2 hin5 hat5 (g := (mkF m 20 #[.val (.ref b1), .val (.ref b2), .val (.int (0 : Int32))] [(.int (0 : Int32)), (.ref b2), (.int x0)])) rfl rfl (hb hby d24_20) _ ?_
    show Steps p.tables e below (s₁.setTop (mkF m 21 #[.val (.ref b1), .val (.ref b2), .val (.int (0 : Int32))] [(.int x0), (.int x0)])) _
    refine XS.icmpYes X0.here hx rfl (pc0 := 21) (pc' := 26) rfl (hb hby d24_21) rfl (teq (rfl : x0 = x0)).1 (by decide) (by decide) ?_
    show Steps p.tables e below (s₁.setTop (mkF m 26 #[.val (.ref b1), .val (.ref b2), .val (.int (0 : Int32))] [])) _
    refine XS.iinc X0.here hx rfl (hb hby d24_26) rfl (l' := #[.val (.ref b1), .val (.ref b2), .val (.int (1 : Int32))]) rfl ?_
    show Steps p.tables e below (s₁.setTop (mkF m 29 #[.val (.ref b1), .val (.ref b2), .val (.int (1 : Int32))] [])) _
    refine XS.goto X0.here hx rfl (pc0 := 29) (pc' := 9) rfl (hb hby d24_29) (by decide) (by decide) ?_
    show Steps p.tables e below (s₁.setTop (mkF m 9 #[.val (.ref b1), .val (.ref b2), .val (.int (1 : Int32))] [])) _
    refine XS.iloadN X0.here hx rfl (hb hby d24_9) rfl ?_
    show Steps p.tables e below (s₁.setTop (mkF m 10 #[.val (.ref b1), .val (.ref b2), .val (.int (1 : Int32))] [(.int (1 : Int32))])) _
    refine XS.aloadN X0.here hx rfl (hb hby d24_10) rfl rfl ?_
    show Steps p.tables e below (s₁.setTop (mkF m 11 #[.val (.ref b1), .val (.ref b2), .val (.int (1 : Int32))] [(.ref b1), (.int (1 : Int32))])) _
    refine X0.arraylength hx (by rw [e0]; exact Ar6.1) (State.isArrayOf_alike hZ.alike Ar6.2.1) (g := (mkF m 11 #[.val (.ref b1), .val (.ref b2), .val (.int (1 : Int32))] [(.ref b1), (.int (1 : Int32))])) rfl rfl (hb hby d24_11) _ ?_
    rw [len_of Sz6 Nz6]
    show Steps p.tables e below (s₁.setTop (mkF m 12 #[.val (.ref b1), .val (.ref b2), .val (.int (1 : Int32))] [(.int (2 : Int32)), (.int (1 : Int32))])) _
    refine XS.icmpNo X0.here hx rfl (hb hby d24_12) rfl (tlt (by decide : (1 : Int32) < (2 : Int32))).2.1 ?_
    show Steps p.tables e below (s₁.setTop (mkF m 15 #[.val (.ref b1), .val (.ref b2), .val (.int (1 : Int32))] [])) _
    refine XS.aloadN X0.here hx rfl (hb hby d24_15) rfl rfl ?_
    show Steps p.tables e below (s₁.setTop (mkF m 16 #[.val (.ref b1), .val (.ref b2), .val (.int (1 : Int32))] [(.ref b1)])) _
    refine XS.iloadN X0.here hx rfl (hb hby d24_16) rfl ?_
    show Steps p.tables e below (s₁.setTop (mkF m 17 #[.val (.ref b1), .val (.ref b2), .val (.int (1 : Int32))] [(.int (1 : Int32)), (.ref b1)])) _
    refine X0.baloadBytes hx (j := (1 : Int32)) (v := (.int x1)) (by rw [e0]; exact Ar7.1) (State.isArrayOf_alike hZ.alike Ar7.2.1) Ar7.2.2 hin7 hat7 (g := (mkF m 17 #[.val (.ref b1), .val (.ref b2), .val (.int (1 : Int32))] [(.int (1 : Int32)), (.ref b1)])) rfl rfl (hb hby d24_17) _ ?_
    show Steps p.tables e below (s₁.setTop (mkF m 18 #[.val (.ref b1), .val (.ref b2), .val (.int (1 : Int32))] [(.int x1)])) _
    refine XS.aloadN X0.here hx rfl (hb hby d24_18) rfl rfl ?_
    show Steps p.tables e below (s₁.setTop (mkF m 19 #[.val (.ref b1), .val (.ref b2), .val (.int (1 : Int32))] [(.ref b2), (.int x1)])) _
    refine XS.iloadN X0.here hx rfl (hb hby d24_19) rfl ?_
    show Steps p.tables e below (s₁.setTop (mkF m 20 #[.val (.ref b1), .val (.ref b2), .val (.int (1 : Int32))] [(.int (1 : Int32)), (.ref b2), (.int x1)])) _
    refine X0.baloadBytes hx (j := (1 : Int32)) (v := (.int x1)) (by rw [e0]; exact Ar8.1) (State.isArrayOf_alike hZ.alike Ar8.2.1) Ar8.2.2 hin8 hat8 (g := (mkF m 20 #[.val (.ref b1), .val (.ref b2), .val (.int (1 : Int32))] [(.int (1 : Int32)), (.ref b2), (.int x1)])) rfl rfl (hb hby d24_20) _ ?_
    show Steps p.tables e below (s₁.setTop (mkF m 21 #[.val (.ref b1), .val (.ref b2), .val (.int (1 : Int32))] [(.int x1), (.int x1)])) _
    refine XS.icmpYes X0.here hx rfl (pc0 := 21) (pc' := 26) rfl (hb hby d24_21) rfl (teq (rfl : x1 = x1)).1 (by decide) (by decide) ?_
    show Steps p.tables e below (s₁.setTop (mkF m 26 #[.val (.ref b1), .val (.ref b2), .val (.int (1 : Int32))] [])) _
    refine XS.iinc X0.here hx rfl (hb hby d24_26) rfl (l' := #[.val (.ref b1), .val (.ref b2), .val (.int (2 : Int32))]) rfl ?_
    show Steps p.tables e below (s₁.setTop (mkF m 29 #[.val (.ref b1), .val (.ref b2), .val (.int (2 : Int32))] [])) _
    refine XS.goto X0.here hx rfl (pc0 := 29) (pc' := 9) rfl (hb hby d24_29) (by decide) (by decide) ?_
    show Steps p.tables e below (s₁.setTop (mkF m 9 #[.val (.ref b1), .val (.ref b2), .val (.int (2 : Int32))] [])) _
    refine XS.iloadN X0.here hx rfl (hb hby d24_9) rfl ?_
    show Steps p.tables e below (s₁.setTop (mkF m 10 #[.val (.ref b1), .val (.ref b2), .val (.int (2 : Int32))] [(.int (2 : Int32))])) _
    refine XS.aloadN X0.here hx rfl (hb hby d24_10) rfl rfl ?_
    show Steps p.tables e below (s₁.setTop (mkF m 11 #[.val (.ref b1), .val (.ref b2), .val (.int (2 : Int32))] [(.ref b1), (.int (2 : Int32))])) _
    refine X0.arraylength hx (by rw [e0]; exact Ar9.1) (State.isArrayOf_alike hZ.alike Ar9.2.1) (g := (mkF m 11 #[.val (.ref b1), .val (.ref b2), .val (.int (2 : Int32))] [(.ref b1), (.int (2 : Int32))])) rfl rfl (hb hby d24_11) _ ?_
    rw [len_of Sz9 Nz9]
    show Steps p.tables e below (s₁.setTop (mkF m 12 #[.val (.ref b1), .val (.ref b2), .val (.int (2 : Int32))] [(.int (2 : Int32)), (.int (2 : Int32))])) _
    refine XS.icmpYes X0.here hx rfl (pc0 := 12) (pc' := 32) rfl (hb hby d24_12) rfl (flt (by decide : ¬ ((2 : Int32) < (2 : Int32)))).2.1 (by decide) (by decide) ?_
    show Steps p.tables e below (s₁.setTop (mkF m 32 #[.val (.ref b1), .val (.ref b2), .val (.int (2 : Int32))] [])) _
    refine XS.iconst X0.here hx rfl (hb hby d24_32) ?_
    show Steps p.tables e below (s₁.setTop (mkF m 33 #[.val (.ref b1), .val (.ref b2), .val (.int (2 : Int32))] [(.int (1 : Int32))])) _
    exact own_retN X0 hx (t := .boolean) rfl Bd.returns (by simp) (hb hby d24_33) hr
  · show Q_m24_2 Z b1 k1 vs1 b2 k2 vs2 x0 x1 h0 n0 _ s₁.heap _
    exact ⟨rfl, N0, e0⟩
def Q_m24_3 (Z : State) (b1 : Addr) (k1 : ClassId) (vs1 : List Value) (b2 : Addr) (k2 : ClassId) (vs2 : List Value) (x0 : Int32) (x1 : Int32) (x2 : Int32) (h0 : Heap) (n0 : Nat) (v : Option Value) (h : Heap) (L : List Loc) : Prop := v = (some (.int (1 : Int32))) ∧ Fr n0 L ∧ h = h0
theorem ef_m24_3 (m : MethodId) (b1 : Addr) (k1 : ClassId) (vs1 : List Value) (b2 : Addr) (k2 : ClassId) (vs2 : List Value) (x0 : Int32) (x1 : Int32) (x2 : Int32) : entryFrame m #[(.ref b1), (.ref b2)] 3 = mkF m 0 #[.val (.ref b1), .val (.ref b2), .unset] [] := by first | (simp [entryFrame, mkF, argsToLocals, Value.category]; done) | rfl
set_option maxRecDepth 65536 in
set_option maxHeartbeats 40000000 in
theorem m24_3 (l : Launch) (Z : State) (a0 : Array Value) (hw : ∀ d ∈ tables_1, d.before a0 Z = true) (ws : List Jvm.Cond) (b1 : Addr) (k1 : ClassId) (vs1 : List Value) (b2 : Addr) (k2 : ClassId) (vs2 : List Value) (x0 : Int32) (x1 : Int32) (x2 : Int32) (h0 : Heap) (n0 : Nat) (Z0 : n0 ≤ h0.size) (V1 : Arv Z h0 b1 k1 .byte (3 : Int32) vs1 (.int (0 : Int32))) (V2 : Arv Z h0 b2 k2 .byte (3 : Int32) vs2 (.int (0 : Int32))) (hv1_0 : vs1.getD (0 : Int32).toNatClampNeg (.int (0 : Int32)) = .int x0) (hv2_0 : vs2.getD (0 : Int32).toNatClampNeg (.int (0 : Int32)) = .int x0) (hv1_1 : vs1.getD (1 : Int32).toNatClampNeg (.int (0 : Int32)) = .int x1) (hv2_1 : vs2.getD (1 : Int32).toNatClampNeg (.int (0 : Int32)) = .int x1) (hv1_2 : vs1.getD (2 : Int32).toNatClampNeg (.int (0 : Int32)) = .int x2) (hv2_2 : vs2.getD (2 : Int32).toNatClampNeg (.int (0 : Int32)) = .int x2) :
    MetFree l (⟨"java/lang/StringLatin1", "equals", "([B[B)Z"⟩ : MethodName) (head1 (Jvm.Cond.code (⟨"java/lang/StringLatin1", "equals", "([B[B)Z"⟩ : MethodName) jdk_43_method_13_code 3 (some .boolean) :: ws) ({ frames := 0, cells := 0, slots := 0, locals := 0 } : Room)) (fun ar_ U => ar_ = #[(.ref b1), (.ref b2)] ∧ Z.Warmed39 U.vm ∧ U.heap = h0) (fun _ _ _ _ _ => True) (fun _ U o U' => ∃ v L, o = .returned v ∧ Q_m24_3 Z b1 k1 vs1 b2 k2 vs2 x0 x1 x2 h0 n0 v U'.heap L ∧ FrameEnd U o U' L ({ frames := 0, cells := 0, slots := 0, locals := 0 } : Room).cells ({ frames := 0, cells := 0, slots := 0, locals := 0 } : Room).slots) := by
  refine MetFree.of_bodySF (plainFor_of_name pnx_java_lang_StringLatin1) hisR ?_
  intro p e s m args below meth c s₁ Bd hml0 hP hK
  obtain ⟨rfl, hZ, hh⟩ := hP
  have hx := Bd.exec
  have hby := Bd.bytes
  have hml : c.maxLocals = 3 := hml0
  have hown : s.vm.findClass "java/lang/StringLatin1" = some m.cls := findClass_of_methodNamed Bd.named
  have hnm := (name_of_methodNamed Bd.named Bd.method).1
  have X0 : Stand p l e ({ frames := 0, cells := 0, slots := 0, locals := 0 } : Room) s m #[(.ref b1), (.ref b2)] below meth c s₁ [] 0 0 := Stand.of_body Bd
  have e0 : s₁.heap = h0 := by rw [← hh, Bd.state]; rfl
  have N0 := Fr.nil n0
  have pre0 : ∀ tq_, Steps p.tables e below (s₁.setTop (mkF m 0 #[.val (.ref b1), .val (.ref b2), .unset] [])) tq_ → Steps p.tables e below (s₁.setTop (entryFrame m #[(.ref b1), (.ref b2)] 3)) tq_ := fun tq_ kt_ => castTop (ef_m24_3 m b1 k1 vs1 b2 k2 vs2 x0 x1 x2 ) kt_
  obtain ⟨c1, Ar1, -, Sz1, Nz1, -⟩ := id V1
  obtain ⟨c2, Ar2, -, Sz2, Nz2, -⟩ := id V2
  obtain ⟨c3, Ar3, -, Sz3, Nz3, -⟩ := id V1
  obtain ⟨c4, Ar4, -, Sz4, -, H4, -⟩ := id V1
  have hin4 := inb_of Sz4 ⟨(by decide : ¬ ((0 : Int32) < (0 : Int32))), ((by decide) : (0 : Int32) < (3 : Int32))⟩
  have hat4 := H4 (0 : Int32).toNatClampNeg (Nat.lt_of_not_le fun q => hin4 (Or.inr q))
  rw [hv1_0] at hat4
  obtain ⟨c5, Ar5, -, Sz5, -, H5, -⟩ := id V2
  have hin5 := inb_of Sz5 ⟨(by decide : ¬ ((0 : Int32) < (0 : Int32))), ((by decide) : (0 : Int32) < (3 : Int32))⟩
  have hat5 := H5 (0 : Int32).toNatClampNeg (Nat.lt_of_not_le fun q => hin5 (Or.inr q))
  rw [hv2_0] at hat5
  obtain ⟨c6, Ar6, -, Sz6, Nz6, -⟩ := id V1
  obtain ⟨c7, Ar7, -, Sz7, -, H7, -⟩ := id V1
  have hin7 := inb_of Sz7 ⟨(by decide : ¬ ((1 : Int32) < (0 : Int32))), ((by decide) : (1 : Int32) < (3 : Int32))⟩
  have hat7 := H7 (1 : Int32).toNatClampNeg (Nat.lt_of_not_le fun q => hin7 (Or.inr q))
  rw [hv1_1] at hat7
  obtain ⟨c8, Ar8, -, Sz8, -, H8, -⟩ := id V2
  have hin8 := inb_of Sz8 ⟨(by decide : ¬ ((1 : Int32) < (0 : Int32))), ((by decide) : (1 : Int32) < (3 : Int32))⟩
  have hat8 := H8 (1 : Int32).toNatClampNeg (Nat.lt_of_not_le fun q => hin8 (Or.inr q))
  rw [hv2_1] at hat8
  obtain ⟨c9, Ar9, -, Sz9, Nz9, -⟩ := id V1
  obtain ⟨c10, Ar10, -, Sz10, -, H10, -⟩ := id V1
  have hin10 := inb_of Sz10 ⟨(by decide : ¬ ((2 : Int32) < (0 : Int32))), ((by decide) : (2 : Int32) < (3 : Int32))⟩
  have hat10 := H10 (2 : Int32).toNatClampNeg (Nat.lt_of_not_le fun q => hin10 (Or.inr q))
  rw [hv1_2] at hat10
  obtain ⟨c11, Ar11, -, Sz11, -, H11, -⟩ := id V2
  have hin11 := inb_of Sz11 ⟨(by decide : ¬ ((2 : Int32) < (0 : Int32))), ((by decide) : (2 : Int32) < (3 : Int32))⟩
  have hat11 := H11 (2 : Int32).toNatClampNeg (Nat.lt_of_not_le fun q => hin11 (Or.inr q))
  rw [hv2_2] at hat11
  obtain ⟨c12, Ar12, -, Sz12, Nz12, -⟩ := id V1
  obtain ⟨fs, hr, hrun, hended, hW, hsame⟩ := X0.leave (v := some (.int (1 : Int32))) (fun h => by rw [Bd.returns] at h; cases h)
  refine ⟨_, _, pre0 _ ?_, hrun, hended, _, _, rfl, ?_, ⟨_, rfl⟩, hW, hsame.mono (nle rfl) (nle rfl)⟩
  · show Steps p.tables e below (s₁.setTop (mkF m 0 #[.val (.ref b1), .val (.ref b2), .unset] [])) _
    refine XS.aloadN X0.here hx rfl (hb hby d24_0) rfl rfl ?_
    show Steps p.tables e below (s₁.setTop (mkF m 1 #[.val (.ref b1), .val (.ref b2), .unset] [(.ref b1)])) _
    refine X0.arraylength hx (by rw [e0]; exact Ar1.1) (State.isArrayOf_alike hZ.alike Ar1.2.1) (g := (mkF m 1 #[.val (.ref b1), .val (.ref b2), .unset] [(.ref b1)])) rfl rfl (hb hby d24_1) _ ?_
    rw [len_of Sz1 Nz1]
    show Steps p.tables e below (s₁.setTop (mkF m 2 #[.val (.ref b1), .val (.ref b2), .unset] [(.int (3 : Int32))])) _
    refine XS.aloadN X0.here hx rfl (hb hby d24_2) rfl rfl ?_
    show Steps p.tables e below (s₁.setTop (mkF m 3 #[.val (.ref b1), .val (.ref b2), .unset] [(.ref b2), (.int (3 : Int32))])) _
    refine X0.arraylength hx (by rw [e0]; exact Ar2.1) (State.isArrayOf_alike hZ.alike Ar2.2.1) (g := (mkF m 3 #[.val (.ref b1), .val (.ref b2), .unset] [(.ref b2), (.int (3 : Int32))])) rfl rfl (hb hby d24_3) _ ?_
    rw [len_of Sz2 Nz2]
    show Steps p.tables e below (s₁.setTop (mkF m 4 #[.val (.ref b1), .val (.ref b2), .unset] [(.int (3 : Int32)), (.int (3 : Int32))])) _
    refine XS.icmpNo X0.here hx rfl (hb hby d24_4) rfl (teq (by decide : (3 : Int32) = (3 : Int32))).2 ?_
    show Steps p.tables e below (s₁.setTop (mkF m 7 #[.val (.ref b1), .val (.ref b2), .unset] [])) _
    refine XS.iconst X0.here hx rfl (hb hby d24_7) ?_
    show Steps p.tables e below (s₁.setTop (mkF m 8 #[.val (.ref b1), .val (.ref b2), .unset] [(.int (0 : Int32))])) _
    refine XS.istoreN X0.here hx rfl (hb hby d24_8) rfl (l' := #[.val (.ref b1), .val (.ref b2), .val (.int (0 : Int32))]) rfl ?_
    show Steps p.tables e below (s₁.setTop (mkF m 9 #[.val (.ref b1), .val (.ref b2), .val (.int (0 : Int32))] [])) _
    refine XS.iloadN X0.here hx rfl (hb hby d24_9) rfl ?_
    show Steps p.tables e below (s₁.setTop (mkF m 10 #[.val (.ref b1), .val (.ref b2), .val (.int (0 : Int32))] [(.int (0 : Int32))])) _
    refine XS.aloadN X0.here hx rfl (hb hby d24_10) rfl rfl ?_
    show Steps p.tables e below (s₁.setTop (mkF m 11 #[.val (.ref b1), .val (.ref b2), .val (.int (0 : Int32))] [(.ref b1), (.int (0 : Int32))])) _
    refine X0.arraylength hx (by rw [e0]; exact Ar3.1) (State.isArrayOf_alike hZ.alike Ar3.2.1) (g := (mkF m 11 #[.val (.ref b1), .val (.ref b2), .val (.int (0 : Int32))] [(.ref b1), (.int (0 : Int32))])) rfl rfl (hb hby d24_11) _ ?_
    rw [len_of Sz3 Nz3]
    show Steps p.tables e below (s₁.setTop (mkF m 12 #[.val (.ref b1), .val (.ref b2), .val (.int (0 : Int32))] [(.int (3 : Int32)), (.int (0 : Int32))])) _
    refine XS.icmpNo X0.here hx rfl (hb hby d24_12) rfl (tlt (by decide : (0 : Int32) < (3 : Int32))).2.1 ?_
    show Steps p.tables e below (s₁.setTop (mkF m 15 #[.val (.ref b1), .val (.ref b2), .val (.int (0 : Int32))] [])) _
    refine XS.aloadN X0.here hx rfl (hb hby d24_15) rfl rfl ?_
    show Steps p.tables e below (s₁.setTop (mkF m 16 #[.val (.ref b1), .val (.ref b2), .val (.int (0 : Int32))] [(.ref b1)])) _
    refine XS.iloadN X0.here hx rfl (hb hby d24_16) rfl ?_
    show Steps p.tables e below (s₁.setTop (mkF m 17 #[.val (.ref b1), .val (.ref b2), .val (.int (0 : Int32))] [(.int (0 : Int32)), (.ref b1)])) _
    refine X0.baloadBytes hx (j := (0 : Int32)) (v := (.int x0)) (by rw [e0]; exact Ar4.1) (State.isArrayOf_alike hZ.alike Ar4.2.1) Ar4.2.2 hin4 hat4 (g := (mkF m 17 #[.val (.ref b1), .val (.ref b2), .val (.int (0 : Int32))] [(.int (0 : Int32)), (.ref b1)])) rfl rfl (hb hby d24_17) _ ?_
    show Steps p.tables e below (s₁.setTop (mkF m 18 #[.val (.ref b1), .val (.ref b2), .val (.int (0 : Int32))] [(.int x0)])) _
    refine XS.aloadN X0.here hx rfl (hb hby d24_18) rfl rfl ?_
    show Steps p.tables e below (s₁.setTop (mkF m 19 #[.val (.ref b1), .val (.ref b2), .val (.int (0 : Int32))] [(.ref b2), (.int x0)])) _
    refine XS.iloadN X0.here hx rfl (hb hby d24_19) rfl ?_
    show Steps p.tables e below (s₁.setTop (mkF m 20 #[.val (.ref b1), .val (.ref b2), .val (.int (0 : Int32))] [(.int (0 : Int32)), (.ref b2), (.int x0)])) _
    refine X0.baloadBytes hx (j := (0 : Int32)) (v := (.int x0)) (by rw [e0]; exact Ar5.1) (State.isArrayOf_alike hZ.alike Ar5.2.1) Ar5.2.2 hin5 hat5 (g := (mkF m 20 #[.val (.ref b1), .val (.ref b2), .val (.int (0 : Int32))] [(.int (0 : Int32)), (.ref b2), (.int x0)])) rfl rfl (hb hby d24_20) _ ?_
    show Steps p.tables e below (s₁.setTop (mkF m 21 #[.val (.ref b1), .val (.ref b2), .val (.int (0 : Int32))] [(.int x0), (.int x0)])) _
    refine XS.icmpYes X0.here hx rfl (pc0 := 21) (pc' := 26) rfl (hb hby d24_21) rfl (teq (rfl : x0 = x0)).1 (by decide) (by decide) ?_
    show Steps p.tables e below (s₁.setTop (mkF m 26 #[.val (.ref b1), .val (.ref b2), .val (.int (0 : Int32))] [])) _
    refine XS.iinc X0.here hx rfl (hb hby d24_26) rfl (l' := #[.val (.ref b1), .val (.ref b2), .val (.int (1 : Int32))]) rfl ?_
    show Steps p.tables e below (s₁.setTop (mkF m 29 #[.val (.ref b1), .val (.ref b2), .val (.int (1 : Int32))] [])) _
    refine XS.goto X0.here hx rfl (pc0 := 29) (pc' := 9) rfl (hb hby d24_29) (by decide) (by decide) ?_
    show Steps p.tables e below (s₁.setTop (mkF m 9 #[.val (.ref b1), .val (.ref b2), .val (.int (1 : Int32))] [])) _
    refine XS.iloadN X0.here hx rfl (hb hby d24_9) rfl ?_
    show Steps p.tables e below (s₁.setTop (mkF m 10 #[.val (.ref b1), .val (.ref b2), .val (.int (1 : Int32))] [(.int (1 : Int32))])) _
    refine XS.aloadN X0.here hx rfl (hb hby d24_10) rfl rfl ?_
    show Steps p.tables e below (s₁.setTop (mkF m 11 #[.val (.ref b1), .val (.ref b2), .val (.int (1 : Int32))] [(.ref b1), (.int (1 : Int32))])) _
    refine X0.arraylength hx (by rw [e0]; exact Ar6.1) (State.isArrayOf_alike hZ.alike Ar6.2.1) (g := (mkF m 11 #[.val (.ref b1), .val (.ref b2), .val (.int (1 : Int32))] [(.ref b1), (.int (1 : Int32))])) rfl rfl (hb hby d24_11) _ ?_
    rw [len_of Sz6 Nz6]
    show Steps p.tables e below (s₁.setTop (mkF m 12 #[.val (.ref b1), .val (.ref b2), .val (.int (1 : Int32))] [(.int (3 : Int32)), (.int (1 : Int32))])) _
    refine XS.icmpNo X0.here hx rfl (hb hby d24_12) rfl (tlt (by decide : (1 : Int32) < (3 : Int32))).2.1 ?_
    show Steps p.tables e below (s₁.setTop (mkF m 15 #[.val (.ref b1), .val (.ref b2), .val (.int (1 : Int32))] [])) _
    refine XS.aloadN X0.here hx rfl (hb hby d24_15) rfl rfl ?_
    show Steps p.tables e below (s₁.setTop (mkF m 16 #[.val (.ref b1), .val (.ref b2), .val (.int (1 : Int32))] [(.ref b1)])) _
    refine XS.iloadN X0.here hx rfl (hb hby d24_16) rfl ?_
    show Steps p.tables e below (s₁.setTop (mkF m 17 #[.val (.ref b1), .val (.ref b2), .val (.int (1 : Int32))] [(.int (1 : Int32)), (.ref b1)])) _
    refine X0.baloadBytes hx (j := (1 : Int32)) (v := (.int x1)) (by rw [e0]; exact Ar7.1) (State.isArrayOf_alike hZ.alike Ar7.2.1) Ar7.2.2 hin7 hat7 (g := (mkF m 17 #[.val (.ref b1), .val (.ref b2), .val (.int (1 : Int32))] [(.int (1 : Int32)), (.ref b1)])) rfl rfl (hb hby d24_17) _ ?_
    show Steps p.tables e below (s₁.setTop (mkF m 18 #[.val (.ref b1), .val (.ref b2), .val (.int (1 : Int32))] [(.int x1)])) _
    refine XS.aloadN X0.here hx rfl (hb hby d24_18) rfl rfl ?_
    show Steps p.tables e below (s₁.setTop (mkF m 19 #[.val (.ref b1), .val (.ref b2), .val (.int (1 : Int32))] [(.ref b2), (.int x1)])) _
    refine XS.iloadN X0.here hx rfl (hb hby d24_19) rfl ?_
    show Steps p.tables e below (s₁.setTop (mkF m 20 #[.val (.ref b1), .val (.ref b2), .val (.int (1 : Int32))] [(.int (1 : Int32)), (.ref b2), (.int x1)])) _
    refine X0.baloadBytes hx (j := (1 : Int32)) (v := (.int x1)) (by rw [e0]; exact Ar8.1) (State.isArrayOf_alike hZ.alike Ar8.2.1) Ar8.2.2 hin8 hat8 (g := (mkF m 20 #[.val (.ref b1), .val (.ref b2), .val (.int (1 : Int32))] [(.int (1 : Int32)), (.ref b2), (.int x1)])) rfl rfl (hb hby d24_20) _ ?_
    show Steps p.tables e below (s₁.setTop (mkF m 21 #[.val (.ref b1), .val (.ref b2), .val (.int (1 : Int32))] [(.int x1), (.int x1)])) _
    refine XS.icmpYes X0.here hx rfl (pc0 := 21) (pc' := 26) rfl (hb hby d24_21) rfl (teq (rfl : x1 = x1)).1 (by decide) (by decide) ?_
    show Steps p.tables e below (s₁.setTop (mkF m 26 #[.val (.ref b1), .val (.ref b2), .val (.int (1 : Int32))] [])) _
    refine XS.iinc X0.here hx rfl (hb hby d24_26) rfl (l' := #[.val (.ref b1), .val (.ref b2), .val (.int (2 : Int32))]) rfl ?_
    show Steps p.tables e below (s₁.setTop (mkF m 29 #[.val (.ref b1), .val (.ref b2), .val (.int (2 : Int32))] [])) _
    refine XS.goto X0.here hx rfl (pc0 := 29) (pc' := 9) rfl (hb hby d24_29) (by decide) (by decide) ?_
    show Steps p.tables e below (s₁.setTop (mkF m 9 #[.val (.ref b1), .val (.ref b2), .val (.int (2 : Int32))] [])) _
    refine XS.iloadN X0.here hx rfl (hb hby d24_9) rfl ?_
    show Steps p.tables e below (s₁.setTop (mkF m 10 #[.val (.ref b1), .val (.ref b2), .val (.int (2 : Int32))] [(.int (2 : Int32))])) _
    refine XS.aloadN X0.here hx rfl (hb hby d24_10) rfl rfl ?_
    show Steps p.tables e below (s₁.setTop (mkF m 11 #[.val (.ref b1), .val (.ref b2), .val (.int (2 : Int32))] [(.ref b1), (.int (2 : Int32))])) _
    refine X0.arraylength hx (by rw [e0]; exact Ar9.1) (State.isArrayOf_alike hZ.alike Ar9.2.1) (g := (mkF m 11 #[.val (.ref b1), .val (.ref b2), .val (.int (2 : Int32))] [(.ref b1), (.int (2 : Int32))])) rfl rfl (hb hby d24_11) _ ?_
    rw [len_of Sz9 Nz9]
    show Steps p.tables e below (s₁.setTop (mkF m 12 #[.val (.ref b1), .val (.ref b2), .val (.int (2 : Int32))] [(.int (3 : Int32)), (.int (2 : Int32))])) _
    refine XS.icmpNo X0.here hx rfl (hb hby d24_12) rfl (tlt (by decide : (2 : Int32) < (3 : Int32))).2.1 ?_
    show Steps p.tables e below (s₁.setTop (mkF m 15 #[.val (.ref b1), .val (.ref b2), .val (.int (2 : Int32))] [])) _
    refine XS.aloadN X0.here hx rfl (hb hby d24_15) rfl rfl ?_
    show Steps p.tables e below (s₁.setTop (mkF m 16 #[.val (.ref b1), .val (.ref b2), .val (.int (2 : Int32))] [(.ref b1)])) _
    refine XS.iloadN X0.here hx rfl (hb hby d24_16) rfl ?_
    show Steps p.tables e below (s₁.setTop (mkF m 17 #[.val (.ref b1), .val (.ref b2), .val (.int (2 : Int32))] [(.int (2 : Int32)), (.ref b1)])) _
    refine X0.baloadBytes hx (j := (2 : Int32)) (v := (.int x2)) (by rw [e0]; exact Ar10.1) (State.isArrayOf_alike hZ.alike Ar10.2.1) Ar10.2.2 hin10 hat10 (g := (mkF m 17 #[.val (.ref b1), .val (.ref b2), .val (.int (2 : Int32))] [(.int (2 : Int32)), (.ref b1)])) rfl rfl (hb hby d24_17) _ ?_
    show Steps p.tables e below (s₁.setTop (mkF m 18 #[.val (.ref b1), .val (.ref b2), .val (.int (2 : Int32))] [(.int x2)])) _
    refine XS.aloadN X0.here hx rfl (hb hby d24_18) rfl rfl ?_
    show Steps p.tables e below (s₁.setTop (mkF m 19 #[.val (.ref b1), .val (.ref b2), .val (.int (2 : Int32))] [(.ref b2), (.int x2)])) _
    refine XS.iloadN X0.here hx rfl (hb hby d24_19) rfl ?_
    show Steps p.tables e below (s₁.setTop (mkF m 20 #[.val (.ref b1), .val (.ref b2), .val (.int (2 : Int32))] [(.int (2 : Int32)), (.ref b2), (.int x2)])) _
    refine X0.baloadBytes hx (j := (2 : Int32)) (v := (.int x2)) (by rw [e0]; exact Ar11.1) (State.isArrayOf_alike hZ.alike Ar11.2.1) Ar11.2.2 hin11 hat11 (g := (mkF m 20 #[.val (.ref b1), .val (.ref b2), .val (.int (2 : Int32))] [(.int (2 : Int32)), (.ref b2), (.int x2)])) rfl rfl (hb hby d24_20) _ ?_
    show Steps p.tables e below (s₁.setTop (mkF m 21 #[.val (.ref b1), .val (.ref b2), .val (.int (2 : Int32))] [(.int x2), (.int x2)])) _
    refine XS.icmpYes X0.here hx rfl (pc0 := 21) (pc' := 26) rfl (hb hby d24_21) rfl (teq (rfl : x2 = x2)).1 (by decide) (by decide) ?_
    show Steps p.tables e below (s₁.setTop (mkF m 26 #[.val (.ref b1), .val (.ref b2), .val (.int (2 : Int32))] [])) _
    refine XS.iinc X0.here hx rfl (hb hby d24_26) rfl (l' := #[.val (.ref b1), .val (.ref b2), .val (.int (3 : Int32))]) rfl ?_
    show Steps p.tables e below (s₁.setTop (mkF m 29 #[.val (.ref b1), .val (.ref b2), .val (.int (3 : Int32))] [])) _
    refine XS.goto X0.here hx rfl (pc0 := 29) (pc' := 9) rfl (hb hby d24_29) (by decide) (by decide) ?_
    show Steps p.tables e below (s₁.setTop (mkF m 9 #[.val (.ref b1), .val (.ref b2), .val (.int (3 : Int32))] [])) _
    refine XS.iloadN X0.here hx rfl (hb hby d24_9) rfl ?_
    show Steps p.tables e below (s₁.setTop (mkF m 10 #[.val (.ref b1), .val (.ref b2), .val (.int (3 : Int32))] [(.int (3 : Int32))])) _
    refine XS.aloadN X0.here hx rfl (hb hby d24_10) rfl rfl ?_
    show Steps p.tables e below (s₁.setTop (mkF m 11 #[.val (.ref b1), .val (.ref b2), .val (.int (3 : Int32))] [(.ref b1), (.int (3 : Int32))])) _
    refine X0.arraylength hx (by rw [e0]; exact Ar12.1) (State.isArrayOf_alike hZ.alike Ar12.2.1) (g := (mkF m 11 #[.val (.ref b1), .val (.ref b2), .val (.int (3 : Int32))] [(.ref b1), (.int (3 : Int32))])) rfl rfl (hb hby d24_11) _ ?_
    rw [len_of Sz12 Nz12]
    show Steps p.tables e below (s₁.setTop (mkF m 12 #[.val (.ref b1), .val (.ref b2), .val (.int (3 : Int32))] [(.int (3 : Int32)), (.int (3 : Int32))])) _
    refine XS.icmpYes X0.here hx rfl (pc0 := 12) (pc' := 32) rfl (hb hby d24_12) rfl (flt (by decide : ¬ ((3 : Int32) < (3 : Int32)))).2.1 (by decide) (by decide) ?_
    show Steps p.tables e below (s₁.setTop (mkF m 32 #[.val (.ref b1), .val (.ref b2), .val (.int (3 : Int32))] [])) _
    refine XS.iconst X0.here hx rfl (hb hby d24_32) ?_
    show Steps p.tables e below (s₁.setTop (mkF m 33 #[.val (.ref b1), .val (.ref b2), .val (.int (3 : Int32))] [(.int (1 : Int32))])) _
    exact own_retN X0 hx (t := .boolean) rfl Bd.returns (by simp) (hb hby d24_33) hr
  · show Q_m24_3 Z b1 k1 vs1 b2 k2 vs2 x0 x1 x2 h0 n0 _ s₁.heap _
    exact ⟨rfl, N0, e0⟩
def Q_m24_4 (Z : State) (b1 : Addr) (k1 : ClassId) (vs1 : List Value) (b2 : Addr) (k2 : ClassId) (vs2 : List Value) (x0 : Int32) (x1 : Int32) (x2 : Int32) (x3 : Int32) (h0 : Heap) (n0 : Nat) (v : Option Value) (h : Heap) (L : List Loc) : Prop := v = (some (.int (1 : Int32))) ∧ Fr n0 L ∧ h = h0
theorem ef_m24_4 (m : MethodId) (b1 : Addr) (k1 : ClassId) (vs1 : List Value) (b2 : Addr) (k2 : ClassId) (vs2 : List Value) (x0 : Int32) (x1 : Int32) (x2 : Int32) (x3 : Int32) : entryFrame m #[(.ref b1), (.ref b2)] 3 = mkF m 0 #[.val (.ref b1), .val (.ref b2), .unset] [] := by first | (simp [entryFrame, mkF, argsToLocals, Value.category]; done) | rfl
set_option maxRecDepth 65536 in
set_option maxHeartbeats 40000000 in
theorem m24_4 (l : Launch) (Z : State) (a0 : Array Value) (hw : ∀ d ∈ tables_1, d.before a0 Z = true) (ws : List Jvm.Cond) (b1 : Addr) (k1 : ClassId) (vs1 : List Value) (b2 : Addr) (k2 : ClassId) (vs2 : List Value) (x0 : Int32) (x1 : Int32) (x2 : Int32) (x3 : Int32) (h0 : Heap) (n0 : Nat) (Z0 : n0 ≤ h0.size) (V1 : Arv Z h0 b1 k1 .byte (4 : Int32) vs1 (.int (0 : Int32))) (V2 : Arv Z h0 b2 k2 .byte (4 : Int32) vs2 (.int (0 : Int32))) (hv1_0 : vs1.getD (0 : Int32).toNatClampNeg (.int (0 : Int32)) = .int x0) (hv2_0 : vs2.getD (0 : Int32).toNatClampNeg (.int (0 : Int32)) = .int x0) (hv1_1 : vs1.getD (1 : Int32).toNatClampNeg (.int (0 : Int32)) = .int x1) (hv2_1 : vs2.getD (1 : Int32).toNatClampNeg (.int (0 : Int32)) = .int x1) (hv1_2 : vs1.getD (2 : Int32).toNatClampNeg (.int (0 : Int32)) = .int x2) (hv2_2 : vs2.getD (2 : Int32).toNatClampNeg (.int (0 : Int32)) = .int x2) (hv1_3 : vs1.getD (3 : Int32).toNatClampNeg (.int (0 : Int32)) = .int x3) (hv2_3 : vs2.getD (3 : Int32).toNatClampNeg (.int (0 : Int32)) = .int x3) :
    MetFree l (⟨"java/lang/StringLatin1", "equals", "([B[B)Z"⟩ : MethodName) (head1 (Jvm.Cond.code (⟨"java/lang/StringLatin1", "equals", "([B[B)Z"⟩ : MethodName) jdk_43_method_13_code 3 (some .boolean) :: ws) ({ frames := 0, cells := 0, slots := 0, locals := 0 } : Room)) (fun ar_ U => ar_ = #[(.ref b1), (.ref b2)] ∧ Z.Warmed39 U.vm ∧ U.heap = h0) (fun _ _ _ _ _ => True) (fun _ U o U' => ∃ v L, o = .returned v ∧ Q_m24_4 Z b1 k1 vs1 b2 k2 vs2 x0 x1 x2 x3 h0 n0 v U'.heap L ∧ FrameEnd U o U' L ({ frames := 0, cells := 0, slots := 0, locals := 0 } : Room).cells ({ frames := 0, cells := 0, slots := 0, locals := 0 } : Room).slots) := by
  refine MetFree.of_bodySF (plainFor_of_name pnx_java_lang_StringLatin1) hisR ?_
  intro p e s m args below meth c s₁ Bd hml0 hP hK
  obtain ⟨rfl, hZ, hh⟩ := hP
  have hx := Bd.exec
  have hby := Bd.bytes
  have hml : c.maxLocals = 3 := hml0
  have hown : s.vm.findClass "java/lang/StringLatin1" = some m.cls := findClass_of_methodNamed Bd.named
  have hnm := (name_of_methodNamed Bd.named Bd.method).1
  have X0 : Stand p l e ({ frames := 0, cells := 0, slots := 0, locals := 0 } : Room) s m #[(.ref b1), (.ref b2)] below meth c s₁ [] 0 0 := Stand.of_body Bd
  have e0 : s₁.heap = h0 := by rw [← hh, Bd.state]; rfl
  have N0 := Fr.nil n0
  have pre0 : ∀ tq_, Steps p.tables e below (s₁.setTop (mkF m 0 #[.val (.ref b1), .val (.ref b2), .unset] [])) tq_ → Steps p.tables e below (s₁.setTop (entryFrame m #[(.ref b1), (.ref b2)] 3)) tq_ := fun tq_ kt_ => castTop (ef_m24_4 m b1 k1 vs1 b2 k2 vs2 x0 x1 x2 x3 ) kt_
  obtain ⟨c1, Ar1, -, Sz1, Nz1, -⟩ := id V1
  obtain ⟨c2, Ar2, -, Sz2, Nz2, -⟩ := id V2
  obtain ⟨c3, Ar3, -, Sz3, Nz3, -⟩ := id V1
  obtain ⟨c4, Ar4, -, Sz4, -, H4, -⟩ := id V1
  have hin4 := inb_of Sz4 ⟨(by decide : ¬ ((0 : Int32) < (0 : Int32))), ((by decide) : (0 : Int32) < (4 : Int32))⟩
  have hat4 := H4 (0 : Int32).toNatClampNeg (Nat.lt_of_not_le fun q => hin4 (Or.inr q))
  rw [hv1_0] at hat4
  obtain ⟨c5, Ar5, -, Sz5, -, H5, -⟩ := id V2
  have hin5 := inb_of Sz5 ⟨(by decide : ¬ ((0 : Int32) < (0 : Int32))), ((by decide) : (0 : Int32) < (4 : Int32))⟩
  have hat5 := H5 (0 : Int32).toNatClampNeg (Nat.lt_of_not_le fun q => hin5 (Or.inr q))
  rw [hv2_0] at hat5
  obtain ⟨c6, Ar6, -, Sz6, Nz6, -⟩ := id V1
  obtain ⟨c7, Ar7, -, Sz7, -, H7, -⟩ := id V1
  have hin7 := inb_of Sz7 ⟨(by decide : ¬ ((1 : Int32) < (0 : Int32))), ((by decide) : (1 : Int32) < (4 : Int32))⟩
  have hat7 := H7 (1 : Int32).toNatClampNeg (Nat.lt_of_not_le fun q => hin7 (Or.inr q))
  rw [hv1_1] at hat7
  obtain ⟨c8, Ar8, -, Sz8, -, H8, -⟩ := id V2
  have hin8 := inb_of Sz8 ⟨(by decide : ¬ ((1 : Int32) < (0 : Int32))), ((by decide) : (1 : Int32) < (4 : Int32))⟩
  have hat8 := H8 (1 : Int32).toNatClampNeg (Nat.lt_of_not_le fun q => hin8 (Or.inr q))
  rw [hv2_1] at hat8
  obtain ⟨c9, Ar9, -, Sz9, Nz9, -⟩ := id V1
  obtain ⟨c10, Ar10, -, Sz10, -, H10, -⟩ := id V1
  have hin10 := inb_of Sz10 ⟨(by decide : ¬ ((2 : Int32) < (0 : Int32))), ((by decide) : (2 : Int32) < (4 : Int32))⟩
  have hat10 := H10 (2 : Int32).toNatClampNeg (Nat.lt_of_not_le fun q => hin10 (Or.inr q))
  rw [hv1_2] at hat10
  obtain ⟨c11, Ar11, -, Sz11, -, H11, -⟩ := id V2
  have hin11 := inb_of Sz11 ⟨(by decide : ¬ ((2 : Int32) < (0 : Int32))), ((by decide) : (2 : Int32) < (4 : Int32))⟩
  have hat11 := H11 (2 : Int32).toNatClampNeg (Nat.lt_of_not_le fun q => hin11 (Or.inr q))
  rw [hv2_2] at hat11
  obtain ⟨c12, Ar12, -, Sz12, Nz12, -⟩ := id V1
  obtain ⟨c13, Ar13, -, Sz13, -, H13, -⟩ := id V1
  have hin13 := inb_of Sz13 ⟨(by decide : ¬ ((3 : Int32) < (0 : Int32))), ((by decide) : (3 : Int32) < (4 : Int32))⟩
  have hat13 := H13 (3 : Int32).toNatClampNeg (Nat.lt_of_not_le fun q => hin13 (Or.inr q))
  rw [hv1_3] at hat13
  obtain ⟨c14, Ar14, -, Sz14, -, H14, -⟩ := id V2
  have hin14 := inb_of Sz14 ⟨(by decide : ¬ ((3 : Int32) < (0 : Int32))), ((by decide) : (3 : Int32) < (4 : Int32))⟩
  have hat14 := H14 (3 : Int32).toNatClampNeg (Nat.lt_of_not_le fun q => hin14 (Or.inr q))
  rw [hv2_3] at hat14
  obtain ⟨c15, Ar15, -, Sz15, Nz15, -⟩ := id V1
  obtain ⟨fs, hr, hrun, hended, hW, hsame⟩ := X0.leave (v := some (.int (1 : Int32))) (fun h => by rw [Bd.returns] at h; cases h)
  refine ⟨_, _, pre0 _ ?_, hrun, hended, _, _, rfl, ?_, ⟨_, rfl⟩, hW, hsame.mono (nle rfl) (nle rfl)⟩
  · show Steps p.tables e below (s₁.setTop (mkF m 0 #[.val (.ref b1), .val (.ref b2), .unset] [])) _
    refine XS.aloadN X0.here hx rfl (hb hby d24_0) rfl rfl ?_
    show Steps p.tables e below (s₁.setTop (mkF m 1 #[.val (.ref b1), .val (.ref b2), .unset] [(.ref b1)])) _
    refine X0.arraylength hx (by rw [e0]; exact Ar1.1) (State.isArrayOf_alike hZ.alike Ar1.2.1) (g := (mkF m 1 #[.val (.ref b1), .val (.ref b2), .unset] [(.ref b1)])) rfl rfl (hb hby d24_1) _ ?_
    rw [len_of Sz1 Nz1]
    show Steps p.tables e below (s₁.setTop (mkF m 2 #[.val (.ref b1), .val (.ref b2), .unset] [(.int (4 : Int32))])) _
    refine XS.aloadN X0.here hx rfl (hb hby d24_2) rfl rfl ?_
    show Steps p.tables e below (s₁.setTop (mkF m 3 #[.val (.ref b1), .val (.ref b2), .unset] [(.ref b2), (.int (4 : Int32))])) _
    refine X0.arraylength hx (by rw [e0]; exact Ar2.1) (State.isArrayOf_alike hZ.alike Ar2.2.1) (g := (mkF m 3 #[.val (.ref b1), .val (.ref b2), .unset] [(.ref b2), (.int (4 : Int32))])) rfl rfl (hb hby d24_3) _ ?_
    rw [len_of Sz2 Nz2]
    show Steps p.tables e below (s₁.setTop (mkF m 4 #[.val (.ref b1), .val (.ref b2), .unset] [(.int (4 : Int32)), (.int (4 : Int32))])) _
    refine XS.icmpNo X0.here hx rfl (hb hby d24_4) rfl (teq (by decide : (4 : Int32) = (4 : Int32))).2 ?_
    show Steps p.tables e below (s₁.setTop (mkF m 7 #[.val (.ref b1), .val (.ref b2), .unset] [])) _
    refine XS.iconst X0.here hx rfl (hb hby d24_7) ?_
    show Steps p.tables e below (s₁.setTop (mkF m 8 #[.val (.ref b1), .val (.ref b2), .unset] [(.int (0 : Int32))])) _
    refine XS.istoreN X0.here hx rfl (hb hby d24_8) rfl (l' := #[.val (.ref b1), .val (.ref b2), .val (.int (0 : Int32))]) rfl ?_
    show Steps p.tables e below (s₁.setTop (mkF m 9 #[.val (.ref b1), .val (.ref b2), .val (.int (0 : Int32))] [])) _
    refine XS.iloadN X0.here hx rfl (hb hby d24_9) rfl ?_
    show Steps p.tables e below (s₁.setTop (mkF m 10 #[.val (.ref b1), .val (.ref b2), .val (.int (0 : Int32))] [(.int (0 : Int32))])) _
    refine XS.aloadN X0.here hx rfl (hb hby d24_10) rfl rfl ?_
    show Steps p.tables e below (s₁.setTop (mkF m 11 #[.val (.ref b1), .val (.ref b2), .val (.int (0 : Int32))] [(.ref b1), (.int (0 : Int32))])) _
    refine X0.arraylength hx (by rw [e0]; exact Ar3.1) (State.isArrayOf_alike hZ.alike Ar3.2.1) (g := (mkF m 11 #[.val (.ref b1), .val (.ref b2), .val (.int (0 : Int32))] [(.ref b1), (.int (0 : Int32))])) rfl rfl (hb hby d24_11) _ ?_
    rw [len_of Sz3 Nz3]
    show Steps p.tables e below (s₁.setTop (mkF m 12 #[.val (.ref b1), .val (.ref b2), .val (.int (0 : Int32))] [(.int (4 : Int32)), (.int (0 : Int32))])) _
    refine XS.icmpNo X0.here hx rfl (hb hby d24_12) rfl (tlt (by decide : (0 : Int32) < (4 : Int32))).2.1 ?_
    show Steps p.tables e below (s₁.setTop (mkF m 15 #[.val (.ref b1), .val (.ref b2), .val (.int (0 : Int32))] [])) _
    refine XS.aloadN X0.here hx rfl (hb hby d24_15) rfl rfl ?_
    show Steps p.tables e below (s₁.setTop (mkF m 16 #[.val (.ref b1), .val (.ref b2), .val (.int (0 : Int32))] [(.ref b1)])) _
    refine XS.iloadN X0.here hx rfl (hb hby d24_16) rfl ?_
    show Steps p.tables e below (s₁.setTop (mkF m 17 #[.val (.ref b1), .val (.ref b2), .val (.int (0 : Int32))] [(.int (0 : Int32)), (.ref b1)])) _
    refine X0.baloadBytes hx (j := (0 : Int32)) (v := (.int x0)) (by rw [e0]; exact Ar4.1) (State.isArrayOf_alike hZ.alike Ar4.2.1) Ar4.2.2 hin4 hat4 (g := (mkF m 17 #[.val (.ref b1), .val (.ref b2), .val (.int (0 : Int32))] [(.int (0 : Int32)), (.ref b1)])) rfl rfl (hb hby d24_17) _ ?_
    show Steps p.tables e below (s₁.setTop (mkF m 18 #[.val (.ref b1), .val (.ref b2), .val (.int (0 : Int32))] [(.int x0)])) _
    refine XS.aloadN X0.here hx rfl (hb hby d24_18) rfl rfl ?_
    show Steps p.tables e below (s₁.setTop (mkF m 19 #[.val (.ref b1), .val (.ref b2), .val (.int (0 : Int32))] [(.ref b2), (.int x0)])) _
    refine XS.iloadN X0.here hx rfl (hb hby d24_19) rfl ?_
    show Steps p.tables e below (s₁.setTop (mkF m 20 #[.val (.ref b1), .val (.ref b2), .val (.int (0 : Int32))] [(.int (0 : Int32)), (.ref b2), (.int x0)])) _
    refine X0.baloadBytes hx (j := (0 : Int32)) (v := (.int x0)) (by rw [e0]; exact Ar5.1) (State.isArrayOf_alike hZ.alike Ar5.2.1) Ar5.2.2 hin5 hat5 (g := (mkF m 20 #[.val (.ref b1), .val (.ref b2), .val (.int (0 : Int32))] [(.int (0 : Int32)), (.ref b2), (.int x0)])) rfl rfl (hb hby d24_20) _ ?_
    show Steps p.tables e below (s₁.setTop (mkF m 21 #[.val (.ref b1), .val (.ref b2), .val (.int (0 : Int32))] [(.int x0), (.int x0)])) _
    refine XS.icmpYes X0.here hx rfl (pc0 := 21) (pc' := 26) rfl (hb hby d24_21) rfl (teq (rfl : x0 = x0)).1 (by decide) (by decide) ?_
    show Steps p.tables e below (s₁.setTop (mkF m 26 #[.val (.ref b1), .val (.ref b2), .val (.int (0 : Int32))] [])) _
    refine XS.iinc X0.here hx rfl (hb hby d24_26) rfl (l' := #[.val (.ref b1), .val (.ref b2), .val (.int (1 : Int32))]) rfl ?_
    show Steps p.tables e below (s₁.setTop (mkF m 29 #[.val (.ref b1), .val (.ref b2), .val (.int (1 : Int32))] [])) _
    refine XS.goto X0.here hx rfl (pc0 := 29) (pc' := 9) rfl (hb hby d24_29) (by decide) (by decide) ?_
    show Steps p.tables e below (s₁.setTop (mkF m 9 #[.val (.ref b1), .val (.ref b2), .val (.int (1 : Int32))] [])) _
    refine XS.iloadN X0.here hx rfl (hb hby d24_9) rfl ?_
    show Steps p.tables e below (s₁.setTop (mkF m 10 #[.val (.ref b1), .val (.ref b2), .val (.int (1 : Int32))] [(.int (1 : Int32))])) _
    refine XS.aloadN X0.here hx rfl (hb hby d24_10) rfl rfl ?_
    show Steps p.tables e below (s₁.setTop (mkF m 11 #[.val (.ref b1), .val (.ref b2), .val (.int (1 : Int32))] [(.ref b1), (.int (1 : Int32))])) _
    refine X0.arraylength hx (by rw [e0]; exact Ar6.1) (State.isArrayOf_alike hZ.alike Ar6.2.1) (g := (mkF m 11 #[.val (.ref b1), .val (.ref b2), .val (.int (1 : Int32))] [(.ref b1), (.int (1 : Int32))])) rfl rfl (hb hby d24_11) _ ?_
    rw [len_of Sz6 Nz6]
    show Steps p.tables e below (s₁.setTop (mkF m 12 #[.val (.ref b1), .val (.ref b2), .val (.int (1 : Int32))] [(.int (4 : Int32)), (.int (1 : Int32))])) _
    refine XS.icmpNo X0.here hx rfl (hb hby d24_12) rfl (tlt (by decide : (1 : Int32) < (4 : Int32))).2.1 ?_
    show Steps p.tables e below (s₁.setTop (mkF m 15 #[.val (.ref b1), .val (.ref b2), .val (.int (1 : Int32))] [])) _
    refine XS.aloadN X0.here hx rfl (hb hby d24_15) rfl rfl ?_
    show Steps p.tables e below (s₁.setTop (mkF m 16 #[.val (.ref b1), .val (.ref b2), .val (.int (1 : Int32))] [(.ref b1)])) _
    refine XS.iloadN X0.here hx rfl (hb hby d24_16) rfl ?_
    show Steps p.tables e below (s₁.setTop (mkF m 17 #[.val (.ref b1), .val (.ref b2), .val (.int (1 : Int32))] [(.int (1 : Int32)), (.ref b1)])) _
    refine X0.baloadBytes hx (j := (1 : Int32)) (v := (.int x1)) (by rw [e0]; exact Ar7.1) (State.isArrayOf_alike hZ.alike Ar7.2.1) Ar7.2.2 hin7 hat7 (g := (mkF m 17 #[.val (.ref b1), .val (.ref b2), .val (.int (1 : Int32))] [(.int (1 : Int32)), (.ref b1)])) rfl rfl (hb hby d24_17) _ ?_
    show Steps p.tables e below (s₁.setTop (mkF m 18 #[.val (.ref b1), .val (.ref b2), .val (.int (1 : Int32))] [(.int x1)])) _
    refine XS.aloadN X0.here hx rfl (hb hby d24_18) rfl rfl ?_
    show Steps p.tables e below (s₁.setTop (mkF m 19 #[.val (.ref b1), .val (.ref b2), .val (.int (1 : Int32))] [(.ref b2), (.int x1)])) _
    refine XS.iloadN X0.here hx rfl (hb hby d24_19) rfl ?_
    show Steps p.tables e below (s₁.setTop (mkF m 20 #[.val (.ref b1), .val (.ref b2), .val (.int (1 : Int32))] [(.int (1 : Int32)), (.ref b2), (.int x1)])) _
    refine X0.baloadBytes hx (j := (1 : Int32)) (v := (.int x1)) (by rw [e0]; exact Ar8.1) (State.isArrayOf_alike hZ.alike Ar8.2.1) Ar8.2.2 hin8 hat8 (g := (mkF m 20 #[.val (.ref b1), .val (.ref b2), .val (.int (1 : Int32))] [(.int (1 : Int32)), (.ref b2), (.int x1)])) rfl rfl (hb hby d24_20) _ ?_
    show Steps p.tables e below (s₁.setTop (mkF m 21 #[.val (.ref b1), .val (.ref b2), .val (.int (1 : Int32))] [(.int x1), (.int x1)])) _
    refine XS.icmpYes X0.here hx rfl (pc0 := 21) (pc' := 26) rfl (hb hby d24_21) rfl (teq (rfl : x1 = x1)).1 (by decide) (by decide) ?_
    show Steps p.tables e below (s₁.setTop (mkF m 26 #[.val (.ref b1), .val (.ref b2), .val (.int (1 : Int32))] [])) _
    refine XS.iinc X0.here hx rfl (hb hby d24_26) rfl (l' := #[.val (.ref b1), .val (.ref b2), .val (.int (2 : Int32))]) rfl ?_
    show Steps p.tables e below (s₁.setTop (mkF m 29 #[.val (.ref b1), .val (.ref b2), .val (.int (2 : Int32))] [])) _
    refine XS.goto X0.here hx rfl (pc0 := 29) (pc' := 9) rfl (hb hby d24_29) (by decide) (by decide) ?_
    show Steps p.tables e below (s₁.setTop (mkF m 9 #[.val (.ref b1), .val (.ref b2), .val (.int (2 : Int32))] [])) _
    refine XS.iloadN X0.here hx rfl (hb hby d24_9) rfl ?_
    show Steps p.tables e below (s₁.setTop (mkF m 10 #[.val (.ref b1), .val (.ref b2), .val (.int (2 : Int32))] [(.int (2 : Int32))])) _
    refine XS.aloadN X0.here hx rfl (hb hby d24_10) rfl rfl ?_
    show Steps p.tables e below (s₁.setTop (mkF m 11 #[.val (.ref b1), .val (.ref b2), .val (.int (2 : Int32))] [(.ref b1), (.int (2 : Int32))])) _
    refine X0.arraylength hx (by rw [e0]; exact Ar9.1) (State.isArrayOf_alike hZ.alike Ar9.2.1) (g := (mkF m 11 #[.val (.ref b1), .val (.ref b2), .val (.int (2 : Int32))] [(.ref b1), (.int (2 : Int32))])) rfl rfl (hb hby d24_11) _ ?_
    rw [len_of Sz9 Nz9]
    show Steps p.tables e below (s₁.setTop (mkF m 12 #[.val (.ref b1), .val (.ref b2), .val (.int (2 : Int32))] [(.int (4 : Int32)), (.int (2 : Int32))])) _
    refine XS.icmpNo X0.here hx rfl (hb hby d24_12) rfl (tlt (by decide : (2 : Int32) < (4 : Int32))).2.1 ?_
    show Steps p.tables e below (s₁.setTop (mkF m 15 #[.val (.ref b1), .val (.ref b2), .val (.int (2 : Int32))] [])) _
    refine XS.aloadN X0.here hx rfl (hb hby d24_15) rfl rfl ?_
    show Steps p.tables e below (s₁.setTop (mkF m 16 #[.val (.ref b1), .val (.ref b2), .val (.int (2 : Int32))] [(.ref b1)])) _
    refine XS.iloadN X0.here hx rfl (hb hby d24_16) rfl ?_
    show Steps p.tables e below (s₁.setTop (mkF m 17 #[.val (.ref b1), .val (.ref b2), .val (.int (2 : Int32))] [(.int (2 : Int32)), (.ref b1)])) _
    refine X0.baloadBytes hx (j := (2 : Int32)) (v := (.int x2)) (by rw [e0]; exact Ar10.1) (State.isArrayOf_alike hZ.alike Ar10.2.1) Ar10.2.2 hin10 hat10 (g := (mkF m 17 #[.val (.ref b1), .val (.ref b2), .val (.int (2 : Int32))] [(.int (2 : Int32)), (.ref b1)])) rfl rfl (hb hby d24_17) _ ?_
    show Steps p.tables e below (s₁.setTop (mkF m 18 #[.val (.ref b1), .val (.ref b2), .val (.int (2 : Int32))] [(.int x2)])) _
    refine XS.aloadN X0.here hx rfl (hb hby d24_18) rfl rfl ?_
    show Steps p.tables e below (s₁.setTop (mkF m 19 #[.val (.ref b1), .val (.ref b2), .val (.int (2 : Int32))] [(.ref b2), (.int x2)])) _
    refine XS.iloadN X0.here hx rfl (hb hby d24_19) rfl ?_
    show Steps p.tables e below (s₁.setTop (mkF m 20 #[.val (.ref b1), .val (.ref b2), .val (.int (2 : Int32))] [(.int (2 : Int32)), (.ref b2), (.int x2)])) _
    refine X0.baloadBytes hx (j := (2 : Int32)) (v := (.int x2)) (by rw [e0]; exact Ar11.1) (State.isArrayOf_alike hZ.alike Ar11.2.1) Ar11.2.2 hin11 hat11 (g := (mkF m 20 #[.val (.ref b1), .val (.ref b2), .val (.int (2 : Int32))] [(.int (2 : Int32)), (.ref b2), (.int x2)])) rfl rfl (hb hby d24_20) _ ?_
    show Steps p.tables e below (s₁.setTop (mkF m 21 #[.val (.ref b1), .val (.ref b2), .val (.int (2 : Int32))] [(.int x2), (.int x2)])) _
    refine XS.icmpYes X0.here hx rfl (pc0 := 21) (pc' := 26) rfl (hb hby d24_21) rfl (teq (rfl : x2 = x2)).1 (by decide) (by decide) ?_
    show Steps p.tables e below (s₁.setTop (mkF m 26 #[.val (.ref b1), .val (.ref b2), .val (.int (2 : Int32))] [])) _
    refine XS.iinc X0.here hx rfl (hb hby d24_26) rfl (l' := #[.val (.ref b1), .val (.ref b2), .val (.int (3 : Int32))]) rfl ?_
    show Steps p.tables e below (s₁.setTop (mkF m 29 #[.val (.ref b1), .val (.ref b2), .val (.int (3 : Int32))] [])) _
    refine XS.goto X0.here hx rfl (pc0 := 29) (pc' := 9) rfl (hb hby d24_29) (by decide) (by decide) ?_
    show Steps p.tables e below (s₁.setTop (mkF m 9 #[.val (.ref b1), .val (.ref b2), .val (.int (3 : Int32))] [])) _
    refine XS.iloadN X0.here hx rfl (hb hby d24_9) rfl ?_
    show Steps p.tables e below (s₁.setTop (mkF m 10 #[.val (.ref b1), .val (.ref b2), .val (.int (3 : Int32))] [(.int (3 : Int32))])) _
    refine XS.aloadN X0.here hx rfl (hb hby d24_10) rfl rfl ?_
    show Steps p.tables e below (s₁.setTop (mkF m 11 #[.val (.ref b1), .val (.ref b2), .val (.int (3 : Int32))] [(.ref b1), (.int (3 : Int32))])) _
    refine X0.arraylength hx (by rw [e0]; exact Ar12.1) (State.isArrayOf_alike hZ.alike Ar12.2.1) (g := (mkF m 11 #[.val (.ref b1), .val (.ref b2), .val (.int (3 : Int32))] [(.ref b1), (.int (3 : Int32))])) rfl rfl (hb hby d24_11) _ ?_
    rw [len_of Sz12 Nz12]
    show Steps p.tables e below (s₁.setTop (mkF m 12 #[.val (.ref b1), .val (.ref b2), .val (.int (3 : Int32))] [(.int (4 : Int32)), (.int (3 : Int32))])) _
    refine XS.icmpNo X0.here hx rfl (hb hby d24_12) rfl (tlt (by decide : (3 : Int32) < (4 : Int32))).2.1 ?_
    show Steps p.tables e below (s₁.setTop (mkF m 15 #[.val (.ref b1), .val (.ref b2), .val (.int (3 : Int32))] [])) _
    refine XS.aloadN X0.here hx rfl (hb hby d24_15) rfl rfl ?_
    show Steps p.tables e below (s₁.setTop (mkF m 16 #[.val (.ref b1), .val (.ref b2), .val (.int (3 : Int32))] [(.ref b1)])) _
    refine XS.iloadN X0.here hx rfl (hb hby d24_16) rfl ?_
    show Steps p.tables e below (s₁.setTop (mkF m 17 #[.val (.ref b1), .val (.ref b2), .val (.int (3 : Int32))] [(.int (3 : Int32)), (.ref b1)])) _
    refine X0.baloadBytes hx (j := (3 : Int32)) (v := (.int x3)) (by rw [e0]; exact Ar13.1) (State.isArrayOf_alike hZ.alike Ar13.2.1) Ar13.2.2 hin13 hat13 (g := (mkF m 17 #[.val (.ref b1), .val (.ref b2), .val (.int (3 : Int32))] [(.int (3 : Int32)), (.ref b1)])) rfl rfl (hb hby d24_17) _ ?_
    show Steps p.tables e below (s₁.setTop (mkF m 18 #[.val (.ref b1), .val (.ref b2), .val (.int (3 : Int32))] [(.int x3)])) _
    refine XS.aloadN X0.here hx rfl (hb hby d24_18) rfl rfl ?_
    show Steps p.tables e below (s₁.setTop (mkF m 19 #[.val (.ref b1), .val (.ref b2), .val (.int (3 : Int32))] [(.ref b2), (.int x3)])) _
    refine XS.iloadN X0.here hx rfl (hb hby d24_19) rfl ?_
    show Steps p.tables e below (s₁.setTop (mkF m 20 #[.val (.ref b1), .val (.ref b2), .val (.int (3 : Int32))] [(.int (3 : Int32)), (.ref b2), (.int x3)])) _
    refine X0.baloadBytes hx (j := (3 : Int32)) (v := (.int x3)) (by rw [e0]; exact Ar14.1) (State.isArrayOf_alike hZ.alike Ar14.2.1) Ar14.2.2 hin14 hat14 (g := (mkF m 20 #[.val (.ref b1), .val (.ref b2), .val (.int (3 : Int32))] [(.int (3 : Int32)), (.ref b2), (.int x3)])) rfl rfl (hb hby d24_20) _ ?_
    show Steps p.tables e below (s₁.setTop (mkF m 21 #[.val (.ref b1), .val (.ref b2), .val (.int (3 : Int32))] [(.int x3), (.int x3)])) _
    refine XS.icmpYes X0.here hx rfl (pc0 := 21) (pc' := 26) rfl (hb hby d24_21) rfl (teq (rfl : x3 = x3)).1 (by decide) (by decide) ?_
    show Steps p.tables e below (s₁.setTop (mkF m 26 #[.val (.ref b1), .val (.ref b2), .val (.int (3 : Int32))] [])) _
    refine XS.iinc X0.here hx rfl (hb hby d24_26) rfl (l' := #[.val (.ref b1), .val (.ref b2), .val (.int (4 : Int32))]) rfl ?_
    show Steps p.tables e below (s₁.setTop (mkF m 29 #[.val (.ref b1), .val (.ref b2), .val (.int (4 : Int32))] [])) _
    refine XS.goto X0.here hx rfl (pc0 := 29) (pc' := 9) rfl (hb hby d24_29) (by decide) (by decide) ?_
    show Steps p.tables e below (s₁.setTop (mkF m 9 #[.val (.ref b1), .val (.ref b2), .val (.int (4 : Int32))] [])) _
    refine XS.iloadN X0.here hx rfl (hb hby d24_9) rfl ?_
    show Steps p.tables e below (s₁.setTop (mkF m 10 #[.val (.ref b1), .val (.ref b2), .val (.int (4 : Int32))] [(.int (4 : Int32))])) _
    refine XS.aloadN X0.here hx rfl (hb hby d24_10) rfl rfl ?_
    show Steps p.tables e below (s₁.setTop (mkF m 11 #[.val (.ref b1), .val (.ref b2), .val (.int (4 : Int32))] [(.ref b1), (.int (4 : Int32))])) _
    refine X0.arraylength hx (by rw [e0]; exact Ar15.1) (State.isArrayOf_alike hZ.alike Ar15.2.1) (g := (mkF m 11 #[.val (.ref b1), .val (.ref b2), .val (.int (4 : Int32))] [(.ref b1), (.int (4 : Int32))])) rfl rfl (hb hby d24_11) _ ?_
    rw [len_of Sz15 Nz15]
    show Steps p.tables e below (s₁.setTop (mkF m 12 #[.val (.ref b1), .val (.ref b2), .val (.int (4 : Int32))] [(.int (4 : Int32)), (.int (4 : Int32))])) _
    refine XS.icmpYes X0.here hx rfl (pc0 := 12) (pc' := 32) rfl (hb hby d24_12) rfl (flt (by decide : ¬ ((4 : Int32) < (4 : Int32)))).2.1 (by decide) (by decide) ?_
    show Steps p.tables e below (s₁.setTop (mkF m 32 #[.val (.ref b1), .val (.ref b2), .val (.int (4 : Int32))] [])) _
    refine XS.iconst X0.here hx rfl (hb hby d24_32) ?_
    show Steps p.tables e below (s₁.setTop (mkF m 33 #[.val (.ref b1), .val (.ref b2), .val (.int (4 : Int32))] [(.int (1 : Int32))])) _
    exact own_retN X0 hx (t := .boolean) rfl Bd.returns (by simp) (hb hby d24_33) hr
  · show Q_m24_4 Z b1 k1 vs1 b2 k2 vs2 x0 x1 x2 x3 h0 n0 _ s₁.heap _
    exact ⟨rfl, N0, e0⟩
def own_EQ (z : Int32) (vs1 vs2 : List Value) (r : Int32) : Prop := (r = 0 ∧ (0 : Int32) < z ∧ ∃ x y : Int32, vs1.getD (0 : Int32).toNatClampNeg (.int (0 : Int32)) = .int x ∧ vs2.getD (0 : Int32).toNatClampNeg (.int (0 : Int32)) = .int y ∧ ¬ (x = y)) ∨ (r = 1 ∧ (z = 1 ∨ z = 2 ∨ z = 3 ∨ z = 4) ∧ ∀ j : Int32, ¬ (j < (0 : Int32)) → j < z → ∃ x : Int32, vs1.getD j.toNatClampNeg (.int (0 : Int32)) = .int x ∧ vs2.getD j.toNatClampNeg (.int (0 : Int32)) = .int x)
theorem own_m24 (l : Launch) (Z : State) (a0 : Array Value) (hw : ∀ d ∈ tables_1, d.before a0 Z = true) (ws : List Jvm.Cond) (b1 : Addr) (k1 : ClassId) (vs1 : List Value) (b2 : Addr) (k2 : ClassId) (vs2 : List Value) (z : Int32) (r : Int32) (h0 : Heap) (n0 : Nat) (Z0 : n0 ≤ h0.size) (V1 : Arv Z h0 b1 k1 .byte z vs1 (.int (0 : Int32))) (V2 : Arv Z h0 b2 k2 .byte z vs2 (.int (0 : Int32))) (hq : own_EQ z vs1 vs2 r) :
    MetFree l (⟨"java/lang/StringLatin1", "equals", "([B[B)Z"⟩ : MethodName) (head1 (Jvm.Cond.code (⟨"java/lang/StringLatin1", "equals", "([B[B)Z"⟩ : MethodName) jdk_43_method_13_code 3 (some .boolean) :: ws) ({ frames := 0, cells := 0, slots := 0, locals := 0 } : Room)) (fun ar_ U => ar_ = #[(.ref b1), (.ref b2)] ∧ Z.Warmed39 U.vm ∧ U.heap = h0) (fun _ _ _ _ _ => True) (fun _ U o U' => ∃ v L, o = .returned v ∧ QV (some (.int r)) h0 n0 v U'.heap L ∧ FrameEnd U o U' L ({ frames := 0, cells := 0, slots := 0, locals := 0 } : Room).cells ({ frames := 0, cells := 0, slots := 0, locals := 0 } : Room).slots) := by
  rcases hq with ⟨rfl, hz, x, y, hx, hy, hne⟩ | ⟨rfl, rfl | rfl | rfl | rfl, H⟩
  · exact m24n l Z a0 hw ws b1 k1 vs1 b2 k2 vs2 z x y h0 n0 Z0 V1 V2 hz hx hy hne
  · obtain ⟨x0, u0, w0⟩ := H (0 : Int32) (by decide) (by decide)
    exact m24_1 l Z a0 hw ws b1 k1 vs1 b2 k2 vs2 x0 h0 n0 Z0 V1 V2 u0 w0
  · obtain ⟨x0, u0, w0⟩ := H (0 : Int32) (by decide) (by decide)
    obtain ⟨x1, u1, w1⟩ := H (1 : Int32) (by decide) (by decide)
    exact m24_2 l Z a0 hw ws b1 k1 vs1 b2 k2 vs2 x0 x1 h0 n0 Z0 V1 V2 u0 w0 u1 w1
  · obtain ⟨x0, u0, w0⟩ := H (0 : Int32) (by decide) (by decide)
    obtain ⟨x1, u1, w1⟩ := H (1 : Int32) (by decide) (by decide)
    obtain ⟨x2, u2, w2⟩ := H (2 : Int32) (by decide) (by decide)
    exact m24_3 l Z a0 hw ws b1 k1 vs1 b2 k2 vs2 x0 x1 x2 h0 n0 Z0 V1 V2 u0 w0 u1 w1 u2 w2
  · obtain ⟨x0, u0, w0⟩ := H (0 : Int32) (by decide) (by decide)
    obtain ⟨x1, u1, w1⟩ := H (1 : Int32) (by decide) (by decide)
    obtain ⟨x2, u2, w2⟩ := H (2 : Int32) (by decide) (by decide)
    obtain ⟨x3, u3, w3⟩ := H (3 : Int32) (by decide) (by decide)
    exact m24_4 l Z a0 hw ws b1 k1 vs1 b2 k2 vs2 x0 x1 x2 x3 h0 n0 Z0 V1 V2 u0 w0 u1 w1 u2 w2 u3 w3
theorem d22_0 : decode jdk_42_method_66_code 0 = .ok (.aload_n 0, 1) := by decide +kernel
theorem d22_1 : decode jdk_42_method_66_code 1 = .ok (.aload_n 1, 1) := by decide +kernel
theorem d22_2 : decode jdk_42_method_66_code 2 = .ok (.if_acmp .ne 5, 3) := by decide +kernel
theorem d22_5 : decode jdk_42_method_66_code 5 = .ok (.iconst 1, 1) := by decide +kernel
theorem d22_6 : decode jdk_42_method_66_code 6 = .ok (.ireturn, 1) := by decide +kernel
def Q_m22s (Z : State) (a : Addr) (h0 : Heap) (n0 : Nat) (v : Option Value) (h : Heap) (L : List Loc) : Prop := v = (some (.int (1 : Int32))) ∧ Fr n0 L ∧ h = h0
theorem ef_m22s (m : MethodId) (a : Addr) : entryFrame m #[(.ref a), (.ref a)] 3 = mkF m 0 #[.val (.ref a), .val (.ref a), .unset] [] := by first | (simp [entryFrame, mkF, argsToLocals, Value.category]; done) | rfl
set_option maxRecDepth 65536 in
set_option maxHeartbeats 40000000 in
theorem m22s (l : Launch) (Z : State) (a0 : Array Value) (hw : ∀ d ∈ tables_1, d.before a0 Z = true) (ws : List Jvm.Cond) (a : Addr) (h0 : Heap) (n0 : Nat) (Z0 : n0 ≤ h0.size)  :
    MetFree l (⟨"java/lang/String", "equals", "(Ljava/lang/Object;)Z"⟩ : MethodName) (head1 (Jvm.Cond.code (⟨"java/lang/String", "equals", "(Ljava/lang/Object;)Z"⟩ : MethodName) jdk_42_method_66_code 3 (some .boolean) :: ws) ({ frames := 0, cells := 0, slots := 0, locals := 0 } : Room)) (fun ar_ U => ar_ = #[(.ref a), (.ref a)] ∧ Z.Warmed39 U.vm ∧ U.heap = h0) (fun _ _ _ _ _ => True) (fun _ U o U' => ∃ v L, o = .returned v ∧ Q_m22s Z a h0 n0 v U'.heap L ∧ FrameEnd U o U' L ({ frames := 0, cells := 0, slots := 0, locals := 0 } : Room).cells ({ frames := 0, cells := 0, slots := 0, locals := 0 } : Room).slots) := by
  refine MetFree.of_bodySF (plainFor_of_name pnx_java_lang_String) hisR ?_
  intro p e s m args below meth c s₁ Bd hml0 hP hK
  obtain ⟨rfl, hZ, hh⟩ := hP
  have hx := Bd.exec
  have hby := Bd.bytes
  have hml : c.maxLocals = 3 := hml0
  have hown : s.vm.findClass "java/lang/String" = some m.cls := findClass_of_methodNamed Bd.named
  have hnm := (name_of_methodNamed Bd.named Bd.method).1
  have X0 : Stand p l e ({ frames := 0, cells := 0, slots := 0, locals := 0 } : Room) s m #[(.ref a), (.ref a)] below meth c s₁ [] 0 0 := Stand.of_body Bd
  have e0 : s₁.heap = h0 := by rw [← hh, Bd.state]; rfl
  have N0 := Fr.nil n0
  have pre0 : ∀ tq_, Steps p.tables e below (s₁.setTop (mkF m 0 #[.val (.ref a), .val (.ref a), .unset] [])) tq_ → Steps p.tables e below (s₁.setTop (entryFrame m #[(.ref a), (.ref a)] 3)) tq_ := fun tq_ kt_ => castTop (ef_m22s m a ) kt_
  obtain ⟨fs, hr, hrun, hended, hW, hsame⟩ := X0.leave (v := some (.int (1 : Int32))) (fun h => by rw [Bd.returns] at h; cases h)
  refine ⟨_, _, pre0 _ ?_, hrun, hended, _, _, rfl, ?_, ⟨_, rfl⟩, hW, hsame.mono (nle rfl) (nle rfl)⟩
  · show Steps p.tables e below (s₁.setTop (mkF m 0 #[.val (.ref a), .val (.ref a), .unset] [])) _
    refine XS.aloadN X0.here hx rfl (hb hby d22_0) rfl rfl ?_
    show Steps p.tables e below (s₁.setTop (mkF m 1 #[.val (.ref a), .val (.ref a), .unset] [(.ref a)])) _
    refine XS.aloadN X0.here hx rfl (hb hby d22_1) rfl rfl ?_
    show Steps p.tables e below (s₁.setTop (mkF m 2 #[.val (.ref a), .val (.ref a), .unset] [(.ref a), (.ref a)])) _
    refine Jvm.RoadKit.acmp (g := (mkF m 2 #[.val (.ref a), .val (.ref a), .unset] [(.ref a), (.ref a)])) X0 hx rfl rfl rfl (pc0 := 2) (pc' := 5) (same := true) rfl (hb hby d22_2) rfl (decide_eq_true rfl) (by decide) (by decide) ?_
    show Steps p.tables e below (s₁.setTop (mkF m 5 #[.val (.ref a), .val (.ref a), .unset] [])) _
    refine XS.iconst X0.here hx rfl (hb hby d22_5) ?_
    show Steps p.tables e below (s₁.setTop (mkF m 6 #[.val (.ref a), .val (.ref a), .unset] [(.int (1 : Int32))])) _
    exact own_retN X0 hx (t := .boolean) rfl Bd.returns (by simp) (hb hby d22_6) hr
  · show Q_m22s Z a h0 n0 _ s₁.heap _
    exact ⟨rfl, N0, e0⟩
theorem pdx___B_B_Z : parseMethodDescriptor "([B[B)Z" = some ⟨[(.array .byte), (.array .byte)], some .boolean⟩ := by decide +kernel
theorem d22_7 : decode jdk_42_method_66_code 7 = .ok (.aload_n 1, 1) := by decide +kernel
theorem d22_8 : decode jdk_42_method_66_code 8 = .ok (.instanceof 10, 3) := by decide +kernel
theorem d22_11 : decode jdk_42_method_66_code 11 = .ok (.ifCond .eq 43, 3) := by decide +kernel
theorem d22_14 : decode jdk_42_method_66_code 14 = .ok (.aload_n 1, 1) := by decide +kernel
theorem d22_15 : decode jdk_42_method_66_code 15 = .ok (.checkcast 10, 3) := by decide +kernel
theorem d22_18 : decode jdk_42_method_66_code 18 = .ok (.astore_n 2, 1) := by decide +kernel
theorem d22_19 : decode jdk_42_method_66_code 19 = .ok (.getstatic 38, 3) := by decide +kernel
theorem d22_22 : decode jdk_42_method_66_code 22 = .ok (.ifCond .eq 14, 3) := by decide +kernel
theorem d22_25 : decode jdk_42_method_66_code 25 = .ok (.aload_n 0, 1) := by decide +kernel
theorem d22_26 : decode jdk_42_method_66_code 26 = .ok (.getfield 15, 3) := by decide +kernel
theorem d22_29 : decode jdk_42_method_66_code 29 = .ok (.aload_n 2, 1) := by decide +kernel
theorem d22_30 : decode jdk_42_method_66_code 30 = .ok (.getfield 15, 3) := by decide +kernel
theorem d22_33 : decode jdk_42_method_66_code 33 = .ok (.if_icmp .ne 21, 3) := by decide +kernel
theorem d22_36 : decode jdk_42_method_66_code 36 = .ok (.aload_n 0, 1) := by decide +kernel
theorem d22_37 : decode jdk_42_method_66_code 37 = .ok (.getfield 9, 3) := by decide +kernel
theorem d22_40 : decode jdk_42_method_66_code 40 = .ok (.aload_n 2, 1) := by decide +kernel
theorem d22_41 : decode jdk_42_method_66_code 41 = .ok (.getfield 9, 3) := by decide +kernel
theorem d22_44 : decode jdk_42_method_66_code 44 = .ok (.invokestatic 541, 3) := by decide +kernel
theorem d22_47 : decode jdk_42_method_66_code 47 = .ok (.ifCond .eq 7, 3) := by decide +kernel
theorem d22_54 : decode jdk_42_method_66_code 54 = .ok (.iconst 0, 1) := by decide +kernel
theorem d22_55 : decode jdk_42_method_66_code 55 = .ok (.ireturn, 1) := by decide +kernel
def Q_m22_0 (Z : State) (a1 : Addr) (b1 : Addr) (k1 : ClassId) (vs1 : List Value) (a2 : Addr) (b2 : Addr) (k2 : ClassId) (vs2 : List Value) (z : Int32) (wcs : Int32) (h0 : Heap) (n0 : Nat) (v : Option Value) (h : Heap) (L : List Loc) : Prop := v = (some (.int (0 : Int32))) ∧ Fr n0 L ∧ h = h0
theorem ef_m22_0 (m : MethodId) (a1 : Addr) (b1 : Addr) (k1 : ClassId) (vs1 : List Value) (a2 : Addr) (b2 : Addr) (k2 : ClassId) (vs2 : List Value) (z : Int32) (wcs : Int32) : entryFrame m #[(.ref a1), (.ref a2)] 3 = mkF m 0 #[.val (.ref a1), .val (.ref a2), .unset] [] := by first | (simp [entryFrame, mkF, argsToLocals, Value.category]; done) | rfl
set_option maxRecDepth 65536 in
set_option maxHeartbeats 40000000 in
theorem m22_0 (l : Launch) (Z : State) (a0 : Array Value) (hw : ∀ d ∈ tables_1, d.before a0 Z = true) (ws : List Jvm.Cond) (a1 : Addr) (b1 : Addr) (k1 : ClassId) (vs1 : List Value) (a2 : Addr) (b2 : Addr) (k2 : ClassId) (vs2 : List Value) (z : Int32) (wcs : Int32) (h0 : Heap) (n0 : Nat) (Z0 : n0 ≤ h0.size) (E_a1 : Exa Z h0 a1 "java/lang/String") (Fc_a1 : Fld Z h0 a1 "java/lang/String" "coder" "B" (.int (0 : Int32))) (Fv_a1 : Fld Z h0 a1 "java/lang/String" "value" "[B" (.ref b1)) (V1 : Arv Z h0 b1 k1 .byte z vs1 (.int (0 : Int32))) (E_a2 : Exa Z h0 a2 "java/lang/String") (Fc_a2 : Fld Z h0 a2 "java/lang/String" "coder" "B" (.int (0 : Int32))) (Fv_a2 : Fld Z h0 a2 "java/lang/String" "value" "[B" (.ref b2)) (V2 : Arv Z h0 b2 k2 .byte z vs2 (.int (0 : Int32))) (S_CS : Sta Z h0 "java/lang/String" "COMPACT_STRINGS" "Z" (.int wcs)) (ncs : ¬ (wcs = (0 : Int32))) (na : a1 ≠ a2) (hq : own_EQ z vs1 vs2 (0 : Int32)) :
    MetFree l (⟨"java/lang/String", "equals", "(Ljava/lang/Object;)Z"⟩ : MethodName) (head1 (Jvm.Cond.code (⟨"java/lang/String", "equals", "(Ljava/lang/Object;)Z"⟩ : MethodName) jdk_42_method_66_code 3 (some .boolean) :: ws) ({ frames := 1, cells := 0, slots := 0, locals := 14 } : Room)) (fun ar_ U => ar_ = #[(.ref a1), (.ref a2)] ∧ Z.Warmed39 U.vm ∧ U.heap = h0) (fun _ _ _ _ _ => True) (fun _ U o U' => ∃ v L, o = .returned v ∧ Q_m22_0 Z a1 b1 k1 vs1 a2 b2 k2 vs2 z wcs h0 n0 v U'.heap L ∧ FrameEnd U o U' L ({ frames := 1, cells := 0, slots := 0, locals := 14 } : Room).cells ({ frames := 1, cells := 0, slots := 0, locals := 14 } : Room).slots) := by
  refine MetFree.of_bodySF (plainFor_of_name pnx_java_lang_String) hisR ?_
  intro p e s m args below meth c s₁ Bd hml0 hP hK
  obtain ⟨rfl, hZ, hh⟩ := hP
  have hx := Bd.exec
  have hby := Bd.bytes
  have hml : c.maxLocals = 3 := hml0
  have hown : s.vm.findClass "java/lang/String" = some m.cls := findClass_of_methodNamed Bd.named
  have hnm := (name_of_methodNamed Bd.named Bd.method).1
  have X0 : Stand p l e ({ frames := 1, cells := 0, slots := 0, locals := 14 } : Room) s m #[(.ref a1), (.ref a2)] below meth c s₁ [] 0 0 := Stand.of_body Bd
  have e0 : s₁.heap = h0 := by rw [← hh, Bd.state]; rfl
  have N0 := Fr.nil n0
  have pre0 : ∀ tq_, Steps p.tables e below (s₁.setTop (mkF m 0 #[.val (.ref a1), .val (.ref a2), .unset] [])) tq_ → Steps p.tables e below (s₁.setTop (entryFrame m #[(.ref a1), (.ref a2)] 3)) tq_ := fun tq_ kt_ => castTop (ef_m22_0 m a1 b1 k1 vs1 a2 b2 k2 vs2 z wcs ) kt_
  obtain ⟨T1, X1, e1, st1⟩ := instY X0 hx hZ hown (wk hw 115 rfl) e0 (Ins.self E_a2) (g := (mkF m 8 #[.val (.ref a1), .val (.ref a2), .unset] [(.ref a2)])) rfl rfl (hb hby d22_8)
  obtain ⟨T2, X2, e2, st2⟩ := castY X1 hx hZ hown (wk hw 115 rfl) e1 (Ins.self E_a2) (g := (mkF m 15 #[.val (.ref a1), .val (.ref a2), .unset] [(.ref a2)])) rfl rfl (hb hby d22_15)
  obtain ⟨T3, X3, e3, st3⟩ := getS2 X2 hx hZ hown (host := "") (Or.inl (wk hw 22 rfl)) Via.refl e2 S_CS (g := (mkF m 19 #[.val (.ref a1), .val (.ref a2), .val (.ref a2)] [])) rfl (hb hby d22_19)
  obtain ⟨T4, X4, e4, st4⟩ := getF X3 hx hZ hown (host := "") (Or.inl (wk hw 34 rfl)) Via.refl e3 Fc_a1 (g := (mkF m 26 #[.val (.ref a1), .val (.ref a2), .val (.ref a2)] [(.ref a1)])) rfl rfl (hb hby d22_26)
  obtain ⟨T5, X5, e5, st5⟩ := getF X4 hx hZ hown (host := "") (Or.inl (wk hw 34 rfl)) Via.refl e4 Fc_a2 (g := (mkF m 30 #[.val (.ref a1), .val (.ref a2), .val (.ref a2)] [(.ref a2), (.int (0 : Int32))])) rfl rfl (hb hby d22_30)
  obtain ⟨T6, X6, e6, st6⟩ := getF X5 hx hZ hown (host := "") (Or.inl (wk hw 36 rfl)) Via.refl e5 Fv_a1 (g := (mkF m 37 #[.val (.ref a1), .val (.ref a2), .val (.ref a2)] [(.ref a1)])) rfl rfl (hb hby d22_37)
  obtain ⟨T7, X7, e7, st7⟩ := getF X6 hx hZ hown (host := "") (Or.inl (wk hw 36 rfl)) Via.refl e6 Fv_a2 (g := (mkF m 41 #[.val (.ref a1), .val (.ref a2), .val (.ref a2)] [(.ref a2), (.ref b1)])) rfl rfl (hb hby d22_41)
  obtain ⟨_, _, ⟨T8, L8, kk8, nn8⟩, -, X8, ⟨Lc8, hQ8, l8, y8, z8⟩, st8⟩ := Jvm.LawKit.callS X7 hx (y := (⟨"java/lang/StringLatin1", "equals", "([B[B)Z"⟩ : MethodName)) hown (mvT hZ (wk hw 116 rfl)) (mvT hZ (wk hw 117 rfl)) (mvT hZ (wk hw 118 rfl)) (mvT hZ (wk hw 119 rfl)) (by decide) (backOf (W := 0) (own_m24 l Z a0 hw [] b1 k1 vs1 b2 k2 vs2 z (0 : Int32) h0 n0 Z0 V1 V2 hq) hZ (wk hw 119 rfl) (wk hw 118 rfl) (by decide) (by decide)) (g := (mkF m 44 #[.val (.ref a1), .val (.ref a2), .val (.ref a2)] [(.ref b2), (.ref b1)])) rfl (by rw [hml]; rfl) (argsL := [(.ref b1), (.ref b2)]) (rest := []) (lenOf pdx___B_B_Z rfl) rfl (by show 2 * 0 + _ ≤ _; exact Nat.le_of_eq rfl) (hb hby d22_44) (fun _ _ => ⟨rfl, e7, nle rfl, nle rfl⟩)
  dsimp only [Pt.U, Pt.locs, Pt.cells, Pt.slots] at X8 l8 y8 z8 st8 hQ8
  subst l8 y8 z8
  obtain ⟨rfl, Nq8, e8⟩ := hQ8
  have N8 := Fr.app N0 Nq8
  obtain ⟨fs, hr, hrun, hended, hW, hsame⟩ := X8.leave (v := some (.int (0 : Int32))) (fun h => by rw [Bd.returns] at h; cases h)
  refine ⟨_, _, pre0 _ ?_, hrun, hended, _, _, rfl, ?_, ⟨_, rfl⟩, hW, hsame.mono (nle rfl) (nle rfl)⟩
  · show Steps p.tables e below (s₁.setTop (mkF m 0 #[.val (.ref a1), .val (.ref a2), .unset] [])) _
    refine XS.aloadN X0.here hx rfl (hb hby d22_0) rfl rfl ?_
    show Steps p.tables e below (s₁.setTop (mkF m 1 #[.val (.ref a1), .val (.ref a2), .unset] [(.ref a1)])) _
    refine XS.aloadN X0.here hx rfl (hb hby d22_1) rfl rfl ?_
    show Steps p.tables e below (s₁.setTop (mkF m 2 #[.val (.ref a1), .val (.ref a2), .unset] [(.ref a2), (.ref a1)])) _
    refine Jvm.RoadKit.acmp (g := (mkF m 2 #[.val (.ref a1), .val (.ref a2), .unset] [(.ref a2), (.ref a1)])) X0 hx rfl rfl rfl (pc0 := 2) (pc' := 7) (same := false) rfl (hb hby d22_2) rfl (decide_eq_false fun q => (na : ¬ (a1 = a2)) (Value.ref.inj q)) (by decide) (by decide) ?_
    show Steps p.tables e below (s₁.setTop (mkF m 7 #[.val (.ref a1), .val (.ref a2), .unset] [])) _
    refine XS.aloadN X0.here hx rfl (hb hby d22_7) rfl rfl ?_
    show Steps p.tables e below (s₁.setTop (mkF m 8 #[.val (.ref a1), .val (.ref a2), .unset] [(.ref a2)])) _
    refine st1 _ ?_
    show Steps p.tables e below (T1.setTop (mkF m 11 #[.val (.ref a1), .val (.ref a2), .unset] [(.int (1 : Int32))])) _
    refine XS.ifNo X1.here hx rfl (hb hby d22_11) rfl ((if0 _ _).trans (feq (by decide : ¬ ((1 : Int32) = (0 : Int32)))).1) ?_
    show Steps p.tables e below (T1.setTop (mkF m 14 #[.val (.ref a1), .val (.ref a2), .unset] [])) _
    refine XS.aloadN X1.here hx rfl (hb hby d22_14) rfl rfl ?_
    show Steps p.tables e below (T1.setTop (mkF m 15 #[.val (.ref a1), .val (.ref a2), .unset] [(.ref a2)])) _
    refine st2 _ ?_
    show Steps p.tables e below (T2.setTop (mkF m 18 #[.val (.ref a1), .val (.ref a2), .unset] [(.ref a2)])) _
    refine XS.astoreN X2.here hx rfl (hb hby d22_18) rfl rfl (l' := #[.val (.ref a1), .val (.ref a2), .val (.ref a2)]) rfl ?_
    show Steps p.tables e below (T2.setTop (mkF m 19 #[.val (.ref a1), .val (.ref a2), .val (.ref a2)] [])) _
    refine st3 _ ?_
    show Steps p.tables e below (T3.setTop (mkF m 22 #[.val (.ref a1), .val (.ref a2), .val (.ref a2)] [(.int wcs)])) _
    refine XS.ifNo X3.here hx rfl (hb hby d22_22) rfl ((if0 _ _).trans (feq (ncs : ¬ (wcs = (0 : Int32)))).1) ?_
    show Steps p.tables e below (T3.setTop (mkF m 25 #[.val (.ref a1), .val (.ref a2), .val (.ref a2)] [])) _
    refine XS.aloadN X3.here hx rfl (hb hby d22_25) rfl rfl ?_
    show Steps p.tables e below (T3.setTop (mkF m 26 #[.val (.ref a1), .val (.ref a2), .val (.ref a2)] [(.ref a1)])) _
    refine st4 _ ?_
    show Steps p.tables e below (T4.setTop (mkF m 29 #[.val (.ref a1), .val (.ref a2), .val (.ref a2)] [(.int (0 : Int32))])) _
    refine XS.aloadN X4.here hx rfl (hb hby d22_29) rfl rfl ?_
    show Steps p.tables e below (T4.setTop (mkF m 30 #[.val (.ref a1), .val (.ref a2), .val (.ref a2)] [(.ref a2), (.int (0 : Int32))])) _
    refine st5 _ ?_
    show Steps p.tables e below (T5.setTop (mkF m 33 #[.val (.ref a1), .val (.ref a2), .val (.ref a2)] [(.int (0 : Int32)), (.int (0 : Int32))])) _
    refine XS.icmpNo X5.here hx rfl (hb hby d22_33) rfl (teq (by decide : (0 : Int32) = (0 : Int32))).2 ?_
    show Steps p.tables e below (T5.setTop (mkF m 36 #[.val (.ref a1), .val (.ref a2), .val (.ref a2)] [])) _
    refine XS.aloadN X5.here hx rfl (hb hby d22_36) rfl rfl ?_
    show Steps p.tables e below (T5.setTop (mkF m 37 #[.val (.ref a1), .val (.ref a2), .val (.ref a2)] [(.ref a1)])) _
    refine st6 _ ?_
    show Steps p.tables e below (T6.setTop (mkF m 40 #[.val (.ref a1), .val (.ref a2), .val (.ref a2)] [(.ref b1)])) _
    refine XS.aloadN X6.here hx rfl (hb hby d22_40) rfl rfl ?_
    show Steps p.tables e below (T6.setTop (mkF m 41 #[.val (.ref a1), .val (.ref a2), .val (.ref a2)] [(.ref a2), (.ref b1)])) _
    refine st7 _ ?_
    show Steps p.tables e below (T7.setTop (mkF m 44 #[.val (.ref a1), .val (.ref a2), .val (.ref a2)] [(.ref b2), (.ref b1)])) _
    refine st8 _ ?_
    show Steps p.tables e below (T8.setTop (mkF m 47 #[.val (.ref a1), .val (.ref a2), .val (.ref a2)] [(.int (0 : Int32))])) _
    refine XS.ifYes X8.here hx rfl (pc0 := 47) (pc' := 54) rfl (hb hby d22_47) rfl ((if0 _ _).trans (teq (by decide : (0 : Int32) = (0 : Int32))).1) (by decide) (by decide) ?_
    show Steps p.tables e below (T8.setTop (mkF m 54 #[.val (.ref a1), .val (.ref a2), .val (.ref a2)] [])) _
    refine XS.iconst X8.here hx rfl (hb hby d22_54) ?_
    show Steps p.tables e below (T8.setTop (mkF m 55 #[.val (.ref a1), .val (.ref a2), .val (.ref a2)] [(.int (0 : Int32))])) _
    exact own_retN X8 hx (t := .boolean) rfl Bd.returns (by simp) (hb hby d22_55) hr
  · show Q_m22_0 Z a1 b1 k1 vs1 a2 b2 k2 vs2 z wcs h0 n0 _ T8.heap _
    exact ⟨rfl, N8, e8⟩
theorem pdx__Ljava_lang_Object__Z : parseMethodDescriptor "(Ljava/lang/Object;)Z" = some ⟨[(.object "java/lang/Object")], some .boolean⟩ := by decide +kernel
theorem d23_0 : decode prog_10_method_4_code 0 = .ok (.aload_n 1, 1) := by decide +kernel
theorem d23_1 : decode prog_10_method_4_code 1 = .ok (.instanceof 8, 3) := by decide +kernel
theorem d23_4 : decode prog_10_method_4_code 4 = .ok (.ifCond .eq 24, 3) := by decide +kernel
theorem d23_7 : decode prog_10_method_4_code 7 = .ok (.aload_n 0, 1) := by decide +kernel
theorem d23_8 : decode prog_10_method_4_code 8 = .ok (.getfield 7, 3) := by decide +kernel
theorem d23_11 : decode prog_10_method_4_code 11 = .ok (.aload_n 1, 1) := by decide +kernel
theorem d23_12 : decode prog_10_method_4_code 12 = .ok (.checkcast 8, 3) := by decide +kernel
theorem d23_15 : decode prog_10_method_4_code 15 = .ok (.getfield 7, 3) := by decide +kernel
theorem d23_18 : decode prog_10_method_4_code 18 = .ok (.invokevirtual 75, 3) := by decide +kernel
theorem d23_21 : decode prog_10_method_4_code 21 = .ok (.ifCond .eq 7, 3) := by decide +kernel
theorem d23_28 : decode prog_10_method_4_code 28 = .ok (.iconst 0, 1) := by decide +kernel
theorem d23_29 : decode prog_10_method_4_code 29 = .ok (.ireturn, 1) := by decide +kernel
def Q_m23_0 (Z : State) (l1 : Addr) (l2 : Addr) (a1 : Addr) (b1 : Addr) (k1 : ClassId) (vs1 : List Value) (a2 : Addr) (b2 : Addr) (k2 : ClassId) (vs2 : List Value) (z : Int32) (wcs : Int32) (h0 : Heap) (n0 : Nat) (v : Option Value) (h : Heap) (L : List Loc) : Prop := v = (some (.int (0 : Int32))) ∧ Fr n0 L ∧ h = h0
theorem ef_m23_0 (m : MethodId) (l1 : Addr) (l2 : Addr) (a1 : Addr) (b1 : Addr) (k1 : ClassId) (vs1 : List Value) (a2 : Addr) (b2 : Addr) (k2 : ClassId) (vs2 : List Value) (z : Int32) (wcs : Int32) : entryFrame m #[(.ref l1), (.ref l2)] 2 = mkF m 0 #[.val (.ref l1), .val (.ref l2)] [] := by first | (simp [entryFrame, mkF, argsToLocals, Value.category]; done) | rfl
set_option maxRecDepth 65536 in
set_option maxHeartbeats 40000000 in
theorem m23_0 (l : Launch) (Z : State) (a0 : Array Value) (hw : ∀ d ∈ tables_1, d.before a0 Z = true) (ws : List Jvm.Cond) (l1 : Addr) (l2 : Addr) (a1 : Addr) (b1 : Addr) (k1 : ClassId) (vs1 : List Value) (a2 : Addr) (b2 : Addr) (k2 : ClassId) (vs2 : List Value) (z : Int32) (wcs : Int32) (h0 : Heap) (n0 : Nat) (Z0 : n0 ≤ h0.size) (E_l1 : Exa Z h0 l1 "com/example/portunus/portunus/lock/LockName") (E_l2 : Exa Z h0 l2 "com/example/portunus/portunus/lock/LockName") (F_l1 : Fld Z h0 l1 "com/example/portunus/portunus/lock/LockName" "text" "Ljava/lang/String;" (.ref a1)) (F_l2 : Fld Z h0 l2 "com/example/portunus/portunus/lock/LockName" "text" "Ljava/lang/String;" (.ref a2)) (E_a1 : Exa Z h0 a1 "java/lang/String") (Fc_a1 : Fld Z h0 a1 "java/lang/String" "coder" "B" (.int (0 : Int32))) (Fv_a1 : Fld Z h0 a1 "java/lang/String" "value" "[B" (.ref b1)) (V1 : Arv Z h0 b1 k1 .byte z vs1 (.int (0 : Int32))) (E_a2 : Exa Z h0 a2 "java/lang/String") (Fc_a2 : Fld Z h0 a2 "java/lang/String" "coder" "B" (.int (0 : Int32))) (Fv_a2 : Fld Z h0 a2 "java/lang/String" "value" "[B" (.ref b2)) (V2 : Arv Z h0 b2 k2 .byte z vs2 (.int (0 : Int32))) (S_CS : Sta Z h0 "java/lang/String" "COMPACT_STRINGS" "Z" (.int wcs)) (ncs : ¬ (wcs = (0 : Int32))) (na : a1 ≠ a2) (hq : own_EQ z vs1 vs2 (0 : Int32)) :
    MetFree l (⟨"com/example/portunus/portunus/lock/LockName", "equals", "(Ljava/lang/Object;)Z"⟩ : MethodName) (head1 (Jvm.Cond.code (⟨"com/example/portunus/portunus/lock/LockName", "equals", "(Ljava/lang/Object;)Z"⟩ : MethodName) prog_10_method_4_code 2 (some .boolean) :: ws) ({ frames := 2, cells := 0, slots := 0, locals := 28 } : Room)) (fun ar_ U => ar_ = #[(.ref l1), (.ref l2)] ∧ Z.Warmed39 U.vm ∧ U.heap = h0) (fun _ _ _ _ _ => True) (fun _ U o U' => ∃ v L, o = .returned v ∧ Q_m23_0 Z l1 l2 a1 b1 k1 vs1 a2 b2 k2 vs2 z wcs h0 n0 v U'.heap L ∧ FrameEnd U o U' L ({ frames := 2, cells := 0, slots := 0, locals := 28 } : Room).cells ({ frames := 2, cells := 0, slots := 0, locals := 28 } : Room).slots) := by
  refine MetFree.of_bodySF (plainFor_of_name pnx_com_example_portunus_portunus_lock_LockName) hisR ?_
  intro p e s m args below meth c s₁ Bd hml0 hP hK
  obtain ⟨rfl, hZ, hh⟩ := hP
  have hx := Bd.exec
  have hby := Bd.bytes
  have hml : c.maxLocals = 2 := hml0
  have hown : s.vm.findClass "com/example/portunus/portunus/lock/LockName" = some m.cls := findClass_of_methodNamed Bd.named
  have hnm := (name_of_methodNamed Bd.named Bd.method).1
  have X0 : Stand p l e ({ frames := 2, cells := 0, slots := 0, locals := 28 } : Room) s m #[(.ref l1), (.ref l2)] below meth c s₁ [] 0 0 := Stand.of_body Bd
  have e0 : s₁.heap = h0 := by rw [← hh, Bd.state]; rfl
  have N0 := Fr.nil n0
  have pre0 : ∀ tq_, Steps p.tables e below (s₁.setTop (mkF m 0 #[.val (.ref l1), .val (.ref l2)] [])) tq_ → Steps p.tables e below (s₁.setTop (entryFrame m #[(.ref l1), (.ref l2)] 2)) tq_ := fun tq_ kt_ => castTop (ef_m23_0 m l1 l2 a1 b1 k1 vs1 a2 b2 k2 vs2 z wcs ) kt_
  obtain ⟨T1, X1, e1, st1⟩ := instY X0 hx hZ hown (wk hw 90 rfl) e0 (Ins.self E_l2) (g := (mkF m 1 #[.val (.ref l1), .val (.ref l2)] [(.ref l2)])) rfl rfl (hb hby d23_1)
  obtain ⟨T2, X2, e2, st2⟩ := getF X1 hx hZ hown (host := "") (Or.inl (wk hw 96 rfl)) Via.refl e1 F_l1 (g := (mkF m 8 #[.val (.ref l1), .val (.ref l2)] [(.ref l1)])) rfl rfl (hb hby d23_8)
  obtain ⟨T3, X3, e3, st3⟩ := castY X2 hx hZ hown (wk hw 90 rfl) e2 (Ins.self E_l2) (g := (mkF m 12 #[.val (.ref l1), .val (.ref l2)] [(.ref l2), (.ref a1)])) rfl rfl (hb hby d23_12)
  obtain ⟨T4, X4, e4, st4⟩ := getF X3 hx hZ hown (host := "") (Or.inl (wk hw 96 rfl)) Via.refl e3 F_l2 (g := (mkF m 15 #[.val (.ref l1), .val (.ref l2)] [(.ref l2), (.ref a1)])) rfl rfl (hb hby d23_15)
  obtain ⟨cq5, kq5, qa5, qb5, qc5⟩ := isOf hZ e4 E_a1
  obtain ⟨_, _, ⟨T5, L5, kk5, nn5⟩, -, X5, ⟨Lc5, hQ5, l5, y5, z5⟩, st5⟩ := X4.virtualBack hx (y := (⟨"java/lang/String", "equals", "(Ljava/lang/Object;)Z"⟩ : MethodName)) (z := (⟨"java/lang/String", "equals", "(Ljava/lang/Object;)Z"⟩ : MethodName)) hown (mvT hZ (wk hw 114 rfl)) (mvT hZ (wk hw 104 rfl)) (notFace_of_selects (args := #[]) (mvT hZ (wk hw 106 rfl))) (mvT hZ (wk hw 106 rfl)) (mvT hZ (wk hw 105 rfl)) (by decide) (backOf (W := 0) (m22_0 l Z a0 hw [] a1 b1 k1 vs1 a2 b2 k2 vs2 z wcs h0 n0 Z0 E_a1 Fc_a1 Fv_a1 V1 E_a2 Fc_a2 Fv_a2 V2 S_CS ncs na hq) hZ (wk hw 107 rfl) (wk hw 10 rfl) (by decide) (by decide)) qa5 qc5 (g := (mkF m 18 #[.val (.ref l1), .val (.ref l2)] [(.ref a2), (.ref a1)])) rfl (by rw [hml]; rfl) (Steps.refl _) (argsL := [(.ref a2)]) (rest := []) (lenOf pdx__Ljava_lang_Object__Z rfl) rfl (by show 2 * 0 + _ ≤ _; exact Nat.le_of_eq rfl) (hb hby d23_18) (fun _ _ => ⟨rfl, e4, nle rfl, nle rfl⟩)
  dsimp only [Pt.U, Pt.locs, Pt.cells, Pt.slots] at X5 l5 y5 z5 st5 hQ5
  subst l5 y5 z5
  obtain ⟨rfl, Nq5, e5⟩ := hQ5
  have N5 := Fr.app N0 Nq5
  obtain ⟨fs, hr, hrun, hended, hW, hsame⟩ := X5.leave (v := some (.int (0 : Int32))) (fun h => by rw [Bd.returns] at h; cases h)
  refine ⟨_, _, pre0 _ ?_, hrun, hended, _, _, rfl, ?_, ⟨_, rfl⟩, hW, hsame.mono (nle rfl) (nle rfl)⟩
  · show Steps p.tables e below (s₁.setTop (mkF m 0 #[.val (.ref l1), .val (.ref l2)] [])) _
    refine XS.aloadN X0.here hx rfl (hb hby d23_0) rfl rfl ?_
    show Steps p.tables e below (s₁.setTop (mkF m 1 #[.val (.ref l1), .val (.ref l2)] [(.ref l2)])) _
    refine st1 _ ?_
    show Steps p.tables e below (T1.setTop (mkF m 4 #[.val (.ref l1), .val (.ref l2)] [(.int (1 : Int32))])) _
    refine XS.ifNo X1.here hx rfl (hb hby d23_4) rfl ((if0 _ _).trans (feq (by decide : ¬ ((1 : Int32) = (0 : Int32)))).1) ?_
    show Steps p.tables e below (T1.setTop (mkF m 7 #[.val (.ref l1), .val (.ref l2)] [])) _
    refine XS.aloadN X1.here hx rfl (hb hby d23_7) rfl rfl ?_
    show Steps p.tables e below (T1.setTop (mkF m 8 #[.val (.ref l1), .val (.ref l2)] [(.ref l1)])) _
    refine st2 _ ?_
    show Steps p.tables e below (T2.setTop (mkF m 11 #[.val (.ref l1), .val (.ref l2)] [(.ref a1)])) _
    refine XS.aloadN X2.here hx rfl (hb hby d23_11) rfl rfl ?_
    show Steps p.tables e below (T2.setTop (mkF m 12 #[.val (.ref l1), .val (.ref l2)] [(.ref l2), (.ref a1)])) _
    refine st3 _ ?_
    show Steps p.tables e below (T3.setTop (mkF m 15 #[.val (.ref l1), .val (.ref l2)] [(.ref l2), (.ref a1)])) _
    refine st4 _ ?_
    show Steps p.tables e below (T4.setTop (mkF m 18 #[.val (.ref l1), .val (.ref l2)] [(.ref a2), (.ref a1)])) _
    refine st5.trans ?_
    show Steps p.tables e below (T5.setTop (mkF m 21 #[.val (.ref l1), .val (.ref l2)] [(.int (0 : Int32))])) _
    refine XS.ifYes X5.here hx rfl (pc0 := 21) (pc' := 28) rfl (hb hby d23_21) rfl ((if0 _ _).trans (teq (by decide : (0 : Int32) = (0 : Int32))).1) (by decide) (by decide) ?_
    show Steps p.tables e below (T5.setTop (mkF m 28 #[.val (.ref l1), .val (.ref l2)] [])) _
    refine XS.iconst X5.here hx rfl (hb hby d23_28) ?_
    show Steps p.tables e below (T5.setTop (mkF m 29 #[.val (.ref l1), .val (.ref l2)] [(.int (0 : Int32))])) _
    exact own_retN X5 hx (t := .boolean) rfl Bd.returns (by simp) (hb hby d23_29) hr
  · show Q_m23_0 Z l1 l2 a1 b1 k1 vs1 a2 b2 k2 vs2 z wcs h0 n0 _ T5.heap _
    exact ⟨rfl, N5, e5⟩
theorem d22_50 : decode jdk_42_method_66_code 50 = .ok (.iconst 1, 1) := by decide +kernel
theorem d22_51 : decode jdk_42_method_66_code 51 = .ok (.goto 4, 3) := by decide +kernel
def Q_m22_1 (Z : State) (a1 : Addr) (b1 : Addr) (k1 : ClassId) (vs1 : List Value) (a2 : Addr) (b2 : Addr) (k2 : ClassId) (vs2 : List Value) (z : Int32) (wcs : Int32) (h0 : Heap) (n0 : Nat) (v : Option Value) (h : Heap) (L : List Loc) : Prop := v = (some (.int (1 : Int32))) ∧ Fr n0 L ∧ h = h0
theorem ef_m22_1 (m : MethodId) (a1 : Addr) (b1 : Addr) (k1 : ClassId) (vs1 : List Value) (a2 : Addr) (b2 : Addr) (k2 : ClassId) (vs2 : List Value) (z : Int32) (wcs : Int32) : entryFrame m #[(.ref a1), (.ref a2)] 3 = mkF m 0 #[.val (.ref a1), .val (.ref a2), .unset] [] := by first | (simp [entryFrame, mkF, argsToLocals, Value.category]; done) | rfl
set_option maxRecDepth 65536 in
set_option maxHeartbeats 40000000 in
theorem m22_1 (l : Launch) (Z : State) (a0 : Array Value) (hw : ∀ d ∈ tables_1, d.before a0 Z = true) (ws : List Jvm.Cond) (a1 : Addr) (b1 : Addr) (k1 : ClassId) (vs1 : List Value) (a2 : Addr) (b2 : Addr) (k2 : ClassId) (vs2 : List Value) (z : Int32) (wcs : Int32) (h0 : Heap) (n0 : Nat) (Z0 : n0 ≤ h0.size) (E_a1 : Exa Z h0 a1 "java/lang/String") (Fc_a1 : Fld Z h0 a1 "java/lang/String" "coder" "B" (.int (0 : Int32))) (Fv_a1 : Fld Z h0 a1 "java/lang/String" "value" "[B" (.ref b1)) (V1 : Arv Z h0 b1 k1 .byte z vs1 (.int (0 : Int32))) (E_a2 : Exa Z h0 a2 "java/lang/String") (Fc_a2 : Fld Z h0 a2 "java/lang/String" "coder" "B" (.int (0 : Int32))) (Fv_a2 : Fld Z h0 a2 "java/lang/String" "value" "[B" (.ref b2)) (V2 : Arv Z h0 b2 k2 .byte z vs2 (.int (0 : Int32))) (S_CS : Sta Z h0 "java/lang/String" "COMPACT_STRINGS" "Z" (.int wcs)) (ncs : ¬ (wcs = (0 : Int32))) (na : a1 ≠ a2) (hq : own_EQ z vs1 vs2 (1 : Int32)) :
    MetFree l (⟨"java/lang/String", "equals", "(Ljava/lang/Object;)Z"⟩ : MethodName) (head1 (Jvm.Cond.code (⟨"java/lang/String", "equals", "(Ljava/lang/Object;)Z"⟩ : MethodName) jdk_42_method_66_code 3 (some .boolean) :: ws) ({ frames := 1, cells := 0, slots := 0, locals := 14 } : Room)) (fun ar_ U => ar_ = #[(.ref a1), (.ref a2)] ∧ Z.Warmed39 U.vm ∧ U.heap = h0) (fun _ _ _ _ _ => True) (fun _ U o U' => ∃ v L, o = .returned v ∧ Q_m22_1 Z a1 b1 k1 vs1 a2 b2 k2 vs2 z wcs h0 n0 v U'.heap L ∧ FrameEnd U o U' L ({ frames := 1, cells := 0, slots := 0, locals := 14 } : Room).cells ({ frames := 1, cells := 0, slots := 0, locals := 14 } : Room).slots) := by
  refine MetFree.of_bodySF (plainFor_of_name pnx_java_lang_String) hisR ?_
  intro p e s m args below meth c s₁ Bd hml0 hP hK
  obtain ⟨rfl, hZ, hh⟩ := hP
  have hx := Bd.exec
  have hby := Bd.bytes
  have hml : c.maxLocals = 3 := hml0
  have hown : s.vm.findClass "java/lang/String" = some m.cls := findClass_of_methodNamed Bd.named
  have hnm := (name_of_methodNamed Bd.named Bd.method).1
  have X0 : Stand p l e ({ frames := 1, cells := 0, slots := 0, locals := 14 } : Room) s m #[(.ref a1), (.ref a2)] below meth c s₁ [] 0 0 := Stand.of_body Bd
  have e0 : s₁.heap = h0 := by rw [← hh, Bd.state]; rfl
  have N0 := Fr.nil n0
  have pre0 : ∀ tq_, Steps p.tables e below (s₁.setTop (mkF m 0 #[.val (.ref a1), .val (.ref a2), .unset] [])) tq_ → Steps p.tables e below (s₁.setTop (entryFrame m #[(.ref a1), (.ref a2)] 3)) tq_ := fun tq_ kt_ => castTop (ef_m22_1 m a1 b1 k1 vs1 a2 b2 k2 vs2 z wcs ) kt_
  obtain ⟨T1, X1, e1, st1⟩ := instY X0 hx hZ hown (wk hw 115 rfl) e0 (Ins.self E_a2) (g := (mkF m 8 #[.val (.ref a1), .val (.ref a2), .unset] [(.ref a2)])) rfl rfl (hb hby d22_8)
  obtain ⟨T2, X2, e2, st2⟩ := castY X1 hx hZ hown (wk hw 115 rfl) e1 (Ins.self E_a2) (g := (mkF m 15 #[.val (.ref a1), .val (.ref a2), .unset] [(.ref a2)])) rfl rfl (hb hby d22_15)
  obtain ⟨T3, X3, e3, st3⟩ := getS2 X2 hx hZ hown (host := "") (Or.inl (wk hw 22 rfl)) Via.refl e2 S_CS (g := (mkF m 19 #[.val (.ref a1), .val (.ref a2), .val (.ref a2)] [])) rfl (hb hby d22_19)
  obtain ⟨T4, X4, e4, st4⟩ := getF X3 hx hZ hown (host := "") (Or.inl (wk hw 34 rfl)) Via.refl e3 Fc_a1 (g := (mkF m 26 #[.val (.ref a1), .val (.ref a2), .val (.ref a2)] [(.ref a1)])) rfl rfl (hb hby d22_26)
  obtain ⟨T5, X5, e5, st5⟩ := getF X4 hx hZ hown (host := "") (Or.inl (wk hw 34 rfl)) Via.refl e4 Fc_a2 (g := (mkF m 30 #[.val (.ref a1), .val (.ref a2), .val (.ref a2)] [(.ref a2), (.int (0 : Int32))])) rfl rfl (hb hby d22_30)
  obtain ⟨T6, X6, e6, st6⟩ := getF X5 hx hZ hown (host := "") (Or.inl (wk hw 36 rfl)) Via.refl e5 Fv_a1 (g := (mkF m 37 #[.val (.ref a1), .val (.ref a2), .val (.ref a2)] [(.ref a1)])) rfl rfl (hb hby d22_37)
  obtain ⟨T7, X7, e7, st7⟩ := getF X6 hx hZ hown (host := "") (Or.inl (wk hw 36 rfl)) Via.refl e6 Fv_a2 (g := (mkF m 41 #[.val (.ref a1), .val (.ref a2), .val (.ref a2)] [(.ref a2), (.ref b1)])) rfl rfl (hb hby d22_41)
  obtain ⟨_, _, ⟨T8, L8, kk8, nn8⟩, -, X8, ⟨Lc8, hQ8, l8, y8, z8⟩, st8⟩ := Jvm.LawKit.callS X7 hx (y := (⟨"java/lang/StringLatin1", "equals", "([B[B)Z"⟩ : MethodName)) hown (mvT hZ (wk hw 116 rfl)) (mvT hZ (wk hw 117 rfl)) (mvT hZ (wk hw 118 rfl)) (mvT hZ (wk hw 119 rfl)) (by decide) (backOf (W := 0) (own_m24 l Z a0 hw [] b1 k1 vs1 b2 k2 vs2 z (1 : Int32) h0 n0 Z0 V1 V2 hq) hZ (wk hw 119 rfl) (wk hw 118 rfl) (by decide) (by decide)) (g := (mkF m 44 #[.val (.ref a1), .val (.ref a2), .val (.ref a2)] [(.ref b2), (.ref b1)])) rfl (by rw [hml]; rfl) (argsL := [(.ref b1), (.ref b2)]) (rest := []) (lenOf pdx___B_B_Z rfl) rfl (by show 2 * 0 + _ ≤ _; exact Nat.le_of_eq rfl) (hb hby d22_44) (fun _ _ => ⟨rfl, e7, nle rfl, nle rfl⟩)
  dsimp only [Pt.U, Pt.locs, Pt.cells, Pt.slots] at X8 l8 y8 z8 st8 hQ8
  subst l8 y8 z8
  obtain ⟨rfl, Nq8, e8⟩ := hQ8
  have N8 := Fr.app N0 Nq8
  obtain ⟨fs, hr, hrun, hended, hW, hsame⟩ := X8.leave (v := some (.int (1 : Int32))) (fun h => by rw [Bd.returns] at h; cases h)
  refine ⟨_, _, pre0 _ ?_, hrun, hended, _, _, rfl, ?_, ⟨_, rfl⟩, hW, hsame.mono (nle rfl) (nle rfl)⟩
  · show Steps p.tables e below (s₁.setTop (mkF m 0 #[.val (.ref a1), .val (.ref a2), .unset] [])) _
    refine XS.aloadN X0.here hx rfl (hb hby d22_0) rfl rfl ?_
    show Steps p.tables e below (s₁.setTop (mkF m 1 #[.val (.ref a1), .val (.ref a2), .unset] [(.ref a1)])) _
    refine XS.aloadN X0.here hx rfl (hb hby d22_1) rfl rfl ?_
    show Steps p.tables e below (s₁.setTop (mkF m 2 #[.val (.ref a1), .val (.ref a2), .unset] [(.ref a2), (.ref a1)])) _
    refine Jvm.RoadKit.acmp (g := (mkF m 2 #[.val (.ref a1), .val (.ref a2), .unset] [(.ref a2), (.ref a1)])) X0 hx rfl rfl rfl (pc0 := 2) (pc' := 7) (same := false) rfl (hb hby d22_2) rfl (decide_eq_false fun q => (na : ¬ (a1 = a2)) (Value.ref.inj q)) (by decide) (by decide) ?_
    show Steps p.tables e below (s₁.setTop (mkF m 7 #[.val (.ref a1), .val (.ref a2), .unset] [])) _
    refine XS.aloadN X0.here hx rfl (hb hby d22_7) rfl rfl ?_
    show Steps p.tables e below (s₁.setTop (mkF m 8 #[.val (.ref a1), .val (.ref a2), .unset] [(.ref a2)])) _
    refine st1 _ ?_
    show Steps p.tables e below (T1.setTop (mkF m 11 #[.val (.ref a1), .val (.ref a2), .unset] [(.int (1 : Int32))])) _
    refine XS.ifNo X1.here hx rfl (hb hby d22_11) rfl ((if0 _ _).trans (feq (by decide : ¬ ((1 : Int32) = (0 : Int32)))).1) ?_
    show Steps p.tables e below (T1.setTop (mkF m 14 #[.val (.ref a1), .val (.ref a2), .unset] [])) _
    refine XS.aloadN X1.here hx rfl (hb hby d22_14) rfl rfl ?_
    show Steps p.tables e below (T1.setTop (mkF m 15 #[.val (.ref a1), .val (.ref a2), .unset] [(.ref a2)])) _
    refine st2 _ ?_
    show Steps p.tables e below (T2.setTop (mkF m 18 #[.val (.ref a1), .val (.ref a2), .unset] [(.ref a2)])) _
    refine XS.astoreN X2.here hx rfl (hb hby d22_18) rfl rfl (l' := #[.val (.ref a1), .val (.ref a2), .val (.ref a2)]) rfl ?_
    show Steps p.tables e below (T2.setTop (mkF m 19 #[.val (.ref a1), .val (.ref a2), .val (.ref a2)] [])) _
    refine st3 _ ?_
    show Steps p.tables e below (T3.setTop (mkF m 22 #[.val (.ref a1), .val (.ref a2), .val (.ref a2)] [(.int wcs)])) _
    refine XS.ifNo X3.here hx rfl (hb hby d22_22) rfl ((if0 _ _).trans (feq (ncs : ¬ (wcs = (0 : Int32)))).1) ?_
    show Steps p.tables e below (T3.setTop (mkF m 25 #[.val (.ref a1), .val (.ref a2), .val (.ref a2)] [])) _
    refine XS.aloadN X3.here hx rfl (hb hby d22_25) rfl rfl ?_
    show Steps p.tables e below (T3.setTop (mkF m 26 #[.val (.ref a1), .val (.ref a2), .val (.ref a2)] [(.ref a1)])) _
    refine st4 _ ?_
    show Steps p.tables e below (T4.setTop (mkF m 29 #[.val (.ref a1), .val (.ref a2), .val (.ref a2)] [(.int (0 : Int32))])) _
    refine XS.aloadN X4.here hx rfl (hb hby d22_29) rfl rfl ?_
    show Steps p.tables e below (T4.setTop (mkF m 30 #[.val (.ref a1), .val (.ref a2), .val (.ref a2)] [(.ref a2), (.int (0 : Int32))])) _
    refine st5 _ ?_
    show Steps p.tables e below (T5.setTop (mkF m 33 #[.val (.ref a1), .val (.ref a2), .val (.ref a2)] [(.int (0 : Int32)), (.int (0 : Int32))])) _
    refine XS.icmpNo X5.here hx rfl (hb hby d22_33) rfl (teq (by decide : (0 : Int32) = (0 : Int32))).2 ?_
    show Steps p.tables e below (T5.setTop (mkF m 36 #[.val (.ref a1), .val (.ref a2), .val (.ref a2)] [])) _
    refine XS.aloadN X5.here hx rfl (hb hby d22_36) rfl rfl ?_
    show Steps p.tables e below (T5.setTop (mkF m 37 #[.val (.ref a1), .val (.ref a2), .val (.ref a2)] [(.ref a1)])) _
    refine st6 _ ?_
    show Steps p.tables e below (T6.setTop (mkF m 40 #[.val (.ref a1), .val (.ref a2), .val (.ref a2)] [(.ref b1)])) _
    refine XS.aloadN X6.here hx rfl (hb hby d22_40) rfl rfl ?_
    show Steps p.tables e below (T6.setTop (mkF m 41 #[.val (.ref a1), .val (.ref a2), .val (.ref a2)] [(.ref a2), (.ref b1)])) _
    refine st7 _ ?_
    show Steps p.tables e below (T7.setTop (mkF m 44 #[.val (.ref a1), .val (.ref a2), .val (.ref a2)] [(.ref b2), (.ref b1)])) _
    refine st8 _ ?_
    show Steps p.tables e below (T8.setTop (mkF m 47 #[.val (.ref a1), .val (.ref a2), .val (.ref a2)] [(.int (1 : Int32))])) _
    refine XS.ifNo X8.here hx rfl (hb hby d22_47) rfl ((if0 _ _).trans (feq (by decide : ¬ ((1 : Int32) = (0 : Int32)))).1) ?_
    show Steps p.tables e below (T8.setTop (mkF m 50 #[.val (.ref a1), .val (.ref a2), .val (.ref a2)] [])) _
    refine XS.iconst X8.here hx rfl (hb hby d22_50) ?_
    show Steps p.tables e below (T8.setTop (mkF m 51 #[.val (.ref a1), .val (.ref a2), .val (.ref a2)] [(.int (1 : Int32))])) _
    refine XS.goto X8.here hx rfl (pc0 := 51) (pc' := 55) rfl (hb hby d22_51) (by decide) (by decide) ?_
    show Steps p.tables e below (T8.setTop (mkF m 55 #[.val (.ref a1), .val (.ref a2), .val (.ref a2)] [(.int (1 : Int32))])) _
    exact own_retN X8 hx (t := .boolean) rfl Bd.returns (by simp) (hb hby d22_55) hr
  · show Q_m22_1 Z a1 b1 k1 vs1 a2 b2 k2 vs2 z wcs h0 n0 _ T8.heap _
    exact ⟨rfl, N8, e8⟩
theorem d23_24 : decode prog_10_method_4_code 24 = .ok (.iconst 1, 1) := by decide +kernel
theorem d23_25 : decode prog_10_method_4_code 25 = .ok (.goto 4, 3) := by decide +kernel
def Q_m23_1 (Z : State) (l1 : Addr) (l2 : Addr) (a1 : Addr) (b1 : Addr) (k1 : ClassId) (vs1 : List Value) (a2 : Addr) (b2 : Addr) (k2 : ClassId) (vs2 : List Value) (z : Int32) (wcs : Int32) (h0 : Heap) (n0 : Nat) (v : Option Value) (h : Heap) (L : List Loc) : Prop := v = (some (.int (1 : Int32))) ∧ Fr n0 L ∧ h = h0
theorem ef_m23_1 (m : MethodId) (l1 : Addr) (l2 : Addr) (a1 : Addr) (b1 : Addr) (k1 : ClassId) (vs1 : List Value) (a2 : Addr) (b2 : Addr) (k2 : ClassId) (vs2 : List Value) (z : Int32) (wcs : Int32) : entryFrame m #[(.ref l1), (.ref l2)] 2 = mkF m 0 #[.val (.ref l1), .val (.ref l2)] [] := by first | (simp [entryFrame, mkF, argsToLocals, Value.category]; done) | rfl
set_option maxRecDepth 65536 in
set_option maxHeartbeats 40000000 in
theorem m23_1 (l : Launch) (Z : State) (a0 : Array Value) (hw : ∀ d ∈ tables_1, d.before a0 Z = true) (ws : List Jvm.Cond) (l1 : Addr) (l2 : Addr) (a1 : Addr) (b1 : Addr) (k1 : ClassId) (vs1 : List Value) (a2 : Addr) (b2 : Addr) (k2 : ClassId) (vs2 : List Value) (z : Int32) (wcs : Int32) (h0 : Heap) (n0 : Nat) (Z0 : n0 ≤ h0.size) (E_l1 : Exa Z h0 l1 "com/example/portunus/portunus/lock/LockName") (E_l2 : Exa Z h0 l2 "com/example/portunus/portunus/lock/LockName") (F_l1 : Fld Z h0 l1 "com/example/portunus/portunus/lock/LockName" "text" "Ljava/lang/String;" (.ref a1)) (F_l2 : Fld Z h0 l2 "com/example/portunus/portunus/lock/LockName" "text" "Ljava/lang/String;" (.ref a2)) (E_a1 : Exa Z h0 a1 "java/lang/String") (Fc_a1 : Fld Z h0 a1 "java/lang/String" "coder" "B" (.int (0 : Int32))) (Fv_a1 : Fld Z h0 a1 "java/lang/String" "value" "[B" (.ref b1)) (V1 : Arv Z h0 b1 k1 .byte z vs1 (.int (0 : Int32))) (E_a2 : Exa Z h0 a2 "java/lang/String") (Fc_a2 : Fld Z h0 a2 "java/lang/String" "coder" "B" (.int (0 : Int32))) (Fv_a2 : Fld Z h0 a2 "java/lang/String" "value" "[B" (.ref b2)) (V2 : Arv Z h0 b2 k2 .byte z vs2 (.int (0 : Int32))) (S_CS : Sta Z h0 "java/lang/String" "COMPACT_STRINGS" "Z" (.int wcs)) (ncs : ¬ (wcs = (0 : Int32))) (na : a1 ≠ a2) (hq : own_EQ z vs1 vs2 (1 : Int32)) :
    MetFree l (⟨"com/example/portunus/portunus/lock/LockName", "equals", "(Ljava/lang/Object;)Z"⟩ : MethodName) (head1 (Jvm.Cond.code (⟨"com/example/portunus/portunus/lock/LockName", "equals", "(Ljava/lang/Object;)Z"⟩ : MethodName) prog_10_method_4_code 2 (some .boolean) :: ws) ({ frames := 2, cells := 0, slots := 0, locals := 28 } : Room)) (fun ar_ U => ar_ = #[(.ref l1), (.ref l2)] ∧ Z.Warmed39 U.vm ∧ U.heap = h0) (fun _ _ _ _ _ => True) (fun _ U o U' => ∃ v L, o = .returned v ∧ Q_m23_1 Z l1 l2 a1 b1 k1 vs1 a2 b2 k2 vs2 z wcs h0 n0 v U'.heap L ∧ FrameEnd U o U' L ({ frames := 2, cells := 0, slots := 0, locals := 28 } : Room).cells ({ frames := 2, cells := 0, slots := 0, locals := 28 } : Room).slots) := by
  refine MetFree.of_bodySF (plainFor_of_name pnx_com_example_portunus_portunus_lock_LockName) hisR ?_
  intro p e s m args below meth c s₁ Bd hml0 hP hK
  obtain ⟨rfl, hZ, hh⟩ := hP
  have hx := Bd.exec
  have hby := Bd.bytes
  have hml : c.maxLocals = 2 := hml0
  have hown : s.vm.findClass "com/example/portunus/portunus/lock/LockName" = some m.cls := findClass_of_methodNamed Bd.named
  have hnm := (name_of_methodNamed Bd.named Bd.method).1
  have X0 : Stand p l e ({ frames := 2, cells := 0, slots := 0, locals := 28 } : Room) s m #[(.ref l1), (.ref l2)] below meth c s₁ [] 0 0 := Stand.of_body Bd
  have e0 : s₁.heap = h0 := by rw [← hh, Bd.state]; rfl
  have N0 := Fr.nil n0
  have pre0 : ∀ tq_, Steps p.tables e below (s₁.setTop (mkF m 0 #[.val (.ref l1), .val (.ref l2)] [])) tq_ → Steps p.tables e below (s₁.setTop (entryFrame m #[(.ref l1), (.ref l2)] 2)) tq_ := fun tq_ kt_ => castTop (ef_m23_1 m l1 l2 a1 b1 k1 vs1 a2 b2 k2 vs2 z wcs ) kt_
  obtain ⟨T1, X1, e1, st1⟩ := instY X0 hx hZ hown (wk hw 90 rfl) e0 (Ins.self E_l2) (g := (mkF m 1 #[.val (.ref l1), .val (.ref l2)] [(.ref l2)])) rfl rfl (hb hby d23_1)
  obtain ⟨T2, X2, e2, st2⟩ := getF X1 hx hZ hown (host := "") (Or.inl (wk hw 96 rfl)) Via.refl e1 F_l1 (g := (mkF m 8 #[.val (.ref l1), .val (.ref l2)] [(.ref l1)])) rfl rfl (hb hby d23_8)
  obtain ⟨T3, X3, e3, st3⟩ := castY X2 hx hZ hown (wk hw 90 rfl) e2 (Ins.self E_l2) (g := (mkF m 12 #[.val (.ref l1), .val (.ref l2)] [(.ref l2), (.ref a1)])) rfl rfl (hb hby d23_12)
  obtain ⟨T4, X4, e4, st4⟩ := getF X3 hx hZ hown (host := "") (Or.inl (wk hw 96 rfl)) Via.refl e3 F_l2 (g := (mkF m 15 #[.val (.ref l1), .val (.ref l2)] [(.ref l2), (.ref a1)])) rfl rfl (hb hby d23_15)
  obtain ⟨cq5, kq5, qa5, qb5, qc5⟩ := isOf hZ e4 E_a1
  obtain ⟨_, _, ⟨T5, L5, kk5, nn5⟩, -, X5, ⟨Lc5, hQ5, l5, y5, z5⟩, st5⟩ := X4.virtualBack hx (y := (⟨"java/lang/String", "equals", "(Ljava/lang/Object;)Z"⟩ : MethodName)) (z := (⟨"java/lang/String", "equals", "(Ljava/lang/Object;)Z"⟩ : MethodName)) hown (mvT hZ (wk hw 114 rfl)) (mvT hZ (wk hw 104 rfl)) (notFace_of_selects (args := #[]) (mvT hZ (wk hw 106 rfl))) (mvT hZ (wk hw 106 rfl)) (mvT hZ (wk hw 105 rfl)) (by decide) (backOf (W := 0) (m22_1 l Z a0 hw [] a1 b1 k1 vs1 a2 b2 k2 vs2 z wcs h0 n0 Z0 E_a1 Fc_a1 Fv_a1 V1 E_a2 Fc_a2 Fv_a2 V2 S_CS ncs na hq) hZ (wk hw 107 rfl) (wk hw 10 rfl) (by decide) (by decide)) qa5 qc5 (g := (mkF m 18 #[.val (.ref l1), .val (.ref l2)] [(.ref a2), (.ref a1)])) rfl (by rw [hml]; rfl) (Steps.refl _) (argsL := [(.ref a2)]) (rest := []) (lenOf pdx__Ljava_lang_Object__Z rfl) rfl (by show 2 * 0 + _ ≤ _; exact Nat.le_of_eq rfl) (hb hby d23_18) (fun _ _ => ⟨rfl, e4, nle rfl, nle rfl⟩)
  dsimp only [Pt.U, Pt.locs, Pt.cells, Pt.slots] at X5 l5 y5 z5 st5 hQ5
  subst l5 y5 z5
  obtain ⟨rfl, Nq5, e5⟩ := hQ5
  have N5 := Fr.app N0 Nq5
  obtain ⟨fs, hr, hrun, hended, hW, hsame⟩ := X5.leave (v := some (.int (1 : Int32))) (fun h => by rw [Bd.returns] at h; cases h)
  refine ⟨_, _, pre0 _ ?_, hrun, hended, _, _, rfl, ?_, ⟨_, rfl⟩, hW, hsame.mono (nle rfl) (nle rfl)⟩
  · show Steps p.tables e below (s₁.setTop (mkF m 0 #[.val (.ref l1), .val (.ref l2)] [])) _
    refine XS.aloadN X0.here hx rfl (hb hby d23_0) rfl rfl ?_
    show Steps p.tables e below (s₁.setTop (mkF m 1 #[.val (.ref l1), .val (.ref l2)] [(.ref l2)])) _
    refine st1 _ ?_
    show Steps p.tables e below (T1.setTop (mkF m 4 #[.val (.ref l1), .val (.ref l2)] [(.int (1 : Int32))])) _
    refine XS.ifNo X1.here hx rfl (hb hby d23_4) rfl ((if0 _ _).trans (feq (by decide : ¬ ((1 : Int32) = (0 : Int32)))).1) ?_
    show Steps p.tables e below (T1.setTop (mkF m 7 #[.val (.ref l1), .val (.ref l2)] [])) _
    refine XS.aloadN X1.here hx rfl (hb hby d23_7) rfl rfl ?_
    show Steps p.tables e below (T1.setTop (mkF m 8 #[.val (.ref l1), .val (.ref l2)] [(.ref l1)])) _
    refine st2 _ ?_
    show Steps p.tables e below (T2.setTop (mkF m 11 #[.val (.ref l1), .val (.ref l2)] [(.ref a1)])) _
    refine XS.aloadN X2.here hx rfl (hb hby d23_11) rfl rfl ?_
    show Steps p.tables e below (T2.setTop (mkF m 12 #[.val (.ref l1), .val (.ref l2)] [(.ref l2), (.ref a1)])) _
    refine st3 _ ?_
    show Steps p.tables e below (T3.setTop (mkF m 15 #[.val (.ref l1), .val (.ref l2)] [(.ref l2), (.ref a1)])) _
    refine st4 _ ?_
    show Steps p.tables e below (T4.setTop (mkF m 18 #[.val (.ref l1), .val (.ref l2)] [(.ref a2), (.ref a1)])) _
    refine st5.trans ?_
    show Steps p.tables e below (T5.setTop (mkF m 21 #[.val (.ref l1), .val (.ref l2)] [(.int (1 : Int32))])) _
    refine XS.ifNo X5.here hx rfl (hb hby d23_21) rfl ((if0 _ _).trans (feq (by decide : ¬ ((1 : Int32) = (0 : Int32)))).1) ?_
    show Steps p.tables e below (T5.setTop (mkF m 24 #[.val (.ref l1), .val (.ref l2)] [])) _
    refine XS.iconst X5.here hx rfl (hb hby d23_24) ?_
    show Steps p.tables e below (T5.setTop (mkF m 25 #[.val (.ref l1), .val (.ref l2)] [(.int (1 : Int32))])) _
    refine XS.goto X5.here hx rfl (pc0 := 25) (pc' := 29) rfl (hb hby d23_25) (by decide) (by decide) ?_
    show Steps p.tables e below (T5.setTop (mkF m 29 #[.val (.ref l1), .val (.ref l2)] [(.int (1 : Int32))])) _
    exact own_retN X5 hx (t := .boolean) rfl Bd.returns (by simp) (hb hby d23_29) hr
  · show Q_m23_1 Z l1 l2 a1 b1 k1 vs1 a2 b2 k2 vs2 z wcs h0 n0 _ T5.heap _
    exact ⟨rfl, N5, e5⟩
def own_l (z a b c d : Int32) : List Value := if z = 1 then [(.int (own_by a))] else if z = 2 then [(.int (own_by a)), (.int (own_by b))] else if z = 3 then [(.int (own_by a)), (.int (own_by b)), (.int (own_by c))] else [(.int (own_by a)), (.int (own_by b)), (.int (own_by c)), (.int (own_by d))]
theorem own_lt4 (j : Int32) (h : ¬ j < 0) (k : j < 4) : j = 0 ∨ j = 1 ∨ j = 2 ∨ j = 3 := by
  simp only [Int32.lt_iff_toInt_lt, ← Int32.toInt_inj, show (0:Int32).toInt = 0 from by decide, show (1:Int32).toInt = 1 from by decide, show (2:Int32).toInt = 2 from by decide, show (3:Int32).toInt = 3 from by decide, show (4:Int32).toInt = 4 from by decide] at *
  omega
theorem own_lt3 (j : Int32) (h : ¬ j < 0) (k : j < 3) : j = 0 ∨ j = 1 ∨ j = 2 := by
  simp only [Int32.lt_iff_toInt_lt, ← Int32.toInt_inj, show (0:Int32).toInt = 0 from by decide, show (1:Int32).toInt = 1 from by decide, show (2:Int32).toInt = 2 from by decide, show (3:Int32).toInt = 3 from by decide] at *
  omega
theorem own_lt2 (j : Int32) (h : ¬ j < 0) (k : j < 2) : j = 0 ∨ j = 1 := by
  simp only [Int32.lt_iff_toInt_lt, ← Int32.toInt_inj, show (0:Int32).toInt = 0 from by decide, show (1:Int32).toInt = 1 from by decide, show (2:Int32).toInt = 2 from by decide] at *
  omega
theorem own_lt1 (j : Int32) (h : ¬ j < 0) (k : j < 1) : j = 0 := by
  simp only [Int32.lt_iff_toInt_lt, ← Int32.toInt_inj, show (0:Int32).toInt = 0 from by decide, show (1:Int32).toInt = 1 from by decide] at *
  omega
theorem own_four (x : Int32) : (1 : Int32) + (x &&& (3 : Int32)) = 1 ∨ (1 : Int32) + (x &&& (3 : Int32)) = 2 ∨ (1 : Int32) + (x &&& (3 : Int32)) = 3 ∨ (1 : Int32) + (x &&& (3 : Int32)) = 4 := by
  have t : ∀ i : Fin 4, (1 : Int32) + Int32.ofNat i.val = 1 ∨ (1 : Int32) + Int32.ofNat i.val = 2 ∨ (1 : Int32) + Int32.ofNat i.val = 3 ∨ (1 : Int32) + Int32.ofNat i.val = 4 := by decide
  have h : (x &&& 3).toBitVec.toNat < 4 := by
    simp only [Int32.toBitVec_and, BitVec.toNat_and]
    exact Nat.lt_succ_of_le Nat.and_le_right
  have e : (x &&& 3) = Int32.ofNat (x &&& 3).toBitVec.toNat := by
    apply Int32.toBitVec_inj.mp
    show _ = BitVec.ofNat 32 _
    rw [BitVec.ofNat_toNat]; simp
  rw [e]
  exact t ⟨_, h⟩
theorem own_alL {z a b c d : Int32} (hz : z = 1 ∨ z = 2 ∨ z = 3 ∨ z = 4) (qa : own_good a) (qb : own_good b) (qc : own_good c) (qd : own_good d) : own_AL z (own_l z a b c d) := by
  rcases hz with rfl | rfl | rfl | rfl
  · exact Or.inl ⟨rfl, own_by a, rfl, qa.2⟩
  · exact Or.inr (Or.inl ⟨rfl, own_by a, own_by b, rfl, qa.2, qb.2⟩)
  · exact Or.inr (Or.inr (Or.inl ⟨rfl, own_by a, own_by b, own_by c, rfl, qa.2, qb.2, qc.2⟩))
  · exact Or.inr (Or.inr (Or.inr (⟨rfl, own_by a, own_by b, own_by c, own_by d, rfl, qa.2, qb.2, qc.2, qd.2⟩)))
theorem own_eqL1 {z a a' b c d : Int32} (hz : z = 1 ∨ z = 2 ∨ z = 3 ∨ z = 4) (h : own_by a = own_by a') : own_EQ z (own_l z a b c d) (own_l z a' b c d) 1 := by
  refine Or.inr ⟨rfl, hz, fun j h0 h1 => ?_⟩
  rcases hz with rfl | rfl | rfl | rfl
  · rcases own_lt1 j h0 h1 with rfl
    · exact ⟨_, rfl, congrArg Value.int h.symm⟩
  · rcases own_lt2 j h0 h1 with rfl | rfl
    · exact ⟨_, rfl, congrArg Value.int h.symm⟩
    · exact ⟨_, rfl, rfl⟩
  · rcases own_lt3 j h0 h1 with rfl | rfl | rfl
    · exact ⟨_, rfl, congrArg Value.int h.symm⟩
    · exact ⟨_, rfl, rfl⟩
    · exact ⟨_, rfl, rfl⟩
  · rcases own_lt4 j h0 h1 with rfl | rfl | rfl | rfl
    · exact ⟨_, rfl, congrArg Value.int h.symm⟩
    · exact ⟨_, rfl, rfl⟩
    · exact ⟨_, rfl, rfl⟩
    · exact ⟨_, rfl, rfl⟩
theorem own_eqL0 {z a a' b c d : Int32} (hz : z = 1 ∨ z = 2 ∨ z = 3 ∨ z = 4) (h : ¬ own_by a = own_by a') : own_EQ z (own_l z a b c d) (own_l z a' b c d) 0 := by
  rcases hz with rfl | rfl | rfl | rfl
  · exact Or.inl ⟨rfl, by decide, _, _, rfl, rfl, h⟩
  · exact Or.inl ⟨rfl, by decide, _, _, rfl, rfl, h⟩
  · exact Or.inl ⟨rfl, by decide, _, _, rfl, rfl, h⟩
  · exact Or.inl ⟨rfl, by decide, _, _, rfl, rfl, h⟩
theorem pdx__I_C : parseMethodDescriptor "(I)C" = some ⟨[.int], some .char⟩ := by decide +kernel
set_option maxRecDepth 65536 in
set_option maxHeartbeats 40000000 in
theorem seg1 {p : Program} {l : Launch} {e : Env} {s : State} {m : MethodId} {args : Array Value} {below : List Frame} {meth : Method} {c : Code} {Z : State} {a0 : Array Value} (hw : ∀ d ∈ tables_1, d.before a0 Z = true) (hx : p.tables.exec = Jvm.exec) (hby : c.code = code) (hml : c.maxLocals = 15) (hZ : Z.Warmed39 s.vm) (hown : s.vm.findClass "com/example/portunus/portunus/lock/LockNameOfPinLaw" = some m.cls) {T : State} {locs : List Loc} (X0 : Stand p l e room_1 s m args below meth c T locs 0 0) {h0 : Heap} (e0 : T.heap = h0) {n0 : Nat} (Z0 : n0 ≤ h0.size) (N0 : Fr n0 locs) (p1 p2 p3 p4 p5 p6 : Int32) :
    ∃ (T' : State) (locs' : List Loc), Stand p l e room_1 s m args below meth c T' locs' 0 0 ∧ T'.heap = h0 ∧ Fr n0 locs' ∧ ∀ t, Steps p.tables e below (T'.setTop (mkF m 38 #[.val (.int p1), .val (.int p2), .val (.int p3), .val (.int p4), .val (.int p5), .val (.int p6), .val (.int ((1 : Int32) + (p1 &&& (3 : Int32)))), .val (.int (own_c p3)), .val (.int (own_c p4)), .val (.int (own_c p5)), .unset, .unset, .unset, .unset, .unset] [(.int (own_c p5)), (.int (own_c p4)), (.int (own_c p3)), (.int (own_c p2)), (.int ((1 : Int32) + (p1 &&& (3 : Int32))))])) t → Steps p.tables e below (T.setTop (mkF m 0 #[.val (.int p1), .val (.int p2), .val (.int p3), .val (.int p4), .val (.int p5), .val (.int p6), .unset, .unset, .unset, .unset, .unset, .unset, .unset, .unset, .unset] [])) t := by
  obtain ⟨_, _, ⟨T1, L1, kk1, nn1⟩, -, X1, ⟨Lc1, hQ1, l1, y1, z1⟩, st1⟩ := Jvm.LawKit.callS X0 hx (y := (⟨"com/example/portunus/portunus/lock/LockNameOfPinLaw", "ch", "(I)C"⟩ : MethodName)) hown (mvT hZ (wk hw 0 rfl)) (mvT hZ (wk hw 1 rfl)) (mvT hZ (wk hw 2 rfl)) (mvT hZ (wk hw 3 rfl)) (by decide) (backOf (W := 0) (m1 l Z a0 hw [] p3 h0 n0 Z0 ) hZ (wk hw 3 rfl) (wk hw 2 rfl) (by decide) (by decide)) (g := (mkF m 8 #[.val (.int p1), .val (.int p2), .val (.int p3), .val (.int p4), .val (.int p5), .val (.int p6), .val (.int ((1 : Int32) + (p1 &&& (3 : Int32)))), .unset, .unset, .unset, .unset, .unset, .unset, .unset, .unset] [(.int p3)])) rfl (by rw [hml]; rfl) (argsL := [(.int p3)]) (rest := []) (lenOf pdx__I_C rfl) rfl (by show 2 * 0 + _ ≤ _; exact Nat.le_of_eq rfl) (hb hby at_8) (fun _ _ => ⟨rfl, e0, nle rfl, nle rfl⟩)
  dsimp only [Pt.U, Pt.locs, Pt.cells, Pt.slots] at X1 l1 y1 z1 st1 hQ1
  subst l1 y1 z1
  obtain ⟨rfl, Nq1, e1⟩ := hQ1
  have N1 := Fr.app N0 Nq1
  obtain ⟨_, _, ⟨T2, L2, kk2, nn2⟩, -, X2, ⟨Lc2, hQ2, l2, y2, z2⟩, st2⟩ := Jvm.LawKit.callS X1 hx (y := (⟨"com/example/portunus/portunus/lock/LockNameOfPinLaw", "ch", "(I)C"⟩ : MethodName)) hown (mvT hZ (wk hw 0 rfl)) (mvT hZ (wk hw 1 rfl)) (mvT hZ (wk hw 2 rfl)) (mvT hZ (wk hw 3 rfl)) (by decide) (backOf (W := 0) (m1 l Z a0 hw [] p4 h0 n0 Z0 ) hZ (wk hw 3 rfl) (wk hw 2 rfl) (by decide) (by decide)) (g := (mkF m 14 #[.val (.int p1), .val (.int p2), .val (.int p3), .val (.int p4), .val (.int p5), .val (.int p6), .val (.int ((1 : Int32) + (p1 &&& (3 : Int32)))), .val (.int (own_c p3)), .unset, .unset, .unset, .unset, .unset, .unset, .unset] [(.int p4)])) rfl (by rw [hml]; rfl) (argsL := [(.int p4)]) (rest := []) (lenOf pdx__I_C rfl) rfl (by show 2 * 0 + _ ≤ _; exact Nat.le_of_eq rfl) (hb hby at_14) (fun _ _ => ⟨rfl, e1, nle rfl, nle rfl⟩)
  dsimp only [Pt.U, Pt.locs, Pt.cells, Pt.slots] at X2 l2 y2 z2 st2 hQ2
  subst l2 y2 z2
  obtain ⟨rfl, Nq2, e2⟩ := hQ2
  have N2 := Fr.app N1 Nq2
  obtain ⟨_, _, ⟨T3, L3, kk3, nn3⟩, -, X3, ⟨Lc3, hQ3, l3, y3, z3⟩, st3⟩ := Jvm.LawKit.callS X2 hx (y := (⟨"com/example/portunus/portunus/lock/LockNameOfPinLaw", "ch", "(I)C"⟩ : MethodName)) hown (mvT hZ (wk hw 0 rfl)) (mvT hZ (wk hw 1 rfl)) (mvT hZ (wk hw 2 rfl)) (mvT hZ (wk hw 3 rfl)) (by decide) (backOf (W := 0) (m1 l Z a0 hw [] p5 h0 n0 Z0 ) hZ (wk hw 3 rfl) (wk hw 2 rfl) (by decide) (by decide)) (g := (mkF m 21 #[.val (.int p1), .val (.int p2), .val (.int p3), .val (.int p4), .val (.int p5), .val (.int p6), .val (.int ((1 : Int32) + (p1 &&& (3 : Int32)))), .val (.int (own_c p3)), .val (.int (own_c p4)), .unset, .unset, .unset, .unset, .unset, .unset] [(.int p5)])) rfl (by rw [hml]; rfl) (argsL := [(.int p5)]) (rest := []) (lenOf pdx__I_C rfl) rfl (by show 2 * 0 + _ ≤ _; exact Nat.le_of_eq rfl) (hb hby at_21) (fun _ _ => ⟨rfl, e2, nle rfl, nle rfl⟩)
  dsimp only [Pt.U, Pt.locs, Pt.cells, Pt.slots] at X3 l3 y3 z3 st3 hQ3
  subst l3 y3 z3
  obtain ⟨rfl, Nq3, e3⟩ := hQ3
  have N3 := Fr.app N2 Nq3
  obtain ⟨_, _, ⟨T4, L4, kk4, nn4⟩, -, X4, ⟨Lc4, hQ4, l4, y4, z4⟩, st4⟩ := Jvm.LawKit.callS X3 hx (y := (⟨"com/example/portunus/portunus/lock/LockNameOfPinLaw", "ch", "(I)C"⟩ : MethodName)) hown (mvT hZ (wk hw 0 rfl)) (mvT hZ (wk hw 1 rfl)) (mvT hZ (wk hw 2 rfl)) (mvT hZ (wk hw 3 rfl)) (by decide) (backOf (W := 1) (m1 l Z a0 hw [] p2 h0 n0 Z0 ) hZ (wk hw 3 rfl) (wk hw 2 rfl) (by decide) (by decide)) (g := (mkF m 29 #[.val (.int p1), .val (.int p2), .val (.int p3), .val (.int p4), .val (.int p5), .val (.int p6), .val (.int ((1 : Int32) + (p1 &&& (3 : Int32)))), .val (.int (own_c p3)), .val (.int (own_c p4)), .val (.int (own_c p5)), .unset, .unset, .unset, .unset, .unset] [(.int p2), (.int ((1 : Int32) + (p1 &&& (3 : Int32))))])) rfl (by rw [hml]; rfl) (argsL := [(.int p2)]) (rest := [(.int ((1 : Int32) + (p1 &&& (3 : Int32))))]) (lenOf pdx__I_C rfl) rfl (by show 2 * 0 + _ ≤ _; exact Nat.le_of_eq rfl) (hb hby at_29) (fun _ _ => ⟨rfl, e3, nle rfl, nle rfl⟩)
  dsimp only [Pt.U, Pt.locs, Pt.cells, Pt.slots] at X4 l4 y4 z4 st4 hQ4
  subst l4 y4 z4
  obtain ⟨rfl, Nq4, e4⟩ := hQ4
  have N4 := Fr.app N3 Nq4
  refine ⟨T4, _, X4, e4, N4, fun t kont => ?_⟩
  · show Steps p.tables e below (T.setTop (mkF m 0 #[.val (.int p1), .val (.int p2), .val (.int p3), .val (.int p4), .val (.int p5), .val (.int p6), .unset, .unset, .unset, .unset, .unset, .unset, .unset, .unset, .unset] [])) _
    refine XS.iconst X0.here hx rfl (hb hby at_0) ?_
    show Steps p.tables e below (T.setTop (mkF m 1 #[.val (.int p1), .val (.int p2), .val (.int p3), .val (.int p4), .val (.int p5), .val (.int p6), .unset, .unset, .unset, .unset, .unset, .unset, .unset, .unset, .unset] [(.int (1 : Int32))])) _
    refine XS.iloadN X0.here hx rfl (hb hby at_1) rfl ?_
    show Steps p.tables e below (T.setTop (mkF m 2 #[.val (.int p1), .val (.int p2), .val (.int p3), .val (.int p4), .val (.int p5), .val (.int p6), .unset, .unset, .unset, .unset, .unset, .unset, .unset, .unset, .unset] [(.int p1), (.int (1 : Int32))])) _
    refine XS.iconst X0.here hx rfl (hb hby at_2) ?_
    show Steps p.tables e below (T.setTop (mkF m 3 #[.val (.int p1), .val (.int p2), .val (.int p3), .val (.int p4), .val (.int p5), .val (.int p6), .unset, .unset, .unset, .unset, .unset, .unset, .unset, .unset, .unset] [(.int (3 : Int32)), (.int p1), (.int (1 : Int32))])) _
    refine XS.iand X0.here hx rfl (hb hby at_3) rfl ?_
    show Steps p.tables e below (T.setTop (mkF m 4 #[.val (.int p1), .val (.int p2), .val (.int p3), .val (.int p4), .val (.int p5), .val (.int p6), .unset, .unset, .unset, .unset, .unset, .unset, .unset, .unset, .unset] [(.int (p1 &&& (3 : Int32))), (.int (1 : Int32))])) _
    refine XS.iadd X0.here hx rfl (hb hby at_4) rfl ?_
    show Steps p.tables e below (T.setTop (mkF m 5 #[.val (.int p1), .val (.int p2), .val (.int p3), .val (.int p4), .val (.int p5), .val (.int p6), .unset, .unset, .unset, .unset, .unset, .unset, .unset, .unset, .unset] [(.int ((1 : Int32) + (p1 &&& (3 : Int32))))])) _
    refine XS.istore X0.here hx rfl (hb hby at_5) rfl (l' := #[.val (.int p1), .val (.int p2), .val (.int p3), .val (.int p4), .val (.int p5), .val (.int p6), .val (.int ((1 : Int32) + (p1 &&& (3 : Int32)))), .unset, .unset, .unset, .unset, .unset, .unset, .unset, .unset]) rfl ?_
    show Steps p.tables e below (T.setTop (mkF m 7 #[.val (.int p1), .val (.int p2), .val (.int p3), .val (.int p4), .val (.int p5), .val (.int p6), .val (.int ((1 : Int32) + (p1 &&& (3 : Int32)))), .unset, .unset, .unset, .unset, .unset, .unset, .unset, .unset] [])) _
    refine XS.iloadN X0.here hx rfl (hb hby at_7) rfl ?_
    show Steps p.tables e below (T.setTop (mkF m 8 #[.val (.int p1), .val (.int p2), .val (.int p3), .val (.int p4), .val (.int p5), .val (.int p6), .val (.int ((1 : Int32) + (p1 &&& (3 : Int32)))), .unset, .unset, .unset, .unset, .unset, .unset, .unset, .unset] [(.int p3)])) _
    refine st1 _ ?_
    show Steps p.tables e below (T1.setTop (mkF m 11 #[.val (.int p1), .val (.int p2), .val (.int p3), .val (.int p4), .val (.int p5), .val (.int p6), .val (.int ((1 : Int32) + (p1 &&& (3 : Int32)))), .unset, .unset, .unset, .unset, .unset, .unset, .unset, .unset] [(.int (own_c p3))])) _
    refine XS.istore X1.here hx rfl (hb hby at_11) rfl (l' := #[.val (.int p1), .val (.int p2), .val (.int p3), .val (.int p4), .val (.int p5), .val (.int p6), .val (.int ((1 : Int32) + (p1 &&& (3 : Int32)))), .val (.int (own_c p3)), .unset, .unset, .unset, .unset, .unset, .unset, .unset]) rfl ?_
    show Steps p.tables e below (T1.setTop (mkF m 13 #[.val (.int p1), .val (.int p2), .val (.int p3), .val (.int p4), .val (.int p5), .val (.int p6), .val (.int ((1 : Int32) + (p1 &&& (3 : Int32)))), .val (.int (own_c p3)), .unset, .unset, .unset, .unset, .unset, .unset, .unset] [])) _
    refine XS.iloadN X1.here hx rfl (hb hby at_13) rfl ?_
    show Steps p.tables e below (T1.setTop (mkF m 14 #[.val (.int p1), .val (.int p2), .val (.int p3), .val (.int p4), .val (.int p5), .val (.int p6), .val (.int ((1 : Int32) + (p1 &&& (3 : Int32)))), .val (.int (own_c p3)), .unset, .unset, .unset, .unset, .unset, .unset, .unset] [(.int p4)])) _
    refine st2 _ ?_
    show Steps p.tables e below (T2.setTop (mkF m 17 #[.val (.int p1), .val (.int p2), .val (.int p3), .val (.int p4), .val (.int p5), .val (.int p6), .val (.int ((1 : Int32) + (p1 &&& (3 : Int32)))), .val (.int (own_c p3)), .unset, .unset, .unset, .unset, .unset, .unset, .unset] [(.int (own_c p4))])) _
    refine XS.istore X2.here hx rfl (hb hby at_17) rfl (l' := #[.val (.int p1), .val (.int p2), .val (.int p3), .val (.int p4), .val (.int p5), .val (.int p6), .val (.int ((1 : Int32) + (p1 &&& (3 : Int32)))), .val (.int (own_c p3)), .val (.int (own_c p4)), .unset, .unset, .unset, .unset, .unset, .unset]) rfl ?_
    show Steps p.tables e below (T2.setTop (mkF m 19 #[.val (.int p1), .val (.int p2), .val (.int p3), .val (.int p4), .val (.int p5), .val (.int p6), .val (.int ((1 : Int32) + (p1 &&& (3 : Int32)))), .val (.int (own_c p3)), .val (.int (own_c p4)), .unset, .unset, .unset, .unset, .unset, .unset] [])) _
    refine XS.iload X2.here hx rfl (hb hby at_19) rfl ?_
    show Steps p.tables e below (T2.setTop (mkF m 21 #[.val (.int p1), .val (.int p2), .val (.int p3), .val (.int p4), .val (.int p5), .val (.int p6), .val (.int ((1 : Int32) + (p1 &&& (3 : Int32)))), .val (.int (own_c p3)), .val (.int (own_c p4)), .unset, .unset, .unset, .unset, .unset, .unset] [(.int p5)])) _
    refine st3 _ ?_
    show Steps p.tables e below (T3.setTop (mkF m 24 #[.val (.int p1), .val (.int p2), .val (.int p3), .val (.int p4), .val (.int p5), .val (.int p6), .val (.int ((1 : Int32) + (p1 &&& (3 : Int32)))), .val (.int (own_c p3)), .val (.int (own_c p4)), .unset, .unset, .unset, .unset, .unset, .unset] [(.int (own_c p5))])) _
    refine XS.istore X3.here hx rfl (hb hby at_24) rfl (l' := #[.val (.int p1), .val (.int p2), .val (.int p3), .val (.int p4), .val (.int p5), .val (.int p6), .val (.int ((1 : Int32) + (p1 &&& (3 : Int32)))), .val (.int (own_c p3)), .val (.int (own_c p4)), .val (.int (own_c p5)), .unset, .unset, .unset, .unset, .unset]) rfl ?_
    show Steps p.tables e below (T3.setTop (mkF m 26 #[.val (.int p1), .val (.int p2), .val (.int p3), .val (.int p4), .val (.int p5), .val (.int p6), .val (.int ((1 : Int32) + (p1 &&& (3 : Int32)))), .val (.int (own_c p3)), .val (.int (own_c p4)), .val (.int (own_c p5)), .unset, .unset, .unset, .unset, .unset] [])) _
    refine XS.iload X3.here hx rfl (hb hby at_26) rfl ?_
    show Steps p.tables e below (T3.setTop (mkF m 28 #[.val (.int p1), .val (.int p2), .val (.int p3), .val (.int p4), .val (.int p5), .val (.int p6), .val (.int ((1 : Int32) + (p1 &&& (3 : Int32)))), .val (.int (own_c p3)), .val (.int (own_c p4)), .val (.int (own_c p5)), .unset, .unset, .unset, .unset, .unset] [(.int ((1 : Int32) + (p1 &&& (3 : Int32))))])) _
    refine XS.iloadN X3.here hx rfl (hb hby at_28) rfl ?_
    show Steps p.tables e below (T3.setTop (mkF m 29 #[.val (.int p1), .val (.int p2), .val (.int p3), .val (.int p4), .val (.int p5), .val (.int p6), .val (.int ((1 : Int32) + (p1 &&& (3 : Int32)))), .val (.int (own_c p3)), .val (.int (own_c p4)), .val (.int (own_c p5)), .unset, .unset, .unset, .unset, .unset] [(.int p2), (.int ((1 : Int32) + (p1 &&& (3 : Int32))))])) _
    refine st4 _ ?_
    show Steps p.tables e below (T4.setTop (mkF m 32 #[.val (.int p1), .val (.int p2), .val (.int p3), .val (.int p4), .val (.int p5), .val (.int p6), .val (.int ((1 : Int32) + (p1 &&& (3 : Int32)))), .val (.int (own_c p3)), .val (.int (own_c p4)), .val (.int (own_c p5)), .unset, .unset, .unset, .unset, .unset] [(.int (own_c p2)), (.int ((1 : Int32) + (p1 &&& (3 : Int32))))])) _
    refine XS.iload X4.here hx rfl (hb hby at_32) rfl ?_
    show Steps p.tables e below (T4.setTop (mkF m 34 #[.val (.int p1), .val (.int p2), .val (.int p3), .val (.int p4), .val (.int p5), .val (.int p6), .val (.int ((1 : Int32) + (p1 &&& (3 : Int32)))), .val (.int (own_c p3)), .val (.int (own_c p4)), .val (.int (own_c p5)), .unset, .unset, .unset, .unset, .unset] [(.int (own_c p3)), (.int (own_c p2)), (.int ((1 : Int32) + (p1 &&& (3 : Int32))))])) _
    refine XS.iload X4.here hx rfl (hb hby at_34) rfl ?_
    show Steps p.tables e below (T4.setTop (mkF m 36 #[.val (.int p1), .val (.int p2), .val (.int p3), .val (.int p4), .val (.int p5), .val (.int p6), .val (.int ((1 : Int32) + (p1 &&& (3 : Int32)))), .val (.int (own_c p3)), .val (.int (own_c p4)), .val (.int (own_c p5)), .unset, .unset, .unset, .unset, .unset] [(.int (own_c p4)), (.int (own_c p3)), (.int (own_c p2)), (.int ((1 : Int32) + (p1 &&& (3 : Int32))))])) _
    refine XS.iload X4.here hx rfl (hb hby at_36) rfl ?_
    exact kont
theorem pdx__ICCCC_Ljava_lang_String_ : parseMethodDescriptor "(ICCCC)Ljava/lang/String;" = some ⟨[.int, .char, .char, .char, .char], some (.object "java/lang/String")⟩ := by decide +kernel
set_option maxRecDepth 65536 in
set_option maxHeartbeats 40000000 in
theorem seg2 {p : Program} {l : Launch} {e : Env} {s : State} {m : MethodId} {args : Array Value} {below : List Frame} {meth : Method} {c : Code} {Z : State} {a0 : Array Value} (hw : ∀ d ∈ tables_1, d.before a0 Z = true) (hx : p.tables.exec = Jvm.exec) (hby : c.code = code) (hml : c.maxLocals = 15) (hZ : Z.Warmed39 s.vm) (hown : s.vm.findClass "com/example/portunus/portunus/lock/LockNameOfPinLaw" = some m.cls) {T : State} {locs : List Loc} (X0 : Stand p l e room_1 s m args below meth c T locs 0 0) {h0 : Heap} (e0 : T.heap = h0) {n0 : Nat} (Z0 : n0 ≤ h0.size) (N0 : Fr n0 locs) (p1 p2 p3 p4 p5 p6 z ch0 ch1 ch2 ch3 wcs : Int32) (S_CS : Sta Z h0 "java/lang/String" "COMPACT_STRINGS" "Z" (.int wcs)) (ncs : ¬ (wcs = (0 : Int32))) (q0 : own_good ch0) (q1 : own_good ch1) (q2 : own_good ch2) (q3 : own_good ch3) (hz : z = 1 ∨ z = 2 ∨ z = 3 ∨ z = 4) :
    ∃ (T' : State) (h' : Heap) (locs' : List Loc) (a t : Addr) (k : ClassId), Stand p l e room_1 s m args below meth c T' locs' 4 16 ∧ T'.heap = h' ∧ Keep h0 h' [] ∧ Fr n0 locs' ∧ Exa Z h' a "java/lang/String" ∧ Fld Z h' a "java/lang/String" "coder" "B" (.int (0 : Int32)) ∧ Fld Z h' a "java/lang/String" "value" "[B" (.ref t) ∧ Arv Z h' t k .byte z (own_l z ch0 ch1 ch2 ch3) (.int (0 : Int32)) ∧ h0.size ≤ a ∧ ∀ t, Steps p.tables e below (T'.setTop (mkF m 41 #[.val (.int p1), .val (.int p2), .val (.int p3), .val (.int p4), .val (.int p5), .val (.int p6), .val (.int z), .val (.int ch1), .val (.int ch2), .val (.int ch3), .unset, .unset, .unset, .unset, .unset] [(.ref a)])) t → Steps p.tables e below (T.setTop (mkF m 38 #[.val (.int p1), .val (.int p2), .val (.int p3), .val (.int p4), .val (.int p5), .val (.int p6), .val (.int z), .val (.int ch1), .val (.int ch2), .val (.int ch3), .unset, .unset, .unset, .unset, .unset] [(.int ch3), (.int ch2), (.int ch1), (.int ch0), (.int z)])) t := by
  rcases hz with rfl | rfl | rfl | rfl
  · obtain ⟨_, _, ⟨T1, L1, kk1, nn1⟩, -, X1, ⟨Lc1, hQ1, l1, y1, z1⟩, st1⟩ := Jvm.LawKit.callS X0 hx (y := (⟨"com/example/portunus/portunus/lock/LockNameOfPinLaw", "make", "(ICCCC)Ljava/lang/String;"⟩ : MethodName)) hown (mvT hZ (wk hw 5 rfl)) (mvT hZ (wk hw 6 rfl)) (mvT hZ (wk hw 2 rfl)) (mvT hZ (wk hw 7 rfl)) (by decide) (backOf (W := 0) (m2_1 l Z a0 hw [] ch0 ch1 ch2 ch3 wcs h0 n0 Z0 S_CS ncs q0) hZ (wk hw 7 rfl) (wk hw 2 rfl) (by decide) (by decide)) (g := (mkF m 38 #[.val (.int p1), .val (.int p2), .val (.int p3), .val (.int p4), .val (.int p5), .val (.int p6), .val (.int (1 : Int32)), .val (.int ch1), .val (.int ch2), .val (.int ch3), .unset, .unset, .unset, .unset, .unset] [(.int ch3), (.int ch2), (.int ch1), (.int ch0), (.int (1 : Int32))])) rfl (by rw [hml]; rfl) (argsL := [(.int (1 : Int32)), (.int ch0), (.int ch1), (.int ch2), (.int ch3)]) (rest := []) (lenOf pdx__ICCCC_Ljava_lang_String_ rfl) rfl (by show 2 * 0 + _ ≤ _; exact Nat.le_of_eq rfl) (hb hby at_38) (fun _ _ => ⟨rfl, e0, nle rfl, nle rfl⟩)
    dsimp only [Pt.U, Pt.locs, Pt.cells, Pt.slots] at X1 l1 y1 z1 st1 hQ1
    subst l1 y1 z1
    obtain ⟨a, t, k, rfl, Nq1, Kq1, E1, Fc1, Fv1, V1, fr1⟩ := hQ1
    have N1 := Fr.app N0 Nq1
    exact ⟨T1, T1.heap, _, a, t, k, X1.more (cells' := 4) (slots' := 16) (nle rfl) (nle rfl), rfl, Kq1, N1, E1, Fc1, Fv1, V1, fr1, fun q kont => st1 _ kont⟩
  · obtain ⟨_, _, ⟨T1, L1, kk1, nn1⟩, -, X1, ⟨Lc1, hQ1, l1, y1, z1⟩, st1⟩ := Jvm.LawKit.callS X0 hx (y := (⟨"com/example/portunus/portunus/lock/LockNameOfPinLaw", "make", "(ICCCC)Ljava/lang/String;"⟩ : MethodName)) hown (mvT hZ (wk hw 5 rfl)) (mvT hZ (wk hw 6 rfl)) (mvT hZ (wk hw 2 rfl)) (mvT hZ (wk hw 7 rfl)) (by decide) (backOf (W := 0) (m2_2 l Z a0 hw [] ch0 ch1 ch2 ch3 wcs h0 n0 Z0 S_CS ncs q0 q1) hZ (wk hw 7 rfl) (wk hw 2 rfl) (by decide) (by decide)) (g := (mkF m 38 #[.val (.int p1), .val (.int p2), .val (.int p3), .val (.int p4), .val (.int p5), .val (.int p6), .val (.int (2 : Int32)), .val (.int ch1), .val (.int ch2), .val (.int ch3), .unset, .unset, .unset, .unset, .unset] [(.int ch3), (.int ch2), (.int ch1), (.int ch0), (.int (2 : Int32))])) rfl (by rw [hml]; rfl) (argsL := [(.int (2 : Int32)), (.int ch0), (.int ch1), (.int ch2), (.int ch3)]) (rest := []) (lenOf pdx__ICCCC_Ljava_lang_String_ rfl) rfl (by show 2 * 0 + _ ≤ _; exact Nat.le_of_eq rfl) (hb hby at_38) (fun _ _ => ⟨rfl, e0, nle rfl, nle rfl⟩)
    dsimp only [Pt.U, Pt.locs, Pt.cells, Pt.slots] at X1 l1 y1 z1 st1 hQ1
    subst l1 y1 z1
    obtain ⟨a, t, k, rfl, Nq1, Kq1, E1, Fc1, Fv1, V1, fr1⟩ := hQ1
    have N1 := Fr.app N0 Nq1
    exact ⟨T1, T1.heap, _, a, t, k, X1.more (cells' := 4) (slots' := 16) (nle rfl) (nle rfl), rfl, Kq1, N1, E1, Fc1, Fv1, V1, fr1, fun q kont => st1 _ kont⟩
  · obtain ⟨_, _, ⟨T1, L1, kk1, nn1⟩, -, X1, ⟨Lc1, hQ1, l1, y1, z1⟩, st1⟩ := Jvm.LawKit.callS X0 hx (y := (⟨"com/example/portunus/portunus/lock/LockNameOfPinLaw", "make", "(ICCCC)Ljava/lang/String;"⟩ : MethodName)) hown (mvT hZ (wk hw 5 rfl)) (mvT hZ (wk hw 6 rfl)) (mvT hZ (wk hw 2 rfl)) (mvT hZ (wk hw 7 rfl)) (by decide) (backOf (W := 0) (m2_3 l Z a0 hw [] ch0 ch1 ch2 ch3 wcs h0 n0 Z0 S_CS ncs q0 q1 q2) hZ (wk hw 7 rfl) (wk hw 2 rfl) (by decide) (by decide)) (g := (mkF m 38 #[.val (.int p1), .val (.int p2), .val (.int p3), .val (.int p4), .val (.int p5), .val (.int p6), .val (.int (3 : Int32)), .val (.int ch1), .val (.int ch2), .val (.int ch3), .unset, .unset, .unset, .unset, .unset] [(.int ch3), (.int ch2), (.int ch1), (.int ch0), (.int (3 : Int32))])) rfl (by rw [hml]; rfl) (argsL := [(.int (3 : Int32)), (.int ch0), (.int ch1), (.int ch2), (.int ch3)]) (rest := []) (lenOf pdx__ICCCC_Ljava_lang_String_ rfl) rfl (by show 2 * 0 + _ ≤ _; exact Nat.le_of_eq rfl) (hb hby at_38) (fun _ _ => ⟨rfl, e0, nle rfl, nle rfl⟩)
    dsimp only [Pt.U, Pt.locs, Pt.cells, Pt.slots] at X1 l1 y1 z1 st1 hQ1
    subst l1 y1 z1
    obtain ⟨a, t, k, rfl, Nq1, Kq1, E1, Fc1, Fv1, V1, fr1⟩ := hQ1
    have N1 := Fr.app N0 Nq1
    exact ⟨T1, T1.heap, _, a, t, k, X1.more (cells' := 4) (slots' := 16) (nle rfl) (nle rfl), rfl, Kq1, N1, E1, Fc1, Fv1, V1, fr1, fun q kont => st1 _ kont⟩
  · obtain ⟨_, _, ⟨T1, L1, kk1, nn1⟩, -, X1, ⟨Lc1, hQ1, l1, y1, z1⟩, st1⟩ := Jvm.LawKit.callS X0 hx (y := (⟨"com/example/portunus/portunus/lock/LockNameOfPinLaw", "make", "(ICCCC)Ljava/lang/String;"⟩ : MethodName)) hown (mvT hZ (wk hw 5 rfl)) (mvT hZ (wk hw 6 rfl)) (mvT hZ (wk hw 2 rfl)) (mvT hZ (wk hw 7 rfl)) (by decide) (backOf (W := 0) (m2_4 l Z a0 hw [] ch0 ch1 ch2 ch3 wcs h0 n0 Z0 S_CS ncs q0 q1 q2 q3) hZ (wk hw 7 rfl) (wk hw 2 rfl) (by decide) (by decide)) (g := (mkF m 38 #[.val (.int p1), .val (.int p2), .val (.int p3), .val (.int p4), .val (.int p5), .val (.int p6), .val (.int (4 : Int32)), .val (.int ch1), .val (.int ch2), .val (.int ch3), .unset, .unset, .unset, .unset, .unset] [(.int ch3), (.int ch2), (.int ch1), (.int ch0), (.int (4 : Int32))])) rfl (by rw [hml]; rfl) (argsL := [(.int (4 : Int32)), (.int ch0), (.int ch1), (.int ch2), (.int ch3)]) (rest := []) (lenOf pdx__ICCCC_Ljava_lang_String_ rfl) rfl (by show 2 * 0 + _ ≤ _; exact Nat.le_of_eq rfl) (hb hby at_38) (fun _ _ => ⟨rfl, e0, nle rfl, nle rfl⟩)
    dsimp only [Pt.U, Pt.locs, Pt.cells, Pt.slots] at X1 l1 y1 z1 st1 hQ1
    subst l1 y1 z1
    obtain ⟨a, t, k, rfl, Nq1, Kq1, E1, Fc1, Fv1, V1, fr1⟩ := hQ1
    have N1 := Fr.app N0 Nq1
    exact ⟨T1, T1.heap, _, a, t, k, X1.more (cells' := 4) (slots' := 16) (nle rfl) (nle rfl), rfl, Kq1, N1, E1, Fc1, Fv1, V1, fr1, fun q kont => st1 _ kont⟩
set_option maxRecDepth 65536 in
set_option maxHeartbeats 40000000 in
theorem seg3 {p : Program} {l : Launch} {e : Env} {s : State} {m : MethodId} {args : Array Value} {below : List Frame} {meth : Method} {c : Code} {Z : State} {a0 : Array Value} (hw : ∀ d ∈ tables_1, d.before a0 Z = true) (hx : p.tables.exec = Jvm.exec) (hby : c.code = code) (hml : c.maxLocals = 15) (hZ : Z.Warmed39 s.vm) (hown : s.vm.findClass "com/example/portunus/portunus/lock/LockNameOfPinLaw" = some m.cls) {T : State} {locs : List Loc} (X0 : Stand p l e room_1 s m args below meth c T locs 4 16) {h0 : Heap} (e0 : T.heap = h0) {n0 : Nat} (Z0 : n0 ≤ h0.size) (N0 : Fr n0 locs) (p1 p2 p3 p4 p5 p6 z ch1 ch2 ch3 : Int32) (a1 : Addr) :
    ∃ (ee : Int32) (T' : State) (locs' : List Loc), Stand p l e room_1 s m args below meth c T' locs' 4 16 ∧ T'.heap = h0 ∧ Fr n0 locs' ∧ ∀ t, Steps p.tables e below (T'.setTop (mkF m 73 #[.val (.int p1), .val (.int p2), .val (.int p3), .val (.int p4), .val (.int p5), .val (.int p6), .val (.int z), .val (.int ch1), .val (.int ch2), .val (.int ch3), .val (.ref a1), .val (.int ee), .unset, .unset, .unset] [(.int ch3), (.int ch2), (.int ch1), (.int (own_c ee)), (.int z)])) t → Steps p.tables e below (T.setTop (mkF m 41 #[.val (.int p1), .val (.int p2), .val (.int p3), .val (.int p4), .val (.int p5), .val (.int p6), .val (.int z), .val (.int ch1), .val (.int ch2), .val (.int ch3), .unset, .unset, .unset, .unset, .unset] [(.ref a1)])) t := by
  by_cases hd : (p6 &&& (1 : Int32)) = (0 : Int32)
  · obtain ⟨_, _, ⟨T1, L1, kk1, nn1⟩, -, X1, ⟨Lc1, hQ1, l1, y1, z1⟩, st1⟩ := Jvm.LawKit.callS X0 hx (y := (⟨"com/example/portunus/portunus/lock/LockNameOfPinLaw", "ch", "(I)C"⟩ : MethodName)) hown (mvT hZ (wk hw 0 rfl)) (mvT hZ (wk hw 1 rfl)) (mvT hZ (wk hw 2 rfl)) (mvT hZ (wk hw 3 rfl)) (by decide) (backOf (W := 1) (m1 l Z a0 hw [] (p6 >>> ((1 : Int32) &&& 31)) h0 n0 Z0 ) hZ (wk hw 3 rfl) (wk hw 2 rfl) (by decide) (by decide)) (g := (mkF m 64 #[.val (.int p1), .val (.int p2), .val (.int p3), .val (.int p4), .val (.int p5), .val (.int p6), .val (.int z), .val (.int ch1), .val (.int ch2), .val (.int ch3), .val (.ref a1), .val (.int (p6 >>> ((1 : Int32) &&& 31))), .unset, .unset, .unset] [(.int (p6 >>> ((1 : Int32) &&& 31))), (.int z)])) rfl (by rw [hml]; rfl) (argsL := [(.int (p6 >>> ((1 : Int32) &&& 31)))]) (rest := [(.int z)]) (lenOf pdx__I_C rfl) rfl (by show 2 * 0 + _ ≤ _; exact Nat.le_of_eq rfl) (hb hby at_64) (fun _ _ => ⟨rfl, e0, nle rfl, nle rfl⟩)
    dsimp only [Pt.U, Pt.locs, Pt.cells, Pt.slots] at X1 l1 y1 z1 st1 hQ1
    subst l1 y1 z1
    obtain ⟨rfl, Nq1, e1⟩ := hQ1
    have N1 := Fr.app N0 Nq1
    refine ⟨(p6 >>> ((1 : Int32) &&& 31)), T1, _, X1, e1, N1, fun t kont => ?_⟩
    show Steps p.tables e below (T.setTop (mkF m 41 #[.val (.int p1), .val (.int p2), .val (.int p3), .val (.int p4), .val (.int p5), .val (.int p6), .val (.int z), .val (.int ch1), .val (.int ch2), .val (.int ch3), .unset, .unset, .unset, .unset, .unset] [(.ref a1)])) _
    refine XS.astore X0.here hx rfl (hb hby at_41) rfl rfl (l' := #[.val (.int p1), .val (.int p2), .val (.int p3), .val (.int p4), .val (.int p5), .val (.int p6), .val (.int z), .val (.int ch1), .val (.int ch2), .val (.int ch3), .val (.ref a1), .unset, .unset, .unset, .unset]) rfl ?_
    show Steps p.tables e below (T.setTop (mkF m 43 #[.val (.int p1), .val (.int p2), .val (.int p3), .val (.int p4), .val (.int p5), .val (.int p6), .val (.int z), .val (.int ch1), .val (.int ch2), .val (.int ch3), .val (.ref a1), .unset, .unset, .unset, .unset] [])) _
    refine XS.iload X0.here hx rfl (hb hby at_43) rfl ?_
    show Steps p.tables e below (T.setTop (mkF m 45 #[.val (.int p1), .val (.int p2), .val (.int p3), .val (.int p4), .val (.int p5), .val (.int p6), .val (.int z), .val (.int ch1), .val (.int ch2), .val (.int ch3), .val (.ref a1), .unset, .unset, .unset, .unset] [(.int p6)])) _
    refine XS.iconst X0.here hx rfl (hb hby at_45) ?_
    show Steps p.tables e below (T.setTop (mkF m 46 #[.val (.int p1), .val (.int p2), .val (.int p3), .val (.int p4), .val (.int p5), .val (.int p6), .val (.int z), .val (.int ch1), .val (.int ch2), .val (.int ch3), .val (.ref a1), .unset, .unset, .unset, .unset] [(.int (1 : Int32)), (.int p6)])) _
    refine XS.iand X0.here hx rfl (hb hby at_46) rfl ?_
    show Steps p.tables e below (T.setTop (mkF m 47 #[.val (.int p1), .val (.int p2), .val (.int p3), .val (.int p4), .val (.int p5), .val (.int p6), .val (.int z), .val (.int ch1), .val (.int ch2), .val (.int ch3), .val (.ref a1), .unset, .unset, .unset, .unset] [(.int (p6 &&& (1 : Int32)))])) _
    refine XS.ifYes X0.here hx rfl (pc0 := 47) (pc' := 54) rfl (hb hby at_47) rfl ((if0 _ _).trans (teq (hd : (p6 &&& (1 : Int32)) = (0 : Int32))).1) (by decide) (by decide) ?_
    show Steps p.tables e below (T.setTop (mkF m 54 #[.val (.int p1), .val (.int p2), .val (.int p3), .val (.int p4), .val (.int p5), .val (.int p6), .val (.int z), .val (.int ch1), .val (.int ch2), .val (.int ch3), .val (.ref a1), .unset, .unset, .unset, .unset] [])) _
    refine XS.iload X0.here hx rfl (hb hby at_54) rfl ?_
    show Steps p.tables e below (T.setTop (mkF m 56 #[.val (.int p1), .val (.int p2), .val (.int p3), .val (.int p4), .val (.int p5), .val (.int p6), .val (.int z), .val (.int ch1), .val (.int ch2), .val (.int ch3), .val (.ref a1), .unset, .unset, .unset, .unset] [(.int p6)])) _
    refine XS.iconst X0.here hx rfl (hb hby at_56) ?_
    show Steps p.tables e below (T.setTop (mkF m 57 #[.val (.int p1), .val (.int p2), .val (.int p3), .val (.int p4), .val (.int p5), .val (.int p6), .val (.int z), .val (.int ch1), .val (.int ch2), .val (.int ch3), .val (.ref a1), .unset, .unset, .unset, .unset] [(.int (1 : Int32)), (.int p6)])) _
    refine XS.ishr X0.here hx rfl (hb hby at_57) rfl ?_
    show Steps p.tables e below (T.setTop (mkF m 58 #[.val (.int p1), .val (.int p2), .val (.int p3), .val (.int p4), .val (.int p5), .val (.int p6), .val (.int z), .val (.int ch1), .val (.int ch2), .val (.int ch3), .val (.ref a1), .unset, .unset, .unset, .unset] [(.int (p6 >>> ((1 : Int32) &&& 31)))])) _
    refine XS.istore X0.here hx rfl (hb hby at_58) rfl (l' := #[.val (.int p1), .val (.int p2), .val (.int p3), .val (.int p4), .val (.int p5), .val (.int p6), .val (.int z), .val (.int ch1), .val (.int ch2), .val (.int ch3), .val (.ref a1), .val (.int (p6 >>> ((1 : Int32) &&& 31))), .unset, .unset, .unset]) rfl ?_
    show Steps p.tables e below (T.setTop (mkF m 60 #[.val (.int p1), .val (.int p2), .val (.int p3), .val (.int p4), .val (.int p5), .val (.int p6), .val (.int z), .val (.int ch1), .val (.int ch2), .val (.int ch3), .val (.ref a1), .val (.int (p6 >>> ((1 : Int32) &&& 31))), .unset, .unset, .unset] [])) _
    refine XS.iload X0.here hx rfl (hb hby at_60) rfl ?_
    show Steps p.tables e below (T.setTop (mkF m 62 #[.val (.int p1), .val (.int p2), .val (.int p3), .val (.int p4), .val (.int p5), .val (.int p6), .val (.int z), .val (.int ch1), .val (.int ch2), .val (.int ch3), .val (.ref a1), .val (.int (p6 >>> ((1 : Int32) &&& 31))), .unset, .unset, .unset] [(.int z)])) _
    refine XS.iload X0.here hx rfl (hb hby at_62) rfl ?_
    show Steps p.tables e below (T.setTop (mkF m 64 #[.val (.int p1), .val (.int p2), .val (.int p3), .val (.int p4), .val (.int p5), .val (.int p6), .val (.int z), .val (.int ch1), .val (.int ch2), .val (.int ch3), .val (.ref a1), .val (.int (p6 >>> ((1 : Int32) &&& 31))), .unset, .unset, .unset] [(.int (p6 >>> ((1 : Int32) &&& 31))), (.int z)])) _
    refine st1 _ ?_
    show Steps p.tables e below (T1.setTop (mkF m 67 #[.val (.int p1), .val (.int p2), .val (.int p3), .val (.int p4), .val (.int p5), .val (.int p6), .val (.int z), .val (.int ch1), .val (.int ch2), .val (.int ch3), .val (.ref a1), .val (.int (p6 >>> ((1 : Int32) &&& 31))), .unset, .unset, .unset] [(.int (own_c (p6 >>> ((1 : Int32) &&& 31)))), (.int z)])) _
    refine XS.iload X1.here hx rfl (hb hby at_67) rfl ?_
    show Steps p.tables e below (T1.setTop (mkF m 69 #[.val (.int p1), .val (.int p2), .val (.int p3), .val (.int p4), .val (.int p5), .val (.int p6), .val (.int z), .val (.int ch1), .val (.int ch2), .val (.int ch3), .val (.ref a1), .val (.int (p6 >>> ((1 : Int32) &&& 31))), .unset, .unset, .unset] [(.int ch1), (.int (own_c (p6 >>> ((1 : Int32) &&& 31)))), (.int z)])) _
    refine XS.iload X1.here hx rfl (hb hby at_69) rfl ?_
    show Steps p.tables e below (T1.setTop (mkF m 71 #[.val (.int p1), .val (.int p2), .val (.int p3), .val (.int p4), .val (.int p5), .val (.int p6), .val (.int z), .val (.int ch1), .val (.int ch2), .val (.int ch3), .val (.ref a1), .val (.int (p6 >>> ((1 : Int32) &&& 31))), .unset, .unset, .unset] [(.int ch2), (.int ch1), (.int (own_c (p6 >>> ((1 : Int32) &&& 31)))), (.int z)])) _
    refine XS.iload X1.here hx rfl (hb hby at_71) rfl ?_
    exact kont
  · obtain ⟨_, _, ⟨T1, L1, kk1, nn1⟩, -, X1, ⟨Lc1, hQ1, l1, y1, z1⟩, st1⟩ := Jvm.LawKit.callS X0 hx (y := (⟨"com/example/portunus/portunus/lock/LockNameOfPinLaw", "ch", "(I)C"⟩ : MethodName)) hown (mvT hZ (wk hw 0 rfl)) (mvT hZ (wk hw 1 rfl)) (mvT hZ (wk hw 2 rfl)) (mvT hZ (wk hw 3 rfl)) (by decide) (backOf (W := 1) (m1 l Z a0 hw [] p2 h0 n0 Z0 ) hZ (wk hw 3 rfl) (wk hw 2 rfl) (by decide) (by decide)) (g := (mkF m 64 #[.val (.int p1), .val (.int p2), .val (.int p3), .val (.int p4), .val (.int p5), .val (.int p6), .val (.int z), .val (.int ch1), .val (.int ch2), .val (.int ch3), .val (.ref a1), .val (.int p2), .unset, .unset, .unset] [(.int p2), (.int z)])) rfl (by rw [hml]; rfl) (argsL := [(.int p2)]) (rest := [(.int z)]) (lenOf pdx__I_C rfl) rfl (by show 2 * 0 + _ ≤ _; exact Nat.le_of_eq rfl) (hb hby at_64) (fun _ _ => ⟨rfl, e0, nle rfl, nle rfl⟩)
    dsimp only [Pt.U, Pt.locs, Pt.cells, Pt.slots] at X1 l1 y1 z1 st1 hQ1
    subst l1 y1 z1
    obtain ⟨rfl, Nq1, e1⟩ := hQ1
    have N1 := Fr.app N0 Nq1
    refine ⟨p2, T1, _, X1, e1, N1, fun t kont => ?_⟩
    show Steps p.tables e below (T.setTop (mkF m 41 #[.val (.int p1), .val (.int p2), .val (.int p3), .val (.int p4), .val (.int p5), .val (.int p6), .val (.int z), .val (.int ch1), .val (.int ch2), .val (.int ch3), .unset, .unset, .unset, .unset, .unset] [(.ref a1)])) _
    refine XS.astore X0.here hx rfl (hb hby at_41) rfl rfl (l' := #[.val (.int p1), .val (.int p2), .val (.int p3), .val (.int p4), .val (.int p5), .val (.int p6), .val (.int z), .val (.int ch1), .val (.int ch2), .val (.int ch3), .val (.ref a1), .unset, .unset, .unset, .unset]) rfl ?_
    show Steps p.tables e below (T.setTop (mkF m 43 #[.val (.int p1), .val (.int p2), .val (.int p3), .val (.int p4), .val (.int p5), .val (.int p6), .val (.int z), .val (.int ch1), .val (.int ch2), .val (.int ch3), .val (.ref a1), .unset, .unset, .unset, .unset] [])) _
    refine XS.iload X0.here hx rfl (hb hby at_43) rfl ?_
    show Steps p.tables e below (T.setTop (mkF m 45 #[.val (.int p1), .val (.int p2), .val (.int p3), .val (.int p4), .val (.int p5), .val (.int p6), .val (.int z), .val (.int ch1), .val (.int ch2), .val (.int ch3), .val (.ref a1), .unset, .unset, .unset, .unset] [(.int p6)])) _
    refine XS.iconst X0.here hx rfl (hb hby at_45) ?_
    show Steps p.tables e below (T.setTop (mkF m 46 #[.val (.int p1), .val (.int p2), .val (.int p3), .val (.int p4), .val (.int p5), .val (.int p6), .val (.int z), .val (.int ch1), .val (.int ch2), .val (.int ch3), .val (.ref a1), .unset, .unset, .unset, .unset] [(.int (1 : Int32)), (.int p6)])) _
    refine XS.iand X0.here hx rfl (hb hby at_46) rfl ?_
    show Steps p.tables e below (T.setTop (mkF m 47 #[.val (.int p1), .val (.int p2), .val (.int p3), .val (.int p4), .val (.int p5), .val (.int p6), .val (.int z), .val (.int ch1), .val (.int ch2), .val (.int ch3), .val (.ref a1), .unset, .unset, .unset, .unset] [(.int (p6 &&& (1 : Int32)))])) _
    refine XS.ifNo X0.here hx rfl (hb hby at_47) rfl ((if0 _ _).trans (feq (hd : ¬ ((p6 &&& (1 : Int32)) = (0 : Int32)))).1) ?_
    show Steps p.tables e below (T.setTop (mkF m 50 #[.val (.int p1), .val (.int p2), .val (.int p3), .val (.int p4), .val (.int p5), .val (.int p6), .val (.int z), .val (.int ch1), .val (.int ch2), .val (.int ch3), .val (.ref a1), .unset, .unset, .unset, .unset] [])) _
    refine XS.iloadN X0.here hx rfl (hb hby at_50) rfl ?_
    show Steps p.tables e below (T.setTop (mkF m 51 #[.val (.int p1), .val (.int p2), .val (.int p3), .val (.int p4), .val (.int p5), .val (.int p6), .val (.int z), .val (.int ch1), .val (.int ch2), .val (.int ch3), .val (.ref a1), .unset, .unset, .unset, .unset] [(.int p2)])) _
    refine XS.goto X0.here hx rfl (pc0 := 51) (pc' := 58) rfl (hb hby at_51) (by decide) (by decide) ?_
    show Steps p.tables e below (T.setTop (mkF m 58 #[.val (.int p1), .val (.int p2), .val (.int p3), .val (.int p4), .val (.int p5), .val (.int p6), .val (.int z), .val (.int ch1), .val (.int ch2), .val (.int ch3), .val (.ref a1), .unset, .unset, .unset, .unset] [(.int p2)])) _
    refine XS.istore X0.here hx rfl (hb hby at_58) rfl (l' := #[.val (.int p1), .val (.int p2), .val (.int p3), .val (.int p4), .val (.int p5), .val (.int p6), .val (.int z), .val (.int ch1), .val (.int ch2), .val (.int ch3), .val (.ref a1), .val (.int p2), .unset, .unset, .unset]) rfl ?_
    show Steps p.tables e below (T.setTop (mkF m 60 #[.val (.int p1), .val (.int p2), .val (.int p3), .val (.int p4), .val (.int p5), .val (.int p6), .val (.int z), .val (.int ch1), .val (.int ch2), .val (.int ch3), .val (.ref a1), .val (.int p2), .unset, .unset, .unset] [])) _
    refine XS.iload X0.here hx rfl (hb hby at_60) rfl ?_
    show Steps p.tables e below (T.setTop (mkF m 62 #[.val (.int p1), .val (.int p2), .val (.int p3), .val (.int p4), .val (.int p5), .val (.int p6), .val (.int z), .val (.int ch1), .val (.int ch2), .val (.int ch3), .val (.ref a1), .val (.int p2), .unset, .unset, .unset] [(.int z)])) _
    refine XS.iload X0.here hx rfl (hb hby at_62) rfl ?_
    show Steps p.tables e below (T.setTop (mkF m 64 #[.val (.int p1), .val (.int p2), .val (.int p3), .val (.int p4), .val (.int p5), .val (.int p6), .val (.int z), .val (.int ch1), .val (.int ch2), .val (.int ch3), .val (.ref a1), .val (.int p2), .unset, .unset, .unset] [(.int p2), (.int z)])) _
    refine st1 _ ?_
    show Steps p.tables e below (T1.setTop (mkF m 67 #[.val (.int p1), .val (.int p2), .val (.int p3), .val (.int p4), .val (.int p5), .val (.int p6), .val (.int z), .val (.int ch1), .val (.int ch2), .val (.int ch3), .val (.ref a1), .val (.int p2), .unset, .unset, .unset] [(.int (own_c p2)), (.int z)])) _
    refine XS.iload X1.here hx rfl (hb hby at_67) rfl ?_
    show Steps p.tables e below (T1.setTop (mkF m 69 #[.val (.int p1), .val (.int p2), .val (.int p3), .val (.int p4), .val (.int p5), .val (.int p6), .val (.int z), .val (.int ch1), .val (.int ch2), .val (.int ch3), .val (.ref a1), .val (.int p2), .unset, .unset, .unset] [(.int ch1), (.int (own_c p2)), (.int z)])) _
    refine XS.iload X1.here hx rfl (hb hby at_69) rfl ?_
    show Steps p.tables e below (T1.setTop (mkF m 71 #[.val (.int p1), .val (.int p2), .val (.int p3), .val (.int p4), .val (.int p5), .val (.int p6), .val (.int z), .val (.int ch1), .val (.int ch2), .val (.int ch3), .val (.ref a1), .val (.int p2), .unset, .unset, .unset] [(.int ch2), (.int ch1), (.int (own_c p2)), (.int z)])) _
    refine XS.iload X1.here hx rfl (hb hby at_71) rfl ?_
    exact kont
set_option maxRecDepth 65536 in
set_option maxHeartbeats 40000000 in
theorem seg4 {p : Program} {l : Launch} {e : Env} {s : State} {m : MethodId} {args : Array Value} {below : List Frame} {meth : Method} {c : Code} {Z : State} {a0 : Array Value} (hw : ∀ d ∈ tables_1, d.before a0 Z = true) (hx : p.tables.exec = Jvm.exec) (hby : c.code = code) (hml : c.maxLocals = 15) (hZ : Z.Warmed39 s.vm) (hown : s.vm.findClass "com/example/portunus/portunus/lock/LockNameOfPinLaw" = some m.cls) {T : State} {locs : List Loc} (X0 : Stand p l e room_1 s m args below meth c T locs 4 16) {h0 : Heap} (e0 : T.heap = h0) {n0 : Nat} (Z0 : n0 ≤ h0.size) (N0 : Fr n0 locs) (p1 p2 p3 p4 p5 p6 z ch0 ch1 ch2 ch3 wcs : Int32) (ee : Int32) (a1 : Addr) (S_CS : Sta Z h0 "java/lang/String" "COMPACT_STRINGS" "Z" (.int wcs)) (ncs : ¬ (wcs = (0 : Int32))) (q0 : own_good ch0) (q1 : own_good ch1) (q2 : own_good ch2) (q3 : own_good ch3) (hz : z = 1 ∨ z = 2 ∨ z = 3 ∨ z = 4) :
    ∃ (T' : State) (h' : Heap) (locs' : List Loc) (a t : Addr) (k : ClassId), Stand p l e room_1 s m args below meth c T' locs' 8 32 ∧ T'.heap = h' ∧ Keep h0 h' [] ∧ Fr n0 locs' ∧ Exa Z h' a "java/lang/String" ∧ Fld Z h' a "java/lang/String" "coder" "B" (.int (0 : Int32)) ∧ Fld Z h' a "java/lang/String" "value" "[B" (.ref t) ∧ Arv Z h' t k .byte z (own_l z ch0 ch1 ch2 ch3) (.int (0 : Int32)) ∧ h0.size ≤ a ∧ ∀ t, Steps p.tables e below (T'.setTop (mkF m 76 #[.val (.int p1), .val (.int p2), .val (.int p3), .val (.int p4), .val (.int p5), .val (.int p6), .val (.int z), .val (.int ch1), .val (.int ch2), .val (.int ch3), .val (.ref a1), .val (.int ee), .unset, .unset, .unset] [(.ref a)])) t → Steps p.tables e below (T.setTop (mkF m 73 #[.val (.int p1), .val (.int p2), .val (.int p3), .val (.int p4), .val (.int p5), .val (.int p6), .val (.int z), .val (.int ch1), .val (.int ch2), .val (.int ch3), .val (.ref a1), .val (.int ee), .unset, .unset, .unset] [(.int ch3), (.int ch2), (.int ch1), (.int ch0), (.int z)])) t := by
  rcases hz with rfl | rfl | rfl | rfl
  · obtain ⟨_, _, ⟨T1, L1, kk1, nn1⟩, -, X1, ⟨Lc1, hQ1, l1, y1, z1⟩, st1⟩ := Jvm.LawKit.callS X0 hx (y := (⟨"com/example/portunus/portunus/lock/LockNameOfPinLaw", "make", "(ICCCC)Ljava/lang/String;"⟩ : MethodName)) hown (mvT hZ (wk hw 5 rfl)) (mvT hZ (wk hw 6 rfl)) (mvT hZ (wk hw 2 rfl)) (mvT hZ (wk hw 7 rfl)) (by decide) (backOf (W := 0) (m2_1 l Z a0 hw [] ch0 ch1 ch2 ch3 wcs h0 n0 Z0 S_CS ncs q0) hZ (wk hw 7 rfl) (wk hw 2 rfl) (by decide) (by decide)) (g := (mkF m 73 #[.val (.int p1), .val (.int p2), .val (.int p3), .val (.int p4), .val (.int p5), .val (.int p6), .val (.int (1 : Int32)), .val (.int ch1), .val (.int ch2), .val (.int ch3), .val (.ref a1), .val (.int ee), .unset, .unset, .unset] [(.int ch3), (.int ch2), (.int ch1), (.int ch0), (.int (1 : Int32))])) rfl (by rw [hml]; rfl) (argsL := [(.int (1 : Int32)), (.int ch0), (.int ch1), (.int ch2), (.int ch3)]) (rest := []) (lenOf pdx__ICCCC_Ljava_lang_String_ rfl) rfl (by show 2 * 0 + _ ≤ _; exact Nat.le_of_eq rfl) (hb hby at_73) (fun _ _ => ⟨rfl, e0, nle rfl, nle rfl⟩)
    dsimp only [Pt.U, Pt.locs, Pt.cells, Pt.slots] at X1 l1 y1 z1 st1 hQ1
    subst l1 y1 z1
    obtain ⟨a, t, k, rfl, Nq1, Kq1, E1, Fc1, Fv1, V1, fr1⟩ := hQ1
    have N1 := Fr.app N0 Nq1
    exact ⟨T1, T1.heap, _, a, t, k, X1.more (cells' := 8) (slots' := 32) (nle rfl) (nle rfl), rfl, Kq1, N1, E1, Fc1, Fv1, V1, fr1, fun q kont => st1 _ kont⟩
  · obtain ⟨_, _, ⟨T1, L1, kk1, nn1⟩, -, X1, ⟨Lc1, hQ1, l1, y1, z1⟩, st1⟩ := Jvm.LawKit.callS X0 hx (y := (⟨"com/example/portunus/portunus/lock/LockNameOfPinLaw", "make", "(ICCCC)Ljava/lang/String;"⟩ : MethodName)) hown (mvT hZ (wk hw 5 rfl)) (mvT hZ (wk hw 6 rfl)) (mvT hZ (wk hw 2 rfl)) (mvT hZ (wk hw 7 rfl)) (by decide) (backOf (W := 0) (m2_2 l Z a0 hw [] ch0 ch1 ch2 ch3 wcs h0 n0 Z0 S_CS ncs q0 q1) hZ (wk hw 7 rfl) (wk hw 2 rfl) (by decide) (by decide)) (g := (mkF m 73 #[.val (.int p1), .val (.int p2), .val (.int p3), .val (.int p4), .val (.int p5), .val (.int p6), .val (.int (2 : Int32)), .val (.int ch1), .val (.int ch2), .val (.int ch3), .val (.ref a1), .val (.int ee), .unset, .unset, .unset] [(.int ch3), (.int ch2), (.int ch1), (.int ch0), (.int (2 : Int32))])) rfl (by rw [hml]; rfl) (argsL := [(.int (2 : Int32)), (.int ch0), (.int ch1), (.int ch2), (.int ch3)]) (rest := []) (lenOf pdx__ICCCC_Ljava_lang_String_ rfl) rfl (by show 2 * 0 + _ ≤ _; exact Nat.le_of_eq rfl) (hb hby at_73) (fun _ _ => ⟨rfl, e0, nle rfl, nle rfl⟩)
    dsimp only [Pt.U, Pt.locs, Pt.cells, Pt.slots] at X1 l1 y1 z1 st1 hQ1
    subst l1 y1 z1
    obtain ⟨a, t, k, rfl, Nq1, Kq1, E1, Fc1, Fv1, V1, fr1⟩ := hQ1
    have N1 := Fr.app N0 Nq1
    exact ⟨T1, T1.heap, _, a, t, k, X1.more (cells' := 8) (slots' := 32) (nle rfl) (nle rfl), rfl, Kq1, N1, E1, Fc1, Fv1, V1, fr1, fun q kont => st1 _ kont⟩
  · obtain ⟨_, _, ⟨T1, L1, kk1, nn1⟩, -, X1, ⟨Lc1, hQ1, l1, y1, z1⟩, st1⟩ := Jvm.LawKit.callS X0 hx (y := (⟨"com/example/portunus/portunus/lock/LockNameOfPinLaw", "make", "(ICCCC)Ljava/lang/String;"⟩ : MethodName)) hown (mvT hZ (wk hw 5 rfl)) (mvT hZ (wk hw 6 rfl)) (mvT hZ (wk hw 2 rfl)) (mvT hZ (wk hw 7 rfl)) (by decide) (backOf (W := 0) (m2_3 l Z a0 hw [] ch0 ch1 ch2 ch3 wcs h0 n0 Z0 S_CS ncs q0 q1 q2) hZ (wk hw 7 rfl) (wk hw 2 rfl) (by decide) (by decide)) (g := (mkF m 73 #[.val (.int p1), .val (.int p2), .val (.int p3), .val (.int p4), .val (.int p5), .val (.int p6), .val (.int (3 : Int32)), .val (.int ch1), .val (.int ch2), .val (.int ch3), .val (.ref a1), .val (.int ee), .unset, .unset, .unset] [(.int ch3), (.int ch2), (.int ch1), (.int ch0), (.int (3 : Int32))])) rfl (by rw [hml]; rfl) (argsL := [(.int (3 : Int32)), (.int ch0), (.int ch1), (.int ch2), (.int ch3)]) (rest := []) (lenOf pdx__ICCCC_Ljava_lang_String_ rfl) rfl (by show 2 * 0 + _ ≤ _; exact Nat.le_of_eq rfl) (hb hby at_73) (fun _ _ => ⟨rfl, e0, nle rfl, nle rfl⟩)
    dsimp only [Pt.U, Pt.locs, Pt.cells, Pt.slots] at X1 l1 y1 z1 st1 hQ1
    subst l1 y1 z1
    obtain ⟨a, t, k, rfl, Nq1, Kq1, E1, Fc1, Fv1, V1, fr1⟩ := hQ1
    have N1 := Fr.app N0 Nq1
    exact ⟨T1, T1.heap, _, a, t, k, X1.more (cells' := 8) (slots' := 32) (nle rfl) (nle rfl), rfl, Kq1, N1, E1, Fc1, Fv1, V1, fr1, fun q kont => st1 _ kont⟩
  · obtain ⟨_, _, ⟨T1, L1, kk1, nn1⟩, -, X1, ⟨Lc1, hQ1, l1, y1, z1⟩, st1⟩ := Jvm.LawKit.callS X0 hx (y := (⟨"com/example/portunus/portunus/lock/LockNameOfPinLaw", "make", "(ICCCC)Ljava/lang/String;"⟩ : MethodName)) hown (mvT hZ (wk hw 5 rfl)) (mvT hZ (wk hw 6 rfl)) (mvT hZ (wk hw 2 rfl)) (mvT hZ (wk hw 7 rfl)) (by decide) (backOf (W := 0) (m2_4 l Z a0 hw [] ch0 ch1 ch2 ch3 wcs h0 n0 Z0 S_CS ncs q0 q1 q2 q3) hZ (wk hw 7 rfl) (wk hw 2 rfl) (by decide) (by decide)) (g := (mkF m 73 #[.val (.int p1), .val (.int p2), .val (.int p3), .val (.int p4), .val (.int p5), .val (.int p6), .val (.int (4 : Int32)), .val (.int ch1), .val (.int ch2), .val (.int ch3), .val (.ref a1), .val (.int ee), .unset, .unset, .unset] [(.int ch3), (.int ch2), (.int ch1), (.int ch0), (.int (4 : Int32))])) rfl (by rw [hml]; rfl) (argsL := [(.int (4 : Int32)), (.int ch0), (.int ch1), (.int ch2), (.int ch3)]) (rest := []) (lenOf pdx__ICCCC_Ljava_lang_String_ rfl) rfl (by show 2 * 0 + _ ≤ _; exact Nat.le_of_eq rfl) (hb hby at_73) (fun _ _ => ⟨rfl, e0, nle rfl, nle rfl⟩)
    dsimp only [Pt.U, Pt.locs, Pt.cells, Pt.slots] at X1 l1 y1 z1 st1 hQ1
    subst l1 y1 z1
    obtain ⟨a, t, k, rfl, Nq1, Kq1, E1, Fc1, Fv1, V1, fr1⟩ := hQ1
    have N1 := Fr.app N0 Nq1
    exact ⟨T1, T1.heap, _, a, t, k, X1.more (cells' := 8) (slots' := 32) (nle rfl) (nle rfl), rfl, Kq1, N1, E1, Fc1, Fv1, V1, fr1, fun q kont => st1 _ kont⟩
theorem pdx__Ljava_lang_String__Lcom_example_portunus_portunus_lock_LockName_ : parseMethodDescriptor "(Ljava/lang/String;)Lcom/example/portunus/portunus/lock/LockName;" = some ⟨[(.object "java/lang/String")], some (.object "com/example/portunus/portunus/lock/LockName")⟩ := by decide +kernel
theorem pdx___Ljava_lang_String_ : parseMethodDescriptor "()Ljava/lang/String;" = some ⟨[], some (.object "java/lang/String")⟩ := by decide +kernel
set_option maxRecDepth 65536 in
set_option maxHeartbeats 40000000 in
theorem seg5_0 {p : Program} {l : Launch} {e : Env} {s : State} {m : MethodId} {args : Array Value} {below : List Frame} {meth : Method} {c : Code} {Z : State} {a0 : Array Value} (hw : ∀ d ∈ tables_1, d.before a0 Z = true) (hx : p.tables.exec = Jvm.exec) (hby : c.code = code) (hml : c.maxLocals = 15) (hZ : Z.Warmed39 s.vm) (hown : s.vm.findClass "com/example/portunus/portunus/lock/LockNameOfPinLaw" = some m.cls) {T : State} {locs : List Loc} (X0 : Stand p l e room_1 s m args below meth c T locs 8 32) {h0 : Heap} (e0 : T.heap = h0) {n0 : Nat} (Z0 : n0 ≤ h0.size) (N0 : Fr n0 locs) (p1 p2 p3 p4 p5 p6 z ch1 ch2 ch3 ee : Int32) (a1 b1 : Addr) (k1 : ClassId) (vs1 : List Value) (a2 b2 : Addr) (k2 : ClassId) (vs2 : List Value) (wcs : Int32) (rg : Value) (E_a1 : Exa Z h0 a1 "java/lang/String") (Fc_a1 : Fld Z h0 a1 "java/lang/String" "coder" "B" (.int (0 : Int32))) (Fv_a1 : Fld Z h0 a1 "java/lang/String" "value" "[B" (.ref b1)) (V1 : Arv Z h0 b1 k1 .byte z vs1 (.int (0 : Int32))) (E_a2 : Exa Z h0 a2 "java/lang/String") (Fc_a2 : Fld Z h0 a2 "java/lang/String" "coder" "B" (.int (0 : Int32))) (Fv_a2 : Fld Z h0 a2 "java/lang/String" "value" "[B" (.ref b2)) (V2 : Arv Z h0 b2 k2 .byte z vs2 (.int (0 : Int32))) (S_CS : Sta Z h0 "java/lang/String" "COMPACT_STRINGS" "Z" (.int wcs)) (ncs : ¬ (wcs = (0 : Int32))) (S_SI : Sta Z h0 "jdk/internal/util/Preconditions" "SIOOBE_FORMATTER" "Ljava/util/function/BiFunction;" rg) (r_rg : rg.isRef = true) (na : a1 ≠ a2) (hEL : EW Z a0 [("com/example/portunus/portunus/lock/LockName", 13), ("com/example/portunus/portunus/lock/LockName", 82)]) (HC : CHv Z [("com/example/portunus/portunus/lock/LockName", 13), ("com/example/portunus/portunus/lock/LockName", 82)] s.vm h0) (al1 : own_AL z vs1) (al2 : own_AL z vs2) (hq : own_EQ z vs1 vs2 (0 : Int32)) :
    ∃ (vmB : Vm) (T' : State) (locs' : List Loc) (Ls : Array Slot) (k : Nat), Stand p l e room_1 (s.setVm vmB) m args below meth c T' locs' 32 2176 ∧ Fr n0 locs' ∧ s.Since vmB k ∧ h0.size ≤ k ∧ k ≤ T'.heap.size ∧ ∀ t, Steps p.tables e below (T'.setTop (mkF m 140 Ls [(.int (1 : Int32))])) t → Steps p.tables e below (T.setTop (mkF m 76 #[.val (.int p1), .val (.int p2), .val (.int p3), .val (.int p4), .val (.int p5), .val (.int p6), .val (.int z), .val (.int ch1), .val (.int ch2), .val (.int ch3), .val (.ref a1), .val (.int ee), .unset, .unset, .unset] [(.ref a2)])) t := by
  obtain ⟨_, _, ⟨T1, L1, kk1, nn1⟩, -, X1, hSq1, hg1, ⟨Lc1, hQ1, l1, y1, z1, C1⟩, st1⟩ := callSS (s := s) X0 hx (y := (⟨"com/example/portunus/portunus/lock/LockName", "of", "(Ljava/lang/String;)Lcom/example/portunus/portunus/lock/LockName;"⟩ : MethodName)) hown (mvT hZ (wk hw 38 rfl)) (mvT hZ (wk hw 39 rfl)) (mvT hZ (wk hw 40 rfl)) (mvT hZ (wk hw 41 rfl)) (by decide) (backOfSH (s := s) (vm0 := s.vm) (W := 0) (own_m9 l Z a0 hw [] a1 b1 k1 z vs1 wcs rg [("com/example/portunus/portunus/lock/LockName", 13), ("com/example/portunus/portunus/lock/LockName", 82)] h0 n0 Z0 E_a1 Fc_a1 Fv_a1 V1 S_CS ncs S_SI r_rg hEL (by decide) (by decide) al1) hZ (wk hw 41 rfl) (wk hw 40 rfl) (by decide) (by decide) hEL HC) (g := (mkF m 80 #[.val (.int p1), .val (.int p2), .val (.int p3), .val (.int p4), .val (.int p5), .val (.int p6), .val (.int z), .val (.int ch1), .val (.int ch2), .val (.int ch3), .val (.ref a1), .val (.int ee), .val (.ref a2), .unset, .unset] [(.ref a1)])) rfl (by rw [hml]; rfl) (argsL := [(.ref a1)]) (rest := []) (lenOf pdx__Ljava_lang_String__Lcom_example_portunus_portunus_lock_LockName_ rfl) rfl (by show 2 * 0 + _ ≤ _; exact Nat.le_of_eq rfl) (hb hby at_80) (fun _ _ => ⟨rfl, e0, nle rfl, nle rfl⟩)
  dsimp only [Pt.U, Pt.locs, Pt.cells, Pt.slots] at X1 hSq1 hg1 l1 y1 z1 st1 hQ1 C1
  subst l1 y1 z1
  obtain ⟨b_1, rfl, Nq1, Kq1, P1_0, P1_1, P1_2⟩ := hQ1
  have N1 := Fr.app N0 Nq1
  obtain ⟨h1, e1⟩ : ∃ h, T1.heap = h := ⟨_, rfl⟩
  rw [e1] at Kq1 C1 hSq1 P1_0 P1_1
  have hZ : Z.Warmed39 (s.setVm T1.vm).vm := State.Warmed39.trans (t := s) hZ hSq1.1
  have hown : (s.setVm T1.vm).vm.findClass "com/example/portunus/portunus/lock/LockNameOfPinLaw" = some m.cls := by rw [show (s.setVm T1.vm).vm = T1.vm from rfl, hSq1.1.alike.findClass]; exact hown
  have X1 : Stand p l e _ (s.setVm T1.vm) m _ below meth c T1 _ _ _ := X1
  have hS1 : s.Since T1.vm h1.size := hSq1
  have sz_b_1 : h0.size ≤ b_1 := P1_2
  have ge_b_1 : n0 ≤ b_1 := Nat.le_trans Z0 sz_b_1
  have ne_2 : a1 ≠ b_1 := Nat.ne_of_lt (Nat.lt_of_lt_of_le E_a1.lt P1_2)
  have ne_3 : b1 ≠ b_1 := Nat.ne_of_lt (Nat.lt_of_lt_of_le V1.lt P1_2)
  have ne_4 : a2 ≠ b_1 := Nat.ne_of_lt (Nat.lt_of_lt_of_le E_a2.lt P1_2)
  have ne_5 : b2 ≠ b_1 := Nat.ne_of_lt (Nat.lt_of_lt_of_le V2.lt P1_2)
  have CR1 := C1
  have K6 : Keep h0 h1 [] := (Keep.refl h0 []).trans Kq1 own_m0
  have F8 := (E_a2.keep Kq1)
  have F9 := (Fc_a2.keep Kq1 own_n0)
  have F10 := (Fv_a2.keep Kq1 own_n0)
  have F11 := (V2.keep Kq1 own_n0)
  have F12 := (own_staK S_CS Kq1 ns0)
  have F13 := (own_staK S_SI Kq1 ns0)
  obtain ⟨_, _, ⟨T7, L7, kk7, nn7⟩, -, X7, hSq7, hg7, ⟨Lc7, hQ7, l7, y7, z7, C7⟩, st7⟩ := callSS (s := s.setVm T1.vm) X1 hx (y := (⟨"com/example/portunus/portunus/lock/LockName", "of", "(Ljava/lang/String;)Lcom/example/portunus/portunus/lock/LockName;"⟩ : MethodName)) hown (mvT hZ (wk hw 38 rfl)) (mvT hZ (wk hw 39 rfl)) (mvT hZ (wk hw 40 rfl)) (mvT hZ (wk hw 41 rfl)) (by decide) (backOfSH (s := s) (vm0 := T1.vm) (W := 0) (own_m9 l Z a0 hw [] a2 b2 k2 z vs2 wcs rg [("com/example/portunus/portunus/lock/LockName", 13), ("com/example/portunus/portunus/lock/LockName", 82)] h1 n0 (Nat.le_trans Z0 K6.1) F8 F9 F10 F11 F12 ncs F13 r_rg hEL (by decide) (by decide) al2) hZ (wk hw 41 rfl) (wk hw 40 rfl) (by decide) (by decide) hEL CR1.1) (g := (mkF m 87 #[.val (.int p1), .val (.int p2), .val (.int p3), .val (.int p4), .val (.int p5), .val (.int p6), .val (.int z), .val (.int ch1), .val (.int ch2), .val (.int ch3), .val (.ref a1), .val (.int ee), .val (.ref a2), .val (.ref b_1), .unset] [(.ref a2)])) rfl (by rw [hml]; rfl) (argsL := [(.ref a2)]) (rest := []) (lenOf pdx__Ljava_lang_String__Lcom_example_portunus_portunus_lock_LockName_ rfl) rfl (by show 2 * 0 + _ ≤ _; exact Nat.le_of_eq rfl) (hb hby at_87) (fun _ _ => ⟨rfl, e1, nle rfl, nle rfl⟩)
  dsimp only [Pt.U, Pt.locs, Pt.cells, Pt.slots] at X7 hSq7 hg7 l7 y7 z7 st7 hQ7 C7
  subst l7 y7 z7
  obtain ⟨b_7, rfl, Nq7, Kq7, P7_0, P7_1, P7_2⟩ := hQ7
  have N7 := Fr.app N1 Nq7
  obtain ⟨h7, e7⟩ : ∃ h, T7.heap = h := ⟨_, rfl⟩
  rw [e7] at Kq7 C7 hSq7 P7_0 P7_1
  have hZ : Z.Warmed39 (s.setVm T7.vm).vm := State.Warmed39.trans (t := s.setVm T1.vm) hZ hSq7.1
  have hown : (s.setVm T7.vm).vm.findClass "com/example/portunus/portunus/lock/LockNameOfPinLaw" = some m.cls := by rw [show (s.setVm T7.vm).vm = T7.vm from rfl, hSq7.1.alike.findClass]; exact hown
  have X7 : Stand p l e _ (s.setVm T7.vm) m _ below meth c T7 _ _ _ := X7
  have hS7 : s.Since T7.vm h7.size := (hS1).trans hSq7 (Nat.le_trans (Nat.le_refl _) Kq7.1)
  have sz_b_7 : h0.size ≤ b_7 := Nat.le_trans K6.1 P7_2
  have ge_b_7 : n0 ≤ b_7 := Nat.le_trans Z0 sz_b_7
  have F15 := (E_a1.keep Kq1)
  have ne_14 : a1 ≠ b_7 := Nat.ne_of_lt (Nat.lt_of_lt_of_le F15.lt P7_2)
  have F17 := (V1.keep Kq1 own_n0)
  have ne_16 : b1 ≠ b_7 := Nat.ne_of_lt (Nat.lt_of_lt_of_le F17.lt P7_2)
  have ne_18 : a2 ≠ b_7 := Nat.ne_of_lt (Nat.lt_of_lt_of_le F8.lt P7_2)
  have ne_19 : b2 ≠ b_7 := Nat.ne_of_lt (Nat.lt_of_lt_of_le F11.lt P7_2)
  have ne_20 : b_1 ≠ b_7 := Nat.ne_of_lt (Nat.lt_of_lt_of_le P1_0.lt P7_2)
  have CR7 := CR1.trans C7
  have K21 : Keep h0 h7 [] := K6.trans Kq7 own_m0
  have F23 := (P1_1.keep Kq7 own_n0)
  have F24 := (P1_0.keep Kq7)
  obtain ⟨cq22, kq22, qa22, qb22, qc22⟩ := isOf hZ e7 F24
  obtain ⟨_, _, ⟨T22, L22, kk22, nn22⟩, -, X22, ⟨Lc22, hQ22, l22, y22, z22⟩, st22⟩ := X7.virtualBack hx (y := (⟨"com/example/portunus/portunus/lock/LockName", "toString", "()Ljava/lang/String;"⟩ : MethodName)) (z := (⟨"com/example/portunus/portunus/lock/LockName", "toString", "()Ljava/lang/String;"⟩ : MethodName)) hown (mvT hZ (wk hw 98 rfl)) (mvT hZ (wk hw 99 rfl)) (notFace_of_selects (args := #[]) (mvT hZ (wk hw 101 rfl))) (mvT hZ (wk hw 101 rfl)) (mvT hZ (wk hw 100 rfl)) (by decide) (backOf (W := 0) (m21 l Z a0 hw [] b_1 a1 h7 n0 (Nat.le_trans Z0 K21.1) F23) hZ (wk hw 102 rfl) (wk hw 40 rfl) (by decide) (by decide)) qa22 qc22 (g := (mkF m 94 #[.val (.int p1), .val (.int p2), .val (.int p3), .val (.int p4), .val (.int p5), .val (.int p6), .val (.int z), .val (.int ch1), .val (.int ch2), .val (.int ch3), .val (.ref a1), .val (.int ee), .val (.ref a2), .val (.ref b_1), .val (.ref b_7)] [(.ref b_1)])) rfl (by rw [hml]; rfl) (Steps.refl _) (argsL := []) (rest := []) (lenOf pdx___Ljava_lang_String_ rfl) rfl (by show 2 * 0 + _ ≤ _; exact Nat.le_of_eq rfl) (hb hby at_94) (fun _ _ => ⟨rfl, e7, nle rfl, nle rfl⟩)
  dsimp only [Pt.U, Pt.locs, Pt.cells, Pt.slots] at X22 l22 y22 z22 st22 hQ22
  subst l22 y22 z22
  obtain ⟨rfl, Nq22, e22⟩ := hQ22
  have N22 := Fr.app N7 Nq22
  have F26 := (F15.keep Kq7)
  obtain ⟨cq25, kq25, qa25, qb25, qc25⟩ := isOf hZ e22 F26
  obtain ⟨_, _, ⟨T25, L25, kk25, nn25⟩, -, X25, ⟨Lc25, hQ25, l25, y25, z25⟩, st25⟩ := X22.virtualBack hx (y := (⟨"java/lang/String", "equals", "(Ljava/lang/Object;)Z"⟩ : MethodName)) (z := (⟨"java/lang/String", "equals", "(Ljava/lang/Object;)Z"⟩ : MethodName)) hown (mvT hZ (wk hw 103 rfl)) (mvT hZ (wk hw 104 rfl)) (notFace_of_selects (args := #[]) (mvT hZ (wk hw 106 rfl))) (mvT hZ (wk hw 106 rfl)) (mvT hZ (wk hw 105 rfl)) (by decide) (backOf (W := 0) (m22s l Z a0 hw [] a1 h7 n0 (Nat.le_trans Z0 K21.1) ) hZ (wk hw 107 rfl) (wk hw 10 rfl) (by decide) (by decide)) qa25 qc25 (g := (mkF m 99 #[.val (.int p1), .val (.int p2), .val (.int p3), .val (.int p4), .val (.int p5), .val (.int p6), .val (.int z), .val (.int ch1), .val (.int ch2), .val (.int ch3), .val (.ref a1), .val (.int ee), .val (.ref a2), .val (.ref b_1), .val (.ref b_7)] [(.ref a1), (.ref a1)])) rfl (by rw [hml]; rfl) (Steps.refl _) (argsL := [(.ref a1)]) (rest := []) (lenOf pdx__Ljava_lang_Object__Z rfl) rfl (by show 2 * 0 + _ ≤ _; exact Nat.le_of_eq rfl) (hb hby at_99) (fun _ _ => ⟨rfl, e22, nle rfl, nle rfl⟩)
  dsimp only [Pt.U, Pt.locs, Pt.cells, Pt.slots] at X25 l25 y25 z25 st25 hQ25
  subst l25 y25 z25
  obtain ⟨rfl, Nq25, e25⟩ := hQ25
  have N25 := Fr.app N22 Nq25
  obtain ⟨cq27, kq27, qa27, qb27, qc27⟩ := isOf hZ e25 P7_0
  obtain ⟨_, _, ⟨T27, L27, kk27, nn27⟩, -, X27, ⟨Lc27, hQ27, l27, y27, z27⟩, st27⟩ := X25.virtualBack hx (y := (⟨"com/example/portunus/portunus/lock/LockName", "toString", "()Ljava/lang/String;"⟩ : MethodName)) (z := (⟨"com/example/portunus/portunus/lock/LockName", "toString", "()Ljava/lang/String;"⟩ : MethodName)) hown (mvT hZ (wk hw 98 rfl)) (mvT hZ (wk hw 99 rfl)) (notFace_of_selects (args := #[]) (mvT hZ (wk hw 101 rfl))) (mvT hZ (wk hw 101 rfl)) (mvT hZ (wk hw 100 rfl)) (by decide) (backOf (W := 0) (m21 l Z a0 hw [] b_7 a2 h7 n0 (Nat.le_trans Z0 K21.1) P7_1) hZ (wk hw 102 rfl) (wk hw 40 rfl) (by decide) (by decide)) qa27 qc27 (g := (mkF m 107 #[.val (.int p1), .val (.int p2), .val (.int p3), .val (.int p4), .val (.int p5), .val (.int p6), .val (.int z), .val (.int ch1), .val (.int ch2), .val (.int ch3), .val (.ref a1), .val (.int ee), .val (.ref a2), .val (.ref b_1), .val (.ref b_7)] [(.ref b_7)])) rfl (by rw [hml]; rfl) (Steps.refl _) (argsL := []) (rest := []) (lenOf pdx___Ljava_lang_String_ rfl) rfl (by show 2 * 0 + _ ≤ _; exact Nat.le_of_eq rfl) (hb hby at_107) (fun _ _ => ⟨rfl, e25, nle rfl, nle rfl⟩)
  dsimp only [Pt.U, Pt.locs, Pt.cells, Pt.slots] at X27 l27 y27 z27 st27 hQ27
  subst l27 y27 z27
  obtain ⟨rfl, Nq27, e27⟩ := hQ27
  have N27 := Fr.app N25 Nq27
  have F29 := (F8.keep Kq7)
  obtain ⟨cq28, kq28, qa28, qb28, qc28⟩ := isOf hZ e27 F29
  obtain ⟨_, _, ⟨T28, L28, kk28, nn28⟩, -, X28, ⟨Lc28, hQ28, l28, y28, z28⟩, st28⟩ := X27.virtualBack hx (y := (⟨"java/lang/String", "equals", "(Ljava/lang/Object;)Z"⟩ : MethodName)) (z := (⟨"java/lang/String", "equals", "(Ljava/lang/Object;)Z"⟩ : MethodName)) hown (mvT hZ (wk hw 103 rfl)) (mvT hZ (wk hw 104 rfl)) (notFace_of_selects (args := #[]) (mvT hZ (wk hw 106 rfl))) (mvT hZ (wk hw 106 rfl)) (mvT hZ (wk hw 105 rfl)) (by decide) (backOf (W := 0) (m22s l Z a0 hw [] a2 h7 n0 (Nat.le_trans Z0 K21.1) ) hZ (wk hw 107 rfl) (wk hw 10 rfl) (by decide) (by decide)) qa28 qc28 (g := (mkF m 112 #[.val (.int p1), .val (.int p2), .val (.int p3), .val (.int p4), .val (.int p5), .val (.int p6), .val (.int z), .val (.int ch1), .val (.int ch2), .val (.int ch3), .val (.ref a1), .val (.int ee), .val (.ref a2), .val (.ref b_1), .val (.ref b_7)] [(.ref a2), (.ref a2)])) rfl (by rw [hml]; rfl) (Steps.refl _) (argsL := [(.ref a2)]) (rest := []) (lenOf pdx__Ljava_lang_Object__Z rfl) rfl (by show 2 * 0 + _ ≤ _; exact Nat.le_of_eq rfl) (hb hby at_112) (fun _ _ => ⟨rfl, e27, nle rfl, nle rfl⟩)
  dsimp only [Pt.U, Pt.locs, Pt.cells, Pt.slots] at X28 l28 y28 z28 st28 hQ28
  subst l28 y28 z28
  obtain ⟨rfl, Nq28, e28⟩ := hQ28
  have N28 := Fr.app N27 Nq28
  have F31 := ((Fc_a1.keep Kq1 own_n0).keep Kq7 own_n0)
  have F32 := ((Fv_a1.keep Kq1 own_n0).keep Kq7 own_n0)
  have F33 := (F17.keep Kq7 own_n0)
  have F34 := (F9.keep Kq7 own_n0)
  have F35 := (F10.keep Kq7 own_n0)
  have F36 := (F11.keep Kq7 own_n0)
  have F37 := (own_staK F12 Kq7 ns0)
  obtain ⟨cq30, kq30, qa30, qb30, qc30⟩ := isOf hZ e28 F24
  obtain ⟨_, _, ⟨T30, L30, kk30, nn30⟩, -, X30, ⟨Lc30, hQ30, l30, y30, z30⟩, st30⟩ := X28.virtualBack hx (y := (⟨"com/example/portunus/portunus/lock/LockName", "equals", "(Ljava/lang/Object;)Z"⟩ : MethodName)) (z := (⟨"com/example/portunus/portunus/lock/LockName", "equals", "(Ljava/lang/Object;)Z"⟩ : MethodName)) hown (mvT hZ (wk hw 108 rfl)) (mvT hZ (wk hw 109 rfl)) (notFace_of_selects (args := #[]) (mvT hZ (wk hw 111 rfl))) (mvT hZ (wk hw 111 rfl)) (mvT hZ (wk hw 110 rfl)) (by decide) (backOf (W := 0) (m23_0 l Z a0 hw [] b_1 b_7 a1 b1 k1 vs1 a2 b2 k2 vs2 z wcs h7 n0 (Nat.le_trans Z0 K21.1) F24 P7_0 F23 P7_1 F26 F31 F32 F33 F29 F34 F35 F36 F37 ncs na hq) hZ (wk hw 112 rfl) (wk hw 40 rfl) (by decide) (by decide)) qa30 qc30 (g := (mkF m 122 #[.val (.int p1), .val (.int p2), .val (.int p3), .val (.int p4), .val (.int p5), .val (.int p6), .val (.int z), .val (.int ch1), .val (.int ch2), .val (.int ch3), .val (.ref a1), .val (.int ee), .val (.ref a2), .val (.ref b_1), .val (.ref b_7)] [(.ref b_7), (.ref b_1)])) rfl (by rw [hml]; rfl) (Steps.refl _) (argsL := [(.ref b_7)]) (rest := []) (lenOf pdx__Ljava_lang_Object__Z rfl) rfl (by show 2 * 0 + _ ≤ _; exact Nat.le_of_eq rfl) (hb hby at_122) (fun _ _ => ⟨rfl, e28, nle rfl, nle rfl⟩)
  dsimp only [Pt.U, Pt.locs, Pt.cells, Pt.slots] at X30 l30 y30 z30 st30 hQ30
  subst l30 y30 z30
  obtain ⟨rfl, Nq30, e30⟩ := hQ30
  have N30 := Fr.app N28 Nq30
  obtain ⟨cq38, kq38, qa38, qb38, qc38⟩ := isOf hZ e30 F26
  obtain ⟨_, _, ⟨T38, L38, kk38, nn38⟩, -, X38, ⟨Lc38, hQ38, l38, y38, z38⟩, st38⟩ := X30.virtualBack hx (y := (⟨"java/lang/String", "equals", "(Ljava/lang/Object;)Z"⟩ : MethodName)) (z := (⟨"java/lang/String", "equals", "(Ljava/lang/Object;)Z"⟩ : MethodName)) hown (mvT hZ (wk hw 103 rfl)) (mvT hZ (wk hw 104 rfl)) (notFace_of_selects (args := #[]) (mvT hZ (wk hw 106 rfl))) (mvT hZ (wk hw 106 rfl)) (mvT hZ (wk hw 105 rfl)) (by decide) (backOf (W := 1) (m22_0 l Z a0 hw [] a1 b1 k1 vs1 a2 b2 k2 vs2 z wcs h7 n0 (Nat.le_trans Z0 K21.1) F26 F31 F32 F33 F29 F34 F35 F36 F37 ncs na hq) hZ (wk hw 107 rfl) (wk hw 10 rfl) (by decide) (by decide)) qa38 qc38 (g := (mkF m 129 #[.val (.int p1), .val (.int p2), .val (.int p3), .val (.int p4), .val (.int p5), .val (.int p6), .val (.int z), .val (.int ch1), .val (.int ch2), .val (.int ch3), .val (.ref a1), .val (.int ee), .val (.ref a2), .val (.ref b_1), .val (.ref b_7)] [(.ref a2), (.ref a1), (.int (0 : Int32))])) rfl (by rw [hml]; rfl) (Steps.refl _) (argsL := [(.ref a2)]) (rest := [(.int (0 : Int32))]) (lenOf pdx__Ljava_lang_Object__Z rfl) rfl (by show 2 * 0 + _ ≤ _; exact Nat.le_of_eq rfl) (hb hby at_129) (fun _ _ => ⟨rfl, e30, nle rfl, nle rfl⟩)
  dsimp only [Pt.U, Pt.locs, Pt.cells, Pt.slots] at X38 l38 y38 z38 st38 hQ38
  subst l38 y38 z38
  obtain ⟨rfl, Nq38, e38⟩ := hQ38
  have N38 := Fr.app N30 Nq38
  refine ⟨T7.vm, T38, _, #[.val (.int p1), .val (.int p2), .val (.int p3), .val (.int p4), .val (.int p5), .val (.int p6), .val (.int z), .val (.int ch1), .val (.int ch2), .val (.int ch3), .val (.ref a1), .val (.int ee), .val (.ref a2), .val (.ref b_1), .val (.ref b_7)], _, X38.more (cells' := 32) (slots' := 2176) (nle rfl) (nle rfl), N38, hS7, K21.1, (by rw [e38]; exact (Nat.le_refl _)), fun t kont => ?_⟩
  · show Steps p.tables e below (T.setTop (mkF m 76 #[.val (.int p1), .val (.int p2), .val (.int p3), .val (.int p4), .val (.int p5), .val (.int p6), .val (.int z), .val (.int ch1), .val (.int ch2), .val (.int ch3), .val (.ref a1), .val (.int ee), .unset, .unset, .unset] [(.ref a2)])) _
    refine XS.astore X0.here hx rfl (hb hby at_76) rfl rfl (l' := #[.val (.int p1), .val (.int p2), .val (.int p3), .val (.int p4), .val (.int p5), .val (.int p6), .val (.int z), .val (.int ch1), .val (.int ch2), .val (.int ch3), .val (.ref a1), .val (.int ee), .val (.ref a2), .unset, .unset]) rfl ?_
    show Steps p.tables e below (T.setTop (mkF m 78 #[.val (.int p1), .val (.int p2), .val (.int p3), .val (.int p4), .val (.int p5), .val (.int p6), .val (.int z), .val (.int ch1), .val (.int ch2), .val (.int ch3), .val (.ref a1), .val (.int ee), .val (.ref a2), .unset, .unset] [])) _
    refine XS.aload X0.here hx rfl (hb hby at_78) rfl rfl ?_
    show Steps p.tables e below (T.setTop (mkF m 80 #[.val (.int p1), .val (.int p2), .val (.int p3), .val (.int p4), .val (.int p5), .val (.int p6), .val (.int z), .val (.int ch1), .val (.int ch2), .val (.int ch3), .val (.ref a1), .val (.int ee), .val (.ref a2), .unset, .unset] [(.ref a1)])) _
    refine st1.trans ?_
    show Steps p.tables e below (T1.setTop (mkF m 83 #[.val (.int p1), .val (.int p2), .val (.int p3), .val (.int p4), .val (.int p5), .val (.int p6), .val (.int z), .val (.int ch1), .val (.int ch2), .val (.int ch3), .val (.ref a1), .val (.int ee), .val (.ref a2), .unset, .unset] [(.ref b_1)])) _
    refine XS.astore X1.here hx rfl (hb hby at_83) rfl rfl (l' := #[.val (.int p1), .val (.int p2), .val (.int p3), .val (.int p4), .val (.int p5), .val (.int p6), .val (.int z), .val (.int ch1), .val (.int ch2), .val (.int ch3), .val (.ref a1), .val (.int ee), .val (.ref a2), .val (.ref b_1), .unset]) rfl ?_
    show Steps p.tables e below (T1.setTop (mkF m 85 #[.val (.int p1), .val (.int p2), .val (.int p3), .val (.int p4), .val (.int p5), .val (.int p6), .val (.int z), .val (.int ch1), .val (.int ch2), .val (.int ch3), .val (.ref a1), .val (.int ee), .val (.ref a2), .val (.ref b_1), .unset] [])) _
    refine XS.aload X1.here hx rfl (hb hby at_85) rfl rfl ?_
    show Steps p.tables e below (T1.setTop (mkF m 87 #[.val (.int p1), .val (.int p2), .val (.int p3), .val (.int p4), .val (.int p5), .val (.int p6), .val (.int z), .val (.int ch1), .val (.int ch2), .val (.int ch3), .val (.ref a1), .val (.int ee), .val (.ref a2), .val (.ref b_1), .unset] [(.ref a2)])) _
    refine st7.trans ?_
    show Steps p.tables e below (T7.setTop (mkF m 90 #[.val (.int p1), .val (.int p2), .val (.int p3), .val (.int p4), .val (.int p5), .val (.int p6), .val (.int z), .val (.int ch1), .val (.int ch2), .val (.int ch3), .val (.ref a1), .val (.int ee), .val (.ref a2), .val (.ref b_1), .unset] [(.ref b_7)])) _
    refine XS.astore X7.here hx rfl (hb hby at_90) rfl rfl (l' := #[.val (.int p1), .val (.int p2), .val (.int p3), .val (.int p4), .val (.int p5), .val (.int p6), .val (.int z), .val (.int ch1), .val (.int ch2), .val (.int ch3), .val (.ref a1), .val (.int ee), .val (.ref a2), .val (.ref b_1), .val (.ref b_7)]) rfl ?_
    show Steps p.tables e below (T7.setTop (mkF m 92 #[.val (.int p1), .val (.int p2), .val (.int p3), .val (.int p4), .val (.int p5), .val (.int p6), .val (.int z), .val (.int ch1), .val (.int ch2), .val (.int ch3), .val (.ref a1), .val (.int ee), .val (.ref a2), .val (.ref b_1), .val (.ref b_7)] [])) _
    refine XS.aload X7.here hx rfl (hb hby at_92) rfl rfl ?_
    show Steps p.tables e below (T7.setTop (mkF m 94 #[.val (.int p1), .val (.int p2), .val (.int p3), .val (.int p4), .val (.int p5), .val (.int p6), .val (.int z), .val (.int ch1), .val (.int ch2), .val (.int ch3), .val (.ref a1), .val (.int ee), .val (.ref a2), .val (.ref b_1), .val (.ref b_7)] [(.ref b_1)])) _
    refine st22.trans ?_
    show Steps p.tables e below (T22.setTop (mkF m 97 #[.val (.int p1), .val (.int p2), .val (.int p3), .val (.int p4), .val (.int p5), .val (.int p6), .val (.int z), .val (.int ch1), .val (.int ch2), .val (.int ch3), .val (.ref a1), .val (.int ee), .val (.ref a2), .val (.ref b_1), .val (.ref b_7)] [(.ref a1)])) _
    refine XS.aload X22.here hx rfl (hb hby at_97) rfl rfl ?_
    show Steps p.tables e below (T22.setTop (mkF m 99 #[.val (.int p1), .val (.int p2), .val (.int p3), .val (.int p4), .val (.int p5), .val (.int p6), .val (.int z), .val (.int ch1), .val (.int ch2), .val (.int ch3), .val (.ref a1), .val (.int ee), .val (.ref a2), .val (.ref b_1), .val (.ref b_7)] [(.ref a1), (.ref a1)])) _
    refine st25.trans ?_
    show Steps p.tables e below (T25.setTop (mkF m 102 #[.val (.int p1), .val (.int p2), .val (.int p3), .val (.int p4), .val (.int p5), .val (.int p6), .val (.int z), .val (.int ch1), .val (.int ch2), .val (.int ch3), .val (.ref a1), .val (.int ee), .val (.ref a2), .val (.ref b_1), .val (.ref b_7)] [(.int (1 : Int32))])) _
    refine XS.ifNo X25.here hx rfl (hb hby at_102) rfl ((if0 _ _).trans (feq (by decide : ¬ ((1 : Int32) = (0 : Int32)))).1) ?_
    show Steps p.tables e below (T25.setTop (mkF m 105 #[.val (.int p1), .val (.int p2), .val (.int p3), .val (.int p4), .val (.int p5), .val (.int p6), .val (.int z), .val (.int ch1), .val (.int ch2), .val (.int ch3), .val (.ref a1), .val (.int ee), .val (.ref a2), .val (.ref b_1), .val (.ref b_7)] [])) _
    refine XS.aload X25.here hx rfl (hb hby at_105) rfl rfl ?_
    show Steps p.tables e below (T25.setTop (mkF m 107 #[.val (.int p1), .val (.int p2), .val (.int p3), .val (.int p4), .val (.int p5), .val (.int p6), .val (.int z), .val (.int ch1), .val (.int ch2), .val (.int ch3), .val (.ref a1), .val (.int ee), .val (.ref a2), .val (.ref b_1), .val (.ref b_7)] [(.ref b_7)])) _
    refine st27.trans ?_
    show Steps p.tables e below (T27.setTop (mkF m 110 #[.val (.int p1), .val (.int p2), .val (.int p3), .val (.int p4), .val (.int p5), .val (.int p6), .val (.int z), .val (.int ch1), .val (.int ch2), .val (.int ch3), .val (.ref a1), .val (.int ee), .val (.ref a2), .val (.ref b_1), .val (.ref b_7)] [(.ref a2)])) _
    refine XS.aload X27.here hx rfl (hb hby at_110) rfl rfl ?_
    show Steps p.tables e below (T27.setTop (mkF m 112 #[.val (.int p1), .val (.int p2), .val (.int p3), .val (.int p4), .val (.int p5), .val (.int p6), .val (.int z), .val (.int ch1), .val (.int ch2), .val (.int ch3), .val (.ref a1), .val (.int ee), .val (.ref a2), .val (.ref b_1), .val (.ref b_7)] [(.ref a2), (.ref a2)])) _
    refine st28.trans ?_
    show Steps p.tables e below (T28.setTop (mkF m 115 #[.val (.int p1), .val (.int p2), .val (.int p3), .val (.int p4), .val (.int p5), .val (.int p6), .val (.int z), .val (.int ch1), .val (.int ch2), .val (.int ch3), .val (.ref a1), .val (.int ee), .val (.ref a2), .val (.ref b_1), .val (.ref b_7)] [(.int (1 : Int32))])) _
    refine XS.ifNo X28.here hx rfl (hb hby at_115) rfl ((if0 _ _).trans (feq (by decide : ¬ ((1 : Int32) = (0 : Int32)))).1) ?_
    show Steps p.tables e below (T28.setTop (mkF m 118 #[.val (.int p1), .val (.int p2), .val (.int p3), .val (.int p4), .val (.int p5), .val (.int p6), .val (.int z), .val (.int ch1), .val (.int ch2), .val (.int ch3), .val (.ref a1), .val (.int ee), .val (.ref a2), .val (.ref b_1), .val (.ref b_7)] [])) _
    refine XS.aload X28.here hx rfl (hb hby at_118) rfl rfl ?_
    show Steps p.tables e below (T28.setTop (mkF m 120 #[.val (.int p1), .val (.int p2), .val (.int p3), .val (.int p4), .val (.int p5), .val (.int p6), .val (.int z), .val (.int ch1), .val (.int ch2), .val (.int ch3), .val (.ref a1), .val (.int ee), .val (.ref a2), .val (.ref b_1), .val (.ref b_7)] [(.ref b_1)])) _
    refine XS.aload X28.here hx rfl (hb hby at_120) rfl rfl ?_
    show Steps p.tables e below (T28.setTop (mkF m 122 #[.val (.int p1), .val (.int p2), .val (.int p3), .val (.int p4), .val (.int p5), .val (.int p6), .val (.int z), .val (.int ch1), .val (.int ch2), .val (.int ch3), .val (.ref a1), .val (.int ee), .val (.ref a2), .val (.ref b_1), .val (.ref b_7)] [(.ref b_7), (.ref b_1)])) _
    refine st30.trans ?_
    show Steps p.tables e below (T30.setTop (mkF m 125 #[.val (.int p1), .val (.int p2), .val (.int p3), .val (.int p4), .val (.int p5), .val (.int p6), .val (.int z), .val (.int ch1), .val (.int ch2), .val (.int ch3), .val (.ref a1), .val (.int ee), .val (.ref a2), .val (.ref b_1), .val (.ref b_7)] [(.int (0 : Int32))])) _
    refine XS.aload X30.here hx rfl (hb hby at_125) rfl rfl ?_
    show Steps p.tables e below (T30.setTop (mkF m 127 #[.val (.int p1), .val (.int p2), .val (.int p3), .val (.int p4), .val (.int p5), .val (.int p6), .val (.int z), .val (.int ch1), .val (.int ch2), .val (.int ch3), .val (.ref a1), .val (.int ee), .val (.ref a2), .val (.ref b_1), .val (.ref b_7)] [(.ref a1), (.int (0 : Int32))])) _
    refine XS.aload X30.here hx rfl (hb hby at_127) rfl rfl ?_
    show Steps p.tables e below (T30.setTop (mkF m 129 #[.val (.int p1), .val (.int p2), .val (.int p3), .val (.int p4), .val (.int p5), .val (.int p6), .val (.int z), .val (.int ch1), .val (.int ch2), .val (.int ch3), .val (.ref a1), .val (.int ee), .val (.ref a2), .val (.ref b_1), .val (.ref b_7)] [(.ref a2), (.ref a1), (.int (0 : Int32))])) _
    refine st38.trans ?_
    show Steps p.tables e below (T38.setTop (mkF m 132 #[.val (.int p1), .val (.int p2), .val (.int p3), .val (.int p4), .val (.int p5), .val (.int p6), .val (.int z), .val (.int ch1), .val (.int ch2), .val (.int ch3), .val (.ref a1), .val (.int ee), .val (.ref a2), .val (.ref b_1), .val (.ref b_7)] [(.int (0 : Int32)), (.int (0 : Int32))])) _
    refine XS.icmpNo X38.here hx rfl (hb hby at_132) rfl (teq (by decide : (0 : Int32) = (0 : Int32))).2 ?_
    show Steps p.tables e below (T38.setTop (mkF m 135 #[.val (.int p1), .val (.int p2), .val (.int p3), .val (.int p4), .val (.int p5), .val (.int p6), .val (.int z), .val (.int ch1), .val (.int ch2), .val (.int ch3), .val (.ref a1), .val (.int ee), .val (.ref a2), .val (.ref b_1), .val (.ref b_7)] [])) _
    refine XS.iconst X38.here hx rfl (hb hby at_135) ?_
    show Steps p.tables e below (T38.setTop (mkF m 136 #[.val (.int p1), .val (.int p2), .val (.int p3), .val (.int p4), .val (.int p5), .val (.int p6), .val (.int z), .val (.int ch1), .val (.int ch2), .val (.int ch3), .val (.ref a1), .val (.int ee), .val (.ref a2), .val (.ref b_1), .val (.ref b_7)] [(.int (1 : Int32))])) _
    refine XS.goto X38.here hx rfl (pc0 := 136) (pc' := 140) rfl (hb hby at_136) (by decide) (by decide) ?_
    exact kont
set_option maxRecDepth 65536 in
set_option maxHeartbeats 40000000 in
theorem seg5_1 {p : Program} {l : Launch} {e : Env} {s : State} {m : MethodId} {args : Array Value} {below : List Frame} {meth : Method} {c : Code} {Z : State} {a0 : Array Value} (hw : ∀ d ∈ tables_1, d.before a0 Z = true) (hx : p.tables.exec = Jvm.exec) (hby : c.code = code) (hml : c.maxLocals = 15) (hZ : Z.Warmed39 s.vm) (hown : s.vm.findClass "com/example/portunus/portunus/lock/LockNameOfPinLaw" = some m.cls) {T : State} {locs : List Loc} (X0 : Stand p l e room_1 s m args below meth c T locs 8 32) {h0 : Heap} (e0 : T.heap = h0) {n0 : Nat} (Z0 : n0 ≤ h0.size) (N0 : Fr n0 locs) (p1 p2 p3 p4 p5 p6 z ch1 ch2 ch3 ee : Int32) (a1 b1 : Addr) (k1 : ClassId) (vs1 : List Value) (a2 b2 : Addr) (k2 : ClassId) (vs2 : List Value) (wcs : Int32) (rg : Value) (E_a1 : Exa Z h0 a1 "java/lang/String") (Fc_a1 : Fld Z h0 a1 "java/lang/String" "coder" "B" (.int (0 : Int32))) (Fv_a1 : Fld Z h0 a1 "java/lang/String" "value" "[B" (.ref b1)) (V1 : Arv Z h0 b1 k1 .byte z vs1 (.int (0 : Int32))) (E_a2 : Exa Z h0 a2 "java/lang/String") (Fc_a2 : Fld Z h0 a2 "java/lang/String" "coder" "B" (.int (0 : Int32))) (Fv_a2 : Fld Z h0 a2 "java/lang/String" "value" "[B" (.ref b2)) (V2 : Arv Z h0 b2 k2 .byte z vs2 (.int (0 : Int32))) (S_CS : Sta Z h0 "java/lang/String" "COMPACT_STRINGS" "Z" (.int wcs)) (ncs : ¬ (wcs = (0 : Int32))) (S_SI : Sta Z h0 "jdk/internal/util/Preconditions" "SIOOBE_FORMATTER" "Ljava/util/function/BiFunction;" rg) (r_rg : rg.isRef = true) (na : a1 ≠ a2) (hEL : EW Z a0 [("com/example/portunus/portunus/lock/LockName", 13), ("com/example/portunus/portunus/lock/LockName", 82)]) (HC : CHv Z [("com/example/portunus/portunus/lock/LockName", 13), ("com/example/portunus/portunus/lock/LockName", 82)] s.vm h0) (al1 : own_AL z vs1) (al2 : own_AL z vs2) (hq : own_EQ z vs1 vs2 (1 : Int32)) :
    ∃ (vmB : Vm) (T' : State) (locs' : List Loc) (Ls : Array Slot) (k : Nat), Stand p l e room_1 (s.setVm vmB) m args below meth c T' locs' 32 2176 ∧ Fr n0 locs' ∧ s.Since vmB k ∧ h0.size ≤ k ∧ k ≤ T'.heap.size ∧ ∀ t, Steps p.tables e below (T'.setTop (mkF m 140 Ls [(.int (1 : Int32))])) t → Steps p.tables e below (T.setTop (mkF m 76 #[.val (.int p1), .val (.int p2), .val (.int p3), .val (.int p4), .val (.int p5), .val (.int p6), .val (.int z), .val (.int ch1), .val (.int ch2), .val (.int ch3), .val (.ref a1), .val (.int ee), .unset, .unset, .unset] [(.ref a2)])) t := by
  obtain ⟨_, _, ⟨T1, L1, kk1, nn1⟩, -, X1, hSq1, hg1, ⟨Lc1, hQ1, l1, y1, z1, C1⟩, st1⟩ := callSS (s := s) X0 hx (y := (⟨"com/example/portunus/portunus/lock/LockName", "of", "(Ljava/lang/String;)Lcom/example/portunus/portunus/lock/LockName;"⟩ : MethodName)) hown (mvT hZ (wk hw 38 rfl)) (mvT hZ (wk hw 39 rfl)) (mvT hZ (wk hw 40 rfl)) (mvT hZ (wk hw 41 rfl)) (by decide) (backOfSH (s := s) (vm0 := s.vm) (W := 0) (own_m9 l Z a0 hw [] a1 b1 k1 z vs1 wcs rg [("com/example/portunus/portunus/lock/LockName", 13), ("com/example/portunus/portunus/lock/LockName", 82)] h0 n0 Z0 E_a1 Fc_a1 Fv_a1 V1 S_CS ncs S_SI r_rg hEL (by decide) (by decide) al1) hZ (wk hw 41 rfl) (wk hw 40 rfl) (by decide) (by decide) hEL HC) (g := (mkF m 80 #[.val (.int p1), .val (.int p2), .val (.int p3), .val (.int p4), .val (.int p5), .val (.int p6), .val (.int z), .val (.int ch1), .val (.int ch2), .val (.int ch3), .val (.ref a1), .val (.int ee), .val (.ref a2), .unset, .unset] [(.ref a1)])) rfl (by rw [hml]; rfl) (argsL := [(.ref a1)]) (rest := []) (lenOf pdx__Ljava_lang_String__Lcom_example_portunus_portunus_lock_LockName_ rfl) rfl (by show 2 * 0 + _ ≤ _; exact Nat.le_of_eq rfl) (hb hby at_80) (fun _ _ => ⟨rfl, e0, nle rfl, nle rfl⟩)
  dsimp only [Pt.U, Pt.locs, Pt.cells, Pt.slots] at X1 hSq1 hg1 l1 y1 z1 st1 hQ1 C1
  subst l1 y1 z1
  obtain ⟨b_1, rfl, Nq1, Kq1, P1_0, P1_1, P1_2⟩ := hQ1
  have N1 := Fr.app N0 Nq1
  obtain ⟨h1, e1⟩ : ∃ h, T1.heap = h := ⟨_, rfl⟩
  rw [e1] at Kq1 C1 hSq1 P1_0 P1_1
  have hZ : Z.Warmed39 (s.setVm T1.vm).vm := State.Warmed39.trans (t := s) hZ hSq1.1
  have hown : (s.setVm T1.vm).vm.findClass "com/example/portunus/portunus/lock/LockNameOfPinLaw" = some m.cls := by rw [show (s.setVm T1.vm).vm = T1.vm from rfl, hSq1.1.alike.findClass]; exact hown
  have X1 : Stand p l e _ (s.setVm T1.vm) m _ below meth c T1 _ _ _ := X1
  have hS1 : s.Since T1.vm h1.size := hSq1
  have sz_b_1 : h0.size ≤ b_1 := P1_2
  have ge_b_1 : n0 ≤ b_1 := Nat.le_trans Z0 sz_b_1
  have ne_2 : a1 ≠ b_1 := Nat.ne_of_lt (Nat.lt_of_lt_of_le E_a1.lt P1_2)
  have ne_3 : b1 ≠ b_1 := Nat.ne_of_lt (Nat.lt_of_lt_of_le V1.lt P1_2)
  have ne_4 : a2 ≠ b_1 := Nat.ne_of_lt (Nat.lt_of_lt_of_le E_a2.lt P1_2)
  have ne_5 : b2 ≠ b_1 := Nat.ne_of_lt (Nat.lt_of_lt_of_le V2.lt P1_2)
  have CR1 := C1
  have K6 : Keep h0 h1 [] := (Keep.refl h0 []).trans Kq1 own_m0
  have F8 := (E_a2.keep Kq1)
  have F9 := (Fc_a2.keep Kq1 own_n0)
  have F10 := (Fv_a2.keep Kq1 own_n0)
  have F11 := (V2.keep Kq1 own_n0)
  have F12 := (own_staK S_CS Kq1 ns0)
  have F13 := (own_staK S_SI Kq1 ns0)
  obtain ⟨_, _, ⟨T7, L7, kk7, nn7⟩, -, X7, hSq7, hg7, ⟨Lc7, hQ7, l7, y7, z7, C7⟩, st7⟩ := callSS (s := s.setVm T1.vm) X1 hx (y := (⟨"com/example/portunus/portunus/lock/LockName", "of", "(Ljava/lang/String;)Lcom/example/portunus/portunus/lock/LockName;"⟩ : MethodName)) hown (mvT hZ (wk hw 38 rfl)) (mvT hZ (wk hw 39 rfl)) (mvT hZ (wk hw 40 rfl)) (mvT hZ (wk hw 41 rfl)) (by decide) (backOfSH (s := s) (vm0 := T1.vm) (W := 0) (own_m9 l Z a0 hw [] a2 b2 k2 z vs2 wcs rg [("com/example/portunus/portunus/lock/LockName", 13), ("com/example/portunus/portunus/lock/LockName", 82)] h1 n0 (Nat.le_trans Z0 K6.1) F8 F9 F10 F11 F12 ncs F13 r_rg hEL (by decide) (by decide) al2) hZ (wk hw 41 rfl) (wk hw 40 rfl) (by decide) (by decide) hEL CR1.1) (g := (mkF m 87 #[.val (.int p1), .val (.int p2), .val (.int p3), .val (.int p4), .val (.int p5), .val (.int p6), .val (.int z), .val (.int ch1), .val (.int ch2), .val (.int ch3), .val (.ref a1), .val (.int ee), .val (.ref a2), .val (.ref b_1), .unset] [(.ref a2)])) rfl (by rw [hml]; rfl) (argsL := [(.ref a2)]) (rest := []) (lenOf pdx__Ljava_lang_String__Lcom_example_portunus_portunus_lock_LockName_ rfl) rfl (by show 2 * 0 + _ ≤ _; exact Nat.le_of_eq rfl) (hb hby at_87) (fun _ _ => ⟨rfl, e1, nle rfl, nle rfl⟩)
  dsimp only [Pt.U, Pt.locs, Pt.cells, Pt.slots] at X7 hSq7 hg7 l7 y7 z7 st7 hQ7 C7
  subst l7 y7 z7
  obtain ⟨b_7, rfl, Nq7, Kq7, P7_0, P7_1, P7_2⟩ := hQ7
  have N7 := Fr.app N1 Nq7
  obtain ⟨h7, e7⟩ : ∃ h, T7.heap = h := ⟨_, rfl⟩
  rw [e7] at Kq7 C7 hSq7 P7_0 P7_1
  have hZ : Z.Warmed39 (s.setVm T7.vm).vm := State.Warmed39.trans (t := s.setVm T1.vm) hZ hSq7.1
  have hown : (s.setVm T7.vm).vm.findClass "com/example/portunus/portunus/lock/LockNameOfPinLaw" = some m.cls := by rw [show (s.setVm T7.vm).vm = T7.vm from rfl, hSq7.1.alike.findClass]; exact hown
  have X7 : Stand p l e _ (s.setVm T7.vm) m _ below meth c T7 _ _ _ := X7
  have hS7 : s.Since T7.vm h7.size := (hS1).trans hSq7 (Nat.le_trans (Nat.le_refl _) Kq7.1)
  have sz_b_7 : h0.size ≤ b_7 := Nat.le_trans K6.1 P7_2
  have ge_b_7 : n0 ≤ b_7 := Nat.le_trans Z0 sz_b_7
  have F15 := (E_a1.keep Kq1)
  have ne_14 : a1 ≠ b_7 := Nat.ne_of_lt (Nat.lt_of_lt_of_le F15.lt P7_2)
  have F17 := (V1.keep Kq1 own_n0)
  have ne_16 : b1 ≠ b_7 := Nat.ne_of_lt (Nat.lt_of_lt_of_le F17.lt P7_2)
  have ne_18 : a2 ≠ b_7 := Nat.ne_of_lt (Nat.lt_of_lt_of_le F8.lt P7_2)
  have ne_19 : b2 ≠ b_7 := Nat.ne_of_lt (Nat.lt_of_lt_of_le F11.lt P7_2)
  have ne_20 : b_1 ≠ b_7 := Nat.ne_of_lt (Nat.lt_of_lt_of_le P1_0.lt P7_2)
  have CR7 := CR1.trans C7
  have K21 : Keep h0 h7 [] := K6.trans Kq7 own_m0
  have F23 := (P1_1.keep Kq7 own_n0)
  have F24 := (P1_0.keep Kq7)
  obtain ⟨cq22, kq22, qa22, qb22, qc22⟩ := isOf hZ e7 F24
  obtain ⟨_, _, ⟨T22, L22, kk22, nn22⟩, -, X22, ⟨Lc22, hQ22, l22, y22, z22⟩, st22⟩ := X7.virtualBack hx (y := (⟨"com/example/portunus/portunus/lock/LockName", "toString", "()Ljava/lang/String;"⟩ : MethodName)) (z := (⟨"com/example/portunus/portunus/lock/LockName", "toString", "()Ljava/lang/String;"⟩ : MethodName)) hown (mvT hZ (wk hw 98 rfl)) (mvT hZ (wk hw 99 rfl)) (notFace_of_selects (args := #[]) (mvT hZ (wk hw 101 rfl))) (mvT hZ (wk hw 101 rfl)) (mvT hZ (wk hw 100 rfl)) (by decide) (backOf (W := 0) (m21 l Z a0 hw [] b_1 a1 h7 n0 (Nat.le_trans Z0 K21.1) F23) hZ (wk hw 102 rfl) (wk hw 40 rfl) (by decide) (by decide)) qa22 qc22 (g := (mkF m 94 #[.val (.int p1), .val (.int p2), .val (.int p3), .val (.int p4), .val (.int p5), .val (.int p6), .val (.int z), .val (.int ch1), .val (.int ch2), .val (.int ch3), .val (.ref a1), .val (.int ee), .val (.ref a2), .val (.ref b_1), .val (.ref b_7)] [(.ref b_1)])) rfl (by rw [hml]; rfl) (Steps.refl _) (argsL := []) (rest := []) (lenOf pdx___Ljava_lang_String_ rfl) rfl (by show 2 * 0 + _ ≤ _; exact Nat.le_of_eq rfl) (hb hby at_94) (fun _ _ => ⟨rfl, e7, nle rfl, nle rfl⟩)
  dsimp only [Pt.U, Pt.locs, Pt.cells, Pt.slots] at X22 l22 y22 z22 st22 hQ22
  subst l22 y22 z22
  obtain ⟨rfl, Nq22, e22⟩ := hQ22
  have N22 := Fr.app N7 Nq22
  have F26 := (F15.keep Kq7)
  obtain ⟨cq25, kq25, qa25, qb25, qc25⟩ := isOf hZ e22 F26
  obtain ⟨_, _, ⟨T25, L25, kk25, nn25⟩, -, X25, ⟨Lc25, hQ25, l25, y25, z25⟩, st25⟩ := X22.virtualBack hx (y := (⟨"java/lang/String", "equals", "(Ljava/lang/Object;)Z"⟩ : MethodName)) (z := (⟨"java/lang/String", "equals", "(Ljava/lang/Object;)Z"⟩ : MethodName)) hown (mvT hZ (wk hw 103 rfl)) (mvT hZ (wk hw 104 rfl)) (notFace_of_selects (args := #[]) (mvT hZ (wk hw 106 rfl))) (mvT hZ (wk hw 106 rfl)) (mvT hZ (wk hw 105 rfl)) (by decide) (backOf (W := 0) (m22s l Z a0 hw [] a1 h7 n0 (Nat.le_trans Z0 K21.1) ) hZ (wk hw 107 rfl) (wk hw 10 rfl) (by decide) (by decide)) qa25 qc25 (g := (mkF m 99 #[.val (.int p1), .val (.int p2), .val (.int p3), .val (.int p4), .val (.int p5), .val (.int p6), .val (.int z), .val (.int ch1), .val (.int ch2), .val (.int ch3), .val (.ref a1), .val (.int ee), .val (.ref a2), .val (.ref b_1), .val (.ref b_7)] [(.ref a1), (.ref a1)])) rfl (by rw [hml]; rfl) (Steps.refl _) (argsL := [(.ref a1)]) (rest := []) (lenOf pdx__Ljava_lang_Object__Z rfl) rfl (by show 2 * 0 + _ ≤ _; exact Nat.le_of_eq rfl) (hb hby at_99) (fun _ _ => ⟨rfl, e22, nle rfl, nle rfl⟩)
  dsimp only [Pt.U, Pt.locs, Pt.cells, Pt.slots] at X25 l25 y25 z25 st25 hQ25
  subst l25 y25 z25
  obtain ⟨rfl, Nq25, e25⟩ := hQ25
  have N25 := Fr.app N22 Nq25
  obtain ⟨cq27, kq27, qa27, qb27, qc27⟩ := isOf hZ e25 P7_0
  obtain ⟨_, _, ⟨T27, L27, kk27, nn27⟩, -, X27, ⟨Lc27, hQ27, l27, y27, z27⟩, st27⟩ := X25.virtualBack hx (y := (⟨"com/example/portunus/portunus/lock/LockName", "toString", "()Ljava/lang/String;"⟩ : MethodName)) (z := (⟨"com/example/portunus/portunus/lock/LockName", "toString", "()Ljava/lang/String;"⟩ : MethodName)) hown (mvT hZ (wk hw 98 rfl)) (mvT hZ (wk hw 99 rfl)) (notFace_of_selects (args := #[]) (mvT hZ (wk hw 101 rfl))) (mvT hZ (wk hw 101 rfl)) (mvT hZ (wk hw 100 rfl)) (by decide) (backOf (W := 0) (m21 l Z a0 hw [] b_7 a2 h7 n0 (Nat.le_trans Z0 K21.1) P7_1) hZ (wk hw 102 rfl) (wk hw 40 rfl) (by decide) (by decide)) qa27 qc27 (g := (mkF m 107 #[.val (.int p1), .val (.int p2), .val (.int p3), .val (.int p4), .val (.int p5), .val (.int p6), .val (.int z), .val (.int ch1), .val (.int ch2), .val (.int ch3), .val (.ref a1), .val (.int ee), .val (.ref a2), .val (.ref b_1), .val (.ref b_7)] [(.ref b_7)])) rfl (by rw [hml]; rfl) (Steps.refl _) (argsL := []) (rest := []) (lenOf pdx___Ljava_lang_String_ rfl) rfl (by show 2 * 0 + _ ≤ _; exact Nat.le_of_eq rfl) (hb hby at_107) (fun _ _ => ⟨rfl, e25, nle rfl, nle rfl⟩)
  dsimp only [Pt.U, Pt.locs, Pt.cells, Pt.slots] at X27 l27 y27 z27 st27 hQ27
  subst l27 y27 z27
  obtain ⟨rfl, Nq27, e27⟩ := hQ27
  have N27 := Fr.app N25 Nq27
  have F29 := (F8.keep Kq7)
  obtain ⟨cq28, kq28, qa28, qb28, qc28⟩ := isOf hZ e27 F29
  obtain ⟨_, _, ⟨T28, L28, kk28, nn28⟩, -, X28, ⟨Lc28, hQ28, l28, y28, z28⟩, st28⟩ := X27.virtualBack hx (y := (⟨"java/lang/String", "equals", "(Ljava/lang/Object;)Z"⟩ : MethodName)) (z := (⟨"java/lang/String", "equals", "(Ljava/lang/Object;)Z"⟩ : MethodName)) hown (mvT hZ (wk hw 103 rfl)) (mvT hZ (wk hw 104 rfl)) (notFace_of_selects (args := #[]) (mvT hZ (wk hw 106 rfl))) (mvT hZ (wk hw 106 rfl)) (mvT hZ (wk hw 105 rfl)) (by decide) (backOf (W := 0) (m22s l Z a0 hw [] a2 h7 n0 (Nat.le_trans Z0 K21.1) ) hZ (wk hw 107 rfl) (wk hw 10 rfl) (by decide) (by decide)) qa28 qc28 (g := (mkF m 112 #[.val (.int p1), .val (.int p2), .val (.int p3), .val (.int p4), .val (.int p5), .val (.int p6), .val (.int z), .val (.int ch1), .val (.int ch2), .val (.int ch3), .val (.ref a1), .val (.int ee), .val (.ref a2), .val (.ref b_1), .val (.ref b_7)] [(.ref a2), (.ref a2)])) rfl (by rw [hml]; rfl) (Steps.refl _) (argsL := [(.ref a2)]) (rest := []) (lenOf pdx__Ljava_lang_Object__Z rfl) rfl (by show 2 * 0 + _ ≤ _; exact Nat.le_of_eq rfl) (hb hby at_112) (fun _ _ => ⟨rfl, e27, nle rfl, nle rfl⟩)
  dsimp only [Pt.U, Pt.locs, Pt.cells, Pt.slots] at X28 l28 y28 z28 st28 hQ28
  subst l28 y28 z28
  obtain ⟨rfl, Nq28, e28⟩ := hQ28
  have N28 := Fr.app N27 Nq28
  have F31 := ((Fc_a1.keep Kq1 own_n0).keep Kq7 own_n0)
  have F32 := ((Fv_a1.keep Kq1 own_n0).keep Kq7 own_n0)
  have F33 := (F17.keep Kq7 own_n0)
  have F34 := (F9.keep Kq7 own_n0)
  have F35 := (F10.keep Kq7 own_n0)
  have F36 := (F11.keep Kq7 own_n0)
  have F37 := (own_staK F12 Kq7 ns0)
  obtain ⟨cq30, kq30, qa30, qb30, qc30⟩ := isOf hZ e28 F24
  obtain ⟨_, _, ⟨T30, L30, kk30, nn30⟩, -, X30, ⟨Lc30, hQ30, l30, y30, z30⟩, st30⟩ := X28.virtualBack hx (y := (⟨"com/example/portunus/portunus/lock/LockName", "equals", "(Ljava/lang/Object;)Z"⟩ : MethodName)) (z := (⟨"com/example/portunus/portunus/lock/LockName", "equals", "(Ljava/lang/Object;)Z"⟩ : MethodName)) hown (mvT hZ (wk hw 108 rfl)) (mvT hZ (wk hw 109 rfl)) (notFace_of_selects (args := #[]) (mvT hZ (wk hw 111 rfl))) (mvT hZ (wk hw 111 rfl)) (mvT hZ (wk hw 110 rfl)) (by decide) (backOf (W := 0) (m23_1 l Z a0 hw [] b_1 b_7 a1 b1 k1 vs1 a2 b2 k2 vs2 z wcs h7 n0 (Nat.le_trans Z0 K21.1) F24 P7_0 F23 P7_1 F26 F31 F32 F33 F29 F34 F35 F36 F37 ncs na hq) hZ (wk hw 112 rfl) (wk hw 40 rfl) (by decide) (by decide)) qa30 qc30 (g := (mkF m 122 #[.val (.int p1), .val (.int p2), .val (.int p3), .val (.int p4), .val (.int p5), .val (.int p6), .val (.int z), .val (.int ch1), .val (.int ch2), .val (.int ch3), .val (.ref a1), .val (.int ee), .val (.ref a2), .val (.ref b_1), .val (.ref b_7)] [(.ref b_7), (.ref b_1)])) rfl (by rw [hml]; rfl) (Steps.refl _) (argsL := [(.ref b_7)]) (rest := []) (lenOf pdx__Ljava_lang_Object__Z rfl) rfl (by show 2 * 0 + _ ≤ _; exact Nat.le_of_eq rfl) (hb hby at_122) (fun _ _ => ⟨rfl, e28, nle rfl, nle rfl⟩)
  dsimp only [Pt.U, Pt.locs, Pt.cells, Pt.slots] at X30 l30 y30 z30 st30 hQ30
  subst l30 y30 z30
  obtain ⟨rfl, Nq30, e30⟩ := hQ30
  have N30 := Fr.app N28 Nq30
  obtain ⟨cq38, kq38, qa38, qb38, qc38⟩ := isOf hZ e30 F26
  obtain ⟨_, _, ⟨T38, L38, kk38, nn38⟩, -, X38, ⟨Lc38, hQ38, l38, y38, z38⟩, st38⟩ := X30.virtualBack hx (y := (⟨"java/lang/String", "equals", "(Ljava/lang/Object;)Z"⟩ : MethodName)) (z := (⟨"java/lang/String", "equals", "(Ljava/lang/Object;)Z"⟩ : MethodName)) hown (mvT hZ (wk hw 103 rfl)) (mvT hZ (wk hw 104 rfl)) (notFace_of_selects (args := #[]) (mvT hZ (wk hw 106 rfl))) (mvT hZ (wk hw 106 rfl)) (mvT hZ (wk hw 105 rfl)) (by decide) (backOf (W := 1) (m22_1 l Z a0 hw [] a1 b1 k1 vs1 a2 b2 k2 vs2 z wcs h7 n0 (Nat.le_trans Z0 K21.1) F26 F31 F32 F33 F29 F34 F35 F36 F37 ncs na hq) hZ (wk hw 107 rfl) (wk hw 10 rfl) (by decide) (by decide)) qa38 qc38 (g := (mkF m 129 #[.val (.int p1), .val (.int p2), .val (.int p3), .val (.int p4), .val (.int p5), .val (.int p6), .val (.int z), .val (.int ch1), .val (.int ch2), .val (.int ch3), .val (.ref a1), .val (.int ee), .val (.ref a2), .val (.ref b_1), .val (.ref b_7)] [(.ref a2), (.ref a1), (.int (1 : Int32))])) rfl (by rw [hml]; rfl) (Steps.refl _) (argsL := [(.ref a2)]) (rest := [(.int (1 : Int32))]) (lenOf pdx__Ljava_lang_Object__Z rfl) rfl (by show 2 * 0 + _ ≤ _; exact Nat.le_of_eq rfl) (hb hby at_129) (fun _ _ => ⟨rfl, e30, nle rfl, nle rfl⟩)
  dsimp only [Pt.U, Pt.locs, Pt.cells, Pt.slots] at X38 l38 y38 z38 st38 hQ38
  subst l38 y38 z38
  obtain ⟨rfl, Nq38, e38⟩ := hQ38
  have N38 := Fr.app N30 Nq38
  refine ⟨T7.vm, T38, _, #[.val (.int p1), .val (.int p2), .val (.int p3), .val (.int p4), .val (.int p5), .val (.int p6), .val (.int z), .val (.int ch1), .val (.int ch2), .val (.int ch3), .val (.ref a1), .val (.int ee), .val (.ref a2), .val (.ref b_1), .val (.ref b_7)], _, X38.more (cells' := 32) (slots' := 2176) (nle rfl) (nle rfl), N38, hS7, K21.1, (by rw [e38]; exact (Nat.le_refl _)), fun t kont => ?_⟩
  · show Steps p.tables e below (T.setTop (mkF m 76 #[.val (.int p1), .val (.int p2), .val (.int p3), .val (.int p4), .val (.int p5), .val (.int p6), .val (.int z), .val (.int ch1), .val (.int ch2), .val (.int ch3), .val (.ref a1), .val (.int ee), .unset, .unset, .unset] [(.ref a2)])) _
    refine XS.astore X0.here hx rfl (hb hby at_76) rfl rfl (l' := #[.val (.int p1), .val (.int p2), .val (.int p3), .val (.int p4), .val (.int p5), .val (.int p6), .val (.int z), .val (.int ch1), .val (.int ch2), .val (.int ch3), .val (.ref a1), .val (.int ee), .val (.ref a2), .unset, .unset]) rfl ?_
    show Steps p.tables e below (T.setTop (mkF m 78 #[.val (.int p1), .val (.int p2), .val (.int p3), .val (.int p4), .val (.int p5), .val (.int p6), .val (.int z), .val (.int ch1), .val (.int ch2), .val (.int ch3), .val (.ref a1), .val (.int ee), .val (.ref a2), .unset, .unset] [])) _
    refine XS.aload X0.here hx rfl (hb hby at_78) rfl rfl ?_
    show Steps p.tables e below (T.setTop (mkF m 80 #[.val (.int p1), .val (.int p2), .val (.int p3), .val (.int p4), .val (.int p5), .val (.int p6), .val (.int z), .val (.int ch1), .val (.int ch2), .val (.int ch3), .val (.ref a1), .val (.int ee), .val (.ref a2), .unset, .unset] [(.ref a1)])) _
    refine st1.trans ?_
    show Steps p.tables e below (T1.setTop (mkF m 83 #[.val (.int p1), .val (.int p2), .val (.int p3), .val (.int p4), .val (.int p5), .val (.int p6), .val (.int z), .val (.int ch1), .val (.int ch2), .val (.int ch3), .val (.ref a1), .val (.int ee), .val (.ref a2), .unset, .unset] [(.ref b_1)])) _
    refine XS.astore X1.here hx rfl (hb hby at_83) rfl rfl (l' := #[.val (.int p1), .val (.int p2), .val (.int p3), .val (.int p4), .val (.int p5), .val (.int p6), .val (.int z), .val (.int ch1), .val (.int ch2), .val (.int ch3), .val (.ref a1), .val (.int ee), .val (.ref a2), .val (.ref b_1), .unset]) rfl ?_
    show Steps p.tables e below (T1.setTop (mkF m 85 #[.val (.int p1), .val (.int p2), .val (.int p3), .val (.int p4), .val (.int p5), .val (.int p6), .val (.int z), .val (.int ch1), .val (.int ch2), .val (.int ch3), .val (.ref a1), .val (.int ee), .val (.ref a2), .val (.ref b_1), .unset] [])) _
    refine XS.aload X1.here hx rfl (hb hby at_85) rfl rfl ?_
    show Steps p.tables e below (T1.setTop (mkF m 87 #[.val (.int p1), .val (.int p2), .val (.int p3), .val (.int p4), .val (.int p5), .val (.int p6), .val (.int z), .val (.int ch1), .val (.int ch2), .val (.int ch3), .val (.ref a1), .val (.int ee), .val (.ref a2), .val (.ref b_1), .unset] [(.ref a2)])) _
    refine st7.trans ?_
    show Steps p.tables e below (T7.setTop (mkF m 90 #[.val (.int p1), .val (.int p2), .val (.int p3), .val (.int p4), .val (.int p5), .val (.int p6), .val (.int z), .val (.int ch1), .val (.int ch2), .val (.int ch3), .val (.ref a1), .val (.int ee), .val (.ref a2), .val (.ref b_1), .unset] [(.ref b_7)])) _
    refine XS.astore X7.here hx rfl (hb hby at_90) rfl rfl (l' := #[.val (.int p1), .val (.int p2), .val (.int p3), .val (.int p4), .val (.int p5), .val (.int p6), .val (.int z), .val (.int ch1), .val (.int ch2), .val (.int ch3), .val (.ref a1), .val (.int ee), .val (.ref a2), .val (.ref b_1), .val (.ref b_7)]) rfl ?_
    show Steps p.tables e below (T7.setTop (mkF m 92 #[.val (.int p1), .val (.int p2), .val (.int p3), .val (.int p4), .val (.int p5), .val (.int p6), .val (.int z), .val (.int ch1), .val (.int ch2), .val (.int ch3), .val (.ref a1), .val (.int ee), .val (.ref a2), .val (.ref b_1), .val (.ref b_7)] [])) _
    refine XS.aload X7.here hx rfl (hb hby at_92) rfl rfl ?_
    show Steps p.tables e below (T7.setTop (mkF m 94 #[.val (.int p1), .val (.int p2), .val (.int p3), .val (.int p4), .val (.int p5), .val (.int p6), .val (.int z), .val (.int ch1), .val (.int ch2), .val (.int ch3), .val (.ref a1), .val (.int ee), .val (.ref a2), .val (.ref b_1), .val (.ref b_7)] [(.ref b_1)])) _
    refine st22.trans ?_
    show Steps p.tables e below (T22.setTop (mkF m 97 #[.val (.int p1), .val (.int p2), .val (.int p3), .val (.int p4), .val (.int p5), .val (.int p6), .val (.int z), .val (.int ch1), .val (.int ch2), .val (.int ch3), .val (.ref a1), .val (.int ee), .val (.ref a2), .val (.ref b_1), .val (.ref b_7)] [(.ref a1)])) _
    refine XS.aload X22.here hx rfl (hb hby at_97) rfl rfl ?_
    show Steps p.tables e below (T22.setTop (mkF m 99 #[.val (.int p1), .val (.int p2), .val (.int p3), .val (.int p4), .val (.int p5), .val (.int p6), .val (.int z), .val (.int ch1), .val (.int ch2), .val (.int ch3), .val (.ref a1), .val (.int ee), .val (.ref a2), .val (.ref b_1), .val (.ref b_7)] [(.ref a1), (.ref a1)])) _
    refine st25.trans ?_
    show Steps p.tables e below (T25.setTop (mkF m 102 #[.val (.int p1), .val (.int p2), .val (.int p3), .val (.int p4), .val (.int p5), .val (.int p6), .val (.int z), .val (.int ch1), .val (.int ch2), .val (.int ch3), .val (.ref a1), .val (.int ee), .val (.ref a2), .val (.ref b_1), .val (.ref b_7)] [(.int (1 : Int32))])) _
    refine XS.ifNo X25.here hx rfl (hb hby at_102) rfl ((if0 _ _).trans (feq (by decide : ¬ ((1 : Int32) = (0 : Int32)))).1) ?_
    show Steps p.tables e below (T25.setTop (mkF m 105 #[.val (.int p1), .val (.int p2), .val (.int p3), .val (.int p4), .val (.int p5), .val (.int p6), .val (.int z), .val (.int ch1), .val (.int ch2), .val (.int ch3), .val (.ref a1), .val (.int ee), .val (.ref a2), .val (.ref b_1), .val (.ref b_7)] [])) _
    refine XS.aload X25.here hx rfl (hb hby at_105) rfl rfl ?_
    show Steps p.tables e below (T25.setTop (mkF m 107 #[.val (.int p1), .val (.int p2), .val (.int p3), .val (.int p4), .val (.int p5), .val (.int p6), .val (.int z), .val (.int ch1), .val (.int ch2), .val (.int ch3), .val (.ref a1), .val (.int ee), .val (.ref a2), .val (.ref b_1), .val (.ref b_7)] [(.ref b_7)])) _
    refine st27.trans ?_
    show Steps p.tables e below (T27.setTop (mkF m 110 #[.val (.int p1), .val (.int p2), .val (.int p3), .val (.int p4), .val (.int p5), .val (.int p6), .val (.int z), .val (.int ch1), .val (.int ch2), .val (.int ch3), .val (.ref a1), .val (.int ee), .val (.ref a2), .val (.ref b_1), .val (.ref b_7)] [(.ref a2)])) _
    refine XS.aload X27.here hx rfl (hb hby at_110) rfl rfl ?_
    show Steps p.tables e below (T27.setTop (mkF m 112 #[.val (.int p1), .val (.int p2), .val (.int p3), .val (.int p4), .val (.int p5), .val (.int p6), .val (.int z), .val (.int ch1), .val (.int ch2), .val (.int ch3), .val (.ref a1), .val (.int ee), .val (.ref a2), .val (.ref b_1), .val (.ref b_7)] [(.ref a2), (.ref a2)])) _
    refine st28.trans ?_
    show Steps p.tables e below (T28.setTop (mkF m 115 #[.val (.int p1), .val (.int p2), .val (.int p3), .val (.int p4), .val (.int p5), .val (.int p6), .val (.int z), .val (.int ch1), .val (.int ch2), .val (.int ch3), .val (.ref a1), .val (.int ee), .val (.ref a2), .val (.ref b_1), .val (.ref b_7)] [(.int (1 : Int32))])) _
    refine XS.ifNo X28.here hx rfl (hb hby at_115) rfl ((if0 _ _).trans (feq (by decide : ¬ ((1 : Int32) = (0 : Int32)))).1) ?_
    show Steps p.tables e below (T28.setTop (mkF m 118 #[.val (.int p1), .val (.int p2), .val (.int p3), .val (.int p4), .val (.int p5), .val (.int p6), .val (.int z), .val (.int ch1), .val (.int ch2), .val (.int ch3), .val (.ref a1), .val (.int ee), .val (.ref a2), .val (.ref b_1), .val (.ref b_7)] [])) _
    refine XS.aload X28.here hx rfl (hb hby at_118) rfl rfl ?_
    show Steps p.tables e below (T28.setTop (mkF m 120 #[.val (.int p1), .val (.int p2), .val (.int p3), .val (.int p4), .val (.int p5), .val (.int p6), .val (.int z), .val (.int ch1), .val (.int ch2), .val (.int ch3), .val (.ref a1), .val (.int ee), .val (.ref a2), .val (.ref b_1), .val (.ref b_7)] [(.ref b_1)])) _
    refine XS.aload X28.here hx rfl (hb hby at_120) rfl rfl ?_
    show Steps p.tables e below (T28.setTop (mkF m 122 #[.val (.int p1), .val (.int p2), .val (.int p3), .val (.int p4), .val (.int p5), .val (.int p6), .val (.int z), .val (.int ch1), .val (.int ch2), .val (.int ch3), .val (.ref a1), .val (.int ee), .val (.ref a2), .val (.ref b_1), .val (.ref b_7)] [(.ref b_7), (.ref b_1)])) _
    refine st30.trans ?_
    show Steps p.tables e below (T30.setTop (mkF m 125 #[.val (.int p1), .val (.int p2), .val (.int p3), .val (.int p4), .val (.int p5), .val (.int p6), .val (.int z), .val (.int ch1), .val (.int ch2), .val (.int ch3), .val (.ref a1), .val (.int ee), .val (.ref a2), .val (.ref b_1), .val (.ref b_7)] [(.int (1 : Int32))])) _
    refine XS.aload X30.here hx rfl (hb hby at_125) rfl rfl ?_
    show Steps p.tables e below (T30.setTop (mkF m 127 #[.val (.int p1), .val (.int p2), .val (.int p3), .val (.int p4), .val (.int p5), .val (.int p6), .val (.int z), .val (.int ch1), .val (.int ch2), .val (.int ch3), .val (.ref a1), .val (.int ee), .val (.ref a2), .val (.ref b_1), .val (.ref b_7)] [(.ref a1), (.int (1 : Int32))])) _
    refine XS.aload X30.here hx rfl (hb hby at_127) rfl rfl ?_
    show Steps p.tables e below (T30.setTop (mkF m 129 #[.val (.int p1), .val (.int p2), .val (.int p3), .val (.int p4), .val (.int p5), .val (.int p6), .val (.int z), .val (.int ch1), .val (.int ch2), .val (.int ch3), .val (.ref a1), .val (.int ee), .val (.ref a2), .val (.ref b_1), .val (.ref b_7)] [(.ref a2), (.ref a1), (.int (1 : Int32))])) _
    refine st38.trans ?_
    show Steps p.tables e below (T38.setTop (mkF m 132 #[.val (.int p1), .val (.int p2), .val (.int p3), .val (.int p4), .val (.int p5), .val (.int p6), .val (.int z), .val (.int ch1), .val (.int ch2), .val (.int ch3), .val (.ref a1), .val (.int ee), .val (.ref a2), .val (.ref b_1), .val (.ref b_7)] [(.int (1 : Int32)), (.int (1 : Int32))])) _
    refine XS.icmpNo X38.here hx rfl (hb hby at_132) rfl (teq (by decide : (1 : Int32) = (1 : Int32))).2 ?_
    show Steps p.tables e below (T38.setTop (mkF m 135 #[.val (.int p1), .val (.int p2), .val (.int p3), .val (.int p4), .val (.int p5), .val (.int p6), .val (.int z), .val (.int ch1), .val (.int ch2), .val (.int ch3), .val (.ref a1), .val (.int ee), .val (.ref a2), .val (.ref b_1), .val (.ref b_7)] [])) _
    refine XS.iconst X38.here hx rfl (hb hby at_135) ?_
    show Steps p.tables e below (T38.setTop (mkF m 136 #[.val (.int p1), .val (.int p2), .val (.int p3), .val (.int p4), .val (.int p5), .val (.int p6), .val (.int z), .val (.int ch1), .val (.int ch2), .val (.int ch3), .val (.ref a1), .val (.int ee), .val (.ref a2), .val (.ref b_1), .val (.ref b_7)] [(.int (1 : Int32))])) _
    refine XS.goto X38.here hx rfl (pc0 := 136) (pc' := 140) rfl (hb hby at_136) (by decide) (by decide) ?_
    exact kont
theorem ef_0 (m : MethodId) (x0 x1 x2 x3 x4 x5 : Int32) : entryFrame m #[(.int x0), (.int x1), (.int x2), (.int x3), (.int x4), (.int x5)] maxLocals = (mkF m 0 #[.val (.int x0), .val (.int x1), .val (.int x2), .val (.int x3), .val (.int x4), .val (.int x5), .unset, .unset, .unset, .unset, .unset, .unset, .unset, .unset, .unset] []) := by first | (simp [entryFrame, mkF, argsToLocals, Value.category, maxLocals]; done) | rfl
set_option maxRecDepth 65536 in
set_option maxHeartbeats 40000000 in
theorem own_law (l : Launch) (Z : State) (a0 : Array Value) (hw : ∀ d ∈ tables_1, d.before a0 Z = true) (ws : List Jvm.Cond) (p1 p2 p3 p4 p5 p6 wcs : Int32) (rg : Value) (h0 : Heap) (n0 : Nat) (Z0 : n0 ≤ h0.size) (S_CS : Sta Z h0 "java/lang/String" "COMPACT_STRINGS" "Z" (.int wcs)) (ncs : ¬ (wcs = (0 : Int32))) (S_SI : Sta Z h0 "jdk/internal/util/Preconditions" "SIOOBE_FORMATTER" "Ljava/util/function/BiFunction;" rg) (r_rg : rg.isRef = true) (hEL : EW Z a0 [("com/example/portunus/portunus/lock/LockName", 13), ("com/example/portunus/portunus/lock/LockName", 82)]) :
    MetFree l x (head1 (Jvm.Cond.code x code maxLocals ret :: ws) room_1) (fun ar_ U => ar_ = #[(.int p1), (.int p2), (.int p3), (.int p4), (.int p5), (.int p6)] ∧ Z.Warmed39 U.vm ∧ U.heap = h0 ∧ CHv Z [("com/example/portunus/portunus/lock/LockName", 13), ("com/example/portunus/portunus/lock/LockName", 82)] U.vm h0) (fun _ _ _ _ _ => True) (fun _ U o U' => ∃ v L, o = .returned v ∧ (v = some (.int (1 : Int32)) ∧ Fr n0 L) ∧ ReturnedEndW U o U' L 32 2176) := by
  refine MetFree.of_bodySF (plainFor_of_name pnx_com_example_portunus_portunus_lock_LockNameOfPinLaw) hisR ?_
  intro p e s m args below meth c s₁ Bd hml0 hP hK
  obtain ⟨rfl, hZ, hh, HC⟩ := hP
  have hx := Bd.exec
  have hby := Bd.bytes
  have hml : c.maxLocals = 15 := hml0
  have hown : s.vm.findClass "com/example/portunus/portunus/lock/LockNameOfPinLaw" = some m.cls := findClass_of_methodNamed Bd.named
  have X0 : Stand p l e room_1 s m #[(.int p1), (.int p2), (.int p3), (.int p4), (.int p5), (.int p6)] below meth c s₁ [] 0 0 := Stand.of_body Bd
  have e0 : s₁.heap = h0 := by rw [← hh, Bd.state]; rfl
  have N0 := Fr.nil n0
  have pre0 : ∀ t, Steps p.tables e below (s₁.setTop (mkF m 0 #[.val (.int p1), .val (.int p2), .val (.int p3), .val (.int p4), .val (.int p5), .val (.int p6), .unset, .unset, .unset, .unset, .unset, .unset, .unset, .unset, .unset] [])) t → Steps p.tables e below (s₁.setTop (entryFrame m #[(.int p1), (.int p2), (.int p3), (.int p4), (.int p5), (.int p6)] maxLocals)) t := fun t k => castTop (ef_0 m p1 p2 p3 p4 p5 p6) k
  have hz := own_four p1
  obtain ⟨T1, locs1, X1, e1, N1, s1⟩ := seg1 hw hx hby hml hZ hown X0 e0 Z0 N0 p1 p2 p3 p4 p5 p6
  obtain ⟨T2, h2, locs2, a1, t1, k1, X2, e2, K2, N2, E1, Fc1, Fv1, V1, fr1, s2⟩ := seg2 hw hx hby hml hZ hown X1 e1 Z0 N1 p1 p2 p3 p4 p5 p6 ((1 : Int32) + (p1 &&& (3 : Int32))) (own_c p2) (own_c p3) (own_c p4) (own_c p5) wcs S_CS ncs (own_cgood _) (own_cgood _) (own_cgood _) (own_cgood _) hz
  obtain ⟨ee, T3, locs3, X3, e3, N3, s3⟩ := seg3 hw hx hby hml hZ hown X2 e2 (Nat.le_trans Z0 K2.1) N2 p1 p2 p3 p4 p5 p6 ((1 : Int32) + (p1 &&& (3 : Int32))) (own_c p3) (own_c p4) (own_c p5) a1
  obtain ⟨T4, h4, locs4, a2, t2, k2, X4, e4, K2b, N4, E2, Fc2, Fv2, V2, fr2, s4⟩ := seg4 hw hx hby hml hZ hown X3 e3 (Nat.le_trans Z0 K2.1) N3 p1 p2 p3 p4 p5 p6 ((1 : Int32) + (p1 &&& (3 : Int32))) (own_c ee) (own_c p3) (own_c p4) (own_c p5) wcs ee a1 (own_staK S_CS K2 ns0) ncs (own_cgood _) (own_cgood _) (own_cgood _) (own_cgood _) hz
  have K4 : Keep h0 h4 [] := K2.trans K2b own_m0
  have na : a1 ≠ a2 := Nat.ne_of_lt (Nat.lt_of_lt_of_le E1.lt fr2)
  have al1 := own_alL hz (own_cgood p2) (own_cgood p3) (own_cgood p4) (own_cgood p5)
  have al2 := own_alL hz (own_cgood ee) (own_cgood p3) (own_cgood p4) (own_cgood p5)
  by_cases heq : own_by (own_c p2) = own_by (own_c ee)
  · obtain ⟨vmD, TD, locsD, Ls, kD, XD, ND, SD, q1, q2, s5⟩ := seg5_1 hw hx hby hml hZ hown X4 e4 (Nat.le_trans Z0 K4.1) N4 p1 p2 p3 p4 p5 p6 ((1 : Int32) + (p1 &&& (3 : Int32))) (own_c p3) (own_c p4) (own_c p5) ee a1 t1 k1 _ a2 t2 k2 _ wcs rg (E1.keep K2b) (Fc1.keep K2b own_n0) (Fv1.keep K2b own_n0) (V1.keep K2b own_n0) E2 Fc2 Fv2 V2 (own_staK S_CS K4 ns0) ncs (own_staK S_SI K4 ns0) r_rg na hEL (HC.keep K4 sf0) al1 al2 (own_eqL1 hz heq)
    obtain ⟨fs, hr, hrun, hended, hWW⟩ := leaveW (s := s) XD SD q2 (v := some (.int (1 : Int32))) (fun h => by rw [Bd.returns] at h; cases h)
    refine ⟨_, _, pre0 _ (s1 _ (s2 _ (s3 _ (s4 _ (s5 _ ?_))))), hrun, hended, _, _, rfl, ⟨rfl, ND⟩, ⟨hWW.1, hWW.2.1, hWW.2.2.1, hWW.2.2.2.mono (nle rfl) (nle rfl)⟩⟩
    exact retN XD hx (t := .boolean) Bd.returns (by simp) (hb hby at_140) hr
  · obtain ⟨vmD, TD, locsD, Ls, kD, XD, ND, SD, q1, q2, s5⟩ := seg5_0 hw hx hby hml hZ hown X4 e4 (Nat.le_trans Z0 K4.1) N4 p1 p2 p3 p4 p5 p6 ((1 : Int32) + (p1 &&& (3 : Int32))) (own_c p3) (own_c p4) (own_c p5) ee a1 t1 k1 _ a2 t2 k2 _ wcs rg (E1.keep K2b) (Fc1.keep K2b own_n0) (Fv1.keep K2b own_n0) (V1.keep K2b own_n0) E2 Fc2 Fv2 V2 (own_staK S_CS K4 ns0) ncs (own_staK S_SI K4 ns0) r_rg na hEL (HC.keep K4 sf0) al1 al2 (own_eqL0 hz heq)
    obtain ⟨fs, hr, hrun, hended, hWW⟩ := leaveW (s := s) XD SD q2 (v := some (.int (1 : Int32))) (fun h => by rw [Bd.returns] at h; cases h)
    refine ⟨_, _, pre0 _ (s1 _ (s2 _ (s3 _ (s4 _ (s5 _ ?_))))), hrun, hended, _, _, rfl, ⟨rfl, ND⟩, ⟨hWW.1, hWW.2.1, hWW.2.2.1, hWW.2.2.2.mono (nle rfl) (nle rfl)⟩⟩
    exact retN XD hx (t := .boolean) Bd.returns (by simp) (hb hby at_140) hr
set_option maxRecDepth 65536 in
set_option maxHeartbeats 40000000 in
theorem comes_1 {Post : Tables → Env → Array Value → State → Outcome → State → Prop} (hpost : ∀ tb e args s v u, (limb_1_1.after args s (.returned v) u = true ∧ limb_1_2.after args s (.returned v) u = true ∧ True) → FramedW s (.returned v) u (Jvm.fieldLocs frame_1_writes args s ++ Jvm.arrayLocs frame_1_arrays args s ++ Jvm.staticLocs frame_1_statics s) 32 2176 → Post tb e args s (.returned v) u) :
    ArmFor flags0 classFile x code maxLocals ret World_1 tables_1 room_1 Calls_1 rest_1 Pre_1 Post := by
  intro l hfl _ _ p e ha hc hk s m args below hf hA hF happ hP
  obtain ⟨hcalls, hrest, hpre⟩ := hP
  obtain ⟨-, -, -, hnamed, -, -, -, hat⟩ := (Spec.applies_iff hf).mp happ
  obtain ⟨hg, hn⟩ := and_e (Cond.before_iff.mp (show (Jvm.Cond.and given_1 narrow_1).before args s = true from hpre))
  obtain ⟨g0, hg⟩ := and_e hg
  obtain ⟨w0, w1, w2, w3, w4, w5, rfl⟩ : ∃ w0 w1 w2 w3 w4 w5 : Value, args = #[w0, w1, w2, w3, w4, w5] := by
    have hs : args.size = 6 := by simpa [Cond.value] using g0
    obtain ⟨L⟩ := args
    match L, hs with
    | [w0, w1, w2, w3, w4, w5], _ => exact ⟨w0, w1, w2, w3, w4, w5, rfl⟩
  have hw := fun d (hd : d ∈ tables_1) => atoms_spec (ws := Jvm.Cond.code x code maxLocals ret :: tables_1) hat d (List.mem_cons_of_mem _ hd)
  obtain ⟨hsets, hown0⟩ := atoms_of _ (rest_1_c_eq ▸ (show rest_1_c.before _ s = true from hrest))
  obtain ⟨g1, hg⟩ := and_e hg
  obtain ⟨g2, hg⟩ := and_e hg
  obtain ⟨g3, hg⟩ := and_e hg
  obtain ⟨g4, hg⟩ := and_e hg
  obtain ⟨g5, g6⟩ := and_e hg
  obtain ⟨i0, ei0⟩ := is_v g1
  obtain rfl : w0 = (.int i0) := Option.some.inj ei0
  obtain ⟨i1, ei1⟩ := is_v g2
  obtain rfl : w1 = (.int i1) := Option.some.inj ei1
  obtain ⟨i2, ei2⟩ := is_v g3
  obtain rfl : w2 = (.int i2) := Option.some.inj ei2
  obtain ⟨i3, ei3⟩ := is_v g4
  obtain rfl : w3 = (.int i3) := Option.some.inj ei3
  obtain ⟨i4, ei4⟩ := is_v g5
  obtain rfl : w4 = (.int i4) := Option.some.inj ei4
  obtain ⟨i5, ei5⟩ := is_v g6
  obtain rfl : w5 = (.int i5) := Option.some.inj ei5
  obtain ⟨wcs, vcs⟩ := is_v (Cond.before_iff.mp (hsets _ (List.mem_of_getElem? (i := 1) rfl)))
  have S_CS := Sta.start vcs (Or.inl (hsets _ (List.mem_of_getElem? (i := 0) rfl)))
  have ncs : ¬ wcs = (0 : Int32) := gotF (Cond.eq_ints vcs (Term.int_eval 0)) (not_v (Cond.before_iff.mp (hsets _ (List.mem_of_getElem? (i := 2) rfl))))
  obtain ⟨rg, vrg, r_rg⟩ := isR_v (Cond.before_iff.mp (hsets _ (List.mem_of_getElem? (i := 8) rfl)))
  have S_SI := Sta.start vrg (Or.inl (hsets _ (List.mem_of_getElem? (i := 7) rfl)))
  have hEL : EW s _ [("com/example/portunus/portunus/lock/LockName", 13), ("com/example/portunus/portunus/lock/LockName", 82)] := EW.cons (wk hw 42 rfl) (by decide) (EW.cons (wk hw 120 rfl) (by decide) EW.nil)
  have HC : CHv s [("com/example/portunus/portunus/lock/LockName", 13), ("com/example/portunus/portunus/lock/LockName", 82)] s.vm s.heap := CHv.start hEL hcalls.1 (hsets _ (List.mem_of_getElem? (i := 2) rfl)) (wk hw 27 rfl) (wk hw 9 rfl)
  obtain ⟨n, o, h1, h2, h3, _, L, rfl, ⟨rfl, N⟩, hq⟩ := own_law l s _ hw tables_1 i0 i1 i2 i3 i4 i5 wcs rg s.heap s.heap.size (Nat.le_refl _) S_CS ncs S_SI r_rg hEL p e ha hc hk s m _ below hf ((Spec.applies_iff_loose hf).mp happ).1 ⟨rfl, State.Warmed39.refl s, rfl, HC⟩ trivial
  refine ⟨n, _, h1, h2, h3, hpost _ _ _ _ _ _ ⟨Cond.after_iff.mpr rfl, Cond.after_iff.mpr (eq_i res_at (Term.int_eval (1)) rfl), trivial⟩ ⟨hq.1, hq.2.1, hq.2.2.1, (hq.2.2.2.sift fun y hy => Or.inr (N y hy)).mono (by decide) (by decide)⟩⟩
theorem main_1_1 : Claimed_1_1 := comes_1 fun _ _ _ _ _ _ h hF => ⟨h.1, hF⟩
theorem main_1_2 : Claimed_1_2 := comes_1 fun _ _ _ _ _ _ h hF => ⟨h.2.1, hF⟩
end Jvm.Pilot.@@N@@
namespace Jvm.Pilot.@@N@@
open Jvm Jvm.ClassFile Sem Op Lib Jvm.Free Jvm.Stand Jvm.Pilot.@@N@@.Jvm.D
/-! MADE BY PROGRAM (witnessworld.py) out of the Statement's table words and the real class files: 23 classes; the members and pool entries that the words name. The judged class is class 1, her method 3. -/
namespace start1
open Jvm.ClassFile
def u (s : String) : CpInfo := .utf8 (stringToUtf16 s)
/-- a pool by its gaps: so many unusable entries, then the entry; so many at the end -/
def gap : Nat → List CpInfo → List CpInfo
  | 0, r => r
  | n + 1, r => .unusable :: gap n r
def poolList (es : List (Nat × CpInfo)) (last : Nat) : List CpInfo := es.foldr (fun e r => gap e.1 (e.2 :: r)) (gap last [])
def pool (es : List (Nat × CpInfo)) (last : Nat) : Array CpInfo := ⟨poolList es last⟩
def fileOf (pool : Array CpInfo) (this : Nat) (attrs : Array Attribute := #[]) (ms : Array MethodInfo := #[]) (fl : Nat := 33) (sup : Nat := 0) (ifs : Array Nat := #[]) (fds : Array FieldInfo := #[]) : ClassFile where
  minorVersion := 0
  majorVersion := 65
  constantPool := pool
  accessFlags := fl
  thisClass := this
  superClass := sup
  interfaces := ifs
  fields := fds
  methods := ms
  attributes := attrs
def plain (name : String) (sup : Option ClassId) : Class where
  name := name
  kind := .ordinary
  loader := none
  accessFlags := 33
  super := sup
  interfaces := #[]
  cf := none
  fields := #[]
  methods := #[]
  instanceTypes := #[]
  staticTypes := #[]
  resolved := #[]
  callSites := []
  init := .initialized
  statics := none
  mirror := none

def pool0 : Array CpInfo := pool [(5, u "<init>"), (0, u "()V"), (1, .class_ 10), (1, u "java/lang/Object")] 113

def k0c0 : Code := { maxStack := 0, maxLocals := 1, code := object_method_1_code, exceptionTable := #[], attributes := #[] }
def k0m0 : Method := { name := "<init>", desc := "()V", sig := { parameters := [], returnType := none }, accessFlags := 1, code := some k0c0 }
/-- java/lang/Object -/
def k0 : Class := { plain "java/lang/Object" none with
  accessFlags := 33
  interfaces := #[]
  cf := some (fileOf pool0 8 #[] #[{ accessFlags := 1, nameIndex := 5, descriptorIndex := 6, attributes := #[] }] 33 0 #[] #[])
  fields := #[]
  methods := #[k0m0]
  instanceTypes := #[]
  staticTypes := #[]
  resolved := Array.replicate 124 none
  statics := none }

def pool1 : Array CpInfo := pool [(2, .class_ 4), (1, u "java/lang/Object"), (0, u "<init>"), (0, u "()V"), (0, .integer 2147483647), (0, .class_ 9), (0, u "java/lang/String"), (0, .methodref 8 11), (0, .nameAndType 5 12), (0, u "([C)V"), (0, .methodref 14 15), (0, .class_ 16), (0, .nameAndType 17 18), (0, u "com/example/portunus/portunus/lock/LockNameOfPinLaw"), (0, u "ch"), (0, u "(I)C"), (0, .methodref 14 20), (0, .nameAndType 21 22), (0, u "make"), (0, u "(ICCCC)Ljava/lang/String;"), (0, .methodref 24 25), (0, .class_ 26), (0, .nameAndType 27 28), (0, u "com/example/portunus/portunus/lock/LockName"), (0, u "of"), (0, u "(Ljava/lang/String;)Lcom/example/portunus/portunus/lock/LockName;"), (0, .methodref 24 30), (0, .nameAndType 31 32), (0, u "toString"), (0, u "()Ljava/lang/String;"), (0, .methodref 8 34), (0, .nameAndType 35 36), (0, u "equals"), (0, u "(Ljava/lang/Object;)Z"), (0, .methodref 24 34), (3, u "law"), (0, u "(IIIIII)Z")] 2

def k1m0 : Method := { name := "<init>", desc := "()V", sig := { parameters := [], returnType := none }, accessFlags := 1, code := none }
def k1c1 : Code := { maxStack := 3, maxLocals := 2, code := method_2_code, exceptionTable := #[], attributes := #[] }
def k1m1 : Method := { name := "ch", desc := "(I)C", sig := { parameters := [.int], returnType := some .char }, accessFlags := 10, code := some k1c1 }
def k1c2 : Code := { maxStack := 6, maxLocals := 5, code := method_3_code, exceptionTable := #[], attributes := #[] }
def k1m2 : Method := { name := "make", desc := "(ICCCC)Ljava/lang/String;", sig := { parameters := [.int, .char, .char, .char, .char], returnType := some (.object "java/lang/String") }, accessFlags := 10, code := some k1c2 }
def k1c3 : Code := { maxStack := 5, maxLocals := 15, code := code, exceptionTable := #[], attributes := #[] }
def k1m3 : Method := { name := "law", desc := "(IIIIII)Z", sig := { parameters := [.int, .int, .int, .int, .int, .int], returnType := some .boolean }, accessFlags := 9, code := some k1c3 }
/-- com/example/portunus/portunus/lock/LockNameOfPinLaw -/
def k1 : Class := { plain "com/example/portunus/portunus/lock/LockNameOfPinLaw" (some 0) with
  accessFlags := 49
  interfaces := #[]
  cf := some (fileOf pool1 14 #[] #[{ accessFlags := 1, nameIndex := 5, descriptorIndex := 6, attributes := #[] }, { accessFlags := 10, nameIndex := 17, descriptorIndex := 18, attributes := #[] }, { accessFlags := 10, nameIndex := 21, descriptorIndex := 22, attributes := #[] }, { accessFlags := 9, nameIndex := 41, descriptorIndex := 42, attributes := #[] }] 49 2 #[] #[])
  fields := #[]
  methods := #[k1m0, k1m1, k1m2, k1m3]
  instanceTypes := #[]
  staticTypes := #[]
  resolved := Array.replicate 45 none
  statics := none }

def pool2 : Array CpInfo := pool [(1, .class_ 2), (0, u "java/io/Serializable"), (0, .class_ 4), (0, u "java/lang/Object")] 2

/-- java/io/Serializable -/
def k2 : Class := { plain "java/io/Serializable" (some 0) with
  accessFlags := 1537
  interfaces := #[]
  cf := some (fileOf pool2 1 #[] #[] 1537 3 #[] #[])
  fields := #[]
  methods := #[]
  instanceTypes := #[]
  staticTypes := #[]
  resolved := Array.replicate 7 none
  statics := none }

def pool3 : Array CpInfo := pool [(1, .class_ 2), (0, u "java/lang/Comparable"), (0, .class_ 4), (0, u "java/lang/Object")] 7

/-- java/lang/Comparable -/
def k3 : Class := { plain "java/lang/Comparable" (some 0) with
  accessFlags := 1537
  interfaces := #[]
  cf := some (fileOf pool3 1 #[] #[] 1537 3 #[] #[])
  fields := #[]
  methods := #[]
  instanceTypes := #[]
  staticTypes := #[]
  resolved := Array.replicate 12 none
  statics := none }

def pool4 : Array CpInfo := pool [(2, .class_ 4), (1, u "java/lang/CharSequence"), (42, .class_ 48), (0, u "java/lang/CharSequence$1CodePointIterator"), (10, .class_ 60), (0, u "java/lang/CharSequence$1CharIterator"), (5, .class_ 67), (0, u "java/lang/Object")] 63

/-- java/lang/CharSequence -/
def k4 : Class := { plain "java/lang/CharSequence" (some 0) with
  accessFlags := 1537
  interfaces := #[]
  cf := some (fileOf pool4 2 #[.nestMembers #[47, 59]] #[] 1537 66 #[] #[])
  fields := #[]
  methods := #[]
  instanceTypes := #[]
  staticTypes := #[]
  resolved := Array.replicate 131 none
  statics := none }

def pool5 : Array CpInfo := pool [(1, .class_ 2), (0, u "java/lang/constant/Constable"), (0, .class_ 4), (0, u "java/lang/Object")] 6

/-- java/lang/constant/Constable -/
def k5 : Class := { plain "java/lang/constant/Constable" (some 0) with
  accessFlags := 1537
  interfaces := #[]
  cf := some (fileOf pool5 1 #[] #[] 1537 3 #[] #[])
  fields := #[]
  methods := #[]
  instanceTypes := #[]
  staticTypes := #[]
  resolved := Array.replicate 11 none
  statics := none }

def pool6 : Array CpInfo := pool [(1, .class_ 2), (0, u "java/lang/constant/ConstantDesc"), (0, .class_ 4), (0, u "java/lang/Object")] 32

/-- java/lang/constant/ConstantDesc -/
def k6 : Class := { plain "java/lang/constant/ConstantDesc" (some 0) with
  accessFlags := 1537
  interfaces := #[]
  cf := some (fileOf pool6 1 #[] #[] 1537 3 #[] #[])
  fields := #[]
  methods := #[]
  instanceTypes := #[]
  staticTypes := #[]
  resolved := Array.replicate 37 none
  statics := none }

def pool7 : Array CpInfo := pool [(1, .methodref 2 3), (0, .class_ 4), (0, .nameAndType 5 6), (0, u "java/lang/Object"), (0, u "<init>"), (0, u "()V"), (2, .fieldref 10 11), (0, .class_ 12), (0, .nameAndType 13 14), (0, u "java/lang/String"), (0, u "value"), (0, u "[B"), (0, .fieldref 10 16), (0, .nameAndType 17 18), (0, u "coder"), (0, u "B"), (2, u "hash"), (0, u "I"), (2, u "hashIsZero"), (0, u "Z"), (0, .methodref 10 28), (0, .nameAndType 5 29), (0, u "([CIILjava/lang/Void;)V"), (8, .fieldref 10 39), (0, .nameAndType 40 26), (0, u "COMPACT_STRINGS"), (1, .class_ 44), (1, u "java/lang/StringUTF16"), (0, u "compress"), (1, .methodref 42 48), (0, .nameAndType 49 50), (0, u "coderFromArrayLen"), (0, u "([BI)B"), (56, .class_ 109), (1, u "java/lang/StringLatin1"), (32, u "()Z"), (34, .methodref 42 178), (0, .nameAndType 45 179), (0, u "([CII)[B"), (154, u "()I"), (0, .methodref 10 336), (0, .nameAndType 17 337), (0, u "()B"), (53, u "(II)V"), (100, .methodref 10 493), (0, .nameAndType 494 142), (0, u "isLatin1"), (4, .methodref 10 500), (0, .nameAndType 501 391), (0, u "checkIndex"), (2, u "codePointAt"), (0, .methodref 10 506), (0, .nameAndType 507 334), (0, u "length"), (33, .methodref 107 542), (0, .nameAndType 543 544), (0, u "equals"), (0, u "([B[B)Z"), (28, u "(Ljava/lang/Object;)Z"), (1, .class_ 576), (0, u "java/lang/CharSequence"), (22, u "CASE_INSENSITIVE_ORDER"), (0, u "Ljava/util/Comparator;"), (32, .methodref 10 634), (0, .nameAndType 635 636), (0, u "indexOf"), (0, u "(II)I"), (0, .methodref 107 638), (0, .nameAndType 635 639), (0, u "([BIII)I"), (52, u "isEmpty"), (72, u "(I)I"), (244, u "([C)V"), (42, .fieldref 1054 1055), (0, .class_ 1056), (0, .nameAndType 1057 1058), (0, u "jdk/internal/util/Preconditions"), (0, u "SIOOBE_FORMATTER"), (0, u "Ljava/util/function/BiFunction;"), (0, .methodref 1054 1060), (0, .nameAndType 501 1061), (0, u "(IILjava/util/function/BiFunction;)I"), (39, u "serialPersistentFields"), (0, u "[Ljava/io/ObjectStreamField;"), (0, .class_ 1104), (0, u "java/lang/String$CaseInsensitiveComparator"), (1, .class_ 1107), (0, u "java/io/Serializable"), (0, .class_ 1109), (0, u "java/lang/Comparable"), (0, .class_ 1111), (0, u "java/lang/constant/Constable"), (0, .class_ 1113), (0, u "java/lang/constant/ConstantDesc"), (2, u "serialVersionUID"), (0, u "J"), (3, u "REPL"), (0, u "C"), (2, u "LATIN1"), (1, u "UTF16")] 323

def k7m0 : Method := { name := "<init>", desc := "()V", sig := { parameters := [], returnType := none }, accessFlags := 1, code := none }
def k7c1 : Code := { maxStack := 5, maxLocals := 2, code := jdk_42_method_3_code, exceptionTable := #[], attributes := #[] }
def k7m1 : Method := { name := "<init>", desc := "([C)V", sig := { parameters := [(.array .char)], returnType := none }, accessFlags := 1, code := some k7c1 }
def k7c2 : Code := { maxStack := 2, maxLocals := 1, code := jdk_42_method_54_code, exceptionTable := #[], attributes := #[] }
def k7m2 : Method := { name := "length", desc := "()I", sig := { parameters := [], returnType := some .int }, accessFlags := 1, code := some k7c2 }
def k7c3 : Code := { maxStack := 1, maxLocals := 1, code := jdk_42_method_55_code, exceptionTable := #[], attributes := #[] }
def k7m3 : Method := { name := "isEmpty", desc := "()Z", sig := { parameters := [], returnType := some .boolean }, accessFlags := 1, code := some k7c3 }
def k7c4 : Code := { maxStack := 3, maxLocals := 3, code := jdk_42_method_57_code, exceptionTable := #[], attributes := #[] }
def k7m4 : Method := { name := "codePointAt", desc := "(I)I", sig := { parameters := [.int], returnType := some .int }, accessFlags := 1, code := some k7c4 }
def k7c5 : Code := { maxStack := 2, maxLocals := 3, code := jdk_42_method_66_code, exceptionTable := #[], attributes := #[] }
def k7m5 : Method := { name := "equals", desc := "(Ljava/lang/Object;)Z", sig := { parameters := [(.object "java/lang/Object")], returnType := some .boolean }, accessFlags := 1, code := some k7c5 }
def k7c6 : Code := { maxStack := 3, maxLocals := 2, code := jdk_42_method_79_code, exceptionTable := #[], attributes := #[] }
def k7m6 : Method := { name := "indexOf", desc := "(I)I", sig := { parameters := [.int], returnType := some .int }, accessFlags := 1, code := some k7c6 }
def k7c7 : Code := { maxStack := 4, maxLocals := 3, code := jdk_42_method_80_code, exceptionTable := #[], attributes := #[] }
def k7m7 : Method := { name := "indexOf", desc := "(II)I", sig := { parameters := [.int, .int], returnType := some .int }, accessFlags := 1, code := some k7c7 }
def k7c8 : Code := { maxStack := 4, maxLocals := 6, code := jdk_42_method_149_code, exceptionTable := #[], attributes := #[] }
def k7m8 : Method := { name := "<init>", desc := "([CIILjava/lang/Void;)V", sig := { parameters := [(.array .char), .int, .int, (.object "java/lang/Void")], returnType := none }, accessFlags := 2, code := some k7c8 }
def k7c9 : Code := { maxStack := 1, maxLocals := 1, code := jdk_42_method_152_code, exceptionTable := #[], attributes := #[] }
def k7m9 : Method := { name := "coder", desc := "()B", sig := { parameters := [], returnType := some .byte }, accessFlags := 0, code := some k7c9 }
def k7c10 : Code := { maxStack := 1, maxLocals := 1, code := jdk_42_method_154_code, exceptionTable := #[], attributes := #[] }
def k7m10 : Method := { name := "isLatin1", desc := "()Z", sig := { parameters := [], returnType := some .boolean }, accessFlags := 0, code := some k7c10 }
def k7c11 : Code := { maxStack := 3, maxLocals := 2, code := jdk_42_method_155_code, exceptionTable := #[], attributes := #[] }
def k7m11 : Method := { name := "checkIndex", desc := "(II)V", sig := { parameters := [.int, .int], returnType := none }, accessFlags := 8, code := some k7c11 }
/-- java/lang/String -/
def k7 : Class := { plain "java/lang/String" (some 0) with
  accessFlags := 49
  interfaces := #[2, 3, 4, 5, 6]
  cf := some (fileOf pool7 10 #[.nestMembers #[1103]] #[{ accessFlags := 1, nameIndex := 5, descriptorIndex := 6, attributes := #[] }, { accessFlags := 1, nameIndex := 5, descriptorIndex := 1010, attributes := #[] }, { accessFlags := 1, nameIndex := 507, descriptorIndex := 334, attributes := #[] }, { accessFlags := 1, nameIndex := 692, descriptorIndex := 142, attributes := #[] }, { accessFlags := 1, nameIndex := 504, descriptorIndex := 765, attributes := #[] }, { accessFlags := 1, nameIndex := 543, descriptorIndex := 573, attributes := #[] }, { accessFlags := 1, nameIndex := 635, descriptorIndex := 765, attributes := #[] }, { accessFlags := 1, nameIndex := 635, descriptorIndex := 636, attributes := #[] }, { accessFlags := 2, nameIndex := 5, descriptorIndex := 29, attributes := #[] }, { accessFlags := 0, nameIndex := 17, descriptorIndex := 337, attributes := #[] }, { accessFlags := 0, nameIndex := 494, descriptorIndex := 142, attributes := #[] }, { accessFlags := 8, nameIndex := 501, descriptorIndex := 391, attributes := #[] }] 49 2 #[1106, 1108, 575, 1110, 1112] #[{ accessFlags := 18, nameIndex := 13, descriptorIndex := 14, attributes := #[] }, { accessFlags := 18, nameIndex := 17, descriptorIndex := 18, attributes := #[] }, { accessFlags := 2, nameIndex := 21, descriptorIndex := 22, attributes := #[] }, { accessFlags := 2, nameIndex := 25, descriptorIndex := 26, attributes := #[] }, { accessFlags := 26, nameIndex := 1116, descriptorIndex := 1117, attributes := #[] }, { accessFlags := 24, nameIndex := 40, descriptorIndex := 26, attributes := #[] }, { accessFlags := 26, nameIndex := 1101, descriptorIndex := 1102, attributes := #[] }, { accessFlags := 26, nameIndex := 1121, descriptorIndex := 1122, attributes := #[] }, { accessFlags := 25, nameIndex := 599, descriptorIndex := 600, attributes := #[] }, { accessFlags := 24, nameIndex := 1125, descriptorIndex := 18, attributes := #[] }, { accessFlags := 24, nameIndex := 1127, descriptorIndex := 18, attributes := #[] }])
  fields := #[{ name := "value", type := (.array .byte), accessFlags := 18, slot := 0, constantValue := 0 }, { name := "coder", type := .byte, accessFlags := 18, slot := 1, constantValue := 0 }, { name := "hash", type := .int, accessFlags := 2, slot := 2, constantValue := 0 }, { name := "hashIsZero", type := .boolean, accessFlags := 2, slot := 3, constantValue := 0 }, { name := "serialVersionUID", type := .long, accessFlags := 26, slot := 0, constantValue := 0 }, { name := "COMPACT_STRINGS", type := .boolean, accessFlags := 24, slot := 1, constantValue := 0 }, { name := "serialPersistentFields", type := (.array (.object "java/io/ObjectStreamField")), accessFlags := 26, slot := 2, constantValue := 0 }, { name := "REPL", type := .char, accessFlags := 26, slot := 3, constantValue := 0 }, { name := "CASE_INSENSITIVE_ORDER", type := (.object "java/util/Comparator"), accessFlags := 25, slot := 4, constantValue := 0 }, { name := "LATIN1", type := .byte, accessFlags := 24, slot := 5, constantValue := 0 }, { name := "UTF16", type := .byte, accessFlags := 24, slot := 6, constantValue := 0 }]
  methods := #[k7m0, k7m1, k7m2, k7m3, k7m4, k7m5, k7m6, k7m7, k7m8, k7m9, k7m10, k7m11]
  instanceTypes := #[(.array .byte), .byte, .int, .boolean]
  staticTypes := #[.long, .boolean, (.array (.object "java/io/ObjectStreamField")), .char, (.object "java/util/Comparator"), .byte, .byte]
  resolved := Array.replicate 1451 none
  statics := some 0 }

def pool8 : Array CpInfo := pool [(6, .class_ 8), (1, u "java/lang/Object"), (0, u "<init>"), (0, u "()V"), (1, .class_ 14), (1, u "java/lang/StringUTF16"), (31, u "$assertionsDisabled"), (0, u "Z"), (13, u "HI_BYTE_SHIFT"), (0, u "I"), (2, u "LO_BYTE_SHIFT"), (49, .methodref 12 116), (0, .nameAndType 117 118), (0, u "compress"), (0, u "([CI[BII)I"), (3, u "([CII)[B"), (138, u "coderFromArrayLen"), (0, u "([BI)B"), (106, .class_ 371), (1, u "java/lang/StringUTF16$LinesSpliterator"), (58, u "MAX_LENGTH"), (196, .class_ 628), (0, u "java/lang/StringUTF16$CodePointsSpliterator"), (0, .class_ 630), (0, u "java/lang/StringUTF16$CharsSpliterator")] 4

def k8m0 : Method := { name := "<init>", desc := "()V", sig := { parameters := [], returnType := none }, accessFlags := 0, code := none }
def k8c1 : Code := { maxStack := 2, maxLocals := 2, code := jdk_52_method_15_code, exceptionTable := #[], attributes := #[] }
def k8m1 : Method := { name := "coderFromArrayLen", desc := "([BI)B", sig := { parameters := [(.array .byte), .int], returnType := some .byte }, accessFlags := 8, code := some k8c1 }
def k8c2 : Code := { maxStack := 5, maxLocals := 6, code := jdk_52_method_16_code, exceptionTable := #[], attributes := #[] }
def k8m2 : Method := { name := "compress", desc := "([CII)[B", sig := { parameters := [(.array .char), .int, .int], returnType := some (.array .byte) }, accessFlags := 9, code := some k8c2 }
def k8c3 : Code := { maxStack := 3, maxLocals := 7, code := jdk_52_method_21_code, exceptionTable := #[], attributes := #[] }
def k8m3 : Method := { name := "compress", desc := "([CI[BII)I", sig := { parameters := [(.array .char), .int, (.array .byte), .int, .int], returnType := some .int }, accessFlags := 9, code := some k8c3 }
/-- java/lang/StringUTF16 -/
def k8 : Class := { plain "java/lang/StringUTF16" (some 0) with
  accessFlags := 48
  interfaces := #[]
  cf := some (fileOf pool8 12 #[.nestMembers #[627, 629, 369]] #[{ accessFlags := 0, nameIndex := 9, descriptorIndex := 10, attributes := #[] }, { accessFlags := 8, nameIndex := 261, descriptorIndex := 262, attributes := #[] }, { accessFlags := 9, nameIndex := 117, descriptorIndex := 122, attributes := #[] }, { accessFlags := 9, nameIndex := 117, descriptorIndex := 118, attributes := #[] }] 48 6 #[] #[{ accessFlags := 26, nameIndex := 61, descriptorIndex := 62, attributes := #[] }, { accessFlags := 26, nameIndex := 65, descriptorIndex := 62, attributes := #[] }, { accessFlags := 24, nameIndex := 430, descriptorIndex := 62, attributes := #[] }, { accessFlags := 4120, nameIndex := 46, descriptorIndex := 47, attributes := #[] }])
  fields := #[{ name := "HI_BYTE_SHIFT", type := .int, accessFlags := 26, slot := 0, constantValue := 0 }, { name := "LO_BYTE_SHIFT", type := .int, accessFlags := 26, slot := 1, constantValue := 0 }, { name := "MAX_LENGTH", type := .int, accessFlags := 24, slot := 2, constantValue := 0 }, { name := "$assertionsDisabled", type := .boolean, accessFlags := 4120, slot := 3, constantValue := 0 }]
  methods := #[k8m0, k8m1, k8m2, k8m3]
  instanceTypes := #[]
  staticTypes := #[.int, .int, .int, .boolean]
  resolved := Array.replicate 635 none
  statics := none }

def pool9 : Array CpInfo := pool [(1, .methodref 2 3), (0, .class_ 4), (0, .nameAndType 5 6), (0, u "java/lang/Object"), (0, u "<init>"), (0, u "()V"), (0, .fieldref 8 9), (0, .class_ 10), (0, .nameAndType 11 12), (0, u "com/example/portunus/portunus/lock/LockName"), (0, u "text"), (0, u "Ljava/lang/String;"), (0, .string 14), (0, u "lock name"), (0, .methodref 16 17), (0, .class_ 18), (0, .nameAndType 19 20), (0, u "java/util/Objects"), (0, u "requireNonNull"), (0, u "(Ljava/lang/Object;Ljava/lang/String;)Ljava/lang/Object;"), (0, .methodref 22 23), (0, .class_ 24), (0, .nameAndType 25 26), (0, u "java/lang/String"), (0, u "isEmpty"), (0, u "()Z"), (5, .nameAndType 5 33), (0, u "(Ljava/lang/String;)V"), (0, .methodref 22 35), (0, .nameAndType 36 37), (0, u "length"), (0, u "()I"), (0, .methodref 22 39), (0, .nameAndType 40 41), (0, u "codePointAt"), (0, u "(I)I"), (0, .methodref 8 43), (0, .nameAndType 44 45), (0, u "allowed"), (0, u "(I)Z"), (16, u "PUNCTUATION_LISTED"), (4, .methodref 68 69), (0, .class_ 70), (0, .nameAndType 71 41), (0, u "java/lang/Character"), (0, u "charCount"), (2, .methodref 8 32), (0, .methodref 22 76), (0, .nameAndType 77 78), (0, u "equals"), (0, u "(Ljava/lang/Object;)Z"), (3, .string 83), (0, u "._-:/"), (0, .methodref 22 85), (0, .nameAndType 86 41), (0, u "indexOf"), (12, u "MAX_LENGTH"), (0, u "I"), (2, u "PUNCTUATION"), (2, u "of"), (0, u "(Ljava/lang/String;)Lcom/example/portunus/portunus/lock/LockName;"), (1, u "toString"), (0, u "()Ljava/lang/String;")] 3

def k9c0 : Code := { maxStack := 2, maxLocals := 2, code := prog_10_method_1_code, exceptionTable := #[], attributes := #[] }
def k9m0 : Method := { name := "<init>", desc := "(Ljava/lang/String;)V", sig := { parameters := [(.object "java/lang/String")], returnType := none }, accessFlags := 2, code := some k9c0 }
def k9c1 : Code := { maxStack := 7, maxLocals := 3, code := prog_10_method_2_code, exceptionTable := #[], attributes := #[] }
def k9m1 : Method := { name := "of", desc := "(Ljava/lang/String;)Lcom/example/portunus/portunus/lock/LockName;", sig := { parameters := [(.object "java/lang/String")], returnType := some (.object "com/example/portunus/portunus/lock/LockName") }, accessFlags := 9, code := some k9c1 }
def k9c2 : Code := { maxStack := 1, maxLocals := 1, code := prog_10_method_3_code, exceptionTable := #[], attributes := #[] }
def k9m2 : Method := { name := "toString", desc := "()Ljava/lang/String;", sig := { parameters := [], returnType := some (.object "java/lang/String") }, accessFlags := 1, code := some k9c2 }
def k9c3 : Code := { maxStack := 2, maxLocals := 2, code := prog_10_method_4_code, exceptionTable := #[], attributes := #[] }
def k9m3 : Method := { name := "equals", desc := "(Ljava/lang/Object;)Z", sig := { parameters := [(.object "java/lang/Object")], returnType := some .boolean }, accessFlags := 1, code := some k9c3 }
def k9c4 : Code := { maxStack := 2, maxLocals := 1, code := prog_10_method_6_code, exceptionTable := #[], attributes := #[] }
def k9m4 : Method := { name := "allowed", desc := "(I)Z", sig := { parameters := [.int], returnType := some .boolean }, accessFlags := 10, code := some k9c4 }
/-- com/example/portunus/portunus/lock/LockName -/
def k9 : Class := { plain "com/example/portunus/portunus/lock/LockName" (some 0) with
  accessFlags := 49
  interfaces := #[]
  cf := some (fileOf pool9 8 #[] #[{ accessFlags := 2, nameIndex := 5, descriptorIndex := 33, attributes := #[] }, { accessFlags := 9, nameIndex := 106, descriptorIndex := 107, attributes := #[] }, { accessFlags := 1, nameIndex := 109, descriptorIndex := 110, attributes := #[] }, { accessFlags := 1, nameIndex := 77, descriptorIndex := 78, attributes := #[] }, { accessFlags := 10, nameIndex := 44, descriptorIndex := 45, attributes := #[] }] 49 2 #[] #[{ accessFlags := 25, nameIndex := 99, descriptorIndex := 100, attributes := #[] }, { accessFlags := 26, nameIndex := 103, descriptorIndex := 12, attributes := #[] }, { accessFlags := 26, nameIndex := 62, descriptorIndex := 12, attributes := #[] }, { accessFlags := 18, nameIndex := 11, descriptorIndex := 12, attributes := #[] }])
  fields := #[{ name := "MAX_LENGTH", type := .int, accessFlags := 25, slot := 0, constantValue := 0 }, { name := "PUNCTUATION", type := (.object "java/lang/String"), accessFlags := 26, slot := 1, constantValue := 0 }, { name := "PUNCTUATION_LISTED", type := (.object "java/lang/String"), accessFlags := 26, slot := 2, constantValue := 0 }, { name := "text", type := (.object "java/lang/String"), accessFlags := 18, slot := 0, constantValue := 0 }]
  methods := #[k9m0, k9m1, k9m2, k9m3, k9m4]
  instanceTypes := #[(.object "java/lang/String")]
  staticTypes := #[.int, (.object "java/lang/String"), (.object "java/lang/String")]
  resolved := Array.replicate 114 none
  statics := none }

def pool10 : Array CpInfo := pool [(2, .class_ 4), (1, u "java/lang/Object"), (0, u "<init>"), (0, u "()V"), (35, .class_ 44), (1, u "java/util/Objects"), (0, u "requireNonNull"), (48, u "(Ljava/lang/Object;Ljava/lang/String;)Ljava/lang/Object;")] 89

def k10m0 : Method := { name := "<init>", desc := "()V", sig := { parameters := [], returnType := none }, accessFlags := 2, code := none }
def k10c1 : Code := { maxStack := 3, maxLocals := 2, code := jdk_31_method_11_code, exceptionTable := #[], attributes := #[] }
def k10m1 : Method := { name := "requireNonNull", desc := "(Ljava/lang/Object;Ljava/lang/String;)Ljava/lang/Object;", sig := { parameters := [(.object "java/lang/Object"), (.object "java/lang/String")], returnType := some (.object "java/lang/Object") }, accessFlags := 9, code := some k10c1 }
/-- java/util/Objects -/
def k10 : Class := { plain "java/util/Objects" (some 0) with
  accessFlags := 49
  interfaces := #[]
  cf := some (fileOf pool10 42 #[] #[{ accessFlags := 2, nameIndex := 5, descriptorIndex := 6, attributes := #[] }, { accessFlags := 9, nameIndex := 45, descriptorIndex := 94, attributes := #[] }] 49 2 #[] #[])
  fields := #[]
  methods := #[k10m0, k10m1]
  instanceTypes := #[]
  staticTypes := #[]
  resolved := Array.replicate 184 none
  statics := none }

def pool11 : Array CpInfo := pool [(2, .class_ 4), (1, u "java/lang/Object"), (0, u "<init>"), (0, u "()V"), (17, .class_ 26), (1, u "jdk/internal/util/Preconditions"), (6, u "checkIndex"), (21, .class_ 56), (0, u "jdk/internal/util/Preconditions$4"), (57, .class_ 115), (0, u "jdk/internal/util/Preconditions$1"), (7, u "SIOOBE_FORMATTER"), (0, u "Ljava/util/function/BiFunction;"), (0, .class_ 126), (0, u "jdk/internal/util/Preconditions$2"), (3, u "AIOOBE_FORMATTER"), (0, .class_ 132), (0, u "jdk/internal/util/Preconditions$3"), (3, u "IOOBE_FORMATTER"), (41, u "(IILjava/util/function/BiFunction;)I")] 15

def k11m0 : Method := { name := "<init>", desc := "()V", sig := { parameters := [], returnType := none }, accessFlags := 1, code := none }
def k11c1 : Code := { maxStack := 3, maxLocals := 3, code := jdk_41_method_11_code, exceptionTable := #[], attributes := #[] }
def k11m1 : Method := { name := "checkIndex", desc := "(IILjava/util/function/BiFunction;)I", sig := { parameters := [.int, .int, (.object "java/util/function/BiFunction")], returnType := some .int }, accessFlags := 9, code := some k11c1 }
/-- jdk/internal/util/Preconditions -/
def k11 : Class := { plain "jdk/internal/util/Preconditions" (some 0) with
  accessFlags := 33
  interfaces := #[]
  cf := some (fileOf pool11 24 #[.nestMembers #[55, 131, 125, 114]] #[{ accessFlags := 1, nameIndex := 5, descriptorIndex := 6, attributes := #[] }, { accessFlags := 9, nameIndex := 33, descriptorIndex := 178, attributes := #[] }] 33 2 #[] #[{ accessFlags := 25, nameIndex := 123, descriptorIndex := 124, attributes := #[] }, { accessFlags := 25, nameIndex := 130, descriptorIndex := 124, attributes := #[] }, { accessFlags := 25, nameIndex := 136, descriptorIndex := 124, attributes := #[] }])
  fields := #[{ name := "SIOOBE_FORMATTER", type := (.object "java/util/function/BiFunction"), accessFlags := 25, slot := 0, constantValue := 0 }, { name := "AIOOBE_FORMATTER", type := (.object "java/util/function/BiFunction"), accessFlags := 25, slot := 1, constantValue := 0 }, { name := "IOOBE_FORMATTER", type := (.object "java/util/function/BiFunction"), accessFlags := 25, slot := 2, constantValue := 0 }]
  methods := #[k11m0, k11m1]
  instanceTypes := #[]
  staticTypes := #[(.object "java/util/function/BiFunction"), (.object "java/util/function/BiFunction"), (.object "java/util/function/BiFunction")]
  resolved := Array.replicate 194 none
  statics := some 1 }

def pool12 : Array CpInfo := pool [(1, .class_ 2), (0, u "java/lang/Character"), (18, u "value"), (0, u "C"), (19, .class_ 44), (1, u "java/lang/Object"), (3, .class_ 50), (1, u "java/lang/Character$CharacterCache"), (22, .integer 65536), (100, u "(I)I"), (109, u "$assertionsDisabled"), (0, u "Z"), (21, .class_ 309), (1, u "java/lang/Character$UnicodeBlock"), (73, u "TYPE"), (0, u "Ljava/lang/Class;"), (0, .class_ 386), (0, u "java/io/Serializable"), (0, .class_ 388), (0, u "java/lang/Comparable"), (0, .class_ 390), (0, u "java/lang/constant/Constable"), (0, u "MIN_RADIX"), (0, u "I"), (2, u "MAX_RADIX"), (1, u "MIN_VALUE"), (1, u "MAX_VALUE"), (3, u "UNASSIGNED"), (0, u "B"), (0, u "UPPERCASE_LETTER"), (1, u "LOWERCASE_LETTER"), (0, u "TITLECASE_LETTER"), (1, u "MODIFIER_LETTER"), (1, u "OTHER_LETTER"), (1, u "NON_SPACING_MARK"), (1, u "ENCLOSING_MARK"), (1, u "COMBINING_SPACING_MARK"), (1, u "DECIMAL_DIGIT_NUMBER"), (1, u "LETTER_NUMBER"), (1, u "OTHER_NUMBER"), (1, u "SPACE_SEPARATOR"), (1, u "LINE_SEPARATOR"), (1, u "PARAGRAPH_SEPARATOR"), (1, u "CONTROL"), (1, u "FORMAT"), (1, u "PRIVATE_USE"), (1, u "SURROGATE"), (1, u "DASH_PUNCTUATION"), (1, u "START_PUNCTUATION"), (1, u "END_PUNCTUATION"), (1, u "CONNECTOR_PUNCTUATION"), (1, u "OTHER_PUNCTUATION"), (1, u "MATH_SYMBOL"), (1, u "CURRENCY_SYMBOL"), (1, u "MODIFIER_SYMBOL"), (1, u "OTHER_SYMBOL"), (1, u "INITIAL_QUOTE_PUNCTUATION"), (1, u "FINAL_QUOTE_PUNCTUATION"), (1, u "ERROR"), (1, u "DIRECTIONALITY_UNDEFINED"), (0, u "DIRECTIONALITY_LEFT_TO_RIGHT"), (0, u "DIRECTIONALITY_RIGHT_TO_LEFT"), (0, u "DIRECTIONALITY_RIGHT_TO_LEFT_ARABIC"), (0, u "DIRECTIONALITY_EUROPEAN_NUMBER"), (0, u "DIRECTIONALITY_EUROPEAN_NUMBER_SEPARATOR"), (0, u "DIRECTIONALITY_EUROPEAN_NUMBER_TERMINATOR"), (0, u "DIRECTIONALITY_ARABIC_NUMBER"), (0, u "DIRECTIONALITY_COMMON_NUMBER_SEPARATOR"), (0, u "DIRECTIONALITY_NONSPACING_MARK"), (0, u "DIRECTIONALITY_BOUNDARY_NEUTRAL"), (0, u "DIRECTIONALITY_PARAGRAPH_SEPARATOR"), (0, u "DIRECTIONALITY_SEGMENT_SEPARATOR"), (0, u "DIRECTIONALITY_WHITESPACE"), (0, u "DIRECTIONALITY_OTHER_NEUTRALS"), (0, u "DIRECTIONALITY_LEFT_TO_RIGHT_EMBEDDING"), (0, u "DIRECTIONALITY_LEFT_TO_RIGHT_OVERRIDE"), (0, u "DIRECTIONALITY_RIGHT_TO_LEFT_EMBEDDING"), (0, u "DIRECTIONALITY_RIGHT_TO_LEFT_OVERRIDE"), (1, u "DIRECTIONALITY_POP_DIRECTIONAL_FORMAT"), (0, u "DIRECTIONALITY_LEFT_TO_RIGHT_ISOLATE"), (0, u "DIRECTIONALITY_RIGHT_TO_LEFT_ISOLATE"), (0, u "DIRECTIONALITY_FIRST_STRONG_ISOLATE"), (0, u "DIRECTIONALITY_POP_DIRECTIONAL_ISOLATE"), (0, u "MIN_HIGH_SURROGATE"), (0, u "MAX_HIGH_SURROGATE"), (1, u "MIN_LOW_SURROGATE"), (0, u "MAX_LOW_SURROGATE"), (1, u "MIN_SURROGATE"), (0, u "MAX_SURROGATE"), (0, u "MIN_SUPPLEMENTARY_CODE_POINT"), (0, u "MIN_CODE_POINT"), (0, u "MAX_CODE_POINT"), (1, u "serialVersionUID"), (0, u "J"), (2, u "SIZE"), (0, u "BYTES"), (29, u "charCount"), (58, .class_ 596), (0, u "java/lang/Character$UnicodeScript"), (0, .class_ 598), (0, u "java/lang/Character$Subset")] 5

def k12c0 : Code := { maxStack := 2, maxLocals := 1, code := jdk_89_method_18_code, exceptionTable := #[], attributes := #[] }
def k12m0 : Method := { name := "charCount", desc := "(I)I", sig := { parameters := [.int], returnType := some .int }, accessFlags := 9, code := some k12c0 }
/-- java/lang/Character -/
def k12 : Class := { plain "java/lang/Character" (some 0) with
  accessFlags := 49
  interfaces := #[2, 3, 5]
  cf := some (fileOf pool12 1 #[.nestMembers #[48, 595, 307, 597]] #[{ accessFlags := 9, nameIndex := 536, descriptorIndex := 174, attributes := #[] }] 49 42 #[385, 387, 389] #[{ accessFlags := 25, nameIndex := 391, descriptorIndex := 392, attributes := #[] }, { accessFlags := 25, nameIndex := 395, descriptorIndex := 392, attributes := #[] }, { accessFlags := 25, nameIndex := 397, descriptorIndex := 22, attributes := #[] }, { accessFlags := 25, nameIndex := 399, descriptorIndex := 22, attributes := #[] }, { accessFlags := 25, nameIndex := 383, descriptorIndex := 384, attributes := #[] }, { accessFlags := 25, nameIndex := 403, descriptorIndex := 404, attributes := #[] }, { accessFlags := 25, nameIndex := 405, descriptorIndex := 404, attributes := #[] }, { accessFlags := 25, nameIndex := 407, descriptorIndex := 404, attributes := #[] }, { accessFlags := 25, nameIndex := 408, descriptorIndex := 404, attributes := #[] }, { accessFlags := 25, nameIndex := 410, descriptorIndex := 404, attributes := #[] }, { accessFlags := 25, nameIndex := 412, descriptorIndex := 404, attributes := #[] }, { accessFlags := 25, nameIndex := 414, descriptorIndex := 404, attributes := #[] }, { accessFlags := 25, nameIndex := 416, descriptorIndex := 404, attributes := #[] }, { accessFlags := 25, nameIndex := 418, descriptorIndex := 404, attributes := #[] }, { accessFlags := 25, nameIndex := 420, descriptorIndex := 404, attributes := #[] }, { accessFlags := 25, nameIndex := 422, descriptorIndex := 404, attributes := #[] }, { accessFlags := 25, nameIndex := 424, descriptorIndex := 404, attributes := #[] }, { accessFlags := 25, nameIndex := 426, descriptorIndex := 404, attributes := #[] }, { accessFlags := 25, nameIndex := 428, descriptorIndex := 404, attributes := #[] }, { accessFlags := 25, nameIndex := 430, descriptorIndex := 404, attributes := #[] }, { accessFlags := 25, nameIndex := 432, descriptorIndex := 404, attributes := #[] }, { accessFlags := 25, nameIndex := 434, descriptorIndex := 404, attributes := #[] }, { accessFlags := 25, nameIndex := 436, descriptorIndex := 404, attributes := #[] }, { accessFlags := 25, nameIndex := 438, descriptorIndex := 404, attributes := #[] }, { accessFlags := 25, nameIndex := 440, descriptorIndex := 404, attributes := #[] }, { accessFlags := 25, nameIndex := 442, descriptorIndex := 404, attributes := #[] }, { accessFlags := 25, nameIndex := 444, descriptorIndex := 404, attributes := #[] }, { accessFlags := 25, nameIndex := 446, descriptorIndex := 404, attributes := #[] }, { accessFlags := 25, nameIndex := 448, descriptorIndex := 404, attributes := #[] }, { accessFlags := 25, nameIndex := 450, descriptorIndex := 404, attributes := #[] }, { accessFlags := 25, nameIndex := 452, descriptorIndex := 404, attributes := #[] }, { accessFlags := 25, nameIndex := 454, descriptorIndex := 404, attributes := #[] }, { accessFlags := 25, nameIndex := 456, descriptorIndex := 404, attributes := #[] }, { accessFlags := 25, nameIndex := 458, descriptorIndex := 404, attributes := #[] }, { accessFlags := 25, nameIndex := 460, descriptorIndex := 404, attributes := #[] }, { accessFlags := 24, nameIndex := 462, descriptorIndex := 392, attributes := #[] }, { accessFlags := 25, nameIndex := 464, descriptorIndex := 404, attributes := #[] }, { accessFlags := 25, nameIndex := 465, descriptorIndex := 404, attributes := #[] }, { accessFlags := 25, nameIndex := 466, descriptorIndex := 404, attributes := #[] }, { accessFlags := 25, nameIndex := 467, descriptorIndex := 404, attributes := #[] }, { accessFlags := 25, nameIndex := 468, descriptorIndex := 404, attributes := #[] }, { accessFlags := 25, nameIndex := 469, descriptorIndex := 404, attributes := #[] }, { accessFlags := 25, nameIndex := 470, descriptorIndex := 404, attributes := #[] }, { accessFlags := 25, nameIndex := 471, descriptorIndex := 404, attributes := #[] }, { accessFlags := 25, nameIndex := 472, descriptorIndex := 404, attributes := #[] }, { accessFlags := 25, nameIndex := 473, descriptorIndex := 404, attributes := #[] }, { accessFlags := 25, nameIndex := 474, descriptorIndex := 404, attributes := #[] }, { accessFlags := 25, nameIndex := 475, descriptorIndex := 404, attributes := #[] }, { accessFlags := 25, nameIndex := 476, descriptorIndex := 404, attributes := #[] }, { accessFlags := 25, nameIndex := 477, descriptorIndex := 404, attributes := #[] }, { accessFlags := 25, nameIndex := 478, descriptorIndex := 404, attributes := #[] }, { accessFlags := 25, nameIndex := 479, descriptorIndex := 404, attributes := #[] }, { accessFlags := 25, nameIndex := 480, descriptorIndex := 404, attributes := #[] }, { accessFlags := 25, nameIndex := 481, descriptorIndex := 404, attributes := #[] }, { accessFlags := 25, nameIndex := 482, descriptorIndex := 404, attributes := #[] }, { accessFlags := 25, nameIndex := 484, descriptorIndex := 404, attributes := #[] }, { accessFlags := 25, nameIndex := 485, descriptorIndex := 404, attributes := #[] }, { accessFlags := 25, nameIndex := 486, descriptorIndex := 404, attributes := #[] }, { accessFlags := 25, nameIndex := 487, descriptorIndex := 404, attributes := #[] }, { accessFlags := 25, nameIndex := 488, descriptorIndex := 404, attributes := #[] }, { accessFlags := 25, nameIndex := 489, descriptorIndex := 22, attributes := #[] }, { accessFlags := 25, nameIndex := 490, descriptorIndex := 22, attributes := #[] }, { accessFlags := 25, nameIndex := 492, descriptorIndex := 22, attributes := #[] }, { accessFlags := 25, nameIndex := 493, descriptorIndex := 22, attributes := #[] }, { accessFlags := 25, nameIndex := 495, descriptorIndex := 22, attributes := #[] }, { accessFlags := 25, nameIndex := 496, descriptorIndex := 22, attributes := #[] }, { accessFlags := 25, nameIndex := 497, descriptorIndex := 392, attributes := #[] }, { accessFlags := 25, nameIndex := 498, descriptorIndex := 392, attributes := #[] }, { accessFlags := 25, nameIndex := 499, descriptorIndex := 392, attributes := #[] }, { accessFlags := 18, nameIndex := 21, descriptorIndex := 22, attributes := #[] }, { accessFlags := 26, nameIndex := 501, descriptorIndex := 502, attributes := #[] }, { accessFlags := 25, nameIndex := 505, descriptorIndex := 392, attributes := #[] }, { accessFlags := 25, nameIndex := 506, descriptorIndex := 392, attributes := #[] }, { accessFlags := 4120, nameIndex := 284, descriptorIndex := 285, attributes := #[] }])
  fields := #[{ name := "MIN_RADIX", type := .int, accessFlags := 25, slot := 0, constantValue := 0 }, { name := "MAX_RADIX", type := .int, accessFlags := 25, slot := 1, constantValue := 0 }, { name := "MIN_VALUE", type := .char, accessFlags := 25, slot := 2, constantValue := 0 }, { name := "MAX_VALUE", type := .char, accessFlags := 25, slot := 3, constantValue := 0 }, { name := "TYPE", type := (.object "java/lang/Class"), accessFlags := 25, slot := 4, constantValue := 0 }, { name := "UNASSIGNED", type := .byte, accessFlags := 25, slot := 5, constantValue := 0 }, { name := "UPPERCASE_LETTER", type := .byte, accessFlags := 25, slot := 6, constantValue := 0 }, { name := "LOWERCASE_LETTER", type := .byte, accessFlags := 25, slot := 7, constantValue := 0 }, { name := "TITLECASE_LETTER", type := .byte, accessFlags := 25, slot := 8, constantValue := 0 }, { name := "MODIFIER_LETTER", type := .byte, accessFlags := 25, slot := 9, constantValue := 0 }, { name := "OTHER_LETTER", type := .byte, accessFlags := 25, slot := 10, constantValue := 0 }, { name := "NON_SPACING_MARK", type := .byte, accessFlags := 25, slot := 11, constantValue := 0 }, { name := "ENCLOSING_MARK", type := .byte, accessFlags := 25, slot := 12, constantValue := 0 }, { name := "COMBINING_SPACING_MARK", type := .byte, accessFlags := 25, slot := 13, constantValue := 0 }, { name := "DECIMAL_DIGIT_NUMBER", type := .byte, accessFlags := 25, slot := 14, constantValue := 0 }, { name := "LETTER_NUMBER", type := .byte, accessFlags := 25, slot := 15, constantValue := 0 }, { name := "OTHER_NUMBER", type := .byte, accessFlags := 25, slot := 16, constantValue := 0 }, { name := "SPACE_SEPARATOR", type := .byte, accessFlags := 25, slot := 17, constantValue := 0 }, { name := "LINE_SEPARATOR", type := .byte, accessFlags := 25, slot := 18, constantValue := 0 }, { name := "PARAGRAPH_SEPARATOR", type := .byte, accessFlags := 25, slot := 19, constantValue := 0 }, { name := "CONTROL", type := .byte, accessFlags := 25, slot := 20, constantValue := 0 }, { name := "FORMAT", type := .byte, accessFlags := 25, slot := 21, constantValue := 0 }, { name := "PRIVATE_USE", type := .byte, accessFlags := 25, slot := 22, constantValue := 0 }, { name := "SURROGATE", type := .byte, accessFlags := 25, slot := 23, constantValue := 0 }, { name := "DASH_PUNCTUATION", type := .byte, accessFlags := 25, slot := 24, constantValue := 0 }, { name := "START_PUNCTUATION", type := .byte, accessFlags := 25, slot := 25, constantValue := 0 }, { name := "END_PUNCTUATION", type := .byte, accessFlags := 25, slot := 26, constantValue := 0 }, { name := "CONNECTOR_PUNCTUATION", type := .byte, accessFlags := 25, slot := 27, constantValue := 0 }, { name := "OTHER_PUNCTUATION", type := .byte, accessFlags := 25, slot := 28, constantValue := 0 }, { name := "MATH_SYMBOL", type := .byte, accessFlags := 25, slot := 29, constantValue := 0 }, { name := "CURRENCY_SYMBOL", type := .byte, accessFlags := 25, slot := 30, constantValue := 0 }, { name := "MODIFIER_SYMBOL", type := .byte, accessFlags := 25, slot := 31, constantValue := 0 }, { name := "OTHER_SYMBOL", type := .byte, accessFlags := 25, slot := 32, constantValue := 0 }, { name := "INITIAL_QUOTE_PUNCTUATION", type := .byte, accessFlags := 25, slot := 33, constantValue := 0 }, { name := "FINAL_QUOTE_PUNCTUATION", type := .byte, accessFlags := 25, slot := 34, constantValue := 0 }, { name := "ERROR", type := .int, accessFlags := 24, slot := 35, constantValue := 0 }, { name := "DIRECTIONALITY_UNDEFINED", type := .byte, accessFlags := 25, slot := 36, constantValue := 0 }, { name := "DIRECTIONALITY_LEFT_TO_RIGHT", type := .byte, accessFlags := 25, slot := 37, constantValue := 0 }, { name := "DIRECTIONALITY_RIGHT_TO_LEFT", type := .byte, accessFlags := 25, slot := 38, constantValue := 0 }, { name := "DIRECTIONALITY_RIGHT_TO_LEFT_ARABIC", type := .byte, accessFlags := 25, slot := 39, constantValue := 0 }, { name := "DIRECTIONALITY_EUROPEAN_NUMBER", type := .byte, accessFlags := 25, slot := 40, constantValue := 0 }, { name := "DIRECTIONALITY_EUROPEAN_NUMBER_SEPARATOR", type := .byte, accessFlags := 25, slot := 41, constantValue := 0 }, { name := "DIRECTIONALITY_EUROPEAN_NUMBER_TERMINATOR", type := .byte, accessFlags := 25, slot := 42, constantValue := 0 }, { name := "DIRECTIONALITY_ARABIC_NUMBER", type := .byte, accessFlags := 25, slot := 43, constantValue := 0 }, { name := "DIRECTIONALITY_COMMON_NUMBER_SEPARATOR", type := .byte, accessFlags := 25, slot := 44, constantValue := 0 }, { name := "DIRECTIONALITY_NONSPACING_MARK", type := .byte, accessFlags := 25, slot := 45, constantValue := 0 }, { name := "DIRECTIONALITY_BOUNDARY_NEUTRAL", type := .byte, accessFlags := 25, slot := 46, constantValue := 0 }, { name := "DIRECTIONALITY_PARAGRAPH_SEPARATOR", type := .byte, accessFlags := 25, slot := 47, constantValue := 0 }, { name := "DIRECTIONALITY_SEGMENT_SEPARATOR", type := .byte, accessFlags := 25, slot := 48, constantValue := 0 }, { name := "DIRECTIONALITY_WHITESPACE", type := .byte, accessFlags := 25, slot := 49, constantValue := 0 }, { name := "DIRECTIONALITY_OTHER_NEUTRALS", type := .byte, accessFlags := 25, slot := 50, constantValue := 0 }, { name := "DIRECTIONALITY_LEFT_TO_RIGHT_EMBEDDING", type := .byte, accessFlags := 25, slot := 51, constantValue := 0 }, { name := "DIRECTIONALITY_LEFT_TO_RIGHT_OVERRIDE", type := .byte, accessFlags := 25, slot := 52, constantValue := 0 }, { name := "DIRECTIONALITY_RIGHT_TO_LEFT_EMBEDDING", type := .byte, accessFlags := 25, slot := 53, constantValue := 0 }, { name := "DIRECTIONALITY_RIGHT_TO_LEFT_OVERRIDE", type := .byte, accessFlags := 25, slot := 54, constantValue := 0 }, { name := "DIRECTIONALITY_POP_DIRECTIONAL_FORMAT", type := .byte, accessFlags := 25, slot := 55, constantValue := 0 }, { name := "DIRECTIONALITY_LEFT_TO_RIGHT_ISOLATE", type := .byte, accessFlags := 25, slot := 56, constantValue := 0 }, { name := "DIRECTIONALITY_RIGHT_TO_LEFT_ISOLATE", type := .byte, accessFlags := 25, slot := 57, constantValue := 0 }, { name := "DIRECTIONALITY_FIRST_STRONG_ISOLATE", type := .byte, accessFlags := 25, slot := 58, constantValue := 0 }, { name := "DIRECTIONALITY_POP_DIRECTIONAL_ISOLATE", type := .byte, accessFlags := 25, slot := 59, constantValue := 0 }, { name := "MIN_HIGH_SURROGATE", type := .char, accessFlags := 25, slot := 60, constantValue := 0 }, { name := "MAX_HIGH_SURROGATE", type := .char, accessFlags := 25, slot := 61, constantValue := 0 }, { name := "MIN_LOW_SURROGATE", type := .char, accessFlags := 25, slot := 62, constantValue := 0 }, { name := "MAX_LOW_SURROGATE", type := .char, accessFlags := 25, slot := 63, constantValue := 0 }, { name := "MIN_SURROGATE", type := .char, accessFlags := 25, slot := 64, constantValue := 0 }, { name := "MAX_SURROGATE", type := .char, accessFlags := 25, slot := 65, constantValue := 0 }, { name := "MIN_SUPPLEMENTARY_CODE_POINT", type := .int, accessFlags := 25, slot := 66, constantValue := 0 }, { name := "MIN_CODE_POINT", type := .int, accessFlags := 25, slot := 67, constantValue := 0 }, { name := "MAX_CODE_POINT", type := .int, accessFlags := 25, slot := 68, constantValue := 0 }, { name := "value", type := .char, accessFlags := 18, slot := 0, constantValue := 0 }, { name := "serialVersionUID", type := .long, accessFlags := 26, slot := 69, constantValue := 0 }, { name := "SIZE", type := .int, accessFlags := 25, slot := 70, constantValue := 0 }, { name := "BYTES", type := .int, accessFlags := 25, slot := 71, constantValue := 0 }, { name := "$assertionsDisabled", type := .boolean, accessFlags := 4120, slot := 72, constantValue := 0 }]
  methods := #[k12m0]
  instanceTypes := #[.char]
  staticTypes := #[.int, .int, .char, .char, (.object "java/lang/Class"), .byte, .byte, .byte, .byte, .byte, .byte, .byte, .byte, .byte, .byte, .byte, .byte, .byte, .byte, .byte, .byte, .byte, .byte, .byte, .byte, .byte, .byte, .byte, .byte, .byte, .byte, .byte, .byte, .byte, .byte, .int, .byte, .byte, .byte, .byte, .byte, .byte, .byte, .byte, .byte, .byte, .byte, .byte, .byte, .byte, .byte, .byte, .byte, .byte, .byte, .byte, .byte, .byte, .byte, .byte, .char, .char, .char, .char, .char, .char, .int, .int, .int, .long, .int, .int, .boolean]
  resolved := Array.replicate 604 none
  statics := none }

def pool13 : Array CpInfo := pool [(4, .class_ 6), (1, u "java/lang/Object"), (0, u "<init>"), (0, u "()V"), (5, .class_ 16), (1, u "java/lang/StringLatin1"), (21, .methodref 39 40), (0, .class_ 41), (0, .nameAndType 42 43), (0, u "java/lang/Math"), (0, u "min"), (0, u "(II)I"), (44, .methodref 14 89), (0, .nameAndType 90 91), (0, u "canEncode"), (0, u "(I)Z"), (0, .methodref 39 93), (0, .nameAndType 94 43), (0, u "max"), (0, .methodref 14 96), (0, .nameAndType 97 98), (0, u "indexOfChar"), (0, u "([BIII)I"), (2, u "indexOf"), (19, u "$assertionsDisabled"), (0, u "Z"), (98, .class_ 223), (1, u "java/lang/StringLatin1$LinesSpliterator"), (57, u "equals"), (0, u "([B[B)Z"), (107, .class_ 391), (0, u "java/lang/StringLatin1$CharsSpliterator")] 3

def k13m0 : Method := { name := "<init>", desc := "()V", sig := { parameters := [], returnType := none }, accessFlags := 0, code := none }
def k13c1 : Code := { maxStack := 2, maxLocals := 1, code := jdk_43_method_4_code, exceptionTable := #[], attributes := #[] }
def k13m1 : Method := { name := "canEncode", desc := "(I)Z", sig := { parameters := [.int], returnType := some .boolean }, accessFlags := 9, code := some k13c1 }
def k13c2 : Code := { maxStack := 3, maxLocals := 3, code := jdk_43_method_13_code, exceptionTable := #[], attributes := #[] }
def k13m2 : Method := { name := "equals", desc := "([B[B)Z", sig := { parameters := [(.array .byte), (.array .byte)], returnType := some .boolean }, accessFlags := 9, code := some k13c2 }
def k13c3 : Code := { maxStack := 4, maxLocals := 4, code := jdk_43_method_22_code, exceptionTable := #[], attributes := #[] }
def k13m3 : Method := { name := "indexOf", desc := "([BIII)I", sig := { parameters := [(.array .byte), .int, .int, .int], returnType := some .int }, accessFlags := 9, code := some k13c3 }
def k13c4 : Code := { maxStack := 2, maxLocals := 6, code := jdk_43_method_23_code, exceptionTable := #[], attributes := #[] }
def k13m4 : Method := { name := "indexOfChar", desc := "([BIII)I", sig := { parameters := [(.array .byte), .int, .int, .int], returnType := some .int }, accessFlags := 10, code := some k13c4 }
/-- java/lang/StringLatin1 -/
def k13 : Class := { plain "java/lang/StringLatin1" (some 0) with
  accessFlags := 48
  interfaces := #[]
  cf := some (fileOf pool13 14 #[.nestMembers #[390, 221]] #[{ accessFlags := 0, nameIndex := 7, descriptorIndex := 8, attributes := #[] }, { accessFlags := 9, nameIndex := 90, descriptorIndex := 91, attributes := #[] }, { accessFlags := 9, nameIndex := 281, descriptorIndex := 282, attributes := #[] }, { accessFlags := 9, nameIndex := 101, descriptorIndex := 98, attributes := #[] }, { accessFlags := 10, nameIndex := 97, descriptorIndex := 98, attributes := #[] }] 48 4 #[] #[{ accessFlags := 4120, nameIndex := 121, descriptorIndex := 122, attributes := #[] }])
  fields := #[{ name := "$assertionsDisabled", type := .boolean, accessFlags := 4120, slot := 0, constantValue := 0 }]
  methods := #[k13m0, k13m1, k13m2, k13m3, k13m4]
  instanceTypes := #[]
  staticTypes := #[.boolean]
  resolved := Array.replicate 395 none
  statics := none }

def pool14 : Array CpInfo := pool [(1, .class_ 2), (0, u "java/lang/Math"), (1, .class_ 6), (1, u "java/lang/Object"), (0, u "<init>"), (0, u "()V"), (89, .class_ 100), (1, u "java/lang/Math$RandomNumberGeneratorHolder"), (71, u "negativeZeroFloatBits"), (0, u "J"), (2, u "negativeZeroDoubleBits"), (21, u "max"), (2, u "min"), (43, u "$assertionsDisabled"), (0, u "Z"), (88, u "(II)I"), (2, u "twoToTheDoubleScaleDown"), (0, u "D"), (4, u "twoToTheDoubleScaleUp"), (9, u "E"), (3, u "PI"), (2, u "TAU"), (2, u "DEGREES_TO_RADIANS"), (0, u "RADIANS_TO_DEGREES")] 94

def k14m0 : Method := { name := "<init>", desc := "()V", sig := { parameters := [], returnType := none }, accessFlags := 2, code := none }
def k14c1 : Code := { maxStack := 2, maxLocals := 2, code := jdk_29_method_65_code, exceptionTable := #[], attributes := #[] }
def k14m1 : Method := { name := "max", desc := "(II)I", sig := { parameters := [.int, .int], returnType := some .int }, accessFlags := 9, code := some k14c1 }
def k14c2 : Code := { maxStack := 2, maxLocals := 2, code := jdk_29_method_69_code, exceptionTable := #[], attributes := #[] }
def k14m2 : Method := { name := "min", desc := "(II)I", sig := { parameters := [.int, .int], returnType := some .int }, accessFlags := 9, code := some k14c2 }
/-- java/lang/Math -/
def k14 : Class := { plain "java/lang/Math" (some 0) with
  accessFlags := 49
  interfaces := #[]
  cf := some (fileOf pool14 1 #[.nestMembers #[98]] #[{ accessFlags := 2, nameIndex := 7, descriptorIndex := 8, attributes := #[] }, { accessFlags := 9, nameIndex := 198, descriptorIndex := 335, attributes := #[] }, { accessFlags := 9, nameIndex := 201, descriptorIndex := 335, attributes := #[] }] 49 4 #[] #[{ accessFlags := 25, nameIndex := 354, descriptorIndex := 339, attributes := #[] }, { accessFlags := 25, nameIndex := 358, descriptorIndex := 339, attributes := #[] }, { accessFlags := 25, nameIndex := 361, descriptorIndex := 339, attributes := #[] }, { accessFlags := 26, nameIndex := 364, descriptorIndex := 339, attributes := #[] }, { accessFlags := 26, nameIndex := 365, descriptorIndex := 339, attributes := #[] }, { accessFlags := 26, nameIndex := 172, descriptorIndex := 173, attributes := #[] }, { accessFlags := 26, nameIndex := 176, descriptorIndex := 173, attributes := #[] }, { accessFlags := 8, nameIndex := 344, descriptorIndex := 339, attributes := #[] }, { accessFlags := 8, nameIndex := 338, descriptorIndex := 339, attributes := #[] }, { accessFlags := 4120, nameIndex := 245, descriptorIndex := 246, attributes := #[] }])
  fields := #[{ name := "E", type := .double, accessFlags := 25, slot := 0, constantValue := 0 }, { name := "PI", type := .double, accessFlags := 25, slot := 1, constantValue := 0 }, { name := "TAU", type := .double, accessFlags := 25, slot := 2, constantValue := 0 }, { name := "DEGREES_TO_RADIANS", type := .double, accessFlags := 26, slot := 3, constantValue := 0 }, { name := "RADIANS_TO_DEGREES", type := .double, accessFlags := 26, slot := 4, constantValue := 0 }, { name := "negativeZeroFloatBits", type := .long, accessFlags := 26, slot := 5, constantValue := 0 }, { name := "negativeZeroDoubleBits", type := .long, accessFlags := 26, slot := 6, constantValue := 0 }, { name := "twoToTheDoubleScaleUp", type := .double, accessFlags := 8, slot := 7, constantValue := 0 }, { name := "twoToTheDoubleScaleDown", type := .double, accessFlags := 8, slot := 8, constantValue := 0 }, { name := "$assertionsDisabled", type := .boolean, accessFlags := 4120, slot := 9, constantValue := 0 }]
  methods := #[k14m0, k14m1, k14m2]
  instanceTypes := #[]
  staticTypes := #[.double, .double, .double, .double, .double, .long, .long, .double, .double, .boolean]
  resolved := Array.replicate 460 none
  statics := none }

def pool15 : Array CpInfo := pool [(9, u "<init>"), (6, .class_ 18), (1, u "java/lang/Object"), (0, u "()V"), (1, .class_ 23), (1, u "jdk/internal/util/ArraysSupport"), (0, u "LOG2_ARRAY_LONG_INDEX_SCALE"), (0, u "I"), (2, u "U"), (0, u "Ljdk/internal/misc/Unsafe;"), (8, u "BIG_ENDIAN"), (0, u "Z"), (8, u "LOG2_BYTE_BIT_SIZE"), (4, u "LOG2_ARRAY_INT_INDEX_SCALE"), (54, u "JLA"), (0, u "Ljdk/internal/access/JavaLangAccess;"), (11, u "LOG2_ARRAY_BOOLEAN_INDEX_SCALE"), (9, u "LOG2_ARRAY_BYTE_INDEX_SCALE"), (5, u "LOG2_ARRAY_CHAR_INDEX_SCALE"), (5, u "LOG2_ARRAY_SHORT_INDEX_SCALE"), (18, u "LOG2_ARRAY_FLOAT_INDEX_SCALE"), (24, u "LOG2_ARRAY_DOUBLE_INDEX_SCALE"), (89, u "T_BOOLEAN"), (2, u "T_CHAR"), (1, u "T_FLOAT"), (1, u "T_DOUBLE"), (1, u "T_BYTE"), (1, u "T_SHORT"), (1, u "T_INT"), (1, u "T_LONG"), (1, u "SOFT_MAX_ARRAY_LENGTH")] 83

def k15m0 : Method := { name := "<init>", desc := "()V", sig := { parameters := [], returnType := none }, accessFlags := 2, code := none }
/-- jdk/internal/util/ArraysSupport -/
def k15 : Class := { plain "jdk/internal/util/ArraysSupport" (some 0) with
  accessFlags := 33
  interfaces := #[]
  cf := some (fileOf pool15 21 #[] #[{ accessFlags := 2, nameIndex := 9, descriptorIndex := 19, attributes := #[] }] 33 16 #[] #[{ accessFlags := 24, nameIndex := 28, descriptorIndex := 29, attributes := #[] }, { accessFlags := 26, nameIndex := 38, descriptorIndex := 39, attributes := #[] }, { accessFlags := 25, nameIndex := 121, descriptorIndex := 25, attributes := #[] }, { accessFlags := 25, nameIndex := 131, descriptorIndex := 25, attributes := #[] }, { accessFlags := 25, nameIndex := 137, descriptorIndex := 25, attributes := #[] }, { accessFlags := 25, nameIndex := 143, descriptorIndex := 25, attributes := #[] }, { accessFlags := 25, nameIndex := 53, descriptorIndex := 25, attributes := #[] }, { accessFlags := 25, nameIndex := 24, descriptorIndex := 25, attributes := #[] }, { accessFlags := 25, nameIndex := 162, descriptorIndex := 25, attributes := #[] }, { accessFlags := 25, nameIndex := 187, descriptorIndex := 25, attributes := #[] }, { accessFlags := 26, nameIndex := 48, descriptorIndex := 25, attributes := #[] }, { accessFlags := 25, nameIndex := 277, descriptorIndex := 25, attributes := #[] }, { accessFlags := 25, nameIndex := 280, descriptorIndex := 25, attributes := #[] }, { accessFlags := 25, nameIndex := 282, descriptorIndex := 25, attributes := #[] }, { accessFlags := 25, nameIndex := 284, descriptorIndex := 25, attributes := #[] }, { accessFlags := 25, nameIndex := 286, descriptorIndex := 25, attributes := #[] }, { accessFlags := 25, nameIndex := 288, descriptorIndex := 25, attributes := #[] }, { accessFlags := 25, nameIndex := 290, descriptorIndex := 25, attributes := #[] }, { accessFlags := 25, nameIndex := 292, descriptorIndex := 25, attributes := #[] }, { accessFlags := 26, nameIndex := 108, descriptorIndex := 109, attributes := #[] }, { accessFlags := 25, nameIndex := 294, descriptorIndex := 25, attributes := #[] }])
  fields := #[{ name := "U", type := (.object "jdk/internal/misc/Unsafe"), accessFlags := 24, slot := 0, constantValue := 0 }, { name := "BIG_ENDIAN", type := .boolean, accessFlags := 26, slot := 1, constantValue := 0 }, { name := "LOG2_ARRAY_BOOLEAN_INDEX_SCALE", type := .int, accessFlags := 25, slot := 2, constantValue := 0 }, { name := "LOG2_ARRAY_BYTE_INDEX_SCALE", type := .int, accessFlags := 25, slot := 3, constantValue := 0 }, { name := "LOG2_ARRAY_CHAR_INDEX_SCALE", type := .int, accessFlags := 25, slot := 4, constantValue := 0 }, { name := "LOG2_ARRAY_SHORT_INDEX_SCALE", type := .int, accessFlags := 25, slot := 5, constantValue := 0 }, { name := "LOG2_ARRAY_INT_INDEX_SCALE", type := .int, accessFlags := 25, slot := 6, constantValue := 0 }, { name := "LOG2_ARRAY_LONG_INDEX_SCALE", type := .int, accessFlags := 25, slot := 7, constantValue := 0 }, { name := "LOG2_ARRAY_FLOAT_INDEX_SCALE", type := .int, accessFlags := 25, slot := 8, constantValue := 0 }, { name := "LOG2_ARRAY_DOUBLE_INDEX_SCALE", type := .int, accessFlags := 25, slot := 9, constantValue := 0 }, { name := "LOG2_BYTE_BIT_SIZE", type := .int, accessFlags := 26, slot := 10, constantValue := 0 }, { name := "T_BOOLEAN", type := .int, accessFlags := 25, slot := 11, constantValue := 0 }, { name := "T_CHAR", type := .int, accessFlags := 25, slot := 12, constantValue := 0 }, { name := "T_FLOAT", type := .int, accessFlags := 25, slot := 13, constantValue := 0 }, { name := "T_DOUBLE", type := .int, accessFlags := 25, slot := 14, constantValue := 0 }, { name := "T_BYTE", type := .int, accessFlags := 25, slot := 15, constantValue := 0 }, { name := "T_SHORT", type := .int, accessFlags := 25, slot := 16, constantValue := 0 }, { name := "T_INT", type := .int, accessFlags := 25, slot := 17, constantValue := 0 }, { name := "T_LONG", type := .int, accessFlags := 25, slot := 18, constantValue := 0 }, { name := "JLA", type := (.object "jdk/internal/access/JavaLangAccess"), accessFlags := 26, slot := 19, constantValue := 0 }, { name := "SOFT_MAX_ARRAY_LENGTH", type := .int, accessFlags := 25, slot := 20, constantValue := 0 }]
  methods := #[k15m0]
  instanceTypes := #[]
  staticTypes := #[(.object "jdk/internal/misc/Unsafe"), .boolean, .int, .int, .int, .int, .int, .int, .int, .int, .int, .int, .int, .int, .int, .int, .int, .int, .int, (.object "jdk/internal/access/JavaLangAccess"), .int]
  resolved := Array.replicate 378 none
  statics := none }

def pool16 : Array CpInfo := pool [(1, u "java/lang/Cloneable"), (0, .class_ 1), (0, u "java/lang/Object"), (0, .class_ 3)] 3

/-- java/lang/Cloneable -/
def k16 : Class := { plain "java/lang/Cloneable" (some 0) with
  accessFlags := 1537
  interfaces := #[]
  cf := some (fileOf pool16 2 #[] #[] 1537 4 #[] #[])
  fields := #[]
  methods := #[]
  instanceTypes := #[]
  staticTypes := #[]
  resolved := Array.replicate 8 none
  statics := none }

/-- the primitive byte -/
def k17 : Class := { plain "byte" none with kind := .primitive 'B', accessFlags := 0x411 }
/-- [B -/
def k18 : Class := { plain "[B" (some 0) with kind := .array 17 .byte, interfaces := #[16, 2], accessFlags := 1041 }

/-- the primitive char -/
def k19 : Class := { plain "char" none with kind := .primitive 'C', accessFlags := 0x411 }
/-- [C -/
def k20 : Class := { plain "[C" (some 0) with kind := .array 19 .char, interfaces := #[16, 2], accessFlags := 1041 }

/-- the primitive int -/
def k21 : Class := { plain "int" none with kind := .primitive 'I', accessFlags := 0x411 }
/-- [I -/
def k22 : Class := { plain "[I" (some 0) with kind := .array 21 .int, interfaces := #[16, 2], accessFlags := 1041 }

def heap : Heap := #[{ cls := 7, slots := #[.long 0, .int 1, .null, .int 0, .null, .int 0, .int 0], vm := .statics 7 },
  { cls := 11, slots := #[.null, .null, .null], vm := .statics 11 }]
def classes : Array Class := #[k0, k1, k2, k3, k4, k5, k6, k7, k8, k9, k10, k11, k12, k13, k14, k15, k16, k17, k18, k19, k20, k21, k22]
def interned : List (Array UInt16 × Addr) := []
def slotsUsed : Nat := 10
def theMethod : MethodId := ⟨1, 3⟩
def args0 : Array Value := #[.int 3, .int 5, .int 6, .int 7, .int 8, .int 9]
def aboutOver (below : List Frame) : State where
  vm := { classes := classes, interned := interned.toArray }
  heap := heap
  slotsUsed := slotsUsed
  threads := #[{ frames := .invoking theMethod args0 :: below }]
def below0 : List Frame := [.native { method := ⟨0, 0⟩, args := #[] }]
def about1 : State := aboutOver below0
def p0 : Program := .bare "" "" ""
def e0 : Env := launch0.env 0 0 0
theorem w_frames : about1.frames = Frame.invoking theMethod args0 :: below0 := rfl
set_option maxRecDepth 65536 in
theorem w_args : argsFit about1.vm theMethod args0 = true := by decide +kernel
set_option maxRecDepth 65536 in
theorem w_heap : heapFits about1 = true := by decide +kernel
set_option maxRecDepth 65536 in
theorem w_runnable : about1.curStatus? = some .runnable := by decide +kernel
set_option maxRecDepth 65536 in
theorem w_alone : about1.alone = true := by decide +kernel
set_option maxRecDepth 65536 in
theorem w_named : about1.methodNamed? x = some theMethod := by decide +kernel
set_option maxRecDepth 65536 in
theorem w_hears : about1.hears theMethod below0 = true := by decide +kernel
set_option maxRecDepth 65536 in
theorem w_ripe : about1.ripe theMethod args0 below0 = true := by decide +kernel
theorem w_running : about1.status = .running := rfl
set_option maxRecDepth 65536 in
theorem w_room : about1.hasRoom e0.platform room_1 = true :=
  launch0.hasRoom_least _ room_1 (by decide +kernel) (by decide +kernel) (by decide +kernel) (by decide +kernel) (by decide +kernel) (by decide +kernel)
theorem allAtoms_all (ts : List Jvm.Cond) (a : Array Jvm.Value) (st : Jvm.State) : (allAtoms ts).before a st = ts.all (fun c => c.before a st) := by
  induction ts with
  | nil => rfl
  | cons c t ih =>
    show (Jvm.Cond.and c (allAtoms t)).before a st = _
    rw [Jvm.Cond.before_and, ih, List.all_cons]
def words1 : List Jvm.Cond := Jvm.Cond.code x code maxLocals ret :: tables_1
/-- a 'code' word, met by the world's own term for the bytes: nothing is compared byte by byte -/
theorem code_word {y : MethodName} {bytes : ByteArray} {mx : Nat} {rt : Option FieldType} {a : Array Value} {s : State} {m : MethodId} {meth : Method} {c : Code} (h1 : s.methodNamed? y = some m) (h2 : s.vm.method? m = some meth) (h3 : meth.code = some c) (h4 : c.code = bytes)
    (h5 : (c.maxLocals == mx && c.exceptionTable.isEmpty && decide (c.maxStack ≤ mostOperands) && decide (meth.sig.returnType = rt) && !meth.locks && decide (parseMethodDescriptor y.desc = some meth.sig)) = true) : (Jvm.Cond.code y bytes mx rt).before a s = true := by
  simp only [Bool.and_eq_true, beq_iff_eq, Bool.not_eq_true', decide_eq_true_eq] at h5
  obtain ⟨⟨⟨⟨⟨g1, g2⟩, g3⟩, g4⟩, g5⟩, g6⟩ := h5
  simp [Cond.before, Cond.holds, Cond.value, h1, h2, h3, h4, g1, g2, g3, g4, g5, g6]
def isCode : Jvm.Cond → Bool
  | .code _ _ _ _ => true
  | _ => false
theorem all_split {L : List Jvm.Cond} {P : Jvm.Cond → Bool} (h1 : L.all (fun c => isCode c || P c) = true) (h2 : ∀ c ∈ L.filter isCode, P c = true) : L.all P = true := by
  refine List.all_eq_true.mpr fun c hc => ?_
  have h := List.all_eq_true.mp h1 c hc
  rcases Bool.eq_false_or_eq_true (isCode c) with hi | hi
  · exact h2 c (List.mem_filter.mpr ⟨hc, hi⟩)
  · simpa [hi] using h
set_option maxRecDepth 65536 in
theorem w_c0 : (Jvm.Cond.code x code maxLocals ret).before args0 about1 = true := code_word (m := ⟨1, 3⟩) (meth := k1m3) (c := k1c3) (by decide +kernel) rfl rfl rfl (by decide +kernel)
set_option maxRecDepth 65536 in
theorem w_c1 : (Jvm.Cond.code ({ cls := "com/example/portunus/portunus/lock/LockNameOfPinLaw", name := "ch", desc := "(I)C" } : Jvm.MethodName) method_2_code (2 : Nat) (Option.some Jvm.ClassFile.FieldType.char)).before args0 about1 = true := code_word (m := ⟨1, 1⟩) (meth := k1m1) (c := k1c1) (by decide +kernel) rfl rfl rfl (by decide +kernel)
set_option maxRecDepth 65536 in
theorem w_c2 : (Jvm.Cond.code ({ cls := "com/example/portunus/portunus/lock/LockNameOfPinLaw", name := "make", desc := "(ICCCC)Ljava/lang/String;" } : Jvm.MethodName) method_3_code (5 : Nat) (Option.some (Jvm.ClassFile.FieldType.object "java/lang/String"))).before args0 about1 = true := code_word (m := ⟨1, 2⟩) (meth := k1m2) (c := k1c2) (by decide +kernel) rfl rfl rfl (by decide +kernel)
set_option maxRecDepth 65536 in
theorem w_c3 : (Jvm.Cond.code ({ cls := "java/lang/String", name := "<init>", desc := "([C)V" } : Jvm.MethodName) jdk_42_method_3_code (2 : Nat) (Option.none : Option Jvm.ClassFile.FieldType)).before args0 about1 = true := code_word (m := ⟨7, 1⟩) (meth := k7m1) (c := k7c1) (by decide +kernel) rfl rfl rfl (by decide +kernel)
set_option maxRecDepth 65536 in
theorem w_c4 : (Jvm.Cond.code ({ cls := "java/lang/String", name := "<init>", desc := "([CIILjava/lang/Void;)V" } : Jvm.MethodName) jdk_42_method_149_code (6 : Nat) (Option.none : Option Jvm.ClassFile.FieldType)).before args0 about1 = true := code_word (m := ⟨7, 8⟩) (meth := k7m8) (c := k7c8) (by decide +kernel) rfl rfl rfl (by decide +kernel)
set_option maxRecDepth 65536 in
theorem w_c5 : (Jvm.Cond.code ({ cls := "java/lang/Object", name := "<init>", desc := "()V" } : Jvm.MethodName) object_method_1_code (1 : Nat) (Option.none : Option Jvm.ClassFile.FieldType)).before args0 about1 = true := code_word (m := ⟨0, 0⟩) (meth := k0m0) (c := k0c0) (by decide +kernel) rfl rfl rfl (by decide +kernel)
set_option maxRecDepth 65536 in
theorem w_c6 : (Jvm.Cond.code ({ cls := "java/lang/StringUTF16", name := "compress", desc := "([CII)[B" } : Jvm.MethodName) jdk_52_method_16_code (6 : Nat) (Option.some (Jvm.ClassFile.FieldType.array Jvm.ClassFile.FieldType.byte))).before args0 about1 = true := code_word (m := ⟨8, 2⟩) (meth := k8m2) (c := k8c2) (by decide +kernel) rfl rfl rfl (by decide +kernel)
set_option maxRecDepth 65536 in
theorem w_c7 : (Jvm.Cond.code ({ cls := "java/lang/StringUTF16", name := "compress", desc := "([CI[BII)I" } : Jvm.MethodName) jdk_52_method_21_code (7 : Nat) (Option.some Jvm.ClassFile.FieldType.int)).before args0 about1 = true := code_word (m := ⟨8, 3⟩) (meth := k8m3) (c := k8c3) (by decide +kernel) rfl rfl rfl (by decide +kernel)
set_option maxRecDepth 65536 in
theorem w_c8 : (Jvm.Cond.code ({ cls := "java/lang/StringUTF16", name := "coderFromArrayLen", desc := "([BI)B" } : Jvm.MethodName) jdk_52_method_15_code (2 : Nat) (Option.some Jvm.ClassFile.FieldType.byte)).before args0 about1 = true := code_word (m := ⟨8, 1⟩) (meth := k8m1) (c := k8c1) (by decide +kernel) rfl rfl rfl (by decide +kernel)
set_option maxRecDepth 65536 in
theorem w_c9 : (Jvm.Cond.code ({ cls := "com/example/portunus/portunus/lock/LockName", name := "of", desc := "(Ljava/lang/String;)Lcom/example/portunus/portunus/lock/LockName;" } : Jvm.MethodName) prog_10_method_2_code (3 : Nat) (Option.some (Jvm.ClassFile.FieldType.object "com/example/portunus/portunus/lock/LockName"))).before args0 about1 = true := code_word (m := ⟨9, 1⟩) (meth := k9m1) (c := k9c1) (by decide +kernel) rfl rfl rfl (by decide +kernel)
set_option maxRecDepth 65536 in
theorem w_c10 : (Jvm.Cond.code ({ cls := "java/util/Objects", name := "requireNonNull", desc := "(Ljava/lang/Object;Ljava/lang/String;)Ljava/lang/Object;" } : Jvm.MethodName) jdk_31_method_11_code (2 : Nat) (Option.some (Jvm.ClassFile.FieldType.object "java/lang/Object"))).before args0 about1 = true := code_word (m := ⟨10, 1⟩) (meth := k10m1) (c := k10c1) (by decide +kernel) rfl rfl rfl (by decide +kernel)
set_option maxRecDepth 65536 in
theorem w_c11 : (Jvm.Cond.code ({ cls := "java/lang/String", name := "isEmpty", desc := "()Z" } : Jvm.MethodName) jdk_42_method_55_code (1 : Nat) (Option.some Jvm.ClassFile.FieldType.boolean)).before args0 about1 = true := code_word (m := ⟨7, 3⟩) (meth := k7m3) (c := k7c3) (by decide +kernel) rfl rfl rfl (by decide +kernel)
set_option maxRecDepth 65536 in
theorem w_c12 : (Jvm.Cond.code ({ cls := "java/lang/String", name := "length", desc := "()I" } : Jvm.MethodName) jdk_42_method_54_code (1 : Nat) (Option.some Jvm.ClassFile.FieldType.int)).before args0 about1 = true := code_word (m := ⟨7, 2⟩) (meth := k7m2) (c := k7c2) (by decide +kernel) rfl rfl rfl (by decide +kernel)
set_option maxRecDepth 65536 in
theorem w_c13 : (Jvm.Cond.code ({ cls := "java/lang/String", name := "coder", desc := "()B" } : Jvm.MethodName) jdk_42_method_152_code (1 : Nat) (Option.some Jvm.ClassFile.FieldType.byte)).before args0 about1 = true := code_word (m := ⟨7, 9⟩) (meth := k7m9) (c := k7c9) (by decide +kernel) rfl rfl rfl (by decide +kernel)
set_option maxRecDepth 65536 in
theorem w_c14 : (Jvm.Cond.code ({ cls := "java/lang/String", name := "codePointAt", desc := "(I)I" } : Jvm.MethodName) jdk_42_method_57_code (3 : Nat) (Option.some Jvm.ClassFile.FieldType.int)).before args0 about1 = true := code_word (m := ⟨7, 4⟩) (meth := k7m4) (c := k7c4) (by decide +kernel) rfl rfl rfl (by decide +kernel)
set_option maxRecDepth 65536 in
theorem w_c15 : (Jvm.Cond.code ({ cls := "java/lang/String", name := "isLatin1", desc := "()Z" } : Jvm.MethodName) jdk_42_method_154_code (1 : Nat) (Option.some Jvm.ClassFile.FieldType.boolean)).before args0 about1 = true := code_word (m := ⟨7, 10⟩) (meth := k7m10) (c := k7c10) (by decide +kernel) rfl rfl rfl (by decide +kernel)
set_option maxRecDepth 65536 in
theorem w_c16 : (Jvm.Cond.code ({ cls := "java/lang/String", name := "checkIndex", desc := "(II)V" } : Jvm.MethodName) jdk_42_method_155_code (2 : Nat) (Option.none : Option Jvm.ClassFile.FieldType)).before args0 about1 = true := code_word (m := ⟨7, 11⟩) (meth := k7m11) (c := k7c11) (by decide +kernel) rfl rfl rfl (by decide +kernel)
set_option maxRecDepth 65536 in
theorem w_c17 : (Jvm.Cond.code ({ cls := "jdk/internal/util/Preconditions", name := "checkIndex", desc := "(IILjava/util/function/BiFunction;)I" } : Jvm.MethodName) jdk_41_method_11_code (3 : Nat) (Option.some Jvm.ClassFile.FieldType.int)).before args0 about1 = true := code_word (m := ⟨11, 1⟩) (meth := k11m1) (c := k11c1) (by decide +kernel) rfl rfl rfl (by decide +kernel)
set_option maxRecDepth 65536 in
theorem w_c18 : (Jvm.Cond.code ({ cls := "com/example/portunus/portunus/lock/LockName", name := "allowed", desc := "(I)Z" } : Jvm.MethodName) prog_10_method_6_code (1 : Nat) (Option.some Jvm.ClassFile.FieldType.boolean)).before args0 about1 = true := code_word (m := ⟨9, 4⟩) (meth := k9m4) (c := k9c4) (by decide +kernel) rfl rfl rfl (by decide +kernel)
set_option maxRecDepth 65536 in
theorem w_c19 : (Jvm.Cond.code ({ cls := "java/lang/Character", name := "charCount", desc := "(I)I" } : Jvm.MethodName) jdk_89_method_18_code (1 : Nat) (Option.some Jvm.ClassFile.FieldType.int)).before args0 about1 = true := code_word (m := ⟨12, 0⟩) (meth := k12m0) (c := k12c0) (by decide +kernel) rfl rfl rfl (by decide +kernel)
set_option maxRecDepth 65536 in
theorem w_c20 : (Jvm.Cond.code ({ cls := "com/example/portunus/portunus/lock/LockName", name := "<init>", desc := "(Ljava/lang/String;)V" } : Jvm.MethodName) prog_10_method_1_code (2 : Nat) (Option.none : Option Jvm.ClassFile.FieldType)).before args0 about1 = true := code_word (m := ⟨9, 0⟩) (meth := k9m0) (c := k9c0) (by decide +kernel) rfl rfl rfl (by decide +kernel)
set_option maxRecDepth 65536 in
theorem w_c21 : (Jvm.Cond.code ({ cls := "com/example/portunus/portunus/lock/LockName", name := "toString", desc := "()Ljava/lang/String;" } : Jvm.MethodName) prog_10_method_3_code (1 : Nat) (Option.some (Jvm.ClassFile.FieldType.object "java/lang/String"))).before args0 about1 = true := code_word (m := ⟨9, 2⟩) (meth := k9m2) (c := k9c2) (by decide +kernel) rfl rfl rfl (by decide +kernel)
set_option maxRecDepth 65536 in
theorem w_c22 : (Jvm.Cond.code ({ cls := "java/lang/String", name := "equals", desc := "(Ljava/lang/Object;)Z" } : Jvm.MethodName) jdk_42_method_66_code (3 : Nat) (Option.some Jvm.ClassFile.FieldType.boolean)).before args0 about1 = true := code_word (m := ⟨7, 5⟩) (meth := k7m5) (c := k7c5) (by decide +kernel) rfl rfl rfl (by decide +kernel)
set_option maxRecDepth 65536 in
theorem w_c23 : (Jvm.Cond.code ({ cls := "com/example/portunus/portunus/lock/LockName", name := "equals", desc := "(Ljava/lang/Object;)Z" } : Jvm.MethodName) prog_10_method_4_code (2 : Nat) (Option.some Jvm.ClassFile.FieldType.boolean)).before args0 about1 = true := code_word (m := ⟨9, 3⟩) (meth := k9m3) (c := k9c3) (by decide +kernel) rfl rfl rfl (by decide +kernel)
set_option maxRecDepth 65536 in
theorem w_c24 : (Jvm.Cond.code ({ cls := "java/lang/StringLatin1", name := "equals", desc := "([B[B)Z" } : Jvm.MethodName) jdk_43_method_13_code (3 : Nat) (Option.some Jvm.ClassFile.FieldType.boolean)).before args0 about1 = true := code_word (m := ⟨13, 2⟩) (meth := k13m2) (c := k13c2) (by decide +kernel) rfl rfl rfl (by decide +kernel)
set_option maxRecDepth 65536 in
theorem w_c25 : (Jvm.Cond.code ({ cls := "java/lang/String", name := "indexOf", desc := "(I)I" } : Jvm.MethodName) jdk_42_method_79_code (2 : Nat) (Option.some Jvm.ClassFile.FieldType.int)).before args0 about1 = true := code_word (m := ⟨7, 6⟩) (meth := k7m6) (c := k7c6) (by decide +kernel) rfl rfl rfl (by decide +kernel)
set_option maxRecDepth 65536 in
theorem w_c26 : (Jvm.Cond.code ({ cls := "java/lang/String", name := "indexOf", desc := "(II)I" } : Jvm.MethodName) jdk_42_method_80_code (3 : Nat) (Option.some Jvm.ClassFile.FieldType.int)).before args0 about1 = true := code_word (m := ⟨7, 7⟩) (meth := k7m7) (c := k7c7) (by decide +kernel) rfl rfl rfl (by decide +kernel)
set_option maxRecDepth 65536 in
theorem w_c27 : (Jvm.Cond.code ({ cls := "java/lang/StringLatin1", name := "indexOf", desc := "([BIII)I" } : Jvm.MethodName) jdk_43_method_22_code (4 : Nat) (Option.some Jvm.ClassFile.FieldType.int)).before args0 about1 = true := code_word (m := ⟨13, 3⟩) (meth := k13m3) (c := k13c3) (by decide +kernel) rfl rfl rfl (by decide +kernel)
set_option maxRecDepth 65536 in
theorem w_c28 : (Jvm.Cond.code ({ cls := "java/lang/StringLatin1", name := "canEncode", desc := "(I)Z" } : Jvm.MethodName) jdk_43_method_4_code (1 : Nat) (Option.some Jvm.ClassFile.FieldType.boolean)).before args0 about1 = true := code_word (m := ⟨13, 1⟩) (meth := k13m1) (c := k13c1) (by decide +kernel) rfl rfl rfl (by decide +kernel)
set_option maxRecDepth 65536 in
theorem w_c29 : (Jvm.Cond.code ({ cls := "java/lang/Math", name := "max", desc := "(II)I" } : Jvm.MethodName) jdk_29_method_65_code (2 : Nat) (Option.some Jvm.ClassFile.FieldType.int)).before args0 about1 = true := code_word (m := ⟨14, 1⟩) (meth := k14m1) (c := k14c1) (by decide +kernel) rfl rfl rfl (by decide +kernel)
set_option maxRecDepth 65536 in
theorem w_c30 : (Jvm.Cond.code ({ cls := "java/lang/Math", name := "min", desc := "(II)I" } : Jvm.MethodName) jdk_29_method_69_code (2 : Nat) (Option.some Jvm.ClassFile.FieldType.int)).before args0 about1 = true := code_word (m := ⟨14, 2⟩) (meth := k14m2) (c := k14c2) (by decide +kernel) rfl rfl rfl (by decide +kernel)
set_option maxRecDepth 65536 in
theorem w_c31 : (Jvm.Cond.code ({ cls := "java/lang/StringLatin1", name := "indexOfChar", desc := "([BIII)I" } : Jvm.MethodName) jdk_43_method_23_code (6 : Nat) (Option.some Jvm.ClassFile.FieldType.int)).before args0 about1 = true := code_word (m := ⟨13, 4⟩) (meth := k13m4) (c := k13c4) (by decide +kernel) rfl rfl rfl (by decide +kernel)
def codes1 : List Jvm.Cond := [Jvm.Cond.code x code maxLocals ret, Jvm.Cond.code ({ cls := "com/example/portunus/portunus/lock/LockNameOfPinLaw", name := "ch", desc := "(I)C" } : Jvm.MethodName) method_2_code (2 : Nat) (Option.some Jvm.ClassFile.FieldType.char), Jvm.Cond.code ({ cls := "com/example/portunus/portunus/lock/LockNameOfPinLaw", name := "make", desc := "(ICCCC)Ljava/lang/String;" } : Jvm.MethodName) method_3_code (5 : Nat) (Option.some (Jvm.ClassFile.FieldType.object "java/lang/String")), Jvm.Cond.code ({ cls := "java/lang/String", name := "<init>", desc := "([C)V" } : Jvm.MethodName) jdk_42_method_3_code (2 : Nat) (Option.none : Option Jvm.ClassFile.FieldType), Jvm.Cond.code ({ cls := "java/lang/String", name := "<init>", desc := "([CIILjava/lang/Void;)V" } : Jvm.MethodName) jdk_42_method_149_code (6 : Nat) (Option.none : Option Jvm.ClassFile.FieldType), Jvm.Cond.code ({ cls := "java/lang/Object", name := "<init>", desc := "()V" } : Jvm.MethodName) object_method_1_code (1 : Nat) (Option.none : Option Jvm.ClassFile.FieldType), Jvm.Cond.code ({ cls := "java/lang/StringUTF16", name := "compress", desc := "([CII)[B" } : Jvm.MethodName) jdk_52_method_16_code (6 : Nat) (Option.some (Jvm.ClassFile.FieldType.array Jvm.ClassFile.FieldType.byte)), Jvm.Cond.code ({ cls := "java/lang/StringUTF16", name := "compress", desc := "([CI[BII)I" } : Jvm.MethodName) jdk_52_method_21_code (7 : Nat) (Option.some Jvm.ClassFile.FieldType.int), Jvm.Cond.code ({ cls := "java/lang/StringUTF16", name := "coderFromArrayLen", desc := "([BI)B" } : Jvm.MethodName) jdk_52_method_15_code (2 : Nat) (Option.some Jvm.ClassFile.FieldType.byte), Jvm.Cond.code ({ cls := "com/example/portunus/portunus/lock/LockName", name := "of", desc := "(Ljava/lang/String;)Lcom/example/portunus/portunus/lock/LockName;" } : Jvm.MethodName) prog_10_method_2_code (3 : Nat) (Option.some (Jvm.ClassFile.FieldType.object "com/example/portunus/portunus/lock/LockName")), Jvm.Cond.code ({ cls := "java/util/Objects", name := "requireNonNull", desc := "(Ljava/lang/Object;Ljava/lang/String;)Ljava/lang/Object;" } : Jvm.MethodName) jdk_31_method_11_code (2 : Nat) (Option.some (Jvm.ClassFile.FieldType.object "java/lang/Object")), Jvm.Cond.code ({ cls := "java/lang/String", name := "isEmpty", desc := "()Z" } : Jvm.MethodName) jdk_42_method_55_code (1 : Nat) (Option.some Jvm.ClassFile.FieldType.boolean), Jvm.Cond.code ({ cls := "java/lang/String", name := "length", desc := "()I" } : Jvm.MethodName) jdk_42_method_54_code (1 : Nat) (Option.some Jvm.ClassFile.FieldType.int), Jvm.Cond.code ({ cls := "java/lang/String", name := "coder", desc := "()B" } : Jvm.MethodName) jdk_42_method_152_code (1 : Nat) (Option.some Jvm.ClassFile.FieldType.byte), Jvm.Cond.code ({ cls := "java/lang/String", name := "codePointAt", desc := "(I)I" } : Jvm.MethodName) jdk_42_method_57_code (3 : Nat) (Option.some Jvm.ClassFile.FieldType.int), Jvm.Cond.code ({ cls := "java/lang/String", name := "isLatin1", desc := "()Z" } : Jvm.MethodName) jdk_42_method_154_code (1 : Nat) (Option.some Jvm.ClassFile.FieldType.boolean), Jvm.Cond.code ({ cls := "java/lang/String", name := "checkIndex", desc := "(II)V" } : Jvm.MethodName) jdk_42_method_155_code (2 : Nat) (Option.none : Option Jvm.ClassFile.FieldType), Jvm.Cond.code ({ cls := "jdk/internal/util/Preconditions", name := "checkIndex", desc := "(IILjava/util/function/BiFunction;)I" } : Jvm.MethodName) jdk_41_method_11_code (3 : Nat) (Option.some Jvm.ClassFile.FieldType.int), Jvm.Cond.code ({ cls := "com/example/portunus/portunus/lock/LockName", name := "allowed", desc := "(I)Z" } : Jvm.MethodName) prog_10_method_6_code (1 : Nat) (Option.some Jvm.ClassFile.FieldType.boolean), Jvm.Cond.code ({ cls := "java/lang/Character", name := "charCount", desc := "(I)I" } : Jvm.MethodName) jdk_89_method_18_code (1 : Nat) (Option.some Jvm.ClassFile.FieldType.int), Jvm.Cond.code ({ cls := "com/example/portunus/portunus/lock/LockName", name := "<init>", desc := "(Ljava/lang/String;)V" } : Jvm.MethodName) prog_10_method_1_code (2 : Nat) (Option.none : Option Jvm.ClassFile.FieldType), Jvm.Cond.code ({ cls := "com/example/portunus/portunus/lock/LockName", name := "toString", desc := "()Ljava/lang/String;" } : Jvm.MethodName) prog_10_method_3_code (1 : Nat) (Option.some (Jvm.ClassFile.FieldType.object "java/lang/String")), Jvm.Cond.code ({ cls := "java/lang/String", name := "equals", desc := "(Ljava/lang/Object;)Z" } : Jvm.MethodName) jdk_42_method_66_code (3 : Nat) (Option.some Jvm.ClassFile.FieldType.boolean), Jvm.Cond.code ({ cls := "com/example/portunus/portunus/lock/LockName", name := "equals", desc := "(Ljava/lang/Object;)Z" } : Jvm.MethodName) prog_10_method_4_code (2 : Nat) (Option.some Jvm.ClassFile.FieldType.boolean), Jvm.Cond.code ({ cls := "java/lang/StringLatin1", name := "equals", desc := "([B[B)Z" } : Jvm.MethodName) jdk_43_method_13_code (3 : Nat) (Option.some Jvm.ClassFile.FieldType.boolean), Jvm.Cond.code ({ cls := "java/lang/String", name := "indexOf", desc := "(I)I" } : Jvm.MethodName) jdk_42_method_79_code (2 : Nat) (Option.some Jvm.ClassFile.FieldType.int), Jvm.Cond.code ({ cls := "java/lang/String", name := "indexOf", desc := "(II)I" } : Jvm.MethodName) jdk_42_method_80_code (3 : Nat) (Option.some Jvm.ClassFile.FieldType.int), Jvm.Cond.code ({ cls := "java/lang/StringLatin1", name := "indexOf", desc := "([BIII)I" } : Jvm.MethodName) jdk_43_method_22_code (4 : Nat) (Option.some Jvm.ClassFile.FieldType.int), Jvm.Cond.code ({ cls := "java/lang/StringLatin1", name := "canEncode", desc := "(I)Z" } : Jvm.MethodName) jdk_43_method_4_code (1 : Nat) (Option.some Jvm.ClassFile.FieldType.boolean), Jvm.Cond.code ({ cls := "java/lang/Math", name := "max", desc := "(II)I" } : Jvm.MethodName) jdk_29_method_65_code (2 : Nat) (Option.some Jvm.ClassFile.FieldType.int), Jvm.Cond.code ({ cls := "java/lang/Math", name := "min", desc := "(II)I" } : Jvm.MethodName) jdk_29_method_69_code (2 : Nat) (Option.some Jvm.ClassFile.FieldType.int), Jvm.Cond.code ({ cls := "java/lang/StringLatin1", name := "indexOfChar", desc := "([BIII)I" } : Jvm.MethodName) jdk_43_method_23_code (6 : Nat) (Option.some Jvm.ClassFile.FieldType.int)]
set_option maxRecDepth 65536 in
theorem codes_eq : words1.filter isCode = codes1 := rfl
theorem w_codes : ∀ c ∈ words1.filter isCode, c.before args0 about1 = true := by
  rw [codes_eq]
  intro c hc
  simp only [codes1, List.mem_cons, List.not_mem_nil, or_false] at hc
  rcases hc with rfl | rfl | rfl | rfl | rfl | rfl | rfl | rfl | rfl | rfl | rfl | rfl | rfl | rfl | rfl | rfl | rfl | rfl | rfl | rfl | rfl | rfl | rfl | rfl | rfl | rfl | rfl | rfl | rfl | rfl | rfl | rfl
  · exact w_c0
  · exact w_c1
  · exact w_c2
  · exact w_c3
  · exact w_c4
  · exact w_c5
  · exact w_c6
  · exact w_c7
  · exact w_c8
  · exact w_c9
  · exact w_c10
  · exact w_c11
  · exact w_c12
  · exact w_c13
  · exact w_c14
  · exact w_c15
  · exact w_c16
  · exact w_c17
  · exact w_c18
  · exact w_c19
  · exact w_c20
  · exact w_c21
  · exact w_c22
  · exact w_c23
  · exact w_c24
  · exact w_c25
  · exact w_c26
  · exact w_c27
  · exact w_c28
  · exact w_c29
  · exact w_c30
  · exact w_c31
set_option maxRecDepth 65536 in
theorem w_t1 : (words1.take 24).all (fun c => isCode c || c.before args0 about1) = true := by decide +kernel
set_option maxRecDepth 65536 in
theorem w_t2 : ((words1.drop 24).take 24).all (fun c => isCode c || c.before args0 about1) = true := by decide +kernel
set_option maxRecDepth 65536 in
theorem w_t3 : (((words1.drop 24).drop 24).take 24).all (fun c => isCode c || c.before args0 about1) = true := by decide +kernel
set_option maxRecDepth 65536 in
theorem w_t4 : ((((words1.drop 24).drop 24).drop 24).take 24).all (fun c => isCode c || c.before args0 about1) = true := by decide +kernel
set_option maxRecDepth 65536 in
theorem w_t5 : (((((words1.drop 24).drop 24).drop 24).drop 24).take 24).all (fun c => isCode c || c.before args0 about1) = true := by decide +kernel
set_option maxRecDepth 65536 in
theorem w_t6 : ((((((words1.drop 24).drop 24).drop 24).drop 24).drop 24).take 24).all (fun c => isCode c || c.before args0 about1) = true := by decide +kernel
set_option maxRecDepth 65536 in
theorem w_t7 : ((((((words1.drop 24).drop 24).drop 24).drop 24).drop 24).drop 24).all (fun c => isCode c || c.before args0 about1) = true := by decide +kernel
theorem w_tables : (allAtoms (Jvm.Cond.code x code maxLocals ret :: tables_1)).before args0 about1 = true := by
  rw [allAtoms_all]
  show words1.all (fun c => c.before args0 about1) = true
  refine all_split ?_ w_codes
  rw [← List.take_append_drop 24 words1, List.all_append, w_t1, ← List.take_append_drop 24 (words1.drop 24), List.all_append, w_t2, ← List.take_append_drop 24 ((words1.drop 24).drop 24), List.all_append, w_t3, ← List.take_append_drop 24 (((words1.drop 24).drop 24).drop 24), List.all_append, w_t4, ← List.take_append_drop 24 ((((words1.drop 24).drop 24).drop 24).drop 24), List.all_append, w_t5, ← List.take_append_drop 24 (((((words1.drop 24).drop 24).drop 24).drop 24).drop 24), List.all_append, w_t6, w_t7]
  rfl
set_option maxRecDepth 65536 in
theorem w_rest : rest_1_c.before args0 about1 = true := by decide +kernel
set_option maxRecDepth 65536 in
theorem w_case : (Jvm.Cond.and given_1 narrow_1).before args0 about1 = true := by decide +kernel
set_option maxRecDepth 65536 in
theorem w_consts : constsHeld consts_1 about1 := Jvm.Lit.constsHeldB_iff.mp (by decide +kernel)
theorem w_applies : (headSpec (Jvm.Cond.code x code maxLocals ret :: tables_1) room_1).applies x e0.platform about1 = true :=
  (Spec.applies_iff w_frames).mpr ⟨w_running, w_runnable, w_alone, w_named, w_hears, w_ripe, w_room, w_tables⟩
theorem atStart : AtStart classFile x code maxLocals ret World_1 tables_1 room_1 Calls_1 rest_1 Pre_1 launch0 p0 e0 about1 theMethod args0 below0 :=
  ⟨lists_1, trivial, launch0.admits_env _ _ _, launch0.least_env, fairChoices_fair.cas, fairChoices_fair.clock, w_frames, w_args, w_heap, w_applies, ⟨w_consts, trivial⟩, w_rest, w_case⟩
end start1
theorem witness_1 : WitnessClaimed_1 := ⟨start1.p0, start1.e0, start1.about1, start1.theMethod, start1.args0, start1.below0, start1.atStart⟩
end Jvm.Pilot.@@N@@
