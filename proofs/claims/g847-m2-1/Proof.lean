import JvmDerived
import JvmDerived.Pilot.@@N@@Statement
import JvmDerived.Pilot.@@N@@Code
set_option linter.unusedVariables false
set_option linter.unusedSimpArgs false
namespace Jvm.RoadKit
open Sem ClassFile Op Lib Jvm.Stand Jvm.Free Jvm.LawKit
section New
variable {p : Program} {l : Launch} {e : Env} {R : Room} {s : State} {m : MethodId} {args : Array Value} {below : List Frame} {meth : Method} {c : Code} {T : State} {locs : List Loc} {cells slots : Nat}
theorem retI (X : Stand p l e R s m args below meth c T locs cells slots) (hx : p.tables.exec = Jvm.exec) {pc : Nat} {Ls : Array Slot} {z : Int32} {rest : List Value} (hret : meth.sig.returnType = some .int) (hd : decode c.code pc = .ok (.ireturn, 1)) {fs : List Frame}
    (hl : ∀ (f : JFrame) (acts : List Action), f.method = m → f.locked = none → f.entered = [] → (doReturn e (T.setTop f) acts (some (.int z))).1 = T.setFrames fs) : Steps p.tables e below (T.setTop (mkF m pc Ls (.int z :: rest))) (T.setFrames fs) := by
  have hm' : T.vm.method? m = some meth := X.method'
  have hn : narrow .int (.int z) = .int z := rfl
  show Steps p.tables e below (T.setTop { method := m, pc := pc, locals := Ls, stack := _ :: rest, locked := none }) _
  jvm_step X.here [X.here.top, hx, hd, hm', hret, hn]
  first | (intro acts; rw [hl _ acts rfl rfl rfl]) | rw [hl _ _ rfl rfl rfl]
  exact Steps.refl _
end New
end Jvm.RoadKit
/- laws to paste: Road.backV (cut by pick.py; bodies as the Statement names them) -/
namespace Jvm.Pilot.@@N@@
namespace StrChars
open Jvm Sem ClassFile Op Lib Jvm.Stand Jvm.Free.XT Jvm.Free.ALB Jvm.Free.JM Jvm.Free
open Jvm.Lib.Cold (StaticIs)
/-- a char array whose places are chars -/
def Ch (a : Addr) (A : Cell) (U : State) : Prop := Arr .char a A U ∧ Typed .char A
theorem Ch.mv {a : Addr} {A : Cell} {U U' : State} (h : Ch a A U) (hal : U.vm.Alike U'.vm) (hh : U'.heap = U.heap) : Ch a A U' := ⟨h.1.mv hal hh, h.2⟩
theorem Ch.keep {a : Addr} {A : Cell} {U U' : State} (h : Ch a A U) (hal : U.vm.Alike U'.vm) (hk : U'.heap[a]? = some A) : Ch a A U' := ⟨h.1.keep hal hk, h.2⟩
/-- what place i of a char[]'s cell holds -/
def cv (A : Cell) (i : Nat) : Int32 := match A.slots[i]? with | some (.int x) => x | _ => 0
theorem Ch.get {a : Addr} {A : Cell} {U : State} (h : Ch a A U) {i : Nat} (hi : i < A.slots.size) : A.slots[i]? = some (.int (cv A i)) := by
  have e := Array.getElem?_eq_getElem hi
  have f := h.2 i _ e
  unfold cv; rw [e]
  generalize A.slots[i] = v at f
  cases v <;> simp [fits] at f ⊢
/-- the byte that i2b leaves of a char -/
def lo8 (x : Int32) : Int32 := x.toInt8.toInt32
theorem fits_lo8 (y : Int32) : fits .byte (.int (lo8 y)) = true := by
  have h1 := y.toInt8.le_toInt
  have h2 := y.toInt8.toInt_lt
  simp only [lo8, fits, Bool.and_eq_true, decide_eq_true_eq, Int32.le_iff_toInt_le, Int8.toInt_toInt32, show (-128 : Int32).toInt = -128 from by decide, show (127 : Int32).toInt = 127 from by decide]
  omega
/-- A' is A but that each place j of lo .. hi - 1 holds f j -/
def Laid (A A' : Cell) (lo hi : Nat) (f : Nat → Value) : Prop := A'.cls = A.cls ∧ A'.vm = A.vm ∧ A'.slots.size = A.slots.size ∧ ∀ i, A'.slots[i]? = if lo ≤ i ∧ i < hi then some (f i) else A.slots[i]?
theorem Laid.zero (A : Cell) (lo : Nat) (f : Nat → Value) : Laid A A lo (lo + 0) f := ⟨rfl, rfl, rfl, fun i => by rw [if_neg (by omega)]⟩
theorem Laid.step {A Ak : Cell} {lo k : Nat} {f : Nat → Value} {v : Value} (h : Laid A Ak lo k f) (hlo : lo ≤ k) (hk : k < Ak.slots.size) (hv : v = f k) : Laid A (Ak.setSlot k v) lo (k + 1) f := by
  refine ⟨h.1, h.2.1, by simpa [Cell.setSlot] using h.2.2.1, fun i => ?_⟩
  by_cases e : k = i
  · subst e; rw [Cell.slots_setSlot_self v hk, if_pos (by omega), hv]
  · rw [Cell.slots_setSlot_ne v e, h.2.2.2 i]
    by_cases q : lo ≤ i ∧ i < k
    · rw [if_pos q, if_pos (by omega)]
    · rw [if_neg q, if_neg (by omega)]
def U16 : String := "java/lang/StringUTF16"
namespace Cmp5
def yN : MethodName := ⟨"java/lang/StringUTF16", "compress", "([CI[BII)I"⟩
abbrev yB : ByteArray := jdk_52_method_21_code
theorem d0 : decode yB 0 = .ok (.iconst 0, 1) := by decide +kernel
theorem d1 : decode yB 1 = .ok (.istore 5, 2) := by decide +kernel
theorem d3 : decode yB 3 = .ok (.iload 5, 2) := by decide +kernel
theorem d5 : decode yB 5 = .ok (.iload 4, 2) := by decide +kernel
theorem d7 : decode yB 7 = .ok (.if_icmp (.ge) 37, 3) := by decide +kernel
theorem d10 : decode yB 10 = .ok (.aload_n 0, 1) := by decide +kernel
theorem d11 : decode yB 11 = .ok (.iload_n 1, 1) := by decide +kernel
theorem d12 : decode yB 12 = .ok (.caload, 1) := by decide +kernel
theorem d13 : decode yB 13 = .ok (.istore 6, 2) := by decide +kernel
theorem d15 : decode yB 15 = .ok (.iload 6, 2) := by decide +kernel
theorem d17 : decode yB 17 = .ok (.sipush 255, 3) := by decide +kernel
theorem d20 : decode yB 20 = .ok (.if_icmp (.le) 6, 3) := by decide +kernel
theorem d26 : decode yB 26 = .ok (.aload_n 2, 1) := by decide +kernel
theorem d27 : decode yB 27 = .ok (.iload_n 3, 1) := by decide +kernel
theorem d28 : decode yB 28 = .ok (.iload 6, 2) := by decide +kernel
theorem d30 : decode yB 30 = .ok (.i2b, 1) := by decide +kernel
theorem d31 : decode yB 31 = .ok (.bastore, 1) := by decide +kernel
theorem d32 : decode yB 32 = .ok (.iinc 1 1, 3) := by decide +kernel
theorem d35 : decode yB 35 = .ok (.iinc 3 1, 3) := by decide +kernel
theorem d38 : decode yB 38 = .ok (.iinc 5 1, 3) := by decide +kernel
theorem d41 : decode yB 41 = .ok (.goto (-38), 3) := by decide +kernel
theorem d44 : decode yB 44 = .ok (.iload 4, 2) := by decide +kernel
theorem d46 : decode yB 46 = .ok (.ireturn, 1) := by decide +kernel
def site : List Cond := []
def tab : Cond := tabOf yN yB 7 (some .int) site
def P (b : Addr) (A : Cell) (d : Addr) (B : Cell) (o q len : Nat) (args : Array Value) (s : State) : Prop := args = #[.ref b, .int (Int32.ofNat o), .ref d, .int (Int32.ofNat q), .int (Int32.ofNat len)] ∧ Ch b A s ∧ Arr .byte d B s ∧ b ≠ d ∧ o + len ≤ A.slots.size ∧ q + len ≤ B.slots.size ∧ ∀ i, i < len → ¬ 255 < cv A (o + i)
def E (b : Addr) (A : Cell) (d : Addr) (B : Cell) (o q len : Nat) (r : Option Value) (s u : State) : Prop := r = some (.int (Int32.ofNat len)) ∧ ∃ B', Put d B' s u ∧ Laid B B' q (q + len) (fun j => Value.int (lo8 (cv A (o + (j - q)))))
/-- no char of the range above 255: len; the places written hold each char's low byte -/
theorem law (l : Launch) (b : Addr) (A : Cell) (d : Addr) (B : Cell) (o q len : Nat) : Law l yN 5 5 0 0 yB 7 (some .int) site (P b A d B o q len) (E b A d B o q len) (copyLocs d q len) 0 0 := by
  refine Law.of_walk (plainFor_of_name (by decide +kernel)) (by decide +kernel) (by decide +kernel) (by decide) (fun _ _ h => by rw [h.1]; rfl) (fun _ U U' hal hh h => ⟨h.1, h.2.1.mv hal hh, h.2.2.1.mv hal hh, h.2.2.2⟩) (fun r U U' V V' h1 hal h2 h => ⟨h.1, h.2.elim fun B' q => ⟨B', q.1.mv h1 h2, q.2⟩⟩) ?_
  intro p e s m args below meth c s₁ X0 hexec hbytes hml hret hlk hnm hown hh0 W hP
  obtain ⟨rfl, hA, hB, hne, l1, l2, hp⟩ := hP
  have c1 : Steps p.tables e below (s₁.setTop (entryFrame m #[.ref b, .int (Int32.ofNat o), .ref d, .int (Int32.ofNat q), .int (Int32.ofNat len)] 7)) (s₁.setTop (mkF m 0 #[.val (.ref b), .val (.int (Int32.ofNat o)), .val (.ref d), .val (.int (Int32.ofNat q)), .val (.int (Int32.ofNat len)), .unset, .unset] [])) := entry rfl
  have hA0 := hA.1.mv X0.warmed.alike hh0
  have hB0 := hB.mv X0.warmed.alike hh0
  have a31 := hA.1.2.2.2
  have c2 : Steps p.tables e below (s₁.setTop (entryFrame m #[.ref b, .int (Int32.ofNat o), .ref d, .int (Int32.ofNat q), .int (Int32.ofNat len)] 7)) (s₁.setTop (mkF m 3 #[.val (.ref b), .val (.int (Int32.ofNat o)), .val (.ref d), .val (.int (Int32.ofNat q)), .val (.int (Int32.ofNat len)), .val (.int 0), .unset] [])) := c1.trans (by
    refine iconstV X0.here hexec rfl 0 (hb hbytes d0) (by decide) ?_
    refine XS.istore X0.here hexec rfl (hb hbytes d1) rfl rfl ?_
    exact Steps.refl _)
  have loop : ∀ (r i : Nat), i + r = len → ∀ (z : Slot), (z = .unset ∨ ∃ w, z = .val w ∧ w.category = 1) → ∀ (Tl : State) (Bk : Cell), Stand p l e { frames := 0, locals := 0, cells := 0, slots := 0 } s m #[.ref b, .int (Int32.ofNat o), .ref d, .int (Int32.ofNat q), .int (Int32.ofNat len)] below meth c Tl ([] ++ copyLocs d q i) 0 0 → Put d Bk s₁ Tl → Laid B Bk q (q + i) (fun j => Value.int (lo8 (cv A (o + (j - q))))) →
      Steps p.tables e below (s₁.setTop (entryFrame m #[.ref b, .int (Int32.ofNat o), .ref d, .int (Int32.ofNat q), .int (Int32.ofNat len)] 7)) (Tl.setTop (mkF m 3 #[.val (.ref b), .val (.int (Int32.ofNat (o + i))), .val (.ref d), .val (.int (Int32.ofNat (q + i))), .val (.int (Int32.ofNat len)), .val (.int (Int32.ofNat i)), z] [])) → ∃ (T' : State) (B' : Cell) (z' : Slot), Stand p l e { frames := 0, locals := 0, cells := 0, slots := 0 } s m #[.ref b, .int (Int32.ofNat o), .ref d, .int (Int32.ofNat q), .int (Int32.ofNat len)] below meth c T' ([] ++ copyLocs d q len) 0 0 ∧ Put d B' s₁ T' ∧ Laid B B' q (q + len) (fun j => Value.int (lo8 (cv A (o + (j - q))))) ∧
      Steps p.tables e below (s₁.setTop (entryFrame m #[.ref b, .int (Int32.ofNat o), .ref d, .int (Int32.ofNat q), .int (Int32.ofNat len)] 7)) (T'.setTop (mkF m 3 #[.val (.ref b), .val (.int (Int32.ofNat (o + len))), .val (.ref d), .val (.int (Int32.ofNat (q + len))), .val (.int (Int32.ofNat len)), .val (.int (Int32.ofNat len)), z'] [])) := by
    intro r
    induction r with
    | zero =>
      intro i hi z hz Tl Bk Xl pl fl cl
      have hil : i = len := by omega
      rw [hil] at Xl fl cl
      exact ⟨Tl, Bk, z, Xl, pl, fl, cl⟩
    | succ r ih =>
      intro i hi z hz Tl Bk Xl pl fl cl
      have all := X0.warmed.alike.symm.trans Xl.warmed.alike
      have hAl := hA0.keep all (pl.other hne hA0.1)
      have hBk := hB0.like all pl.1 fl.1 fl.2.1 fl.2.2.1
      have hlt : q + i < Bk.slots.size := by rw [fl.2.2.1]; omega
      have c3 : Steps p.tables e below (s₁.setTop (entryFrame m #[.ref b, .int (Int32.ofNat o), .ref d, .int (Int32.ofNat q), .int (Int32.ofNat len)] 7)) (Tl.setTop (mkF m 12 #[.val (.ref b), .val (.int (Int32.ofNat (o + i))), .val (.ref d), .val (.int (Int32.ofNat (q + i))), .val (.int (Int32.ofNat len)), .val (.int (Int32.ofNat i)), z] [.int (Int32.ofNat (o + i)), .ref b])) := cl.trans (by
        refine XS.iload Xl.here hexec rfl (hb hbytes d3) rfl ?_
        refine XS.iload Xl.here hexec rfl (hb hbytes d5) rfl ?_
        refine XS.icmpNo Xl.here hexec rfl (hb hbytes d7) rfl (ii_ge_f (lt32 (by omega) (by omega))) ?_
        refine XS.aloadN Xl.here hexec rfl (hb hbytes d10) rfl rfl ?_
        refine XS.iloadN Xl.here hexec rfl (hb hbytes d11) rfl ?_
        exact Steps.refl _)
      have c4 : Steps p.tables e below (s₁.setTop (entryFrame m #[.ref b, .int (Int32.ofNat o), .ref d, .int (Int32.ofNat q), .int (Int32.ofNat len)] 7)) (Tl.setTop (mkF m 13 #[.val (.ref b), .val (.int (Int32.ofNat (o + i))), .val (.ref d), .val (.int (Int32.ofNat (q + i))), .val (.int (Int32.ofNat len)), .val (.int (Int32.ofNat i)), z] [.int (cv A (o + i))])) := c3.trans (by
        refine Xl.aget hexec hAl rfl (hA.get (i := o + i) (by omega)) rfl rfl (hb hbytes d12) ?_
        exact Steps.refl _)
      have c5 : Steps p.tables e below (s₁.setTop (entryFrame m #[.ref b, .int (Int32.ofNat o), .ref d, .int (Int32.ofNat q), .int (Int32.ofNat len)] 7)) (Tl.setTop (mkF m 15 #[.val (.ref b), .val (.int (Int32.ofNat (o + i))), .val (.ref d), .val (.int (Int32.ofNat (q + i))), .val (.int (Int32.ofNat len)), .val (.int (Int32.ofNat i)), .val (.int (cv A (o + i)))] [])) := c4.trans (by
        refine XS.istoreS Xl.here hexec rfl (hb hbytes d13) rfl rfl hz ?_
        exact Steps.refl _)
      have c6 : Steps p.tables e below (s₁.setTop (entryFrame m #[.ref b, .int (Int32.ofNat o), .ref d, .int (Int32.ofNat q), .int (Int32.ofNat len)] 7)) (Tl.setTop (mkF m 31 #[.val (.ref b), .val (.int (Int32.ofNat (o + i))), .val (.ref d), .val (.int (Int32.ofNat (q + i))), .val (.int (Int32.ofNat len)), .val (.int (Int32.ofNat i)), .val (.int (cv A (o + i)))] [.int (lo8 (cv A (o + i))), .int (Int32.ofNat (q + i)), .ref d])) := c5.trans (by
        refine XS.iload Xl.here hexec rfl (hb hbytes d15) rfl ?_
        refine sipushV Xl.here hexec rfl 255 (hb hbytes d17) (by decide) ?_
        refine XS.icmpYes Xl.here hexec rfl (pc0 := 20) rfl (hb hbytes d20) rfl (ii_le_t (hp i (by omega))) (by decide) rfl ?_
        refine XS.aloadN Xl.here hexec rfl (hb hbytes d26) rfl rfl ?_
        refine XS.iloadN Xl.here hexec rfl (hb hbytes d27) rfl ?_
        refine XS.iload Xl.here hexec rfl (hb hbytes d28) rfl ?_
        refine i2b Xl.here hexec rfl (hb hbytes d30) rfl ?_
        exact Steps.refl _)
      obtain ⟨T7, X7, p7, st7⟩ := Xl.aput hexec hBk rfl hlt rfl (fits_lo8 (cv A (o + i))) (g := (mkF m 31 #[.val (.ref b), .val (.int (Int32.ofNat (o + i))), .val (.ref d), .val (.int (Int32.ofNat (q + i))), .val (.int (Int32.ofNat len)), .val (.int (Int32.ofNat i)), .val (.int (cv A (o + i)))] [.int (lo8 (cv A (o + i))), .int (Int32.ofNat (q + i)), .ref d])) rfl (rest := []) rfl (hb hbytes d31)
      have c8 : Steps p.tables e below (s₁.setTop (entryFrame m #[.ref b, .int (Int32.ofNat o), .ref d, .int (Int32.ofNat q), .int (Int32.ofNat len)] 7)) (T7.setTop (mkF m 32 #[.val (.ref b), .val (.int (Int32.ofNat (o + i))), .val (.ref d), .val (.int (Int32.ofNat (q + i))), .val (.int (Int32.ofNat len)), .val (.int (Int32.ofNat i)), .val (.int (cv A (o + i)))] [])) := c6.trans (st7 _ (Steps.refl _))
      have c9 : Steps p.tables e below (s₁.setTop (entryFrame m #[.ref b, .int (Int32.ofNat o), .ref d, .int (Int32.ofNat q), .int (Int32.ofNat len)] 7)) (T7.setTop (mkF m 3 #[.val (.ref b), .val (.int (Int32.ofNat (o + i) + 1)), .val (.ref d), .val (.int (Int32.ofNat (q + i) + 1)), .val (.int (Int32.ofNat len)), .val (.int (Int32.ofNat i + 1)), .val (.int (cv A (o + i)))] [])) := c8.trans (by
        refine iincV X7.here hexec rfl 1 (hb hbytes d32) (by decide) rfl rfl ?_
        refine iincV X7.here hexec rfl 1 (hb hbytes d35) (by decide) rfl rfl ?_
        refine iincV X7.here hexec rfl 1 (hb hbytes d38) (by decide) rfl rfl ?_
        refine XS.goto X7.here hexec rfl (pc0 := 41) rfl (hb hbytes d41) (by decide) rfl ?_
        exact Steps.refl _)
      have c10 : Steps p.tables e below (s₁.setTop (entryFrame m #[.ref b, .int (Int32.ofNat o), .ref d, .int (Int32.ofNat q), .int (Int32.ofNat len)] 7)) (T7.setTop (mkF m 3 #[.val (.ref b), .val (.int (Int32.ofNat (o + (i + 1)))), .val (.ref d), .val (.int (Int32.ofNat (q + (i + 1)))), .val (.int (Int32.ofNat len)), .val (.int (Int32.ofNat (i + 1))), .val (.int (cv A (o + i)))] [])) := by
        have := c9
        rw [succ32, succ32, succ32] at this
        exact this
      exact ih (i + 1) (by omega) _ (Or.inr ⟨_, rfl, rfl⟩) T7 _ (by rw [copyLocs_step, ← List.append_assoc]; exact X7) (pl.trans p7) (fl.step (by omega) hlt (by simp)) c10
  obtain ⟨T9, B9, z9, X9, p9, f9, g9⟩ := loop len 0 (by omega) .unset (Or.inl rfl) s₁ B (by simpa [copyLocs] using X0) ⟨hB0.1, fun _ _ => rfl, rfl⟩ (Laid.zero _ _ _) c2
  have c11 : Steps p.tables e below (s₁.setTop (entryFrame m #[.ref b, .int (Int32.ofNat o), .ref d, .int (Int32.ofNat q), .int (Int32.ofNat len)] 7)) (T9.setTop (mkF m 46 #[.val (.ref b), .val (.int (Int32.ofNat (o + len))), .val (.ref d), .val (.int (Int32.ofNat (q + len))), .val (.int (Int32.ofNat len)), .val (.int (Int32.ofNat len)), z9] [.int (Int32.ofNat len)])) := g9.trans (by
    refine XS.iload X9.here hexec rfl (hb hbytes d3) rfl ?_
    refine XS.iload X9.here hexec rfl (hb hbytes d5) rfl ?_
    refine XS.icmpYes X9.here hexec rfl (pc0 := 7) rfl (hb hbytes d7) rfl (ii_ge_t (nlt32 (by omega) (Nat.le_refl _))) (by decide) rfl ?_
    refine XS.iload X9.here hexec rfl (hb hbytes d44) rfl ?_
    exact Steps.refl _)
  exact ⟨T9, some (.int (Int32.ofNat len)), _, _, _, X9, by simp, rfl, rfl, (fun h => by cases h), ⟨rfl, B9, p9.from hh0, f9⟩, fun fs hl => c11.trans (X9.ireturnOut hexec hret rfl (Or.inl rfl) (hb hbytes d46) hl)⟩
end Cmp5
namespace Cmp3
def yN : MethodName := ⟨"java/lang/StringUTF16", "compress", "([CII)[B"⟩
abbrev yB : ByteArray := jdk_52_method_16_code
theorem d0 : decode yB 0 = .ok (.iload_n 2, 1) := by decide +kernel
theorem d1 : decode yB 1 = .ok (.newarray .byte, 2) := by decide +kernel
theorem d3 : decode yB 3 = .ok (.astore_n 3, 1) := by decide +kernel
theorem d4 : decode yB 4 = .ok (.aload_n 0, 1) := by decide +kernel
theorem d5 : decode yB 5 = .ok (.iload_n 1, 1) := by decide +kernel
theorem d6 : decode yB 6 = .ok (.aload_n 3, 1) := by decide +kernel
theorem d7 : decode yB 7 = .ok (.iconst 0, 1) := by decide +kernel
theorem d8 : decode yB 8 = .ok (.iload_n 2, 1) := by decide +kernel
theorem d9 : decode yB 9 = .ok (.invokestatic 115, 3) := by decide +kernel
theorem d12 : decode yB 12 = .ok (.istore 4, 2) := by decide +kernel
theorem d14 : decode yB 14 = .ok (.iload 4, 2) := by decide +kernel
theorem d16 : decode yB 16 = .ok (.iload_n 2, 1) := by decide +kernel
theorem d17 : decode yB 17 = .ok (.if_icmp (.eq) 40, 3) := by decide +kernel
theorem d57 : decode yB 57 = .ok (.aload_n 3, 1) := by decide +kernel
theorem d58 : decode yB 58 = .ok (.areturn, 1) := by decide +kernel
def site : List Cond := [.arrayClass .byte, Cmp5.tab] ++ staticW U16 115 Cmp5.yN
def tab : Cond := tabOf yN yB 6 (some (.array .byte)) site
def P (b : Addr) (A : Cell) (o len : Nat) (args : Array Value) (s : State) : Prop := args = #[.ref b, .int (Int32.ofNat o), .int (Int32.ofNat len)] ∧ Ch b A s ∧ o + len ≤ A.slots.size ∧ len ≤ 536870912 ∧ ∀ i, i < len → ¬ 255 < cv A (o + i)
def E (b : Addr) (A : Cell) (o len : Nat) (r : Option Value) (s u : State) : Prop := NewArr .byte "[B" len (fun j => .int (lo8 (cv A (o + j)))) r s u ∧ u.heap.size = s.heap.size + 1
/-- no char of the range above 255: a new byte[] of their low bytes -/
theorem law (l : Launch) (b : Addr) (A : Cell) (o len : Nat) : Law l yN 3 3 1 18 yB 6 (some (.array .byte)) site (P b A o len) (E b A o len) [] 1 len := by
  refine Law.of_walk (plainFor_of_name (by decide +kernel)) (by decide +kernel) (by decide +kernel) (by decide) (fun _ _ h => by rw [h.1]; rfl) (fun _ U U' hal hh h => ⟨h.1, h.2.1.mv hal hh, h.2.2⟩) (fun r U U' V V' h1 hal h2 h => ⟨NewArr.mv r U U' V V' h1 hal h2 h.1, by rw [h1, h2]; exact h.2⟩) ?_
  intro p e s m args below meth c s₁ X0 hexec hbytes hml hret hlk hnm hown hh0 W hP
  obtain ⟨rfl, hA, l1, l2, hp⟩ := hP
  have a31 := hA.1.2.2.2
  have c1 : Steps p.tables e below (s₁.setTop (entryFrame m #[.ref b, .int (Int32.ofNat o), .int (Int32.ofNat len)] 6)) (s₁.setTop (mkF m 0 #[.val (.ref b), .val (.int (Int32.ofNat o)), .val (.int (Int32.ofNat len)), .unset, .unset, .unset] [])) := entry rfl
  have c2 : Steps p.tables e below (s₁.setTop (entryFrame m #[.ref b, .int (Int32.ofNat o), .int (Int32.ofNat len)] 6)) (s₁.setTop (mkF m 1 #[.val (.ref b), .val (.int (Int32.ofNat o)), .val (.int (Int32.ofNat len)), .unset, .unset, .unset] [.int (Int32.ofNat len)])) := c1.trans (by
    refine XS.iloadN X0.here hexec rfl (hb hbytes d0) rfl ?_
    exact Steps.refl _)
  obtain ⟨T3, B3, X3, ba3, bs3, bv3, bh3, bf3, st3⟩ := X0.anew hexec (atype := .byte) (wk W (.arrayClass .byte)) rfl (by show len * 1 ≤ _; omega) (by omega) (g := (mkF m 1 #[.val (.ref b), .val (.int (Int32.ofNat o)), .val (.int (Int32.ofNat len)), .unset, .unset, .unset] [.int (Int32.ofNat len)])) rfl (hb hbytes d1) (rest := []) rfl (Nat.le_refl _) (by show 0 + len ≤ len; omega)
  rw [hh0] at ba3 st3
  have kp3 : XT.Kept s T3 := (XT.Kept.of_eq hh0).push bh3
  have hA3 := hA.keep X3.warmed.alike (kp3 _ _ hA.1.1)
  have hne : b ≠ s.heap.size := hA.1.ne
  have c4 : Steps p.tables e below (s₁.setTop (entryFrame m #[.ref b, .int (Int32.ofNat o), .int (Int32.ofNat len)] 6)) (T3.setTop (mkF m 3 #[.val (.ref b), .val (.int (Int32.ofNat o)), .val (.int (Int32.ofNat len)), .unset, .unset, .unset] [.ref s.heap.size])) := c2.trans (st3 _ (Steps.refl _))
  have c5 : Steps p.tables e below (s₁.setTop (entryFrame m #[.ref b, .int (Int32.ofNat o), .int (Int32.ofNat len)] 6)) (T3.setTop (mkF m 9 #[.val (.ref b), .val (.int (Int32.ofNat o)), .val (.int (Int32.ofNat len)), .val (.ref s.heap.size), .unset, .unset] [.int (Int32.ofNat len), .int 0, .ref s.heap.size, .int (Int32.ofNat o), .ref b])) := c4.trans (by
    refine XS.astoreN X3.here hexec rfl (hb hbytes d3) rfl rfl rfl ?_
    refine XS.aloadN X3.here hexec rfl (hb hbytes d4) rfl rfl ?_
    refine XS.iloadN X3.here hexec rfl (hb hbytes d5) rfl ?_
    refine XS.aloadN X3.here hexec rfl (hb hbytes d6) rfl rfl ?_
    refine iconstV X3.here hexec rfl 0 (hb hbytes d7) (by decide) ?_
    refine XS.iloadN X3.here hexec rfl (hb hbytes d8) rfl ?_
    exact Steps.refl _)
  obtain ⟨v6, T6, X6, E6, g6⟩ := X3.callS hexec (Cmp5.law l b A s.heap.size B3 o 0 len) hown (wks W (staticW U16 115 Cmp5.yN)) (wk W Cmp5.tab) (W := 0) (Nat.le_of_ble_eq_true rfl) (Nat.le_of_ble_eq_true rfl) (Nat.le_refl _) (by show 0 + len + 0 ≤ len; omega) (g := (mkF m 9 #[.val (.ref b), .val (.int (Int32.ofNat o)), .val (.int (Int32.ofNat len)), .val (.ref s.heap.size), .unset, .unset] [.int (Int32.ofNat len), .int (Int32.ofNat 0), .ref s.heap.size, .int (Int32.ofNat o), .ref b])) rfl (by rw [hml]; rfl) c5 (argsL := [.ref b, .int (Int32.ofNat o), .ref s.heap.size, .int (Int32.ofNat 0), .int (Int32.ofNat len)]) (rest := []) rfl rfl (by show 2 * 0 + 0 ≤ _; decide) (hb hbytes d9) (⟨rfl, hA3, ba3, hne, l1, by rw [bs3]; simp, hp⟩)
  obtain ⟨rfl, B6, p6, f6⟩ := E6
  have c7 : Steps p.tables e below (s₁.setTop (entryFrame m #[.ref b, .int (Int32.ofNat o), .int (Int32.ofNat len)] 6)) (T6.setTop (mkF m 12 #[.val (.ref b), .val (.int (Int32.ofNat o)), .val (.int (Int32.ofNat len)), .val (.ref s.heap.size), .unset, .unset] [.int (Int32.ofNat len)])) := g6
  have c8 : Steps p.tables e below (s₁.setTop (entryFrame m #[.ref b, .int (Int32.ofNat o), .int (Int32.ofNat len)] 6)) (T6.setTop (mkF m 58 #[.val (.ref b), .val (.int (Int32.ofNat o)), .val (.int (Int32.ofNat len)), .val (.ref s.heap.size), .val (.int (Int32.ofNat len)), .unset] [.ref s.heap.size])) := c7.trans (by
    refine XS.istore X6.here hexec rfl (hb hbytes d12) rfl rfl ?_
    refine XS.iload X6.here hexec rfl (hb hbytes d14) rfl ?_
    refine XS.iloadN X6.here hexec rfl (hb hbytes d16) rfl ?_
    refine XS.icmpYes X6.here hexec rfl (pc0 := 17) rfl (hb hbytes d17) rfl (ii_eq_t rfl) (by decide) rfl ?_
    refine XS.aloadN X6.here hexec rfl (hb hbytes d57) rfl rfl ?_
    exact Steps.refl _)
  have X8 := X6.wide (L' := []) (cells' := 1) (slots' := len) (fun x hx hlt => by
    simp only [List.nil_append, copyLocs, List.mem_map, List.mem_range] at hx
    obtain ⟨i, -, rfl⟩ := hx
    exact absurd hlt (Nat.lt_irrefl _)) (Nat.le_refl _) (by omega)
  exact ⟨T6, some (.ref s.heap.size), _, _, _, X8, rfl, rfl, rfl, (fun h => by cases h), ⟨⟨rfl, B6, ba3.like (X3.warmed.alike.symm.trans X6.warmed.alike) p6.1 f6.1 f6.2.1 f6.2.2.1, f6.2.1.trans bv3, by rw [X6.warmed.alike.findClass, f6.1]; exact bf3, by rw [f6.2.2.1, bs3]; simp, fun j hj => by rw [f6.2.2.2 j, if_pos (by omega)]; rfl, kp3.put p6 (Nat.le_refl _)⟩, by rw [p6.2.2, bh3, hh0]; simp⟩, fun fs hl => c8.trans (X8.areturnOut hexec rfl hret rfl (hb hbytes d58) hl)⟩
end Cmp3
namespace CodL
def yN : MethodName := ⟨"java/lang/StringUTF16", "coderFromArrayLen", "([BI)B"⟩
abbrev yB : ByteArray := jdk_52_method_15_code
theorem d0 : decode yB 0 = .ok (.iload_n 1, 1) := by decide +kernel
theorem d1 : decode yB 1 = .ok (.aload_n 0, 1) := by decide +kernel
theorem d2 : decode yB 2 = .ok (.arraylength, 1) := by decide +kernel
theorem d3 : decode yB 3 = .ok (.isub, 1) := by decide +kernel
theorem d4 : decode yB 4 = .ok (.bipush 31, 2) := by decide +kernel
theorem d6 : decode yB 6 = .ok (.iushr, 1) := by decide +kernel
theorem d7 : decode yB 7 = .ok (.i2b, 1) := by decide +kernel
theorem d8 : decode yB 8 = .ok (.ireturn, 1) := by decide +kernel
def site : List Cond := []
def tab : Cond := tabOf yN yB 2 (some .byte) site
def P (d : Addr) (B : Cell) (args : Array Value) (s : State) : Prop := args = #[.ref d, .int (Int32.ofNat B.slots.size)] ∧ Arr .byte d B s
def E (r : Option Value) (s u : State) : Prop := XT.PureE (some (.int 0)) r s u
/-- an array as long as the number of chars: LATIN1 -/
theorem law (l : Launch) (d : Addr) (B : Cell) : Law l yN 2 2 0 0 yB 2 (some .byte) site (P d B) E [] 0 0 := by
  refine Law.of_walk (plainFor_of_name (by decide +kernel)) (by decide +kernel) (by decide +kernel) (by decide) (fun _ _ h => by rw [h.1]; rfl) (fun _ U U' hal hh h => ⟨h.1, h.2.mv hal hh⟩) (fun r U U' V V' h1 hal h2 h => XT.PureE.mv r U U' V V' h1 hal h2 h) ?_
  intro p e s m args below meth c s₁ X0 hexec hbytes hml hret hlk hnm hown hh0 W hP
  obtain ⟨rfl, hB⟩ := hP
  have hB0 := hB.mv X0.warmed.alike hh0
  have c1 : Steps p.tables e below (s₁.setTop (entryFrame m #[.ref d, .int (Int32.ofNat B.slots.size)] 2)) (s₁.setTop (mkF m 0 #[.val (.ref d), .val (.int (Int32.ofNat B.slots.size))] [])) := entry rfl
  have c2 : Steps p.tables e below (s₁.setTop (entryFrame m #[.ref d, .int (Int32.ofNat B.slots.size)] 2)) (s₁.setTop (mkF m 2 #[.val (.ref d), .val (.int (Int32.ofNat B.slots.size))] [.ref d, .int (Int32.ofNat B.slots.size)])) := c1.trans (by
    refine XS.iloadN X0.here hexec rfl (hb hbytes d0) rfl ?_
    refine XS.aloadN X0.here hexec rfl (hb hbytes d1) rfl rfl ?_
    exact Steps.refl _)
  have c3 : Steps p.tables e below (s₁.setTop (entryFrame m #[.ref d, .int (Int32.ofNat B.slots.size)] 2)) (s₁.setTop (mkF m 8 #[.val (.ref d), .val (.int (Int32.ofNat B.slots.size))] [.int (lo8 (ushr (Int32.ofNat B.slots.size - Int32.ofNat B.slots.size) 31))])) := c2.trans (by
    refine X0.alen hexec hB0 rfl rfl (hb hbytes d2) ?_
    refine XS.isub X0.here hexec rfl (hb hbytes d3) rfl ?_
    refine bipushV X0.here hexec rfl 31 (hb hbytes d4) (by decide) ?_
    refine iushr X0.here hexec rfl (hb hbytes d6) rfl ?_
    refine i2b X0.here hexec rfl (hb hbytes d7) rfl ?_
    exact Steps.refl _)
  have e0 : lo8 (ushr (Int32.ofNat B.slots.size - Int32.ofNat B.slots.size) 31) = 0 := by rw [Int32.sub_self]; decide
  rw [e0] at c3
  exact ⟨s₁, some (.int 0), _, _, _, X0, rfl, rfl, rfl, (fun h => by cases h), ⟨rfl, hh0⟩, fun fs hl => c3.trans (X0.ireturnOut hexec hret rfl (Or.inr (Or.inr (Or.inl rfl))) (hb hbytes d8) hl)⟩
end CodL
/-- the String at a is Latin-1 over a new byte[] (the heap's one new cell): the low bytes of the len chars of A from o on; every cell but a is kept -/
def Got (a : Addr) (D : Cell) (fV fC : Field) (A : Cell) (o len : Nat) (r : Option Value) (s u : State) : Prop := r = none ∧ ∃ D' V : Cell, Blank "java/lang/String" a D' u ∧ Same D D' [fV.slot, fC.slot] ∧ D'.slots[fV.slot]? = some (.ref s.heap.size) ∧ D'.slots[fC.slot]? = some (.int 0) ∧ Arr .byte s.heap.size V u ∧ V.vm = .none ∧ u.vm.findClass "[B" = some V.cls ∧ V.slots.size = len ∧ (∀ j, j < len → V.slots[j]? = some (.int (lo8 (cv A (o + j))))) ∧ (∀ (y : Addr) (c : Cell), y ≠ a → s.heap[y]? = some c → u.heap[y]? = some c) ∧ u.heap.size = s.heap.size + 1
theorem Got.mv {a : Addr} {D A : Cell} {fV fC : Field} {o len : Nat} : ∀ r (U U' V V' : State), U'.heap = U.heap → V.vm.Alike V'.vm → V'.heap = V.heap → Got a D fV fC A o len r U V → Got a D fV fC A o len r U' V' :=
  fun r U U' V V' h1 hal h2 ⟨e0, D', X, a1, a2, a3, a4, a5, a6, a7, a8, a9, a10, a11⟩ => ⟨e0, D', X, a1.mv hal h2, a2, by rw [h1]; exact a3, a4, by rw [h1]; exact a5.mv hal h2, a6, by rw [hal.findClass]; exact a7, a8, a9, by rw [h1, h2]; exact a10, by rw [h1, h2]; exact a11⟩
namespace New4
def yN : MethodName := ⟨"java/lang/String", "<init>", "([CIILjava/lang/Void;)V"⟩
abbrev yB : ByteArray := jdk_42_method_149_code
theorem d0 : decode yB 0 = .ok (.aload_n 0, 1) := by decide +kernel
theorem d1 : decode yB 1 = .ok (.invokespecial 1, 3) := by decide +kernel
theorem d4 : decode yB 4 = .ok (.iload_n 3, 1) := by decide +kernel
theorem d5 : decode yB 5 = .ok (.ifCond (.ne) 22, 3) := by decide +kernel
theorem d27 : decode yB 27 = .ok (.getstatic 38, 3) := by decide +kernel
theorem d30 : decode yB 30 = .ok (.ifCond (.eq) 28, 3) := by decide +kernel
theorem d33 : decode yB 33 = .ok (.aload_n 1, 1) := by decide +kernel
theorem d34 : decode yB 34 = .ok (.iload_n 2, 1) := by decide +kernel
theorem d35 : decode yB 35 = .ok (.iload_n 3, 1) := by decide +kernel
theorem d36 : decode yB 36 = .ok (.invokestatic 177, 3) := by decide +kernel
theorem d39 : decode yB 39 = .ok (.astore 5, 2) := by decide +kernel
theorem d41 : decode yB 41 = .ok (.aload_n 0, 1) := by decide +kernel
theorem d42 : decode yB 42 = .ok (.aload 5, 2) := by decide +kernel
theorem d44 : decode yB 44 = .ok (.iload_n 3, 1) := by decide +kernel
theorem d45 : decode yB 45 = .ok (.invokestatic 47, 3) := by decide +kernel
theorem d48 : decode yB 48 = .ok (.putfield 15, 3) := by decide +kernel
theorem d51 : decode yB 51 = .ok (.aload_n 0, 1) := by decide +kernel
theorem d52 : decode yB 52 = .ok (.aload 5, 2) := by decide +kernel
theorem d54 : decode yB 54 = .ok (.putfield 9, 3) := by decide +kernel
theorem d57 : decode yB 57 = .ok (.return_, 1) := by decide +kernel
def site : List Cond := [.fieldLink "java/lang/String" 38 "java/lang/String" "COMPACT_STRINGS" "Z", Cmp3.tab, CodL.tab, .laysFinal "java/lang/String" "java/lang/String" "value" "[B", .fieldLink "java/lang/String" 9 "java/lang/String" "value" "[B", .laysFinal "java/lang/String" "java/lang/String" "coder" "B", .fieldLink "java/lang/String" 15 "java/lang/String" "coder" "B"] ++ objW "java/lang/String" 1 ++ staticW "java/lang/String" 177 Cmp3.yN ++ staticW "java/lang/String" 47 CodL.yN
def tab : Cond := tabOf yN yB 6 none site
def P (a : Addr) (D : Cell) (fV fC : Field) (b : Addr) (A : Cell) (z : Int32) (o len : Nat) (args : Array Value) (s : State) : Prop := args = #[.ref a, .ref b, .int (Int32.ofNat o), .int (Int32.ofNat len), .null] ∧ Blank "java/lang/String" a D s ∧ Found "java/lang/String" "value" "[B" fV s ∧ Found "java/lang/String" "coder" "B" fC s ∧ Ch b A s ∧ StaticIs s "java/lang/String" "COMPACT_STRINGS" "Z" (.int z) ∧ ¬ z = 0 ∧ 0 < len ∧ o + len ≤ A.slots.size ∧ len ≤ 536870912 ∧ ∀ i, i < len → ¬ 255 < cv A (o + i)
def E (a : Addr) (D : Cell) (fV fC : Field) (A : Cell) (o len : Nat) (r : Option Value) (s u : State) : Prop := Got a D fV fC A o len r s u
/-- len > 0, no char of the range above 255: a Latin-1 String of their low bytes -/
theorem law (l : Launch) (a : Addr) (D : Cell) (fV fC : Field) (b : Addr) (A : Cell) (z : Int32) (o len : Nat) : Law l yN 5 4 2 35 yB 6 none site (P a D fV fC b A z o len) (E a D fV fC A o len) [⟨a, fC.slot⟩, ⟨a, fV.slot⟩] 1 len := by
  refine Law.of_walk (plainFor_of_name (by decide +kernel)) (by decide +kernel) (by decide +kernel) (by decide) (fun _ _ h => by rw [h.1]; rfl) (fun _ U U' hal hh h => ⟨h.1, h.2.1.mv hal hh, h.2.2.1.al hal, h.2.2.2.1.al hal, h.2.2.2.2.1.mv hal hh, h.2.2.2.2.2.1.there hal hh, h.2.2.2.2.2.2⟩) (fun r U U' V V' h1 hal h2 h => Got.mv r U U' V V' h1 hal h2 h) ?_
  intro p e s m args below meth c s₁ X0 hexec hbytes hml hret hlk hnm hown hh0 W hP
  obtain ⟨rfl, hB, f1, f2, hA, s1, hz, l0, l1, l2, hp⟩ := hP
  have a31 := hA.1.2.2.2
  have c1 : Steps p.tables e below (s₁.setTop (entryFrame m #[.ref a, .ref b, .int (Int32.ofNat o), .int (Int32.ofNat len), .null] 6)) (s₁.setTop (mkF m 0 #[.val (.ref a), .val (.ref b), .val (.int (Int32.ofNat o)), .val (.int (Int32.ofNat len)), .val .null, .unset] [])) := entry rfl
  have c2 : Steps p.tables e below (s₁.setTop (entryFrame m #[.ref a, .ref b, .int (Int32.ofNat o), .int (Int32.ofNat len), .null] 6)) (s₁.setTop (mkF m 1 #[.val (.ref a), .val (.ref b), .val (.int (Int32.ofNat o)), .val (.int (Int32.ofNat len)), .val .null, .unset] [.ref a])) := c1.trans (by
    refine XS.aloadN X0.here hexec rfl (hb hbytes d0) rfl rfl ?_
    exact Steps.refl _)
  obtain ⟨T3, X3, q3, st3⟩ := X0.oinit hexec hown (wks W (objW "java/lang/String" 1)) (g := (mkF m 1 #[.val (.ref a), .val (.ref b), .val (.int (Int32.ofNat o)), .val (.int (Int32.ofNat len)), .val .null, .unset] [.ref a])) rfl (by rw [hml]; rfl) (rest := []) rfl (hb hbytes d1) (W := 0) (by show 2 * 0 + 0 ≤ _; decide) (Nat.le_of_ble_eq_true rfl) (Nat.le_of_ble_eq_true rfl)
  have hh3 := q3.trans hh0
  have c4 : Steps p.tables e below (s₁.setTop (entryFrame m #[.ref a, .ref b, .int (Int32.ofNat o), .int (Int32.ofNat len), .null] 6)) (T3.setTop (mkF m 27 #[.val (.ref a), .val (.ref b), .val (.int (Int32.ofNat o)), .val (.int (Int32.ofNat len)), .val .null, .unset] [])) := (c2.trans (st3 _ (Steps.refl _))).trans (by
    refine XS.iloadN X3.here hexec rfl (hb hbytes d4) rfl ?_
    refine XS.ifYes X3.here hexec rfl (pc0 := 5) rfl (hb hbytes d5) rfl (i0_ne_t (nz32 (by omega) l0)) (by decide) rfl ?_
    exact Steps.refl _)
  obtain ⟨T5, X5, q5, st5⟩ := X3.sget hexec hown (wk W (.fieldLink "java/lang/String" 38 "java/lang/String" "COMPACT_STRINGS" "Z")) s1 (fun _ _ h => by rw [hh3]; exact h) (g := (mkF m 27 #[.val (.ref a), .val (.ref b), .val (.int (Int32.ofNat o)), .val (.int (Int32.ofNat len)), .val .null, .unset] [])) rfl (hb hbytes d27)
  have hh5 := q5.trans hh3
  have c6 : Steps p.tables e below (s₁.setTop (entryFrame m #[.ref a, .ref b, .int (Int32.ofNat o), .int (Int32.ofNat len), .null] 6)) (T5.setTop (mkF m 30 #[.val (.ref a), .val (.ref b), .val (.int (Int32.ofNat o)), .val (.int (Int32.ofNat len)), .val .null, .unset] [.int z])) := c4.trans (st5 _ (Steps.refl _))
  have c7 : Steps p.tables e below (s₁.setTop (entryFrame m #[.ref a, .ref b, .int (Int32.ofNat o), .int (Int32.ofNat len), .null] 6)) (T5.setTop (mkF m 36 #[.val (.ref a), .val (.ref b), .val (.int (Int32.ofNat o)), .val (.int (Int32.ofNat len)), .val .null, .unset] [.int (Int32.ofNat len), .int (Int32.ofNat o), .ref b])) := c6.trans (by
    refine XS.ifNo X5.here hexec rfl (hb hbytes d30) rfl (i0_eq_f hz) ?_
    refine XS.aloadN X5.here hexec rfl (hb hbytes d33) rfl rfl ?_
    refine XS.iloadN X5.here hexec rfl (hb hbytes d34) rfl ?_
    refine XS.iloadN X5.here hexec rfl (hb hbytes d35) rfl ?_
    exact Steps.refl _)
  obtain ⟨v8, T8, X8, E8, g8⟩ := X5.callS hexec (Cmp3.law l b A o len) hown (wks W (staticW "java/lang/String" 177 Cmp3.yN)) (wk W Cmp3.tab) (W := 0) (Nat.le_of_ble_eq_true rfl) (Nat.le_of_ble_eq_true rfl) (Nat.le_refl _) (by show 0 + len ≤ len; omega) (g := (mkF m 36 #[.val (.ref a), .val (.ref b), .val (.int (Int32.ofNat o)), .val (.int (Int32.ofNat len)), .val .null, .unset] [.int (Int32.ofNat len), .int (Int32.ofNat o), .ref b])) rfl (by rw [hml]; rfl) c7 (argsL := [.ref b, .int (Int32.ofNat o), .int (Int32.ofNat len)]) (rest := []) rfl rfl (by show 2 * 0 + 0 ≤ _; decide) (hb hbytes d36) (⟨rfl, hA.mv X5.warmed.alike hh5, l1, l2, hp⟩)
  obtain ⟨e8, z8⟩ := E8
  obtain ⟨rfl, N, n1, n2, n3, n4, n5, n6⟩ := NewArr.mv _ T5 s _ _ hh5.symm (Vm.Alike.refl _) rfl e8
  rw [hh5] at z8
  have hB1 := hB.keep X8.warmed.alike (n6 _ _ hB.1)
  have hne : s.heap.size ≠ a := (Nat.ne_of_lt (Array.getElem?_eq_some_iff.mp hB.1).1).symm
  have c9 : Steps p.tables e below (s₁.setTop (entryFrame m #[.ref a, .ref b, .int (Int32.ofNat o), .int (Int32.ofNat len), .null] 6)) (T8.setTop (mkF m 39 #[.val (.ref a), .val (.ref b), .val (.int (Int32.ofNat o)), .val (.int (Int32.ofNat len)), .val .null, .unset] [.ref s.heap.size])) := g8
  have c10 : Steps p.tables e below (s₁.setTop (entryFrame m #[.ref a, .ref b, .int (Int32.ofNat o), .int (Int32.ofNat len), .null] 6)) (T8.setTop (mkF m 45 #[.val (.ref a), .val (.ref b), .val (.int (Int32.ofNat o)), .val (.int (Int32.ofNat len)), .val .null, .val (.ref s.heap.size)] [.int (Int32.ofNat N.slots.size), .ref s.heap.size, .ref a])) := by
    have hc : Steps p.tables e below (s₁.setTop (entryFrame m #[.ref a, .ref b, .int (Int32.ofNat o), .int (Int32.ofNat len), .null] 6)) (T8.setTop (mkF m 45 #[.val (.ref a), .val (.ref b), .val (.int (Int32.ofNat o)), .val (.int (Int32.ofNat len)), .val .null, .val (.ref s.heap.size)] [.int (Int32.ofNat len), .ref s.heap.size, .ref a])) := c9.trans (by
      refine XS.astore X8.here hexec rfl (hb hbytes d39) rfl rfl rfl ?_
      refine XS.aloadN X8.here hexec rfl (hb hbytes d41) rfl rfl ?_
      refine XS.aload X8.here hexec rfl (hb hbytes d42) rfl rfl ?_
      refine XS.iloadN X8.here hexec rfl (hb hbytes d44) rfl ?_
      exact Steps.refl _)
    rw [n4]; exact hc
  obtain ⟨v11, T11, X11, E11, g11⟩ := X8.callS hexec (CodL.law l s.heap.size N) hown (wks W (staticW "java/lang/String" 47 CodL.yN)) (wk W CodL.tab) (W := 1) (Nat.le_of_ble_eq_true rfl) (Nat.le_of_ble_eq_true rfl) (Nat.le_refl _) (by show 0 + len + 0 ≤ len; omega) (g := (mkF m 45 #[.val (.ref a), .val (.ref b), .val (.int (Int32.ofNat o)), .val (.int (Int32.ofNat len)), .val .null, .val (.ref s.heap.size)] [.int (Int32.ofNat N.slots.size), .ref s.heap.size, .ref a])) rfl (by rw [hml]; rfl) c10 (argsL := [.ref s.heap.size, .int (Int32.ofNat N.slots.size)]) (rest := [.ref a]) rfl rfl (by show 2 * 0 + (1 + 0) ≤ _; decide) (hb hbytes d45) (⟨rfl, n1⟩)
  obtain ⟨rfl, q11⟩ := E11
  have hB11 := hB1.mv (X8.warmed.alike.symm.trans X11.warmed.alike) q11
  have c12 : Steps p.tables e below (s₁.setTop (entryFrame m #[.ref a, .ref b, .int (Int32.ofNat o), .int (Int32.ofNat len), .null] 6)) (T11.setTop (mkF m 48 #[.val (.ref a), .val (.ref b), .val (.int (Int32.ofNat o)), .val (.int (Int32.ofNat len)), .val .null, .val (.ref s.heap.size)] [.int 0, .ref a])) := g11
  obtain ⟨T13, X13, p13, bl13, sl13, st13⟩ := X11.finit hexec hown (wk W (.fieldLink "java/lang/String" 15 "java/lang/String" "coder" "B")) (Or.inr ⟨_, (wk W (.laysFinal "java/lang/String" "java/lang/String" "coder" "B"))⟩) (Or.inl ⟨rfl, hnm⟩) f2 (Or.inl rfl) hB11 (t := .byte) (by decide +kernel) rfl (g := (mkF m 48 #[.val (.ref a), .val (.ref b), .val (.int (Int32.ofNat o)), .val (.int (Int32.ofNat len)), .val .null, .val (.ref s.heap.size)] [.int 0, .ref a])) rfl (rest := []) rfl (hb hbytes d48)
  have c14 : Steps p.tables e below (s₁.setTop (entryFrame m #[.ref a, .ref b, .int (Int32.ofNat o), .int (Int32.ofNat len), .null] 6)) (T13.setTop (mkF m 54 #[.val (.ref a), .val (.ref b), .val (.int (Int32.ofNat o)), .val (.int (Int32.ofNat len)), .val .null, .val (.ref s.heap.size)] [.ref s.heap.size, .ref a])) := (c12.trans (st13 _ (Steps.refl _))).trans (by
    refine XS.aloadN X13.here hexec rfl (hb hbytes d51) rfl rfl ?_
    refine XS.aload X13.here hexec rfl (hb hbytes d52) rfl rfl ?_
    exact Steps.refl _)
  obtain ⟨T15, X15, p15, bl15, sl15, st15⟩ := X13.finit hexec hown (wk W (.fieldLink "java/lang/String" 9 "java/lang/String" "value" "[B")) (Or.inr ⟨_, (wk W (.laysFinal "java/lang/String" "java/lang/String" "value" "[B"))⟩) (Or.inl ⟨rfl, hnm⟩) f1 (Or.inl rfl) bl13 (t := (.array .byte)) (by decide +kernel) rfl (g := (mkF m 54 #[.val (.ref a), .val (.ref b), .val (.int (Int32.ofNat o)), .val (.int (Int32.ofNat len)), .val .null, .val (.ref s.heap.size)] [.ref s.heap.size, .ref a])) rfl (rest := []) rfl (hb hbytes d54)
  have c16 : Steps p.tables e below (s₁.setTop (entryFrame m #[.ref a, .ref b, .int (Int32.ofNat o), .int (Int32.ofNat len), .null] 6)) (T15.setTop (mkF m 57 #[.val (.ref a), .val (.ref b), .val (.int (Int32.ofNat o)), .val (.int (Int32.ofNat len)), .val .null, .val (.ref s.heap.size)] [])) := c14.trans (st15 _ (Steps.refl _))
  have ap := apart (Or.inr ⟨_, (wk W (.laysFinal "java/lang/String" "java/lang/String" "value" "[B"))⟩) (Or.inr ⟨_, (wk W (.laysFinal "java/lang/String" "java/lang/String" "coder" "B"))⟩) f1 f2 (t₁ := .array .byte) (t₂ := .byte) (by decide +kernel) (by decide +kernel) (by decide)
  have al := X8.warmed.alike.symm.trans X15.warmed.alike
  have n7 : T11.heap[s.heap.size]? = some N := by rw [q11]; exact n1.1
  exact ⟨T15, none, _, _, _, X15, by simp, rfl, by omega, (fun _ => rfl), ⟨rfl, _, N, bl15, ((Same.refl D _).set _ (by simp)).set _ (by simp), sl15, (Cell.slots_setSlot_ne _ ap).trans sl13, n1.keep al (p15.other hne (p13.other hne n7)), n2, by rw [al.findClass]; exact n3, n4, n5, fun y c h1 h2 => p15.other h1 (p13.other h1 (by rw [q11]; exact n6 y c h2)), by rw [p15.2.2, p13.2.2, q11]; exact z8⟩, fun fs hl => c16.trans (X15.returnOut hexec hret (hb hbytes d57) hl)⟩
end New4
namespace New1
def yN : MethodName := ⟨"java/lang/String", "<init>", "([C)V"⟩
abbrev yB : ByteArray := jdk_42_method_3_code
theorem d0 : decode yB 0 = .ok (.aload_n 0, 1) := by decide +kernel
theorem d1 : decode yB 1 = .ok (.aload_n 1, 1) := by decide +kernel
theorem d2 : decode yB 2 = .ok (.iconst 0, 1) := by decide +kernel
theorem d3 : decode yB 3 = .ok (.aload_n 1, 1) := by decide +kernel
theorem d4 : decode yB 4 = .ok (.arraylength, 1) := by decide +kernel
theorem d5 : decode yB 5 = .ok (.aconst_null, 1) := by decide +kernel
theorem d6 : decode yB 6 = .ok (.invokespecial 27, 3) := by decide +kernel
theorem d9 : decode yB 9 = .ok (.return_, 1) := by decide +kernel
def site : List Cond := [New4.tab] ++ initW "java/lang/String" 27 New4.yN
def tab : Cond := tabOf yN yB 2 none site
def P (a : Addr) (D : Cell) (fV fC : Field) (b : Addr) (A : Cell) (z : Int32) (args : Array Value) (s : State) : Prop := args = #[.ref a, .ref b] ∧ Blank "java/lang/String" a D s ∧ Found "java/lang/String" "value" "[B" fV s ∧ Found "java/lang/String" "coder" "B" fC s ∧ Ch b A s ∧ StaticIs s "java/lang/String" "COMPACT_STRINGS" "Z" (.int z) ∧ ¬ z = 0 ∧ 0 < A.slots.size ∧ A.slots.size ≤ 536870912 ∧ ∀ i, i < A.slots.size → ¬ 255 < cv A i
def E (a : Addr) (D : Cell) (fV fC : Field) (A : Cell) (r : Option Value) (s u : State) : Prop := Got a D fV fC A 0 A.slots.size r s u
/-- new String(chars), not empty, no char above 255: a Latin-1 String of their low bytes -/
theorem law (l : Launch) (a : Addr) (D : Cell) (fV fC : Field) (b : Addr) (A : Cell) (z : Int32) : Law l yN 2 1 3 52 yB 2 none site (P a D fV fC b A z) (E a D fV fC A) [⟨a, fC.slot⟩, ⟨a, fV.slot⟩] 1 A.slots.size := by
  refine Law.of_walk (plainFor_of_name (by decide +kernel)) (by decide +kernel) (by decide +kernel) (by decide) (fun _ _ h => by rw [h.1]; rfl) (fun _ U U' hal hh h => ⟨h.1, h.2.1.mv hal hh, h.2.2.1.al hal, h.2.2.2.1.al hal, h.2.2.2.2.1.mv hal hh, h.2.2.2.2.2.1.there hal hh, h.2.2.2.2.2.2⟩) (fun r U U' V V' h1 hal h2 h => Got.mv r U U' V V' h1 hal h2 h) ?_
  intro p e s m args below meth c s₁ X0 hexec hbytes hml hret hlk hnm hown hh0 W hP
  obtain ⟨rfl, hB, f1, f2, hA, s1, hz, l0, l2, hp⟩ := hP
  have c1 : Steps p.tables e below (s₁.setTop (entryFrame m #[.ref a, .ref b] 2)) (s₁.setTop (mkF m 0 #[.val (.ref a), .val (.ref b)] [])) := entry rfl
  have c2 : Steps p.tables e below (s₁.setTop (entryFrame m #[.ref a, .ref b] 2)) (s₁.setTop (mkF m 6 #[.val (.ref a), .val (.ref b)] [.null, .int (Int32.ofNat A.slots.size), .int 0, .ref b, .ref a])) := c1.trans (by
    refine XS.aloadN X0.here hexec rfl (hb hbytes d0) rfl rfl ?_
    refine XS.aloadN X0.here hexec rfl (hb hbytes d1) rfl rfl ?_
    refine iconstV X0.here hexec rfl 0 (hb hbytes d2) (by decide) ?_
    refine XS.aloadN X0.here hexec rfl (hb hbytes d3) rfl rfl ?_
    refine X0.alen hexec (hA.1.mv X0.warmed.alike hh0) rfl rfl (hb hbytes d4) ?_
    refine XS.aconstNull X0.here hexec rfl (hb hbytes d5) ?_
    exact Steps.refl _)
  obtain ⟨v3, T3, X3, E3, g3⟩ := X0.callN hexec (New4.law l a D fV fC b A z 0 A.slots.size) rfl hown (wks W (initW "java/lang/String" 27 New4.yN)) (W New4.tab (by simp only [site, List.mem_cons, List.mem_append, true_or, or_true])) (W := 0) (Nat.le_of_ble_eq_true rfl) (Nat.le_of_ble_eq_true rfl) (Nat.le_refl _) (by show 0 + A.slots.size ≤ A.slots.size; omega) (g := (mkF m 6 #[.val (.ref a), .val (.ref b)] [.null, .int (Int32.ofNat A.slots.size), .int (Int32.ofNat 0), .ref b, .ref a])) rfl (by rw [hml]; rfl) c2 (argsL := [.ref b, .int (Int32.ofNat 0), .int (Int32.ofNat A.slots.size), .null]) (rest := []) rfl rfl (by show 2 * 0 + 0 ≤ _; decide) (hb hbytes d6) (⟨rfl, hB.mv X0.warmed.alike hh0, f1.al X0.warmed.alike, f2.al X0.warmed.alike, hA.mv X0.warmed.alike hh0, s1.there X0.warmed.alike hh0, hz, l0, by omega, l2, fun i hi => by rw [Nat.zero_add]; exact hp i hi⟩)
  have e0 := Got.mv _ s₁ s _ _ hh0.symm (Vm.Alike.refl _) rfl E3
  obtain rfl := e0.1
  have c4 : Steps p.tables e below (s₁.setTop (entryFrame m #[.ref a, .ref b] 2)) (T3.setTop (mkF m 9 #[.val (.ref a), .val (.ref b)] [])) := g3
  exact ⟨T3, none, _, _, _, X3, by simp, rfl, by omega, (fun _ => rfl), e0, fun fs hl => c4.trans (X3.returnOut hexec hret (hb hbytes d9) hl)⟩
theorem pays {l : Launch} {R : Room} {p : Program} {e : Env} {below : List Frame} {s : State} {sargs : Array Value} {len W : Nat} (a : Addr) (D : Cell) (fV fC : Field) (b : Addr) (A : Cell) (z : Int32) (htab : tab.before sargs s = true) (hfr : 4 ≤ R.frames) (hlo : W + 65 ≤ R.locals) :
    Back l R p e below s sargs yN len W (fun A₁ a₁ => A₁.cells + 1 ≤ R.cells ∧ A₁.slots + A.slots.size ≤ R.slots ∧ P a D fV fC b A z a₁ A₁.U) (fun A₁ _ v₁ B₁ => E a D fV fC A v₁ A₁.U B₁.U ∧ B₁.locs = A₁.locs ++ [⟨a, fC.slot⟩, ⟨a, fV.slot⟩] ∧ B₁.cells = A₁.cells + 1 ∧ B₁.slots = A₁.slots + A.slots.size) :=
  (law l a D fV fC b A z).pays htab hfr (by omega)
end New1
end StrChars
namespace StrChars.Road
open Jvm Sem ClassFile Op Lib Jvm.Stand Jvm.Free Jvm.Free.XT
open Jvm.Lib.Cold (StaticIs)
abbrev ST : String := "java/lang/String"
/-- every table word that New1's law asks, flat -/
abbrev words : List Jvm.Cond := [.code New1.yN New1.yB 2 none, .initialized ST, .methodLink ST 27 New4.yN, .instanceMethod New4.yN,
  .code New4.yN New4.yB 6 none, .fieldLink ST 38 ST "COMPACT_STRINGS" "Z", .laysFinal ST ST "value" "[B", .fieldLink ST 9 ST "value" "[B", .laysFinal ST ST "coder" "B", .fieldLink ST 15 ST "coder" "B",
  .methodLink ST 1 Lib.objectInit, .instanceMethod Lib.objectInit, .code Lib.objectInit ⟨#[0xb1]⟩ 1 none, .methodLink ST 177 Cmp3.yN, .static Cmp3.yN, .methodLink ST 47 CodL.yN, .static CodL.yN,
  .code Cmp3.yN Cmp3.yB 6 (some (.array .byte)), .initialized U16, .arrayClass .byte, .methodLink U16 115 Cmp5.yN, .static Cmp5.yN, .code Cmp5.yN Cmp5.yB 7 (some .int), .code CodL.yN CodL.yB 2 (some .byte)]
theorem tab_of {a : Array Value} {s : State} (h : ∀ w ∈ words, w.before a s = true) : New1.tab.before a s = true := by
  have h5 : Cmp5.tab.before a s = true := unparts (wk h (.code Cmp5.yN Cmp5.yB 7 (some .int))) (wks h (.initialized Cmp5.yN.cls :: Cmp5.site))
  have hc : CodL.tab.before a s = true := unparts (wk h (.code CodL.yN CodL.yB 2 (some .byte))) (wks h (.initialized CodL.yN.cls :: CodL.site))
  have q5 : ∀ w ∈ Cmp5.tab :: words, w.before a s = true := fun w hw => (List.mem_cons.mp hw).elim (fun e => e ▸ h5) (h w)
  have h3 : Cmp3.tab.before a s = true := unparts (wk q5 (.code Cmp3.yN Cmp3.yB 6 (some (.array .byte)))) (wks q5 (.initialized Cmp3.yN.cls :: Cmp3.site))
  have q3 : ∀ w ∈ Cmp3.tab :: CodL.tab :: words, w.before a s = true := fun w hw => (List.mem_cons.mp hw).elim (fun e => e ▸ h3) fun hw => (List.mem_cons.mp hw).elim (fun e => e ▸ hc) (h w)
  have h4 : New4.tab.before a s = true := unparts (wk q3 (.code New4.yN New4.yB 6 none)) (wks q3 (.initialized New4.yN.cls :: New4.site))
  have q4 : ∀ w ∈ New4.tab :: words, w.before a s = true := fun w hw => (List.mem_cons.mp hw).elim (fun e => e ▸ h4) (h w)
  exact unparts (wk q4 (.code New1.yN New1.yB 2 none)) (wks q4 (.initialized New1.yN.cls :: New1.site))
/-- the words ride from the start Z to the walk's own state -/
theorem moved {Z s : State} {a0 args : Array Value} (hZ : Z.Warmed39 s.vm) (hw : ∀ d ∈ words, d.before a0 Z = true) : ∀ d ∈ words, d.before args s = true := fun d hd => by
  have q := hw d hd
  have t : ∀ d ∈ words, d = .arrayClass .byte ∨ (d.onTables && d.keepsFace) = true := by decide +kernel
  rcases t d hd with rfl | t
  · exact RoadKit.mvA hZ q
  · exact RoadKit.mv hZ q t
/-- WHAT COMES BACK, over the tables of the start Z: h the heap at the call, h' behind it -/
def Q (Z : State) (x : Addr) (A : Cell) (h : Heap) (v : Option Value) (h' : Heap) (L : List Loc) : Prop := v = none ∧ (∀ y ∈ L, y.base = x) ∧ RoadKit.Keep h h' [x] ∧ h'.size = h.size + 1 ∧ RoadKit.Exa Z h' x ST ∧ RoadKit.Fld Z h' x ST "value" "[B" (.ref h.size) ∧ RoadKit.Fld Z h' x ST "coder" "B" (.int 0) ∧
  (∃ V : Cell, RoadKit.Arr Z h' h.size V .byte ∧ V.vm = .none ∧ Z.vm.findClass "[B" = some V.cls ∧ V.slots.size = A.slots.size ∧ ∀ j, j < A.slots.size → V.slots[j]? = some (.int (lo8 (cv A j)))) ∧
  ∀ (O n d : String) (w : Value), RoadKit.Fld Z h x O n d w → RoadKit.slotOf Z O n d ≠ RoadKit.slotOf Z ST "value" "[B" → RoadKit.slotOf Z O n d ≠ RoadKit.slotOf Z ST "coder" "B" → RoadKit.Fld Z h' x O n d w
/-- **new String(chars) AT A CALL, IN THE ROAD'S FORM**: for specialBack behind newO: x the fresh String, b the char[] with the cell A -/
theorem back {p : Program} {l : Launch} {e : Env} {R : Room} {s : State} {args : Array Value} {below : List Frame} {len W : Nat} {Z : State} {a0 : Array Value} {h : Heap} (hZ : Z.Warmed39 s.vm) (hw : ∀ d ∈ words, d.before a0 Z = true) {kI : Nat} (wi : (Jvm.Cond.instantiable ST kI).before a0 Z = true)
    {x b : Addr} {A : Cell} {z : Int32} {v0 c0 : Value} (E : RoadKit.Exa Z h x ST) (V : RoadKit.Fld Z h x ST "value" "[B" v0) (C : RoadKit.Fld Z h x ST "coder" "B" c0) (K : RoadKit.Arr Z h b A .char) (hty : Typed .char A) (S : RoadKit.Sta Z h ST "COMPACT_STRINGS" "Z" (.int z)) (hz : ¬ z = 0)
    (l0 : 0 < A.slots.size) (l2 : A.slots.size ≤ 536870912) (hp : ∀ i, i < A.slots.size → ¬ 255 < cv A i) (hfr : 4 ≤ R.frames) (hlo : W + 65 ≤ R.locals) :
    Back l R p e below s args New1.yN len W (fun P a => a = #[.ref x, .ref b] ∧ P.U.heap = h ∧ P.cells + 1 ≤ R.cells ∧ P.slots + A.slots.size ≤ R.slots)
      (fun P _ v B => ∃ L, Q Z x A h v B.U.heap L ∧ B.locs = P.locs ++ L ∧ B.cells = P.cells + 1 ∧ B.slots = P.slots + A.slots.size) := by
  intro m meth c P g ig mk a X hg hsize hdg hW hn hp'
  obtain ⟨rfl, rfl, r1, r2⟩ := hp'
  have al : Z.vm.Alike P.U.vm := hZ.alike.trans X.warmed.alike
  obtain ⟨D, cfV, kV, iV, fV, hD, gV, stV, knV, obV, asV, slV⟩ := id V
  obtain ⟨D', cfC, kC, iC, fC, hD', gC, stC, -, -, asC, slC⟩ := id C
  cases hD.symm.trans hD'
  obtain ⟨D2, kD, e1, e2, e3, e4, e5⟩ := id E
  cases hD.symm.trans e1
  obtain ⟨c2, k2, i1, i2, i3, -⟩ := Cond.instantiable_spec wi
  cases e2.symm.trans i1
  cases e3.symm.trans i2
  obtain ⟨kU, u1, u2⟩ := al.2.2 _ _ e3
  have hB : Blank ST x D P.U := ⟨hD, ⟨knV, fun q hq => by rw [hq] at obV; cases obV⟩, by rw [al.findClass]; exact e2, kU, u1, by rw [u2]; exact i3, by rw [u2]; exact e5 i3⟩
  have F1 : Found ST "value" "[B" fV P.U := ⟨SBG.found_only al ⟨cfV, kV, iV, gV⟩, stV⟩
  have F2 : Found ST "coder" "B" fC P.U := ⟨SBG.found_only al ⟨cfC, kC, iC, gC⟩, stC⟩
  have hA : Ch b A P.U := ⟨⟨K.1, State.isArrayOf_alike al K.2.1, K.2.2, by omega⟩, hty⟩
  have hS : StaticIs P.U ST "COMPACT_STRINGS" "Z" (.int z) := by
    obtain ⟨cfS, iS, kS, fS, st, cS, t1, t2, t3, t4, t5, t6, t7⟩ := S
    exact StaticIs.there (s := { Z with heap := P.U.heap }) ⟨cfS, iS, kS, fS, st, cS, t1, t2, t3, t4, t5, (fun q => by rw [q] at t6; cases t6), t7⟩ al rfl
  obtain ⟨v, B, X', ⟨⟨hv, E', V', q1, q2, q3, q4, q5, q6, q7, q8, q9, q10, q11⟩, hl, hc, hs⟩, st⟩ := New1.pays x D fV fC b A z (tab_of (moved hZ hw)) hfr hlo m meth c P g ig mk _ X hg hsize hdg hW hn ⟨r1, r2, rfl, hB, F1, F2, hA, hS, hz, l0, l2, hp⟩
  have al' : Z.vm.Alike B.U.vm := hZ.alike.trans X'.warmed.alike
  have hsz : E'.slots.size = D.slots.size := by
    obtain ⟨-, -, -, kB, w1, w2, w3⟩ := q1
    obtain ⟨kB', y1, y2⟩ := al'.2.2 _ _ e3
    rw [q2.2.1] at w1
    cases w1.symm.trans y1
    rw [w3, e5 i3, y2]
  refine ⟨v, B, X', ⟨_, ⟨hv, ?_, ⟨by omega, fun y cy hy hn' => q10 y cy (by simpa using hn') hy, fun y cy hy => ?_⟩, q11, ⟨E', _, q1.1, by rw [q2.2.1]; exact e2, by rw [q2.2.1]; exact e3, by rw [q2.1]; exact obV, fun _ => by rw [hsz]; exact e5 i3⟩,
    ⟨E', cfV, kV, iV, fV, q1.1, gV, stV, by rw [q2.1]; exact knV, by rw [q2.1]; exact obV, by rw [q2.2.1]; exact asV, q3⟩, ⟨E', cfC, kC, iC, fC, q1.1, gC, stC, by rw [q2.1]; exact knV, by rw [q2.1]; exact obV, by rw [q2.2.1]; exact asC, q4⟩,
    ⟨V', ⟨q5.1, State.isArrayOf_alike al'.symm q5.2.1, q5.2.2.1⟩, q6, by rw [← al'.findClass]; exact q7, q8, fun j hj => by have := q9 j hj; rwa [Nat.zero_add] at this⟩, fun O n d w F n1 n2 => ?_⟩, hl, hc, hs⟩, st⟩
  · intro y hy
    simp only [List.mem_cons, List.not_mem_nil, or_false] at hy
    rcases hy with rfl | rfl <;> rfl
  · by_cases q : y = x
    · subst q
      cases hD.symm.trans hy
      exact ⟨E', q1.1, q2.2.1, q2.1, hsz⟩
    · exact ⟨cy, q10 y cy q hy, rfl, rfl, rfl⟩
  · obtain ⟨D3, cf, k, i, f, g1, g2, g3, g4, g5, g6, g7⟩ := F
    cases hD.symm.trans g1
    simp only [RoadKit.slotOf, g2, gV, gC, Option.map_some, Option.getD_some] at n1 n2
    exact ⟨E', cf, k, i, f, q1.1, g2, g3, by rw [q2.1]; exact g4, by rw [q2.1]; exact g5, by rw [q2.2.1]; exact g6, by rw [q2.2.2 f.slot (by simp [n1, n2])]; exact g7⟩
end StrChars.Road
namespace StrChars.Road
open Jvm Sem ClassFile Op Lib Jvm.Stand Jvm.Free Jvm.Free.XT
/-- WHAT COMES BACK, the byte[] as a list of values -/
def QA (Z : State) (x : Addr) (zn : Int32) (cs : List Int32) (h : Heap) (v : Option Value) (h' : Heap) (L : List Loc) : Prop := v = none ∧ (∀ y ∈ L, y.base = x) ∧ RoadKit.Keep h h' [x] ∧ h'.size = h.size + 1 ∧ RoadKit.Exa Z h' x ST ∧ RoadKit.Fld Z h' x ST "value" "[B" (.ref h.size) ∧ RoadKit.Fld Z h' x ST "coder" "B" (.int 0) ∧
  (∃ kb, Z.vm.findClass "[B" = some kb ∧ RoadKit.Arv Z h' h.size kb .byte zn (cs.map fun c => .int (lo8 c)) (.int 0)) ∧
  ∀ (O n d : String) (w : Value), RoadKit.Fld Z h x O n d w → RoadKit.slotOf Z O n d ≠ RoadKit.slotOf Z ST "value" "[B" → RoadKit.slotOf Z O n d ≠ RoadKit.slotOf Z ST "coder" "B" → RoadKit.Fld Z h' x O n d w
/-- **new String(chars) AT A CALL, THE ARRAYS AS LISTS**: the char[] at b holds cs, not empty, no char above 255 -/
theorem backArv {p : Program} {l : Launch} {e : Env} {R : Room} {s : State} {args : Array Value} {below : List Frame} {len W : Nat} {Z : State} {a0 : Array Value} {h : Heap} (hZ : Z.Warmed39 s.vm) (hw : ∀ d ∈ words, d.before a0 Z = true) {kI : Nat} (wi : (Jvm.Cond.instantiable ST kI).before a0 Z = true)
    {x b : Addr} {k : ClassId} {zn z : Int32} {cs : List Int32} {dv v0 c0 : Value} (E : RoadKit.Exa Z h x ST) (V : RoadKit.Fld Z h x ST "value" "[B" v0) (C : RoadKit.Fld Z h x ST "coder" "B" c0) (K : RoadKit.Arv Z h b k .char zn (cs.map Value.int) dv) (S : RoadKit.Sta Z h ST "COMPACT_STRINGS" "Z" (.int z)) (hz : ¬ z = 0)
    (hlen : zn.toNatClampNeg = cs.length) (h0 : 0 < cs.length) (hbig : cs.length ≤ 536870912) (hall : ∀ c ∈ cs, ¬ 255 < c) (hfr : 4 ≤ R.frames) (hlo : W + 65 ≤ R.locals) :
    Back l R p e below s args New1.yN len W (fun P a => a = #[.ref x, .ref b] ∧ P.U.heap = h ∧ P.cells + 1 ≤ R.cells ∧ P.slots + cs.length ≤ R.slots)
      (fun P _ v B => ∃ L, QA Z x zn cs h v B.U.heap L ∧ B.locs = P.locs ++ L ∧ B.cells = P.cells + 1 ∧ B.slots = P.slots + cs.length) := by
  obtain ⟨A, K1, K2, K3, K4, K5, K6⟩ := K
  have e : A.slots.size = cs.length := K3.trans hlen
  have hat : ∀ (i : Nat) (hi : i < cs.length), A.slots[i]? = some (.int cs[i]) := fun i hi => by rw [K5 i (by omega)]; simp [List.getD_eq_getElem?_getD, hi]
  have hcv : ∀ (i : Nat) (hi : i < cs.length), cv A i = cs[i] := fun i hi => by unfold cv; rw [hat i hi]
  have hty : Typed .char A := fun i v hv => by
    have hi : i < A.slots.size := (Array.getElem?_eq_some_iff.mp hv).1
    have q := K5 i hi
    rw [hv] at q
    rw [Option.some.inj q]
    exact K6 i hi
  refine Back.mono (back hZ hw wi E V C K1 hty S hz (by omega) (by omega) (fun i hi => by rw [hcv i (by omega)]; exact hall _ (List.getElem_mem _)) hfr hlo) (fun P a hp => ⟨hp.1, hp.2.1, hp.2.2.1, by rw [e]; exact hp.2.2.2⟩) (fun P a v B hp hq => ?_)
  obtain ⟨L, ⟨q1, q2, q3, q4, q5, q6, q7, ⟨V', v1, v2, v3, v4, v5⟩, q9⟩, hl, hc, hs⟩ := hq
  refine ⟨L, ⟨q1, q2, q3, q4, q5, q6, q7, ⟨V'.cls, v3, V', v1, rfl, by rw [v4, e, hlen], K4, fun i hi => ?_, fun i hi => ?_⟩, q9⟩, hl, hc, by rw [hs, e]⟩
  · have hi' : i < cs.length := by omega
    rw [v5 i (by omega), hcv i hi']; simp [List.getD_eq_getElem?_getD, hi']
  · have hi' : i < cs.length := by omega
    simp only [List.getD_eq_getElem?_getD, List.getElem?_map, List.getElem?_eq_getElem hi', Option.map_some, Option.getD_some]
    exact fits_lo8 _
end StrChars.Road
namespace StrChars.Road
open Jvm Sem ClassFile Op Lib Jvm.Stand Jvm.Free Jvm.Free.XT
/-- WHAT COMES BACK, in the writer's own shape -/
def QV (Z : State) (x : Addr) (N : Int32) (bs : List Int32) (h : Heap) (n0 : Nat) (v : Option Value) (h' : Heap) (L : List Loc) : Prop := v = none ∧ RoadKit.Fr n0 L ∧ RoadKit.Keep h h' [x] ∧ RoadKit.Exa Z h' x ST ∧ RoadKit.Fld Z h' x ST "coder" "B" (.int 0) ∧
  ∃ (t : Addr) (kb : ClassId), n0 ≤ t ∧ h.size ≤ t ∧ ¬ t = x ∧ RoadKit.Fld Z h' x ST "value" "[B" (.ref t) ∧ RoadKit.Arv Z h' t kb .byte N (bs.map Value.int) (.int 0)
/-- **new String(chars) AT A CALL, FOR THE WRITER**: a char[] of n known ints, each 0 to 255 -/
theorem backV {p : Program} {l : Launch} {e : Env} {R : Room} {s : State} {args : Array Value} {below : List Frame} {len W : Nat} {Z : State} {a0 : Array Value} {h : Heap} (hZ : Z.Warmed39 s.vm) (hw : ∀ d ∈ words, d.before a0 Z = true) {kI : Nat} (wi : (Jvm.Cond.instantiable ST kI).before a0 Z = true)
    {x b : Addr} {kC : ClassId} {cs bs : List Int32} {d v0 c0 : Value} {z N : Int32} {n n0 : Nat} (hx0 : n0 ≤ x) (hh0 : n0 ≤ h.size) (E : RoadKit.Exa Z h x ST) (V : RoadKit.Fld Z h x ST "value" "[B" v0) (C : RoadKit.Fld Z h x ST "coder" "B" c0) (K : RoadKit.Arv Z h b kC .char N (cs.map Value.int) d) (S : RoadKit.Sta Z h ST "COMPACT_STRINGS" "Z" (.int z)) (hz : ¬ z = 0)
    (hn : cs.length = n) (hN : N = Int32.ofNat n) (l0 : 0 < n) (l2 : n ≤ 4000) (hp : ∀ c ∈ cs, ¬ c < 0 ∧ ¬ (255 : Int32) < c) (hb : bs = cs.map (fun c => c.toInt8.toInt32)) (hfr : 4 ≤ R.frames) (hlo : W + 65 ≤ R.locals) :
    Back l R p e below s args (⟨"java/lang/String", "<init>", "([C)V"⟩ : MethodName) len W (fun P a => a = #[.ref x, .ref b] ∧ P.U.heap = h ∧ P.cells + 1 ≤ R.cells ∧ P.slots + n ≤ R.slots)
      (fun P _ v B => ∃ L, QV Z x N bs h n0 v B.U.heap L ∧ B.locs = P.locs ++ L ∧ B.cells = P.cells + 1 ∧ B.slots = P.slots + n) := by
  subst hn hN hb
  refine Back.mono (backArv hZ hw wi E V C K S hz (n32 (by omega)) l0 (by omega) (fun c hc => (hp c hc).2) hfr hlo) (fun P a hp => hp) (fun P a v B hp hq => ?_)
  obtain ⟨L, ⟨q1, q2, q3, q4, q5, q6, q7, ⟨kb, v1, v2⟩, q9⟩, hl, hc, hs⟩ := hq
  exact ⟨L, ⟨q1, fun y hy => by rw [q2 y hy]; exact hx0, q3, q5, q7, h.size, kb, hh0, Nat.le_refl _, Nat.ne_of_gt E.lt, q6, by rw [List.map_map]; exact v2⟩, hl, hc, hs⟩
end StrChars.Road
end Jvm.Pilot.@@N@@
namespace Jvm.Pilot.@@N@@
open Jvm Jvm.ClassFile Sem Op Lib Jvm.Free Jvm.Stand Jvm.LawKit Jvm.RoadKit Bundle Jvm.Pilot.@@N@@.Jvm.D
theorem wk {Z : State} {a0 : Array Value} (hw : ∀ d ∈ tables_1, d.before a0 Z = true) (i : Nat) {d : Jvm.Cond} (h : tables_1[i]? = some d) : d.before a0 Z = true := hw d (List.mem_of_getElem? h)
theorem nle {a b : Nat} (h : Nat.ble a b = true) : a ≤ b := Nat.le_of_ble_eq_true h
def QV (r : Option Value) (h0 : Heap) (n0 : Nat) (v : Option Value) (h : Heap) (L : List Loc) : Prop := v = r ∧ Fr n0 L ∧ h = h0
theorem own_ins {Z : State} {h h' : Heap} {a : Addr} {C : String} {ws : List Addr} (I : Ins Z h a C true) (K : Keep h h' ws) : Ins Z h' a C true := by
  obtain ⟨cell, cT, h1, h2, h3⟩ := I
  obtain ⟨c', q1, q2, q3, -⟩ := K.2.2 _ _ h1
  exact ⟨c', cT, q1, h2, by rw [q2, q3]; exact h3⟩
theorem own_ne_al {Z : State} {h : Heap} {a b : Addr} {c : Cell} {ty : FieldType} {C : String} {a0 : Array Value} {k : Nat} (G : Arr Z h b c ty) (F : Exa Z h a C) (wi : (Jvm.Cond.instantiable C k).before a0 Z = true) : b ≠ a := fun e => ne_arr F wi G e.symm
theorem own_sta {Z : State} {h h' : Heap} {C n dd : String} {v : Value} (F : Sta Z h C n dd v) (K : Keep h h' []) : Sta Z h' C n dd v := by
  obtain ⟨cf, i, k, f, st, cell, h1, h2, h3, h4, h5, r⟩ := F
  exact ⟨cf, i, k, f, st, cell, h1, h2, h3, h4, K.2.1 _ _ h5 (by simp), r⟩
theorem own_mS {α : Type} {P : α → Prop} {a : α} {ws : List α} (p : P a) (r : ∀ x ∈ ws, P x) : ∀ x ∈ a :: ws, P x := fun x h => by
  rcases List.mem_cons.mp h with rfl | h
  · exact p
  · exact r x h
theorem own_m0 {α : Type} {P : α → Prop} : ∀ x ∈ ([] : List α), P x := fun x h => nomatch h
theorem own_nm {a b : Addr} {ws : List Addr} (p : a ≠ b) (r : a ∉ ws) : a ∉ b :: ws := fun h => by
  rcases List.mem_cons.mp h with h | h
  · exact p h
  · exact r h
theorem own_n0 {a : Addr} : a ∉ ([] : List Addr) := fun h => nomatch h
theorem own_staK {Z : State} {h h' : Heap} {C n dd : String} {v : Value} {ws : List Addr} (F : Sta Z h C n dd v) (K : Keep h h' ws) (q : ∀ x ∈ ws, ∀ cell : Cell, h[x]? = some cell → cell.vm.isStatics = false) : Sta Z h' C n dd v := by
  obtain ⟨cf, i, k, f, st, cell, h1, h2, h3, h4, h5, h6, r⟩ := F
  exact ⟨cf, i, k, f, st, cell, h1, h2, h3, h4, K.2.1 _ _ h5 (fun hm => by rw [q _ hm _ h5] at h6; cases h6), h6, r⟩
theorem own_decl {args : Array Value} {s : State} {y : MethodName} {bytes : ByteArray} {maxL : Nat} {ret : Option FieldType} (h1 : (Jvm.Cond.instanceMethod y).before args s = true) (h2 : (Jvm.Cond.code y bytes maxL ret).before args s = true) : (Jvm.Cond.declares y).before args s = true := by
  obtain ⟨m, meth, q1, q2, q3, -⟩ := Cond.instanceMethod_spec h1
  obtain ⟨m2, c, r1, -, -, -, -, -, -, hs⟩ := Cond.code_spec q1 h2
  cases q2.symm.trans r1
  simp [Cond.before, Cond.holds, Cond.value, q1, q2, q3, hs]
theorem own_nf {args : Array Value} {s : State} {y y' : MethodName} (h1 : (Jvm.Cond.instanceMethod y).before args s = true) (nf : NotFace s y) (hc : y'.cls = y.cls) : NotFace s y' := fun r0 h0 => by
  obtain ⟨m, meth, q1, -⟩ := Cond.instanceMethod_spec h1
  obtain ⟨k, hk, hi⟩ := nf m q1
  have e1 := findClass_of_methodNamed q1
  have e2 := findClass_of_methodNamed h0
  rw [hc, e1] at e2
  exact ⟨k, by rw [← Option.some.inj e2]; exact hk, hi⟩
theorem own_same {args : Array Value} {s : State} {y : MethodName} (h1 : (Jvm.Cond.instanceMethod y).before args s = true) (nf : NotFace s y) (hy : y.cls ≠ "java/lang/invoke/MethodHandle" ∧ y.cls ≠ "java/lang/invoke/VarHandle") : (Jvm.Cond.sameMethod y.cls y.cls y.name y.desc).before args s = true := by
  obtain ⟨m, meth, q1, -⟩ := Cond.instanceMethod_spec h1
  obtain ⟨k, hk, hi⟩ := nf m q1
  have e1 := findClass_of_methodNamed q1
  have e3 := State.methodFound?_of_named q1 hy
  have q1' : s.methodNamed? ⟨y.cls, y.name, y.desc⟩ = some m := q1
  simp [Cond.before, Cond.holds, Cond.value, e1, e3, q1', hk, hi]
theorem own_tyne {Z : State} {h : Heap} {a b : Addr} {k k' : ClassId} {ty ty' : FieldType} {z z' : Int32} {vs vs' : List Value} {dv dv' : Value} (F : Arv Z h a k ty z vs dv) (G : Arv Z h b k' ty' z' vs' dv') (n : ty ≠ ty') : a ≠ b := by
  rintro rfl
  obtain ⟨c, A, -⟩ := F
  obtain ⟨c', A', -⟩ := G
  have e := Option.some.inj (A.1.symm.trans A'.1)
  subst e
  obtain ⟨-, k1, h1, u1, h2⟩ := A.2.1
  obtain ⟨-, k2, h3, u2, h4⟩ := A'.2.1
  have e2 := Option.some.inj (h1.symm.trans h3)
  subst e2
  rw [h2] at h4
  injection h4 with _ q
  exact n q
theorem own_catv {v : Value} (h : v.isRef = true) : v.category = 1 := by cases v <;> first | rfl | cases h
theorem own_narO {v : Value} {c : String} (h : v.isRef = true) : narrow (.object c) v = v := by cases v <;> first | rfl | cases h
theorem own_fitO {v : Value} {c : String} (h : v.isRef = true) : fits (.object c) v = true := by cases v <;> first | rfl | cases h
theorem own_retN {p : Program} {l : Launch} {e : Env} {R : Room} {s : State} {m : MethodId} {args : Array Value} {below : List Frame} {meth : Method} {c : Code} {T : State} {locs : List Loc} {cells slots : Nat} (X : Stand p l e R s m args below meth c T locs cells slots) (hx : p.tables.exec = Jvm.exec) {pc : Nat} {Ls : Array Slot} {z z' : Int32} {t : FieldType} {rest : List Value} (hz : nar t z = z') (hret : meth.sig.returnType = some t) (ht : t = .boolean ∨ t = .byte ∨ t = .char ∨ t = .short)
    (hd : decode c.code pc = .ok (.ireturn, 1)) {fs : List Frame} (hl : ∀ (f : JFrame) (acts : List Action), f.method = m → f.locked = none → f.entered = [] → (doReturn e (T.setTop f) acts (some (.int z'))).1 = T.setFrames fs) :
    Steps p.tables e below (T.setTop (mkF m pc Ls (.int z :: rest))) (T.setFrames fs) := by
  subst hz; exact retN X hx hret ht hd hl
def own_cv (x : Int32) : Int32 := (x &&& (255 : Int32)).toUInt32.toUInt16.toUInt32.toInt32
theorem own_cv_nar (x : Int32) : nar .char (own_cv x) = own_cv x := by
  have t : ∀ k : Fin 256, nar .char ((Int32.ofNat k.val).toUInt32.toUInt16.toUInt32.toInt32) = (Int32.ofNat k.val).toUInt32.toUInt16.toUInt32.toInt32 := by decide +kernel
  have h : (x &&& 255).toBitVec.toNat < 256 := by
    simp only [Int32.toBitVec_and, BitVec.toNat_and]
    exact Nat.lt_succ_of_le Nat.and_le_right
  have e : (x &&& 255) = Int32.ofNat (x &&& 255).toBitVec.toNat := by
    apply Int32.toBitVec_inj.mp
    show _ = BitVec.ofNat 32 _
    rw [BitVec.ofNat_toNat]; simp
  unfold own_cv
  rw [e]
  exact t ⟨_, h⟩
theorem b255 : ∀ i : Fin 32, (255#32).getLsbD i.val = decide (i.val < 8) := by decide
theorem own_se (x : BitVec 32) : BitVec.signExtend 32 (BitVec.signExtend 8 x) &&& 255#32 = x &&& 255#32 := by
  apply BitVec.eq_of_getLsbD_eq
  intro i hi
  rw [BitVec.getLsbD_and, BitVec.getLsbD_and, b255 ⟨i, hi⟩]
  by_cases h8 : i < 8
  · simp only [BitVec.getLsbD_signExtend, h8, hi]
    simp
  · simp [h8]
theorem own_hi (b : BitVec 32) (h : b.toNat < 65536) (j : Nat) (hj : 16 ≤ j) : b.getLsbD j = false := by
  rw [BitVec.getLsbD]
  exact Nat.testBit_lt_two_pow (Nat.lt_of_lt_of_le h (Nat.le_trans (by decide : 65536 ≤ 2 ^ 16) (Nat.pow_le_pow_right (by decide) hj)))
theorem own_bits (b : BitVec 32) (h : b.toNat < 65536) : (b &&& 255#32) ||| ((b.sshiftRight 8 &&& 255#32) <<< 8) = b := by
  apply BitVec.eq_of_getLsbD_eq
  intro i hi
  rw [BitVec.getLsbD_or, BitVec.getLsbD_and, BitVec.getLsbD_shiftLeft, BitVec.getLsbD_and, b255 ⟨i, hi⟩]
  by_cases h8 : i < 8
  · simp [h8]
  · have hi8 : i - 8 < 32 := by omega
    rw [b255 ⟨i - 8, hi8⟩]
    by_cases h16 : i < 16
    · have : i - 8 < 8 := by omega
      have e : 8 + (i - 8) = i := by omega
      simp [h8, hi, this, BitVec.getLsbD_sshiftRight, e]
      omega
    · have : ¬ (i - 8 < 8) := by omega
      simp [h8, this, own_hi b h i (by omega)]
theorem own_utf (c : Int32) (h : c.toBitVec.toNat < 65536) : (((c >>> ((0 : Int32) &&& 31)).toInt8.toInt32 &&& (255 : Int32)) <<< ((0 : Int32) &&& 31)) ||| (((c >>> ((8 : Int32) &&& 31)).toInt8.toInt32 &&& (255 : Int32)) <<< ((8 : Int32) &&& 31)) = c := by
  have e0 : (0 : Int32) &&& 31 = 0 := by decide
  have e8 : (8 : Int32) &&& 31 = 8 := by decide
  rw [e0, e8]
  apply Int32.toBitVec_inj.mp
  generalize hb : c.toBitVec = b at h
  simp [hb]
  rw [own_se, own_se]
  exact own_bits b h
def own_b0 (c : Int32) : Int32 := nar .byte ((c >>> ((0 : Int32) &&& 31)).toInt8.toInt32)
def own_b1 (c : Int32) : Int32 := nar .byte ((c >>> ((8 : Int32) &&& 31)).toInt8.toInt32)
def own_u (x0 x1 : Int32) : Int32 := (((x0 &&& (255 : Int32)) <<< ((0 : Int32) &&& 31)) ||| ((x1 &&& (255 : Int32)) <<< ((8 : Int32) &&& 31))).toUInt32.toUInt16.toUInt32.toInt32
theorem own_u_nar (x0 x1 : Int32) : nar .char (own_u x0 x1) = own_u x0 x1 := by
  show (own_u x0 x1).toUInt32.toUInt16.toUInt32.toInt32 = own_u x0 x1
  unfold own_u
  rw [UInt32.toUInt32_toInt32, UInt16.toUInt16_toUInt32]
theorem own_i2c_nar (y : Int32) : nar .char (y.toUInt32.toUInt16.toUInt32.toInt32) = y.toUInt32.toUInt16.toUInt32.toInt32 := by
  show (y.toUInt32.toUInt16.toUInt32.toInt32).toUInt32.toUInt16.toUInt32.toInt32 = _
  rw [UInt32.toUInt32_toInt32, UInt16.toUInt16_toUInt32]
def own_is (c : Int32) : Prop := c.toBitVec.toNat < 65536
theorem own_is_i2c (y : Int32) : own_is (y.toUInt32.toUInt16.toUInt32.toInt32) := by
  show y.toUInt32.toUInt16.toNat < 65536
  exact UInt16.toNat_lt _
theorem own_ci (c : Int32) (h : own_is c) : c.toUInt32.toUInt16.toUInt32.toInt32 = c := by
  have h : c.toBitVec.toNat < 65536 := h
  apply Int32.toBitVec_inj.mp
  show ((c.toBitVec.setWidth 16).setWidth 32) = c.toBitVec
  apply BitVec.eq_of_toNat_eq
  simp
  omega
theorem own_i8 (y : Int32) : (y.toInt8.toInt32).toInt8.toInt32 = y.toInt8.toInt32 := by simp
theorem own_ub (c : Int32) (h : own_is c) : own_u (own_b0 c) (own_b1 c) = c := by
  have e : own_u (own_b0 c) (own_b1 c) = ((((c >>> ((0 : Int32) &&& 31)).toInt8.toInt32 &&& (255 : Int32)) <<< ((0 : Int32) &&& 31)) ||| (((c >>> ((8 : Int32) &&& 31)).toInt8.toInt32 &&& (255 : Int32)) <<< ((8 : Int32) &&& 31))).toUInt32.toUInt16.toUInt32.toInt32 := by
    unfold own_u own_b0 own_b1
    show (((((c >>> ((0 : Int32) &&& 31)).toInt8.toInt32).toInt8.toInt32 &&& (255 : Int32)) <<< ((0 : Int32) &&& 31)) ||| ((((c >>> ((8 : Int32) &&& 31)).toInt8.toInt32).toInt8.toInt32 &&& (255 : Int32)) <<< ((8 : Int32) &&& 31))).toUInt32.toUInt16.toUInt32.toInt32 = _
    rw [own_i8, own_i8]
  rw [e, own_utf c h]
  exact own_ci c h
theorem own_cvl (c : Int32) (h : own_is c) (g : ¬ (255 : Int32) < c) : own_cv c.toInt8.toInt32 = c := by
  have h : c.toBitVec.toNat < 65536 := h
  have t : ∀ k : Fin 256, own_cv (Int32.ofNat k.val).toInt8.toInt32 = Int32.ofNat k.val := by decide +kernel
  have e : c = Int32.ofNat c.toBitVec.toNat := by
    apply Int32.toBitVec_inj.mp
    show _ = BitVec.ofNat 32 _
    rw [BitVec.ofNat_toNat]; simp
  have l : c.toBitVec.toNat < 256 := by
    rw [Int32.lt_iff_toInt_lt] at g
    have q : c.toInt = (c.toBitVec.toNat : Int) := by
      show c.toBitVec.toInt = _
      rw [BitVec.toInt_eq_toNat_of_lt (by omega)]
    rw [q, show (255 : Int32).toInt = 255 from by decide] at g
    omega
  rw [e]; exact t ⟨_, l⟩
theorem own_nneg (c : Int32) (h : own_is c) : ¬ c < 0 := by
  have h : c.toBitVec.toNat < 65536 := h
  rw [Int32.lt_iff_toInt_lt]
  have q : c.toInt = (c.toBitVec.toNat : Int) := by
    show c.toBitVec.toInt = _
    rw [BitVec.toInt_eq_toNat_of_lt (by omega)]
  rw [q, show (0 : Int32).toInt = 0 from by decide]
  omega
theorem own_five (n : Int32) : (n &&& (2147483647 : Int32)) % (5 : Int32) = 0 ∨ (n &&& (2147483647 : Int32)) % (5 : Int32) = 1 ∨ (n &&& (2147483647 : Int32)) % (5 : Int32) = 2 ∨ (n &&& (2147483647 : Int32)) % (5 : Int32) = 3 ∨ (n &&& (2147483647 : Int32)) % (5 : Int32) = 4 := by
  have h : 0 ≤ (n &&& (2147483647 : Int32)).toInt := by
    have : (n &&& (2147483647 : Int32)).toBitVec.toNat < 2147483648 := by
      simp only [Int32.toBitVec_and, BitVec.toNat_and]
      exact Nat.lt_succ_of_le Nat.and_le_right
    show 0 ≤ (n &&& (2147483647 : Int32)).toBitVec.toInt
    rw [BitVec.toInt_eq_toNat_of_lt (by omega)]; omega
  generalize n &&& (2147483647 : Int32) = y at h
  simp only [← Int32.toInt_inj, Int32.toInt_mod, show (0:Int32).toInt = 0 from by decide, show (1:Int32).toInt = 1 from by decide, show (2:Int32).toInt = 2 from by decide, show (3:Int32).toInt = 3 from by decide, show (4:Int32).toInt = 4 from by decide, show (5:Int32).toInt = 5 from by decide]
  rw [Int.tmod_eq_emod_of_nonneg h]
  omega
theorem own_lt4 (j : Int32) (h : ¬ j < 0) (k : j < 4) : j = 0 ∨ j = 1 ∨ j = 2 ∨ j = 3 := by
  simp only [Int32.lt_iff_toInt_lt, ← Int32.toInt_inj, show (0:Int32).toInt = 0 from by decide, show (1:Int32).toInt = 1 from by decide, show (2:Int32).toInt = 2 from by decide, show (3:Int32).toInt = 3 from by decide, show (4:Int32).toInt = 4 from by decide] at *
  omega
theorem own_lt3 (j : Int32) (h : ¬ j < 0) (k : j < 3) : j = 0 ∨ j = 1 ∨ j = 2 := by
  simp only [Int32.lt_iff_toInt_lt, ← Int32.toInt_inj, show (0:Int32).toInt = 0 from by decide, show (1:Int32).toInt = 1 from by decide, show (2:Int32).toInt = 2 from by decide, show (3:Int32).toInt = 3 from by decide] at *
  omega
theorem own_lt2 (j : Int32) (h : ¬ j < 0) (k : j < 2) : j = 0 ∨ j = 1 := by
  simp only [Int32.lt_iff_toInt_lt, ← Int32.toInt_inj, show (0:Int32).toInt = 0 from by decide, show (1:Int32).toInt = 1 from by decide, show (2:Int32).toInt = 2 from by decide] at *
  omega
theorem own_lt1 (j : Int32) (h : ¬ j < 0) (k : j < 1) : j = 0 := by
  simp only [Int32.lt_iff_toInt_lt, ← Int32.toInt_inj, show (0:Int32).toInt = 0 from by decide, show (1:Int32).toInt = 1 from by decide] at *
  omega
theorem own_lt0 (j : Int32) (h : ¬ j < 0) (k : j < 0) : False := h k
def own_p (x : Int32) : Prop := (¬ x < 45 ∧ ¬ 46 < x) ∨ (¬ x < 48 ∧ ¬ 57 < x) ∨ (¬ x < 65 ∧ ¬ 90 < x) ∨ x = 95 ∨ (¬ x < 97 ∧ ¬ 122 < x) ∨ x = 126
def own_r (x : Int32) : Int32 := if (¬ x < 45 ∧ ¬ 46 < x) ∨ (¬ x < 48 ∧ ¬ 57 < x) ∨ (¬ x < 65 ∧ ¬ 90 < x) ∨ x = 95 ∨ (¬ x < 97 ∧ ¬ 122 < x) ∨ x = 126 then 1 else 0
theorem own_ry {x : Int32} (h : own_p x) : own_r x = 1 := if_pos h
theorem own_rn {x : Int32} (h : ¬ own_p x) : own_r x = 0 := if_neg h
theorem own_r2 (x : Int32) : own_r x = 0 ∨ ¬ own_r x = 0 := by by_cases h : own_r x = 0; exact Or.inl h; exact Or.inr h
theorem own_np {x : Int32} (h1 : x < 65 ∨ 90 < x) (h2 : x < 97 ∨ 122 < x) (h3 : x < 48 ∨ 57 < x) (h4 : ¬ x = 45) (h5 : ¬ x = 46) (h6 : ¬ x = 95) (h7 : ¬ x = 126) : ¬ own_p x := by
  unfold own_p
  simp only [Int32.lt_iff_toInt_lt, ← Int32.toInt_inj, show (45:Int32).toInt = 45 from by decide, show (46:Int32).toInt = 46 from by decide, show (48:Int32).toInt = 48 from by decide, show (57:Int32).toInt = 57 from by decide, show (65:Int32).toInt = 65 from by decide, show (90:Int32).toInt = 90 from by decide, show (95:Int32).toInt = 95 from by decide, show (97:Int32).toInt = 97 from by decide, show (122:Int32).toInt = 122 from by decide, show (126:Int32).toInt = 126 from by decide] at *
  omega
theorem d11_0 : decode method_2_code 0 = .ok (.iload_n 0, 1) := by decide +kernel
theorem d11_1 : decode method_2_code 1 = .ok (.istore_n 1, 1) := by decide +kernel
theorem d11_66 : decode method_2_code 66 = .ok (.iload_n 1, 1) := by decide +kernel
theorem d11_67 : decode method_2_code 67 = .ok (.bipush 126, 2) := by decide +kernel
theorem d11_69 : decode method_2_code 69 = .ok (.if_icmp .ne 7, 3) := by decide +kernel
theorem d11_72 : decode method_2_code 72 = .ok (.iconst 1, 1) := by decide +kernel
theorem d11_73 : decode method_2_code 73 = .ok (.goto 4, 3) := by decide +kernel
theorem d11_77 : decode method_2_code 77 = .ok (.ireturn, 1) := by decide +kernel
theorem d11_76 : decode method_2_code 76 = .ok (.iconst 0, 1) := by decide +kernel
theorem d11_52 : decode method_2_code 52 = .ok (.iload_n 1, 1) := by decide +kernel
theorem d11_53 : decode method_2_code 53 = .ok (.bipush 97, 2) := by decide +kernel
theorem d11_55 : decode method_2_code 55 = .ok (.if_icmp .lt 11, 3) := by decide +kernel
theorem d11_58 : decode method_2_code 58 = .ok (.iload_n 1, 1) := by decide +kernel
theorem d11_59 : decode method_2_code 59 = .ok (.bipush 122, 2) := by decide +kernel
theorem d11_61 : decode method_2_code 61 = .ok (.if_icmp .gt 5, 3) := by decide +kernel
theorem d11_64 : decode method_2_code 64 = .ok (.iconst 1, 1) := by decide +kernel
theorem d11_65 : decode method_2_code 65 = .ok (.ireturn, 1) := by decide +kernel
theorem d11_44 : decode method_2_code 44 = .ok (.iload_n 1, 1) := by decide +kernel
theorem d11_45 : decode method_2_code 45 = .ok (.bipush 95, 2) := by decide +kernel
theorem d11_47 : decode method_2_code 47 = .ok (.if_icmp .ne 5, 3) := by decide +kernel
theorem d11_50 : decode method_2_code 50 = .ok (.iconst 1, 1) := by decide +kernel
theorem d11_51 : decode method_2_code 51 = .ok (.ireturn, 1) := by decide +kernel
theorem d11_30 : decode method_2_code 30 = .ok (.iload_n 1, 1) := by decide +kernel
theorem d11_31 : decode method_2_code 31 = .ok (.bipush 65, 2) := by decide +kernel
theorem d11_33 : decode method_2_code 33 = .ok (.if_icmp .lt 11, 3) := by decide +kernel
theorem d11_36 : decode method_2_code 36 = .ok (.iload_n 1, 1) := by decide +kernel
theorem d11_37 : decode method_2_code 37 = .ok (.bipush 90, 2) := by decide +kernel
theorem d11_39 : decode method_2_code 39 = .ok (.if_icmp .gt 5, 3) := by decide +kernel
theorem d11_42 : decode method_2_code 42 = .ok (.iconst 1, 1) := by decide +kernel
theorem d11_43 : decode method_2_code 43 = .ok (.ireturn, 1) := by decide +kernel
theorem d11_16 : decode method_2_code 16 = .ok (.iload_n 1, 1) := by decide +kernel
theorem d11_17 : decode method_2_code 17 = .ok (.bipush 48, 2) := by decide +kernel
theorem d11_19 : decode method_2_code 19 = .ok (.if_icmp .lt 11, 3) := by decide +kernel
theorem d11_22 : decode method_2_code 22 = .ok (.iload_n 1, 1) := by decide +kernel
theorem d11_23 : decode method_2_code 23 = .ok (.bipush 57, 2) := by decide +kernel
theorem d11_25 : decode method_2_code 25 = .ok (.if_icmp .gt 5, 3) := by decide +kernel
theorem d11_28 : decode method_2_code 28 = .ok (.iconst 1, 1) := by decide +kernel
theorem d11_29 : decode method_2_code 29 = .ok (.ireturn, 1) := by decide +kernel
theorem d11_2 : decode method_2_code 2 = .ok (.iload_n 1, 1) := by decide +kernel
theorem d11_3 : decode method_2_code 3 = .ok (.bipush 45, 2) := by decide +kernel
theorem d11_5 : decode method_2_code 5 = .ok (.if_icmp .lt 11, 3) := by decide +kernel
theorem d11_8 : decode method_2_code 8 = .ok (.iload_n 1, 1) := by decide +kernel
theorem d11_9 : decode method_2_code 9 = .ok (.bipush 46, 2) := by decide +kernel
theorem d11_11 : decode method_2_code 11 = .ok (.if_icmp .gt 5, 3) := by decide +kernel
theorem d11_14 : decode method_2_code 14 = .ok (.iconst 1, 1) := by decide +kernel
theorem d11_15 : decode method_2_code 15 = .ok (.ireturn, 1) := by decide +kernel
set_option maxRecDepth 65536 in
theorem own_okS {p : Program} {l : Launch} {e : Env} {R : Room} {s : State} {m : MethodId} {args : Array Value} {below : List Frame} {meth : Method} {c : Code} {T : State} {locs : List Loc} {cells slots : Nat} (X : Stand p l e R s m args below meth c T locs cells slots) (hx : p.tables.exec = Jvm.exec) (hby : c.code = method_2_code) (hret : meth.sig.returnType = some .boolean) (x : Int32) {fs : List Frame} (hr : ∀ (f : JFrame) (acts : List Action), f.method = m → f.locked = none → f.entered = [] → (doReturn e (T.setTop f) acts (some (.int (own_r x)))).1 = T.setFrames fs) : Steps p.tables e below (T.setTop (mkF m 0 #[.val (.int x), .unset] [])) (T.setFrames fs) := by
  have s66 : (x < (45 : Int32) ∨ (46 : Int32) < x) → (x < (48 : Int32) ∨ (57 : Int32) < x) → (x < (65 : Int32) ∨ (90 : Int32) < x) → (¬ x = (95 : Int32)) → (x < (97 : Int32) ∨ (122 : Int32) < x) → Steps p.tables e below (T.setTop (mkF m 66 #[.val (.int x), .val (.int x)] [])) (T.setFrames fs) := by
    intro o2 o16 o30 o44 o52
    by_cases g : x = (126 : Int32)
    · show Steps p.tables e below (T.setTop (mkF m 66 #[.val (.int x), .val (.int x)] [])) _
      refine XS.iloadN X.here hx rfl (hb hby d11_66) rfl ?_
      refine XS.bipush X.here hx rfl (hb hby d11_67) ?_
      show Steps p.tables e below (T.setTop (mkF m 69 #[.val (.int x), .val (.int x)] [(.int (126 : Int32)), (.int x)])) _
      refine XS.icmpNo X.here hx rfl (hb hby d11_69) rfl (teq (g : x = (126 : Int32))).2 ?_
      show Steps p.tables e below (T.setTop (mkF m 72 #[.val (.int x), .val (.int x)] [])) _
      refine XS.iconst X.here hx rfl (hb hby d11_72) ?_
      refine XS.goto X.here hx rfl (pc0 := 73) (pc' := 77) rfl (hb hby d11_73) (by decide) (by decide) ?_
      show Steps p.tables e below (T.setTop (mkF m 77 #[.val (.int x), .val (.int x)] [(.int (1 : Int32))])) _
      exact own_retN X hx (t := .boolean) (by rw [own_ry (Or.inr (Or.inr (Or.inr (Or.inr (Or.inr g)))))]; rfl) hret (by simp) (hb hby d11_77) hr
    · show Steps p.tables e below (T.setTop (mkF m 66 #[.val (.int x), .val (.int x)] [])) _
      refine XS.iloadN X.here hx rfl (hb hby d11_66) rfl ?_
      refine XS.bipush X.here hx rfl (hb hby d11_67) ?_
      show Steps p.tables e below (T.setTop (mkF m 69 #[.val (.int x), .val (.int x)] [(.int (126 : Int32)), (.int x)])) _
      refine XS.icmpYes X.here hx rfl (pc0 := 69) (pc' := 76) rfl (hb hby d11_69) rfl (feq (g : ¬ (x = (126 : Int32)))).2 (by decide) (by decide) ?_
      show Steps p.tables e below (T.setTop (mkF m 76 #[.val (.int x), .val (.int x)] [])) _
      refine XS.iconst X.here hx rfl (hb hby d11_76) ?_
      show Steps p.tables e below (T.setTop (mkF m 77 #[.val (.int x), .val (.int x)] [(.int (0 : Int32))])) _
      exact own_retN X hx (t := .boolean) (by rw [own_rn (own_np o30 o52 o16 (fun q => by subst q; exact absurd o2 (by decide)) (fun q => by subst q; exact absurd o2 (by decide)) o44 g)]; rfl) hret (by simp) (hb hby d11_77) hr
  have s52 : (x < (45 : Int32) ∨ (46 : Int32) < x) → (x < (48 : Int32) ∨ (57 : Int32) < x) → (x < (65 : Int32) ∨ (90 : Int32) < x) → (¬ x = (95 : Int32)) → Steps p.tables e below (T.setTop (mkF m 52 #[.val (.int x), .val (.int x)] [])) (T.setFrames fs) := by
    intro o2 o16 o30 o44
    by_cases g : x < (97 : Int32)
    · show Steps p.tables e below (T.setTop (mkF m 52 #[.val (.int x), .val (.int x)] [])) _
      refine XS.iloadN X.here hx rfl (hb hby d11_52) rfl ?_
      refine XS.bipush X.here hx rfl (hb hby d11_53) ?_
      show Steps p.tables e below (T.setTop (mkF m 55 #[.val (.int x), .val (.int x)] [(.int (97 : Int32)), (.int x)])) _
      refine XS.icmpYes X.here hx rfl (pc0 := 55) (pc' := 66) rfl (hb hby d11_55) rfl (tlt (g : x < (97 : Int32))).1 (by decide) (by decide) ?_
      exact s66 o2 o16 o30 o44 (Or.inl g)
    · by_cases g2 : (122 : Int32) < x
      · show Steps p.tables e below (T.setTop (mkF m 52 #[.val (.int x), .val (.int x)] [])) _
        refine XS.iloadN X.here hx rfl (hb hby d11_52) rfl ?_
        refine XS.bipush X.here hx rfl (hb hby d11_53) ?_
        show Steps p.tables e below (T.setTop (mkF m 55 #[.val (.int x), .val (.int x)] [(.int (97 : Int32)), (.int x)])) _
        refine XS.icmpNo X.here hx rfl (hb hby d11_55) rfl (flt (g : ¬ (x < (97 : Int32)))).1 ?_
        show Steps p.tables e below (T.setTop (mkF m 58 #[.val (.int x), .val (.int x)] [])) _
        refine XS.iloadN X.here hx rfl (hb hby d11_58) rfl ?_
        refine XS.bipush X.here hx rfl (hb hby d11_59) ?_
        show Steps p.tables e below (T.setTop (mkF m 61 #[.val (.int x), .val (.int x)] [(.int (122 : Int32)), (.int x)])) _
        refine XS.icmpYes X.here hx rfl (pc0 := 61) (pc' := 66) rfl (hb hby d11_61) rfl (tlt (g2 : (122 : Int32) < x)).2.2.1 (by decide) (by decide) ?_
        exact s66 o2 o16 o30 o44 (Or.inr g2)
      · show Steps p.tables e below (T.setTop (mkF m 52 #[.val (.int x), .val (.int x)] [])) _
        refine XS.iloadN X.here hx rfl (hb hby d11_52) rfl ?_
        refine XS.bipush X.here hx rfl (hb hby d11_53) ?_
        show Steps p.tables e below (T.setTop (mkF m 55 #[.val (.int x), .val (.int x)] [(.int (97 : Int32)), (.int x)])) _
        refine XS.icmpNo X.here hx rfl (hb hby d11_55) rfl (flt (g : ¬ (x < (97 : Int32)))).1 ?_
        show Steps p.tables e below (T.setTop (mkF m 58 #[.val (.int x), .val (.int x)] [])) _
        refine XS.iloadN X.here hx rfl (hb hby d11_58) rfl ?_
        refine XS.bipush X.here hx rfl (hb hby d11_59) ?_
        show Steps p.tables e below (T.setTop (mkF m 61 #[.val (.int x), .val (.int x)] [(.int (122 : Int32)), (.int x)])) _
        refine XS.icmpNo X.here hx rfl (hb hby d11_61) rfl (flt (g2 : ¬ ((122 : Int32) < x))).2.2.1 ?_
        show Steps p.tables e below (T.setTop (mkF m 64 #[.val (.int x), .val (.int x)] [])) _
        refine XS.iconst X.here hx rfl (hb hby d11_64) ?_
        show Steps p.tables e below (T.setTop (mkF m 65 #[.val (.int x), .val (.int x)] [(.int (1 : Int32))])) _
        exact own_retN X hx (t := .boolean) (by rw [own_ry (Or.inr (Or.inr (Or.inr (Or.inr (Or.inl ⟨g, g2⟩)))))]; rfl) hret (by simp) (hb hby d11_65) hr
  have s44 : (x < (45 : Int32) ∨ (46 : Int32) < x) → (x < (48 : Int32) ∨ (57 : Int32) < x) → (x < (65 : Int32) ∨ (90 : Int32) < x) → Steps p.tables e below (T.setTop (mkF m 44 #[.val (.int x), .val (.int x)] [])) (T.setFrames fs) := by
    intro o2 o16 o30
    by_cases g : x = (95 : Int32)
    · show Steps p.tables e below (T.setTop (mkF m 44 #[.val (.int x), .val (.int x)] [])) _
      refine XS.iloadN X.here hx rfl (hb hby d11_44) rfl ?_
      refine XS.bipush X.here hx rfl (hb hby d11_45) ?_
      show Steps p.tables e below (T.setTop (mkF m 47 #[.val (.int x), .val (.int x)] [(.int (95 : Int32)), (.int x)])) _
      refine XS.icmpNo X.here hx rfl (hb hby d11_47) rfl (teq (g : x = (95 : Int32))).2 ?_
      show Steps p.tables e below (T.setTop (mkF m 50 #[.val (.int x), .val (.int x)] [])) _
      refine XS.iconst X.here hx rfl (hb hby d11_50) ?_
      show Steps p.tables e below (T.setTop (mkF m 51 #[.val (.int x), .val (.int x)] [(.int (1 : Int32))])) _
      exact own_retN X hx (t := .boolean) (by rw [own_ry (Or.inr (Or.inr (Or.inr (Or.inl g))))]; rfl) hret (by simp) (hb hby d11_51) hr
    · show Steps p.tables e below (T.setTop (mkF m 44 #[.val (.int x), .val (.int x)] [])) _
      refine XS.iloadN X.here hx rfl (hb hby d11_44) rfl ?_
      refine XS.bipush X.here hx rfl (hb hby d11_45) ?_
      show Steps p.tables e below (T.setTop (mkF m 47 #[.val (.int x), .val (.int x)] [(.int (95 : Int32)), (.int x)])) _
      refine XS.icmpYes X.here hx rfl (pc0 := 47) (pc' := 52) rfl (hb hby d11_47) rfl (feq (g : ¬ (x = (95 : Int32)))).2 (by decide) (by decide) ?_
      exact s52 o2 o16 o30 g
  have s30 : (x < (45 : Int32) ∨ (46 : Int32) < x) → (x < (48 : Int32) ∨ (57 : Int32) < x) → Steps p.tables e below (T.setTop (mkF m 30 #[.val (.int x), .val (.int x)] [])) (T.setFrames fs) := by
    intro o2 o16
    by_cases g : x < (65 : Int32)
    · show Steps p.tables e below (T.setTop (mkF m 30 #[.val (.int x), .val (.int x)] [])) _
      refine XS.iloadN X.here hx rfl (hb hby d11_30) rfl ?_
      refine XS.bipush X.here hx rfl (hb hby d11_31) ?_
      show Steps p.tables e below (T.setTop (mkF m 33 #[.val (.int x), .val (.int x)] [(.int (65 : Int32)), (.int x)])) _
      refine XS.icmpYes X.here hx rfl (pc0 := 33) (pc' := 44) rfl (hb hby d11_33) rfl (tlt (g : x < (65 : Int32))).1 (by decide) (by decide) ?_
      exact s44 o2 o16 (Or.inl g)
    · by_cases g2 : (90 : Int32) < x
      · show Steps p.tables e below (T.setTop (mkF m 30 #[.val (.int x), .val (.int x)] [])) _
        refine XS.iloadN X.here hx rfl (hb hby d11_30) rfl ?_
        refine XS.bipush X.here hx rfl (hb hby d11_31) ?_
        show Steps p.tables e below (T.setTop (mkF m 33 #[.val (.int x), .val (.int x)] [(.int (65 : Int32)), (.int x)])) _
        refine XS.icmpNo X.here hx rfl (hb hby d11_33) rfl (flt (g : ¬ (x < (65 : Int32)))).1 ?_
        show Steps p.tables e below (T.setTop (mkF m 36 #[.val (.int x), .val (.int x)] [])) _
        refine XS.iloadN X.here hx rfl (hb hby d11_36) rfl ?_
        refine XS.bipush X.here hx rfl (hb hby d11_37) ?_
        show Steps p.tables e below (T.setTop (mkF m 39 #[.val (.int x), .val (.int x)] [(.int (90 : Int32)), (.int x)])) _
        refine XS.icmpYes X.here hx rfl (pc0 := 39) (pc' := 44) rfl (hb hby d11_39) rfl (tlt (g2 : (90 : Int32) < x)).2.2.1 (by decide) (by decide) ?_
        exact s44 o2 o16 (Or.inr g2)
      · show Steps p.tables e below (T.setTop (mkF m 30 #[.val (.int x), .val (.int x)] [])) _
        refine XS.iloadN X.here hx rfl (hb hby d11_30) rfl ?_
        refine XS.bipush X.here hx rfl (hb hby d11_31) ?_
        show Steps p.tables e below (T.setTop (mkF m 33 #[.val (.int x), .val (.int x)] [(.int (65 : Int32)), (.int x)])) _
        refine XS.icmpNo X.here hx rfl (hb hby d11_33) rfl (flt (g : ¬ (x < (65 : Int32)))).1 ?_
        show Steps p.tables e below (T.setTop (mkF m 36 #[.val (.int x), .val (.int x)] [])) _
        refine XS.iloadN X.here hx rfl (hb hby d11_36) rfl ?_
        refine XS.bipush X.here hx rfl (hb hby d11_37) ?_
        show Steps p.tables e below (T.setTop (mkF m 39 #[.val (.int x), .val (.int x)] [(.int (90 : Int32)), (.int x)])) _
        refine XS.icmpNo X.here hx rfl (hb hby d11_39) rfl (flt (g2 : ¬ ((90 : Int32) < x))).2.2.1 ?_
        show Steps p.tables e below (T.setTop (mkF m 42 #[.val (.int x), .val (.int x)] [])) _
        refine XS.iconst X.here hx rfl (hb hby d11_42) ?_
        show Steps p.tables e below (T.setTop (mkF m 43 #[.val (.int x), .val (.int x)] [(.int (1 : Int32))])) _
        exact own_retN X hx (t := .boolean) (by rw [own_ry (Or.inr (Or.inr (Or.inl ⟨g, g2⟩)))]; rfl) hret (by simp) (hb hby d11_43) hr
  have s16 : (x < (45 : Int32) ∨ (46 : Int32) < x) → Steps p.tables e below (T.setTop (mkF m 16 #[.val (.int x), .val (.int x)] [])) (T.setFrames fs) := by
    intro o2
    by_cases g : x < (48 : Int32)
    · show Steps p.tables e below (T.setTop (mkF m 16 #[.val (.int x), .val (.int x)] [])) _
      refine XS.iloadN X.here hx rfl (hb hby d11_16) rfl ?_
      refine XS.bipush X.here hx rfl (hb hby d11_17) ?_
      show Steps p.tables e below (T.setTop (mkF m 19 #[.val (.int x), .val (.int x)] [(.int (48 : Int32)), (.int x)])) _
      refine XS.icmpYes X.here hx rfl (pc0 := 19) (pc' := 30) rfl (hb hby d11_19) rfl (tlt (g : x < (48 : Int32))).1 (by decide) (by decide) ?_
      exact s30 o2 (Or.inl g)
    · by_cases g2 : (57 : Int32) < x
      · show Steps p.tables e below (T.setTop (mkF m 16 #[.val (.int x), .val (.int x)] [])) _
        refine XS.iloadN X.here hx rfl (hb hby d11_16) rfl ?_
        refine XS.bipush X.here hx rfl (hb hby d11_17) ?_
        show Steps p.tables e below (T.setTop (mkF m 19 #[.val (.int x), .val (.int x)] [(.int (48 : Int32)), (.int x)])) _
        refine XS.icmpNo X.here hx rfl (hb hby d11_19) rfl (flt (g : ¬ (x < (48 : Int32)))).1 ?_
        show Steps p.tables e below (T.setTop (mkF m 22 #[.val (.int x), .val (.int x)] [])) _
        refine XS.iloadN X.here hx rfl (hb hby d11_22) rfl ?_
        refine XS.bipush X.here hx rfl (hb hby d11_23) ?_
        show Steps p.tables e below (T.setTop (mkF m 25 #[.val (.int x), .val (.int x)] [(.int (57 : Int32)), (.int x)])) _
        refine XS.icmpYes X.here hx rfl (pc0 := 25) (pc' := 30) rfl (hb hby d11_25) rfl (tlt (g2 : (57 : Int32) < x)).2.2.1 (by decide) (by decide) ?_
        exact s30 o2 (Or.inr g2)
      · show Steps p.tables e below (T.setTop (mkF m 16 #[.val (.int x), .val (.int x)] [])) _
        refine XS.iloadN X.here hx rfl (hb hby d11_16) rfl ?_
        refine XS.bipush X.here hx rfl (hb hby d11_17) ?_
        show Steps p.tables e below (T.setTop (mkF m 19 #[.val (.int x), .val (.int x)] [(.int (48 : Int32)), (.int x)])) _
        refine XS.icmpNo X.here hx rfl (hb hby d11_19) rfl (flt (g : ¬ (x < (48 : Int32)))).1 ?_
        show Steps p.tables e below (T.setTop (mkF m 22 #[.val (.int x), .val (.int x)] [])) _
        refine XS.iloadN X.here hx rfl (hb hby d11_22) rfl ?_
        refine XS.bipush X.here hx rfl (hb hby d11_23) ?_
        show Steps p.tables e below (T.setTop (mkF m 25 #[.val (.int x), .val (.int x)] [(.int (57 : Int32)), (.int x)])) _
        refine XS.icmpNo X.here hx rfl (hb hby d11_25) rfl (flt (g2 : ¬ ((57 : Int32) < x))).2.2.1 ?_
        show Steps p.tables e below (T.setTop (mkF m 28 #[.val (.int x), .val (.int x)] [])) _
        refine XS.iconst X.here hx rfl (hb hby d11_28) ?_
        show Steps p.tables e below (T.setTop (mkF m 29 #[.val (.int x), .val (.int x)] [(.int (1 : Int32))])) _
        exact own_retN X hx (t := .boolean) (by rw [own_ry (Or.inr (Or.inl ⟨g, g2⟩))]; rfl) hret (by simp) (hb hby d11_29) hr
  have s2 : Steps p.tables e below (T.setTop (mkF m 2 #[.val (.int x), .val (.int x)] [])) (T.setFrames fs) := by
    by_cases g : x < (45 : Int32)
    · show Steps p.tables e below (T.setTop (mkF m 2 #[.val (.int x), .val (.int x)] [])) _
      refine XS.iloadN X.here hx rfl (hb hby d11_2) rfl ?_
      refine XS.bipush X.here hx rfl (hb hby d11_3) ?_
      show Steps p.tables e below (T.setTop (mkF m 5 #[.val (.int x), .val (.int x)] [(.int (45 : Int32)), (.int x)])) _
      refine XS.icmpYes X.here hx rfl (pc0 := 5) (pc' := 16) rfl (hb hby d11_5) rfl (tlt (g : x < (45 : Int32))).1 (by decide) (by decide) ?_
      exact s16  (Or.inl g)
    · by_cases g2 : (46 : Int32) < x
      · show Steps p.tables e below (T.setTop (mkF m 2 #[.val (.int x), .val (.int x)] [])) _
        refine XS.iloadN X.here hx rfl (hb hby d11_2) rfl ?_
        refine XS.bipush X.here hx rfl (hb hby d11_3) ?_
        show Steps p.tables e below (T.setTop (mkF m 5 #[.val (.int x), .val (.int x)] [(.int (45 : Int32)), (.int x)])) _
        refine XS.icmpNo X.here hx rfl (hb hby d11_5) rfl (flt (g : ¬ (x < (45 : Int32)))).1 ?_
        show Steps p.tables e below (T.setTop (mkF m 8 #[.val (.int x), .val (.int x)] [])) _
        refine XS.iloadN X.here hx rfl (hb hby d11_8) rfl ?_
        refine XS.bipush X.here hx rfl (hb hby d11_9) ?_
        show Steps p.tables e below (T.setTop (mkF m 11 #[.val (.int x), .val (.int x)] [(.int (46 : Int32)), (.int x)])) _
        refine XS.icmpYes X.here hx rfl (pc0 := 11) (pc' := 16) rfl (hb hby d11_11) rfl (tlt (g2 : (46 : Int32) < x)).2.2.1 (by decide) (by decide) ?_
        exact s16  (Or.inr g2)
      · show Steps p.tables e below (T.setTop (mkF m 2 #[.val (.int x), .val (.int x)] [])) _
        refine XS.iloadN X.here hx rfl (hb hby d11_2) rfl ?_
        refine XS.bipush X.here hx rfl (hb hby d11_3) ?_
        show Steps p.tables e below (T.setTop (mkF m 5 #[.val (.int x), .val (.int x)] [(.int (45 : Int32)), (.int x)])) _
        refine XS.icmpNo X.here hx rfl (hb hby d11_5) rfl (flt (g : ¬ (x < (45 : Int32)))).1 ?_
        show Steps p.tables e below (T.setTop (mkF m 8 #[.val (.int x), .val (.int x)] [])) _
        refine XS.iloadN X.here hx rfl (hb hby d11_8) rfl ?_
        refine XS.bipush X.here hx rfl (hb hby d11_9) ?_
        show Steps p.tables e below (T.setTop (mkF m 11 #[.val (.int x), .val (.int x)] [(.int (46 : Int32)), (.int x)])) _
        refine XS.icmpNo X.here hx rfl (hb hby d11_11) rfl (flt (g2 : ¬ ((46 : Int32) < x))).2.2.1 ?_
        show Steps p.tables e below (T.setTop (mkF m 14 #[.val (.int x), .val (.int x)] [])) _
        refine XS.iconst X.here hx rfl (hb hby d11_14) ?_
        show Steps p.tables e below (T.setTop (mkF m 15 #[.val (.int x), .val (.int x)] [(.int (1 : Int32))])) _
        exact own_retN X hx (t := .boolean) (by rw [own_ry (Or.inl ⟨g, g2⟩)]; rfl) hret (by simp) (hb hby d11_15) hr
  show Steps p.tables e below (T.setTop (mkF m 0 #[.val (.int x), .unset] [])) _
  refine XS.iloadN X.here hx rfl (hb hby d11_0) rfl ?_
  refine XS.istoreN X.here hx rfl (hb hby d11_1) rfl (l' := #[.val (.int x), .val (.int x)]) rfl ?_
  exact s2
theorem pnx_com_example_grantline_grantline_authz_UnreservedMatchesPinLaw : plainName "com/example/grantline/grantline/authz/UnreservedMatchesPinLaw" = true := by first | (simp [plainName, overriddenIn]; done) | decide +kernel
def Q_m11 (Z : State) (x : Int32) (h0 : Heap) (n0 : Nat) (v : Option Value) (h : Heap) (L : List Loc) : Prop := v = (some (.int (own_r x))) ∧ Fr n0 L ∧ h = h0
theorem ef_m11 (m : MethodId) (x : Int32) : entryFrame m #[(.int x)] 2 = mkF m 0 #[.val (.int x), .unset] [] := by first | (simp [entryFrame, mkF, argsToLocals, Value.category]; done) | rfl
set_option maxRecDepth 65536 in
set_option maxHeartbeats 40000000 in
theorem m11 (l : Launch) (Z : State) (a0 : Array Value) (hw : ∀ d ∈ tables_1, d.before a0 Z = true) (ws : List Jvm.Cond) (x : Int32) (h0 : Heap) (n0 : Nat) (Z0 : n0 ≤ h0.size)  :
    MetFree l (⟨"com/example/grantline/grantline/authz/UnreservedMatchesPinLaw", "ok", "(C)Z"⟩ : MethodName) (head1 (Jvm.Cond.code (⟨"com/example/grantline/grantline/authz/UnreservedMatchesPinLaw", "ok", "(C)Z"⟩ : MethodName) method_2_code 2 (some .boolean) :: ws) ({ frames := 0, cells := 0, slots := 0, locals := 0 } : Room)) (fun ar_ U => ar_ = #[(.int x)] ∧ Z.Warmed39 U.vm ∧ U.heap = h0) (fun _ _ _ _ _ => True) (fun _ U o U' => ∃ v L, o = .returned v ∧ Q_m11 Z x h0 n0 v U'.heap L ∧ FrameEnd U o U' L ({ frames := 0, cells := 0, slots := 0, locals := 0 } : Room).cells ({ frames := 0, cells := 0, slots := 0, locals := 0 } : Room).slots) := by
  refine MetFree.of_bodySF (plainFor_of_name pnx_com_example_grantline_grantline_authz_UnreservedMatchesPinLaw) hisR ?_
  intro p e s m args below meth c s₁ Bd hml0 hP hK
  obtain ⟨rfl, hZ, hh⟩ := hP
  have hx := Bd.exec
  have hby := Bd.bytes
  have hml : c.maxLocals = 2 := hml0
  have hown : s.vm.findClass "com/example/grantline/grantline/authz/UnreservedMatchesPinLaw" = some m.cls := findClass_of_methodNamed Bd.named
  have hnm := (name_of_methodNamed Bd.named Bd.method).1
  have X0 : Stand p l e ({ frames := 0, cells := 0, slots := 0, locals := 0 } : Room) s m #[(.int x)] below meth c s₁ [] 0 0 := Stand.of_body Bd
  have e0 : s₁.heap = h0 := by rw [← hh, Bd.state]; rfl
  have N0 := Fr.nil n0
  have pre0 : ∀ tq_, Steps p.tables e below (s₁.setTop (mkF m 0 #[.val (.int x), .unset] [])) tq_ → Steps p.tables e below (s₁.setTop (entryFrame m #[(.int x)] 2)) tq_ := fun tq_ kt_ => castTop (ef_m11 m x ) kt_
  obtain ⟨fs, hr, hrun, hended, hW, hsame⟩ := X0.leave (v := some (.int (own_r x))) (fun h => by rw [Bd.returns] at h; cases h)
  refine ⟨_, _, pre0 _ ?_, hrun, hended, _, _, rfl, ?_, ⟨_, rfl⟩, hW, hsame.mono (nle rfl) (nle rfl)⟩
  · show Steps p.tables e below (s₁.setTop (mkF m 0 #[.val (.int x), .unset] [])) _
    exact own_okS X0 hx hby Bd.returns x hr
  · show Q_m11 Z x h0 n0 _ s₁.heap _
    exact ⟨rfl, N0, e0⟩
theorem d5_70 : decode prog_88_method_2_code 70 = .ok (.iload_n 2, 1) := by decide +kernel
theorem d5_71 : decode prog_88_method_2_code 71 = .ok (.bipush 126, 2) := by decide +kernel
theorem d5_73 : decode prog_88_method_2_code 73 = .ok (.if_icmp .ne 7, 3) := by decide +kernel
theorem d5_76 : decode prog_88_method_2_code 76 = .ok (.iconst 1, 1) := by decide +kernel
theorem d5_77 : decode prog_88_method_2_code 77 = .ok (.goto 4, 3) := by decide +kernel
theorem d5_80 : decode prog_88_method_2_code 80 = .ok (.iconst 0, 1) := by decide +kernel
theorem d5_64 : decode prog_88_method_2_code 64 = .ok (.iload_n 2, 1) := by decide +kernel
theorem d5_65 : decode prog_88_method_2_code 65 = .ok (.bipush 95, 2) := by decide +kernel
theorem d5_67 : decode prog_88_method_2_code 67 = .ok (.if_icmp .eq 9, 3) := by decide +kernel
theorem d5_58 : decode prog_88_method_2_code 58 = .ok (.iload_n 2, 1) := by decide +kernel
theorem d5_59 : decode prog_88_method_2_code 59 = .ok (.bipush 46, 2) := by decide +kernel
theorem d5_61 : decode prog_88_method_2_code 61 = .ok (.if_icmp .eq 15, 3) := by decide +kernel
theorem d5_52 : decode prog_88_method_2_code 52 = .ok (.iload_n 2, 1) := by decide +kernel
theorem d5_53 : decode prog_88_method_2_code 53 = .ok (.bipush 45, 2) := by decide +kernel
theorem d5_55 : decode prog_88_method_2_code 55 = .ok (.if_icmp .eq 21, 3) := by decide +kernel
theorem d5_40 : decode prog_88_method_2_code 40 = .ok (.iload_n 2, 1) := by decide +kernel
theorem d5_41 : decode prog_88_method_2_code 41 = .ok (.bipush 48, 2) := by decide +kernel
theorem d5_43 : decode prog_88_method_2_code 43 = .ok (.if_icmp .lt 9, 3) := by decide +kernel
theorem d5_46 : decode prog_88_method_2_code 46 = .ok (.iload_n 2, 1) := by decide +kernel
theorem d5_47 : decode prog_88_method_2_code 47 = .ok (.bipush 57, 2) := by decide +kernel
theorem d5_49 : decode prog_88_method_2_code 49 = .ok (.if_icmp .le 27, 3) := by decide +kernel
theorem d5_28 : decode prog_88_method_2_code 28 = .ok (.iload_n 2, 1) := by decide +kernel
theorem d5_29 : decode prog_88_method_2_code 29 = .ok (.bipush 97, 2) := by decide +kernel
theorem d5_31 : decode prog_88_method_2_code 31 = .ok (.if_icmp .lt 9, 3) := by decide +kernel
theorem d5_34 : decode prog_88_method_2_code 34 = .ok (.iload_n 2, 1) := by decide +kernel
theorem d5_35 : decode prog_88_method_2_code 35 = .ok (.bipush 122, 2) := by decide +kernel
theorem d5_37 : decode prog_88_method_2_code 37 = .ok (.if_icmp .le 39, 3) := by decide +kernel
theorem d5_16 : decode prog_88_method_2_code 16 = .ok (.iload_n 2, 1) := by decide +kernel
theorem d5_17 : decode prog_88_method_2_code 17 = .ok (.bipush 65, 2) := by decide +kernel
theorem d5_19 : decode prog_88_method_2_code 19 = .ok (.if_icmp .lt 9, 3) := by decide +kernel
theorem d5_22 : decode prog_88_method_2_code 22 = .ok (.iload_n 2, 1) := by decide +kernel
theorem d5_23 : decode prog_88_method_2_code 23 = .ok (.bipush 90, 2) := by decide +kernel
theorem d5_25 : decode prog_88_method_2_code 25 = .ok (.if_icmp .le 51, 3) := by decide +kernel
set_option maxRecDepth 65536 in
theorem own_chk {p : Program} {l : Launch} {e : Env} {R : Room} {s : State} {m : MethodId} {args : Array Value} {below : List Frame} {meth : Method} {c : Code} {T : State} {locs : List Loc} {cells slots : Nat} (X : Stand p l e R s m args below meth c T locs cells slots) (hx : p.tables.exec = Jvm.exec) (hby : c.code = prog_88_method_2_code) (x : Int32) (o0 o1 o3 : Slot) (t : State) (kont : Steps p.tables e below (T.setTop (mkF m 81 #[o0, o1, .val (.int x), o3] [(.int (own_r x))])) t) : Steps p.tables e below (T.setTop (mkF m 16 #[o0, o1, .val (.int x), o3] [])) t := by
  have s70 : (x < (65 : Int32) ∨ (90 : Int32) < x) → (x < (97 : Int32) ∨ (122 : Int32) < x) → (x < (48 : Int32) ∨ (57 : Int32) < x) → (¬ x = (45 : Int32)) → (¬ x = (46 : Int32)) → (¬ x = (95 : Int32)) → Steps p.tables e below (T.setTop (mkF m 70 #[o0, o1, .val (.int x), o3] [])) t := by
    intro o16_ o28_ o40_ o52_ o58_ o64_
    by_cases g : x = (126 : Int32)
    · show Steps p.tables e below (T.setTop (mkF m 70 #[o0, o1, .val (.int x), o3] [])) _
      refine XS.iloadN X.here hx rfl (hb hby d5_70) rfl ?_
      refine XS.bipush X.here hx rfl (hb hby d5_71) ?_
      show Steps p.tables e below (T.setTop (mkF m 73 #[o0, o1, .val (.int x), o3] [(.int (126 : Int32)), (.int x)])) _
      refine XS.icmpNo X.here hx rfl (hb hby d5_73) rfl (teq (g : x = (126 : Int32))).2 ?_
      show Steps p.tables e below (T.setTop (mkF m 76 #[o0, o1, .val (.int x), o3] [])) _
      refine XS.iconst X.here hx rfl (hb hby d5_76) ?_
      refine XS.goto X.here hx rfl (pc0 := 77) (pc' := 81) rfl (hb hby d5_77) (by decide) (by decide) ?_
      have k1 := kont
      rw [own_ry (Or.inr (Or.inr (Or.inr (Or.inr (Or.inr g)))))] at k1
      exact k1
    · show Steps p.tables e below (T.setTop (mkF m 70 #[o0, o1, .val (.int x), o3] [])) _
      refine XS.iloadN X.here hx rfl (hb hby d5_70) rfl ?_
      refine XS.bipush X.here hx rfl (hb hby d5_71) ?_
      show Steps p.tables e below (T.setTop (mkF m 73 #[o0, o1, .val (.int x), o3] [(.int (126 : Int32)), (.int x)])) _
      refine XS.icmpYes X.here hx rfl (pc0 := 73) (pc' := 80) rfl (hb hby d5_73) rfl (feq (g : ¬ (x = (126 : Int32)))).2 (by decide) (by decide) ?_
      show Steps p.tables e below (T.setTop (mkF m 80 #[o0, o1, .val (.int x), o3] [])) _
      refine XS.iconst X.here hx rfl (hb hby d5_80) ?_
      have k1 := kont
      rw [own_rn (own_np o16_ o28_ o40_ o52_ o58_ o64_ g)] at k1
      exact k1
  have s64 : (x < (65 : Int32) ∨ (90 : Int32) < x) → (x < (97 : Int32) ∨ (122 : Int32) < x) → (x < (48 : Int32) ∨ (57 : Int32) < x) → (¬ x = (45 : Int32)) → (¬ x = (46 : Int32)) → Steps p.tables e below (T.setTop (mkF m 64 #[o0, o1, .val (.int x), o3] [])) t := by
    intro o16_ o28_ o40_ o52_ o58_
    by_cases g : x = (95 : Int32)
    · show Steps p.tables e below (T.setTop (mkF m 64 #[o0, o1, .val (.int x), o3] [])) _
      refine XS.iloadN X.here hx rfl (hb hby d5_64) rfl ?_
      refine XS.bipush X.here hx rfl (hb hby d5_65) ?_
      show Steps p.tables e below (T.setTop (mkF m 67 #[o0, o1, .val (.int x), o3] [(.int (95 : Int32)), (.int x)])) _
      refine XS.icmpYes X.here hx rfl (pc0 := 67) (pc' := 76) rfl (hb hby d5_67) rfl (teq (g : x = (95 : Int32))).1 (by decide) (by decide) ?_
      show Steps p.tables e below (T.setTop (mkF m 76 #[o0, o1, .val (.int x), o3] [])) _
      refine XS.iconst X.here hx rfl (hb hby d5_76) ?_
      refine XS.goto X.here hx rfl (pc0 := 77) (pc' := 81) rfl (hb hby d5_77) (by decide) (by decide) ?_
      have k1 := kont
      rw [own_ry (Or.inr (Or.inr (Or.inr (Or.inl g))))] at k1
      exact k1
    · show Steps p.tables e below (T.setTop (mkF m 64 #[o0, o1, .val (.int x), o3] [])) _
      refine XS.iloadN X.here hx rfl (hb hby d5_64) rfl ?_
      refine XS.bipush X.here hx rfl (hb hby d5_65) ?_
      show Steps p.tables e below (T.setTop (mkF m 67 #[o0, o1, .val (.int x), o3] [(.int (95 : Int32)), (.int x)])) _
      refine XS.icmpNo X.here hx rfl (hb hby d5_67) rfl (feq (g : ¬ (x = (95 : Int32)))).1 ?_
      exact s70 o16_ o28_ o40_ o52_ o58_ g
  have s58 : (x < (65 : Int32) ∨ (90 : Int32) < x) → (x < (97 : Int32) ∨ (122 : Int32) < x) → (x < (48 : Int32) ∨ (57 : Int32) < x) → (¬ x = (45 : Int32)) → Steps p.tables e below (T.setTop (mkF m 58 #[o0, o1, .val (.int x), o3] [])) t := by
    intro o16_ o28_ o40_ o52_
    by_cases g : x = (46 : Int32)
    · show Steps p.tables e below (T.setTop (mkF m 58 #[o0, o1, .val (.int x), o3] [])) _
      refine XS.iloadN X.here hx rfl (hb hby d5_58) rfl ?_
      refine XS.bipush X.here hx rfl (hb hby d5_59) ?_
      show Steps p.tables e below (T.setTop (mkF m 61 #[o0, o1, .val (.int x), o3] [(.int (46 : Int32)), (.int x)])) _
      refine XS.icmpYes X.here hx rfl (pc0 := 61) (pc' := 76) rfl (hb hby d5_61) rfl (teq (g : x = (46 : Int32))).1 (by decide) (by decide) ?_
      show Steps p.tables e below (T.setTop (mkF m 76 #[o0, o1, .val (.int x), o3] [])) _
      refine XS.iconst X.here hx rfl (hb hby d5_76) ?_
      refine XS.goto X.here hx rfl (pc0 := 77) (pc' := 81) rfl (hb hby d5_77) (by decide) (by decide) ?_
      have k1 := kont
      rw [own_ry (Or.inl ⟨by rw [g]; decide, by rw [g]; decide⟩)] at k1
      exact k1
    · show Steps p.tables e below (T.setTop (mkF m 58 #[o0, o1, .val (.int x), o3] [])) _
      refine XS.iloadN X.here hx rfl (hb hby d5_58) rfl ?_
      refine XS.bipush X.here hx rfl (hb hby d5_59) ?_
      show Steps p.tables e below (T.setTop (mkF m 61 #[o0, o1, .val (.int x), o3] [(.int (46 : Int32)), (.int x)])) _
      refine XS.icmpNo X.here hx rfl (hb hby d5_61) rfl (feq (g : ¬ (x = (46 : Int32)))).1 ?_
      exact s64 o16_ o28_ o40_ o52_ g
  have s52 : (x < (65 : Int32) ∨ (90 : Int32) < x) → (x < (97 : Int32) ∨ (122 : Int32) < x) → (x < (48 : Int32) ∨ (57 : Int32) < x) → Steps p.tables e below (T.setTop (mkF m 52 #[o0, o1, .val (.int x), o3] [])) t := by
    intro o16_ o28_ o40_
    by_cases g : x = (45 : Int32)
    · show Steps p.tables e below (T.setTop (mkF m 52 #[o0, o1, .val (.int x), o3] [])) _
      refine XS.iloadN X.here hx rfl (hb hby d5_52) rfl ?_
      refine XS.bipush X.here hx rfl (hb hby d5_53) ?_
      show Steps p.tables e below (T.setTop (mkF m 55 #[o0, o1, .val (.int x), o3] [(.int (45 : Int32)), (.int x)])) _
      refine XS.icmpYes X.here hx rfl (pc0 := 55) (pc' := 76) rfl (hb hby d5_55) rfl (teq (g : x = (45 : Int32))).1 (by decide) (by decide) ?_
      show Steps p.tables e below (T.setTop (mkF m 76 #[o0, o1, .val (.int x), o3] [])) _
      refine XS.iconst X.here hx rfl (hb hby d5_76) ?_
      refine XS.goto X.here hx rfl (pc0 := 77) (pc' := 81) rfl (hb hby d5_77) (by decide) (by decide) ?_
      have k1 := kont
      rw [own_ry (Or.inl ⟨by rw [g]; decide, by rw [g]; decide⟩)] at k1
      exact k1
    · show Steps p.tables e below (T.setTop (mkF m 52 #[o0, o1, .val (.int x), o3] [])) _
      refine XS.iloadN X.here hx rfl (hb hby d5_52) rfl ?_
      refine XS.bipush X.here hx rfl (hb hby d5_53) ?_
      show Steps p.tables e below (T.setTop (mkF m 55 #[o0, o1, .val (.int x), o3] [(.int (45 : Int32)), (.int x)])) _
      refine XS.icmpNo X.here hx rfl (hb hby d5_55) rfl (feq (g : ¬ (x = (45 : Int32)))).1 ?_
      exact s58 o16_ o28_ o40_ g
  have s40 : (x < (65 : Int32) ∨ (90 : Int32) < x) → (x < (97 : Int32) ∨ (122 : Int32) < x) → Steps p.tables e below (T.setTop (mkF m 40 #[o0, o1, .val (.int x), o3] [])) t := by
    intro o16_ o28_
    by_cases g : x < (48 : Int32)
    · show Steps p.tables e below (T.setTop (mkF m 40 #[o0, o1, .val (.int x), o3] [])) _
      refine XS.iloadN X.here hx rfl (hb hby d5_40) rfl ?_
      refine XS.bipush X.here hx rfl (hb hby d5_41) ?_
      show Steps p.tables e below (T.setTop (mkF m 43 #[o0, o1, .val (.int x), o3] [(.int (48 : Int32)), (.int x)])) _
      refine XS.icmpYes X.here hx rfl (pc0 := 43) (pc' := 52) rfl (hb hby d5_43) rfl (tlt (g : x < (48 : Int32))).1 (by decide) (by decide) ?_
      exact s52 o16_ o28_ (Or.inl g)
    · by_cases g2 : (57 : Int32) < x
      · show Steps p.tables e below (T.setTop (mkF m 40 #[o0, o1, .val (.int x), o3] [])) _
        refine XS.iloadN X.here hx rfl (hb hby d5_40) rfl ?_
        refine XS.bipush X.here hx rfl (hb hby d5_41) ?_
        show Steps p.tables e below (T.setTop (mkF m 43 #[o0, o1, .val (.int x), o3] [(.int (48 : Int32)), (.int x)])) _
        refine XS.icmpNo X.here hx rfl (hb hby d5_43) rfl (flt (g : ¬ (x < (48 : Int32)))).1 ?_
        show Steps p.tables e below (T.setTop (mkF m 46 #[o0, o1, .val (.int x), o3] [])) _
        refine XS.iloadN X.here hx rfl (hb hby d5_46) rfl ?_
        refine XS.bipush X.here hx rfl (hb hby d5_47) ?_
        show Steps p.tables e below (T.setTop (mkF m 49 #[o0, o1, .val (.int x), o3] [(.int (57 : Int32)), (.int x)])) _
        refine XS.icmpNo X.here hx rfl (hb hby d5_49) rfl (tlt (g2 : (57 : Int32) < x)).2.2.2 ?_
        exact s52 o16_ o28_ (Or.inr g2)
      · show Steps p.tables e below (T.setTop (mkF m 40 #[o0, o1, .val (.int x), o3] [])) _
        refine XS.iloadN X.here hx rfl (hb hby d5_40) rfl ?_
        refine XS.bipush X.here hx rfl (hb hby d5_41) ?_
        show Steps p.tables e below (T.setTop (mkF m 43 #[o0, o1, .val (.int x), o3] [(.int (48 : Int32)), (.int x)])) _
        refine XS.icmpNo X.here hx rfl (hb hby d5_43) rfl (flt (g : ¬ (x < (48 : Int32)))).1 ?_
        show Steps p.tables e below (T.setTop (mkF m 46 #[o0, o1, .val (.int x), o3] [])) _
        refine XS.iloadN X.here hx rfl (hb hby d5_46) rfl ?_
        refine XS.bipush X.here hx rfl (hb hby d5_47) ?_
        show Steps p.tables e below (T.setTop (mkF m 49 #[o0, o1, .val (.int x), o3] [(.int (57 : Int32)), (.int x)])) _
        refine XS.icmpYes X.here hx rfl (pc0 := 49) (pc' := 76) rfl (hb hby d5_49) rfl (flt (g2 : ¬ ((57 : Int32) < x))).2.2.2 (by decide) (by decide) ?_
        show Steps p.tables e below (T.setTop (mkF m 76 #[o0, o1, .val (.int x), o3] [])) _
        refine XS.iconst X.here hx rfl (hb hby d5_76) ?_
        refine XS.goto X.here hx rfl (pc0 := 77) (pc' := 81) rfl (hb hby d5_77) (by decide) (by decide) ?_
        have k1 := kont
        rw [own_ry (Or.inr (Or.inl ⟨g, g2⟩))] at k1
        exact k1
  have s28 : (x < (65 : Int32) ∨ (90 : Int32) < x) → Steps p.tables e below (T.setTop (mkF m 28 #[o0, o1, .val (.int x), o3] [])) t := by
    intro o16_
    by_cases g : x < (97 : Int32)
    · show Steps p.tables e below (T.setTop (mkF m 28 #[o0, o1, .val (.int x), o3] [])) _
      refine XS.iloadN X.here hx rfl (hb hby d5_28) rfl ?_
      refine XS.bipush X.here hx rfl (hb hby d5_29) ?_
      show Steps p.tables e below (T.setTop (mkF m 31 #[o0, o1, .val (.int x), o3] [(.int (97 : Int32)), (.int x)])) _
      refine XS.icmpYes X.here hx rfl (pc0 := 31) (pc' := 40) rfl (hb hby d5_31) rfl (tlt (g : x < (97 : Int32))).1 (by decide) (by decide) ?_
      exact s40 o16_ (Or.inl g)
    · by_cases g2 : (122 : Int32) < x
      · show Steps p.tables e below (T.setTop (mkF m 28 #[o0, o1, .val (.int x), o3] [])) _
        refine XS.iloadN X.here hx rfl (hb hby d5_28) rfl ?_
        refine XS.bipush X.here hx rfl (hb hby d5_29) ?_
        show Steps p.tables e below (T.setTop (mkF m 31 #[o0, o1, .val (.int x), o3] [(.int (97 : Int32)), (.int x)])) _
        refine XS.icmpNo X.here hx rfl (hb hby d5_31) rfl (flt (g : ¬ (x < (97 : Int32)))).1 ?_
        show Steps p.tables e below (T.setTop (mkF m 34 #[o0, o1, .val (.int x), o3] [])) _
        refine XS.iloadN X.here hx rfl (hb hby d5_34) rfl ?_
        refine XS.bipush X.here hx rfl (hb hby d5_35) ?_
        show Steps p.tables e below (T.setTop (mkF m 37 #[o0, o1, .val (.int x), o3] [(.int (122 : Int32)), (.int x)])) _
        refine XS.icmpNo X.here hx rfl (hb hby d5_37) rfl (tlt (g2 : (122 : Int32) < x)).2.2.2 ?_
        exact s40 o16_ (Or.inr g2)
      · show Steps p.tables e below (T.setTop (mkF m 28 #[o0, o1, .val (.int x), o3] [])) _
        refine XS.iloadN X.here hx rfl (hb hby d5_28) rfl ?_
        refine XS.bipush X.here hx rfl (hb hby d5_29) ?_
        show Steps p.tables e below (T.setTop (mkF m 31 #[o0, o1, .val (.int x), o3] [(.int (97 : Int32)), (.int x)])) _
        refine XS.icmpNo X.here hx rfl (hb hby d5_31) rfl (flt (g : ¬ (x < (97 : Int32)))).1 ?_
        show Steps p.tables e below (T.setTop (mkF m 34 #[o0, o1, .val (.int x), o3] [])) _
        refine XS.iloadN X.here hx rfl (hb hby d5_34) rfl ?_
        refine XS.bipush X.here hx rfl (hb hby d5_35) ?_
        show Steps p.tables e below (T.setTop (mkF m 37 #[o0, o1, .val (.int x), o3] [(.int (122 : Int32)), (.int x)])) _
        refine XS.icmpYes X.here hx rfl (pc0 := 37) (pc' := 76) rfl (hb hby d5_37) rfl (flt (g2 : ¬ ((122 : Int32) < x))).2.2.2 (by decide) (by decide) ?_
        show Steps p.tables e below (T.setTop (mkF m 76 #[o0, o1, .val (.int x), o3] [])) _
        refine XS.iconst X.here hx rfl (hb hby d5_76) ?_
        refine XS.goto X.here hx rfl (pc0 := 77) (pc' := 81) rfl (hb hby d5_77) (by decide) (by decide) ?_
        have k1 := kont
        rw [own_ry (Or.inr (Or.inr (Or.inr (Or.inr (Or.inl ⟨g, g2⟩)))))] at k1
        exact k1
  have s16 : Steps p.tables e below (T.setTop (mkF m 16 #[o0, o1, .val (.int x), o3] [])) t := by
    by_cases g : x < (65 : Int32)
    · show Steps p.tables e below (T.setTop (mkF m 16 #[o0, o1, .val (.int x), o3] [])) _
      refine XS.iloadN X.here hx rfl (hb hby d5_16) rfl ?_
      refine XS.bipush X.here hx rfl (hb hby d5_17) ?_
      show Steps p.tables e below (T.setTop (mkF m 19 #[o0, o1, .val (.int x), o3] [(.int (65 : Int32)), (.int x)])) _
      refine XS.icmpYes X.here hx rfl (pc0 := 19) (pc' := 28) rfl (hb hby d5_19) rfl (tlt (g : x < (65 : Int32))).1 (by decide) (by decide) ?_
      exact s28  (Or.inl g)
    · by_cases g2 : (90 : Int32) < x
      · show Steps p.tables e below (T.setTop (mkF m 16 #[o0, o1, .val (.int x), o3] [])) _
        refine XS.iloadN X.here hx rfl (hb hby d5_16) rfl ?_
        refine XS.bipush X.here hx rfl (hb hby d5_17) ?_
        show Steps p.tables e below (T.setTop (mkF m 19 #[o0, o1, .val (.int x), o3] [(.int (65 : Int32)), (.int x)])) _
        refine XS.icmpNo X.here hx rfl (hb hby d5_19) rfl (flt (g : ¬ (x < (65 : Int32)))).1 ?_
        show Steps p.tables e below (T.setTop (mkF m 22 #[o0, o1, .val (.int x), o3] [])) _
        refine XS.iloadN X.here hx rfl (hb hby d5_22) rfl ?_
        refine XS.bipush X.here hx rfl (hb hby d5_23) ?_
        show Steps p.tables e below (T.setTop (mkF m 25 #[o0, o1, .val (.int x), o3] [(.int (90 : Int32)), (.int x)])) _
        refine XS.icmpNo X.here hx rfl (hb hby d5_25) rfl (tlt (g2 : (90 : Int32) < x)).2.2.2 ?_
        exact s28  (Or.inr g2)
      · show Steps p.tables e below (T.setTop (mkF m 16 #[o0, o1, .val (.int x), o3] [])) _
        refine XS.iloadN X.here hx rfl (hb hby d5_16) rfl ?_
        refine XS.bipush X.here hx rfl (hb hby d5_17) ?_
        show Steps p.tables e below (T.setTop (mkF m 19 #[o0, o1, .val (.int x), o3] [(.int (65 : Int32)), (.int x)])) _
        refine XS.icmpNo X.here hx rfl (hb hby d5_19) rfl (flt (g : ¬ (x < (65 : Int32)))).1 ?_
        show Steps p.tables e below (T.setTop (mkF m 22 #[o0, o1, .val (.int x), o3] [])) _
        refine XS.iloadN X.here hx rfl (hb hby d5_22) rfl ?_
        refine XS.bipush X.here hx rfl (hb hby d5_23) ?_
        show Steps p.tables e below (T.setTop (mkF m 25 #[o0, o1, .val (.int x), o3] [(.int (90 : Int32)), (.int x)])) _
        refine XS.icmpYes X.here hx rfl (pc0 := 25) (pc' := 76) rfl (hb hby d5_25) rfl (flt (g2 : ¬ ((90 : Int32) < x))).2.2.2 (by decide) (by decide) ?_
        show Steps p.tables e below (T.setTop (mkF m 76 #[o0, o1, .val (.int x), o3] [])) _
        refine XS.iconst X.here hx rfl (hb hby d5_76) ?_
        refine XS.goto X.here hx rfl (pc0 := 77) (pc' := 81) rfl (hb hby d5_77) (by decide) (by decide) ?_
        have k1 := kont
        rw [own_ry (Or.inr (Or.inr (Or.inl ⟨g, g2⟩)))] at k1
        exact k1
  exact s16
theorem d20_0 : decode jdk_52_method_4_code 0 = .ok (.getstatic 44, 3) := by decide +kernel
theorem d20_3 : decode jdk_52_method_4_code 3 = .ok (.ifCond .ne 25, 3) := by decide +kernel
theorem d20_28 : decode jdk_52_method_4_code 28 = .ok (.iload_n 1, 1) := by decide +kernel
theorem d20_29 : decode jdk_52_method_4_code 29 = .ok (.iconst 1, 1) := by decide +kernel
theorem d20_30 : decode jdk_52_method_4_code 30 = .ok (.ishl, 1) := by decide +kernel
theorem d20_31 : decode jdk_52_method_4_code 31 = .ok (.istore_n 1, 1) := by decide +kernel
theorem d20_32 : decode jdk_52_method_4_code 32 = .ok (.aload_n 0, 1) := by decide +kernel
theorem d20_33 : decode jdk_52_method_4_code 33 = .ok (.iload_n 1, 1) := by decide +kernel
theorem d20_34 : decode jdk_52_method_4_code 34 = .ok (.iinc 1 1, 3) := by decide +kernel
theorem d20_37 : decode jdk_52_method_4_code 37 = .ok (.iload_n 2, 1) := by decide +kernel
theorem d20_38 : decode jdk_52_method_4_code 38 = .ok (.getstatic 59, 3) := by decide +kernel
theorem d20_41 : decode jdk_52_method_4_code 41 = .ok (.ishr, 1) := by decide +kernel
theorem d20_42 : decode jdk_52_method_4_code 42 = .ok (.i2b, 1) := by decide +kernel
theorem d20_43 : decode jdk_52_method_4_code 43 = .ok (.bastore, 1) := by decide +kernel
theorem d20_44 : decode jdk_52_method_4_code 44 = .ok (.aload_n 0, 1) := by decide +kernel
theorem d20_45 : decode jdk_52_method_4_code 45 = .ok (.iload_n 1, 1) := by decide +kernel
theorem d20_46 : decode jdk_52_method_4_code 46 = .ok (.iload_n 2, 1) := by decide +kernel
theorem d20_47 : decode jdk_52_method_4_code 47 = .ok (.getstatic 63, 3) := by decide +kernel
theorem d20_50 : decode jdk_52_method_4_code 50 = .ok (.ishr, 1) := by decide +kernel
theorem d20_51 : decode jdk_52_method_4_code 51 = .ok (.i2b, 1) := by decide +kernel
theorem d20_52 : decode jdk_52_method_4_code 52 = .ok (.bastore, 1) := by decide +kernel
theorem d20_53 : decode jdk_52_method_4_code 53 = .ok (.return_, 1) := by decide +kernel
theorem pnx_java_lang_StringUTF16 : plainName "java/lang/StringUTF16" = true := by first | (simp [plainName, overriddenIn]; done) | decide +kernel
def Q_m20 (Z : State) (t : Addr) (k : ClassId) (z : Int32) (vs : List Value) (j : Int32) (ch : Int32) (i0 : Nat) (i1 : Nat) (h0 : Heap) (n0 : Nat) (v : Option Value) (h : Heap) (L : List Loc) : Prop := v = none ∧ Fr n0 L ∧ Keep h0 h [t] ∧ Arv Z h t k .byte z ((vs.set i0 (.int (own_b0 ch))).set i1 (.int (own_b1 ch))) (.int (0 : Int32))
theorem ef_m20 (m : MethodId) (t : Addr) (k : ClassId) (z : Int32) (vs : List Value) (j : Int32) (ch : Int32) (i0 : Nat) (i1 : Nat) : entryFrame m #[(.ref t), (.int j), (.int ch)] 3 = mkF m 0 #[.val (.ref t), .val (.int j), .val (.int ch)] [] := by first | (simp [entryFrame, mkF, argsToLocals, Value.category]; done) | rfl
set_option maxRecDepth 65536 in
set_option maxHeartbeats 40000000 in
theorem m20 (l : Launch) (Z : State) (a0 : Array Value) (hw : ∀ d ∈ tables_1, d.before a0 Z = true) (ws : List Jvm.Cond) (t : Addr) (k : ClassId) (z : Int32) (vs : List Value) (j : Int32) (ch : Int32) (i0 : Nat) (i1 : Nat) (h0 : Heap) (n0 : Nat) (Z0 : n0 ≤ h0.size) (V : Arv Z h0 t k .byte z vs (.int (0 : Int32))) (gt : n0 ≤ t) (S_AD : Sta Z h0 "java/lang/StringUTF16" "$assertionsDisabled" "Z" (.int (1 : Int32))) (S_HI : Sta Z h0 "java/lang/StringUTF16" "HI_BYTE_SHIFT" "I" (.int (0 : Int32))) (S_LO : Sta Z h0 "java/lang/StringUTF16" "LO_BYTE_SHIFT" "I" (.int (8 : Int32))) (hb0 : ¬ ((j <<< ((1 : Int32) &&& 31)) < (0 : Int32))) (hb1 : (j <<< ((1 : Int32) &&& 31)) < z) (hc0 : ¬ (((j <<< ((1 : Int32) &&& 31)) + (1 : Int32)) < (0 : Int32))) (hc1 : ((j <<< ((1 : Int32) &&& 31)) + (1 : Int32)) < z) (hi0 : (j <<< ((1 : Int32) &&& 31)).toNatClampNeg = i0) (hi1 : ((j <<< ((1 : Int32) &&& 31)) + (1 : Int32)).toNatClampNeg = i1) (hl0 : i0 < vs.length) (hl1 : i1 < vs.length) :
    MetFree l (⟨"java/lang/StringUTF16", "putChar", "([BII)V"⟩ : MethodName) (head1 (Jvm.Cond.code (⟨"java/lang/StringUTF16", "putChar", "([BII)V"⟩ : MethodName) jdk_52_method_4_code 3 none :: ws) ({ frames := 0, cells := 0, slots := 0, locals := 0 } : Room)) (fun ar_ U => ar_ = #[(.ref t), (.int j), (.int ch)] ∧ Z.Warmed39 U.vm ∧ U.heap = h0) (fun _ _ _ _ _ => True) (fun _ U o U' => ∃ v L, o = .returned v ∧ Q_m20 Z t k z vs j ch i0 i1 h0 n0 v U'.heap L ∧ FrameEnd U o U' L ({ frames := 0, cells := 0, slots := 0, locals := 0 } : Room).cells ({ frames := 0, cells := 0, slots := 0, locals := 0 } : Room).slots) := by
  refine MetFree.of_bodySF (plainFor_of_name pnx_java_lang_StringUTF16) hisR ?_
  intro p e s m args below meth c s₁ Bd hml0 hP hK
  obtain ⟨rfl, hZ, hh⟩ := hP
  have hx := Bd.exec
  have hby := Bd.bytes
  have hml : c.maxLocals = 3 := hml0
  have hown : s.vm.findClass "java/lang/StringUTF16" = some m.cls := findClass_of_methodNamed Bd.named
  have hnm := (name_of_methodNamed Bd.named Bd.method).1
  have X0 : Stand p l e ({ frames := 0, cells := 0, slots := 0, locals := 0 } : Room) s m #[(.ref t), (.int j), (.int ch)] below meth c s₁ [] 0 0 := Stand.of_body Bd
  have e0 : s₁.heap = h0 := by rw [← hh, Bd.state]; rfl
  have N0 := Fr.nil n0
  have pre0 : ∀ tq_, Steps p.tables e below (s₁.setTop (mkF m 0 #[.val (.ref t), .val (.int j), .val (.int ch)] [])) tq_ → Steps p.tables e below (s₁.setTop (entryFrame m #[(.ref t), (.int j), (.int ch)] 3)) tq_ := fun tq_ kt_ => castTop (ef_m20 m t k z vs j ch i0 i1 ) kt_
  obtain ⟨T1, X1, e1, st1⟩ := getS2 X0 hx hZ hown (host := "") (Or.inl (wk hw 91 rfl)) Via.refl e0 S_AD (g := (mkF m 0 #[.val (.ref t), .val (.int j), .val (.int ch)] [])) rfl (hb hby d20_0)
  obtain ⟨T2, X2, e2, st2⟩ := getS2 X1 hx hZ hown (host := "") (Or.inl (wk hw 92 rfl)) Via.refl e1 S_HI (g := (mkF m 38 #[.val (.ref t), .val (.int ((j <<< ((1 : Int32) &&& 31)) + (1 : Int32))), .val (.int ch)] [(.int ch), (.int (j <<< ((1 : Int32) &&& 31))), (.ref t)])) rfl (hb hby d20_38)
  obtain ⟨c3, A3, q3, S3, M3, H3, U3⟩ := id V
  obtain ⟨T3, h3, X3, e3, W3, st3⟩ := stB X2 hx hZ e2 A3 (j := (j <<< ((1 : Int32) &&& 31))) (inb_of S3 ⟨hb0, hb1⟩) (g := (mkF m 43 #[.val (.ref t), .val (.int ((j <<< ((1 : Int32) &&& 31)) + (1 : Int32))), .val (.int ch)] [(.int ((ch >>> ((0 : Int32) &&& 31)).toInt8.toInt32)), (.int (j <<< ((1 : Int32) &&& 31))), (.ref t)])) rfl rfl (hb hby d20_43)
  have N3 := Fr.snoc X3 N0 gt
  have V3 : Arv Z h3 t k .byte z (vs.set i0 (.int (own_b0 ch))) (.int (0 : Int32)) := Arv.set A3 q3 S3 M3 H3 U3 (fits_nar_byte _) W3 i0 hi0 hl0
  have K4 : Keep h0 h3 [t] := (Keep.refl h0 [t]).wr W3 (Or.inl (by simp))
  have F6 := (S_LO.wr W3)
  obtain ⟨T5, X5, e5, st5⟩ := getS2 X3 hx hZ hown (host := "") (Or.inl (wk hw 93 rfl)) Via.refl e3 F6 (g := (mkF m 47 #[.val (.ref t), .val (.int ((j <<< ((1 : Int32) &&& 31)) + (1 : Int32))), .val (.int ch)] [(.int ch), (.int ((j <<< ((1 : Int32) &&& 31)) + (1 : Int32))), (.ref t)])) rfl (hb hby d20_47)
  obtain ⟨c7, A7, q7, S7, M7, H7, U7⟩ := id V3
  obtain ⟨T7, h7, X7, e7, W7, st7⟩ := stB X5 hx hZ e5 A7 (j := ((j <<< ((1 : Int32) &&& 31)) + (1 : Int32))) (inb_of S7 ⟨hc0, hc1⟩) (g := (mkF m 52 #[.val (.ref t), .val (.int ((j <<< ((1 : Int32) &&& 31)) + (1 : Int32))), .val (.int ch)] [(.int ((ch >>> ((8 : Int32) &&& 31)).toInt8.toInt32)), (.int ((j <<< ((1 : Int32) &&& 31)) + (1 : Int32))), (.ref t)])) rfl rfl (hb hby d20_52)
  have N7 := Fr.snoc X7 N3 gt
  have V7 : Arv Z h7 t k .byte z ((vs.set i0 (.int (own_b0 ch))).set i1 (.int (own_b1 ch))) (.int (0 : Int32)) := Arv.set A7 q7 S7 M7 H7 U7 (fits_nar_byte _) W7 i1 hi1 (by rw [List.length_set]; exact hl1)
  have K8 : Keep h0 h7 [t] := K4.wr W7 (Or.inl (by simp))
  obtain ⟨fs, hr, hrun, hended, hW, hsame⟩ := X7.leave (v := none) (fun _ => rfl)
  refine ⟨_, _, pre0 _ ?_, hrun, hended, _, _, rfl, ?_, ⟨_, rfl⟩, hW, hsame.mono (nle rfl) (nle rfl)⟩
  · show Steps p.tables e below (s₁.setTop (mkF m 0 #[.val (.ref t), .val (.int j), .val (.int ch)] [])) _
    refine st1 _ ?_
    show Steps p.tables e below (T1.setTop (mkF m 3 #[.val (.ref t), .val (.int j), .val (.int ch)] [(.int (1 : Int32))])) _
    refine XS.ifYes X1.here hx rfl (pc0 := 3) (pc' := 28) rfl (hb hby d20_3) rfl ((if0 _ _).trans (feq (by decide : ¬ ((1 : Int32) = (0 : Int32)))).2) (by decide) (by decide) ?_
    show Steps p.tables e below (T1.setTop (mkF m 28 #[.val (.ref t), .val (.int j), .val (.int ch)] [])) _
    refine XS.iloadN X1.here hx rfl (hb hby d20_28) rfl ?_
    refine XS.iconst X1.here hx rfl (hb hby d20_29) ?_
    show Steps p.tables e below (T1.setTop (mkF m 30 #[.val (.ref t), .val (.int j), .val (.int ch)] [(.int (1 : Int32)), (.int j)])) _
    refine XS.ishl X1.here hx rfl (hb hby d20_30) rfl ?_
    refine XS.istoreN X1.here hx rfl (hb hby d20_31) rfl (l' := #[.val (.ref t), .val (.int (j <<< ((1 : Int32) &&& 31))), .val (.int ch)]) rfl ?_
    show Steps p.tables e below (T1.setTop (mkF m 32 #[.val (.ref t), .val (.int (j <<< ((1 : Int32) &&& 31))), .val (.int ch)] [])) _
    refine XS.aloadN X1.here hx rfl (hb hby d20_32) rfl rfl ?_
    refine XS.iloadN X1.here hx rfl (hb hby d20_33) rfl ?_
    show Steps p.tables e below (T1.setTop (mkF m 34 #[.val (.ref t), .val (.int (j <<< ((1 : Int32) &&& 31))), .val (.int ch)] [(.int (j <<< ((1 : Int32) &&& 31))), (.ref t)])) _
    refine XS.iinc X1.here hx rfl (hb hby d20_34) rfl (l' := #[.val (.ref t), .val (.int ((j <<< ((1 : Int32) &&& 31)) + (1 : Int32))), .val (.int ch)]) rfl ?_
    refine XS.iloadN X1.here hx rfl (hb hby d20_37) rfl ?_
    show Steps p.tables e below (T1.setTop (mkF m 38 #[.val (.ref t), .val (.int ((j <<< ((1 : Int32) &&& 31)) + (1 : Int32))), .val (.int ch)] [(.int ch), (.int (j <<< ((1 : Int32) &&& 31))), (.ref t)])) _
    refine st2 _ ?_
    show Steps p.tables e below (T2.setTop (mkF m 41 #[.val (.ref t), .val (.int ((j <<< ((1 : Int32) &&& 31)) + (1 : Int32))), .val (.int ch)] [(.int (0 : Int32)), (.int ch), (.int (j <<< ((1 : Int32) &&& 31))), (.ref t)])) _
    refine XS.ishr X2.here hx rfl (hb hby d20_41) rfl ?_
    refine XS.i2b X2.here hx rfl (hb hby d20_42) rfl ?_
    show Steps p.tables e below (T2.setTop (mkF m 43 #[.val (.ref t), .val (.int ((j <<< ((1 : Int32) &&& 31)) + (1 : Int32))), .val (.int ch)] [(.int ((ch >>> ((0 : Int32) &&& 31)).toInt8.toInt32)), (.int (j <<< ((1 : Int32) &&& 31))), (.ref t)])) _
    refine st3 _ ?_
    show Steps p.tables e below (T3.setTop (mkF m 44 #[.val (.ref t), .val (.int ((j <<< ((1 : Int32) &&& 31)) + (1 : Int32))), .val (.int ch)] [])) _
    refine XS.aloadN X3.here hx rfl (hb hby d20_44) rfl rfl ?_
    refine XS.iloadN X3.here hx rfl (hb hby d20_45) rfl ?_
    show Steps p.tables e below (T3.setTop (mkF m 46 #[.val (.ref t), .val (.int ((j <<< ((1 : Int32) &&& 31)) + (1 : Int32))), .val (.int ch)] [(.int ((j <<< ((1 : Int32) &&& 31)) + (1 : Int32))), (.ref t)])) _
    refine XS.iloadN X3.here hx rfl (hb hby d20_46) rfl ?_
    show Steps p.tables e below (T3.setTop (mkF m 47 #[.val (.ref t), .val (.int ((j <<< ((1 : Int32) &&& 31)) + (1 : Int32))), .val (.int ch)] [(.int ch), (.int ((j <<< ((1 : Int32) &&& 31)) + (1 : Int32))), (.ref t)])) _
    refine st5 _ ?_
    show Steps p.tables e below (T5.setTop (mkF m 50 #[.val (.ref t), .val (.int ((j <<< ((1 : Int32) &&& 31)) + (1 : Int32))), .val (.int ch)] [(.int (8 : Int32)), (.int ch), (.int ((j <<< ((1 : Int32) &&& 31)) + (1 : Int32))), (.ref t)])) _
    refine XS.ishr X5.here hx rfl (hb hby d20_50) rfl ?_
    refine XS.i2b X5.here hx rfl (hb hby d20_51) rfl ?_
    show Steps p.tables e below (T5.setTop (mkF m 52 #[.val (.ref t), .val (.int ((j <<< ((1 : Int32) &&& 31)) + (1 : Int32))), .val (.int ch)] [(.int ((ch >>> ((8 : Int32) &&& 31)).toInt8.toInt32)), (.int ((j <<< ((1 : Int32) &&& 31)) + (1 : Int32))), (.ref t)])) _
    refine st7 _ ?_
    show Steps p.tables e below (T7.setTop (mkF m 53 #[.val (.ref t), .val (.int ((j <<< ((1 : Int32) &&& 31)) + (1 : Int32))), .val (.int ch)] [])) _
    exact X7.returnOut hx Bd.returns (hb hby d20_53) hr
  · show Q_m20 Z t k z vs j ch i0 i1 h0 n0 _ T7.heap _
    rw [e7]
    exact ⟨rfl, N7, K8, V7⟩
theorem d21_0 : decode jdk_52_method_5_code 0 = .ok (.getstatic 44, 3) := by decide +kernel
theorem d21_3 : decode jdk_52_method_5_code 3 = .ok (.ifCond .ne 25, 3) := by decide +kernel
theorem d21_28 : decode jdk_52_method_5_code 28 = .ok (.iload_n 1, 1) := by decide +kernel
theorem d21_29 : decode jdk_52_method_5_code 29 = .ok (.iconst 1, 1) := by decide +kernel
theorem d21_30 : decode jdk_52_method_5_code 30 = .ok (.ishl, 1) := by decide +kernel
theorem d21_31 : decode jdk_52_method_5_code 31 = .ok (.istore_n 1, 1) := by decide +kernel
theorem d21_32 : decode jdk_52_method_5_code 32 = .ok (.aload_n 0, 1) := by decide +kernel
theorem d21_33 : decode jdk_52_method_5_code 33 = .ok (.iload_n 1, 1) := by decide +kernel
theorem d21_34 : decode jdk_52_method_5_code 34 = .ok (.iinc 1 1, 3) := by decide +kernel
theorem d21_37 : decode jdk_52_method_5_code 37 = .ok (.baload, 1) := by decide +kernel
theorem d21_38 : decode jdk_52_method_5_code 38 = .ok (.sipush 255, 3) := by decide +kernel
theorem d21_41 : decode jdk_52_method_5_code 41 = .ok (.iand, 1) := by decide +kernel
theorem d21_42 : decode jdk_52_method_5_code 42 = .ok (.getstatic 59, 3) := by decide +kernel
theorem d21_45 : decode jdk_52_method_5_code 45 = .ok (.ishl, 1) := by decide +kernel
theorem d21_46 : decode jdk_52_method_5_code 46 = .ok (.aload_n 0, 1) := by decide +kernel
theorem d21_47 : decode jdk_52_method_5_code 47 = .ok (.iload_n 1, 1) := by decide +kernel
theorem d21_48 : decode jdk_52_method_5_code 48 = .ok (.baload, 1) := by decide +kernel
theorem d21_49 : decode jdk_52_method_5_code 49 = .ok (.sipush 255, 3) := by decide +kernel
theorem d21_52 : decode jdk_52_method_5_code 52 = .ok (.iand, 1) := by decide +kernel
theorem d21_53 : decode jdk_52_method_5_code 53 = .ok (.getstatic 63, 3) := by decide +kernel
theorem d21_56 : decode jdk_52_method_5_code 56 = .ok (.ishl, 1) := by decide +kernel
theorem d21_57 : decode jdk_52_method_5_code 57 = .ok (.ior, 1) := by decide +kernel
theorem d21_58 : decode jdk_52_method_5_code 58 = .ok (.i2c, 1) := by decide +kernel
theorem d21_59 : decode jdk_52_method_5_code 59 = .ok (.ireturn, 1) := by decide +kernel
def Q_m21 (Z : State) (t : Addr) (k : ClassId) (z : Int32) (vs : List Value) (j : Int32) (x0 : Int32) (x1 : Int32) (h0 : Heap) (n0 : Nat) (v : Option Value) (h : Heap) (L : List Loc) : Prop := v = (some (.int (own_u x0 x1))) ∧ Fr n0 L ∧ h = h0
theorem ef_m21 (m : MethodId) (t : Addr) (k : ClassId) (z : Int32) (vs : List Value) (j : Int32) (x0 : Int32) (x1 : Int32) : entryFrame m #[(.ref t), (.int j)] 2 = mkF m 0 #[.val (.ref t), .val (.int j)] [] := by first | (simp [entryFrame, mkF, argsToLocals, Value.category]; done) | rfl
set_option maxRecDepth 65536 in
set_option maxHeartbeats 40000000 in
theorem m21 (l : Launch) (Z : State) (a0 : Array Value) (hw : ∀ d ∈ tables_1, d.before a0 Z = true) (ws : List Jvm.Cond) (t : Addr) (k : ClassId) (z : Int32) (vs : List Value) (j : Int32) (x0 : Int32) (x1 : Int32) (h0 : Heap) (n0 : Nat) (Z0 : n0 ≤ h0.size) (V : Arv Z h0 t k .byte z vs (.int (0 : Int32))) (S_AD : Sta Z h0 "java/lang/StringUTF16" "$assertionsDisabled" "Z" (.int (1 : Int32))) (S_HI : Sta Z h0 "java/lang/StringUTF16" "HI_BYTE_SHIFT" "I" (.int (0 : Int32))) (S_LO : Sta Z h0 "java/lang/StringUTF16" "LO_BYTE_SHIFT" "I" (.int (8 : Int32))) (hb0 : ¬ ((j <<< ((1 : Int32) &&& 31)) < (0 : Int32))) (hb1 : (j <<< ((1 : Int32) &&& 31)) < z) (hc0 : ¬ (((j <<< ((1 : Int32) &&& 31)) + (1 : Int32)) < (0 : Int32))) (hc1 : ((j <<< ((1 : Int32) &&& 31)) + (1 : Int32)) < z) (hv0 : vs.getD (j <<< ((1 : Int32) &&& 31)).toNatClampNeg (.int (0 : Int32)) = .int x0) (hv1 : vs.getD ((j <<< ((1 : Int32) &&& 31)) + (1 : Int32)).toNatClampNeg (.int (0 : Int32)) = .int x1) :
    MetFree l (⟨"java/lang/StringUTF16", "getChar", "([BI)C"⟩ : MethodName) (head1 (Jvm.Cond.code (⟨"java/lang/StringUTF16", "getChar", "([BI)C"⟩ : MethodName) jdk_52_method_5_code 2 (some .char) :: ws) ({ frames := 0, cells := 0, slots := 0, locals := 0 } : Room)) (fun ar_ U => ar_ = #[(.ref t), (.int j)] ∧ Z.Warmed39 U.vm ∧ U.heap = h0) (fun _ _ _ _ _ => True) (fun _ U o U' => ∃ v L, o = .returned v ∧ Q_m21 Z t k z vs j x0 x1 h0 n0 v U'.heap L ∧ FrameEnd U o U' L ({ frames := 0, cells := 0, slots := 0, locals := 0 } : Room).cells ({ frames := 0, cells := 0, slots := 0, locals := 0 } : Room).slots) := by
  refine MetFree.of_bodySF (plainFor_of_name pnx_java_lang_StringUTF16) hisR ?_
  intro p e s m args below meth c s₁ Bd hml0 hP hK
  obtain ⟨rfl, hZ, hh⟩ := hP
  have hx := Bd.exec
  have hby := Bd.bytes
  have hml : c.maxLocals = 2 := hml0
  have hown : s.vm.findClass "java/lang/StringUTF16" = some m.cls := findClass_of_methodNamed Bd.named
  have hnm := (name_of_methodNamed Bd.named Bd.method).1
  have X0 : Stand p l e ({ frames := 0, cells := 0, slots := 0, locals := 0 } : Room) s m #[(.ref t), (.int j)] below meth c s₁ [] 0 0 := Stand.of_body Bd
  have e0 : s₁.heap = h0 := by rw [← hh, Bd.state]; rfl
  have N0 := Fr.nil n0
  have pre0 : ∀ tq_, Steps p.tables e below (s₁.setTop (mkF m 0 #[.val (.ref t), .val (.int j)] [])) tq_ → Steps p.tables e below (s₁.setTop (entryFrame m #[(.ref t), (.int j)] 2)) tq_ := fun tq_ kt_ => castTop (ef_m21 m t k z vs j x0 x1 ) kt_
  obtain ⟨T1, X1, e1, st1⟩ := getS2 X0 hx hZ hown (host := "") (Or.inl (wk hw 91 rfl)) Via.refl e0 S_AD (g := (mkF m 0 #[.val (.ref t), .val (.int j)] [])) rfl (hb hby d21_0)
  obtain ⟨c2, Ar2, -, Sz2, -, H2, -⟩ := id V
  have hin2 := inb_of Sz2 ⟨hb0, hb1⟩
  have hat2 := H2 (j <<< ((1 : Int32) &&& 31)).toNatClampNeg (Nat.lt_of_not_le fun q => hin2 (Or.inr q))
  rw [hv0] at hat2
  obtain ⟨T3, X3, e3, st3⟩ := getS2 X1 hx hZ hown (host := "") (Or.inl (wk hw 92 rfl)) Via.refl e1 S_HI (g := (mkF m 42 #[.val (.ref t), .val (.int ((j <<< ((1 : Int32) &&& 31)) + (1 : Int32)))] [(.int (x0 &&& (255 : Int32)))])) rfl (hb hby d21_42)
  obtain ⟨c4, Ar4, -, Sz4, -, H4, -⟩ := id V
  have hin4 := inb_of Sz4 ⟨hc0, hc1⟩
  have hat4 := H4 ((j <<< ((1 : Int32) &&& 31)) + (1 : Int32)).toNatClampNeg (Nat.lt_of_not_le fun q => hin4 (Or.inr q))
  rw [hv1] at hat4
  obtain ⟨T5, X5, e5, st5⟩ := getS2 X3 hx hZ hown (host := "") (Or.inl (wk hw 93 rfl)) Via.refl e3 S_LO (g := (mkF m 53 #[.val (.ref t), .val (.int ((j <<< ((1 : Int32) &&& 31)) + (1 : Int32)))] [(.int (x1 &&& (255 : Int32))), (.int ((x0 &&& (255 : Int32)) <<< ((0 : Int32) &&& 31)))])) rfl (hb hby d21_53)
  obtain ⟨fs, hr, hrun, hended, hW, hsame⟩ := X5.leave (v := some (.int (own_u x0 x1))) (fun h => by rw [Bd.returns] at h; cases h)
  refine ⟨_, _, pre0 _ ?_, hrun, hended, _, _, rfl, ?_, ⟨_, rfl⟩, hW, hsame.mono (nle rfl) (nle rfl)⟩
  · show Steps p.tables e below (s₁.setTop (mkF m 0 #[.val (.ref t), .val (.int j)] [])) _
    refine st1 _ ?_
    show Steps p.tables e below (T1.setTop (mkF m 3 #[.val (.ref t), .val (.int j)] [(.int (1 : Int32))])) _
    refine XS.ifYes X1.here hx rfl (pc0 := 3) (pc' := 28) rfl (hb hby d21_3) rfl ((if0 _ _).trans (feq (by decide : ¬ ((1 : Int32) = (0 : Int32)))).2) (by decide) (by decide) ?_
    show Steps p.tables e below (T1.setTop (mkF m 28 #[.val (.ref t), .val (.int j)] [])) _
    refine XS.iloadN X1.here hx rfl (hb hby d21_28) rfl ?_
    refine XS.iconst X1.here hx rfl (hb hby d21_29) ?_
    show Steps p.tables e below (T1.setTop (mkF m 30 #[.val (.ref t), .val (.int j)] [(.int (1 : Int32)), (.int j)])) _
    refine XS.ishl X1.here hx rfl (hb hby d21_30) rfl ?_
    refine XS.istoreN X1.here hx rfl (hb hby d21_31) rfl (l' := #[.val (.ref t), .val (.int (j <<< ((1 : Int32) &&& 31)))]) rfl ?_
    show Steps p.tables e below (T1.setTop (mkF m 32 #[.val (.ref t), .val (.int (j <<< ((1 : Int32) &&& 31)))] [])) _
    refine XS.aloadN X1.here hx rfl (hb hby d21_32) rfl rfl ?_
    refine XS.iloadN X1.here hx rfl (hb hby d21_33) rfl ?_
    show Steps p.tables e below (T1.setTop (mkF m 34 #[.val (.ref t), .val (.int (j <<< ((1 : Int32) &&& 31)))] [(.int (j <<< ((1 : Int32) &&& 31))), (.ref t)])) _
    refine XS.iinc X1.here hx rfl (hb hby d21_34) rfl (l' := #[.val (.ref t), .val (.int ((j <<< ((1 : Int32) &&& 31)) + (1 : Int32)))]) rfl ?_
    show Steps p.tables e below (T1.setTop (mkF m 37 #[.val (.ref t), .val (.int ((j <<< ((1 : Int32) &&& 31)) + (1 : Int32)))] [(.int (j <<< ((1 : Int32) &&& 31))), (.ref t)])) _
    refine X1.baloadBytes hx (j := (j <<< ((1 : Int32) &&& 31))) (v := (.int x0)) (by rw [e1]; exact Ar2.1) (State.isArrayOf_alike hZ.alike Ar2.2.1) Ar2.2.2 hin2 hat2 (g := (mkF m 37 #[.val (.ref t), .val (.int ((j <<< ((1 : Int32) &&& 31)) + (1 : Int32)))] [(.int (j <<< ((1 : Int32) &&& 31))), (.ref t)])) rfl rfl (hb hby d21_37) _ ?_
    show Steps p.tables e below (T1.setTop (mkF m 38 #[.val (.ref t), .val (.int ((j <<< ((1 : Int32) &&& 31)) + (1 : Int32)))] [(.int x0)])) _
    refine XS.sipush X1.here hx rfl (hb hby d21_38) ?_
    refine XS.iand X1.here hx rfl (hb hby d21_41) rfl ?_
    show Steps p.tables e below (T1.setTop (mkF m 42 #[.val (.ref t), .val (.int ((j <<< ((1 : Int32) &&& 31)) + (1 : Int32)))] [(.int (x0 &&& (255 : Int32)))])) _
    refine st3 _ ?_
    show Steps p.tables e below (T3.setTop (mkF m 45 #[.val (.ref t), .val (.int ((j <<< ((1 : Int32) &&& 31)) + (1 : Int32)))] [(.int (0 : Int32)), (.int (x0 &&& (255 : Int32)))])) _
    refine XS.ishl X3.here hx rfl (hb hby d21_45) rfl ?_
    refine XS.aloadN X3.here hx rfl (hb hby d21_46) rfl rfl ?_
    show Steps p.tables e below (T3.setTop (mkF m 47 #[.val (.ref t), .val (.int ((j <<< ((1 : Int32) &&& 31)) + (1 : Int32)))] [(.ref t), (.int ((x0 &&& (255 : Int32)) <<< ((0 : Int32) &&& 31)))])) _
    refine XS.iloadN X3.here hx rfl (hb hby d21_47) rfl ?_
    show Steps p.tables e below (T3.setTop (mkF m 48 #[.val (.ref t), .val (.int ((j <<< ((1 : Int32) &&& 31)) + (1 : Int32)))] [(.int ((j <<< ((1 : Int32) &&& 31)) + (1 : Int32))), (.ref t), (.int ((x0 &&& (255 : Int32)) <<< ((0 : Int32) &&& 31)))])) _
    refine X3.baloadBytes hx (j := ((j <<< ((1 : Int32) &&& 31)) + (1 : Int32))) (v := (.int x1)) (by rw [e3]; exact Ar4.1) (State.isArrayOf_alike hZ.alike Ar4.2.1) Ar4.2.2 hin4 hat4 (g := (mkF m 48 #[.val (.ref t), .val (.int ((j <<< ((1 : Int32) &&& 31)) + (1 : Int32)))] [(.int ((j <<< ((1 : Int32) &&& 31)) + (1 : Int32))), (.ref t), (.int ((x0 &&& (255 : Int32)) <<< ((0 : Int32) &&& 31)))])) rfl rfl (hb hby d21_48) _ ?_
    show Steps p.tables e below (T3.setTop (mkF m 49 #[.val (.ref t), .val (.int ((j <<< ((1 : Int32) &&& 31)) + (1 : Int32)))] [(.int x1), (.int ((x0 &&& (255 : Int32)) <<< ((0 : Int32) &&& 31)))])) _
    refine XS.sipush X3.here hx rfl (hb hby d21_49) ?_
    refine XS.iand X3.here hx rfl (hb hby d21_52) rfl ?_
    show Steps p.tables e below (T3.setTop (mkF m 53 #[.val (.ref t), .val (.int ((j <<< ((1 : Int32) &&& 31)) + (1 : Int32)))] [(.int (x1 &&& (255 : Int32))), (.int ((x0 &&& (255 : Int32)) <<< ((0 : Int32) &&& 31)))])) _
    refine st5 _ ?_
    show Steps p.tables e below (T5.setTop (mkF m 56 #[.val (.ref t), .val (.int ((j <<< ((1 : Int32) &&& 31)) + (1 : Int32)))] [(.int (8 : Int32)), (.int (x1 &&& (255 : Int32))), (.int ((x0 &&& (255 : Int32)) <<< ((0 : Int32) &&& 31)))])) _
    refine XS.ishl X5.here hx rfl (hb hby d21_56) rfl ?_
    refine XS.ior X5.here hx rfl (hb hby d21_57) rfl ?_
    show Steps p.tables e below (T5.setTop (mkF m 58 #[.val (.ref t), .val (.int ((j <<< ((1 : Int32) &&& 31)) + (1 : Int32)))] [(.int (((x0 &&& (255 : Int32)) <<< ((0 : Int32) &&& 31)) ||| ((x1 &&& (255 : Int32)) <<< ((8 : Int32) &&& 31))))])) _
    show Steps p.tables e below (T5.setTop (mkF m 58 #[.val (.ref t), .val (.int ((j <<< ((1 : Int32) &&& 31)) + (1 : Int32)))] [(.int (((x0 &&& (255 : Int32)) <<< ((0 : Int32) &&& 31)) ||| ((x1 &&& (255 : Int32)) <<< ((8 : Int32) &&& 31))))])) _
    refine XS.i2c X5.here hx rfl (hb hby d21_58) rfl ?_
    show Steps p.tables e below (T5.setTop (mkF m 59 #[.val (.ref t), .val (.int ((j <<< ((1 : Int32) &&& 31)) + (1 : Int32)))] [(.int (own_u x0 x1))])) _
    exact own_retN X5 hx (t := .char) (own_u_nar x0 x1) Bd.returns (by simp) (hb hby d21_59) hr
  · show Q_m21 Z t k z vs j x0 x1 h0 n0 _ T5.heap _
    exact ⟨rfl, N0, e5⟩
theorem d9_0 : decode jdk_52_method_21_code 0 = .ok (.iconst 0, 1) := by decide +kernel
theorem d9_1 : decode jdk_52_method_21_code 1 = .ok (.istore 5, 2) := by decide +kernel
theorem d9_3 : decode jdk_52_method_21_code 3 = .ok (.iload 5, 2) := by decide +kernel
theorem d9_5 : decode jdk_52_method_21_code 5 = .ok (.iload 4, 2) := by decide +kernel
theorem d9_7 : decode jdk_52_method_21_code 7 = .ok (.if_icmp .ge 37, 3) := by decide +kernel
theorem d9_10 : decode jdk_52_method_21_code 10 = .ok (.aload_n 0, 1) := by decide +kernel
theorem d9_11 : decode jdk_52_method_21_code 11 = .ok (.iload_n 1, 1) := by decide +kernel
theorem d9_12 : decode jdk_52_method_21_code 12 = .ok (.caload, 1) := by decide +kernel
theorem d9_13 : decode jdk_52_method_21_code 13 = .ok (.istore 6, 2) := by decide +kernel
theorem d9_15 : decode jdk_52_method_21_code 15 = .ok (.iload 6, 2) := by decide +kernel
theorem d9_17 : decode jdk_52_method_21_code 17 = .ok (.sipush 255, 3) := by decide +kernel
theorem d9_20 : decode jdk_52_method_21_code 20 = .ok (.if_icmp .le 6, 3) := by decide +kernel
theorem d9_23 : decode jdk_52_method_21_code 23 = .ok (.iload 5, 2) := by decide +kernel
theorem d9_25 : decode jdk_52_method_21_code 25 = .ok (.ireturn, 1) := by decide +kernel
def Q_m9_0 (Z : State) (z : Int32) (sa : Addr) (ks : ClassId) (cs : List Value) (vb : Addr) (kb : ClassId) (vs : List Value) (x0 : Int32) (h0 : Heap) (n0 : Nat) (v : Option Value) (h : Heap) (L : List Loc) : Prop := v = (some (.int (0 : Int32))) ∧ Fr n0 L ∧ Keep h0 h [vb]
theorem ef_m9_0 (m : MethodId) (z : Int32) (sa : Addr) (ks : ClassId) (cs : List Value) (vb : Addr) (kb : ClassId) (vs : List Value) (x0 : Int32) : entryFrame m #[(.ref sa), (.int (0 : Int32)), (.ref vb), (.int (0 : Int32)), (.int z)] 7 = mkF m 0 #[.val (.ref sa), .val (.int (0 : Int32)), .val (.ref vb), .val (.int (0 : Int32)), .val (.int z), .unset, .unset] [] := by first | (simp [entryFrame, mkF, argsToLocals, Value.category]; done) | rfl
set_option maxRecDepth 65536 in
set_option maxHeartbeats 40000000 in
theorem m9_0 (l : Launch) (Z : State) (a0 : Array Value) (hw : ∀ d ∈ tables_1, d.before a0 Z = true) (ws : List Jvm.Cond) (z : Int32) (sa : Addr) (ks : ClassId) (cs : List Value) (vb : Addr) (kb : ClassId) (vs : List Value) (x0 : Int32) (h0 : Heap) (n0 : Nat) (Z0 : n0 ≤ h0.size) (Vs : Arv Z h0 sa ks .char z cs (.int (0 : Int32))) (Vb : Arv Z h0 vb kb .byte z vs (.int (0 : Int32))) (gv : n0 ≤ vb) (hz0 : (0 : Int32) < z) (hv0 : cs.getD (0 : Int32).toNatClampNeg (.int (0 : Int32)) = .int x0) (h0_ : (255 : Int32) < x0) :
    MetFree l (⟨"java/lang/StringUTF16", "compress", "([CI[BII)I"⟩ : MethodName) (head1 (Jvm.Cond.code (⟨"java/lang/StringUTF16", "compress", "([CI[BII)I"⟩ : MethodName) jdk_52_method_21_code 7 (some .int) :: ws) ({ frames := 0, cells := 0, slots := 0, locals := 0 } : Room)) (fun ar_ U => ar_ = #[(.ref sa), (.int (0 : Int32)), (.ref vb), (.int (0 : Int32)), (.int z)] ∧ Z.Warmed39 U.vm ∧ U.heap = h0) (fun _ _ _ _ _ => True) (fun _ U o U' => ∃ v L, o = .returned v ∧ Q_m9_0 Z z sa ks cs vb kb vs x0 h0 n0 v U'.heap L ∧ FrameEnd U o U' L ({ frames := 0, cells := 0, slots := 0, locals := 0 } : Room).cells ({ frames := 0, cells := 0, slots := 0, locals := 0 } : Room).slots) := by
  refine MetFree.of_bodySF (plainFor_of_name pnx_java_lang_StringUTF16) hisR ?_
  intro p e s m args below meth c s₁ Bd hml0 hP hK
  obtain ⟨rfl, hZ, hh⟩ := hP
  have hx := Bd.exec
  have hby := Bd.bytes
  have hml : c.maxLocals = 7 := hml0
  have hown : s.vm.findClass "java/lang/StringUTF16" = some m.cls := findClass_of_methodNamed Bd.named
  have hnm := (name_of_methodNamed Bd.named Bd.method).1
  have X0 : Stand p l e ({ frames := 0, cells := 0, slots := 0, locals := 0 } : Room) s m #[(.ref sa), (.int (0 : Int32)), (.ref vb), (.int (0 : Int32)), (.int z)] below meth c s₁ [] 0 0 := Stand.of_body Bd
  have e0 : s₁.heap = h0 := by rw [← hh, Bd.state]; rfl
  have N0 := Fr.nil n0
  have pre0 : ∀ tq_, Steps p.tables e below (s₁.setTop (mkF m 0 #[.val (.ref sa), .val (.int (0 : Int32)), .val (.ref vb), .val (.int (0 : Int32)), .val (.int z), .unset, .unset] [])) tq_ → Steps p.tables e below (s₁.setTop (entryFrame m #[(.ref sa), (.int (0 : Int32)), (.ref vb), (.int (0 : Int32)), (.int z)] 7)) tq_ := fun tq_ kt_ => castTop (ef_m9_0 m z sa ks cs vb kb vs x0 ) kt_
  obtain ⟨c1, Ar1, -, Sz1, -, H1, -⟩ := id Vs
  have hin1 := inb_of Sz1 ⟨(by decide : ¬ ((0 : Int32) < (0 : Int32))), hz0⟩
  have hat1 := H1 (0 : Int32).toNatClampNeg (Nat.lt_of_not_le fun q => hin1 (Or.inr q))
  rw [hv0] at hat1
  obtain ⟨fs, hr, hrun, hended, hW, hsame⟩ := X0.leave (v := some (.int (0 : Int32))) (fun h => by rw [Bd.returns] at h; cases h)
  refine ⟨_, _, pre0 _ ?_, hrun, hended, _, _, rfl, ?_, ⟨_, rfl⟩, hW, hsame.mono (nle rfl) (nle rfl)⟩
  · show Steps p.tables e below (s₁.setTop (mkF m 0 #[.val (.ref sa), .val (.int (0 : Int32)), .val (.ref vb), .val (.int (0 : Int32)), .val (.int z), .unset, .unset] [])) _
    refine XS.iconst X0.here hx rfl (hb hby d9_0) ?_
    refine XS.istore X0.here hx rfl (hb hby d9_1) rfl (l' := #[.val (.ref sa), .val (.int (0 : Int32)), .val (.ref vb), .val (.int (0 : Int32)), .val (.int z), .val (.int (0 : Int32)), .unset]) rfl ?_
    show Steps p.tables e below (s₁.setTop (mkF m 3 #[.val (.ref sa), .val (.int (0 : Int32)), .val (.ref vb), .val (.int (0 : Int32)), .val (.int z), .val (.int (0 : Int32)), .unset] [])) _
    refine XS.iload X0.here hx rfl (hb hby d9_3) rfl ?_
    refine XS.iload X0.here hx rfl (hb hby d9_5) rfl ?_
    show Steps p.tables e below (s₁.setTop (mkF m 7 #[.val (.ref sa), .val (.int (0 : Int32)), .val (.ref vb), .val (.int (0 : Int32)), .val (.int z), .val (.int (0 : Int32)), .unset] [(.int z), (.int (0 : Int32))])) _
    refine XS.icmpNo X0.here hx rfl (hb hby d9_7) rfl (tlt (hz0 : (0 : Int32) < z)).2.1 ?_
    show Steps p.tables e below (s₁.setTop (mkF m 10 #[.val (.ref sa), .val (.int (0 : Int32)), .val (.ref vb), .val (.int (0 : Int32)), .val (.int z), .val (.int (0 : Int32)), .unset] [])) _
    refine XS.aloadN X0.here hx rfl (hb hby d9_10) rfl rfl ?_
    refine XS.iloadN X0.here hx rfl (hb hby d9_11) rfl ?_
    show Steps p.tables e below (s₁.setTop (mkF m 12 #[.val (.ref sa), .val (.int (0 : Int32)), .val (.ref vb), .val (.int (0 : Int32)), .val (.int z), .val (.int (0 : Int32)), .unset] [(.int (0 : Int32)), (.ref sa)])) _
    refine X0.caload hx (j := (0 : Int32)) (v := (.int x0)) (by rw [e0]; exact Ar1.1) (State.isArrayOf_alike hZ.alike Ar1.2.1) Ar1.2.2 hin1 hat1 (g := (mkF m 12 #[.val (.ref sa), .val (.int (0 : Int32)), .val (.ref vb), .val (.int (0 : Int32)), .val (.int z), .val (.int (0 : Int32)), .unset] [(.int (0 : Int32)), (.ref sa)])) rfl rfl (hb hby d9_12) _ ?_
    show Steps p.tables e below (s₁.setTop (mkF m 13 #[.val (.ref sa), .val (.int (0 : Int32)), .val (.ref vb), .val (.int (0 : Int32)), .val (.int z), .val (.int (0 : Int32)), .unset] [(.int x0)])) _
    refine XS.istore X0.here hx rfl (hb hby d9_13) rfl (l' := #[.val (.ref sa), .val (.int (0 : Int32)), .val (.ref vb), .val (.int (0 : Int32)), .val (.int z), .val (.int (0 : Int32)), .val (.int x0)]) rfl ?_
    refine XS.iload X0.here hx rfl (hb hby d9_15) rfl ?_
    show Steps p.tables e below (s₁.setTop (mkF m 17 #[.val (.ref sa), .val (.int (0 : Int32)), .val (.ref vb), .val (.int (0 : Int32)), .val (.int z), .val (.int (0 : Int32)), .val (.int x0)] [(.int x0)])) _
    refine XS.sipush X0.here hx rfl (hb hby d9_17) ?_
    show Steps p.tables e below (s₁.setTop (mkF m 20 #[.val (.ref sa), .val (.int (0 : Int32)), .val (.ref vb), .val (.int (0 : Int32)), .val (.int z), .val (.int (0 : Int32)), .val (.int x0)] [(.int (255 : Int32)), (.int x0)])) _
    refine XS.icmpNo X0.here hx rfl (hb hby d9_20) rfl (tlt (h0_ : (255 : Int32) < x0)).2.2.2 ?_
    show Steps p.tables e below (s₁.setTop (mkF m 23 #[.val (.ref sa), .val (.int (0 : Int32)), .val (.ref vb), .val (.int (0 : Int32)), .val (.int z), .val (.int (0 : Int32)), .val (.int x0)] [])) _
    refine XS.iload X0.here hx rfl (hb hby d9_23) rfl ?_
    show Steps p.tables e below (s₁.setTop (mkF m 25 #[.val (.ref sa), .val (.int (0 : Int32)), .val (.ref vb), .val (.int (0 : Int32)), .val (.int z), .val (.int (0 : Int32)), .val (.int x0)] [(.int (0 : Int32))])) _
    exact retI X0 hx Bd.returns (hb hby d9_25) hr
  · show Q_m9_0 Z z sa ks cs vb kb vs x0 h0 n0 _ s₁.heap _
    rw [e0]
    exact ⟨rfl, N0, (Keep.refl h0 [vb])⟩
theorem d9_26 : decode jdk_52_method_21_code 26 = .ok (.aload_n 2, 1) := by decide +kernel
theorem d9_27 : decode jdk_52_method_21_code 27 = .ok (.iload_n 3, 1) := by decide +kernel
theorem d9_28 : decode jdk_52_method_21_code 28 = .ok (.iload 6, 2) := by decide +kernel
theorem d9_30 : decode jdk_52_method_21_code 30 = .ok (.i2b, 1) := by decide +kernel
theorem d9_31 : decode jdk_52_method_21_code 31 = .ok (.bastore, 1) := by decide +kernel
theorem d9_32 : decode jdk_52_method_21_code 32 = .ok (.iinc 1 1, 3) := by decide +kernel
theorem d9_35 : decode jdk_52_method_21_code 35 = .ok (.iinc 3 1, 3) := by decide +kernel
theorem d9_38 : decode jdk_52_method_21_code 38 = .ok (.iinc 5 1, 3) := by decide +kernel
theorem d9_41 : decode jdk_52_method_21_code 41 = .ok (.goto (-38), 3) := by decide +kernel
def Q_m9_1 (Z : State) (z : Int32) (sa : Addr) (ks : ClassId) (cs : List Value) (vb : Addr) (kb : ClassId) (vs : List Value) (x0 : Int32) (x1 : Int32) (h0 : Heap) (n0 : Nat) (v : Option Value) (h : Heap) (L : List Loc) : Prop := v = (some (.int (1 : Int32))) ∧ Fr n0 L ∧ Keep h0 h [vb]
theorem ef_m9_1 (m : MethodId) (z : Int32) (sa : Addr) (ks : ClassId) (cs : List Value) (vb : Addr) (kb : ClassId) (vs : List Value) (x0 : Int32) (x1 : Int32) : entryFrame m #[(.ref sa), (.int (0 : Int32)), (.ref vb), (.int (0 : Int32)), (.int z)] 7 = mkF m 0 #[.val (.ref sa), .val (.int (0 : Int32)), .val (.ref vb), .val (.int (0 : Int32)), .val (.int z), .unset, .unset] [] := by first | (simp [entryFrame, mkF, argsToLocals, Value.category]; done) | rfl
set_option maxRecDepth 65536 in
set_option maxHeartbeats 40000000 in
theorem m9_1 (l : Launch) (Z : State) (a0 : Array Value) (hw : ∀ d ∈ tables_1, d.before a0 Z = true) (ws : List Jvm.Cond) (z : Int32) (sa : Addr) (ks : ClassId) (cs : List Value) (vb : Addr) (kb : ClassId) (vs : List Value) (x0 : Int32) (x1 : Int32) (h0 : Heap) (n0 : Nat) (Z0 : n0 ≤ h0.size) (Vs : Arv Z h0 sa ks .char z cs (.int (0 : Int32))) (Vb : Arv Z h0 vb kb .byte z vs (.int (0 : Int32))) (gv : n0 ≤ vb) (hz0 : (0 : Int32) < z) (hz1 : (1 : Int32) < z) (hv0 : cs.getD (0 : Int32).toNatClampNeg (.int (0 : Int32)) = .int x0) (hv1 : cs.getD (1 : Int32).toNatClampNeg (.int (0 : Int32)) = .int x1) (hl0 : 0 < vs.length) (h0_ : ¬ ((255 : Int32) < x0)) (h1_ : (255 : Int32) < x1) :
    MetFree l (⟨"java/lang/StringUTF16", "compress", "([CI[BII)I"⟩ : MethodName) (head1 (Jvm.Cond.code (⟨"java/lang/StringUTF16", "compress", "([CI[BII)I"⟩ : MethodName) jdk_52_method_21_code 7 (some .int) :: ws) ({ frames := 0, cells := 0, slots := 0, locals := 0 } : Room)) (fun ar_ U => ar_ = #[(.ref sa), (.int (0 : Int32)), (.ref vb), (.int (0 : Int32)), (.int z)] ∧ Z.Warmed39 U.vm ∧ U.heap = h0) (fun _ _ _ _ _ => True) (fun _ U o U' => ∃ v L, o = .returned v ∧ Q_m9_1 Z z sa ks cs vb kb vs x0 x1 h0 n0 v U'.heap L ∧ FrameEnd U o U' L ({ frames := 0, cells := 0, slots := 0, locals := 0 } : Room).cells ({ frames := 0, cells := 0, slots := 0, locals := 0 } : Room).slots) := by
  refine MetFree.of_bodySF (plainFor_of_name pnx_java_lang_StringUTF16) hisR ?_
  intro p e s m args below meth c s₁ Bd hml0 hP hK
  obtain ⟨rfl, hZ, hh⟩ := hP
  have hx := Bd.exec
  have hby := Bd.bytes
  have hml : c.maxLocals = 7 := hml0
  have hown : s.vm.findClass "java/lang/StringUTF16" = some m.cls := findClass_of_methodNamed Bd.named
  have hnm := (name_of_methodNamed Bd.named Bd.method).1
  have X0 : Stand p l e ({ frames := 0, cells := 0, slots := 0, locals := 0 } : Room) s m #[(.ref sa), (.int (0 : Int32)), (.ref vb), (.int (0 : Int32)), (.int z)] below meth c s₁ [] 0 0 := Stand.of_body Bd
  have e0 : s₁.heap = h0 := by rw [← hh, Bd.state]; rfl
  have N0 := Fr.nil n0
  have pre0 : ∀ tq_, Steps p.tables e below (s₁.setTop (mkF m 0 #[.val (.ref sa), .val (.int (0 : Int32)), .val (.ref vb), .val (.int (0 : Int32)), .val (.int z), .unset, .unset] [])) tq_ → Steps p.tables e below (s₁.setTop (entryFrame m #[(.ref sa), (.int (0 : Int32)), (.ref vb), (.int (0 : Int32)), (.int z)] 7)) tq_ := fun tq_ kt_ => castTop (ef_m9_1 m z sa ks cs vb kb vs x0 x1 ) kt_
  obtain ⟨c1, Ar1, -, Sz1, -, H1, -⟩ := id Vs
  have hin1 := inb_of Sz1 ⟨(by decide : ¬ ((0 : Int32) < (0 : Int32))), hz0⟩
  have hat1 := H1 (0 : Int32).toNatClampNeg (Nat.lt_of_not_le fun q => hin1 (Or.inr q))
  rw [hv0] at hat1
  obtain ⟨c2, A2, q2, S2, M2, H2, U2⟩ := id Vb
  obtain ⟨T2, h2, X2, e2, W2, st2⟩ := stB X0 hx hZ e0 A2 (j := (0 : Int32)) (inb_of S2 ⟨(by decide : ¬ ((0 : Int32) < (0 : Int32))), hz0⟩) (g := (mkF m 31 #[.val (.ref sa), .val (.int (0 : Int32)), .val (.ref vb), .val (.int (0 : Int32)), .val (.int z), .val (.int (0 : Int32)), .val (.int x0)] [(.int (x0.toInt8.toInt32)), (.int (0 : Int32)), (.ref vb)])) rfl rfl (hb hby d9_31)
  have N2 := Fr.snoc X2 N0 gv
  have V2 : Arv Z h2 vb kb .byte z (vs.set 0 (.int (nar .byte (x0.toInt8.toInt32)))) (.int (0 : Int32)) := Arv.set A2 q2 S2 M2 H2 U2 (fits_nar_byte _) W2 0 rfl (by first | exact hl0 | (simp only [List.length_set]; exact hl0))
  have ne_3 : sa ≠ vb := own_tyne Vs Vb (by decide)
  have K4 : Keep h0 h2 [vb] := (Keep.refl h0 [vb]).wr W2 (Or.inl (by simp))
  have F6 := (Vs.other W2 ne_3)
  obtain ⟨c5, Ar5, -, Sz5, -, H5, -⟩ := id F6
  have hin5 := inb_of Sz5 ⟨(by decide : ¬ ((1 : Int32) < (0 : Int32))), hz1⟩
  have hat5 := H5 (1 : Int32).toNatClampNeg (Nat.lt_of_not_le fun q => hin5 (Or.inr q))
  rw [hv1] at hat5
  obtain ⟨fs, hr, hrun, hended, hW, hsame⟩ := X2.leave (v := some (.int (1 : Int32))) (fun h => by rw [Bd.returns] at h; cases h)
  refine ⟨_, _, pre0 _ ?_, hrun, hended, _, _, rfl, ?_, ⟨_, rfl⟩, hW, hsame.mono (nle rfl) (nle rfl)⟩
  · show Steps p.tables e below (s₁.setTop (mkF m 0 #[.val (.ref sa), .val (.int (0 : Int32)), .val (.ref vb), .val (.int (0 : Int32)), .val (.int z), .unset, .unset] [])) _
    refine XS.iconst X0.here hx rfl (hb hby d9_0) ?_
    refine XS.istore X0.here hx rfl (hb hby d9_1) rfl (l' := #[.val (.ref sa), .val (.int (0 : Int32)), .val (.ref vb), .val (.int (0 : Int32)), .val (.int z), .val (.int (0 : Int32)), .unset]) rfl ?_
    show Steps p.tables e below (s₁.setTop (mkF m 3 #[.val (.ref sa), .val (.int (0 : Int32)), .val (.ref vb), .val (.int (0 : Int32)), .val (.int z), .val (.int (0 : Int32)), .unset] [])) _
    refine XS.iload X0.here hx rfl (hb hby d9_3) rfl ?_
    refine XS.iload X0.here hx rfl (hb hby d9_5) rfl ?_
    show Steps p.tables e below (s₁.setTop (mkF m 7 #[.val (.ref sa), .val (.int (0 : Int32)), .val (.ref vb), .val (.int (0 : Int32)), .val (.int z), .val (.int (0 : Int32)), .unset] [(.int z), (.int (0 : Int32))])) _
    refine XS.icmpNo X0.here hx rfl (hb hby d9_7) rfl (tlt (hz0 : (0 : Int32) < z)).2.1 ?_
    show Steps p.tables e below (s₁.setTop (mkF m 10 #[.val (.ref sa), .val (.int (0 : Int32)), .val (.ref vb), .val (.int (0 : Int32)), .val (.int z), .val (.int (0 : Int32)), .unset] [])) _
    refine XS.aloadN X0.here hx rfl (hb hby d9_10) rfl rfl ?_
    refine XS.iloadN X0.here hx rfl (hb hby d9_11) rfl ?_
    show Steps p.tables e below (s₁.setTop (mkF m 12 #[.val (.ref sa), .val (.int (0 : Int32)), .val (.ref vb), .val (.int (0 : Int32)), .val (.int z), .val (.int (0 : Int32)), .unset] [(.int (0 : Int32)), (.ref sa)])) _
    refine X0.caload hx (j := (0 : Int32)) (v := (.int x0)) (by rw [e0]; exact Ar1.1) (State.isArrayOf_alike hZ.alike Ar1.2.1) Ar1.2.2 hin1 hat1 (g := (mkF m 12 #[.val (.ref sa), .val (.int (0 : Int32)), .val (.ref vb), .val (.int (0 : Int32)), .val (.int z), .val (.int (0 : Int32)), .unset] [(.int (0 : Int32)), (.ref sa)])) rfl rfl (hb hby d9_12) _ ?_
    show Steps p.tables e below (s₁.setTop (mkF m 13 #[.val (.ref sa), .val (.int (0 : Int32)), .val (.ref vb), .val (.int (0 : Int32)), .val (.int z), .val (.int (0 : Int32)), .unset] [(.int x0)])) _
    refine XS.istore X0.here hx rfl (hb hby d9_13) rfl (l' := #[.val (.ref sa), .val (.int (0 : Int32)), .val (.ref vb), .val (.int (0 : Int32)), .val (.int z), .val (.int (0 : Int32)), .val (.int x0)]) rfl ?_
    refine XS.iload X0.here hx rfl (hb hby d9_15) rfl ?_
    show Steps p.tables e below (s₁.setTop (mkF m 17 #[.val (.ref sa), .val (.int (0 : Int32)), .val (.ref vb), .val (.int (0 : Int32)), .val (.int z), .val (.int (0 : Int32)), .val (.int x0)] [(.int x0)])) _
    refine XS.sipush X0.here hx rfl (hb hby d9_17) ?_
    show Steps p.tables e below (s₁.setTop (mkF m 20 #[.val (.ref sa), .val (.int (0 : Int32)), .val (.ref vb), .val (.int (0 : Int32)), .val (.int z), .val (.int (0 : Int32)), .val (.int x0)] [(.int (255 : Int32)), (.int x0)])) _
    refine XS.icmpYes X0.here hx rfl (pc0 := 20) (pc' := 26) rfl (hb hby d9_20) rfl (flt (h0_ : ¬ ((255 : Int32) < x0))).2.2.2 (by decide) (by decide) ?_
    show Steps p.tables e below (s₁.setTop (mkF m 26 #[.val (.ref sa), .val (.int (0 : Int32)), .val (.ref vb), .val (.int (0 : Int32)), .val (.int z), .val (.int (0 : Int32)), .val (.int x0)] [])) _
    refine XS.aloadN X0.here hx rfl (hb hby d9_26) rfl rfl ?_
    refine XS.iloadN X0.here hx rfl (hb hby d9_27) rfl ?_
    show Steps p.tables e below (s₁.setTop (mkF m 28 #[.val (.ref sa), .val (.int (0 : Int32)), .val (.ref vb), .val (.int (0 : Int32)), .val (.int z), .val (.int (0 : Int32)), .val (.int x0)] [(.int (0 : Int32)), (.ref vb)])) _
    refine XS.iload X0.here hx rfl (hb hby d9_28) rfl ?_
    refine XS.i2b X0.here hx rfl (hb hby d9_30) rfl ?_
    show Steps p.tables e below (s₁.setTop (mkF m 31 #[.val (.ref sa), .val (.int (0 : Int32)), .val (.ref vb), .val (.int (0 : Int32)), .val (.int z), .val (.int (0 : Int32)), .val (.int x0)] [(.int (x0.toInt8.toInt32)), (.int (0 : Int32)), (.ref vb)])) _
    refine st2 _ ?_
    show Steps p.tables e below (T2.setTop (mkF m 32 #[.val (.ref sa), .val (.int (0 : Int32)), .val (.ref vb), .val (.int (0 : Int32)), .val (.int z), .val (.int (0 : Int32)), .val (.int x0)] [])) _
    refine XS.iinc X2.here hx rfl (hb hby d9_32) rfl (l' := #[.val (.ref sa), .val (.int (1 : Int32)), .val (.ref vb), .val (.int (0 : Int32)), .val (.int z), .val (.int (0 : Int32)), .val (.int x0)]) rfl ?_
    refine XS.iinc X2.here hx rfl (hb hby d9_35) rfl (l' := #[.val (.ref sa), .val (.int (1 : Int32)), .val (.ref vb), .val (.int (1 : Int32)), .val (.int z), .val (.int (0 : Int32)), .val (.int x0)]) rfl ?_
    show Steps p.tables e below (T2.setTop (mkF m 38 #[.val (.ref sa), .val (.int (1 : Int32)), .val (.ref vb), .val (.int (1 : Int32)), .val (.int z), .val (.int (0 : Int32)), .val (.int x0)] [])) _
    refine XS.iinc X2.here hx rfl (hb hby d9_38) rfl (l' := #[.val (.ref sa), .val (.int (1 : Int32)), .val (.ref vb), .val (.int (1 : Int32)), .val (.int z), .val (.int (1 : Int32)), .val (.int x0)]) rfl ?_
    refine XS.goto X2.here hx rfl (pc0 := 41) (pc' := 3) rfl (hb hby d9_41) (by decide) (by decide) ?_
    show Steps p.tables e below (T2.setTop (mkF m 3 #[.val (.ref sa), .val (.int (1 : Int32)), .val (.ref vb), .val (.int (1 : Int32)), .val (.int z), .val (.int (1 : Int32)), .val (.int x0)] [])) _
    refine XS.iload X2.here hx rfl (hb hby d9_3) rfl ?_
    refine XS.iload X2.here hx rfl (hb hby d9_5) rfl ?_
    show Steps p.tables e below (T2.setTop (mkF m 7 #[.val (.ref sa), .val (.int (1 : Int32)), .val (.ref vb), .val (.int (1 : Int32)), .val (.int z), .val (.int (1 : Int32)), .val (.int x0)] [(.int z), (.int (1 : Int32))])) _
    refine XS.icmpNo X2.here hx rfl (hb hby d9_7) rfl (tlt (hz1 : (1 : Int32) < z)).2.1 ?_
    show Steps p.tables e below (T2.setTop (mkF m 10 #[.val (.ref sa), .val (.int (1 : Int32)), .val (.ref vb), .val (.int (1 : Int32)), .val (.int z), .val (.int (1 : Int32)), .val (.int x0)] [])) _
    refine XS.aloadN X2.here hx rfl (hb hby d9_10) rfl rfl ?_
    refine XS.iloadN X2.here hx rfl (hb hby d9_11) rfl ?_
    show Steps p.tables e below (T2.setTop (mkF m 12 #[.val (.ref sa), .val (.int (1 : Int32)), .val (.ref vb), .val (.int (1 : Int32)), .val (.int z), .val (.int (1 : Int32)), .val (.int x0)] [(.int (1 : Int32)), (.ref sa)])) _
    refine X2.caload hx (j := (1 : Int32)) (v := (.int x1)) (by rw [e2]; exact Ar5.1) (State.isArrayOf_alike hZ.alike Ar5.2.1) Ar5.2.2 hin5 hat5 (g := (mkF m 12 #[.val (.ref sa), .val (.int (1 : Int32)), .val (.ref vb), .val (.int (1 : Int32)), .val (.int z), .val (.int (1 : Int32)), .val (.int x0)] [(.int (1 : Int32)), (.ref sa)])) rfl rfl (hb hby d9_12) _ ?_
    show Steps p.tables e below (T2.setTop (mkF m 13 #[.val (.ref sa), .val (.int (1 : Int32)), .val (.ref vb), .val (.int (1 : Int32)), .val (.int z), .val (.int (1 : Int32)), .val (.int x0)] [(.int x1)])) _
    refine XS.istore X2.here hx rfl (hb hby d9_13) rfl (l' := #[.val (.ref sa), .val (.int (1 : Int32)), .val (.ref vb), .val (.int (1 : Int32)), .val (.int z), .val (.int (1 : Int32)), .val (.int x1)]) rfl ?_
    refine XS.iload X2.here hx rfl (hb hby d9_15) rfl ?_
    show Steps p.tables e below (T2.setTop (mkF m 17 #[.val (.ref sa), .val (.int (1 : Int32)), .val (.ref vb), .val (.int (1 : Int32)), .val (.int z), .val (.int (1 : Int32)), .val (.int x1)] [(.int x1)])) _
    refine XS.sipush X2.here hx rfl (hb hby d9_17) ?_
    show Steps p.tables e below (T2.setTop (mkF m 20 #[.val (.ref sa), .val (.int (1 : Int32)), .val (.ref vb), .val (.int (1 : Int32)), .val (.int z), .val (.int (1 : Int32)), .val (.int x1)] [(.int (255 : Int32)), (.int x1)])) _
    refine XS.icmpNo X2.here hx rfl (hb hby d9_20) rfl (tlt (h1_ : (255 : Int32) < x1)).2.2.2 ?_
    show Steps p.tables e below (T2.setTop (mkF m 23 #[.val (.ref sa), .val (.int (1 : Int32)), .val (.ref vb), .val (.int (1 : Int32)), .val (.int z), .val (.int (1 : Int32)), .val (.int x1)] [])) _
    refine XS.iload X2.here hx rfl (hb hby d9_23) rfl ?_
    show Steps p.tables e below (T2.setTop (mkF m 25 #[.val (.ref sa), .val (.int (1 : Int32)), .val (.ref vb), .val (.int (1 : Int32)), .val (.int z), .val (.int (1 : Int32)), .val (.int x1)] [(.int (1 : Int32))])) _
    exact retI X2 hx Bd.returns (hb hby d9_25) hr
  · show Q_m9_1 Z z sa ks cs vb kb vs x0 x1 h0 n0 _ T2.heap _
    rw [e2]
    exact ⟨rfl, N2, K4⟩
def Q_m9_2 (Z : State) (z : Int32) (sa : Addr) (ks : ClassId) (cs : List Value) (vb : Addr) (kb : ClassId) (vs : List Value) (x0 : Int32) (x1 : Int32) (x2 : Int32) (h0 : Heap) (n0 : Nat) (v : Option Value) (h : Heap) (L : List Loc) : Prop := v = (some (.int (2 : Int32))) ∧ Fr n0 L ∧ Keep h0 h [vb]
theorem ef_m9_2 (m : MethodId) (z : Int32) (sa : Addr) (ks : ClassId) (cs : List Value) (vb : Addr) (kb : ClassId) (vs : List Value) (x0 : Int32) (x1 : Int32) (x2 : Int32) : entryFrame m #[(.ref sa), (.int (0 : Int32)), (.ref vb), (.int (0 : Int32)), (.int z)] 7 = mkF m 0 #[.val (.ref sa), .val (.int (0 : Int32)), .val (.ref vb), .val (.int (0 : Int32)), .val (.int z), .unset, .unset] [] := by first | (simp [entryFrame, mkF, argsToLocals, Value.category]; done) | rfl
set_option maxRecDepth 65536 in
set_option maxHeartbeats 40000000 in
theorem m9_2 (l : Launch) (Z : State) (a0 : Array Value) (hw : ∀ d ∈ tables_1, d.before a0 Z = true) (ws : List Jvm.Cond) (z : Int32) (sa : Addr) (ks : ClassId) (cs : List Value) (vb : Addr) (kb : ClassId) (vs : List Value) (x0 : Int32) (x1 : Int32) (x2 : Int32) (h0 : Heap) (n0 : Nat) (Z0 : n0 ≤ h0.size) (Vs : Arv Z h0 sa ks .char z cs (.int (0 : Int32))) (Vb : Arv Z h0 vb kb .byte z vs (.int (0 : Int32))) (gv : n0 ≤ vb) (hz0 : (0 : Int32) < z) (hz1 : (1 : Int32) < z) (hz2 : (2 : Int32) < z) (hv0 : cs.getD (0 : Int32).toNatClampNeg (.int (0 : Int32)) = .int x0) (hv1 : cs.getD (1 : Int32).toNatClampNeg (.int (0 : Int32)) = .int x1) (hv2 : cs.getD (2 : Int32).toNatClampNeg (.int (0 : Int32)) = .int x2) (hl0 : 0 < vs.length) (hl1 : 1 < vs.length) (h0_ : ¬ ((255 : Int32) < x0)) (h1_ : ¬ ((255 : Int32) < x1)) (h2_ : (255 : Int32) < x2) :
    MetFree l (⟨"java/lang/StringUTF16", "compress", "([CI[BII)I"⟩ : MethodName) (head1 (Jvm.Cond.code (⟨"java/lang/StringUTF16", "compress", "([CI[BII)I"⟩ : MethodName) jdk_52_method_21_code 7 (some .int) :: ws) ({ frames := 0, cells := 0, slots := 0, locals := 0 } : Room)) (fun ar_ U => ar_ = #[(.ref sa), (.int (0 : Int32)), (.ref vb), (.int (0 : Int32)), (.int z)] ∧ Z.Warmed39 U.vm ∧ U.heap = h0) (fun _ _ _ _ _ => True) (fun _ U o U' => ∃ v L, o = .returned v ∧ Q_m9_2 Z z sa ks cs vb kb vs x0 x1 x2 h0 n0 v U'.heap L ∧ FrameEnd U o U' L ({ frames := 0, cells := 0, slots := 0, locals := 0 } : Room).cells ({ frames := 0, cells := 0, slots := 0, locals := 0 } : Room).slots) := by
  refine MetFree.of_bodySF (plainFor_of_name pnx_java_lang_StringUTF16) hisR ?_
  intro p e s m args below meth c s₁ Bd hml0 hP hK
  obtain ⟨rfl, hZ, hh⟩ := hP
  have hx := Bd.exec
  have hby := Bd.bytes
  have hml : c.maxLocals = 7 := hml0
  have hown : s.vm.findClass "java/lang/StringUTF16" = some m.cls := findClass_of_methodNamed Bd.named
  have hnm := (name_of_methodNamed Bd.named Bd.method).1
  have X0 : Stand p l e ({ frames := 0, cells := 0, slots := 0, locals := 0 } : Room) s m #[(.ref sa), (.int (0 : Int32)), (.ref vb), (.int (0 : Int32)), (.int z)] below meth c s₁ [] 0 0 := Stand.of_body Bd
  have e0 : s₁.heap = h0 := by rw [← hh, Bd.state]; rfl
  have N0 := Fr.nil n0
  have pre0 : ∀ tq_, Steps p.tables e below (s₁.setTop (mkF m 0 #[.val (.ref sa), .val (.int (0 : Int32)), .val (.ref vb), .val (.int (0 : Int32)), .val (.int z), .unset, .unset] [])) tq_ → Steps p.tables e below (s₁.setTop (entryFrame m #[(.ref sa), (.int (0 : Int32)), (.ref vb), (.int (0 : Int32)), (.int z)] 7)) tq_ := fun tq_ kt_ => castTop (ef_m9_2 m z sa ks cs vb kb vs x0 x1 x2 ) kt_
  obtain ⟨c1, Ar1, -, Sz1, -, H1, -⟩ := id Vs
  have hin1 := inb_of Sz1 ⟨(by decide : ¬ ((0 : Int32) < (0 : Int32))), hz0⟩
  have hat1 := H1 (0 : Int32).toNatClampNeg (Nat.lt_of_not_le fun q => hin1 (Or.inr q))
  rw [hv0] at hat1
  obtain ⟨c2, A2, q2, S2, M2, H2, U2⟩ := id Vb
  obtain ⟨T2, h2, X2, e2, W2, st2⟩ := stB X0 hx hZ e0 A2 (j := (0 : Int32)) (inb_of S2 ⟨(by decide : ¬ ((0 : Int32) < (0 : Int32))), hz0⟩) (g := (mkF m 31 #[.val (.ref sa), .val (.int (0 : Int32)), .val (.ref vb), .val (.int (0 : Int32)), .val (.int z), .val (.int (0 : Int32)), .val (.int x0)] [(.int (x0.toInt8.toInt32)), (.int (0 : Int32)), (.ref vb)])) rfl rfl (hb hby d9_31)
  have N2 := Fr.snoc X2 N0 gv
  have V2 : Arv Z h2 vb kb .byte z (vs.set 0 (.int (nar .byte (x0.toInt8.toInt32)))) (.int (0 : Int32)) := Arv.set A2 q2 S2 M2 H2 U2 (fits_nar_byte _) W2 0 rfl (by first | exact hl0 | (simp only [List.length_set]; exact hl0))
  have ne_3 : sa ≠ vb := own_tyne Vs Vb (by decide)
  have K4 : Keep h0 h2 [vb] := (Keep.refl h0 [vb]).wr W2 (Or.inl (by simp))
  have F6 := (Vs.other W2 ne_3)
  obtain ⟨c5, Ar5, -, Sz5, -, H5, -⟩ := id F6
  have hin5 := inb_of Sz5 ⟨(by decide : ¬ ((1 : Int32) < (0 : Int32))), hz1⟩
  have hat5 := H5 (1 : Int32).toNatClampNeg (Nat.lt_of_not_le fun q => hin5 (Or.inr q))
  rw [hv1] at hat5
  obtain ⟨c7, A7, q7, S7, M7, H7, U7⟩ := id V2
  obtain ⟨T7, h7, X7, e7, W7, st7⟩ := stB X2 hx hZ e2 A7 (j := (1 : Int32)) (inb_of S7 ⟨(by decide : ¬ ((1 : Int32) < (0 : Int32))), hz1⟩) (g := (mkF m 31 #[.val (.ref sa), .val (.int (1 : Int32)), .val (.ref vb), .val (.int (1 : Int32)), .val (.int z), .val (.int (1 : Int32)), .val (.int x1)] [(.int (x1.toInt8.toInt32)), (.int (1 : Int32)), (.ref vb)])) rfl rfl (hb hby d9_31)
  have N7 := Fr.snoc X7 N2 gv
  have V7 : Arv Z h7 vb kb .byte z ((vs.set 0 (.int (nar .byte (x0.toInt8.toInt32)))).set 1 (.int (nar .byte (x1.toInt8.toInt32)))) (.int (0 : Int32)) := Arv.set A7 q7 S7 M7 H7 U7 (fits_nar_byte _) W7 1 rfl (by first | exact hl1 | (simp only [List.length_set]; exact hl1))
  have K8 : Keep h0 h7 [vb] := K4.wr W7 (Or.inl (by simp))
  have F10 := (F6.other W7 ne_3)
  obtain ⟨c9, Ar9, -, Sz9, -, H9, -⟩ := id F10
  have hin9 := inb_of Sz9 ⟨(by decide : ¬ ((2 : Int32) < (0 : Int32))), hz2⟩
  have hat9 := H9 (2 : Int32).toNatClampNeg (Nat.lt_of_not_le fun q => hin9 (Or.inr q))
  rw [hv2] at hat9
  obtain ⟨fs, hr, hrun, hended, hW, hsame⟩ := X7.leave (v := some (.int (2 : Int32))) (fun h => by rw [Bd.returns] at h; cases h)
  refine ⟨_, _, pre0 _ ?_, hrun, hended, _, _, rfl, ?_, ⟨_, rfl⟩, hW, hsame.mono (nle rfl) (nle rfl)⟩
  · show Steps p.tables e below (s₁.setTop (mkF m 0 #[.val (.ref sa), .val (.int (0 : Int32)), .val (.ref vb), .val (.int (0 : Int32)), .val (.int z), .unset, .unset] [])) _
    refine XS.iconst X0.here hx rfl (hb hby d9_0) ?_
    refine XS.istore X0.here hx rfl (hb hby d9_1) rfl (l' := #[.val (.ref sa), .val (.int (0 : Int32)), .val (.ref vb), .val (.int (0 : Int32)), .val (.int z), .val (.int (0 : Int32)), .unset]) rfl ?_
    show Steps p.tables e below (s₁.setTop (mkF m 3 #[.val (.ref sa), .val (.int (0 : Int32)), .val (.ref vb), .val (.int (0 : Int32)), .val (.int z), .val (.int (0 : Int32)), .unset] [])) _
    refine XS.iload X0.here hx rfl (hb hby d9_3) rfl ?_
    refine XS.iload X0.here hx rfl (hb hby d9_5) rfl ?_
    show Steps p.tables e below (s₁.setTop (mkF m 7 #[.val (.ref sa), .val (.int (0 : Int32)), .val (.ref vb), .val (.int (0 : Int32)), .val (.int z), .val (.int (0 : Int32)), .unset] [(.int z), (.int (0 : Int32))])) _
    refine XS.icmpNo X0.here hx rfl (hb hby d9_7) rfl (tlt (hz0 : (0 : Int32) < z)).2.1 ?_
    show Steps p.tables e below (s₁.setTop (mkF m 10 #[.val (.ref sa), .val (.int (0 : Int32)), .val (.ref vb), .val (.int (0 : Int32)), .val (.int z), .val (.int (0 : Int32)), .unset] [])) _
    refine XS.aloadN X0.here hx rfl (hb hby d9_10) rfl rfl ?_
    refine XS.iloadN X0.here hx rfl (hb hby d9_11) rfl ?_
    show Steps p.tables e below (s₁.setTop (mkF m 12 #[.val (.ref sa), .val (.int (0 : Int32)), .val (.ref vb), .val (.int (0 : Int32)), .val (.int z), .val (.int (0 : Int32)), .unset] [(.int (0 : Int32)), (.ref sa)])) _
    refine X0.caload hx (j := (0 : Int32)) (v := (.int x0)) (by rw [e0]; exact Ar1.1) (State.isArrayOf_alike hZ.alike Ar1.2.1) Ar1.2.2 hin1 hat1 (g := (mkF m 12 #[.val (.ref sa), .val (.int (0 : Int32)), .val (.ref vb), .val (.int (0 : Int32)), .val (.int z), .val (.int (0 : Int32)), .unset] [(.int (0 : Int32)), (.ref sa)])) rfl rfl (hb hby d9_12) _ ?_
    show Steps p.tables e below (s₁.setTop (mkF m 13 #[.val (.ref sa), .val (.int (0 : Int32)), .val (.ref vb), .val (.int (0 : Int32)), .val (.int z), .val (.int (0 : Int32)), .unset] [(.int x0)])) _
    refine XS.istore X0.here hx rfl (hb hby d9_13) rfl (l' := #[.val (.ref sa), .val (.int (0 : Int32)), .val (.ref vb), .val (.int (0 : Int32)), .val (.int z), .val (.int (0 : Int32)), .val (.int x0)]) rfl ?_
    refine XS.iload X0.here hx rfl (hb hby d9_15) rfl ?_
    show Steps p.tables e below (s₁.setTop (mkF m 17 #[.val (.ref sa), .val (.int (0 : Int32)), .val (.ref vb), .val (.int (0 : Int32)), .val (.int z), .val (.int (0 : Int32)), .val (.int x0)] [(.int x0)])) _
    refine XS.sipush X0.here hx rfl (hb hby d9_17) ?_
    show Steps p.tables e below (s₁.setTop (mkF m 20 #[.val (.ref sa), .val (.int (0 : Int32)), .val (.ref vb), .val (.int (0 : Int32)), .val (.int z), .val (.int (0 : Int32)), .val (.int x0)] [(.int (255 : Int32)), (.int x0)])) _
    refine XS.icmpYes X0.here hx rfl (pc0 := 20) (pc' := 26) rfl (hb hby d9_20) rfl (flt (h0_ : ¬ ((255 : Int32) < x0))).2.2.2 (by decide) (by decide) ?_
    show Steps p.tables e below (s₁.setTop (mkF m 26 #[.val (.ref sa), .val (.int (0 : Int32)), .val (.ref vb), .val (.int (0 : Int32)), .val (.int z), .val (.int (0 : Int32)), .val (.int x0)] [])) _
    refine XS.aloadN X0.here hx rfl (hb hby d9_26) rfl rfl ?_
    refine XS.iloadN X0.here hx rfl (hb hby d9_27) rfl ?_
    show Steps p.tables e below (s₁.setTop (mkF m 28 #[.val (.ref sa), .val (.int (0 : Int32)), .val (.ref vb), .val (.int (0 : Int32)), .val (.int z), .val (.int (0 : Int32)), .val (.int x0)] [(.int (0 : Int32)), (.ref vb)])) _
    refine XS.iload X0.here hx rfl (hb hby d9_28) rfl ?_
    refine XS.i2b X0.here hx rfl (hb hby d9_30) rfl ?_
    show Steps p.tables e below (s₁.setTop (mkF m 31 #[.val (.ref sa), .val (.int (0 : Int32)), .val (.ref vb), .val (.int (0 : Int32)), .val (.int z), .val (.int (0 : Int32)), .val (.int x0)] [(.int (x0.toInt8.toInt32)), (.int (0 : Int32)), (.ref vb)])) _
    refine st2 _ ?_
    show Steps p.tables e below (T2.setTop (mkF m 32 #[.val (.ref sa), .val (.int (0 : Int32)), .val (.ref vb), .val (.int (0 : Int32)), .val (.int z), .val (.int (0 : Int32)), .val (.int x0)] [])) _
    refine XS.iinc X2.here hx rfl (hb hby d9_32) rfl (l' := #[.val (.ref sa), .val (.int (1 : Int32)), .val (.ref vb), .val (.int (0 : Int32)), .val (.int z), .val (.int (0 : Int32)), .val (.int x0)]) rfl ?_
    refine XS.iinc X2.here hx rfl (hb hby d9_35) rfl (l' := #[.val (.ref sa), .val (.int (1 : Int32)), .val (.ref vb), .val (.int (1 : Int32)), .val (.int z), .val (.int (0 : Int32)), .val (.int x0)]) rfl ?_
    show Steps p.tables e below (T2.setTop (mkF m 38 #[.val (.ref sa), .val (.int (1 : Int32)), .val (.ref vb), .val (.int (1 : Int32)), .val (.int z), .val (.int (0 : Int32)), .val (.int x0)] [])) _
    refine XS.iinc X2.here hx rfl (hb hby d9_38) rfl (l' := #[.val (.ref sa), .val (.int (1 : Int32)), .val (.ref vb), .val (.int (1 : Int32)), .val (.int z), .val (.int (1 : Int32)), .val (.int x0)]) rfl ?_
    refine XS.goto X2.here hx rfl (pc0 := 41) (pc' := 3) rfl (hb hby d9_41) (by decide) (by decide) ?_
    show Steps p.tables e below (T2.setTop (mkF m 3 #[.val (.ref sa), .val (.int (1 : Int32)), .val (.ref vb), .val (.int (1 : Int32)), .val (.int z), .val (.int (1 : Int32)), .val (.int x0)] [])) _
    refine XS.iload X2.here hx rfl (hb hby d9_3) rfl ?_
    refine XS.iload X2.here hx rfl (hb hby d9_5) rfl ?_
    show Steps p.tables e below (T2.setTop (mkF m 7 #[.val (.ref sa), .val (.int (1 : Int32)), .val (.ref vb), .val (.int (1 : Int32)), .val (.int z), .val (.int (1 : Int32)), .val (.int x0)] [(.int z), (.int (1 : Int32))])) _
    refine XS.icmpNo X2.here hx rfl (hb hby d9_7) rfl (tlt (hz1 : (1 : Int32) < z)).2.1 ?_
    show Steps p.tables e below (T2.setTop (mkF m 10 #[.val (.ref sa), .val (.int (1 : Int32)), .val (.ref vb), .val (.int (1 : Int32)), .val (.int z), .val (.int (1 : Int32)), .val (.int x0)] [])) _
    refine XS.aloadN X2.here hx rfl (hb hby d9_10) rfl rfl ?_
    refine XS.iloadN X2.here hx rfl (hb hby d9_11) rfl ?_
    show Steps p.tables e below (T2.setTop (mkF m 12 #[.val (.ref sa), .val (.int (1 : Int32)), .val (.ref vb), .val (.int (1 : Int32)), .val (.int z), .val (.int (1 : Int32)), .val (.int x0)] [(.int (1 : Int32)), (.ref sa)])) _
    refine X2.caload hx (j := (1 : Int32)) (v := (.int x1)) (by rw [e2]; exact Ar5.1) (State.isArrayOf_alike hZ.alike Ar5.2.1) Ar5.2.2 hin5 hat5 (g := (mkF m 12 #[.val (.ref sa), .val (.int (1 : Int32)), .val (.ref vb), .val (.int (1 : Int32)), .val (.int z), .val (.int (1 : Int32)), .val (.int x0)] [(.int (1 : Int32)), (.ref sa)])) rfl rfl (hb hby d9_12) _ ?_
    show Steps p.tables e below (T2.setTop (mkF m 13 #[.val (.ref sa), .val (.int (1 : Int32)), .val (.ref vb), .val (.int (1 : Int32)), .val (.int z), .val (.int (1 : Int32)), .val (.int x0)] [(.int x1)])) _
    refine XS.istore X2.here hx rfl (hb hby d9_13) rfl (l' := #[.val (.ref sa), .val (.int (1 : Int32)), .val (.ref vb), .val (.int (1 : Int32)), .val (.int z), .val (.int (1 : Int32)), .val (.int x1)]) rfl ?_
    refine XS.iload X2.here hx rfl (hb hby d9_15) rfl ?_
    show Steps p.tables e below (T2.setTop (mkF m 17 #[.val (.ref sa), .val (.int (1 : Int32)), .val (.ref vb), .val (.int (1 : Int32)), .val (.int z), .val (.int (1 : Int32)), .val (.int x1)] [(.int x1)])) _
    refine XS.sipush X2.here hx rfl (hb hby d9_17) ?_
    show Steps p.tables e below (T2.setTop (mkF m 20 #[.val (.ref sa), .val (.int (1 : Int32)), .val (.ref vb), .val (.int (1 : Int32)), .val (.int z), .val (.int (1 : Int32)), .val (.int x1)] [(.int (255 : Int32)), (.int x1)])) _
    refine XS.icmpYes X2.here hx rfl (pc0 := 20) (pc' := 26) rfl (hb hby d9_20) rfl (flt (h1_ : ¬ ((255 : Int32) < x1))).2.2.2 (by decide) (by decide) ?_
    show Steps p.tables e below (T2.setTop (mkF m 26 #[.val (.ref sa), .val (.int (1 : Int32)), .val (.ref vb), .val (.int (1 : Int32)), .val (.int z), .val (.int (1 : Int32)), .val (.int x1)] [])) _
    refine XS.aloadN X2.here hx rfl (hb hby d9_26) rfl rfl ?_
    refine XS.iloadN X2.here hx rfl (hb hby d9_27) rfl ?_
    show Steps p.tables e below (T2.setTop (mkF m 28 #[.val (.ref sa), .val (.int (1 : Int32)), .val (.ref vb), .val (.int (1 : Int32)), .val (.int z), .val (.int (1 : Int32)), .val (.int x1)] [(.int (1 : Int32)), (.ref vb)])) _
    refine XS.iload X2.here hx rfl (hb hby d9_28) rfl ?_
    refine XS.i2b X2.here hx rfl (hb hby d9_30) rfl ?_
    show Steps p.tables e below (T2.setTop (mkF m 31 #[.val (.ref sa), .val (.int (1 : Int32)), .val (.ref vb), .val (.int (1 : Int32)), .val (.int z), .val (.int (1 : Int32)), .val (.int x1)] [(.int (x1.toInt8.toInt32)), (.int (1 : Int32)), (.ref vb)])) _
    refine st7 _ ?_
    show Steps p.tables e below (T7.setTop (mkF m 32 #[.val (.ref sa), .val (.int (1 : Int32)), .val (.ref vb), .val (.int (1 : Int32)), .val (.int z), .val (.int (1 : Int32)), .val (.int x1)] [])) _
    refine XS.iinc X7.here hx rfl (hb hby d9_32) rfl (l' := #[.val (.ref sa), .val (.int (2 : Int32)), .val (.ref vb), .val (.int (1 : Int32)), .val (.int z), .val (.int (1 : Int32)), .val (.int x1)]) rfl ?_
    refine XS.iinc X7.here hx rfl (hb hby d9_35) rfl (l' := #[.val (.ref sa), .val (.int (2 : Int32)), .val (.ref vb), .val (.int (2 : Int32)), .val (.int z), .val (.int (1 : Int32)), .val (.int x1)]) rfl ?_
    show Steps p.tables e below (T7.setTop (mkF m 38 #[.val (.ref sa), .val (.int (2 : Int32)), .val (.ref vb), .val (.int (2 : Int32)), .val (.int z), .val (.int (1 : Int32)), .val (.int x1)] [])) _
    refine XS.iinc X7.here hx rfl (hb hby d9_38) rfl (l' := #[.val (.ref sa), .val (.int (2 : Int32)), .val (.ref vb), .val (.int (2 : Int32)), .val (.int z), .val (.int (2 : Int32)), .val (.int x1)]) rfl ?_
    refine XS.goto X7.here hx rfl (pc0 := 41) (pc' := 3) rfl (hb hby d9_41) (by decide) (by decide) ?_
    show Steps p.tables e below (T7.setTop (mkF m 3 #[.val (.ref sa), .val (.int (2 : Int32)), .val (.ref vb), .val (.int (2 : Int32)), .val (.int z), .val (.int (2 : Int32)), .val (.int x1)] [])) _
    refine XS.iload X7.here hx rfl (hb hby d9_3) rfl ?_
    refine XS.iload X7.here hx rfl (hb hby d9_5) rfl ?_
    show Steps p.tables e below (T7.setTop (mkF m 7 #[.val (.ref sa), .val (.int (2 : Int32)), .val (.ref vb), .val (.int (2 : Int32)), .val (.int z), .val (.int (2 : Int32)), .val (.int x1)] [(.int z), (.int (2 : Int32))])) _
    refine XS.icmpNo X7.here hx rfl (hb hby d9_7) rfl (tlt (hz2 : (2 : Int32) < z)).2.1 ?_
    show Steps p.tables e below (T7.setTop (mkF m 10 #[.val (.ref sa), .val (.int (2 : Int32)), .val (.ref vb), .val (.int (2 : Int32)), .val (.int z), .val (.int (2 : Int32)), .val (.int x1)] [])) _
    refine XS.aloadN X7.here hx rfl (hb hby d9_10) rfl rfl ?_
    refine XS.iloadN X7.here hx rfl (hb hby d9_11) rfl ?_
    show Steps p.tables e below (T7.setTop (mkF m 12 #[.val (.ref sa), .val (.int (2 : Int32)), .val (.ref vb), .val (.int (2 : Int32)), .val (.int z), .val (.int (2 : Int32)), .val (.int x1)] [(.int (2 : Int32)), (.ref sa)])) _
    refine X7.caload hx (j := (2 : Int32)) (v := (.int x2)) (by rw [e7]; exact Ar9.1) (State.isArrayOf_alike hZ.alike Ar9.2.1) Ar9.2.2 hin9 hat9 (g := (mkF m 12 #[.val (.ref sa), .val (.int (2 : Int32)), .val (.ref vb), .val (.int (2 : Int32)), .val (.int z), .val (.int (2 : Int32)), .val (.int x1)] [(.int (2 : Int32)), (.ref sa)])) rfl rfl (hb hby d9_12) _ ?_
    show Steps p.tables e below (T7.setTop (mkF m 13 #[.val (.ref sa), .val (.int (2 : Int32)), .val (.ref vb), .val (.int (2 : Int32)), .val (.int z), .val (.int (2 : Int32)), .val (.int x1)] [(.int x2)])) _
    refine XS.istore X7.here hx rfl (hb hby d9_13) rfl (l' := #[.val (.ref sa), .val (.int (2 : Int32)), .val (.ref vb), .val (.int (2 : Int32)), .val (.int z), .val (.int (2 : Int32)), .val (.int x2)]) rfl ?_
    refine XS.iload X7.here hx rfl (hb hby d9_15) rfl ?_
    show Steps p.tables e below (T7.setTop (mkF m 17 #[.val (.ref sa), .val (.int (2 : Int32)), .val (.ref vb), .val (.int (2 : Int32)), .val (.int z), .val (.int (2 : Int32)), .val (.int x2)] [(.int x2)])) _
    refine XS.sipush X7.here hx rfl (hb hby d9_17) ?_
    show Steps p.tables e below (T7.setTop (mkF m 20 #[.val (.ref sa), .val (.int (2 : Int32)), .val (.ref vb), .val (.int (2 : Int32)), .val (.int z), .val (.int (2 : Int32)), .val (.int x2)] [(.int (255 : Int32)), (.int x2)])) _
    refine XS.icmpNo X7.here hx rfl (hb hby d9_20) rfl (tlt (h2_ : (255 : Int32) < x2)).2.2.2 ?_
    show Steps p.tables e below (T7.setTop (mkF m 23 #[.val (.ref sa), .val (.int (2 : Int32)), .val (.ref vb), .val (.int (2 : Int32)), .val (.int z), .val (.int (2 : Int32)), .val (.int x2)] [])) _
    refine XS.iload X7.here hx rfl (hb hby d9_23) rfl ?_
    show Steps p.tables e below (T7.setTop (mkF m 25 #[.val (.ref sa), .val (.int (2 : Int32)), .val (.ref vb), .val (.int (2 : Int32)), .val (.int z), .val (.int (2 : Int32)), .val (.int x2)] [(.int (2 : Int32))])) _
    exact retI X7 hx Bd.returns (hb hby d9_25) hr
  · show Q_m9_2 Z z sa ks cs vb kb vs x0 x1 x2 h0 n0 _ T7.heap _
    rw [e7]
    exact ⟨rfl, N7, K8⟩
def Q_m9_3 (Z : State) (z : Int32) (sa : Addr) (ks : ClassId) (cs : List Value) (vb : Addr) (kb : ClassId) (vs : List Value) (x0 : Int32) (x1 : Int32) (x2 : Int32) (x3 : Int32) (h0 : Heap) (n0 : Nat) (v : Option Value) (h : Heap) (L : List Loc) : Prop := v = (some (.int (3 : Int32))) ∧ Fr n0 L ∧ Keep h0 h [vb]
theorem ef_m9_3 (m : MethodId) (z : Int32) (sa : Addr) (ks : ClassId) (cs : List Value) (vb : Addr) (kb : ClassId) (vs : List Value) (x0 : Int32) (x1 : Int32) (x2 : Int32) (x3 : Int32) : entryFrame m #[(.ref sa), (.int (0 : Int32)), (.ref vb), (.int (0 : Int32)), (.int z)] 7 = mkF m 0 #[.val (.ref sa), .val (.int (0 : Int32)), .val (.ref vb), .val (.int (0 : Int32)), .val (.int z), .unset, .unset] [] := by first | (simp [entryFrame, mkF, argsToLocals, Value.category]; done) | rfl
set_option maxRecDepth 65536 in
set_option maxHeartbeats 40000000 in
theorem m9_3 (l : Launch) (Z : State) (a0 : Array Value) (hw : ∀ d ∈ tables_1, d.before a0 Z = true) (ws : List Jvm.Cond) (z : Int32) (sa : Addr) (ks : ClassId) (cs : List Value) (vb : Addr) (kb : ClassId) (vs : List Value) (x0 : Int32) (x1 : Int32) (x2 : Int32) (x3 : Int32) (h0 : Heap) (n0 : Nat) (Z0 : n0 ≤ h0.size) (Vs : Arv Z h0 sa ks .char z cs (.int (0 : Int32))) (Vb : Arv Z h0 vb kb .byte z vs (.int (0 : Int32))) (gv : n0 ≤ vb) (hz0 : (0 : Int32) < z) (hz1 : (1 : Int32) < z) (hz2 : (2 : Int32) < z) (hz3 : (3 : Int32) < z) (hv0 : cs.getD (0 : Int32).toNatClampNeg (.int (0 : Int32)) = .int x0) (hv1 : cs.getD (1 : Int32).toNatClampNeg (.int (0 : Int32)) = .int x1) (hv2 : cs.getD (2 : Int32).toNatClampNeg (.int (0 : Int32)) = .int x2) (hv3 : cs.getD (3 : Int32).toNatClampNeg (.int (0 : Int32)) = .int x3) (hl0 : 0 < vs.length) (hl1 : 1 < vs.length) (hl2 : 2 < vs.length) (h0_ : ¬ ((255 : Int32) < x0)) (h1_ : ¬ ((255 : Int32) < x1)) (h2_ : ¬ ((255 : Int32) < x2)) (h3_ : (255 : Int32) < x3) :
    MetFree l (⟨"java/lang/StringUTF16", "compress", "([CI[BII)I"⟩ : MethodName) (head1 (Jvm.Cond.code (⟨"java/lang/StringUTF16", "compress", "([CI[BII)I"⟩ : MethodName) jdk_52_method_21_code 7 (some .int) :: ws) ({ frames := 0, cells := 0, slots := 0, locals := 0 } : Room)) (fun ar_ U => ar_ = #[(.ref sa), (.int (0 : Int32)), (.ref vb), (.int (0 : Int32)), (.int z)] ∧ Z.Warmed39 U.vm ∧ U.heap = h0) (fun _ _ _ _ _ => True) (fun _ U o U' => ∃ v L, o = .returned v ∧ Q_m9_3 Z z sa ks cs vb kb vs x0 x1 x2 x3 h0 n0 v U'.heap L ∧ FrameEnd U o U' L ({ frames := 0, cells := 0, slots := 0, locals := 0 } : Room).cells ({ frames := 0, cells := 0, slots := 0, locals := 0 } : Room).slots) := by
  refine MetFree.of_bodySF (plainFor_of_name pnx_java_lang_StringUTF16) hisR ?_
  intro p e s m args below meth c s₁ Bd hml0 hP hK
  obtain ⟨rfl, hZ, hh⟩ := hP
  have hx := Bd.exec
  have hby := Bd.bytes
  have hml : c.maxLocals = 7 := hml0
  have hown : s.vm.findClass "java/lang/StringUTF16" = some m.cls := findClass_of_methodNamed Bd.named
  have hnm := (name_of_methodNamed Bd.named Bd.method).1
  have X0 : Stand p l e ({ frames := 0, cells := 0, slots := 0, locals := 0 } : Room) s m #[(.ref sa), (.int (0 : Int32)), (.ref vb), (.int (0 : Int32)), (.int z)] below meth c s₁ [] 0 0 := Stand.of_body Bd
  have e0 : s₁.heap = h0 := by rw [← hh, Bd.state]; rfl
  have N0 := Fr.nil n0
  have pre0 : ∀ tq_, Steps p.tables e below (s₁.setTop (mkF m 0 #[.val (.ref sa), .val (.int (0 : Int32)), .val (.ref vb), .val (.int (0 : Int32)), .val (.int z), .unset, .unset] [])) tq_ → Steps p.tables e below (s₁.setTop (entryFrame m #[(.ref sa), (.int (0 : Int32)), (.ref vb), (.int (0 : Int32)), (.int z)] 7)) tq_ := fun tq_ kt_ => castTop (ef_m9_3 m z sa ks cs vb kb vs x0 x1 x2 x3 ) kt_
  obtain ⟨c1, Ar1, -, Sz1, -, H1, -⟩ := id Vs
  have hin1 := inb_of Sz1 ⟨(by decide : ¬ ((0 : Int32) < (0 : Int32))), hz0⟩
  have hat1 := H1 (0 : Int32).toNatClampNeg (Nat.lt_of_not_le fun q => hin1 (Or.inr q))
  rw [hv0] at hat1
  obtain ⟨c2, A2, q2, S2, M2, H2, U2⟩ := id Vb
  obtain ⟨T2, h2, X2, e2, W2, st2⟩ := stB X0 hx hZ e0 A2 (j := (0 : Int32)) (inb_of S2 ⟨(by decide : ¬ ((0 : Int32) < (0 : Int32))), hz0⟩) (g := (mkF m 31 #[.val (.ref sa), .val (.int (0 : Int32)), .val (.ref vb), .val (.int (0 : Int32)), .val (.int z), .val (.int (0 : Int32)), .val (.int x0)] [(.int (x0.toInt8.toInt32)), (.int (0 : Int32)), (.ref vb)])) rfl rfl (hb hby d9_31)
  have N2 := Fr.snoc X2 N0 gv
  have V2 : Arv Z h2 vb kb .byte z (vs.set 0 (.int (nar .byte (x0.toInt8.toInt32)))) (.int (0 : Int32)) := Arv.set A2 q2 S2 M2 H2 U2 (fits_nar_byte _) W2 0 rfl (by first | exact hl0 | (simp only [List.length_set]; exact hl0))
  have ne_3 : sa ≠ vb := own_tyne Vs Vb (by decide)
  have K4 : Keep h0 h2 [vb] := (Keep.refl h0 [vb]).wr W2 (Or.inl (by simp))
  have F6 := (Vs.other W2 ne_3)
  obtain ⟨c5, Ar5, -, Sz5, -, H5, -⟩ := id F6
  have hin5 := inb_of Sz5 ⟨(by decide : ¬ ((1 : Int32) < (0 : Int32))), hz1⟩
  have hat5 := H5 (1 : Int32).toNatClampNeg (Nat.lt_of_not_le fun q => hin5 (Or.inr q))
  rw [hv1] at hat5
  obtain ⟨c7, A7, q7, S7, M7, H7, U7⟩ := id V2
  obtain ⟨T7, h7, X7, e7, W7, st7⟩ := stB X2 hx hZ e2 A7 (j := (1 : Int32)) (inb_of S7 ⟨(by decide : ¬ ((1 : Int32) < (0 : Int32))), hz1⟩) (g := (mkF m 31 #[.val (.ref sa), .val (.int (1 : Int32)), .val (.ref vb), .val (.int (1 : Int32)), .val (.int z), .val (.int (1 : Int32)), .val (.int x1)] [(.int (x1.toInt8.toInt32)), (.int (1 : Int32)), (.ref vb)])) rfl rfl (hb hby d9_31)
  have N7 := Fr.snoc X7 N2 gv
  have V7 : Arv Z h7 vb kb .byte z ((vs.set 0 (.int (nar .byte (x0.toInt8.toInt32)))).set 1 (.int (nar .byte (x1.toInt8.toInt32)))) (.int (0 : Int32)) := Arv.set A7 q7 S7 M7 H7 U7 (fits_nar_byte _) W7 1 rfl (by first | exact hl1 | (simp only [List.length_set]; exact hl1))
  have K8 : Keep h0 h7 [vb] := K4.wr W7 (Or.inl (by simp))
  have F10 := (F6.other W7 ne_3)
  obtain ⟨c9, Ar9, -, Sz9, -, H9, -⟩ := id F10
  have hin9 := inb_of Sz9 ⟨(by decide : ¬ ((2 : Int32) < (0 : Int32))), hz2⟩
  have hat9 := H9 (2 : Int32).toNatClampNeg (Nat.lt_of_not_le fun q => hin9 (Or.inr q))
  rw [hv2] at hat9
  obtain ⟨c11, A11, q11, S11, M11, H11, U11⟩ := id V7
  obtain ⟨T11, h11, X11, e11, W11, st11⟩ := stB X7 hx hZ e7 A11 (j := (2 : Int32)) (inb_of S11 ⟨(by decide : ¬ ((2 : Int32) < (0 : Int32))), hz2⟩) (g := (mkF m 31 #[.val (.ref sa), .val (.int (2 : Int32)), .val (.ref vb), .val (.int (2 : Int32)), .val (.int z), .val (.int (2 : Int32)), .val (.int x2)] [(.int (x2.toInt8.toInt32)), (.int (2 : Int32)), (.ref vb)])) rfl rfl (hb hby d9_31)
  have N11 := Fr.snoc X11 N7 gv
  have V11 : Arv Z h11 vb kb .byte z (((vs.set 0 (.int (nar .byte (x0.toInt8.toInt32)))).set 1 (.int (nar .byte (x1.toInt8.toInt32)))).set 2 (.int (nar .byte (x2.toInt8.toInt32)))) (.int (0 : Int32)) := Arv.set A11 q11 S11 M11 H11 U11 (fits_nar_byte _) W11 2 rfl (by first | exact hl2 | (simp only [List.length_set]; exact hl2))
  have K12 : Keep h0 h11 [vb] := K8.wr W11 (Or.inl (by simp))
  have F14 := (F10.other W11 ne_3)
  obtain ⟨c13, Ar13, -, Sz13, -, H13, -⟩ := id F14
  have hin13 := inb_of Sz13 ⟨(by decide : ¬ ((3 : Int32) < (0 : Int32))), hz3⟩
  have hat13 := H13 (3 : Int32).toNatClampNeg (Nat.lt_of_not_le fun q => hin13 (Or.inr q))
  rw [hv3] at hat13
  obtain ⟨fs, hr, hrun, hended, hW, hsame⟩ := X11.leave (v := some (.int (3 : Int32))) (fun h => by rw [Bd.returns] at h; cases h)
  refine ⟨_, _, pre0 _ ?_, hrun, hended, _, _, rfl, ?_, ⟨_, rfl⟩, hW, hsame.mono (nle rfl) (nle rfl)⟩
  · show Steps p.tables e below (s₁.setTop (mkF m 0 #[.val (.ref sa), .val (.int (0 : Int32)), .val (.ref vb), .val (.int (0 : Int32)), .val (.int z), .unset, .unset] [])) _
    refine XS.iconst X0.here hx rfl (hb hby d9_0) ?_
    refine XS.istore X0.here hx rfl (hb hby d9_1) rfl (l' := #[.val (.ref sa), .val (.int (0 : Int32)), .val (.ref vb), .val (.int (0 : Int32)), .val (.int z), .val (.int (0 : Int32)), .unset]) rfl ?_
    show Steps p.tables e below (s₁.setTop (mkF m 3 #[.val (.ref sa), .val (.int (0 : Int32)), .val (.ref vb), .val (.int (0 : Int32)), .val (.int z), .val (.int (0 : Int32)), .unset] [])) _
    refine XS.iload X0.here hx rfl (hb hby d9_3) rfl ?_
    refine XS.iload X0.here hx rfl (hb hby d9_5) rfl ?_
    show Steps p.tables e below (s₁.setTop (mkF m 7 #[.val (.ref sa), .val (.int (0 : Int32)), .val (.ref vb), .val (.int (0 : Int32)), .val (.int z), .val (.int (0 : Int32)), .unset] [(.int z), (.int (0 : Int32))])) _
    refine XS.icmpNo X0.here hx rfl (hb hby d9_7) rfl (tlt (hz0 : (0 : Int32) < z)).2.1 ?_
    show Steps p.tables e below (s₁.setTop (mkF m 10 #[.val (.ref sa), .val (.int (0 : Int32)), .val (.ref vb), .val (.int (0 : Int32)), .val (.int z), .val (.int (0 : Int32)), .unset] [])) _
    refine XS.aloadN X0.here hx rfl (hb hby d9_10) rfl rfl ?_
    refine XS.iloadN X0.here hx rfl (hb hby d9_11) rfl ?_
    show Steps p.tables e below (s₁.setTop (mkF m 12 #[.val (.ref sa), .val (.int (0 : Int32)), .val (.ref vb), .val (.int (0 : Int32)), .val (.int z), .val (.int (0 : Int32)), .unset] [(.int (0 : Int32)), (.ref sa)])) _
    refine X0.caload hx (j := (0 : Int32)) (v := (.int x0)) (by rw [e0]; exact Ar1.1) (State.isArrayOf_alike hZ.alike Ar1.2.1) Ar1.2.2 hin1 hat1 (g := (mkF m 12 #[.val (.ref sa), .val (.int (0 : Int32)), .val (.ref vb), .val (.int (0 : Int32)), .val (.int z), .val (.int (0 : Int32)), .unset] [(.int (0 : Int32)), (.ref sa)])) rfl rfl (hb hby d9_12) _ ?_
    show Steps p.tables e below (s₁.setTop (mkF m 13 #[.val (.ref sa), .val (.int (0 : Int32)), .val (.ref vb), .val (.int (0 : Int32)), .val (.int z), .val (.int (0 : Int32)), .unset] [(.int x0)])) _
    refine XS.istore X0.here hx rfl (hb hby d9_13) rfl (l' := #[.val (.ref sa), .val (.int (0 : Int32)), .val (.ref vb), .val (.int (0 : Int32)), .val (.int z), .val (.int (0 : Int32)), .val (.int x0)]) rfl ?_
    refine XS.iload X0.here hx rfl (hb hby d9_15) rfl ?_
    show Steps p.tables e below (s₁.setTop (mkF m 17 #[.val (.ref sa), .val (.int (0 : Int32)), .val (.ref vb), .val (.int (0 : Int32)), .val (.int z), .val (.int (0 : Int32)), .val (.int x0)] [(.int x0)])) _
    refine XS.sipush X0.here hx rfl (hb hby d9_17) ?_
    show Steps p.tables e below (s₁.setTop (mkF m 20 #[.val (.ref sa), .val (.int (0 : Int32)), .val (.ref vb), .val (.int (0 : Int32)), .val (.int z), .val (.int (0 : Int32)), .val (.int x0)] [(.int (255 : Int32)), (.int x0)])) _
    refine XS.icmpYes X0.here hx rfl (pc0 := 20) (pc' := 26) rfl (hb hby d9_20) rfl (flt (h0_ : ¬ ((255 : Int32) < x0))).2.2.2 (by decide) (by decide) ?_
    show Steps p.tables e below (s₁.setTop (mkF m 26 #[.val (.ref sa), .val (.int (0 : Int32)), .val (.ref vb), .val (.int (0 : Int32)), .val (.int z), .val (.int (0 : Int32)), .val (.int x0)] [])) _
    refine XS.aloadN X0.here hx rfl (hb hby d9_26) rfl rfl ?_
    refine XS.iloadN X0.here hx rfl (hb hby d9_27) rfl ?_
    show Steps p.tables e below (s₁.setTop (mkF m 28 #[.val (.ref sa), .val (.int (0 : Int32)), .val (.ref vb), .val (.int (0 : Int32)), .val (.int z), .val (.int (0 : Int32)), .val (.int x0)] [(.int (0 : Int32)), (.ref vb)])) _
    refine XS.iload X0.here hx rfl (hb hby d9_28) rfl ?_
    refine XS.i2b X0.here hx rfl (hb hby d9_30) rfl ?_
    show Steps p.tables e below (s₁.setTop (mkF m 31 #[.val (.ref sa), .val (.int (0 : Int32)), .val (.ref vb), .val (.int (0 : Int32)), .val (.int z), .val (.int (0 : Int32)), .val (.int x0)] [(.int (x0.toInt8.toInt32)), (.int (0 : Int32)), (.ref vb)])) _
    refine st2 _ ?_
    show Steps p.tables e below (T2.setTop (mkF m 32 #[.val (.ref sa), .val (.int (0 : Int32)), .val (.ref vb), .val (.int (0 : Int32)), .val (.int z), .val (.int (0 : Int32)), .val (.int x0)] [])) _
    refine XS.iinc X2.here hx rfl (hb hby d9_32) rfl (l' := #[.val (.ref sa), .val (.int (1 : Int32)), .val (.ref vb), .val (.int (0 : Int32)), .val (.int z), .val (.int (0 : Int32)), .val (.int x0)]) rfl ?_
    refine XS.iinc X2.here hx rfl (hb hby d9_35) rfl (l' := #[.val (.ref sa), .val (.int (1 : Int32)), .val (.ref vb), .val (.int (1 : Int32)), .val (.int z), .val (.int (0 : Int32)), .val (.int x0)]) rfl ?_
    show Steps p.tables e below (T2.setTop (mkF m 38 #[.val (.ref sa), .val (.int (1 : Int32)), .val (.ref vb), .val (.int (1 : Int32)), .val (.int z), .val (.int (0 : Int32)), .val (.int x0)] [])) _
    refine XS.iinc X2.here hx rfl (hb hby d9_38) rfl (l' := #[.val (.ref sa), .val (.int (1 : Int32)), .val (.ref vb), .val (.int (1 : Int32)), .val (.int z), .val (.int (1 : Int32)), .val (.int x0)]) rfl ?_
    refine XS.goto X2.here hx rfl (pc0 := 41) (pc' := 3) rfl (hb hby d9_41) (by decide) (by decide) ?_
    show Steps p.tables e below (T2.setTop (mkF m 3 #[.val (.ref sa), .val (.int (1 : Int32)), .val (.ref vb), .val (.int (1 : Int32)), .val (.int z), .val (.int (1 : Int32)), .val (.int x0)] [])) _
    refine XS.iload X2.here hx rfl (hb hby d9_3) rfl ?_
    refine XS.iload X2.here hx rfl (hb hby d9_5) rfl ?_
    show Steps p.tables e below (T2.setTop (mkF m 7 #[.val (.ref sa), .val (.int (1 : Int32)), .val (.ref vb), .val (.int (1 : Int32)), .val (.int z), .val (.int (1 : Int32)), .val (.int x0)] [(.int z), (.int (1 : Int32))])) _
    refine XS.icmpNo X2.here hx rfl (hb hby d9_7) rfl (tlt (hz1 : (1 : Int32) < z)).2.1 ?_
    show Steps p.tables e below (T2.setTop (mkF m 10 #[.val (.ref sa), .val (.int (1 : Int32)), .val (.ref vb), .val (.int (1 : Int32)), .val (.int z), .val (.int (1 : Int32)), .val (.int x0)] [])) _
    refine XS.aloadN X2.here hx rfl (hb hby d9_10) rfl rfl ?_
    refine XS.iloadN X2.here hx rfl (hb hby d9_11) rfl ?_
    show Steps p.tables e below (T2.setTop (mkF m 12 #[.val (.ref sa), .val (.int (1 : Int32)), .val (.ref vb), .val (.int (1 : Int32)), .val (.int z), .val (.int (1 : Int32)), .val (.int x0)] [(.int (1 : Int32)), (.ref sa)])) _
    refine X2.caload hx (j := (1 : Int32)) (v := (.int x1)) (by rw [e2]; exact Ar5.1) (State.isArrayOf_alike hZ.alike Ar5.2.1) Ar5.2.2 hin5 hat5 (g := (mkF m 12 #[.val (.ref sa), .val (.int (1 : Int32)), .val (.ref vb), .val (.int (1 : Int32)), .val (.int z), .val (.int (1 : Int32)), .val (.int x0)] [(.int (1 : Int32)), (.ref sa)])) rfl rfl (hb hby d9_12) _ ?_
    show Steps p.tables e below (T2.setTop (mkF m 13 #[.val (.ref sa), .val (.int (1 : Int32)), .val (.ref vb), .val (.int (1 : Int32)), .val (.int z), .val (.int (1 : Int32)), .val (.int x0)] [(.int x1)])) _
    refine XS.istore X2.here hx rfl (hb hby d9_13) rfl (l' := #[.val (.ref sa), .val (.int (1 : Int32)), .val (.ref vb), .val (.int (1 : Int32)), .val (.int z), .val (.int (1 : Int32)), .val (.int x1)]) rfl ?_
    refine XS.iload X2.here hx rfl (hb hby d9_15) rfl ?_
    show Steps p.tables e below (T2.setTop (mkF m 17 #[.val (.ref sa), .val (.int (1 : Int32)), .val (.ref vb), .val (.int (1 : Int32)), .val (.int z), .val (.int (1 : Int32)), .val (.int x1)] [(.int x1)])) _
    refine XS.sipush X2.here hx rfl (hb hby d9_17) ?_
    show Steps p.tables e below (T2.setTop (mkF m 20 #[.val (.ref sa), .val (.int (1 : Int32)), .val (.ref vb), .val (.int (1 : Int32)), .val (.int z), .val (.int (1 : Int32)), .val (.int x1)] [(.int (255 : Int32)), (.int x1)])) _
    refine XS.icmpYes X2.here hx rfl (pc0 := 20) (pc' := 26) rfl (hb hby d9_20) rfl (flt (h1_ : ¬ ((255 : Int32) < x1))).2.2.2 (by decide) (by decide) ?_
    show Steps p.tables e below (T2.setTop (mkF m 26 #[.val (.ref sa), .val (.int (1 : Int32)), .val (.ref vb), .val (.int (1 : Int32)), .val (.int z), .val (.int (1 : Int32)), .val (.int x1)] [])) _
    refine XS.aloadN X2.here hx rfl (hb hby d9_26) rfl rfl ?_
    refine XS.iloadN X2.here hx rfl (hb hby d9_27) rfl ?_
    show Steps p.tables e below (T2.setTop (mkF m 28 #[.val (.ref sa), .val (.int (1 : Int32)), .val (.ref vb), .val (.int (1 : Int32)), .val (.int z), .val (.int (1 : Int32)), .val (.int x1)] [(.int (1 : Int32)), (.ref vb)])) _
    refine XS.iload X2.here hx rfl (hb hby d9_28) rfl ?_
    refine XS.i2b X2.here hx rfl (hb hby d9_30) rfl ?_
    show Steps p.tables e below (T2.setTop (mkF m 31 #[.val (.ref sa), .val (.int (1 : Int32)), .val (.ref vb), .val (.int (1 : Int32)), .val (.int z), .val (.int (1 : Int32)), .val (.int x1)] [(.int (x1.toInt8.toInt32)), (.int (1 : Int32)), (.ref vb)])) _
    refine st7 _ ?_
    show Steps p.tables e below (T7.setTop (mkF m 32 #[.val (.ref sa), .val (.int (1 : Int32)), .val (.ref vb), .val (.int (1 : Int32)), .val (.int z), .val (.int (1 : Int32)), .val (.int x1)] [])) _
    refine XS.iinc X7.here hx rfl (hb hby d9_32) rfl (l' := #[.val (.ref sa), .val (.int (2 : Int32)), .val (.ref vb), .val (.int (1 : Int32)), .val (.int z), .val (.int (1 : Int32)), .val (.int x1)]) rfl ?_
    refine XS.iinc X7.here hx rfl (hb hby d9_35) rfl (l' := #[.val (.ref sa), .val (.int (2 : Int32)), .val (.ref vb), .val (.int (2 : Int32)), .val (.int z), .val (.int (1 : Int32)), .val (.int x1)]) rfl ?_
    show Steps p.tables e below (T7.setTop (mkF m 38 #[.val (.ref sa), .val (.int (2 : Int32)), .val (.ref vb), .val (.int (2 : Int32)), .val (.int z), .val (.int (1 : Int32)), .val (.int x1)] [])) _
    refine XS.iinc X7.here hx rfl (hb hby d9_38) rfl (l' := #[.val (.ref sa), .val (.int (2 : Int32)), .val (.ref vb), .val (.int (2 : Int32)), .val (.int z), .val (.int (2 : Int32)), .val (.int x1)]) rfl ?_
    refine XS.goto X7.here hx rfl (pc0 := 41) (pc' := 3) rfl (hb hby d9_41) (by decide) (by decide) ?_
    show Steps p.tables e below (T7.setTop (mkF m 3 #[.val (.ref sa), .val (.int (2 : Int32)), .val (.ref vb), .val (.int (2 : Int32)), .val (.int z), .val (.int (2 : Int32)), .val (.int x1)] [])) _
    refine XS.iload X7.here hx rfl (hb hby d9_3) rfl ?_
    refine XS.iload X7.here hx rfl (hb hby d9_5) rfl ?_
    show Steps p.tables e below (T7.setTop (mkF m 7 #[.val (.ref sa), .val (.int (2 : Int32)), .val (.ref vb), .val (.int (2 : Int32)), .val (.int z), .val (.int (2 : Int32)), .val (.int x1)] [(.int z), (.int (2 : Int32))])) _
    refine XS.icmpNo X7.here hx rfl (hb hby d9_7) rfl (tlt (hz2 : (2 : Int32) < z)).2.1 ?_
    show Steps p.tables e below (T7.setTop (mkF m 10 #[.val (.ref sa), .val (.int (2 : Int32)), .val (.ref vb), .val (.int (2 : Int32)), .val (.int z), .val (.int (2 : Int32)), .val (.int x1)] [])) _
    refine XS.aloadN X7.here hx rfl (hb hby d9_10) rfl rfl ?_
    refine XS.iloadN X7.here hx rfl (hb hby d9_11) rfl ?_
    show Steps p.tables e below (T7.setTop (mkF m 12 #[.val (.ref sa), .val (.int (2 : Int32)), .val (.ref vb), .val (.int (2 : Int32)), .val (.int z), .val (.int (2 : Int32)), .val (.int x1)] [(.int (2 : Int32)), (.ref sa)])) _
    refine X7.caload hx (j := (2 : Int32)) (v := (.int x2)) (by rw [e7]; exact Ar9.1) (State.isArrayOf_alike hZ.alike Ar9.2.1) Ar9.2.2 hin9 hat9 (g := (mkF m 12 #[.val (.ref sa), .val (.int (2 : Int32)), .val (.ref vb), .val (.int (2 : Int32)), .val (.int z), .val (.int (2 : Int32)), .val (.int x1)] [(.int (2 : Int32)), (.ref sa)])) rfl rfl (hb hby d9_12) _ ?_
    show Steps p.tables e below (T7.setTop (mkF m 13 #[.val (.ref sa), .val (.int (2 : Int32)), .val (.ref vb), .val (.int (2 : Int32)), .val (.int z), .val (.int (2 : Int32)), .val (.int x1)] [(.int x2)])) _
    refine XS.istore X7.here hx rfl (hb hby d9_13) rfl (l' := #[.val (.ref sa), .val (.int (2 : Int32)), .val (.ref vb), .val (.int (2 : Int32)), .val (.int z), .val (.int (2 : Int32)), .val (.int x2)]) rfl ?_
    refine XS.iload X7.here hx rfl (hb hby d9_15) rfl ?_
    show Steps p.tables e below (T7.setTop (mkF m 17 #[.val (.ref sa), .val (.int (2 : Int32)), .val (.ref vb), .val (.int (2 : Int32)), .val (.int z), .val (.int (2 : Int32)), .val (.int x2)] [(.int x2)])) _
    refine XS.sipush X7.here hx rfl (hb hby d9_17) ?_
    show Steps p.tables e below (T7.setTop (mkF m 20 #[.val (.ref sa), .val (.int (2 : Int32)), .val (.ref vb), .val (.int (2 : Int32)), .val (.int z), .val (.int (2 : Int32)), .val (.int x2)] [(.int (255 : Int32)), (.int x2)])) _
    refine XS.icmpYes X7.here hx rfl (pc0 := 20) (pc' := 26) rfl (hb hby d9_20) rfl (flt (h2_ : ¬ ((255 : Int32) < x2))).2.2.2 (by decide) (by decide) ?_
    show Steps p.tables e below (T7.setTop (mkF m 26 #[.val (.ref sa), .val (.int (2 : Int32)), .val (.ref vb), .val (.int (2 : Int32)), .val (.int z), .val (.int (2 : Int32)), .val (.int x2)] [])) _
    refine XS.aloadN X7.here hx rfl (hb hby d9_26) rfl rfl ?_
    refine XS.iloadN X7.here hx rfl (hb hby d9_27) rfl ?_
    show Steps p.tables e below (T7.setTop (mkF m 28 #[.val (.ref sa), .val (.int (2 : Int32)), .val (.ref vb), .val (.int (2 : Int32)), .val (.int z), .val (.int (2 : Int32)), .val (.int x2)] [(.int (2 : Int32)), (.ref vb)])) _
    refine XS.iload X7.here hx rfl (hb hby d9_28) rfl ?_
    refine XS.i2b X7.here hx rfl (hb hby d9_30) rfl ?_
    show Steps p.tables e below (T7.setTop (mkF m 31 #[.val (.ref sa), .val (.int (2 : Int32)), .val (.ref vb), .val (.int (2 : Int32)), .val (.int z), .val (.int (2 : Int32)), .val (.int x2)] [(.int (x2.toInt8.toInt32)), (.int (2 : Int32)), (.ref vb)])) _
    refine st11 _ ?_
    show Steps p.tables e below (T11.setTop (mkF m 32 #[.val (.ref sa), .val (.int (2 : Int32)), .val (.ref vb), .val (.int (2 : Int32)), .val (.int z), .val (.int (2 : Int32)), .val (.int x2)] [])) _
    refine XS.iinc X11.here hx rfl (hb hby d9_32) rfl (l' := #[.val (.ref sa), .val (.int (3 : Int32)), .val (.ref vb), .val (.int (2 : Int32)), .val (.int z), .val (.int (2 : Int32)), .val (.int x2)]) rfl ?_
    refine XS.iinc X11.here hx rfl (hb hby d9_35) rfl (l' := #[.val (.ref sa), .val (.int (3 : Int32)), .val (.ref vb), .val (.int (3 : Int32)), .val (.int z), .val (.int (2 : Int32)), .val (.int x2)]) rfl ?_
    show Steps p.tables e below (T11.setTop (mkF m 38 #[.val (.ref sa), .val (.int (3 : Int32)), .val (.ref vb), .val (.int (3 : Int32)), .val (.int z), .val (.int (2 : Int32)), .val (.int x2)] [])) _
    refine XS.iinc X11.here hx rfl (hb hby d9_38) rfl (l' := #[.val (.ref sa), .val (.int (3 : Int32)), .val (.ref vb), .val (.int (3 : Int32)), .val (.int z), .val (.int (3 : Int32)), .val (.int x2)]) rfl ?_
    refine XS.goto X11.here hx rfl (pc0 := 41) (pc' := 3) rfl (hb hby d9_41) (by decide) (by decide) ?_
    show Steps p.tables e below (T11.setTop (mkF m 3 #[.val (.ref sa), .val (.int (3 : Int32)), .val (.ref vb), .val (.int (3 : Int32)), .val (.int z), .val (.int (3 : Int32)), .val (.int x2)] [])) _
    refine XS.iload X11.here hx rfl (hb hby d9_3) rfl ?_
    refine XS.iload X11.here hx rfl (hb hby d9_5) rfl ?_
    show Steps p.tables e below (T11.setTop (mkF m 7 #[.val (.ref sa), .val (.int (3 : Int32)), .val (.ref vb), .val (.int (3 : Int32)), .val (.int z), .val (.int (3 : Int32)), .val (.int x2)] [(.int z), (.int (3 : Int32))])) _
    refine XS.icmpNo X11.here hx rfl (hb hby d9_7) rfl (tlt (hz3 : (3 : Int32) < z)).2.1 ?_
    show Steps p.tables e below (T11.setTop (mkF m 10 #[.val (.ref sa), .val (.int (3 : Int32)), .val (.ref vb), .val (.int (3 : Int32)), .val (.int z), .val (.int (3 : Int32)), .val (.int x2)] [])) _
    refine XS.aloadN X11.here hx rfl (hb hby d9_10) rfl rfl ?_
    refine XS.iloadN X11.here hx rfl (hb hby d9_11) rfl ?_
    show Steps p.tables e below (T11.setTop (mkF m 12 #[.val (.ref sa), .val (.int (3 : Int32)), .val (.ref vb), .val (.int (3 : Int32)), .val (.int z), .val (.int (3 : Int32)), .val (.int x2)] [(.int (3 : Int32)), (.ref sa)])) _
    refine X11.caload hx (j := (3 : Int32)) (v := (.int x3)) (by rw [e11]; exact Ar13.1) (State.isArrayOf_alike hZ.alike Ar13.2.1) Ar13.2.2 hin13 hat13 (g := (mkF m 12 #[.val (.ref sa), .val (.int (3 : Int32)), .val (.ref vb), .val (.int (3 : Int32)), .val (.int z), .val (.int (3 : Int32)), .val (.int x2)] [(.int (3 : Int32)), (.ref sa)])) rfl rfl (hb hby d9_12) _ ?_
    show Steps p.tables e below (T11.setTop (mkF m 13 #[.val (.ref sa), .val (.int (3 : Int32)), .val (.ref vb), .val (.int (3 : Int32)), .val (.int z), .val (.int (3 : Int32)), .val (.int x2)] [(.int x3)])) _
    refine XS.istore X11.here hx rfl (hb hby d9_13) rfl (l' := #[.val (.ref sa), .val (.int (3 : Int32)), .val (.ref vb), .val (.int (3 : Int32)), .val (.int z), .val (.int (3 : Int32)), .val (.int x3)]) rfl ?_
    refine XS.iload X11.here hx rfl (hb hby d9_15) rfl ?_
    show Steps p.tables e below (T11.setTop (mkF m 17 #[.val (.ref sa), .val (.int (3 : Int32)), .val (.ref vb), .val (.int (3 : Int32)), .val (.int z), .val (.int (3 : Int32)), .val (.int x3)] [(.int x3)])) _
    refine XS.sipush X11.here hx rfl (hb hby d9_17) ?_
    show Steps p.tables e below (T11.setTop (mkF m 20 #[.val (.ref sa), .val (.int (3 : Int32)), .val (.ref vb), .val (.int (3 : Int32)), .val (.int z), .val (.int (3 : Int32)), .val (.int x3)] [(.int (255 : Int32)), (.int x3)])) _
    refine XS.icmpNo X11.here hx rfl (hb hby d9_20) rfl (tlt (h3_ : (255 : Int32) < x3)).2.2.2 ?_
    show Steps p.tables e below (T11.setTop (mkF m 23 #[.val (.ref sa), .val (.int (3 : Int32)), .val (.ref vb), .val (.int (3 : Int32)), .val (.int z), .val (.int (3 : Int32)), .val (.int x3)] [])) _
    refine XS.iload X11.here hx rfl (hb hby d9_23) rfl ?_
    show Steps p.tables e below (T11.setTop (mkF m 25 #[.val (.ref sa), .val (.int (3 : Int32)), .val (.ref vb), .val (.int (3 : Int32)), .val (.int z), .val (.int (3 : Int32)), .val (.int x3)] [(.int (3 : Int32))])) _
    exact retI X11 hx Bd.returns (hb hby d9_25) hr
  · show Q_m9_3 Z z sa ks cs vb kb vs x0 x1 x2 x3 h0 n0 _ T11.heap _
    rw [e11]
    exact ⟨rfl, N11, K12⟩
theorem d19_0 : decode jdk_52_method_3_code 0 = .ok (.iload_n 0, 1) := by decide +kernel
theorem d19_1 : decode jdk_52_method_3_code 1 = .ok (.ifCond .ge 11, 3) := by decide +kernel
theorem d19_12 : decode jdk_52_method_3_code 12 = .ok (.iload_n 0, 1) := by decide +kernel
theorem d19_13 : decode jdk_52_method_3_code 13 = .ok (.ldc 20, 2) := by decide +kernel
theorem d19_15 : decode jdk_52_method_3_code 15 = .ok (.if_icmp .lt 40, 3) := by decide +kernel
theorem d19_55 : decode jdk_52_method_3_code 55 = .ok (.iload_n 0, 1) := by decide +kernel
theorem d19_56 : decode jdk_52_method_3_code 56 = .ok (.iconst 1, 1) := by decide +kernel
theorem d19_57 : decode jdk_52_method_3_code 57 = .ok (.ishl, 1) := by decide +kernel
theorem d19_58 : decode jdk_52_method_3_code 58 = .ok (.ireturn, 1) := by decide +kernel
def Q_m19_4 (Z : State)  (h0 : Heap) (n0 : Nat) (v : Option Value) (h : Heap) (L : List Loc) : Prop := v = (some (.int (8 : Int32))) ∧ Fr n0 L ∧ h = h0
theorem ef_m19_4 (m : MethodId)  : entryFrame m #[(.int (4 : Int32))] 1 = mkF m 0 #[.val (.int (4 : Int32))] [] := by first | (simp [entryFrame, mkF, argsToLocals, Value.category]; done) | rfl
set_option maxRecDepth 65536 in
set_option maxHeartbeats 40000000 in
theorem m19_4 (l : Launch) (Z : State) (a0 : Array Value) (hw : ∀ d ∈ tables_1, d.before a0 Z = true) (ws : List Jvm.Cond)  (h0 : Heap) (n0 : Nat) (Z0 : n0 ≤ h0.size)  :
    MetFree l (⟨"java/lang/StringUTF16", "newBytesLength", "(I)I"⟩ : MethodName) (head1 (Jvm.Cond.code (⟨"java/lang/StringUTF16", "newBytesLength", "(I)I"⟩ : MethodName) jdk_52_method_3_code 1 (some .int) :: ws) ({ frames := 0, cells := 0, slots := 0, locals := 0 } : Room)) (fun ar_ U => ar_ = #[(.int (4 : Int32))] ∧ Z.Warmed39 U.vm ∧ U.heap = h0) (fun _ _ _ _ _ => True) (fun _ U o U' => ∃ v L, o = .returned v ∧ Q_m19_4 Z  h0 n0 v U'.heap L ∧ FrameEnd U o U' L ({ frames := 0, cells := 0, slots := 0, locals := 0 } : Room).cells ({ frames := 0, cells := 0, slots := 0, locals := 0 } : Room).slots) := by
  refine MetFree.of_bodySF (plainFor_of_name pnx_java_lang_StringUTF16) hisR ?_
  intro p e s m args below meth c s₁ Bd hml0 hP hK
  obtain ⟨rfl, hZ, hh⟩ := hP
  have hx := Bd.exec
  have hby := Bd.bytes
  have hml : c.maxLocals = 1 := hml0
  have hown : s.vm.findClass "java/lang/StringUTF16" = some m.cls := findClass_of_methodNamed Bd.named
  have hnm := (name_of_methodNamed Bd.named Bd.method).1
  have X0 : Stand p l e ({ frames := 0, cells := 0, slots := 0, locals := 0 } : Room) s m #[(.int (4 : Int32))] below meth c s₁ [] 0 0 := Stand.of_body Bd
  have e0 : s₁.heap = h0 := by rw [← hh, Bd.state]; rfl
  have N0 := Fr.nil n0
  have pre0 : ∀ tq_, Steps p.tables e below (s₁.setTop (mkF m 0 #[.val (.int (4 : Int32))] [])) tq_ → Steps p.tables e below (s₁.setTop (entryFrame m #[(.int (4 : Int32))] 1)) tq_ := fun tq_ kt_ => castTop (ef_m19_4 m  ) kt_
  obtain ⟨fs, hr, hrun, hended, hW, hsame⟩ := X0.leave (v := some (.int (8 : Int32))) (fun h => by rw [Bd.returns] at h; cases h)
  refine ⟨_, _, pre0 _ ?_, hrun, hended, _, _, rfl, ?_, ⟨_, rfl⟩, hW, hsame.mono (nle rfl) (nle rfl)⟩
  · show Steps p.tables e below (s₁.setTop (mkF m 0 #[.val (.int (4 : Int32))] [])) _
    refine XS.iloadN X0.here hx rfl (hb hby d19_0) rfl ?_
    show Steps p.tables e below (s₁.setTop (mkF m 1 #[.val (.int (4 : Int32))] [(.int (4 : Int32))])) _
    refine XS.ifYes X0.here hx rfl (pc0 := 1) (pc' := 12) rfl (hb hby d19_1) rfl ((if0 _ _).trans (flt (by decide : ¬ ((4 : Int32) < (0 : Int32)))).2.1) (by decide) (by decide) ?_
    show Steps p.tables e below (s₁.setTop (mkF m 12 #[.val (.int (4 : Int32))] [])) _
    refine XS.iloadN X0.here hx rfl (hb hby d19_12) rfl ?_
    show Steps p.tables e below (s₁.setTop (mkF m 13 #[.val (.int (4 : Int32))] [(.int (4 : Int32))])) _
    refine X0.ldcInt hx hown (mvT hZ (wk hw 87 rfl)) (g := (mkF m 13 #[.val (.int (4 : Int32))] [(.int (4 : Int32))])) rfl (hb hby d19_13) _ ?_
    show Steps p.tables e below (s₁.setTop (mkF m 15 #[.val (.int (4 : Int32))] [(.int (1073741823 : Int32)), (.int (4 : Int32))])) _
    refine XS.icmpYes X0.here hx rfl (pc0 := 15) (pc' := 55) rfl (hb hby d19_15) rfl (tlt (by decide : (4 : Int32) < (1073741823 : Int32))).1 (by decide) (by decide) ?_
    show Steps p.tables e below (s₁.setTop (mkF m 55 #[.val (.int (4 : Int32))] [])) _
    refine XS.iloadN X0.here hx rfl (hb hby d19_55) rfl ?_
    refine XS.iconst X0.here hx rfl (hb hby d19_56) ?_
    show Steps p.tables e below (s₁.setTop (mkF m 57 #[.val (.int (4 : Int32))] [(.int (1 : Int32)), (.int (4 : Int32))])) _
    show Steps p.tables e below (s₁.setTop (mkF m 57 #[.val (.int (4 : Int32))] [(.int (1 : Int32)), (.int (4 : Int32))])) _
    refine XS.ishl X0.here hx rfl (hb hby d19_57) rfl ?_
    show Steps p.tables e below (s₁.setTop (mkF m 58 #[.val (.int (4 : Int32))] [(.int ((4 : Int32) <<< ((1 : Int32) &&& 31)))])) _
    rw [show ((4 : Int32) <<< ((1 : Int32) &&& 31)) = (8 : Int32) from by decide]
    show Steps p.tables e below (s₁.setTop (mkF m 58 #[.val (.int (4 : Int32))] [(.int (8 : Int32))])) _
    exact retI X0 hx Bd.returns (hb hby d19_58) hr
  · show Q_m19_4 Z  h0 n0 _ s₁.heap _
    exact ⟨rfl, N0, e0⟩
theorem pdx__I_I : parseMethodDescriptor "(I)I" = some ⟨[.int], some .int⟩ := by decide +kernel
theorem d18_0 : decode jdk_52_method_2_code 0 = .ok (.iload_n 0, 1) := by decide +kernel
theorem d18_1 : decode jdk_52_method_2_code 1 = .ok (.invokestatic 11, 3) := by decide +kernel
theorem d18_4 : decode jdk_52_method_2_code 4 = .ok (.newarray .byte, 2) := by decide +kernel
theorem d18_6 : decode jdk_52_method_2_code 6 = .ok (.areturn, 1) := by decide +kernel
def Q_m18_4 (Z : State)  (h0 : Heap) (n0 : Nat) (v : Option Value) (h : Heap) (L : List Loc) : Prop := ∃ (t : Addr) (kt : ClassId), v = (some (.ref t)) ∧ Fr n0 L ∧ Keep h0 h [] ∧ Arv Z h t kt .byte (8 : Int32) [(.int (0 : Int32)), (.int (0 : Int32)), (.int (0 : Int32)), (.int (0 : Int32)), (.int (0 : Int32)), (.int (0 : Int32)), (.int (0 : Int32)), (.int (0 : Int32))] (.int (0 : Int32)) ∧ h0.size ≤ t
theorem ef_m18_4 (m : MethodId)  : entryFrame m #[(.int (4 : Int32))] 1 = mkF m 0 #[.val (.int (4 : Int32))] [] := by first | (simp [entryFrame, mkF, argsToLocals, Value.category]; done) | rfl
set_option maxRecDepth 65536 in
set_option maxHeartbeats 40000000 in
theorem m18_4 (l : Launch) (Z : State) (a0 : Array Value) (hw : ∀ d ∈ tables_1, d.before a0 Z = true) (ws : List Jvm.Cond)  (h0 : Heap) (n0 : Nat) (Z0 : n0 ≤ h0.size)  :
    MetFree l (⟨"java/lang/StringUTF16", "newBytesFor", "(I)[B"⟩ : MethodName) (head1 (Jvm.Cond.code (⟨"java/lang/StringUTF16", "newBytesFor", "(I)[B"⟩ : MethodName) jdk_52_method_2_code 1 (some (.array .byte)) :: ws) ({ frames := 1, cells := 1, slots := 8, locals := 12 } : Room)) (fun ar_ U => ar_ = #[(.int (4 : Int32))] ∧ Z.Warmed39 U.vm ∧ U.heap = h0) (fun _ _ _ _ _ => True) (fun _ U o U' => ∃ v L, o = .returned v ∧ Q_m18_4 Z  h0 n0 v U'.heap L ∧ FrameEnd U o U' L ({ frames := 1, cells := 1, slots := 8, locals := 12 } : Room).cells ({ frames := 1, cells := 1, slots := 8, locals := 12 } : Room).slots) := by
  refine MetFree.of_bodySF (plainFor_of_name pnx_java_lang_StringUTF16) hisR ?_
  intro p e s m args below meth c s₁ Bd hml0 hP hK
  obtain ⟨rfl, hZ, hh⟩ := hP
  have hx := Bd.exec
  have hby := Bd.bytes
  have hml : c.maxLocals = 1 := hml0
  have hown : s.vm.findClass "java/lang/StringUTF16" = some m.cls := findClass_of_methodNamed Bd.named
  have hnm := (name_of_methodNamed Bd.named Bd.method).1
  have X0 : Stand p l e ({ frames := 1, cells := 1, slots := 8, locals := 12 } : Room) s m #[(.int (4 : Int32))] below meth c s₁ [] 0 0 := Stand.of_body Bd
  have e0 : s₁.heap = h0 := by rw [← hh, Bd.state]; rfl
  have N0 := Fr.nil n0
  have pre0 : ∀ tq_, Steps p.tables e below (s₁.setTop (mkF m 0 #[.val (.int (4 : Int32))] [])) tq_ → Steps p.tables e below (s₁.setTop (entryFrame m #[(.int (4 : Int32))] 1)) tq_ := fun tq_ kt_ => castTop (ef_m18_4 m  ) kt_
  obtain ⟨_, _, ⟨T1, L1, kk1, nn1⟩, -, X1, ⟨Lc1, hQ1, l1, y1, z1⟩, st1⟩ := Jvm.LawKit.callS X0 hx (y := (⟨"java/lang/StringUTF16", "newBytesLength", "(I)I"⟩ : MethodName)) hown (mvT hZ (wk hw 84 rfl)) (mvT hZ (wk hw 85 rfl)) (mvT hZ (wk hw 45 rfl)) (mvT hZ (wk hw 86 rfl)) (by decide) (backOf (W := 0) (m19_4 l Z a0 hw []  h0 n0 Z0 ) hZ (wk hw 86 rfl) (wk hw 45 rfl) (by decide) (by decide)) (g := (mkF m 1 #[.val (.int (4 : Int32))] [(.int (4 : Int32))])) rfl (by rw [hml]; rfl) (argsL := [(.int (4 : Int32))]) (rest := []) (lenOf pdx__I_I rfl) rfl (by show 2 * 0 + _ ≤ _; exact Nat.le_of_eq rfl) (hb hby d18_1) (fun _ _ => ⟨rfl, e0, nle rfl, nle rfl⟩)
  dsimp only [Pt.U, Pt.locs, Pt.cells, Pt.slots] at X1 l1 y1 z1 st1 hQ1
  subst l1 y1 z1
  obtain ⟨rfl, Nq1, e1⟩ := hQ1
  have N1 := Fr.app N0 Nq1
  obtain ⟨T2, h2, k2, X2, e2, E2, A2, st2⟩ := newP X1 hx hZ (wk hw 21 rfl) e1 (g := (mkF m 4 #[.val (.int (4 : Int32))] [(.int (8 : Int32))])) rfl (hb hby d18_4) rfl (by decide) (cap := 8) (by decide) (by decide) (nle rfl) (nle rfl)
  obtain ⟨b2, g2⟩ : ∃ z, z = h0.size := ⟨_, rfl⟩
  rw [← g2] at A2 st2
  have V2 : Arv Z h2 b2 k2 .byte (8 : Int32) [] (.int (0 : Int32)) := Arv.new A2 (by decide)
  have sz_b2 : h0.size ≤ b2 := (Nat.le_of_eq g2.symm)
  have ge_b2 : n0 ≤ b2 := Nat.le_trans Z0 sz_b2
  have K3 : Keep h0 h2 [] := (Keep.refl h0 []).ext E2
  have V4 : Arv Z h2 b2 k2 .byte (8 : Int32) [(.int (0 : Int32)), (.int (0 : Int32)), (.int (0 : Int32)), (.int (0 : Int32)), (.int (0 : Int32)), (.int (0 : Int32)), (.int (0 : Int32)), (.int (0 : Int32))] (.int (0 : Int32)) := V2.pad (pad_rep [] (.int (0 : Int32)) 8)
  obtain ⟨fs, hr, hrun, hended, hW, hsame⟩ := X2.leave (v := some (.ref b2)) (fun h => by rw [Bd.returns] at h; cases h)
  refine ⟨_, _, pre0 _ ?_, hrun, hended, _, _, rfl, ?_, ⟨_, rfl⟩, hW, hsame.mono (nle rfl) (nle rfl)⟩
  · show Steps p.tables e below (s₁.setTop (mkF m 0 #[.val (.int (4 : Int32))] [])) _
    refine XS.iloadN X0.here hx rfl (hb hby d18_0) rfl ?_
    show Steps p.tables e below (s₁.setTop (mkF m 1 #[.val (.int (4 : Int32))] [(.int (4 : Int32))])) _
    refine st1 _ ?_
    show Steps p.tables e below (T1.setTop (mkF m 4 #[.val (.int (4 : Int32))] [(.int (8 : Int32))])) _
    refine st2 _ ?_
    show Steps p.tables e below (T2.setTop (mkF m 6 #[.val (.int (4 : Int32))] [(.ref b2)])) _
    exact X2.areturnOut hx rfl Bd.returns rfl (hb hby d18_6) hr
  · show Q_m18_4 Z  h0 n0 _ T2.heap _
    rw [e2]
    exact ⟨b2, k2, rfl, N1, K3, V4, sz_b2⟩
theorem pdx__I__B : parseMethodDescriptor "(I)[B" = some ⟨[.int], some (.array .byte)⟩ := by decide +kernel
theorem pdx___BII_V : parseMethodDescriptor "([BII)V" = some ⟨[(.array .byte), .int, .int], none⟩ := by decide +kernel
theorem d17_0 : decode jdk_52_method_14_code 0 = .ok (.iload_n 2, 1) := by decide +kernel
theorem d17_1 : decode jdk_52_method_14_code 1 = .ok (.invokestatic 107, 3) := by decide +kernel
theorem d17_4 : decode jdk_52_method_14_code 4 = .ok (.astore_n 3, 1) := by decide +kernel
theorem d17_5 : decode jdk_52_method_14_code 5 = .ok (.iconst 0, 1) := by decide +kernel
theorem d17_6 : decode jdk_52_method_14_code 6 = .ok (.istore 4, 2) := by decide +kernel
theorem d17_8 : decode jdk_52_method_14_code 8 = .ok (.iload 4, 2) := by decide +kernel
theorem d17_10 : decode jdk_52_method_14_code 10 = .ok (.iload_n 2, 1) := by decide +kernel
theorem d17_11 : decode jdk_52_method_14_code 11 = .ok (.if_icmp .ge 21, 3) := by decide +kernel
theorem d17_14 : decode jdk_52_method_14_code 14 = .ok (.aload_n 3, 1) := by decide +kernel
theorem d17_15 : decode jdk_52_method_14_code 15 = .ok (.iload 4, 2) := by decide +kernel
theorem d17_17 : decode jdk_52_method_14_code 17 = .ok (.aload_n 0, 1) := by decide +kernel
theorem d17_18 : decode jdk_52_method_14_code 18 = .ok (.iload_n 1, 1) := by decide +kernel
theorem d17_19 : decode jdk_52_method_14_code 19 = .ok (.caload, 1) := by decide +kernel
theorem d17_20 : decode jdk_52_method_14_code 20 = .ok (.invokestatic 111, 3) := by decide +kernel
theorem d17_23 : decode jdk_52_method_14_code 23 = .ok (.iinc 1 1, 3) := by decide +kernel
theorem d17_26 : decode jdk_52_method_14_code 26 = .ok (.iinc 4 1, 3) := by decide +kernel
theorem d17_29 : decode jdk_52_method_14_code 29 = .ok (.goto (-21), 3) := by decide +kernel
theorem d17_32 : decode jdk_52_method_14_code 32 = .ok (.aload_n 3, 1) := by decide +kernel
theorem d17_33 : decode jdk_52_method_14_code 33 = .ok (.areturn, 1) := by decide +kernel
def Q_m17_4 (Z : State) (sa : Addr) (ks : ClassId) (y0 : Int32) (y1 : Int32) (y2 : Int32) (y3 : Int32) (h0 : Heap) (n0 : Nat) (v : Option Value) (h : Heap) (L : List Loc) : Prop := ∃ (t : Addr) (kt : ClassId), v = (some (.ref t)) ∧ Fr n0 L ∧ Keep h0 h [] ∧ Arv Z h t kt .byte (8 : Int32) [(.int (own_b0 y0)), (.int (own_b1 y0)), (.int (own_b0 y1)), (.int (own_b1 y1)), (.int (own_b0 y2)), (.int (own_b1 y2)), (.int (own_b0 y3)), (.int (own_b1 y3))] (.int (0 : Int32)) ∧ h0.size ≤ t
theorem ef_m17_4 (m : MethodId) (sa : Addr) (ks : ClassId) (y0 : Int32) (y1 : Int32) (y2 : Int32) (y3 : Int32) : entryFrame m #[(.ref sa), (.int (0 : Int32)), (.int (4 : Int32))] 5 = mkF m 0 #[.val (.ref sa), .val (.int (0 : Int32)), .val (.int (4 : Int32)), .unset, .unset] [] := by first | (simp [entryFrame, mkF, argsToLocals, Value.category]; done) | rfl
set_option maxRecDepth 65536 in
set_option maxHeartbeats 40000000 in
theorem m17_4 (l : Launch) (Z : State) (a0 : Array Value) (hw : ∀ d ∈ tables_1, d.before a0 Z = true) (ws : List Jvm.Cond) (sa : Addr) (ks : ClassId) (y0 : Int32) (y1 : Int32) (y2 : Int32) (y3 : Int32) (h0 : Heap) (n0 : Nat) (Z0 : n0 ≤ h0.size) (Vs : Arv Z h0 sa ks .char (4 : Int32) [(.int y0), (.int y1), (.int y2), (.int y3)] (.int (0 : Int32))) (S_AD : Sta Z h0 "java/lang/StringUTF16" "$assertionsDisabled" "Z" (.int (1 : Int32))) (S_HI : Sta Z h0 "java/lang/StringUTF16" "HI_BYTE_SHIFT" "I" (.int (0 : Int32))) (S_LO : Sta Z h0 "java/lang/StringUTF16" "LO_BYTE_SHIFT" "I" (.int (8 : Int32))) :
    MetFree l (⟨"java/lang/StringUTF16", "toBytes", "([CII)[B"⟩ : MethodName) (head1 (Jvm.Cond.code (⟨"java/lang/StringUTF16", "toBytes", "([CII)[B"⟩ : MethodName) jdk_52_method_14_code 5 (some (.array .byte)) :: ws) ({ frames := 2, cells := 1, slots := 8, locals := 24 } : Room)) (fun ar_ U => ar_ = #[(.ref sa), (.int (0 : Int32)), (.int (4 : Int32))] ∧ Z.Warmed39 U.vm ∧ U.heap = h0) (fun _ _ _ _ _ => True) (fun _ U o U' => ∃ v L, o = .returned v ∧ Q_m17_4 Z sa ks y0 y1 y2 y3 h0 n0 v U'.heap L ∧ FrameEnd U o U' L ({ frames := 2, cells := 1, slots := 8, locals := 24 } : Room).cells ({ frames := 2, cells := 1, slots := 8, locals := 24 } : Room).slots) := by
  refine MetFree.of_bodySF (plainFor_of_name pnx_java_lang_StringUTF16) hisR ?_
  intro p e s m args below meth c s₁ Bd hml0 hP hK
  obtain ⟨rfl, hZ, hh⟩ := hP
  have hx := Bd.exec
  have hby := Bd.bytes
  have hml : c.maxLocals = 5 := hml0
  have hown : s.vm.findClass "java/lang/StringUTF16" = some m.cls := findClass_of_methodNamed Bd.named
  have hnm := (name_of_methodNamed Bd.named Bd.method).1
  have X0 : Stand p l e ({ frames := 2, cells := 1, slots := 8, locals := 24 } : Room) s m #[(.ref sa), (.int (0 : Int32)), (.int (4 : Int32))] below meth c s₁ [] 0 0 := Stand.of_body Bd
  have e0 : s₁.heap = h0 := by rw [← hh, Bd.state]; rfl
  have N0 := Fr.nil n0
  have pre0 : ∀ tq_, Steps p.tables e below (s₁.setTop (mkF m 0 #[.val (.ref sa), .val (.int (0 : Int32)), .val (.int (4 : Int32)), .unset, .unset] [])) tq_ → Steps p.tables e below (s₁.setTop (entryFrame m #[(.ref sa), (.int (0 : Int32)), (.int (4 : Int32))] 5)) tq_ := fun tq_ kt_ => castTop (ef_m17_4 m sa ks y0 y1 y2 y3 ) kt_
  obtain ⟨_, _, ⟨T1, L1, kk1, nn1⟩, -, X1, ⟨Lc1, hQ1, l1, y1, z1⟩, st1⟩ := Jvm.LawKit.callS X0 hx (y := (⟨"java/lang/StringUTF16", "newBytesFor", "(I)[B"⟩ : MethodName)) hown (mvT hZ (wk hw 81 rfl)) (mvT hZ (wk hw 82 rfl)) (mvT hZ (wk hw 45 rfl)) (mvT hZ (wk hw 83 rfl)) (by decide) (backOf (W := 0) (m18_4 l Z a0 hw []  h0 n0 Z0 ) hZ (wk hw 83 rfl) (wk hw 45 rfl) (by decide) (by decide)) (g := (mkF m 1 #[.val (.ref sa), .val (.int (0 : Int32)), .val (.int (4 : Int32)), .unset, .unset] [(.int (4 : Int32))])) rfl (by rw [hml]; rfl) (argsL := [(.int (4 : Int32))]) (rest := []) (lenOf pdx__I__B rfl) rfl (by show 2 * 0 + _ ≤ _; exact Nat.le_of_eq rfl) (hb hby d17_1) (fun _ _ => ⟨rfl, e0, nle rfl, nle rfl⟩)
  dsimp only [Pt.U, Pt.locs, Pt.cells, Pt.slots] at X1 l1 y1 z1 st1 hQ1
  subst l1 y1 z1
  obtain ⟨t_1, kt_1, rfl, Nq1, Kq1, P1_0, P1_1⟩ := hQ1
  have N1 := Fr.app N0 Nq1
  obtain ⟨h1, e1⟩ : ∃ h, T1.heap = h := ⟨_, rfl⟩
  rw [e1] at Kq1 P1_0
  have sz_t_1 : h0.size ≤ t_1 := P1_1
  have ge_t_1 : n0 ≤ t_1 := Nat.le_trans Z0 sz_t_1
  have ne_2 : sa ≠ t_1 := Nat.ne_of_lt (Nat.lt_of_lt_of_le Vs.lt P1_1)
  have K3 : Keep h0 h1 [] := (Keep.refl h0 []).trans Kq1 own_m0
  have F5 := (Vs.keep Kq1 own_n0)
  obtain ⟨c4, Ar4, -, Sz4, -, H4, -⟩ := id F5
  have hin4 := inb_of (j := (0 : Int32)) Sz4 ⟨by decide, by decide⟩
  have hat4 : c4.slots[((0 : Int32) : Int32).toNatClampNeg]? = some (.int y0) := H4 _ (Nat.lt_of_not_le fun q => hin4 (Or.inr q))
  have F7 := (own_staK S_AD Kq1 ns0)
  have F8 := (own_staK S_HI Kq1 ns0)
  have F9 := (own_staK S_LO Kq1 ns0)
  obtain ⟨_, _, ⟨T6, L6, kk6, nn6⟩, -, X6, ⟨Lc6, hQ6, l6, y6, z6⟩, st6⟩ := Jvm.LawKit.callS X1 hx (y := (⟨"java/lang/StringUTF16", "putChar", "([BII)V"⟩ : MethodName)) hown (mvT hZ (wk hw 88 rfl)) (mvT hZ (wk hw 89 rfl)) (mvT hZ (wk hw 45 rfl)) (mvT hZ (wk hw 90 rfl)) (by decide) (backOf (W := 0) (m20 l Z a0 hw [] t_1 kt_1 (8 : Int32) [(.int (0 : Int32)), (.int (0 : Int32)), (.int (0 : Int32)), (.int (0 : Int32)), (.int (0 : Int32)), (.int (0 : Int32)), (.int (0 : Int32)), (.int (0 : Int32))] (0 : Int32) y0 0 1 h1 n0 (Nat.le_trans Z0 K3.1) P1_0 ge_t_1 F7 F8 F9 (by decide) (by decide) (by decide) (by decide) (by decide) (by decide) (by simp) (by simp)) hZ (wk hw 90 rfl) (wk hw 45 rfl) (by decide) (by decide)) (g := (mkF m 20 #[.val (.ref sa), .val (.int (0 : Int32)), .val (.int (4 : Int32)), .val (.ref t_1), .val (.int (0 : Int32))] [(.int y0), (.int (0 : Int32)), (.ref t_1)])) rfl (by rw [hml]; rfl) (argsL := [(.ref t_1), (.int (0 : Int32)), (.int y0)]) (rest := []) (lenOf pdx___BII_V rfl) rfl (by show 2 * 0 + _ ≤ _; exact Nat.le_of_eq rfl) (hb hby d17_20) (fun _ _ => ⟨rfl, e1, nle rfl, nle rfl⟩)
  dsimp only [Pt.U, Pt.locs, Pt.cells, Pt.slots] at X6 l6 y6 z6 st6 hQ6
  subst l6 y6 z6
  obtain ⟨rfl, Nq6, Kq6, P6_0⟩ := hQ6
  have N6 := Fr.app N1 Nq6
  obtain ⟨h6, e6⟩ : ∃ h, T6.heap = h := ⟨_, rfl⟩
  rw [e6] at Kq6 P6_0
  have ns6 := (nsS P1_0.nostat ns0)
  have K10 : Keep h0 h6 [] := K3.trans Kq6 (own_mS (Or.inr sz_t_1) own_m0)
  have F12 := (F5.keep Kq6 (own_nm ne_2 own_n0))
  obtain ⟨c11, Ar11, -, Sz11, -, H11, -⟩ := id F12
  have hin11 := inb_of (j := (1 : Int32)) Sz11 ⟨by decide, by decide⟩
  have hat11 : c11.slots[((1 : Int32) : Int32).toNatClampNeg]? = some (.int y1) := H11 _ (Nat.lt_of_not_le fun q => hin11 (Or.inr q))
  have F14 := (own_staK F7 Kq6 ns6)
  have F15 := (own_staK F8 Kq6 ns6)
  have F16 := (own_staK F9 Kq6 ns6)
  obtain ⟨_, _, ⟨T13, L13, kk13, nn13⟩, -, X13, ⟨Lc13, hQ13, l13, y13, z13⟩, st13⟩ := Jvm.LawKit.callS X6 hx (y := (⟨"java/lang/StringUTF16", "putChar", "([BII)V"⟩ : MethodName)) hown (mvT hZ (wk hw 88 rfl)) (mvT hZ (wk hw 89 rfl)) (mvT hZ (wk hw 45 rfl)) (mvT hZ (wk hw 90 rfl)) (by decide) (backOf (W := 0) (m20 l Z a0 hw [] t_1 kt_1 (8 : Int32) (([(.int (0 : Int32)), (.int (0 : Int32)), (.int (0 : Int32)), (.int (0 : Int32)), (.int (0 : Int32)), (.int (0 : Int32)), (.int (0 : Int32)), (.int (0 : Int32))].set 0 (.int (own_b0 y0))).set 1 (.int (own_b1 y0))) (1 : Int32) y1 2 3 h6 n0 (Nat.le_trans Z0 K10.1) P6_0 ge_t_1 F14 F15 F16 (by decide) (by decide) (by decide) (by decide) (by decide) (by decide) (by simp) (by simp)) hZ (wk hw 90 rfl) (wk hw 45 rfl) (by decide) (by decide)) (g := (mkF m 20 #[.val (.ref sa), .val (.int (1 : Int32)), .val (.int (4 : Int32)), .val (.ref t_1), .val (.int (1 : Int32))] [(.int y1), (.int (1 : Int32)), (.ref t_1)])) rfl (by rw [hml]; rfl) (argsL := [(.ref t_1), (.int (1 : Int32)), (.int y1)]) (rest := []) (lenOf pdx___BII_V rfl) rfl (by show 2 * 0 + _ ≤ _; exact Nat.le_of_eq rfl) (hb hby d17_20) (fun _ _ => ⟨rfl, e6, nle rfl, nle rfl⟩)
  dsimp only [Pt.U, Pt.locs, Pt.cells, Pt.slots] at X13 l13 y13 z13 st13 hQ13
  subst l13 y13 z13
  obtain ⟨rfl, Nq13, Kq13, P13_0⟩ := hQ13
  have N13 := Fr.app N6 Nq13
  obtain ⟨h13, e13⟩ : ∃ h, T13.heap = h := ⟨_, rfl⟩
  rw [e13] at Kq13 P13_0
  have ns13 := (nsS P6_0.nostat ns0)
  have K17 : Keep h0 h13 [] := K10.trans Kq13 (own_mS (Or.inr sz_t_1) own_m0)
  have F19 := (F12.keep Kq13 (own_nm ne_2 own_n0))
  obtain ⟨c18, Ar18, -, Sz18, -, H18, -⟩ := id F19
  have hin18 := inb_of (j := (2 : Int32)) Sz18 ⟨by decide, by decide⟩
  have hat18 : c18.slots[((2 : Int32) : Int32).toNatClampNeg]? = some (.int y2) := H18 _ (Nat.lt_of_not_le fun q => hin18 (Or.inr q))
  have F21 := (own_staK F14 Kq13 ns13)
  have F22 := (own_staK F15 Kq13 ns13)
  have F23 := (own_staK F16 Kq13 ns13)
  obtain ⟨_, _, ⟨T20, L20, kk20, nn20⟩, -, X20, ⟨Lc20, hQ20, l20, y20, z20⟩, st20⟩ := Jvm.LawKit.callS X13 hx (y := (⟨"java/lang/StringUTF16", "putChar", "([BII)V"⟩ : MethodName)) hown (mvT hZ (wk hw 88 rfl)) (mvT hZ (wk hw 89 rfl)) (mvT hZ (wk hw 45 rfl)) (mvT hZ (wk hw 90 rfl)) (by decide) (backOf (W := 0) (m20 l Z a0 hw [] t_1 kt_1 (8 : Int32) (((([(.int (0 : Int32)), (.int (0 : Int32)), (.int (0 : Int32)), (.int (0 : Int32)), (.int (0 : Int32)), (.int (0 : Int32)), (.int (0 : Int32)), (.int (0 : Int32))].set 0 (.int (own_b0 y0))).set 1 (.int (own_b1 y0))).set 2 (.int (own_b0 y1))).set 3 (.int (own_b1 y1))) (2 : Int32) y2 4 5 h13 n0 (Nat.le_trans Z0 K17.1) P13_0 ge_t_1 F21 F22 F23 (by decide) (by decide) (by decide) (by decide) (by decide) (by decide) (by simp) (by simp)) hZ (wk hw 90 rfl) (wk hw 45 rfl) (by decide) (by decide)) (g := (mkF m 20 #[.val (.ref sa), .val (.int (2 : Int32)), .val (.int (4 : Int32)), .val (.ref t_1), .val (.int (2 : Int32))] [(.int y2), (.int (2 : Int32)), (.ref t_1)])) rfl (by rw [hml]; rfl) (argsL := [(.ref t_1), (.int (2 : Int32)), (.int y2)]) (rest := []) (lenOf pdx___BII_V rfl) rfl (by show 2 * 0 + _ ≤ _; exact Nat.le_of_eq rfl) (hb hby d17_20) (fun _ _ => ⟨rfl, e13, nle rfl, nle rfl⟩)
  dsimp only [Pt.U, Pt.locs, Pt.cells, Pt.slots] at X20 l20 y20 z20 st20 hQ20
  subst l20 y20 z20
  obtain ⟨rfl, Nq20, Kq20, P20_0⟩ := hQ20
  have N20 := Fr.app N13 Nq20
  obtain ⟨h20, e20⟩ : ∃ h, T20.heap = h := ⟨_, rfl⟩
  rw [e20] at Kq20 P20_0
  have ns20 := (nsS P13_0.nostat ns0)
  have K24 : Keep h0 h20 [] := K17.trans Kq20 (own_mS (Or.inr sz_t_1) own_m0)
  have F26 := (F19.keep Kq20 (own_nm ne_2 own_n0))
  obtain ⟨c25, Ar25, -, Sz25, -, H25, -⟩ := id F26
  have hin25 := inb_of (j := (3 : Int32)) Sz25 ⟨by decide, by decide⟩
  have hat25 : c25.slots[((3 : Int32) : Int32).toNatClampNeg]? = some (.int y3) := H25 _ (Nat.lt_of_not_le fun q => hin25 (Or.inr q))
  have F28 := (own_staK F21 Kq20 ns20)
  have F29 := (own_staK F22 Kq20 ns20)
  have F30 := (own_staK F23 Kq20 ns20)
  obtain ⟨_, _, ⟨T27, L27, kk27, nn27⟩, -, X27, ⟨Lc27, hQ27, l27, y27, z27⟩, st27⟩ := Jvm.LawKit.callS X20 hx (y := (⟨"java/lang/StringUTF16", "putChar", "([BII)V"⟩ : MethodName)) hown (mvT hZ (wk hw 88 rfl)) (mvT hZ (wk hw 89 rfl)) (mvT hZ (wk hw 45 rfl)) (mvT hZ (wk hw 90 rfl)) (by decide) (backOf (W := 0) (m20 l Z a0 hw [] t_1 kt_1 (8 : Int32) (((((([(.int (0 : Int32)), (.int (0 : Int32)), (.int (0 : Int32)), (.int (0 : Int32)), (.int (0 : Int32)), (.int (0 : Int32)), (.int (0 : Int32)), (.int (0 : Int32))].set 0 (.int (own_b0 y0))).set 1 (.int (own_b1 y0))).set 2 (.int (own_b0 y1))).set 3 (.int (own_b1 y1))).set 4 (.int (own_b0 y2))).set 5 (.int (own_b1 y2))) (3 : Int32) y3 6 7 h20 n0 (Nat.le_trans Z0 K24.1) P20_0 ge_t_1 F28 F29 F30 (by decide) (by decide) (by decide) (by decide) (by decide) (by decide) (by simp) (by simp)) hZ (wk hw 90 rfl) (wk hw 45 rfl) (by decide) (by decide)) (g := (mkF m 20 #[.val (.ref sa), .val (.int (3 : Int32)), .val (.int (4 : Int32)), .val (.ref t_1), .val (.int (3 : Int32))] [(.int y3), (.int (3 : Int32)), (.ref t_1)])) rfl (by rw [hml]; rfl) (argsL := [(.ref t_1), (.int (3 : Int32)), (.int y3)]) (rest := []) (lenOf pdx___BII_V rfl) rfl (by show 2 * 0 + _ ≤ _; exact Nat.le_of_eq rfl) (hb hby d17_20) (fun _ _ => ⟨rfl, e20, nle rfl, nle rfl⟩)
  dsimp only [Pt.U, Pt.locs, Pt.cells, Pt.slots] at X27 l27 y27 z27 st27 hQ27
  subst l27 y27 z27
  obtain ⟨rfl, Nq27, Kq27, P27_0⟩ := hQ27
  have N27 := Fr.app N20 Nq27
  obtain ⟨h27, e27⟩ : ∃ h, T27.heap = h := ⟨_, rfl⟩
  rw [e27] at Kq27 P27_0
  have ns27 := (nsS P20_0.nostat ns0)
  have K31 : Keep h0 h27 [] := K24.trans Kq27 (own_mS (Or.inr sz_t_1) own_m0)
  have V32 : Arv Z h27 t_1 kt_1 .byte (8 : Int32) [(.int (own_b0 y0)), (.int (own_b1 y0)), (.int (own_b0 y1)), (.int (own_b1 y1)), (.int (own_b0 y2)), (.int (own_b1 y2)), (.int (own_b0 y3)), (.int (own_b1 y3))] (.int (0 : Int32)) := P27_0
  obtain ⟨fs, hr, hrun, hended, hW, hsame⟩ := X27.leave (v := some (.ref t_1)) (fun h => by rw [Bd.returns] at h; cases h)
  refine ⟨_, _, pre0 _ ?_, hrun, hended, _, _, rfl, ?_, ⟨_, rfl⟩, hW, hsame.mono (nle rfl) (nle rfl)⟩
  · show Steps p.tables e below (s₁.setTop (mkF m 0 #[.val (.ref sa), .val (.int (0 : Int32)), .val (.int (4 : Int32)), .unset, .unset] [])) _
    refine XS.iloadN X0.here hx rfl (hb hby d17_0) rfl ?_
    show Steps p.tables e below (s₁.setTop (mkF m 1 #[.val (.ref sa), .val (.int (0 : Int32)), .val (.int (4 : Int32)), .unset, .unset] [(.int (4 : Int32))])) _
    refine st1 _ ?_
    show Steps p.tables e below (T1.setTop (mkF m 4 #[.val (.ref sa), .val (.int (0 : Int32)), .val (.int (4 : Int32)), .unset, .unset] [(.ref t_1)])) _
    refine XS.astoreN X1.here hx rfl (hb hby d17_4) rfl rfl (l' := #[.val (.ref sa), .val (.int (0 : Int32)), .val (.int (4 : Int32)), .val (.ref t_1), .unset]) rfl ?_
    refine XS.iconst X1.here hx rfl (hb hby d17_5) ?_
    show Steps p.tables e below (T1.setTop (mkF m 6 #[.val (.ref sa), .val (.int (0 : Int32)), .val (.int (4 : Int32)), .val (.ref t_1), .unset] [(.int (0 : Int32))])) _
    refine XS.istore X1.here hx rfl (hb hby d17_6) rfl (l' := #[.val (.ref sa), .val (.int (0 : Int32)), .val (.int (4 : Int32)), .val (.ref t_1), .val (.int (0 : Int32))]) rfl ?_
    refine XS.iload X1.here hx rfl (hb hby d17_8) rfl ?_
    show Steps p.tables e below (T1.setTop (mkF m 10 #[.val (.ref sa), .val (.int (0 : Int32)), .val (.int (4 : Int32)), .val (.ref t_1), .val (.int (0 : Int32))] [(.int (0 : Int32))])) _
    refine XS.iloadN X1.here hx rfl (hb hby d17_10) rfl ?_
    show Steps p.tables e below (T1.setTop (mkF m 11 #[.val (.ref sa), .val (.int (0 : Int32)), .val (.int (4 : Int32)), .val (.ref t_1), .val (.int (0 : Int32))] [(.int (4 : Int32)), (.int (0 : Int32))])) _
    refine XS.icmpNo X1.here hx rfl (hb hby d17_11) rfl (tlt (by decide : (0 : Int32) < (4 : Int32))).2.1 ?_
    show Steps p.tables e below (T1.setTop (mkF m 14 #[.val (.ref sa), .val (.int (0 : Int32)), .val (.int (4 : Int32)), .val (.ref t_1), .val (.int (0 : Int32))] [])) _
    refine XS.aloadN X1.here hx rfl (hb hby d17_14) rfl rfl ?_
    refine XS.iload X1.here hx rfl (hb hby d17_15) rfl ?_
    show Steps p.tables e below (T1.setTop (mkF m 17 #[.val (.ref sa), .val (.int (0 : Int32)), .val (.int (4 : Int32)), .val (.ref t_1), .val (.int (0 : Int32))] [(.int (0 : Int32)), (.ref t_1)])) _
    refine XS.aloadN X1.here hx rfl (hb hby d17_17) rfl rfl ?_
    refine XS.iloadN X1.here hx rfl (hb hby d17_18) rfl ?_
    show Steps p.tables e below (T1.setTop (mkF m 19 #[.val (.ref sa), .val (.int (0 : Int32)), .val (.int (4 : Int32)), .val (.ref t_1), .val (.int (0 : Int32))] [(.int (0 : Int32)), (.ref sa), (.int (0 : Int32)), (.ref t_1)])) _
    refine X1.caload hx (j := (0 : Int32)) (v := (.int y0)) (by rw [e1]; exact Ar4.1) (State.isArrayOf_alike hZ.alike Ar4.2.1) Ar4.2.2 hin4 hat4 (g := (mkF m 19 #[.val (.ref sa), .val (.int (0 : Int32)), .val (.int (4 : Int32)), .val (.ref t_1), .val (.int (0 : Int32))] [(.int (0 : Int32)), (.ref sa), (.int (0 : Int32)), (.ref t_1)])) rfl rfl (hb hby d17_19) _ ?_
    show Steps p.tables e below (T1.setTop (mkF m 20 #[.val (.ref sa), .val (.int (0 : Int32)), .val (.int (4 : Int32)), .val (.ref t_1), .val (.int (0 : Int32))] [(.int y0), (.int (0 : Int32)), (.ref t_1)])) _
    refine st6 _ ?_
    show Steps p.tables e below (T6.setTop (mkF m 23 #[.val (.ref sa), .val (.int (0 : Int32)), .val (.int (4 : Int32)), .val (.ref t_1), .val (.int (0 : Int32))] [])) _
    refine XS.iinc X6.here hx rfl (hb hby d17_23) rfl (l' := #[.val (.ref sa), .val (.int (1 : Int32)), .val (.int (4 : Int32)), .val (.ref t_1), .val (.int (0 : Int32))]) rfl ?_
    refine XS.iinc X6.here hx rfl (hb hby d17_26) rfl (l' := #[.val (.ref sa), .val (.int (1 : Int32)), .val (.int (4 : Int32)), .val (.ref t_1), .val (.int (1 : Int32))]) rfl ?_
    show Steps p.tables e below (T6.setTop (mkF m 29 #[.val (.ref sa), .val (.int (1 : Int32)), .val (.int (4 : Int32)), .val (.ref t_1), .val (.int (1 : Int32))] [])) _
    refine XS.goto X6.here hx rfl (pc0 := 29) (pc' := 8) rfl (hb hby d17_29) (by decide) (by decide) ?_
    refine XS.iload X6.here hx rfl (hb hby d17_8) rfl ?_
    show Steps p.tables e below (T6.setTop (mkF m 10 #[.val (.ref sa), .val (.int (1 : Int32)), .val (.int (4 : Int32)), .val (.ref t_1), .val (.int (1 : Int32))] [(.int (1 : Int32))])) _
    refine XS.iloadN X6.here hx rfl (hb hby d17_10) rfl ?_
    show Steps p.tables e below (T6.setTop (mkF m 11 #[.val (.ref sa), .val (.int (1 : Int32)), .val (.int (4 : Int32)), .val (.ref t_1), .val (.int (1 : Int32))] [(.int (4 : Int32)), (.int (1 : Int32))])) _
    refine XS.icmpNo X6.here hx rfl (hb hby d17_11) rfl (tlt (by decide : (1 : Int32) < (4 : Int32))).2.1 ?_
    show Steps p.tables e below (T6.setTop (mkF m 14 #[.val (.ref sa), .val (.int (1 : Int32)), .val (.int (4 : Int32)), .val (.ref t_1), .val (.int (1 : Int32))] [])) _
    refine XS.aloadN X6.here hx rfl (hb hby d17_14) rfl rfl ?_
    refine XS.iload X6.here hx rfl (hb hby d17_15) rfl ?_
    show Steps p.tables e below (T6.setTop (mkF m 17 #[.val (.ref sa), .val (.int (1 : Int32)), .val (.int (4 : Int32)), .val (.ref t_1), .val (.int (1 : Int32))] [(.int (1 : Int32)), (.ref t_1)])) _
    refine XS.aloadN X6.here hx rfl (hb hby d17_17) rfl rfl ?_
    refine XS.iloadN X6.here hx rfl (hb hby d17_18) rfl ?_
    show Steps p.tables e below (T6.setTop (mkF m 19 #[.val (.ref sa), .val (.int (1 : Int32)), .val (.int (4 : Int32)), .val (.ref t_1), .val (.int (1 : Int32))] [(.int (1 : Int32)), (.ref sa), (.int (1 : Int32)), (.ref t_1)])) _
    refine X6.caload hx (j := (1 : Int32)) (v := (.int y1)) (by rw [e6]; exact Ar11.1) (State.isArrayOf_alike hZ.alike Ar11.2.1) Ar11.2.2 hin11 hat11 (g := (mkF m 19 #[.val (.ref sa), .val (.int (1 : Int32)), .val (.int (4 : Int32)), .val (.ref t_1), .val (.int (1 : Int32))] [(.int (1 : Int32)), (.ref sa), (.int (1 : Int32)), (.ref t_1)])) rfl rfl (hb hby d17_19) _ ?_
    show Steps p.tables e below (T6.setTop (mkF m 20 #[.val (.ref sa), .val (.int (1 : Int32)), .val (.int (4 : Int32)), .val (.ref t_1), .val (.int (1 : Int32))] [(.int y1), (.int (1 : Int32)), (.ref t_1)])) _
    refine st13 _ ?_
    show Steps p.tables e below (T13.setTop (mkF m 23 #[.val (.ref sa), .val (.int (1 : Int32)), .val (.int (4 : Int32)), .val (.ref t_1), .val (.int (1 : Int32))] [])) _
    refine XS.iinc X13.here hx rfl (hb hby d17_23) rfl (l' := #[.val (.ref sa), .val (.int (2 : Int32)), .val (.int (4 : Int32)), .val (.ref t_1), .val (.int (1 : Int32))]) rfl ?_
    refine XS.iinc X13.here hx rfl (hb hby d17_26) rfl (l' := #[.val (.ref sa), .val (.int (2 : Int32)), .val (.int (4 : Int32)), .val (.ref t_1), .val (.int (2 : Int32))]) rfl ?_
    show Steps p.tables e below (T13.setTop (mkF m 29 #[.val (.ref sa), .val (.int (2 : Int32)), .val (.int (4 : Int32)), .val (.ref t_1), .val (.int (2 : Int32))] [])) _
    refine XS.goto X13.here hx rfl (pc0 := 29) (pc' := 8) rfl (hb hby d17_29) (by decide) (by decide) ?_
    refine XS.iload X13.here hx rfl (hb hby d17_8) rfl ?_
    show Steps p.tables e below (T13.setTop (mkF m 10 #[.val (.ref sa), .val (.int (2 : Int32)), .val (.int (4 : Int32)), .val (.ref t_1), .val (.int (2 : Int32))] [(.int (2 : Int32))])) _
    refine XS.iloadN X13.here hx rfl (hb hby d17_10) rfl ?_
    show Steps p.tables e below (T13.setTop (mkF m 11 #[.val (.ref sa), .val (.int (2 : Int32)), .val (.int (4 : Int32)), .val (.ref t_1), .val (.int (2 : Int32))] [(.int (4 : Int32)), (.int (2 : Int32))])) _
    refine XS.icmpNo X13.here hx rfl (hb hby d17_11) rfl (tlt (by decide : (2 : Int32) < (4 : Int32))).2.1 ?_
    show Steps p.tables e below (T13.setTop (mkF m 14 #[.val (.ref sa), .val (.int (2 : Int32)), .val (.int (4 : Int32)), .val (.ref t_1), .val (.int (2 : Int32))] [])) _
    refine XS.aloadN X13.here hx rfl (hb hby d17_14) rfl rfl ?_
    refine XS.iload X13.here hx rfl (hb hby d17_15) rfl ?_
    show Steps p.tables e below (T13.setTop (mkF m 17 #[.val (.ref sa), .val (.int (2 : Int32)), .val (.int (4 : Int32)), .val (.ref t_1), .val (.int (2 : Int32))] [(.int (2 : Int32)), (.ref t_1)])) _
    refine XS.aloadN X13.here hx rfl (hb hby d17_17) rfl rfl ?_
    refine XS.iloadN X13.here hx rfl (hb hby d17_18) rfl ?_
    show Steps p.tables e below (T13.setTop (mkF m 19 #[.val (.ref sa), .val (.int (2 : Int32)), .val (.int (4 : Int32)), .val (.ref t_1), .val (.int (2 : Int32))] [(.int (2 : Int32)), (.ref sa), (.int (2 : Int32)), (.ref t_1)])) _
    refine X13.caload hx (j := (2 : Int32)) (v := (.int y2)) (by rw [e13]; exact Ar18.1) (State.isArrayOf_alike hZ.alike Ar18.2.1) Ar18.2.2 hin18 hat18 (g := (mkF m 19 #[.val (.ref sa), .val (.int (2 : Int32)), .val (.int (4 : Int32)), .val (.ref t_1), .val (.int (2 : Int32))] [(.int (2 : Int32)), (.ref sa), (.int (2 : Int32)), (.ref t_1)])) rfl rfl (hb hby d17_19) _ ?_
    show Steps p.tables e below (T13.setTop (mkF m 20 #[.val (.ref sa), .val (.int (2 : Int32)), .val (.int (4 : Int32)), .val (.ref t_1), .val (.int (2 : Int32))] [(.int y2), (.int (2 : Int32)), (.ref t_1)])) _
    refine st20 _ ?_
    show Steps p.tables e below (T20.setTop (mkF m 23 #[.val (.ref sa), .val (.int (2 : Int32)), .val (.int (4 : Int32)), .val (.ref t_1), .val (.int (2 : Int32))] [])) _
    refine XS.iinc X20.here hx rfl (hb hby d17_23) rfl (l' := #[.val (.ref sa), .val (.int (3 : Int32)), .val (.int (4 : Int32)), .val (.ref t_1), .val (.int (2 : Int32))]) rfl ?_
    refine XS.iinc X20.here hx rfl (hb hby d17_26) rfl (l' := #[.val (.ref sa), .val (.int (3 : Int32)), .val (.int (4 : Int32)), .val (.ref t_1), .val (.int (3 : Int32))]) rfl ?_
    show Steps p.tables e below (T20.setTop (mkF m 29 #[.val (.ref sa), .val (.int (3 : Int32)), .val (.int (4 : Int32)), .val (.ref t_1), .val (.int (3 : Int32))] [])) _
    refine XS.goto X20.here hx rfl (pc0 := 29) (pc' := 8) rfl (hb hby d17_29) (by decide) (by decide) ?_
    refine XS.iload X20.here hx rfl (hb hby d17_8) rfl ?_
    show Steps p.tables e below (T20.setTop (mkF m 10 #[.val (.ref sa), .val (.int (3 : Int32)), .val (.int (4 : Int32)), .val (.ref t_1), .val (.int (3 : Int32))] [(.int (3 : Int32))])) _
    refine XS.iloadN X20.here hx rfl (hb hby d17_10) rfl ?_
    show Steps p.tables e below (T20.setTop (mkF m 11 #[.val (.ref sa), .val (.int (3 : Int32)), .val (.int (4 : Int32)), .val (.ref t_1), .val (.int (3 : Int32))] [(.int (4 : Int32)), (.int (3 : Int32))])) _
    refine XS.icmpNo X20.here hx rfl (hb hby d17_11) rfl (tlt (by decide : (3 : Int32) < (4 : Int32))).2.1 ?_
    show Steps p.tables e below (T20.setTop (mkF m 14 #[.val (.ref sa), .val (.int (3 : Int32)), .val (.int (4 : Int32)), .val (.ref t_1), .val (.int (3 : Int32))] [])) _
    refine XS.aloadN X20.here hx rfl (hb hby d17_14) rfl rfl ?_
    refine XS.iload X20.here hx rfl (hb hby d17_15) rfl ?_
    show Steps p.tables e below (T20.setTop (mkF m 17 #[.val (.ref sa), .val (.int (3 : Int32)), .val (.int (4 : Int32)), .val (.ref t_1), .val (.int (3 : Int32))] [(.int (3 : Int32)), (.ref t_1)])) _
    refine XS.aloadN X20.here hx rfl (hb hby d17_17) rfl rfl ?_
    refine XS.iloadN X20.here hx rfl (hb hby d17_18) rfl ?_
    show Steps p.tables e below (T20.setTop (mkF m 19 #[.val (.ref sa), .val (.int (3 : Int32)), .val (.int (4 : Int32)), .val (.ref t_1), .val (.int (3 : Int32))] [(.int (3 : Int32)), (.ref sa), (.int (3 : Int32)), (.ref t_1)])) _
    refine X20.caload hx (j := (3 : Int32)) (v := (.int y3)) (by rw [e20]; exact Ar25.1) (State.isArrayOf_alike hZ.alike Ar25.2.1) Ar25.2.2 hin25 hat25 (g := (mkF m 19 #[.val (.ref sa), .val (.int (3 : Int32)), .val (.int (4 : Int32)), .val (.ref t_1), .val (.int (3 : Int32))] [(.int (3 : Int32)), (.ref sa), (.int (3 : Int32)), (.ref t_1)])) rfl rfl (hb hby d17_19) _ ?_
    show Steps p.tables e below (T20.setTop (mkF m 20 #[.val (.ref sa), .val (.int (3 : Int32)), .val (.int (4 : Int32)), .val (.ref t_1), .val (.int (3 : Int32))] [(.int y3), (.int (3 : Int32)), (.ref t_1)])) _
    refine st27 _ ?_
    show Steps p.tables e below (T27.setTop (mkF m 23 #[.val (.ref sa), .val (.int (3 : Int32)), .val (.int (4 : Int32)), .val (.ref t_1), .val (.int (3 : Int32))] [])) _
    refine XS.iinc X27.here hx rfl (hb hby d17_23) rfl (l' := #[.val (.ref sa), .val (.int (4 : Int32)), .val (.int (4 : Int32)), .val (.ref t_1), .val (.int (3 : Int32))]) rfl ?_
    refine XS.iinc X27.here hx rfl (hb hby d17_26) rfl (l' := #[.val (.ref sa), .val (.int (4 : Int32)), .val (.int (4 : Int32)), .val (.ref t_1), .val (.int (4 : Int32))]) rfl ?_
    show Steps p.tables e below (T27.setTop (mkF m 29 #[.val (.ref sa), .val (.int (4 : Int32)), .val (.int (4 : Int32)), .val (.ref t_1), .val (.int (4 : Int32))] [])) _
    refine XS.goto X27.here hx rfl (pc0 := 29) (pc' := 8) rfl (hb hby d17_29) (by decide) (by decide) ?_
    refine XS.iload X27.here hx rfl (hb hby d17_8) rfl ?_
    show Steps p.tables e below (T27.setTop (mkF m 10 #[.val (.ref sa), .val (.int (4 : Int32)), .val (.int (4 : Int32)), .val (.ref t_1), .val (.int (4 : Int32))] [(.int (4 : Int32))])) _
    refine XS.iloadN X27.here hx rfl (hb hby d17_10) rfl ?_
    show Steps p.tables e below (T27.setTop (mkF m 11 #[.val (.ref sa), .val (.int (4 : Int32)), .val (.int (4 : Int32)), .val (.ref t_1), .val (.int (4 : Int32))] [(.int (4 : Int32)), (.int (4 : Int32))])) _
    refine XS.icmpYes X27.here hx rfl (pc0 := 11) (pc' := 32) rfl (hb hby d17_11) rfl (flt (by decide : ¬ ((4 : Int32) < (4 : Int32)))).2.1 (by decide) (by decide) ?_
    show Steps p.tables e below (T27.setTop (mkF m 32 #[.val (.ref sa), .val (.int (4 : Int32)), .val (.int (4 : Int32)), .val (.ref t_1), .val (.int (4 : Int32))] [])) _
    refine XS.aloadN X27.here hx rfl (hb hby d17_32) rfl rfl ?_
    show Steps p.tables e below (T27.setTop (mkF m 33 #[.val (.ref sa), .val (.int (4 : Int32)), .val (.int (4 : Int32)), .val (.ref t_1), .val (.int (4 : Int32))] [(.ref t_1)])) _
    exact X27.areturnOut hx rfl Bd.returns rfl (hb hby d17_33) hr
  · show Q_m17_4 Z sa ks y0 y1 y2 y3 h0 n0 _ T27.heap _
    rw [e27]
    exact ⟨t_1, kt_1, rfl, N27, K31, V32, sz_t_1⟩
def Q_m19_3 (Z : State)  (h0 : Heap) (n0 : Nat) (v : Option Value) (h : Heap) (L : List Loc) : Prop := v = (some (.int (6 : Int32))) ∧ Fr n0 L ∧ h = h0
theorem ef_m19_3 (m : MethodId)  : entryFrame m #[(.int (3 : Int32))] 1 = mkF m 0 #[.val (.int (3 : Int32))] [] := by first | (simp [entryFrame, mkF, argsToLocals, Value.category]; done) | rfl
set_option maxRecDepth 65536 in
set_option maxHeartbeats 40000000 in
theorem m19_3 (l : Launch) (Z : State) (a0 : Array Value) (hw : ∀ d ∈ tables_1, d.before a0 Z = true) (ws : List Jvm.Cond)  (h0 : Heap) (n0 : Nat) (Z0 : n0 ≤ h0.size)  :
    MetFree l (⟨"java/lang/StringUTF16", "newBytesLength", "(I)I"⟩ : MethodName) (head1 (Jvm.Cond.code (⟨"java/lang/StringUTF16", "newBytesLength", "(I)I"⟩ : MethodName) jdk_52_method_3_code 1 (some .int) :: ws) ({ frames := 0, cells := 0, slots := 0, locals := 0 } : Room)) (fun ar_ U => ar_ = #[(.int (3 : Int32))] ∧ Z.Warmed39 U.vm ∧ U.heap = h0) (fun _ _ _ _ _ => True) (fun _ U o U' => ∃ v L, o = .returned v ∧ Q_m19_3 Z  h0 n0 v U'.heap L ∧ FrameEnd U o U' L ({ frames := 0, cells := 0, slots := 0, locals := 0 } : Room).cells ({ frames := 0, cells := 0, slots := 0, locals := 0 } : Room).slots) := by
  refine MetFree.of_bodySF (plainFor_of_name pnx_java_lang_StringUTF16) hisR ?_
  intro p e s m args below meth c s₁ Bd hml0 hP hK
  obtain ⟨rfl, hZ, hh⟩ := hP
  have hx := Bd.exec
  have hby := Bd.bytes
  have hml : c.maxLocals = 1 := hml0
  have hown : s.vm.findClass "java/lang/StringUTF16" = some m.cls := findClass_of_methodNamed Bd.named
  have hnm := (name_of_methodNamed Bd.named Bd.method).1
  have X0 : Stand p l e ({ frames := 0, cells := 0, slots := 0, locals := 0 } : Room) s m #[(.int (3 : Int32))] below meth c s₁ [] 0 0 := Stand.of_body Bd
  have e0 : s₁.heap = h0 := by rw [← hh, Bd.state]; rfl
  have N0 := Fr.nil n0
  have pre0 : ∀ tq_, Steps p.tables e below (s₁.setTop (mkF m 0 #[.val (.int (3 : Int32))] [])) tq_ → Steps p.tables e below (s₁.setTop (entryFrame m #[(.int (3 : Int32))] 1)) tq_ := fun tq_ kt_ => castTop (ef_m19_3 m  ) kt_
  obtain ⟨fs, hr, hrun, hended, hW, hsame⟩ := X0.leave (v := some (.int (6 : Int32))) (fun h => by rw [Bd.returns] at h; cases h)
  refine ⟨_, _, pre0 _ ?_, hrun, hended, _, _, rfl, ?_, ⟨_, rfl⟩, hW, hsame.mono (nle rfl) (nle rfl)⟩
  · show Steps p.tables e below (s₁.setTop (mkF m 0 #[.val (.int (3 : Int32))] [])) _
    refine XS.iloadN X0.here hx rfl (hb hby d19_0) rfl ?_
    show Steps p.tables e below (s₁.setTop (mkF m 1 #[.val (.int (3 : Int32))] [(.int (3 : Int32))])) _
    refine XS.ifYes X0.here hx rfl (pc0 := 1) (pc' := 12) rfl (hb hby d19_1) rfl ((if0 _ _).trans (flt (by decide : ¬ ((3 : Int32) < (0 : Int32)))).2.1) (by decide) (by decide) ?_
    show Steps p.tables e below (s₁.setTop (mkF m 12 #[.val (.int (3 : Int32))] [])) _
    refine XS.iloadN X0.here hx rfl (hb hby d19_12) rfl ?_
    show Steps p.tables e below (s₁.setTop (mkF m 13 #[.val (.int (3 : Int32))] [(.int (3 : Int32))])) _
    refine X0.ldcInt hx hown (mvT hZ (wk hw 87 rfl)) (g := (mkF m 13 #[.val (.int (3 : Int32))] [(.int (3 : Int32))])) rfl (hb hby d19_13) _ ?_
    show Steps p.tables e below (s₁.setTop (mkF m 15 #[.val (.int (3 : Int32))] [(.int (1073741823 : Int32)), (.int (3 : Int32))])) _
    refine XS.icmpYes X0.here hx rfl (pc0 := 15) (pc' := 55) rfl (hb hby d19_15) rfl (tlt (by decide : (3 : Int32) < (1073741823 : Int32))).1 (by decide) (by decide) ?_
    show Steps p.tables e below (s₁.setTop (mkF m 55 #[.val (.int (3 : Int32))] [])) _
    refine XS.iloadN X0.here hx rfl (hb hby d19_55) rfl ?_
    refine XS.iconst X0.here hx rfl (hb hby d19_56) ?_
    show Steps p.tables e below (s₁.setTop (mkF m 57 #[.val (.int (3 : Int32))] [(.int (1 : Int32)), (.int (3 : Int32))])) _
    show Steps p.tables e below (s₁.setTop (mkF m 57 #[.val (.int (3 : Int32))] [(.int (1 : Int32)), (.int (3 : Int32))])) _
    refine XS.ishl X0.here hx rfl (hb hby d19_57) rfl ?_
    show Steps p.tables e below (s₁.setTop (mkF m 58 #[.val (.int (3 : Int32))] [(.int ((3 : Int32) <<< ((1 : Int32) &&& 31)))])) _
    rw [show ((3 : Int32) <<< ((1 : Int32) &&& 31)) = (6 : Int32) from by decide]
    show Steps p.tables e below (s₁.setTop (mkF m 58 #[.val (.int (3 : Int32))] [(.int (6 : Int32))])) _
    exact retI X0 hx Bd.returns (hb hby d19_58) hr
  · show Q_m19_3 Z  h0 n0 _ s₁.heap _
    exact ⟨rfl, N0, e0⟩
def Q_m18_3 (Z : State)  (h0 : Heap) (n0 : Nat) (v : Option Value) (h : Heap) (L : List Loc) : Prop := ∃ (t : Addr) (kt : ClassId), v = (some (.ref t)) ∧ Fr n0 L ∧ Keep h0 h [] ∧ Arv Z h t kt .byte (6 : Int32) [(.int (0 : Int32)), (.int (0 : Int32)), (.int (0 : Int32)), (.int (0 : Int32)), (.int (0 : Int32)), (.int (0 : Int32))] (.int (0 : Int32)) ∧ h0.size ≤ t
theorem ef_m18_3 (m : MethodId)  : entryFrame m #[(.int (3 : Int32))] 1 = mkF m 0 #[.val (.int (3 : Int32))] [] := by first | (simp [entryFrame, mkF, argsToLocals, Value.category]; done) | rfl
set_option maxRecDepth 65536 in
set_option maxHeartbeats 40000000 in
theorem m18_3 (l : Launch) (Z : State) (a0 : Array Value) (hw : ∀ d ∈ tables_1, d.before a0 Z = true) (ws : List Jvm.Cond)  (h0 : Heap) (n0 : Nat) (Z0 : n0 ≤ h0.size)  :
    MetFree l (⟨"java/lang/StringUTF16", "newBytesFor", "(I)[B"⟩ : MethodName) (head1 (Jvm.Cond.code (⟨"java/lang/StringUTF16", "newBytesFor", "(I)[B"⟩ : MethodName) jdk_52_method_2_code 1 (some (.array .byte)) :: ws) ({ frames := 1, cells := 1, slots := 6, locals := 12 } : Room)) (fun ar_ U => ar_ = #[(.int (3 : Int32))] ∧ Z.Warmed39 U.vm ∧ U.heap = h0) (fun _ _ _ _ _ => True) (fun _ U o U' => ∃ v L, o = .returned v ∧ Q_m18_3 Z  h0 n0 v U'.heap L ∧ FrameEnd U o U' L ({ frames := 1, cells := 1, slots := 6, locals := 12 } : Room).cells ({ frames := 1, cells := 1, slots := 6, locals := 12 } : Room).slots) := by
  refine MetFree.of_bodySF (plainFor_of_name pnx_java_lang_StringUTF16) hisR ?_
  intro p e s m args below meth c s₁ Bd hml0 hP hK
  obtain ⟨rfl, hZ, hh⟩ := hP
  have hx := Bd.exec
  have hby := Bd.bytes
  have hml : c.maxLocals = 1 := hml0
  have hown : s.vm.findClass "java/lang/StringUTF16" = some m.cls := findClass_of_methodNamed Bd.named
  have hnm := (name_of_methodNamed Bd.named Bd.method).1
  have X0 : Stand p l e ({ frames := 1, cells := 1, slots := 6, locals := 12 } : Room) s m #[(.int (3 : Int32))] below meth c s₁ [] 0 0 := Stand.of_body Bd
  have e0 : s₁.heap = h0 := by rw [← hh, Bd.state]; rfl
  have N0 := Fr.nil n0
  have pre0 : ∀ tq_, Steps p.tables e below (s₁.setTop (mkF m 0 #[.val (.int (3 : Int32))] [])) tq_ → Steps p.tables e below (s₁.setTop (entryFrame m #[(.int (3 : Int32))] 1)) tq_ := fun tq_ kt_ => castTop (ef_m18_3 m  ) kt_
  obtain ⟨_, _, ⟨T1, L1, kk1, nn1⟩, -, X1, ⟨Lc1, hQ1, l1, y1, z1⟩, st1⟩ := Jvm.LawKit.callS X0 hx (y := (⟨"java/lang/StringUTF16", "newBytesLength", "(I)I"⟩ : MethodName)) hown (mvT hZ (wk hw 84 rfl)) (mvT hZ (wk hw 85 rfl)) (mvT hZ (wk hw 45 rfl)) (mvT hZ (wk hw 86 rfl)) (by decide) (backOf (W := 0) (m19_3 l Z a0 hw []  h0 n0 Z0 ) hZ (wk hw 86 rfl) (wk hw 45 rfl) (by decide) (by decide)) (g := (mkF m 1 #[.val (.int (3 : Int32))] [(.int (3 : Int32))])) rfl (by rw [hml]; rfl) (argsL := [(.int (3 : Int32))]) (rest := []) (lenOf pdx__I_I rfl) rfl (by show 2 * 0 + _ ≤ _; exact Nat.le_of_eq rfl) (hb hby d18_1) (fun _ _ => ⟨rfl, e0, nle rfl, nle rfl⟩)
  dsimp only [Pt.U, Pt.locs, Pt.cells, Pt.slots] at X1 l1 y1 z1 st1 hQ1
  subst l1 y1 z1
  obtain ⟨rfl, Nq1, e1⟩ := hQ1
  have N1 := Fr.app N0 Nq1
  obtain ⟨T2, h2, k2, X2, e2, E2, A2, st2⟩ := newP X1 hx hZ (wk hw 21 rfl) e1 (g := (mkF m 4 #[.val (.int (3 : Int32))] [(.int (6 : Int32))])) rfl (hb hby d18_4) rfl (by decide) (cap := 6) (by decide) (by decide) (nle rfl) (nle rfl)
  obtain ⟨b2, g2⟩ : ∃ z, z = h0.size := ⟨_, rfl⟩
  rw [← g2] at A2 st2
  have V2 : Arv Z h2 b2 k2 .byte (6 : Int32) [] (.int (0 : Int32)) := Arv.new A2 (by decide)
  have sz_b2 : h0.size ≤ b2 := (Nat.le_of_eq g2.symm)
  have ge_b2 : n0 ≤ b2 := Nat.le_trans Z0 sz_b2
  have K3 : Keep h0 h2 [] := (Keep.refl h0 []).ext E2
  have V4 : Arv Z h2 b2 k2 .byte (6 : Int32) [(.int (0 : Int32)), (.int (0 : Int32)), (.int (0 : Int32)), (.int (0 : Int32)), (.int (0 : Int32)), (.int (0 : Int32))] (.int (0 : Int32)) := V2.pad (pad_rep [] (.int (0 : Int32)) 6)
  obtain ⟨fs, hr, hrun, hended, hW, hsame⟩ := X2.leave (v := some (.ref b2)) (fun h => by rw [Bd.returns] at h; cases h)
  refine ⟨_, _, pre0 _ ?_, hrun, hended, _, _, rfl, ?_, ⟨_, rfl⟩, hW, hsame.mono (nle rfl) (nle rfl)⟩
  · show Steps p.tables e below (s₁.setTop (mkF m 0 #[.val (.int (3 : Int32))] [])) _
    refine XS.iloadN X0.here hx rfl (hb hby d18_0) rfl ?_
    show Steps p.tables e below (s₁.setTop (mkF m 1 #[.val (.int (3 : Int32))] [(.int (3 : Int32))])) _
    refine st1 _ ?_
    show Steps p.tables e below (T1.setTop (mkF m 4 #[.val (.int (3 : Int32))] [(.int (6 : Int32))])) _
    refine st2 _ ?_
    show Steps p.tables e below (T2.setTop (mkF m 6 #[.val (.int (3 : Int32))] [(.ref b2)])) _
    exact X2.areturnOut hx rfl Bd.returns rfl (hb hby d18_6) hr
  · show Q_m18_3 Z  h0 n0 _ T2.heap _
    rw [e2]
    exact ⟨b2, k2, rfl, N1, K3, V4, sz_b2⟩
def Q_m17_3 (Z : State) (sa : Addr) (ks : ClassId) (y0 : Int32) (y1 : Int32) (y2 : Int32) (h0 : Heap) (n0 : Nat) (v : Option Value) (h : Heap) (L : List Loc) : Prop := ∃ (t : Addr) (kt : ClassId), v = (some (.ref t)) ∧ Fr n0 L ∧ Keep h0 h [] ∧ Arv Z h t kt .byte (6 : Int32) [(.int (own_b0 y0)), (.int (own_b1 y0)), (.int (own_b0 y1)), (.int (own_b1 y1)), (.int (own_b0 y2)), (.int (own_b1 y2))] (.int (0 : Int32)) ∧ h0.size ≤ t
theorem ef_m17_3 (m : MethodId) (sa : Addr) (ks : ClassId) (y0 : Int32) (y1 : Int32) (y2 : Int32) : entryFrame m #[(.ref sa), (.int (0 : Int32)), (.int (3 : Int32))] 5 = mkF m 0 #[.val (.ref sa), .val (.int (0 : Int32)), .val (.int (3 : Int32)), .unset, .unset] [] := by first | (simp [entryFrame, mkF, argsToLocals, Value.category]; done) | rfl
set_option maxRecDepth 65536 in
set_option maxHeartbeats 40000000 in
theorem m17_3 (l : Launch) (Z : State) (a0 : Array Value) (hw : ∀ d ∈ tables_1, d.before a0 Z = true) (ws : List Jvm.Cond) (sa : Addr) (ks : ClassId) (y0 : Int32) (y1 : Int32) (y2 : Int32) (h0 : Heap) (n0 : Nat) (Z0 : n0 ≤ h0.size) (Vs : Arv Z h0 sa ks .char (3 : Int32) [(.int y0), (.int y1), (.int y2)] (.int (0 : Int32))) (S_AD : Sta Z h0 "java/lang/StringUTF16" "$assertionsDisabled" "Z" (.int (1 : Int32))) (S_HI : Sta Z h0 "java/lang/StringUTF16" "HI_BYTE_SHIFT" "I" (.int (0 : Int32))) (S_LO : Sta Z h0 "java/lang/StringUTF16" "LO_BYTE_SHIFT" "I" (.int (8 : Int32))) :
    MetFree l (⟨"java/lang/StringUTF16", "toBytes", "([CII)[B"⟩ : MethodName) (head1 (Jvm.Cond.code (⟨"java/lang/StringUTF16", "toBytes", "([CII)[B"⟩ : MethodName) jdk_52_method_14_code 5 (some (.array .byte)) :: ws) ({ frames := 2, cells := 1, slots := 8, locals := 24 } : Room)) (fun ar_ U => ar_ = #[(.ref sa), (.int (0 : Int32)), (.int (3 : Int32))] ∧ Z.Warmed39 U.vm ∧ U.heap = h0) (fun _ _ _ _ _ => True) (fun _ U o U' => ∃ v L, o = .returned v ∧ Q_m17_3 Z sa ks y0 y1 y2 h0 n0 v U'.heap L ∧ FrameEnd U o U' L ({ frames := 2, cells := 1, slots := 8, locals := 24 } : Room).cells ({ frames := 2, cells := 1, slots := 8, locals := 24 } : Room).slots) := by
  refine MetFree.of_bodySF (plainFor_of_name pnx_java_lang_StringUTF16) hisR ?_
  intro p e s m args below meth c s₁ Bd hml0 hP hK
  obtain ⟨rfl, hZ, hh⟩ := hP
  have hx := Bd.exec
  have hby := Bd.bytes
  have hml : c.maxLocals = 5 := hml0
  have hown : s.vm.findClass "java/lang/StringUTF16" = some m.cls := findClass_of_methodNamed Bd.named
  have hnm := (name_of_methodNamed Bd.named Bd.method).1
  have X0 : Stand p l e ({ frames := 2, cells := 1, slots := 8, locals := 24 } : Room) s m #[(.ref sa), (.int (0 : Int32)), (.int (3 : Int32))] below meth c s₁ [] 0 0 := Stand.of_body Bd
  have e0 : s₁.heap = h0 := by rw [← hh, Bd.state]; rfl
  have N0 := Fr.nil n0
  have pre0 : ∀ tq_, Steps p.tables e below (s₁.setTop (mkF m 0 #[.val (.ref sa), .val (.int (0 : Int32)), .val (.int (3 : Int32)), .unset, .unset] [])) tq_ → Steps p.tables e below (s₁.setTop (entryFrame m #[(.ref sa), (.int (0 : Int32)), (.int (3 : Int32))] 5)) tq_ := fun tq_ kt_ => castTop (ef_m17_3 m sa ks y0 y1 y2 ) kt_
  obtain ⟨_, _, ⟨T1, L1, kk1, nn1⟩, -, X1, ⟨Lc1, hQ1, l1, y1, z1⟩, st1⟩ := Jvm.LawKit.callS X0 hx (y := (⟨"java/lang/StringUTF16", "newBytesFor", "(I)[B"⟩ : MethodName)) hown (mvT hZ (wk hw 81 rfl)) (mvT hZ (wk hw 82 rfl)) (mvT hZ (wk hw 45 rfl)) (mvT hZ (wk hw 83 rfl)) (by decide) (backOf (W := 0) (m18_3 l Z a0 hw []  h0 n0 Z0 ) hZ (wk hw 83 rfl) (wk hw 45 rfl) (by decide) (by decide)) (g := (mkF m 1 #[.val (.ref sa), .val (.int (0 : Int32)), .val (.int (3 : Int32)), .unset, .unset] [(.int (3 : Int32))])) rfl (by rw [hml]; rfl) (argsL := [(.int (3 : Int32))]) (rest := []) (lenOf pdx__I__B rfl) rfl (by show 2 * 0 + _ ≤ _; exact Nat.le_of_eq rfl) (hb hby d17_1) (fun _ _ => ⟨rfl, e0, nle rfl, nle rfl⟩)
  dsimp only [Pt.U, Pt.locs, Pt.cells, Pt.slots] at X1 l1 y1 z1 st1 hQ1
  subst l1 y1 z1
  obtain ⟨t_1, kt_1, rfl, Nq1, Kq1, P1_0, P1_1⟩ := hQ1
  have N1 := Fr.app N0 Nq1
  obtain ⟨h1, e1⟩ : ∃ h, T1.heap = h := ⟨_, rfl⟩
  rw [e1] at Kq1 P1_0
  have sz_t_1 : h0.size ≤ t_1 := P1_1
  have ge_t_1 : n0 ≤ t_1 := Nat.le_trans Z0 sz_t_1
  have ne_2 : sa ≠ t_1 := Nat.ne_of_lt (Nat.lt_of_lt_of_le Vs.lt P1_1)
  have K3 : Keep h0 h1 [] := (Keep.refl h0 []).trans Kq1 own_m0
  have F5 := (Vs.keep Kq1 own_n0)
  obtain ⟨c4, Ar4, -, Sz4, -, H4, -⟩ := id F5
  have hin4 := inb_of (j := (0 : Int32)) Sz4 ⟨by decide, by decide⟩
  have hat4 : c4.slots[((0 : Int32) : Int32).toNatClampNeg]? = some (.int y0) := H4 _ (Nat.lt_of_not_le fun q => hin4 (Or.inr q))
  have F7 := (own_staK S_AD Kq1 ns0)
  have F8 := (own_staK S_HI Kq1 ns0)
  have F9 := (own_staK S_LO Kq1 ns0)
  obtain ⟨_, _, ⟨T6, L6, kk6, nn6⟩, -, X6, ⟨Lc6, hQ6, l6, y6, z6⟩, st6⟩ := Jvm.LawKit.callS X1 hx (y := (⟨"java/lang/StringUTF16", "putChar", "([BII)V"⟩ : MethodName)) hown (mvT hZ (wk hw 88 rfl)) (mvT hZ (wk hw 89 rfl)) (mvT hZ (wk hw 45 rfl)) (mvT hZ (wk hw 90 rfl)) (by decide) (backOf (W := 0) (m20 l Z a0 hw [] t_1 kt_1 (6 : Int32) [(.int (0 : Int32)), (.int (0 : Int32)), (.int (0 : Int32)), (.int (0 : Int32)), (.int (0 : Int32)), (.int (0 : Int32))] (0 : Int32) y0 0 1 h1 n0 (Nat.le_trans Z0 K3.1) P1_0 ge_t_1 F7 F8 F9 (by decide) (by decide) (by decide) (by decide) (by decide) (by decide) (by simp) (by simp)) hZ (wk hw 90 rfl) (wk hw 45 rfl) (by decide) (by decide)) (g := (mkF m 20 #[.val (.ref sa), .val (.int (0 : Int32)), .val (.int (3 : Int32)), .val (.ref t_1), .val (.int (0 : Int32))] [(.int y0), (.int (0 : Int32)), (.ref t_1)])) rfl (by rw [hml]; rfl) (argsL := [(.ref t_1), (.int (0 : Int32)), (.int y0)]) (rest := []) (lenOf pdx___BII_V rfl) rfl (by show 2 * 0 + _ ≤ _; exact Nat.le_of_eq rfl) (hb hby d17_20) (fun _ _ => ⟨rfl, e1, nle rfl, nle rfl⟩)
  dsimp only [Pt.U, Pt.locs, Pt.cells, Pt.slots] at X6 l6 y6 z6 st6 hQ6
  subst l6 y6 z6
  obtain ⟨rfl, Nq6, Kq6, P6_0⟩ := hQ6
  have N6 := Fr.app N1 Nq6
  obtain ⟨h6, e6⟩ : ∃ h, T6.heap = h := ⟨_, rfl⟩
  rw [e6] at Kq6 P6_0
  have ns6 := (nsS P1_0.nostat ns0)
  have K10 : Keep h0 h6 [] := K3.trans Kq6 (own_mS (Or.inr sz_t_1) own_m0)
  have F12 := (F5.keep Kq6 (own_nm ne_2 own_n0))
  obtain ⟨c11, Ar11, -, Sz11, -, H11, -⟩ := id F12
  have hin11 := inb_of (j := (1 : Int32)) Sz11 ⟨by decide, by decide⟩
  have hat11 : c11.slots[((1 : Int32) : Int32).toNatClampNeg]? = some (.int y1) := H11 _ (Nat.lt_of_not_le fun q => hin11 (Or.inr q))
  have F14 := (own_staK F7 Kq6 ns6)
  have F15 := (own_staK F8 Kq6 ns6)
  have F16 := (own_staK F9 Kq6 ns6)
  obtain ⟨_, _, ⟨T13, L13, kk13, nn13⟩, -, X13, ⟨Lc13, hQ13, l13, y13, z13⟩, st13⟩ := Jvm.LawKit.callS X6 hx (y := (⟨"java/lang/StringUTF16", "putChar", "([BII)V"⟩ : MethodName)) hown (mvT hZ (wk hw 88 rfl)) (mvT hZ (wk hw 89 rfl)) (mvT hZ (wk hw 45 rfl)) (mvT hZ (wk hw 90 rfl)) (by decide) (backOf (W := 0) (m20 l Z a0 hw [] t_1 kt_1 (6 : Int32) (([(.int (0 : Int32)), (.int (0 : Int32)), (.int (0 : Int32)), (.int (0 : Int32)), (.int (0 : Int32)), (.int (0 : Int32))].set 0 (.int (own_b0 y0))).set 1 (.int (own_b1 y0))) (1 : Int32) y1 2 3 h6 n0 (Nat.le_trans Z0 K10.1) P6_0 ge_t_1 F14 F15 F16 (by decide) (by decide) (by decide) (by decide) (by decide) (by decide) (by simp) (by simp)) hZ (wk hw 90 rfl) (wk hw 45 rfl) (by decide) (by decide)) (g := (mkF m 20 #[.val (.ref sa), .val (.int (1 : Int32)), .val (.int (3 : Int32)), .val (.ref t_1), .val (.int (1 : Int32))] [(.int y1), (.int (1 : Int32)), (.ref t_1)])) rfl (by rw [hml]; rfl) (argsL := [(.ref t_1), (.int (1 : Int32)), (.int y1)]) (rest := []) (lenOf pdx___BII_V rfl) rfl (by show 2 * 0 + _ ≤ _; exact Nat.le_of_eq rfl) (hb hby d17_20) (fun _ _ => ⟨rfl, e6, nle rfl, nle rfl⟩)
  dsimp only [Pt.U, Pt.locs, Pt.cells, Pt.slots] at X13 l13 y13 z13 st13 hQ13
  subst l13 y13 z13
  obtain ⟨rfl, Nq13, Kq13, P13_0⟩ := hQ13
  have N13 := Fr.app N6 Nq13
  obtain ⟨h13, e13⟩ : ∃ h, T13.heap = h := ⟨_, rfl⟩
  rw [e13] at Kq13 P13_0
  have ns13 := (nsS P6_0.nostat ns0)
  have K17 : Keep h0 h13 [] := K10.trans Kq13 (own_mS (Or.inr sz_t_1) own_m0)
  have F19 := (F12.keep Kq13 (own_nm ne_2 own_n0))
  obtain ⟨c18, Ar18, -, Sz18, -, H18, -⟩ := id F19
  have hin18 := inb_of (j := (2 : Int32)) Sz18 ⟨by decide, by decide⟩
  have hat18 : c18.slots[((2 : Int32) : Int32).toNatClampNeg]? = some (.int y2) := H18 _ (Nat.lt_of_not_le fun q => hin18 (Or.inr q))
  have F21 := (own_staK F14 Kq13 ns13)
  have F22 := (own_staK F15 Kq13 ns13)
  have F23 := (own_staK F16 Kq13 ns13)
  obtain ⟨_, _, ⟨T20, L20, kk20, nn20⟩, -, X20, ⟨Lc20, hQ20, l20, y20, z20⟩, st20⟩ := Jvm.LawKit.callS X13 hx (y := (⟨"java/lang/StringUTF16", "putChar", "([BII)V"⟩ : MethodName)) hown (mvT hZ (wk hw 88 rfl)) (mvT hZ (wk hw 89 rfl)) (mvT hZ (wk hw 45 rfl)) (mvT hZ (wk hw 90 rfl)) (by decide) (backOf (W := 0) (m20 l Z a0 hw [] t_1 kt_1 (6 : Int32) (((([(.int (0 : Int32)), (.int (0 : Int32)), (.int (0 : Int32)), (.int (0 : Int32)), (.int (0 : Int32)), (.int (0 : Int32))].set 0 (.int (own_b0 y0))).set 1 (.int (own_b1 y0))).set 2 (.int (own_b0 y1))).set 3 (.int (own_b1 y1))) (2 : Int32) y2 4 5 h13 n0 (Nat.le_trans Z0 K17.1) P13_0 ge_t_1 F21 F22 F23 (by decide) (by decide) (by decide) (by decide) (by decide) (by decide) (by simp) (by simp)) hZ (wk hw 90 rfl) (wk hw 45 rfl) (by decide) (by decide)) (g := (mkF m 20 #[.val (.ref sa), .val (.int (2 : Int32)), .val (.int (3 : Int32)), .val (.ref t_1), .val (.int (2 : Int32))] [(.int y2), (.int (2 : Int32)), (.ref t_1)])) rfl (by rw [hml]; rfl) (argsL := [(.ref t_1), (.int (2 : Int32)), (.int y2)]) (rest := []) (lenOf pdx___BII_V rfl) rfl (by show 2 * 0 + _ ≤ _; exact Nat.le_of_eq rfl) (hb hby d17_20) (fun _ _ => ⟨rfl, e13, nle rfl, nle rfl⟩)
  dsimp only [Pt.U, Pt.locs, Pt.cells, Pt.slots] at X20 l20 y20 z20 st20 hQ20
  subst l20 y20 z20
  obtain ⟨rfl, Nq20, Kq20, P20_0⟩ := hQ20
  have N20 := Fr.app N13 Nq20
  obtain ⟨h20, e20⟩ : ∃ h, T20.heap = h := ⟨_, rfl⟩
  rw [e20] at Kq20 P20_0
  have ns20 := (nsS P13_0.nostat ns0)
  have K24 : Keep h0 h20 [] := K17.trans Kq20 (own_mS (Or.inr sz_t_1) own_m0)
  have V25 : Arv Z h20 t_1 kt_1 .byte (6 : Int32) [(.int (own_b0 y0)), (.int (own_b1 y0)), (.int (own_b0 y1)), (.int (own_b1 y1)), (.int (own_b0 y2)), (.int (own_b1 y2))] (.int (0 : Int32)) := P20_0
  obtain ⟨fs, hr, hrun, hended, hW, hsame⟩ := X20.leave (v := some (.ref t_1)) (fun h => by rw [Bd.returns] at h; cases h)
  refine ⟨_, _, pre0 _ ?_, hrun, hended, _, _, rfl, ?_, ⟨_, rfl⟩, hW, hsame.mono (nle rfl) (nle rfl)⟩
  · show Steps p.tables e below (s₁.setTop (mkF m 0 #[.val (.ref sa), .val (.int (0 : Int32)), .val (.int (3 : Int32)), .unset, .unset] [])) _
    refine XS.iloadN X0.here hx rfl (hb hby d17_0) rfl ?_
    show Steps p.tables e below (s₁.setTop (mkF m 1 #[.val (.ref sa), .val (.int (0 : Int32)), .val (.int (3 : Int32)), .unset, .unset] [(.int (3 : Int32))])) _
    refine st1 _ ?_
    show Steps p.tables e below (T1.setTop (mkF m 4 #[.val (.ref sa), .val (.int (0 : Int32)), .val (.int (3 : Int32)), .unset, .unset] [(.ref t_1)])) _
    refine XS.astoreN X1.here hx rfl (hb hby d17_4) rfl rfl (l' := #[.val (.ref sa), .val (.int (0 : Int32)), .val (.int (3 : Int32)), .val (.ref t_1), .unset]) rfl ?_
    refine XS.iconst X1.here hx rfl (hb hby d17_5) ?_
    show Steps p.tables e below (T1.setTop (mkF m 6 #[.val (.ref sa), .val (.int (0 : Int32)), .val (.int (3 : Int32)), .val (.ref t_1), .unset] [(.int (0 : Int32))])) _
    refine XS.istore X1.here hx rfl (hb hby d17_6) rfl (l' := #[.val (.ref sa), .val (.int (0 : Int32)), .val (.int (3 : Int32)), .val (.ref t_1), .val (.int (0 : Int32))]) rfl ?_
    refine XS.iload X1.here hx rfl (hb hby d17_8) rfl ?_
    show Steps p.tables e below (T1.setTop (mkF m 10 #[.val (.ref sa), .val (.int (0 : Int32)), .val (.int (3 : Int32)), .val (.ref t_1), .val (.int (0 : Int32))] [(.int (0 : Int32))])) _
    refine XS.iloadN X1.here hx rfl (hb hby d17_10) rfl ?_
    show Steps p.tables e below (T1.setTop (mkF m 11 #[.val (.ref sa), .val (.int (0 : Int32)), .val (.int (3 : Int32)), .val (.ref t_1), .val (.int (0 : Int32))] [(.int (3 : Int32)), (.int (0 : Int32))])) _
    refine XS.icmpNo X1.here hx rfl (hb hby d17_11) rfl (tlt (by decide : (0 : Int32) < (3 : Int32))).2.1 ?_
    show Steps p.tables e below (T1.setTop (mkF m 14 #[.val (.ref sa), .val (.int (0 : Int32)), .val (.int (3 : Int32)), .val (.ref t_1), .val (.int (0 : Int32))] [])) _
    refine XS.aloadN X1.here hx rfl (hb hby d17_14) rfl rfl ?_
    refine XS.iload X1.here hx rfl (hb hby d17_15) rfl ?_
    show Steps p.tables e below (T1.setTop (mkF m 17 #[.val (.ref sa), .val (.int (0 : Int32)), .val (.int (3 : Int32)), .val (.ref t_1), .val (.int (0 : Int32))] [(.int (0 : Int32)), (.ref t_1)])) _
    refine XS.aloadN X1.here hx rfl (hb hby d17_17) rfl rfl ?_
    refine XS.iloadN X1.here hx rfl (hb hby d17_18) rfl ?_
    show Steps p.tables e below (T1.setTop (mkF m 19 #[.val (.ref sa), .val (.int (0 : Int32)), .val (.int (3 : Int32)), .val (.ref t_1), .val (.int (0 : Int32))] [(.int (0 : Int32)), (.ref sa), (.int (0 : Int32)), (.ref t_1)])) _
    refine X1.caload hx (j := (0 : Int32)) (v := (.int y0)) (by rw [e1]; exact Ar4.1) (State.isArrayOf_alike hZ.alike Ar4.2.1) Ar4.2.2 hin4 hat4 (g := (mkF m 19 #[.val (.ref sa), .val (.int (0 : Int32)), .val (.int (3 : Int32)), .val (.ref t_1), .val (.int (0 : Int32))] [(.int (0 : Int32)), (.ref sa), (.int (0 : Int32)), (.ref t_1)])) rfl rfl (hb hby d17_19) _ ?_
    show Steps p.tables e below (T1.setTop (mkF m 20 #[.val (.ref sa), .val (.int (0 : Int32)), .val (.int (3 : Int32)), .val (.ref t_1), .val (.int (0 : Int32))] [(.int y0), (.int (0 : Int32)), (.ref t_1)])) _
    refine st6 _ ?_
    show Steps p.tables e below (T6.setTop (mkF m 23 #[.val (.ref sa), .val (.int (0 : Int32)), .val (.int (3 : Int32)), .val (.ref t_1), .val (.int (0 : Int32))] [])) _
    refine XS.iinc X6.here hx rfl (hb hby d17_23) rfl (l' := #[.val (.ref sa), .val (.int (1 : Int32)), .val (.int (3 : Int32)), .val (.ref t_1), .val (.int (0 : Int32))]) rfl ?_
    refine XS.iinc X6.here hx rfl (hb hby d17_26) rfl (l' := #[.val (.ref sa), .val (.int (1 : Int32)), .val (.int (3 : Int32)), .val (.ref t_1), .val (.int (1 : Int32))]) rfl ?_
    show Steps p.tables e below (T6.setTop (mkF m 29 #[.val (.ref sa), .val (.int (1 : Int32)), .val (.int (3 : Int32)), .val (.ref t_1), .val (.int (1 : Int32))] [])) _
    refine XS.goto X6.here hx rfl (pc0 := 29) (pc' := 8) rfl (hb hby d17_29) (by decide) (by decide) ?_
    refine XS.iload X6.here hx rfl (hb hby d17_8) rfl ?_
    show Steps p.tables e below (T6.setTop (mkF m 10 #[.val (.ref sa), .val (.int (1 : Int32)), .val (.int (3 : Int32)), .val (.ref t_1), .val (.int (1 : Int32))] [(.int (1 : Int32))])) _
    refine XS.iloadN X6.here hx rfl (hb hby d17_10) rfl ?_
    show Steps p.tables e below (T6.setTop (mkF m 11 #[.val (.ref sa), .val (.int (1 : Int32)), .val (.int (3 : Int32)), .val (.ref t_1), .val (.int (1 : Int32))] [(.int (3 : Int32)), (.int (1 : Int32))])) _
    refine XS.icmpNo X6.here hx rfl (hb hby d17_11) rfl (tlt (by decide : (1 : Int32) < (3 : Int32))).2.1 ?_
    show Steps p.tables e below (T6.setTop (mkF m 14 #[.val (.ref sa), .val (.int (1 : Int32)), .val (.int (3 : Int32)), .val (.ref t_1), .val (.int (1 : Int32))] [])) _
    refine XS.aloadN X6.here hx rfl (hb hby d17_14) rfl rfl ?_
    refine XS.iload X6.here hx rfl (hb hby d17_15) rfl ?_
    show Steps p.tables e below (T6.setTop (mkF m 17 #[.val (.ref sa), .val (.int (1 : Int32)), .val (.int (3 : Int32)), .val (.ref t_1), .val (.int (1 : Int32))] [(.int (1 : Int32)), (.ref t_1)])) _
    refine XS.aloadN X6.here hx rfl (hb hby d17_17) rfl rfl ?_
    refine XS.iloadN X6.here hx rfl (hb hby d17_18) rfl ?_
    show Steps p.tables e below (T6.setTop (mkF m 19 #[.val (.ref sa), .val (.int (1 : Int32)), .val (.int (3 : Int32)), .val (.ref t_1), .val (.int (1 : Int32))] [(.int (1 : Int32)), (.ref sa), (.int (1 : Int32)), (.ref t_1)])) _
    refine X6.caload hx (j := (1 : Int32)) (v := (.int y1)) (by rw [e6]; exact Ar11.1) (State.isArrayOf_alike hZ.alike Ar11.2.1) Ar11.2.2 hin11 hat11 (g := (mkF m 19 #[.val (.ref sa), .val (.int (1 : Int32)), .val (.int (3 : Int32)), .val (.ref t_1), .val (.int (1 : Int32))] [(.int (1 : Int32)), (.ref sa), (.int (1 : Int32)), (.ref t_1)])) rfl rfl (hb hby d17_19) _ ?_
    show Steps p.tables e below (T6.setTop (mkF m 20 #[.val (.ref sa), .val (.int (1 : Int32)), .val (.int (3 : Int32)), .val (.ref t_1), .val (.int (1 : Int32))] [(.int y1), (.int (1 : Int32)), (.ref t_1)])) _
    refine st13 _ ?_
    show Steps p.tables e below (T13.setTop (mkF m 23 #[.val (.ref sa), .val (.int (1 : Int32)), .val (.int (3 : Int32)), .val (.ref t_1), .val (.int (1 : Int32))] [])) _
    refine XS.iinc X13.here hx rfl (hb hby d17_23) rfl (l' := #[.val (.ref sa), .val (.int (2 : Int32)), .val (.int (3 : Int32)), .val (.ref t_1), .val (.int (1 : Int32))]) rfl ?_
    refine XS.iinc X13.here hx rfl (hb hby d17_26) rfl (l' := #[.val (.ref sa), .val (.int (2 : Int32)), .val (.int (3 : Int32)), .val (.ref t_1), .val (.int (2 : Int32))]) rfl ?_
    show Steps p.tables e below (T13.setTop (mkF m 29 #[.val (.ref sa), .val (.int (2 : Int32)), .val (.int (3 : Int32)), .val (.ref t_1), .val (.int (2 : Int32))] [])) _
    refine XS.goto X13.here hx rfl (pc0 := 29) (pc' := 8) rfl (hb hby d17_29) (by decide) (by decide) ?_
    refine XS.iload X13.here hx rfl (hb hby d17_8) rfl ?_
    show Steps p.tables e below (T13.setTop (mkF m 10 #[.val (.ref sa), .val (.int (2 : Int32)), .val (.int (3 : Int32)), .val (.ref t_1), .val (.int (2 : Int32))] [(.int (2 : Int32))])) _
    refine XS.iloadN X13.here hx rfl (hb hby d17_10) rfl ?_
    show Steps p.tables e below (T13.setTop (mkF m 11 #[.val (.ref sa), .val (.int (2 : Int32)), .val (.int (3 : Int32)), .val (.ref t_1), .val (.int (2 : Int32))] [(.int (3 : Int32)), (.int (2 : Int32))])) _
    refine XS.icmpNo X13.here hx rfl (hb hby d17_11) rfl (tlt (by decide : (2 : Int32) < (3 : Int32))).2.1 ?_
    show Steps p.tables e below (T13.setTop (mkF m 14 #[.val (.ref sa), .val (.int (2 : Int32)), .val (.int (3 : Int32)), .val (.ref t_1), .val (.int (2 : Int32))] [])) _
    refine XS.aloadN X13.here hx rfl (hb hby d17_14) rfl rfl ?_
    refine XS.iload X13.here hx rfl (hb hby d17_15) rfl ?_
    show Steps p.tables e below (T13.setTop (mkF m 17 #[.val (.ref sa), .val (.int (2 : Int32)), .val (.int (3 : Int32)), .val (.ref t_1), .val (.int (2 : Int32))] [(.int (2 : Int32)), (.ref t_1)])) _
    refine XS.aloadN X13.here hx rfl (hb hby d17_17) rfl rfl ?_
    refine XS.iloadN X13.here hx rfl (hb hby d17_18) rfl ?_
    show Steps p.tables e below (T13.setTop (mkF m 19 #[.val (.ref sa), .val (.int (2 : Int32)), .val (.int (3 : Int32)), .val (.ref t_1), .val (.int (2 : Int32))] [(.int (2 : Int32)), (.ref sa), (.int (2 : Int32)), (.ref t_1)])) _
    refine X13.caload hx (j := (2 : Int32)) (v := (.int y2)) (by rw [e13]; exact Ar18.1) (State.isArrayOf_alike hZ.alike Ar18.2.1) Ar18.2.2 hin18 hat18 (g := (mkF m 19 #[.val (.ref sa), .val (.int (2 : Int32)), .val (.int (3 : Int32)), .val (.ref t_1), .val (.int (2 : Int32))] [(.int (2 : Int32)), (.ref sa), (.int (2 : Int32)), (.ref t_1)])) rfl rfl (hb hby d17_19) _ ?_
    show Steps p.tables e below (T13.setTop (mkF m 20 #[.val (.ref sa), .val (.int (2 : Int32)), .val (.int (3 : Int32)), .val (.ref t_1), .val (.int (2 : Int32))] [(.int y2), (.int (2 : Int32)), (.ref t_1)])) _
    refine st20 _ ?_
    show Steps p.tables e below (T20.setTop (mkF m 23 #[.val (.ref sa), .val (.int (2 : Int32)), .val (.int (3 : Int32)), .val (.ref t_1), .val (.int (2 : Int32))] [])) _
    refine XS.iinc X20.here hx rfl (hb hby d17_23) rfl (l' := #[.val (.ref sa), .val (.int (3 : Int32)), .val (.int (3 : Int32)), .val (.ref t_1), .val (.int (2 : Int32))]) rfl ?_
    refine XS.iinc X20.here hx rfl (hb hby d17_26) rfl (l' := #[.val (.ref sa), .val (.int (3 : Int32)), .val (.int (3 : Int32)), .val (.ref t_1), .val (.int (3 : Int32))]) rfl ?_
    show Steps p.tables e below (T20.setTop (mkF m 29 #[.val (.ref sa), .val (.int (3 : Int32)), .val (.int (3 : Int32)), .val (.ref t_1), .val (.int (3 : Int32))] [])) _
    refine XS.goto X20.here hx rfl (pc0 := 29) (pc' := 8) rfl (hb hby d17_29) (by decide) (by decide) ?_
    refine XS.iload X20.here hx rfl (hb hby d17_8) rfl ?_
    show Steps p.tables e below (T20.setTop (mkF m 10 #[.val (.ref sa), .val (.int (3 : Int32)), .val (.int (3 : Int32)), .val (.ref t_1), .val (.int (3 : Int32))] [(.int (3 : Int32))])) _
    refine XS.iloadN X20.here hx rfl (hb hby d17_10) rfl ?_
    show Steps p.tables e below (T20.setTop (mkF m 11 #[.val (.ref sa), .val (.int (3 : Int32)), .val (.int (3 : Int32)), .val (.ref t_1), .val (.int (3 : Int32))] [(.int (3 : Int32)), (.int (3 : Int32))])) _
    refine XS.icmpYes X20.here hx rfl (pc0 := 11) (pc' := 32) rfl (hb hby d17_11) rfl (flt (by decide : ¬ ((3 : Int32) < (3 : Int32)))).2.1 (by decide) (by decide) ?_
    show Steps p.tables e below (T20.setTop (mkF m 32 #[.val (.ref sa), .val (.int (3 : Int32)), .val (.int (3 : Int32)), .val (.ref t_1), .val (.int (3 : Int32))] [])) _
    refine XS.aloadN X20.here hx rfl (hb hby d17_32) rfl rfl ?_
    show Steps p.tables e below (T20.setTop (mkF m 33 #[.val (.ref sa), .val (.int (3 : Int32)), .val (.int (3 : Int32)), .val (.ref t_1), .val (.int (3 : Int32))] [(.ref t_1)])) _
    exact X20.areturnOut hx rfl Bd.returns rfl (hb hby d17_33) hr
  · show Q_m17_3 Z sa ks y0 y1 y2 h0 n0 _ T20.heap _
    rw [e20]
    exact ⟨t_1, kt_1, rfl, N20, K24, V25, sz_t_1⟩
def Q_m19_2 (Z : State)  (h0 : Heap) (n0 : Nat) (v : Option Value) (h : Heap) (L : List Loc) : Prop := v = (some (.int (4 : Int32))) ∧ Fr n0 L ∧ h = h0
theorem ef_m19_2 (m : MethodId)  : entryFrame m #[(.int (2 : Int32))] 1 = mkF m 0 #[.val (.int (2 : Int32))] [] := by first | (simp [entryFrame, mkF, argsToLocals, Value.category]; done) | rfl
set_option maxRecDepth 65536 in
set_option maxHeartbeats 40000000 in
theorem m19_2 (l : Launch) (Z : State) (a0 : Array Value) (hw : ∀ d ∈ tables_1, d.before a0 Z = true) (ws : List Jvm.Cond)  (h0 : Heap) (n0 : Nat) (Z0 : n0 ≤ h0.size)  :
    MetFree l (⟨"java/lang/StringUTF16", "newBytesLength", "(I)I"⟩ : MethodName) (head1 (Jvm.Cond.code (⟨"java/lang/StringUTF16", "newBytesLength", "(I)I"⟩ : MethodName) jdk_52_method_3_code 1 (some .int) :: ws) ({ frames := 0, cells := 0, slots := 0, locals := 0 } : Room)) (fun ar_ U => ar_ = #[(.int (2 : Int32))] ∧ Z.Warmed39 U.vm ∧ U.heap = h0) (fun _ _ _ _ _ => True) (fun _ U o U' => ∃ v L, o = .returned v ∧ Q_m19_2 Z  h0 n0 v U'.heap L ∧ FrameEnd U o U' L ({ frames := 0, cells := 0, slots := 0, locals := 0 } : Room).cells ({ frames := 0, cells := 0, slots := 0, locals := 0 } : Room).slots) := by
  refine MetFree.of_bodySF (plainFor_of_name pnx_java_lang_StringUTF16) hisR ?_
  intro p e s m args below meth c s₁ Bd hml0 hP hK
  obtain ⟨rfl, hZ, hh⟩ := hP
  have hx := Bd.exec
  have hby := Bd.bytes
  have hml : c.maxLocals = 1 := hml0
  have hown : s.vm.findClass "java/lang/StringUTF16" = some m.cls := findClass_of_methodNamed Bd.named
  have hnm := (name_of_methodNamed Bd.named Bd.method).1
  have X0 : Stand p l e ({ frames := 0, cells := 0, slots := 0, locals := 0 } : Room) s m #[(.int (2 : Int32))] below meth c s₁ [] 0 0 := Stand.of_body Bd
  have e0 : s₁.heap = h0 := by rw [← hh, Bd.state]; rfl
  have N0 := Fr.nil n0
  have pre0 : ∀ tq_, Steps p.tables e below (s₁.setTop (mkF m 0 #[.val (.int (2 : Int32))] [])) tq_ → Steps p.tables e below (s₁.setTop (entryFrame m #[(.int (2 : Int32))] 1)) tq_ := fun tq_ kt_ => castTop (ef_m19_2 m  ) kt_
  obtain ⟨fs, hr, hrun, hended, hW, hsame⟩ := X0.leave (v := some (.int (4 : Int32))) (fun h => by rw [Bd.returns] at h; cases h)
  refine ⟨_, _, pre0 _ ?_, hrun, hended, _, _, rfl, ?_, ⟨_, rfl⟩, hW, hsame.mono (nle rfl) (nle rfl)⟩
  · show Steps p.tables e below (s₁.setTop (mkF m 0 #[.val (.int (2 : Int32))] [])) _
    refine XS.iloadN X0.here hx rfl (hb hby d19_0) rfl ?_
    show Steps p.tables e below (s₁.setTop (mkF m 1 #[.val (.int (2 : Int32))] [(.int (2 : Int32))])) _
    refine XS.ifYes X0.here hx rfl (pc0 := 1) (pc' := 12) rfl (hb hby d19_1) rfl ((if0 _ _).trans (flt (by decide : ¬ ((2 : Int32) < (0 : Int32)))).2.1) (by decide) (by decide) ?_
    show Steps p.tables e below (s₁.setTop (mkF m 12 #[.val (.int (2 : Int32))] [])) _
    refine XS.iloadN X0.here hx rfl (hb hby d19_12) rfl ?_
    show Steps p.tables e below (s₁.setTop (mkF m 13 #[.val (.int (2 : Int32))] [(.int (2 : Int32))])) _
    refine X0.ldcInt hx hown (mvT hZ (wk hw 87 rfl)) (g := (mkF m 13 #[.val (.int (2 : Int32))] [(.int (2 : Int32))])) rfl (hb hby d19_13) _ ?_
    show Steps p.tables e below (s₁.setTop (mkF m 15 #[.val (.int (2 : Int32))] [(.int (1073741823 : Int32)), (.int (2 : Int32))])) _
    refine XS.icmpYes X0.here hx rfl (pc0 := 15) (pc' := 55) rfl (hb hby d19_15) rfl (tlt (by decide : (2 : Int32) < (1073741823 : Int32))).1 (by decide) (by decide) ?_
    show Steps p.tables e below (s₁.setTop (mkF m 55 #[.val (.int (2 : Int32))] [])) _
    refine XS.iloadN X0.here hx rfl (hb hby d19_55) rfl ?_
    refine XS.iconst X0.here hx rfl (hb hby d19_56) ?_
    show Steps p.tables e below (s₁.setTop (mkF m 57 #[.val (.int (2 : Int32))] [(.int (1 : Int32)), (.int (2 : Int32))])) _
    show Steps p.tables e below (s₁.setTop (mkF m 57 #[.val (.int (2 : Int32))] [(.int (1 : Int32)), (.int (2 : Int32))])) _
    refine XS.ishl X0.here hx rfl (hb hby d19_57) rfl ?_
    show Steps p.tables e below (s₁.setTop (mkF m 58 #[.val (.int (2 : Int32))] [(.int ((2 : Int32) <<< ((1 : Int32) &&& 31)))])) _
    rw [show ((2 : Int32) <<< ((1 : Int32) &&& 31)) = (4 : Int32) from by decide]
    show Steps p.tables e below (s₁.setTop (mkF m 58 #[.val (.int (2 : Int32))] [(.int (4 : Int32))])) _
    exact retI X0 hx Bd.returns (hb hby d19_58) hr
  · show Q_m19_2 Z  h0 n0 _ s₁.heap _
    exact ⟨rfl, N0, e0⟩
def Q_m18_2 (Z : State)  (h0 : Heap) (n0 : Nat) (v : Option Value) (h : Heap) (L : List Loc) : Prop := ∃ (t : Addr) (kt : ClassId), v = (some (.ref t)) ∧ Fr n0 L ∧ Keep h0 h [] ∧ Arv Z h t kt .byte (4 : Int32) [(.int (0 : Int32)), (.int (0 : Int32)), (.int (0 : Int32)), (.int (0 : Int32))] (.int (0 : Int32)) ∧ h0.size ≤ t
theorem ef_m18_2 (m : MethodId)  : entryFrame m #[(.int (2 : Int32))] 1 = mkF m 0 #[.val (.int (2 : Int32))] [] := by first | (simp [entryFrame, mkF, argsToLocals, Value.category]; done) | rfl
set_option maxRecDepth 65536 in
set_option maxHeartbeats 40000000 in
theorem m18_2 (l : Launch) (Z : State) (a0 : Array Value) (hw : ∀ d ∈ tables_1, d.before a0 Z = true) (ws : List Jvm.Cond)  (h0 : Heap) (n0 : Nat) (Z0 : n0 ≤ h0.size)  :
    MetFree l (⟨"java/lang/StringUTF16", "newBytesFor", "(I)[B"⟩ : MethodName) (head1 (Jvm.Cond.code (⟨"java/lang/StringUTF16", "newBytesFor", "(I)[B"⟩ : MethodName) jdk_52_method_2_code 1 (some (.array .byte)) :: ws) ({ frames := 1, cells := 1, slots := 4, locals := 12 } : Room)) (fun ar_ U => ar_ = #[(.int (2 : Int32))] ∧ Z.Warmed39 U.vm ∧ U.heap = h0) (fun _ _ _ _ _ => True) (fun _ U o U' => ∃ v L, o = .returned v ∧ Q_m18_2 Z  h0 n0 v U'.heap L ∧ FrameEnd U o U' L ({ frames := 1, cells := 1, slots := 4, locals := 12 } : Room).cells ({ frames := 1, cells := 1, slots := 4, locals := 12 } : Room).slots) := by
  refine MetFree.of_bodySF (plainFor_of_name pnx_java_lang_StringUTF16) hisR ?_
  intro p e s m args below meth c s₁ Bd hml0 hP hK
  obtain ⟨rfl, hZ, hh⟩ := hP
  have hx := Bd.exec
  have hby := Bd.bytes
  have hml : c.maxLocals = 1 := hml0
  have hown : s.vm.findClass "java/lang/StringUTF16" = some m.cls := findClass_of_methodNamed Bd.named
  have hnm := (name_of_methodNamed Bd.named Bd.method).1
  have X0 : Stand p l e ({ frames := 1, cells := 1, slots := 4, locals := 12 } : Room) s m #[(.int (2 : Int32))] below meth c s₁ [] 0 0 := Stand.of_body Bd
  have e0 : s₁.heap = h0 := by rw [← hh, Bd.state]; rfl
  have N0 := Fr.nil n0
  have pre0 : ∀ tq_, Steps p.tables e below (s₁.setTop (mkF m 0 #[.val (.int (2 : Int32))] [])) tq_ → Steps p.tables e below (s₁.setTop (entryFrame m #[(.int (2 : Int32))] 1)) tq_ := fun tq_ kt_ => castTop (ef_m18_2 m  ) kt_
  obtain ⟨_, _, ⟨T1, L1, kk1, nn1⟩, -, X1, ⟨Lc1, hQ1, l1, y1, z1⟩, st1⟩ := Jvm.LawKit.callS X0 hx (y := (⟨"java/lang/StringUTF16", "newBytesLength", "(I)I"⟩ : MethodName)) hown (mvT hZ (wk hw 84 rfl)) (mvT hZ (wk hw 85 rfl)) (mvT hZ (wk hw 45 rfl)) (mvT hZ (wk hw 86 rfl)) (by decide) (backOf (W := 0) (m19_2 l Z a0 hw []  h0 n0 Z0 ) hZ (wk hw 86 rfl) (wk hw 45 rfl) (by decide) (by decide)) (g := (mkF m 1 #[.val (.int (2 : Int32))] [(.int (2 : Int32))])) rfl (by rw [hml]; rfl) (argsL := [(.int (2 : Int32))]) (rest := []) (lenOf pdx__I_I rfl) rfl (by show 2 * 0 + _ ≤ _; exact Nat.le_of_eq rfl) (hb hby d18_1) (fun _ _ => ⟨rfl, e0, nle rfl, nle rfl⟩)
  dsimp only [Pt.U, Pt.locs, Pt.cells, Pt.slots] at X1 l1 y1 z1 st1 hQ1
  subst l1 y1 z1
  obtain ⟨rfl, Nq1, e1⟩ := hQ1
  have N1 := Fr.app N0 Nq1
  obtain ⟨T2, h2, k2, X2, e2, E2, A2, st2⟩ := newP X1 hx hZ (wk hw 21 rfl) e1 (g := (mkF m 4 #[.val (.int (2 : Int32))] [(.int (4 : Int32))])) rfl (hb hby d18_4) rfl (by decide) (cap := 4) (by decide) (by decide) (nle rfl) (nle rfl)
  obtain ⟨b2, g2⟩ : ∃ z, z = h0.size := ⟨_, rfl⟩
  rw [← g2] at A2 st2
  have V2 : Arv Z h2 b2 k2 .byte (4 : Int32) [] (.int (0 : Int32)) := Arv.new A2 (by decide)
  have sz_b2 : h0.size ≤ b2 := (Nat.le_of_eq g2.symm)
  have ge_b2 : n0 ≤ b2 := Nat.le_trans Z0 sz_b2
  have K3 : Keep h0 h2 [] := (Keep.refl h0 []).ext E2
  have V4 : Arv Z h2 b2 k2 .byte (4 : Int32) [(.int (0 : Int32)), (.int (0 : Int32)), (.int (0 : Int32)), (.int (0 : Int32))] (.int (0 : Int32)) := V2.pad (pad_rep [] (.int (0 : Int32)) 4)
  obtain ⟨fs, hr, hrun, hended, hW, hsame⟩ := X2.leave (v := some (.ref b2)) (fun h => by rw [Bd.returns] at h; cases h)
  refine ⟨_, _, pre0 _ ?_, hrun, hended, _, _, rfl, ?_, ⟨_, rfl⟩, hW, hsame.mono (nle rfl) (nle rfl)⟩
  · show Steps p.tables e below (s₁.setTop (mkF m 0 #[.val (.int (2 : Int32))] [])) _
    refine XS.iloadN X0.here hx rfl (hb hby d18_0) rfl ?_
    show Steps p.tables e below (s₁.setTop (mkF m 1 #[.val (.int (2 : Int32))] [(.int (2 : Int32))])) _
    refine st1 _ ?_
    show Steps p.tables e below (T1.setTop (mkF m 4 #[.val (.int (2 : Int32))] [(.int (4 : Int32))])) _
    refine st2 _ ?_
    show Steps p.tables e below (T2.setTop (mkF m 6 #[.val (.int (2 : Int32))] [(.ref b2)])) _
    exact X2.areturnOut hx rfl Bd.returns rfl (hb hby d18_6) hr
  · show Q_m18_2 Z  h0 n0 _ T2.heap _
    rw [e2]
    exact ⟨b2, k2, rfl, N1, K3, V4, sz_b2⟩
def Q_m17_2 (Z : State) (sa : Addr) (ks : ClassId) (y0 : Int32) (y1 : Int32) (h0 : Heap) (n0 : Nat) (v : Option Value) (h : Heap) (L : List Loc) : Prop := ∃ (t : Addr) (kt : ClassId), v = (some (.ref t)) ∧ Fr n0 L ∧ Keep h0 h [] ∧ Arv Z h t kt .byte (4 : Int32) [(.int (own_b0 y0)), (.int (own_b1 y0)), (.int (own_b0 y1)), (.int (own_b1 y1))] (.int (0 : Int32)) ∧ h0.size ≤ t
theorem ef_m17_2 (m : MethodId) (sa : Addr) (ks : ClassId) (y0 : Int32) (y1 : Int32) : entryFrame m #[(.ref sa), (.int (0 : Int32)), (.int (2 : Int32))] 5 = mkF m 0 #[.val (.ref sa), .val (.int (0 : Int32)), .val (.int (2 : Int32)), .unset, .unset] [] := by first | (simp [entryFrame, mkF, argsToLocals, Value.category]; done) | rfl
set_option maxRecDepth 65536 in
set_option maxHeartbeats 40000000 in
theorem m17_2 (l : Launch) (Z : State) (a0 : Array Value) (hw : ∀ d ∈ tables_1, d.before a0 Z = true) (ws : List Jvm.Cond) (sa : Addr) (ks : ClassId) (y0 : Int32) (y1 : Int32) (h0 : Heap) (n0 : Nat) (Z0 : n0 ≤ h0.size) (Vs : Arv Z h0 sa ks .char (2 : Int32) [(.int y0), (.int y1)] (.int (0 : Int32))) (S_AD : Sta Z h0 "java/lang/StringUTF16" "$assertionsDisabled" "Z" (.int (1 : Int32))) (S_HI : Sta Z h0 "java/lang/StringUTF16" "HI_BYTE_SHIFT" "I" (.int (0 : Int32))) (S_LO : Sta Z h0 "java/lang/StringUTF16" "LO_BYTE_SHIFT" "I" (.int (8 : Int32))) :
    MetFree l (⟨"java/lang/StringUTF16", "toBytes", "([CII)[B"⟩ : MethodName) (head1 (Jvm.Cond.code (⟨"java/lang/StringUTF16", "toBytes", "([CII)[B"⟩ : MethodName) jdk_52_method_14_code 5 (some (.array .byte)) :: ws) ({ frames := 2, cells := 1, slots := 8, locals := 24 } : Room)) (fun ar_ U => ar_ = #[(.ref sa), (.int (0 : Int32)), (.int (2 : Int32))] ∧ Z.Warmed39 U.vm ∧ U.heap = h0) (fun _ _ _ _ _ => True) (fun _ U o U' => ∃ v L, o = .returned v ∧ Q_m17_2 Z sa ks y0 y1 h0 n0 v U'.heap L ∧ FrameEnd U o U' L ({ frames := 2, cells := 1, slots := 8, locals := 24 } : Room).cells ({ frames := 2, cells := 1, slots := 8, locals := 24 } : Room).slots) := by
  refine MetFree.of_bodySF (plainFor_of_name pnx_java_lang_StringUTF16) hisR ?_
  intro p e s m args below meth c s₁ Bd hml0 hP hK
  obtain ⟨rfl, hZ, hh⟩ := hP
  have hx := Bd.exec
  have hby := Bd.bytes
  have hml : c.maxLocals = 5 := hml0
  have hown : s.vm.findClass "java/lang/StringUTF16" = some m.cls := findClass_of_methodNamed Bd.named
  have hnm := (name_of_methodNamed Bd.named Bd.method).1
  have X0 : Stand p l e ({ frames := 2, cells := 1, slots := 8, locals := 24 } : Room) s m #[(.ref sa), (.int (0 : Int32)), (.int (2 : Int32))] below meth c s₁ [] 0 0 := Stand.of_body Bd
  have e0 : s₁.heap = h0 := by rw [← hh, Bd.state]; rfl
  have N0 := Fr.nil n0
  have pre0 : ∀ tq_, Steps p.tables e below (s₁.setTop (mkF m 0 #[.val (.ref sa), .val (.int (0 : Int32)), .val (.int (2 : Int32)), .unset, .unset] [])) tq_ → Steps p.tables e below (s₁.setTop (entryFrame m #[(.ref sa), (.int (0 : Int32)), (.int (2 : Int32))] 5)) tq_ := fun tq_ kt_ => castTop (ef_m17_2 m sa ks y0 y1 ) kt_
  obtain ⟨_, _, ⟨T1, L1, kk1, nn1⟩, -, X1, ⟨Lc1, hQ1, l1, y1, z1⟩, st1⟩ := Jvm.LawKit.callS X0 hx (y := (⟨"java/lang/StringUTF16", "newBytesFor", "(I)[B"⟩ : MethodName)) hown (mvT hZ (wk hw 81 rfl)) (mvT hZ (wk hw 82 rfl)) (mvT hZ (wk hw 45 rfl)) (mvT hZ (wk hw 83 rfl)) (by decide) (backOf (W := 0) (m18_2 l Z a0 hw []  h0 n0 Z0 ) hZ (wk hw 83 rfl) (wk hw 45 rfl) (by decide) (by decide)) (g := (mkF m 1 #[.val (.ref sa), .val (.int (0 : Int32)), .val (.int (2 : Int32)), .unset, .unset] [(.int (2 : Int32))])) rfl (by rw [hml]; rfl) (argsL := [(.int (2 : Int32))]) (rest := []) (lenOf pdx__I__B rfl) rfl (by show 2 * 0 + _ ≤ _; exact Nat.le_of_eq rfl) (hb hby d17_1) (fun _ _ => ⟨rfl, e0, nle rfl, nle rfl⟩)
  dsimp only [Pt.U, Pt.locs, Pt.cells, Pt.slots] at X1 l1 y1 z1 st1 hQ1
  subst l1 y1 z1
  obtain ⟨t_1, kt_1, rfl, Nq1, Kq1, P1_0, P1_1⟩ := hQ1
  have N1 := Fr.app N0 Nq1
  obtain ⟨h1, e1⟩ : ∃ h, T1.heap = h := ⟨_, rfl⟩
  rw [e1] at Kq1 P1_0
  have sz_t_1 : h0.size ≤ t_1 := P1_1
  have ge_t_1 : n0 ≤ t_1 := Nat.le_trans Z0 sz_t_1
  have ne_2 : sa ≠ t_1 := Nat.ne_of_lt (Nat.lt_of_lt_of_le Vs.lt P1_1)
  have K3 : Keep h0 h1 [] := (Keep.refl h0 []).trans Kq1 own_m0
  have F5 := (Vs.keep Kq1 own_n0)
  obtain ⟨c4, Ar4, -, Sz4, -, H4, -⟩ := id F5
  have hin4 := inb_of (j := (0 : Int32)) Sz4 ⟨by decide, by decide⟩
  have hat4 : c4.slots[((0 : Int32) : Int32).toNatClampNeg]? = some (.int y0) := H4 _ (Nat.lt_of_not_le fun q => hin4 (Or.inr q))
  have F7 := (own_staK S_AD Kq1 ns0)
  have F8 := (own_staK S_HI Kq1 ns0)
  have F9 := (own_staK S_LO Kq1 ns0)
  obtain ⟨_, _, ⟨T6, L6, kk6, nn6⟩, -, X6, ⟨Lc6, hQ6, l6, y6, z6⟩, st6⟩ := Jvm.LawKit.callS X1 hx (y := (⟨"java/lang/StringUTF16", "putChar", "([BII)V"⟩ : MethodName)) hown (mvT hZ (wk hw 88 rfl)) (mvT hZ (wk hw 89 rfl)) (mvT hZ (wk hw 45 rfl)) (mvT hZ (wk hw 90 rfl)) (by decide) (backOf (W := 0) (m20 l Z a0 hw [] t_1 kt_1 (4 : Int32) [(.int (0 : Int32)), (.int (0 : Int32)), (.int (0 : Int32)), (.int (0 : Int32))] (0 : Int32) y0 0 1 h1 n0 (Nat.le_trans Z0 K3.1) P1_0 ge_t_1 F7 F8 F9 (by decide) (by decide) (by decide) (by decide) (by decide) (by decide) (by simp) (by simp)) hZ (wk hw 90 rfl) (wk hw 45 rfl) (by decide) (by decide)) (g := (mkF m 20 #[.val (.ref sa), .val (.int (0 : Int32)), .val (.int (2 : Int32)), .val (.ref t_1), .val (.int (0 : Int32))] [(.int y0), (.int (0 : Int32)), (.ref t_1)])) rfl (by rw [hml]; rfl) (argsL := [(.ref t_1), (.int (0 : Int32)), (.int y0)]) (rest := []) (lenOf pdx___BII_V rfl) rfl (by show 2 * 0 + _ ≤ _; exact Nat.le_of_eq rfl) (hb hby d17_20) (fun _ _ => ⟨rfl, e1, nle rfl, nle rfl⟩)
  dsimp only [Pt.U, Pt.locs, Pt.cells, Pt.slots] at X6 l6 y6 z6 st6 hQ6
  subst l6 y6 z6
  obtain ⟨rfl, Nq6, Kq6, P6_0⟩ := hQ6
  have N6 := Fr.app N1 Nq6
  obtain ⟨h6, e6⟩ : ∃ h, T6.heap = h := ⟨_, rfl⟩
  rw [e6] at Kq6 P6_0
  have ns6 := (nsS P1_0.nostat ns0)
  have K10 : Keep h0 h6 [] := K3.trans Kq6 (own_mS (Or.inr sz_t_1) own_m0)
  have F12 := (F5.keep Kq6 (own_nm ne_2 own_n0))
  obtain ⟨c11, Ar11, -, Sz11, -, H11, -⟩ := id F12
  have hin11 := inb_of (j := (1 : Int32)) Sz11 ⟨by decide, by decide⟩
  have hat11 : c11.slots[((1 : Int32) : Int32).toNatClampNeg]? = some (.int y1) := H11 _ (Nat.lt_of_not_le fun q => hin11 (Or.inr q))
  have F14 := (own_staK F7 Kq6 ns6)
  have F15 := (own_staK F8 Kq6 ns6)
  have F16 := (own_staK F9 Kq6 ns6)
  obtain ⟨_, _, ⟨T13, L13, kk13, nn13⟩, -, X13, ⟨Lc13, hQ13, l13, y13, z13⟩, st13⟩ := Jvm.LawKit.callS X6 hx (y := (⟨"java/lang/StringUTF16", "putChar", "([BII)V"⟩ : MethodName)) hown (mvT hZ (wk hw 88 rfl)) (mvT hZ (wk hw 89 rfl)) (mvT hZ (wk hw 45 rfl)) (mvT hZ (wk hw 90 rfl)) (by decide) (backOf (W := 0) (m20 l Z a0 hw [] t_1 kt_1 (4 : Int32) (([(.int (0 : Int32)), (.int (0 : Int32)), (.int (0 : Int32)), (.int (0 : Int32))].set 0 (.int (own_b0 y0))).set 1 (.int (own_b1 y0))) (1 : Int32) y1 2 3 h6 n0 (Nat.le_trans Z0 K10.1) P6_0 ge_t_1 F14 F15 F16 (by decide) (by decide) (by decide) (by decide) (by decide) (by decide) (by simp) (by simp)) hZ (wk hw 90 rfl) (wk hw 45 rfl) (by decide) (by decide)) (g := (mkF m 20 #[.val (.ref sa), .val (.int (1 : Int32)), .val (.int (2 : Int32)), .val (.ref t_1), .val (.int (1 : Int32))] [(.int y1), (.int (1 : Int32)), (.ref t_1)])) rfl (by rw [hml]; rfl) (argsL := [(.ref t_1), (.int (1 : Int32)), (.int y1)]) (rest := []) (lenOf pdx___BII_V rfl) rfl (by show 2 * 0 + _ ≤ _; exact Nat.le_of_eq rfl) (hb hby d17_20) (fun _ _ => ⟨rfl, e6, nle rfl, nle rfl⟩)
  dsimp only [Pt.U, Pt.locs, Pt.cells, Pt.slots] at X13 l13 y13 z13 st13 hQ13
  subst l13 y13 z13
  obtain ⟨rfl, Nq13, Kq13, P13_0⟩ := hQ13
  have N13 := Fr.app N6 Nq13
  obtain ⟨h13, e13⟩ : ∃ h, T13.heap = h := ⟨_, rfl⟩
  rw [e13] at Kq13 P13_0
  have ns13 := (nsS P6_0.nostat ns0)
  have K17 : Keep h0 h13 [] := K10.trans Kq13 (own_mS (Or.inr sz_t_1) own_m0)
  have V18 : Arv Z h13 t_1 kt_1 .byte (4 : Int32) [(.int (own_b0 y0)), (.int (own_b1 y0)), (.int (own_b0 y1)), (.int (own_b1 y1))] (.int (0 : Int32)) := P13_0
  obtain ⟨fs, hr, hrun, hended, hW, hsame⟩ := X13.leave (v := some (.ref t_1)) (fun h => by rw [Bd.returns] at h; cases h)
  refine ⟨_, _, pre0 _ ?_, hrun, hended, _, _, rfl, ?_, ⟨_, rfl⟩, hW, hsame.mono (nle rfl) (nle rfl)⟩
  · show Steps p.tables e below (s₁.setTop (mkF m 0 #[.val (.ref sa), .val (.int (0 : Int32)), .val (.int (2 : Int32)), .unset, .unset] [])) _
    refine XS.iloadN X0.here hx rfl (hb hby d17_0) rfl ?_
    show Steps p.tables e below (s₁.setTop (mkF m 1 #[.val (.ref sa), .val (.int (0 : Int32)), .val (.int (2 : Int32)), .unset, .unset] [(.int (2 : Int32))])) _
    refine st1 _ ?_
    show Steps p.tables e below (T1.setTop (mkF m 4 #[.val (.ref sa), .val (.int (0 : Int32)), .val (.int (2 : Int32)), .unset, .unset] [(.ref t_1)])) _
    refine XS.astoreN X1.here hx rfl (hb hby d17_4) rfl rfl (l' := #[.val (.ref sa), .val (.int (0 : Int32)), .val (.int (2 : Int32)), .val (.ref t_1), .unset]) rfl ?_
    refine XS.iconst X1.here hx rfl (hb hby d17_5) ?_
    show Steps p.tables e below (T1.setTop (mkF m 6 #[.val (.ref sa), .val (.int (0 : Int32)), .val (.int (2 : Int32)), .val (.ref t_1), .unset] [(.int (0 : Int32))])) _
    refine XS.istore X1.here hx rfl (hb hby d17_6) rfl (l' := #[.val (.ref sa), .val (.int (0 : Int32)), .val (.int (2 : Int32)), .val (.ref t_1), .val (.int (0 : Int32))]) rfl ?_
    refine XS.iload X1.here hx rfl (hb hby d17_8) rfl ?_
    show Steps p.tables e below (T1.setTop (mkF m 10 #[.val (.ref sa), .val (.int (0 : Int32)), .val (.int (2 : Int32)), .val (.ref t_1), .val (.int (0 : Int32))] [(.int (0 : Int32))])) _
    refine XS.iloadN X1.here hx rfl (hb hby d17_10) rfl ?_
    show Steps p.tables e below (T1.setTop (mkF m 11 #[.val (.ref sa), .val (.int (0 : Int32)), .val (.int (2 : Int32)), .val (.ref t_1), .val (.int (0 : Int32))] [(.int (2 : Int32)), (.int (0 : Int32))])) _
    refine XS.icmpNo X1.here hx rfl (hb hby d17_11) rfl (tlt (by decide : (0 : Int32) < (2 : Int32))).2.1 ?_
    show Steps p.tables e below (T1.setTop (mkF m 14 #[.val (.ref sa), .val (.int (0 : Int32)), .val (.int (2 : Int32)), .val (.ref t_1), .val (.int (0 : Int32))] [])) _
    refine XS.aloadN X1.here hx rfl (hb hby d17_14) rfl rfl ?_
    refine XS.iload X1.here hx rfl (hb hby d17_15) rfl ?_
    show Steps p.tables e below (T1.setTop (mkF m 17 #[.val (.ref sa), .val (.int (0 : Int32)), .val (.int (2 : Int32)), .val (.ref t_1), .val (.int (0 : Int32))] [(.int (0 : Int32)), (.ref t_1)])) _
    refine XS.aloadN X1.here hx rfl (hb hby d17_17) rfl rfl ?_
    refine XS.iloadN X1.here hx rfl (hb hby d17_18) rfl ?_
    show Steps p.tables e below (T1.setTop (mkF m 19 #[.val (.ref sa), .val (.int (0 : Int32)), .val (.int (2 : Int32)), .val (.ref t_1), .val (.int (0 : Int32))] [(.int (0 : Int32)), (.ref sa), (.int (0 : Int32)), (.ref t_1)])) _
    refine X1.caload hx (j := (0 : Int32)) (v := (.int y0)) (by rw [e1]; exact Ar4.1) (State.isArrayOf_alike hZ.alike Ar4.2.1) Ar4.2.2 hin4 hat4 (g := (mkF m 19 #[.val (.ref sa), .val (.int (0 : Int32)), .val (.int (2 : Int32)), .val (.ref t_1), .val (.int (0 : Int32))] [(.int (0 : Int32)), (.ref sa), (.int (0 : Int32)), (.ref t_1)])) rfl rfl (hb hby d17_19) _ ?_
    show Steps p.tables e below (T1.setTop (mkF m 20 #[.val (.ref sa), .val (.int (0 : Int32)), .val (.int (2 : Int32)), .val (.ref t_1), .val (.int (0 : Int32))] [(.int y0), (.int (0 : Int32)), (.ref t_1)])) _
    refine st6 _ ?_
    show Steps p.tables e below (T6.setTop (mkF m 23 #[.val (.ref sa), .val (.int (0 : Int32)), .val (.int (2 : Int32)), .val (.ref t_1), .val (.int (0 : Int32))] [])) _
    refine XS.iinc X6.here hx rfl (hb hby d17_23) rfl (l' := #[.val (.ref sa), .val (.int (1 : Int32)), .val (.int (2 : Int32)), .val (.ref t_1), .val (.int (0 : Int32))]) rfl ?_
    refine XS.iinc X6.here hx rfl (hb hby d17_26) rfl (l' := #[.val (.ref sa), .val (.int (1 : Int32)), .val (.int (2 : Int32)), .val (.ref t_1), .val (.int (1 : Int32))]) rfl ?_
    show Steps p.tables e below (T6.setTop (mkF m 29 #[.val (.ref sa), .val (.int (1 : Int32)), .val (.int (2 : Int32)), .val (.ref t_1), .val (.int (1 : Int32))] [])) _
    refine XS.goto X6.here hx rfl (pc0 := 29) (pc' := 8) rfl (hb hby d17_29) (by decide) (by decide) ?_
    refine XS.iload X6.here hx rfl (hb hby d17_8) rfl ?_
    show Steps p.tables e below (T6.setTop (mkF m 10 #[.val (.ref sa), .val (.int (1 : Int32)), .val (.int (2 : Int32)), .val (.ref t_1), .val (.int (1 : Int32))] [(.int (1 : Int32))])) _
    refine XS.iloadN X6.here hx rfl (hb hby d17_10) rfl ?_
    show Steps p.tables e below (T6.setTop (mkF m 11 #[.val (.ref sa), .val (.int (1 : Int32)), .val (.int (2 : Int32)), .val (.ref t_1), .val (.int (1 : Int32))] [(.int (2 : Int32)), (.int (1 : Int32))])) _
    refine XS.icmpNo X6.here hx rfl (hb hby d17_11) rfl (tlt (by decide : (1 : Int32) < (2 : Int32))).2.1 ?_
    show Steps p.tables e below (T6.setTop (mkF m 14 #[.val (.ref sa), .val (.int (1 : Int32)), .val (.int (2 : Int32)), .val (.ref t_1), .val (.int (1 : Int32))] [])) _
    refine XS.aloadN X6.here hx rfl (hb hby d17_14) rfl rfl ?_
    refine XS.iload X6.here hx rfl (hb hby d17_15) rfl ?_
    show Steps p.tables e below (T6.setTop (mkF m 17 #[.val (.ref sa), .val (.int (1 : Int32)), .val (.int (2 : Int32)), .val (.ref t_1), .val (.int (1 : Int32))] [(.int (1 : Int32)), (.ref t_1)])) _
    refine XS.aloadN X6.here hx rfl (hb hby d17_17) rfl rfl ?_
    refine XS.iloadN X6.here hx rfl (hb hby d17_18) rfl ?_
    show Steps p.tables e below (T6.setTop (mkF m 19 #[.val (.ref sa), .val (.int (1 : Int32)), .val (.int (2 : Int32)), .val (.ref t_1), .val (.int (1 : Int32))] [(.int (1 : Int32)), (.ref sa), (.int (1 : Int32)), (.ref t_1)])) _
    refine X6.caload hx (j := (1 : Int32)) (v := (.int y1)) (by rw [e6]; exact Ar11.1) (State.isArrayOf_alike hZ.alike Ar11.2.1) Ar11.2.2 hin11 hat11 (g := (mkF m 19 #[.val (.ref sa), .val (.int (1 : Int32)), .val (.int (2 : Int32)), .val (.ref t_1), .val (.int (1 : Int32))] [(.int (1 : Int32)), (.ref sa), (.int (1 : Int32)), (.ref t_1)])) rfl rfl (hb hby d17_19) _ ?_
    show Steps p.tables e below (T6.setTop (mkF m 20 #[.val (.ref sa), .val (.int (1 : Int32)), .val (.int (2 : Int32)), .val (.ref t_1), .val (.int (1 : Int32))] [(.int y1), (.int (1 : Int32)), (.ref t_1)])) _
    refine st13 _ ?_
    show Steps p.tables e below (T13.setTop (mkF m 23 #[.val (.ref sa), .val (.int (1 : Int32)), .val (.int (2 : Int32)), .val (.ref t_1), .val (.int (1 : Int32))] [])) _
    refine XS.iinc X13.here hx rfl (hb hby d17_23) rfl (l' := #[.val (.ref sa), .val (.int (2 : Int32)), .val (.int (2 : Int32)), .val (.ref t_1), .val (.int (1 : Int32))]) rfl ?_
    refine XS.iinc X13.here hx rfl (hb hby d17_26) rfl (l' := #[.val (.ref sa), .val (.int (2 : Int32)), .val (.int (2 : Int32)), .val (.ref t_1), .val (.int (2 : Int32))]) rfl ?_
    show Steps p.tables e below (T13.setTop (mkF m 29 #[.val (.ref sa), .val (.int (2 : Int32)), .val (.int (2 : Int32)), .val (.ref t_1), .val (.int (2 : Int32))] [])) _
    refine XS.goto X13.here hx rfl (pc0 := 29) (pc' := 8) rfl (hb hby d17_29) (by decide) (by decide) ?_
    refine XS.iload X13.here hx rfl (hb hby d17_8) rfl ?_
    show Steps p.tables e below (T13.setTop (mkF m 10 #[.val (.ref sa), .val (.int (2 : Int32)), .val (.int (2 : Int32)), .val (.ref t_1), .val (.int (2 : Int32))] [(.int (2 : Int32))])) _
    refine XS.iloadN X13.here hx rfl (hb hby d17_10) rfl ?_
    show Steps p.tables e below (T13.setTop (mkF m 11 #[.val (.ref sa), .val (.int (2 : Int32)), .val (.int (2 : Int32)), .val (.ref t_1), .val (.int (2 : Int32))] [(.int (2 : Int32)), (.int (2 : Int32))])) _
    refine XS.icmpYes X13.here hx rfl (pc0 := 11) (pc' := 32) rfl (hb hby d17_11) rfl (flt (by decide : ¬ ((2 : Int32) < (2 : Int32)))).2.1 (by decide) (by decide) ?_
    show Steps p.tables e below (T13.setTop (mkF m 32 #[.val (.ref sa), .val (.int (2 : Int32)), .val (.int (2 : Int32)), .val (.ref t_1), .val (.int (2 : Int32))] [])) _
    refine XS.aloadN X13.here hx rfl (hb hby d17_32) rfl rfl ?_
    show Steps p.tables e below (T13.setTop (mkF m 33 #[.val (.ref sa), .val (.int (2 : Int32)), .val (.int (2 : Int32)), .val (.ref t_1), .val (.int (2 : Int32))] [(.ref t_1)])) _
    exact X13.areturnOut hx rfl Bd.returns rfl (hb hby d17_33) hr
  · show Q_m17_2 Z sa ks y0 y1 h0 n0 _ T13.heap _
    rw [e13]
    exact ⟨t_1, kt_1, rfl, N13, K17, V18, sz_t_1⟩
def Q_m19_1 (Z : State)  (h0 : Heap) (n0 : Nat) (v : Option Value) (h : Heap) (L : List Loc) : Prop := v = (some (.int (2 : Int32))) ∧ Fr n0 L ∧ h = h0
theorem ef_m19_1 (m : MethodId)  : entryFrame m #[(.int (1 : Int32))] 1 = mkF m 0 #[.val (.int (1 : Int32))] [] := by first | (simp [entryFrame, mkF, argsToLocals, Value.category]; done) | rfl
set_option maxRecDepth 65536 in
set_option maxHeartbeats 40000000 in
theorem m19_1 (l : Launch) (Z : State) (a0 : Array Value) (hw : ∀ d ∈ tables_1, d.before a0 Z = true) (ws : List Jvm.Cond)  (h0 : Heap) (n0 : Nat) (Z0 : n0 ≤ h0.size)  :
    MetFree l (⟨"java/lang/StringUTF16", "newBytesLength", "(I)I"⟩ : MethodName) (head1 (Jvm.Cond.code (⟨"java/lang/StringUTF16", "newBytesLength", "(I)I"⟩ : MethodName) jdk_52_method_3_code 1 (some .int) :: ws) ({ frames := 0, cells := 0, slots := 0, locals := 0 } : Room)) (fun ar_ U => ar_ = #[(.int (1 : Int32))] ∧ Z.Warmed39 U.vm ∧ U.heap = h0) (fun _ _ _ _ _ => True) (fun _ U o U' => ∃ v L, o = .returned v ∧ Q_m19_1 Z  h0 n0 v U'.heap L ∧ FrameEnd U o U' L ({ frames := 0, cells := 0, slots := 0, locals := 0 } : Room).cells ({ frames := 0, cells := 0, slots := 0, locals := 0 } : Room).slots) := by
  refine MetFree.of_bodySF (plainFor_of_name pnx_java_lang_StringUTF16) hisR ?_
  intro p e s m args below meth c s₁ Bd hml0 hP hK
  obtain ⟨rfl, hZ, hh⟩ := hP
  have hx := Bd.exec
  have hby := Bd.bytes
  have hml : c.maxLocals = 1 := hml0
  have hown : s.vm.findClass "java/lang/StringUTF16" = some m.cls := findClass_of_methodNamed Bd.named
  have hnm := (name_of_methodNamed Bd.named Bd.method).1
  have X0 : Stand p l e ({ frames := 0, cells := 0, slots := 0, locals := 0 } : Room) s m #[(.int (1 : Int32))] below meth c s₁ [] 0 0 := Stand.of_body Bd
  have e0 : s₁.heap = h0 := by rw [← hh, Bd.state]; rfl
  have N0 := Fr.nil n0
  have pre0 : ∀ tq_, Steps p.tables e below (s₁.setTop (mkF m 0 #[.val (.int (1 : Int32))] [])) tq_ → Steps p.tables e below (s₁.setTop (entryFrame m #[(.int (1 : Int32))] 1)) tq_ := fun tq_ kt_ => castTop (ef_m19_1 m  ) kt_
  obtain ⟨fs, hr, hrun, hended, hW, hsame⟩ := X0.leave (v := some (.int (2 : Int32))) (fun h => by rw [Bd.returns] at h; cases h)
  refine ⟨_, _, pre0 _ ?_, hrun, hended, _, _, rfl, ?_, ⟨_, rfl⟩, hW, hsame.mono (nle rfl) (nle rfl)⟩
  · show Steps p.tables e below (s₁.setTop (mkF m 0 #[.val (.int (1 : Int32))] [])) _
    refine XS.iloadN X0.here hx rfl (hb hby d19_0) rfl ?_
    show Steps p.tables e below (s₁.setTop (mkF m 1 #[.val (.int (1 : Int32))] [(.int (1 : Int32))])) _
    refine XS.ifYes X0.here hx rfl (pc0 := 1) (pc' := 12) rfl (hb hby d19_1) rfl ((if0 _ _).trans (flt (by decide : ¬ ((1 : Int32) < (0 : Int32)))).2.1) (by decide) (by decide) ?_
    show Steps p.tables e below (s₁.setTop (mkF m 12 #[.val (.int (1 : Int32))] [])) _
    refine XS.iloadN X0.here hx rfl (hb hby d19_12) rfl ?_
    show Steps p.tables e below (s₁.setTop (mkF m 13 #[.val (.int (1 : Int32))] [(.int (1 : Int32))])) _
    refine X0.ldcInt hx hown (mvT hZ (wk hw 87 rfl)) (g := (mkF m 13 #[.val (.int (1 : Int32))] [(.int (1 : Int32))])) rfl (hb hby d19_13) _ ?_
    show Steps p.tables e below (s₁.setTop (mkF m 15 #[.val (.int (1 : Int32))] [(.int (1073741823 : Int32)), (.int (1 : Int32))])) _
    refine XS.icmpYes X0.here hx rfl (pc0 := 15) (pc' := 55) rfl (hb hby d19_15) rfl (tlt (by decide : (1 : Int32) < (1073741823 : Int32))).1 (by decide) (by decide) ?_
    show Steps p.tables e below (s₁.setTop (mkF m 55 #[.val (.int (1 : Int32))] [])) _
    refine XS.iloadN X0.here hx rfl (hb hby d19_55) rfl ?_
    refine XS.iconst X0.here hx rfl (hb hby d19_56) ?_
    show Steps p.tables e below (s₁.setTop (mkF m 57 #[.val (.int (1 : Int32))] [(.int (1 : Int32)), (.int (1 : Int32))])) _
    show Steps p.tables e below (s₁.setTop (mkF m 57 #[.val (.int (1 : Int32))] [(.int (1 : Int32)), (.int (1 : Int32))])) _
    refine XS.ishl X0.here hx rfl (hb hby d19_57) rfl ?_
    show Steps p.tables e below (s₁.setTop (mkF m 58 #[.val (.int (1 : Int32))] [(.int ((1 : Int32) <<< ((1 : Int32) &&& 31)))])) _
    rw [show ((1 : Int32) <<< ((1 : Int32) &&& 31)) = (2 : Int32) from by decide]
    show Steps p.tables e below (s₁.setTop (mkF m 58 #[.val (.int (1 : Int32))] [(.int (2 : Int32))])) _
    exact retI X0 hx Bd.returns (hb hby d19_58) hr
  · show Q_m19_1 Z  h0 n0 _ s₁.heap _
    exact ⟨rfl, N0, e0⟩
def Q_m18_1 (Z : State)  (h0 : Heap) (n0 : Nat) (v : Option Value) (h : Heap) (L : List Loc) : Prop := ∃ (t : Addr) (kt : ClassId), v = (some (.ref t)) ∧ Fr n0 L ∧ Keep h0 h [] ∧ Arv Z h t kt .byte (2 : Int32) [(.int (0 : Int32)), (.int (0 : Int32))] (.int (0 : Int32)) ∧ h0.size ≤ t
theorem ef_m18_1 (m : MethodId)  : entryFrame m #[(.int (1 : Int32))] 1 = mkF m 0 #[.val (.int (1 : Int32))] [] := by first | (simp [entryFrame, mkF, argsToLocals, Value.category]; done) | rfl
set_option maxRecDepth 65536 in
set_option maxHeartbeats 40000000 in
theorem m18_1 (l : Launch) (Z : State) (a0 : Array Value) (hw : ∀ d ∈ tables_1, d.before a0 Z = true) (ws : List Jvm.Cond)  (h0 : Heap) (n0 : Nat) (Z0 : n0 ≤ h0.size)  :
    MetFree l (⟨"java/lang/StringUTF16", "newBytesFor", "(I)[B"⟩ : MethodName) (head1 (Jvm.Cond.code (⟨"java/lang/StringUTF16", "newBytesFor", "(I)[B"⟩ : MethodName) jdk_52_method_2_code 1 (some (.array .byte)) :: ws) ({ frames := 1, cells := 1, slots := 2, locals := 12 } : Room)) (fun ar_ U => ar_ = #[(.int (1 : Int32))] ∧ Z.Warmed39 U.vm ∧ U.heap = h0) (fun _ _ _ _ _ => True) (fun _ U o U' => ∃ v L, o = .returned v ∧ Q_m18_1 Z  h0 n0 v U'.heap L ∧ FrameEnd U o U' L ({ frames := 1, cells := 1, slots := 2, locals := 12 } : Room).cells ({ frames := 1, cells := 1, slots := 2, locals := 12 } : Room).slots) := by
  refine MetFree.of_bodySF (plainFor_of_name pnx_java_lang_StringUTF16) hisR ?_
  intro p e s m args below meth c s₁ Bd hml0 hP hK
  obtain ⟨rfl, hZ, hh⟩ := hP
  have hx := Bd.exec
  have hby := Bd.bytes
  have hml : c.maxLocals = 1 := hml0
  have hown : s.vm.findClass "java/lang/StringUTF16" = some m.cls := findClass_of_methodNamed Bd.named
  have hnm := (name_of_methodNamed Bd.named Bd.method).1
  have X0 : Stand p l e ({ frames := 1, cells := 1, slots := 2, locals := 12 } : Room) s m #[(.int (1 : Int32))] below meth c s₁ [] 0 0 := Stand.of_body Bd
  have e0 : s₁.heap = h0 := by rw [← hh, Bd.state]; rfl
  have N0 := Fr.nil n0
  have pre0 : ∀ tq_, Steps p.tables e below (s₁.setTop (mkF m 0 #[.val (.int (1 : Int32))] [])) tq_ → Steps p.tables e below (s₁.setTop (entryFrame m #[(.int (1 : Int32))] 1)) tq_ := fun tq_ kt_ => castTop (ef_m18_1 m  ) kt_
  obtain ⟨_, _, ⟨T1, L1, kk1, nn1⟩, -, X1, ⟨Lc1, hQ1, l1, y1, z1⟩, st1⟩ := Jvm.LawKit.callS X0 hx (y := (⟨"java/lang/StringUTF16", "newBytesLength", "(I)I"⟩ : MethodName)) hown (mvT hZ (wk hw 84 rfl)) (mvT hZ (wk hw 85 rfl)) (mvT hZ (wk hw 45 rfl)) (mvT hZ (wk hw 86 rfl)) (by decide) (backOf (W := 0) (m19_1 l Z a0 hw []  h0 n0 Z0 ) hZ (wk hw 86 rfl) (wk hw 45 rfl) (by decide) (by decide)) (g := (mkF m 1 #[.val (.int (1 : Int32))] [(.int (1 : Int32))])) rfl (by rw [hml]; rfl) (argsL := [(.int (1 : Int32))]) (rest := []) (lenOf pdx__I_I rfl) rfl (by show 2 * 0 + _ ≤ _; exact Nat.le_of_eq rfl) (hb hby d18_1) (fun _ _ => ⟨rfl, e0, nle rfl, nle rfl⟩)
  dsimp only [Pt.U, Pt.locs, Pt.cells, Pt.slots] at X1 l1 y1 z1 st1 hQ1
  subst l1 y1 z1
  obtain ⟨rfl, Nq1, e1⟩ := hQ1
  have N1 := Fr.app N0 Nq1
  obtain ⟨T2, h2, k2, X2, e2, E2, A2, st2⟩ := newP X1 hx hZ (wk hw 21 rfl) e1 (g := (mkF m 4 #[.val (.int (1 : Int32))] [(.int (2 : Int32))])) rfl (hb hby d18_4) rfl (by decide) (cap := 2) (by decide) (by decide) (nle rfl) (nle rfl)
  obtain ⟨b2, g2⟩ : ∃ z, z = h0.size := ⟨_, rfl⟩
  rw [← g2] at A2 st2
  have V2 : Arv Z h2 b2 k2 .byte (2 : Int32) [] (.int (0 : Int32)) := Arv.new A2 (by decide)
  have sz_b2 : h0.size ≤ b2 := (Nat.le_of_eq g2.symm)
  have ge_b2 : n0 ≤ b2 := Nat.le_trans Z0 sz_b2
  have K3 : Keep h0 h2 [] := (Keep.refl h0 []).ext E2
  have V4 : Arv Z h2 b2 k2 .byte (2 : Int32) [(.int (0 : Int32)), (.int (0 : Int32))] (.int (0 : Int32)) := V2.pad (pad_rep [] (.int (0 : Int32)) 2)
  obtain ⟨fs, hr, hrun, hended, hW, hsame⟩ := X2.leave (v := some (.ref b2)) (fun h => by rw [Bd.returns] at h; cases h)
  refine ⟨_, _, pre0 _ ?_, hrun, hended, _, _, rfl, ?_, ⟨_, rfl⟩, hW, hsame.mono (nle rfl) (nle rfl)⟩
  · show Steps p.tables e below (s₁.setTop (mkF m 0 #[.val (.int (1 : Int32))] [])) _
    refine XS.iloadN X0.here hx rfl (hb hby d18_0) rfl ?_
    show Steps p.tables e below (s₁.setTop (mkF m 1 #[.val (.int (1 : Int32))] [(.int (1 : Int32))])) _
    refine st1 _ ?_
    show Steps p.tables e below (T1.setTop (mkF m 4 #[.val (.int (1 : Int32))] [(.int (2 : Int32))])) _
    refine st2 _ ?_
    show Steps p.tables e below (T2.setTop (mkF m 6 #[.val (.int (1 : Int32))] [(.ref b2)])) _
    exact X2.areturnOut hx rfl Bd.returns rfl (hb hby d18_6) hr
  · show Q_m18_1 Z  h0 n0 _ T2.heap _
    rw [e2]
    exact ⟨b2, k2, rfl, N1, K3, V4, sz_b2⟩
def Q_m17_1 (Z : State) (sa : Addr) (ks : ClassId) (y0 : Int32) (h0 : Heap) (n0 : Nat) (v : Option Value) (h : Heap) (L : List Loc) : Prop := ∃ (t : Addr) (kt : ClassId), v = (some (.ref t)) ∧ Fr n0 L ∧ Keep h0 h [] ∧ Arv Z h t kt .byte (2 : Int32) [(.int (own_b0 y0)), (.int (own_b1 y0))] (.int (0 : Int32)) ∧ h0.size ≤ t
theorem ef_m17_1 (m : MethodId) (sa : Addr) (ks : ClassId) (y0 : Int32) : entryFrame m #[(.ref sa), (.int (0 : Int32)), (.int (1 : Int32))] 5 = mkF m 0 #[.val (.ref sa), .val (.int (0 : Int32)), .val (.int (1 : Int32)), .unset, .unset] [] := by first | (simp [entryFrame, mkF, argsToLocals, Value.category]; done) | rfl
set_option maxRecDepth 65536 in
set_option maxHeartbeats 40000000 in
theorem m17_1 (l : Launch) (Z : State) (a0 : Array Value) (hw : ∀ d ∈ tables_1, d.before a0 Z = true) (ws : List Jvm.Cond) (sa : Addr) (ks : ClassId) (y0 : Int32) (h0 : Heap) (n0 : Nat) (Z0 : n0 ≤ h0.size) (Vs : Arv Z h0 sa ks .char (1 : Int32) [(.int y0)] (.int (0 : Int32))) (S_AD : Sta Z h0 "java/lang/StringUTF16" "$assertionsDisabled" "Z" (.int (1 : Int32))) (S_HI : Sta Z h0 "java/lang/StringUTF16" "HI_BYTE_SHIFT" "I" (.int (0 : Int32))) (S_LO : Sta Z h0 "java/lang/StringUTF16" "LO_BYTE_SHIFT" "I" (.int (8 : Int32))) :
    MetFree l (⟨"java/lang/StringUTF16", "toBytes", "([CII)[B"⟩ : MethodName) (head1 (Jvm.Cond.code (⟨"java/lang/StringUTF16", "toBytes", "([CII)[B"⟩ : MethodName) jdk_52_method_14_code 5 (some (.array .byte)) :: ws) ({ frames := 2, cells := 1, slots := 8, locals := 24 } : Room)) (fun ar_ U => ar_ = #[(.ref sa), (.int (0 : Int32)), (.int (1 : Int32))] ∧ Z.Warmed39 U.vm ∧ U.heap = h0) (fun _ _ _ _ _ => True) (fun _ U o U' => ∃ v L, o = .returned v ∧ Q_m17_1 Z sa ks y0 h0 n0 v U'.heap L ∧ FrameEnd U o U' L ({ frames := 2, cells := 1, slots := 8, locals := 24 } : Room).cells ({ frames := 2, cells := 1, slots := 8, locals := 24 } : Room).slots) := by
  refine MetFree.of_bodySF (plainFor_of_name pnx_java_lang_StringUTF16) hisR ?_
  intro p e s m args below meth c s₁ Bd hml0 hP hK
  obtain ⟨rfl, hZ, hh⟩ := hP
  have hx := Bd.exec
  have hby := Bd.bytes
  have hml : c.maxLocals = 5 := hml0
  have hown : s.vm.findClass "java/lang/StringUTF16" = some m.cls := findClass_of_methodNamed Bd.named
  have hnm := (name_of_methodNamed Bd.named Bd.method).1
  have X0 : Stand p l e ({ frames := 2, cells := 1, slots := 8, locals := 24 } : Room) s m #[(.ref sa), (.int (0 : Int32)), (.int (1 : Int32))] below meth c s₁ [] 0 0 := Stand.of_body Bd
  have e0 : s₁.heap = h0 := by rw [← hh, Bd.state]; rfl
  have N0 := Fr.nil n0
  have pre0 : ∀ tq_, Steps p.tables e below (s₁.setTop (mkF m 0 #[.val (.ref sa), .val (.int (0 : Int32)), .val (.int (1 : Int32)), .unset, .unset] [])) tq_ → Steps p.tables e below (s₁.setTop (entryFrame m #[(.ref sa), (.int (0 : Int32)), (.int (1 : Int32))] 5)) tq_ := fun tq_ kt_ => castTop (ef_m17_1 m sa ks y0 ) kt_
  obtain ⟨_, _, ⟨T1, L1, kk1, nn1⟩, -, X1, ⟨Lc1, hQ1, l1, y1, z1⟩, st1⟩ := Jvm.LawKit.callS X0 hx (y := (⟨"java/lang/StringUTF16", "newBytesFor", "(I)[B"⟩ : MethodName)) hown (mvT hZ (wk hw 81 rfl)) (mvT hZ (wk hw 82 rfl)) (mvT hZ (wk hw 45 rfl)) (mvT hZ (wk hw 83 rfl)) (by decide) (backOf (W := 0) (m18_1 l Z a0 hw []  h0 n0 Z0 ) hZ (wk hw 83 rfl) (wk hw 45 rfl) (by decide) (by decide)) (g := (mkF m 1 #[.val (.ref sa), .val (.int (0 : Int32)), .val (.int (1 : Int32)), .unset, .unset] [(.int (1 : Int32))])) rfl (by rw [hml]; rfl) (argsL := [(.int (1 : Int32))]) (rest := []) (lenOf pdx__I__B rfl) rfl (by show 2 * 0 + _ ≤ _; exact Nat.le_of_eq rfl) (hb hby d17_1) (fun _ _ => ⟨rfl, e0, nle rfl, nle rfl⟩)
  dsimp only [Pt.U, Pt.locs, Pt.cells, Pt.slots] at X1 l1 y1 z1 st1 hQ1
  subst l1 y1 z1
  obtain ⟨t_1, kt_1, rfl, Nq1, Kq1, P1_0, P1_1⟩ := hQ1
  have N1 := Fr.app N0 Nq1
  obtain ⟨h1, e1⟩ : ∃ h, T1.heap = h := ⟨_, rfl⟩
  rw [e1] at Kq1 P1_0
  have sz_t_1 : h0.size ≤ t_1 := P1_1
  have ge_t_1 : n0 ≤ t_1 := Nat.le_trans Z0 sz_t_1
  have ne_2 : sa ≠ t_1 := Nat.ne_of_lt (Nat.lt_of_lt_of_le Vs.lt P1_1)
  have K3 : Keep h0 h1 [] := (Keep.refl h0 []).trans Kq1 own_m0
  have F5 := (Vs.keep Kq1 own_n0)
  obtain ⟨c4, Ar4, -, Sz4, -, H4, -⟩ := id F5
  have hin4 := inb_of (j := (0 : Int32)) Sz4 ⟨by decide, by decide⟩
  have hat4 : c4.slots[((0 : Int32) : Int32).toNatClampNeg]? = some (.int y0) := H4 _ (Nat.lt_of_not_le fun q => hin4 (Or.inr q))
  have F7 := (own_staK S_AD Kq1 ns0)
  have F8 := (own_staK S_HI Kq1 ns0)
  have F9 := (own_staK S_LO Kq1 ns0)
  obtain ⟨_, _, ⟨T6, L6, kk6, nn6⟩, -, X6, ⟨Lc6, hQ6, l6, y6, z6⟩, st6⟩ := Jvm.LawKit.callS X1 hx (y := (⟨"java/lang/StringUTF16", "putChar", "([BII)V"⟩ : MethodName)) hown (mvT hZ (wk hw 88 rfl)) (mvT hZ (wk hw 89 rfl)) (mvT hZ (wk hw 45 rfl)) (mvT hZ (wk hw 90 rfl)) (by decide) (backOf (W := 0) (m20 l Z a0 hw [] t_1 kt_1 (2 : Int32) [(.int (0 : Int32)), (.int (0 : Int32))] (0 : Int32) y0 0 1 h1 n0 (Nat.le_trans Z0 K3.1) P1_0 ge_t_1 F7 F8 F9 (by decide) (by decide) (by decide) (by decide) (by decide) (by decide) (by simp) (by simp)) hZ (wk hw 90 rfl) (wk hw 45 rfl) (by decide) (by decide)) (g := (mkF m 20 #[.val (.ref sa), .val (.int (0 : Int32)), .val (.int (1 : Int32)), .val (.ref t_1), .val (.int (0 : Int32))] [(.int y0), (.int (0 : Int32)), (.ref t_1)])) rfl (by rw [hml]; rfl) (argsL := [(.ref t_1), (.int (0 : Int32)), (.int y0)]) (rest := []) (lenOf pdx___BII_V rfl) rfl (by show 2 * 0 + _ ≤ _; exact Nat.le_of_eq rfl) (hb hby d17_20) (fun _ _ => ⟨rfl, e1, nle rfl, nle rfl⟩)
  dsimp only [Pt.U, Pt.locs, Pt.cells, Pt.slots] at X6 l6 y6 z6 st6 hQ6
  subst l6 y6 z6
  obtain ⟨rfl, Nq6, Kq6, P6_0⟩ := hQ6
  have N6 := Fr.app N1 Nq6
  obtain ⟨h6, e6⟩ : ∃ h, T6.heap = h := ⟨_, rfl⟩
  rw [e6] at Kq6 P6_0
  have ns6 := (nsS P1_0.nostat ns0)
  have K10 : Keep h0 h6 [] := K3.trans Kq6 (own_mS (Or.inr sz_t_1) own_m0)
  have V11 : Arv Z h6 t_1 kt_1 .byte (2 : Int32) [(.int (own_b0 y0)), (.int (own_b1 y0))] (.int (0 : Int32)) := P6_0
  obtain ⟨fs, hr, hrun, hended, hW, hsame⟩ := X6.leave (v := some (.ref t_1)) (fun h => by rw [Bd.returns] at h; cases h)
  refine ⟨_, _, pre0 _ ?_, hrun, hended, _, _, rfl, ?_, ⟨_, rfl⟩, hW, hsame.mono (nle rfl) (nle rfl)⟩
  · show Steps p.tables e below (s₁.setTop (mkF m 0 #[.val (.ref sa), .val (.int (0 : Int32)), .val (.int (1 : Int32)), .unset, .unset] [])) _
    refine XS.iloadN X0.here hx rfl (hb hby d17_0) rfl ?_
    show Steps p.tables e below (s₁.setTop (mkF m 1 #[.val (.ref sa), .val (.int (0 : Int32)), .val (.int (1 : Int32)), .unset, .unset] [(.int (1 : Int32))])) _
    refine st1 _ ?_
    show Steps p.tables e below (T1.setTop (mkF m 4 #[.val (.ref sa), .val (.int (0 : Int32)), .val (.int (1 : Int32)), .unset, .unset] [(.ref t_1)])) _
    refine XS.astoreN X1.here hx rfl (hb hby d17_4) rfl rfl (l' := #[.val (.ref sa), .val (.int (0 : Int32)), .val (.int (1 : Int32)), .val (.ref t_1), .unset]) rfl ?_
    refine XS.iconst X1.here hx rfl (hb hby d17_5) ?_
    show Steps p.tables e below (T1.setTop (mkF m 6 #[.val (.ref sa), .val (.int (0 : Int32)), .val (.int (1 : Int32)), .val (.ref t_1), .unset] [(.int (0 : Int32))])) _
    refine XS.istore X1.here hx rfl (hb hby d17_6) rfl (l' := #[.val (.ref sa), .val (.int (0 : Int32)), .val (.int (1 : Int32)), .val (.ref t_1), .val (.int (0 : Int32))]) rfl ?_
    refine XS.iload X1.here hx rfl (hb hby d17_8) rfl ?_
    show Steps p.tables e below (T1.setTop (mkF m 10 #[.val (.ref sa), .val (.int (0 : Int32)), .val (.int (1 : Int32)), .val (.ref t_1), .val (.int (0 : Int32))] [(.int (0 : Int32))])) _
    refine XS.iloadN X1.here hx rfl (hb hby d17_10) rfl ?_
    show Steps p.tables e below (T1.setTop (mkF m 11 #[.val (.ref sa), .val (.int (0 : Int32)), .val (.int (1 : Int32)), .val (.ref t_1), .val (.int (0 : Int32))] [(.int (1 : Int32)), (.int (0 : Int32))])) _
    refine XS.icmpNo X1.here hx rfl (hb hby d17_11) rfl (tlt (by decide : (0 : Int32) < (1 : Int32))).2.1 ?_
    show Steps p.tables e below (T1.setTop (mkF m 14 #[.val (.ref sa), .val (.int (0 : Int32)), .val (.int (1 : Int32)), .val (.ref t_1), .val (.int (0 : Int32))] [])) _
    refine XS.aloadN X1.here hx rfl (hb hby d17_14) rfl rfl ?_
    refine XS.iload X1.here hx rfl (hb hby d17_15) rfl ?_
    show Steps p.tables e below (T1.setTop (mkF m 17 #[.val (.ref sa), .val (.int (0 : Int32)), .val (.int (1 : Int32)), .val (.ref t_1), .val (.int (0 : Int32))] [(.int (0 : Int32)), (.ref t_1)])) _
    refine XS.aloadN X1.here hx rfl (hb hby d17_17) rfl rfl ?_
    refine XS.iloadN X1.here hx rfl (hb hby d17_18) rfl ?_
    show Steps p.tables e below (T1.setTop (mkF m 19 #[.val (.ref sa), .val (.int (0 : Int32)), .val (.int (1 : Int32)), .val (.ref t_1), .val (.int (0 : Int32))] [(.int (0 : Int32)), (.ref sa), (.int (0 : Int32)), (.ref t_1)])) _
    refine X1.caload hx (j := (0 : Int32)) (v := (.int y0)) (by rw [e1]; exact Ar4.1) (State.isArrayOf_alike hZ.alike Ar4.2.1) Ar4.2.2 hin4 hat4 (g := (mkF m 19 #[.val (.ref sa), .val (.int (0 : Int32)), .val (.int (1 : Int32)), .val (.ref t_1), .val (.int (0 : Int32))] [(.int (0 : Int32)), (.ref sa), (.int (0 : Int32)), (.ref t_1)])) rfl rfl (hb hby d17_19) _ ?_
    show Steps p.tables e below (T1.setTop (mkF m 20 #[.val (.ref sa), .val (.int (0 : Int32)), .val (.int (1 : Int32)), .val (.ref t_1), .val (.int (0 : Int32))] [(.int y0), (.int (0 : Int32)), (.ref t_1)])) _
    refine st6 _ ?_
    show Steps p.tables e below (T6.setTop (mkF m 23 #[.val (.ref sa), .val (.int (0 : Int32)), .val (.int (1 : Int32)), .val (.ref t_1), .val (.int (0 : Int32))] [])) _
    refine XS.iinc X6.here hx rfl (hb hby d17_23) rfl (l' := #[.val (.ref sa), .val (.int (1 : Int32)), .val (.int (1 : Int32)), .val (.ref t_1), .val (.int (0 : Int32))]) rfl ?_
    refine XS.iinc X6.here hx rfl (hb hby d17_26) rfl (l' := #[.val (.ref sa), .val (.int (1 : Int32)), .val (.int (1 : Int32)), .val (.ref t_1), .val (.int (1 : Int32))]) rfl ?_
    show Steps p.tables e below (T6.setTop (mkF m 29 #[.val (.ref sa), .val (.int (1 : Int32)), .val (.int (1 : Int32)), .val (.ref t_1), .val (.int (1 : Int32))] [])) _
    refine XS.goto X6.here hx rfl (pc0 := 29) (pc' := 8) rfl (hb hby d17_29) (by decide) (by decide) ?_
    refine XS.iload X6.here hx rfl (hb hby d17_8) rfl ?_
    show Steps p.tables e below (T6.setTop (mkF m 10 #[.val (.ref sa), .val (.int (1 : Int32)), .val (.int (1 : Int32)), .val (.ref t_1), .val (.int (1 : Int32))] [(.int (1 : Int32))])) _
    refine XS.iloadN X6.here hx rfl (hb hby d17_10) rfl ?_
    show Steps p.tables e below (T6.setTop (mkF m 11 #[.val (.ref sa), .val (.int (1 : Int32)), .val (.int (1 : Int32)), .val (.ref t_1), .val (.int (1 : Int32))] [(.int (1 : Int32)), (.int (1 : Int32))])) _
    refine XS.icmpYes X6.here hx rfl (pc0 := 11) (pc' := 32) rfl (hb hby d17_11) rfl (flt (by decide : ¬ ((1 : Int32) < (1 : Int32)))).2.1 (by decide) (by decide) ?_
    show Steps p.tables e below (T6.setTop (mkF m 32 #[.val (.ref sa), .val (.int (1 : Int32)), .val (.int (1 : Int32)), .val (.ref t_1), .val (.int (1 : Int32))] [])) _
    refine XS.aloadN X6.here hx rfl (hb hby d17_32) rfl rfl ?_
    show Steps p.tables e below (T6.setTop (mkF m 33 #[.val (.ref sa), .val (.int (1 : Int32)), .val (.int (1 : Int32)), .val (.ref t_1), .val (.int (1 : Int32))] [(.ref t_1)])) _
    exact X6.areturnOut hx rfl Bd.returns rfl (hb hby d17_33) hr
  · show Q_m17_1 Z sa ks y0 h0 n0 _ T6.heap _
    rw [e6]
    exact ⟨t_1, kt_1, rfl, N6, K10, V11, sz_t_1⟩
def own_T (z : Int32) (cs : List Value) (y : Int32) (bs : List Value) (f x : Int32) : Prop := (z = (1 : Int32) ∧ ∃ y0 : Int32, cs = [(.int y0)] ∧ y = (2 : Int32) ∧ bs = [(.int (own_b0 y0)), (.int (own_b1 y0))] ∧ ((f = (0 : Int32) ∧ x = y0 ∧ (255 : Int32) < y0))) ∨ (z = (2 : Int32) ∧ ∃ y0 y1 : Int32, cs = [(.int y0), (.int y1)] ∧ y = (4 : Int32) ∧ bs = [(.int (own_b0 y0)), (.int (own_b1 y0)), (.int (own_b0 y1)), (.int (own_b1 y1))] ∧ ((f = (0 : Int32) ∧ x = y0 ∧ (255 : Int32) < y0) ∨ (f = (1 : Int32) ∧ x = y1 ∧ ¬ ((255 : Int32) < y0) ∧ (255 : Int32) < y1))) ∨ (z = (3 : Int32) ∧ ∃ y0 y1 y2 : Int32, cs = [(.int y0), (.int y1), (.int y2)] ∧ y = (6 : Int32) ∧ bs = [(.int (own_b0 y0)), (.int (own_b1 y0)), (.int (own_b0 y1)), (.int (own_b1 y1)), (.int (own_b0 y2)), (.int (own_b1 y2))] ∧ ((f = (0 : Int32) ∧ x = y0 ∧ (255 : Int32) < y0) ∨ (f = (1 : Int32) ∧ x = y1 ∧ ¬ ((255 : Int32) < y0) ∧ (255 : Int32) < y1) ∨ (f = (2 : Int32) ∧ x = y2 ∧ ¬ ((255 : Int32) < y0) ∧ ¬ ((255 : Int32) < y1) ∧ (255 : Int32) < y2))) ∨ (z = (4 : Int32) ∧ ∃ y0 y1 y2 y3 : Int32, cs = [(.int y0), (.int y1), (.int y2), (.int y3)] ∧ y = (8 : Int32) ∧ bs = [(.int (own_b0 y0)), (.int (own_b1 y0)), (.int (own_b0 y1)), (.int (own_b1 y1)), (.int (own_b0 y2)), (.int (own_b1 y2)), (.int (own_b0 y3)), (.int (own_b1 y3))] ∧ ((f = (0 : Int32) ∧ x = y0 ∧ (255 : Int32) < y0) ∨ (f = (1 : Int32) ∧ x = y1 ∧ ¬ ((255 : Int32) < y0) ∧ (255 : Int32) < y1) ∨ (f = (2 : Int32) ∧ x = y2 ∧ ¬ ((255 : Int32) < y0) ∧ ¬ ((255 : Int32) < y1) ∧ (255 : Int32) < y2) ∨ (f = (3 : Int32) ∧ x = y3 ∧ ¬ ((255 : Int32) < y0) ∧ ¬ ((255 : Int32) < y1) ∧ ¬ ((255 : Int32) < y2) ∧ (255 : Int32) < y3)))
theorem own_T1 {z y f x : Int32} {cs bs : List Value} (hT : own_T z cs y bs f x) : ¬ z < (0 : Int32) := by
  rcases hT with ⟨rfl, y0, rfl, rfl, rfl, ⟨rfl, rfl, g0⟩⟩ | ⟨rfl, y0, y1, rfl, rfl, rfl, ⟨rfl, rfl, g0⟩ | ⟨rfl, rfl, g0, g1⟩⟩ | ⟨rfl, y0, y1, y2, rfl, rfl, rfl, ⟨rfl, rfl, g0⟩ | ⟨rfl, rfl, g0, g1⟩ | ⟨rfl, rfl, g0, g1, g2⟩⟩ | ⟨rfl, y0, y1, y2, y3, rfl, rfl, rfl, ⟨rfl, rfl, g0⟩ | ⟨rfl, rfl, g0, g1⟩ | ⟨rfl, rfl, g0, g1, g2⟩ | ⟨rfl, rfl, g0, g1, g2, g3⟩⟩ <;> decide
theorem own_T2 {z y f x : Int32} {cs bs : List Value} (hT : own_T z cs y bs f x) : z.toNatClampNeg ≤ 4 := by
  rcases hT with ⟨rfl, y0, rfl, rfl, rfl, ⟨rfl, rfl, g0⟩⟩ | ⟨rfl, y0, y1, rfl, rfl, rfl, ⟨rfl, rfl, g0⟩ | ⟨rfl, rfl, g0, g1⟩⟩ | ⟨rfl, y0, y1, y2, rfl, rfl, rfl, ⟨rfl, rfl, g0⟩ | ⟨rfl, rfl, g0, g1⟩ | ⟨rfl, rfl, g0, g1, g2⟩⟩ | ⟨rfl, y0, y1, y2, y3, rfl, rfl, rfl, ⟨rfl, rfl, g0⟩ | ⟨rfl, rfl, g0, g1⟩ | ⟨rfl, rfl, g0, g1, g2⟩ | ⟨rfl, rfl, g0, g1, g2, g3⟩⟩ <;> decide
theorem own_T3 {z y f x : Int32} {cs bs : List Value} (hT : own_T z cs y bs f x) : ¬ (f = z) := by
  rcases hT with ⟨rfl, y0, rfl, rfl, rfl, ⟨rfl, rfl, g0⟩⟩ | ⟨rfl, y0, y1, rfl, rfl, rfl, ⟨rfl, rfl, g0⟩ | ⟨rfl, rfl, g0, g1⟩⟩ | ⟨rfl, y0, y1, y2, rfl, rfl, rfl, ⟨rfl, rfl, g0⟩ | ⟨rfl, rfl, g0, g1⟩ | ⟨rfl, rfl, g0, g1, g2⟩⟩ | ⟨rfl, y0, y1, y2, y3, rfl, rfl, rfl, ⟨rfl, rfl, g0⟩ | ⟨rfl, rfl, g0, g1⟩ | ⟨rfl, rfl, g0, g1, g2⟩ | ⟨rfl, rfl, g0, g1, g2, g3⟩⟩ <;> decide
theorem own_T4 {z y f x : Int32} {cs bs : List Value} (hT : own_T z cs y bs f x) : ¬ ((f <<< ((1 : Int32) &&& 31)) < (0 : Int32)) := by
  rcases hT with ⟨rfl, y0, rfl, rfl, rfl, ⟨rfl, rfl, g0⟩⟩ | ⟨rfl, y0, y1, rfl, rfl, rfl, ⟨rfl, rfl, g0⟩ | ⟨rfl, rfl, g0, g1⟩⟩ | ⟨rfl, y0, y1, y2, rfl, rfl, rfl, ⟨rfl, rfl, g0⟩ | ⟨rfl, rfl, g0, g1⟩ | ⟨rfl, rfl, g0, g1, g2⟩⟩ | ⟨rfl, y0, y1, y2, y3, rfl, rfl, rfl, ⟨rfl, rfl, g0⟩ | ⟨rfl, rfl, g0, g1⟩ | ⟨rfl, rfl, g0, g1, g2⟩ | ⟨rfl, rfl, g0, g1, g2, g3⟩⟩ <;> decide
theorem own_T5 {z y f x : Int32} {cs bs : List Value} (hT : own_T z cs y bs f x) : (f <<< ((1 : Int32) &&& 31)) < y := by
  rcases hT with ⟨rfl, y0, rfl, rfl, rfl, ⟨rfl, rfl, g0⟩⟩ | ⟨rfl, y0, y1, rfl, rfl, rfl, ⟨rfl, rfl, g0⟩ | ⟨rfl, rfl, g0, g1⟩⟩ | ⟨rfl, y0, y1, y2, rfl, rfl, rfl, ⟨rfl, rfl, g0⟩ | ⟨rfl, rfl, g0, g1⟩ | ⟨rfl, rfl, g0, g1, g2⟩⟩ | ⟨rfl, y0, y1, y2, y3, rfl, rfl, rfl, ⟨rfl, rfl, g0⟩ | ⟨rfl, rfl, g0, g1⟩ | ⟨rfl, rfl, g0, g1, g2⟩ | ⟨rfl, rfl, g0, g1, g2, g3⟩⟩ <;> decide
theorem own_T6 {z y f x : Int32} {cs bs : List Value} (hT : own_T z cs y bs f x) : ¬ (((f <<< ((1 : Int32) &&& 31)) + (1 : Int32)) < (0 : Int32)) := by
  rcases hT with ⟨rfl, y0, rfl, rfl, rfl, ⟨rfl, rfl, g0⟩⟩ | ⟨rfl, y0, y1, rfl, rfl, rfl, ⟨rfl, rfl, g0⟩ | ⟨rfl, rfl, g0, g1⟩⟩ | ⟨rfl, y0, y1, y2, rfl, rfl, rfl, ⟨rfl, rfl, g0⟩ | ⟨rfl, rfl, g0, g1⟩ | ⟨rfl, rfl, g0, g1, g2⟩⟩ | ⟨rfl, y0, y1, y2, y3, rfl, rfl, rfl, ⟨rfl, rfl, g0⟩ | ⟨rfl, rfl, g0, g1⟩ | ⟨rfl, rfl, g0, g1, g2⟩ | ⟨rfl, rfl, g0, g1, g2, g3⟩⟩ <;> decide
theorem own_T7 {z y f x : Int32} {cs bs : List Value} (hT : own_T z cs y bs f x) : ((f <<< ((1 : Int32) &&& 31)) + (1 : Int32)) < y := by
  rcases hT with ⟨rfl, y0, rfl, rfl, rfl, ⟨rfl, rfl, g0⟩⟩ | ⟨rfl, y0, y1, rfl, rfl, rfl, ⟨rfl, rfl, g0⟩ | ⟨rfl, rfl, g0, g1⟩⟩ | ⟨rfl, y0, y1, y2, rfl, rfl, rfl, ⟨rfl, rfl, g0⟩ | ⟨rfl, rfl, g0, g1⟩ | ⟨rfl, rfl, g0, g1, g2⟩⟩ | ⟨rfl, y0, y1, y2, y3, rfl, rfl, rfl, ⟨rfl, rfl, g0⟩ | ⟨rfl, rfl, g0, g1⟩ | ⟨rfl, rfl, g0, g1, g2⟩ | ⟨rfl, rfl, g0, g1, g2, g3⟩⟩ <;> decide
theorem own_T8 {z y f x : Int32} {cs bs : List Value} (hT : own_T z cs y bs f x) : bs.getD (f <<< ((1 : Int32) &&& 31)).toNatClampNeg (.int (0 : Int32)) = .int (own_b0 x) := by
  rcases hT with ⟨rfl, y0, rfl, rfl, rfl, ⟨rfl, rfl, g0⟩⟩ | ⟨rfl, y0, y1, rfl, rfl, rfl, ⟨rfl, rfl, g0⟩ | ⟨rfl, rfl, g0, g1⟩⟩ | ⟨rfl, y0, y1, y2, rfl, rfl, rfl, ⟨rfl, rfl, g0⟩ | ⟨rfl, rfl, g0, g1⟩ | ⟨rfl, rfl, g0, g1, g2⟩⟩ | ⟨rfl, y0, y1, y2, y3, rfl, rfl, rfl, ⟨rfl, rfl, g0⟩ | ⟨rfl, rfl, g0, g1⟩ | ⟨rfl, rfl, g0, g1, g2⟩ | ⟨rfl, rfl, g0, g1, g2, g3⟩⟩ <;> rfl
theorem own_T9 {z y f x : Int32} {cs bs : List Value} (hT : own_T z cs y bs f x) : bs.getD ((f <<< ((1 : Int32) &&& 31)) + (1 : Int32)).toNatClampNeg (.int (0 : Int32)) = .int (own_b1 x) := by
  rcases hT with ⟨rfl, y0, rfl, rfl, rfl, ⟨rfl, rfl, g0⟩⟩ | ⟨rfl, y0, y1, rfl, rfl, rfl, ⟨rfl, rfl, g0⟩ | ⟨rfl, rfl, g0, g1⟩⟩ | ⟨rfl, y0, y1, y2, rfl, rfl, rfl, ⟨rfl, rfl, g0⟩ | ⟨rfl, rfl, g0, g1⟩ | ⟨rfl, rfl, g0, g1, g2⟩⟩ | ⟨rfl, y0, y1, y2, y3, rfl, rfl, rfl, ⟨rfl, rfl, g0⟩ | ⟨rfl, rfl, g0, g1⟩ | ⟨rfl, rfl, g0, g1, g2⟩ | ⟨rfl, rfl, g0, g1, g2, g3⟩⟩ <;> rfl
theorem own_T10 {z y f x : Int32} {cs bs : List Value} (hT : own_T z cs y bs f x) : (255 : Int32) < x := by
  rcases hT with ⟨rfl, y0, rfl, rfl, rfl, ⟨rfl, rfl, g0⟩⟩ | ⟨rfl, y0, y1, rfl, rfl, rfl, ⟨rfl, rfl, g0⟩ | ⟨rfl, rfl, g0, g1⟩⟩ | ⟨rfl, y0, y1, y2, rfl, rfl, rfl, ⟨rfl, rfl, g0⟩ | ⟨rfl, rfl, g0, g1⟩ | ⟨rfl, rfl, g0, g1, g2⟩⟩ | ⟨rfl, y0, y1, y2, y3, rfl, rfl, rfl, ⟨rfl, rfl, g0⟩ | ⟨rfl, rfl, g0, g1⟩ | ⟨rfl, rfl, g0, g1, g2⟩ | ⟨rfl, rfl, g0, g1, g2, g3⟩⟩ <;> assumption
theorem own_T11 {z y f x : Int32} {cs bs : List Value} (hT : own_T z cs y bs f x) : ((((z - y).toUInt32 >>> ((31 : Int32) &&& 31).toUInt32).toInt32).toInt8.toInt32) = (1 : Int32) := by
  rcases hT with ⟨rfl, y0, rfl, rfl, rfl, ⟨rfl, rfl, g0⟩⟩ | ⟨rfl, y0, y1, rfl, rfl, rfl, ⟨rfl, rfl, g0⟩ | ⟨rfl, rfl, g0, g1⟩⟩ | ⟨rfl, y0, y1, y2, rfl, rfl, rfl, ⟨rfl, rfl, g0⟩ | ⟨rfl, rfl, g0, g1⟩ | ⟨rfl, rfl, g0, g1, g2⟩⟩ | ⟨rfl, y0, y1, y2, y3, rfl, rfl, rfl, ⟨rfl, rfl, g0⟩ | ⟨rfl, rfl, g0, g1⟩ | ⟨rfl, rfl, g0, g1, g2⟩ | ⟨rfl, rfl, g0, g1, g2, g3⟩⟩ <;> decide
def Q_9 (f : Int32) (vb : Addr) (h0 : Heap) (n0 : Nat) (v : Option Value) (h : Heap) (L : List Loc) : Prop := v = (some (.int f)) ∧ Fr n0 L ∧ Keep h0 h [vb]
theorem own_m9 (l : Launch) (Z : State) (a0 : Array Value) (hw : ∀ d ∈ tables_1, d.before a0 Z = true) (ws : List Jvm.Cond) (sa : Addr) (ks : ClassId) (z : Int32) (cs : List Value) (y : Int32) (bs : List Value) (f : Int32) (x : Int32) (vb : Addr) (kb : ClassId) (h0 : Heap) (n0 : Nat) (Z0 : n0 ≤ h0.size) (Vs : Arv Z h0 sa ks .char z cs (.int (0 : Int32))) (Vb : Arv Z h0 vb kb .byte z [(.int (0 : Int32)), (.int (0 : Int32)), (.int (0 : Int32)), (.int (0 : Int32))] (.int (0 : Int32))) (gv : n0 ≤ vb) (hT : own_T z cs y bs f x) :
    MetFree l (⟨"java/lang/StringUTF16", "compress", "([CI[BII)I"⟩ : MethodName) (head1 (Jvm.Cond.code (⟨"java/lang/StringUTF16", "compress", "([CI[BII)I"⟩ : MethodName) jdk_52_method_21_code 7 (some .int) :: ws) ({ frames := 0, cells := 0, slots := 0, locals := 0 } : Room)) (fun ar_ U => ar_ = #[(.ref sa), (.int (0 : Int32)), (.ref vb), (.int (0 : Int32)), (.int z)] ∧ Z.Warmed39 U.vm ∧ U.heap = h0) (fun _ _ _ _ _ => True) (fun _ U o U' => ∃ v L, o = .returned v ∧ Q_9 f vb h0 n0 v U'.heap L ∧ FrameEnd U o U' L ({ frames := 0, cells := 0, slots := 0, locals := 0 } : Room).cells ({ frames := 0, cells := 0, slots := 0, locals := 0 } : Room).slots) := by
  rcases hT with ⟨rfl, y0, rfl, rfl, rfl, hf⟩ | ⟨rfl, y0, y1, rfl, rfl, rfl, hf⟩ | ⟨rfl, y0, y1, y2, rfl, rfl, rfl, hf⟩ | ⟨rfl, y0, y1, y2, y3, rfl, rfl, rfl, hf⟩
  · rcases hf with ⟨rfl, rfl, g0⟩
    · exact m9_0 l Z a0 hw ws (1 : Int32) sa ks _ vb kb _ _ h0 n0 Z0 Vs Vb gv (by decide) rfl g0
  · rcases hf with ⟨rfl, rfl, g0⟩ | ⟨rfl, rfl, g0, g1⟩
    · exact m9_0 l Z a0 hw ws (2 : Int32) sa ks _ vb kb _ _ h0 n0 Z0 Vs Vb gv (by decide) rfl g0
    · exact m9_1 l Z a0 hw ws (2 : Int32) sa ks _ vb kb _ _ _ h0 n0 Z0 Vs Vb gv (by decide) (by decide) rfl rfl (by simp) g0 g1
  · rcases hf with ⟨rfl, rfl, g0⟩ | ⟨rfl, rfl, g0, g1⟩ | ⟨rfl, rfl, g0, g1, g2⟩
    · exact m9_0 l Z a0 hw ws (3 : Int32) sa ks _ vb kb _ _ h0 n0 Z0 Vs Vb gv (by decide) rfl g0
    · exact m9_1 l Z a0 hw ws (3 : Int32) sa ks _ vb kb _ _ _ h0 n0 Z0 Vs Vb gv (by decide) (by decide) rfl rfl (by simp) g0 g1
    · exact m9_2 l Z a0 hw ws (3 : Int32) sa ks _ vb kb _ _ _ _ h0 n0 Z0 Vs Vb gv (by decide) (by decide) (by decide) rfl rfl rfl (by simp) (by simp) g0 g1 g2
  · rcases hf with ⟨rfl, rfl, g0⟩ | ⟨rfl, rfl, g0, g1⟩ | ⟨rfl, rfl, g0, g1, g2⟩ | ⟨rfl, rfl, g0, g1, g2, g3⟩
    · exact m9_0 l Z a0 hw ws (4 : Int32) sa ks _ vb kb _ _ h0 n0 Z0 Vs Vb gv (by decide) rfl g0
    · exact m9_1 l Z a0 hw ws (4 : Int32) sa ks _ vb kb _ _ _ h0 n0 Z0 Vs Vb gv (by decide) (by decide) rfl rfl (by simp) g0 g1
    · exact m9_2 l Z a0 hw ws (4 : Int32) sa ks _ vb kb _ _ _ _ h0 n0 Z0 Vs Vb gv (by decide) (by decide) (by decide) rfl rfl rfl (by simp) (by simp) g0 g1 g2
    · exact m9_3 l Z a0 hw ws (4 : Int32) sa ks _ vb kb _ _ _ _ _ h0 n0 Z0 Vs Vb gv (by decide) (by decide) (by decide) (by decide) rfl rfl rfl rfl (by simp) (by simp) (by simp) g0 g1 g2 g3
def Q_17 (Z : State) (y : Int32) (bs : List Value) (h0 : Heap) (n0 : Nat) (v : Option Value) (h : Heap) (L : List Loc) : Prop := ∃ (t : Addr) (kt : ClassId), v = (some (.ref t)) ∧ Fr n0 L ∧ Keep h0 h [] ∧ Arv Z h t kt .byte y bs (.int (0 : Int32)) ∧ h0.size ≤ t
theorem own_m17 (l : Launch) (Z : State) (a0 : Array Value) (hw : ∀ d ∈ tables_1, d.before a0 Z = true) (ws : List Jvm.Cond) (sa : Addr) (ks : ClassId) (z : Int32) (cs : List Value) (y : Int32) (bs : List Value) (f : Int32) (x : Int32) (h0 : Heap) (n0 : Nat) (Z0 : n0 ≤ h0.size) (Vs : Arv Z h0 sa ks .char z cs (.int (0 : Int32))) (S_AD : Sta Z h0 "java/lang/StringUTF16" "$assertionsDisabled" "Z" (.int (1 : Int32))) (S_HI : Sta Z h0 "java/lang/StringUTF16" "HI_BYTE_SHIFT" "I" (.int (0 : Int32))) (S_LO : Sta Z h0 "java/lang/StringUTF16" "LO_BYTE_SHIFT" "I" (.int (8 : Int32))) (hT : own_T z cs y bs f x) :
    MetFree l (⟨"java/lang/StringUTF16", "toBytes", "([CII)[B"⟩ : MethodName) (head1 (Jvm.Cond.code (⟨"java/lang/StringUTF16", "toBytes", "([CII)[B"⟩ : MethodName) jdk_52_method_14_code 5 (some (.array .byte)) :: ws) ({ frames := 2, cells := 1, slots := 8, locals := 24 } : Room)) (fun ar_ U => ar_ = #[(.ref sa), (.int (0 : Int32)), (.int z)] ∧ Z.Warmed39 U.vm ∧ U.heap = h0) (fun _ _ _ _ _ => True) (fun _ U o U' => ∃ v L, o = .returned v ∧ Q_17 Z y bs h0 n0 v U'.heap L ∧ FrameEnd U o U' L ({ frames := 2, cells := 1, slots := 8, locals := 24 } : Room).cells ({ frames := 2, cells := 1, slots := 8, locals := 24 } : Room).slots) := by
  rcases hT with ⟨rfl, y0, rfl, rfl, rfl, hf⟩ | ⟨rfl, y0, y1, rfl, rfl, rfl, hf⟩ | ⟨rfl, y0, y1, y2, rfl, rfl, rfl, hf⟩ | ⟨rfl, y0, y1, y2, y3, rfl, rfl, rfl, hf⟩
  · exact m17_1 l Z a0 hw ws sa ks y0 h0 n0 Z0 Vs S_AD S_HI S_LO
  · exact m17_2 l Z a0 hw ws sa ks y0 y1 h0 n0 Z0 Vs S_AD S_HI S_LO
  · exact m17_3 l Z a0 hw ws sa ks y0 y1 y2 h0 n0 Z0 Vs S_AD S_HI S_LO
  · exact m17_4 l Z a0 hw ws sa ks y0 y1 y2 y3 h0 n0 Z0 Vs S_AD S_HI S_LO
theorem pdx___CI_BII_I : parseMethodDescriptor "([CI[BII)I" = some ⟨[(.array .char), .int, (.array .byte), .int, .int], some .int⟩ := by decide +kernel
theorem pdx___CII__B : parseMethodDescriptor "([CII)[B" = some ⟨[(.array .char), .int, .int], some (.array .byte)⟩ := by decide +kernel
theorem pdx___BI_C : parseMethodDescriptor "([BI)C" = some ⟨[(.array .byte), .int], some .char⟩ := by decide +kernel
theorem d8_0 : decode jdk_52_method_16_code 0 = .ok (.iload_n 2, 1) := by decide +kernel
theorem d8_1 : decode jdk_52_method_16_code 1 = .ok (.newarray .byte, 2) := by decide +kernel
theorem d8_3 : decode jdk_52_method_16_code 3 = .ok (.astore_n 3, 1) := by decide +kernel
theorem d8_4 : decode jdk_52_method_16_code 4 = .ok (.aload_n 0, 1) := by decide +kernel
theorem d8_5 : decode jdk_52_method_16_code 5 = .ok (.iload_n 1, 1) := by decide +kernel
theorem d8_6 : decode jdk_52_method_16_code 6 = .ok (.aload_n 3, 1) := by decide +kernel
theorem d8_7 : decode jdk_52_method_16_code 7 = .ok (.iconst 0, 1) := by decide +kernel
theorem d8_8 : decode jdk_52_method_16_code 8 = .ok (.iload_n 2, 1) := by decide +kernel
theorem d8_9 : decode jdk_52_method_16_code 9 = .ok (.invokestatic 115, 3) := by decide +kernel
theorem d8_12 : decode jdk_52_method_16_code 12 = .ok (.istore 4, 2) := by decide +kernel
theorem d8_14 : decode jdk_52_method_16_code 14 = .ok (.iload 4, 2) := by decide +kernel
theorem d8_16 : decode jdk_52_method_16_code 16 = .ok (.iload_n 2, 1) := by decide +kernel
theorem d8_17 : decode jdk_52_method_16_code 17 = .ok (.if_icmp .eq 40, 3) := by decide +kernel
theorem d8_20 : decode jdk_52_method_16_code 20 = .ok (.aload_n 0, 1) := by decide +kernel
theorem d8_21 : decode jdk_52_method_16_code 21 = .ok (.iload_n 1, 1) := by decide +kernel
theorem d8_22 : decode jdk_52_method_16_code 22 = .ok (.iload_n 2, 1) := by decide +kernel
theorem d8_23 : decode jdk_52_method_16_code 23 = .ok (.invokestatic 119, 3) := by decide +kernel
theorem d8_26 : decode jdk_52_method_16_code 26 = .ok (.astore 5, 2) := by decide +kernel
theorem d8_28 : decode jdk_52_method_16_code 28 = .ok (.aload 5, 2) := by decide +kernel
theorem d8_30 : decode jdk_52_method_16_code 30 = .ok (.iload 4, 2) := by decide +kernel
theorem d8_32 : decode jdk_52_method_16_code 32 = .ok (.invokestatic 71, 3) := by decide +kernel
theorem d8_35 : decode jdk_52_method_16_code 35 = .ok (.sipush 255, 3) := by decide +kernel
theorem d8_38 : decode jdk_52_method_16_code 38 = .ok (.if_icmp .gt 16, 3) := by decide +kernel
theorem d8_54 : decode jdk_52_method_16_code 54 = .ok (.aload 5, 2) := by decide +kernel
theorem d8_56 : decode jdk_52_method_16_code 56 = .ok (.areturn, 1) := by decide +kernel
def Q_m8 (Z : State) (sa : Addr) (ks : ClassId) (z : Int32) (cs : List Value) (y : Int32) (bs : List Value) (f : Int32) (x : Int32) (h0 : Heap) (n0 : Nat) (v : Option Value) (h : Heap) (L : List Loc) : Prop := ∃ (t : Addr) (kt : ClassId), v = (some (.ref t)) ∧ Fr n0 L ∧ Keep h0 h [] ∧ Arv Z h t kt .byte y bs (.int (0 : Int32)) ∧ h0.size ≤ t
theorem ef_m8 (m : MethodId) (sa : Addr) (ks : ClassId) (z : Int32) (cs : List Value) (y : Int32) (bs : List Value) (f : Int32) (x : Int32) : entryFrame m #[(.ref sa), (.int (0 : Int32)), (.int z)] 6 = mkF m 0 #[.val (.ref sa), .val (.int (0 : Int32)), .val (.int z), .unset, .unset, .unset] [] := by first | (simp [entryFrame, mkF, argsToLocals, Value.category]; done) | rfl
set_option maxRecDepth 65536 in
set_option maxHeartbeats 40000000 in
theorem m8 (l : Launch) (Z : State) (a0 : Array Value) (hw : ∀ d ∈ tables_1, d.before a0 Z = true) (ws : List Jvm.Cond) (sa : Addr) (ks : ClassId) (z : Int32) (cs : List Value) (y : Int32) (bs : List Value) (f : Int32) (x : Int32) (h0 : Heap) (n0 : Nat) (Z0 : n0 ≤ h0.size) (Vs : Arv Z h0 sa ks .char z cs (.int (0 : Int32))) (S_AD : Sta Z h0 "java/lang/StringUTF16" "$assertionsDisabled" "Z" (.int (1 : Int32))) (S_HI : Sta Z h0 "java/lang/StringUTF16" "HI_BYTE_SHIFT" "I" (.int (0 : Int32))) (S_LO : Sta Z h0 "java/lang/StringUTF16" "LO_BYTE_SHIFT" "I" (.int (8 : Int32))) (hT : own_T z cs y bs f x) (hu : own_u (own_b0 x) (own_b1 x) = x) :
    MetFree l (⟨"java/lang/StringUTF16", "compress", "([CII)[B"⟩ : MethodName) (head1 (Jvm.Cond.code (⟨"java/lang/StringUTF16", "compress", "([CII)[B"⟩ : MethodName) jdk_52_method_16_code 6 (some (.array .byte)) :: ws) ({ frames := 3, cells := 2, slots := 12, locals := 40 } : Room)) (fun ar_ U => ar_ = #[(.ref sa), (.int (0 : Int32)), (.int z)] ∧ Z.Warmed39 U.vm ∧ U.heap = h0) (fun _ _ _ _ _ => True) (fun _ U o U' => ∃ v L, o = .returned v ∧ Q_m8 Z sa ks z cs y bs f x h0 n0 v U'.heap L ∧ FrameEnd U o U' L ({ frames := 3, cells := 2, slots := 12, locals := 40 } : Room).cells ({ frames := 3, cells := 2, slots := 12, locals := 40 } : Room).slots) := by
  refine MetFree.of_bodySF (plainFor_of_name pnx_java_lang_StringUTF16) hisR ?_
  intro p e s m args below meth c s₁ Bd hml0 hP hK
  obtain ⟨rfl, hZ, hh⟩ := hP
  have hx := Bd.exec
  have hby := Bd.bytes
  have hml : c.maxLocals = 6 := hml0
  have hown : s.vm.findClass "java/lang/StringUTF16" = some m.cls := findClass_of_methodNamed Bd.named
  have hnm := (name_of_methodNamed Bd.named Bd.method).1
  have X0 : Stand p l e ({ frames := 3, cells := 2, slots := 12, locals := 40 } : Room) s m #[(.ref sa), (.int (0 : Int32)), (.int z)] below meth c s₁ [] 0 0 := Stand.of_body Bd
  have e0 : s₁.heap = h0 := by rw [← hh, Bd.state]; rfl
  have N0 := Fr.nil n0
  have pre0 : ∀ tq_, Steps p.tables e below (s₁.setTop (mkF m 0 #[.val (.ref sa), .val (.int (0 : Int32)), .val (.int z), .unset, .unset, .unset] [])) tq_ → Steps p.tables e below (s₁.setTop (entryFrame m #[(.ref sa), (.int (0 : Int32)), (.int z)] 6)) tq_ := fun tq_ kt_ => castTop (ef_m8 m sa ks z cs y bs f x ) kt_
  obtain ⟨T1, h1, k1, X1, e1, E1, A1, st1⟩ := newP X0 hx hZ (wk hw 21 rfl) e0 (g := (mkF m 1 #[.val (.ref sa), .val (.int (0 : Int32)), .val (.int z), .unset, .unset, .unset] [(.int z)])) rfl (hb hby d8_1) rfl (own_T1 hT) (cap := 4) (own_T2 hT) (by decide) (nle rfl) (nle rfl)
  obtain ⟨b1, g1⟩ : ∃ z, z = h0.size := ⟨_, rfl⟩
  rw [← g1] at A1 st1
  have V1 : Arv Z h1 b1 k1 .byte z [] (.int (0 : Int32)) := Arv.new A1 (own_T1 hT)
  have sz_b1 : h0.size ≤ b1 := (Nat.le_of_eq g1.symm)
  have ge_b1 : n0 ≤ b1 := Nat.le_trans Z0 sz_b1
  have ne_2 : sa ≠ b1 := Nat.ne_of_lt (Nat.lt_of_lt_of_le Vs.lt (Nat.le_of_eq g1.symm))
  have K3 : Keep h0 h1 [] := (Keep.refl h0 []).ext E1
  have V4 : Arv Z h1 b1 k1 .byte z [(.int (0 : Int32)), (.int (0 : Int32)), (.int (0 : Int32)), (.int (0 : Int32))] (.int (0 : Int32)) := V1.pad (pad_rep [] (.int (0 : Int32)) 4)
  have F6 := (Vs.ext E1)
  obtain ⟨_, _, ⟨T5, L5, kk5, nn5⟩, -, X5, ⟨Lc5, hQ5, l5, y5, z5⟩, st5⟩ := Jvm.LawKit.callS X1 hx (y := (⟨"java/lang/StringUTF16", "compress", "([CI[BII)I"⟩ : MethodName)) hown (mvT hZ (wk hw 47 rfl)) (mvT hZ (wk hw 48 rfl)) (mvT hZ (wk hw 45 rfl)) (mvT hZ (wk hw 49 rfl)) (by decide) (backOf (W := 0) (own_m9 l Z a0 hw [] sa ks z cs y bs f x b1 k1 h1 n0 (Nat.le_trans Z0 K3.1) F6 V4 ge_b1 hT) hZ (wk hw 49 rfl) (wk hw 45 rfl) (by decide) (by decide)) (g := (mkF m 9 #[.val (.ref sa), .val (.int (0 : Int32)), .val (.int z), .val (.ref b1), .unset, .unset] [(.int z), (.int (0 : Int32)), (.ref b1), (.int (0 : Int32)), (.ref sa)])) rfl (by rw [hml]; rfl) (argsL := [(.ref sa), (.int (0 : Int32)), (.ref b1), (.int (0 : Int32)), (.int z)]) (rest := []) (lenOf pdx___CI_BII_I rfl) rfl (by show 2 * 0 + _ ≤ _; exact Nat.le_of_eq rfl) (hb hby d8_9) (fun _ _ => ⟨rfl, e1, nle rfl, nle rfl⟩)
  dsimp only [Pt.U, Pt.locs, Pt.cells, Pt.slots] at X5 l5 y5 z5 st5 hQ5
  subst l5 y5 z5
  obtain ⟨rfl, Nq5, Kq5⟩ := hQ5
  have N5 := Fr.app N0 Nq5
  obtain ⟨h5, e5⟩ : ∃ h, T5.heap = h := ⟨_, rfl⟩
  rw [e5] at Kq5
  have ns5 := (nsS V4.nostat ns0)
  have K7 : Keep h0 h5 [] := K3.trans Kq5 (own_mS (Or.inr sz_b1) own_m0)
  have F9 := (F6.keep Kq5 (own_nm ne_2 own_n0))
  have F10 := (own_staK (S_AD.ext E1) Kq5 ns5)
  have F11 := (own_staK (S_HI.ext E1) Kq5 ns5)
  have F12 := (own_staK (S_LO.ext E1) Kq5 ns5)
  obtain ⟨_, _, ⟨T8, L8, kk8, nn8⟩, -, X8, ⟨Lc8, hQ8, l8, y8, z8⟩, st8⟩ := Jvm.LawKit.callS X5 hx (y := (⟨"java/lang/StringUTF16", "toBytes", "([CII)[B"⟩ : MethodName)) hown (mvT hZ (wk hw 78 rfl)) (mvT hZ (wk hw 79 rfl)) (mvT hZ (wk hw 45 rfl)) (mvT hZ (wk hw 80 rfl)) (by decide) (backOf (W := 0) (own_m17 l Z a0 hw [] sa ks z cs y bs f x h5 n0 (Nat.le_trans Z0 K7.1) F9 F10 F11 F12 hT) hZ (wk hw 80 rfl) (wk hw 45 rfl) (by decide) (by decide)) (g := (mkF m 23 #[.val (.ref sa), .val (.int (0 : Int32)), .val (.int z), .val (.ref b1), .val (.int f), .unset] [(.int z), (.int (0 : Int32)), (.ref sa)])) rfl (by rw [hml]; rfl) (argsL := [(.ref sa), (.int (0 : Int32)), (.int z)]) (rest := []) (lenOf pdx___CII__B rfl) rfl (by show 2 * 0 + _ ≤ _; exact Nat.le_of_eq rfl) (hb hby d8_23) (fun _ _ => ⟨rfl, e5, nle rfl, nle rfl⟩)
  dsimp only [Pt.U, Pt.locs, Pt.cells, Pt.slots] at X8 l8 y8 z8 st8 hQ8
  subst l8 y8 z8
  obtain ⟨t_8, kt_8, rfl, Nq8, Kq8, P8_0, P8_1⟩ := hQ8
  have N8 := Fr.app N5 Nq8
  obtain ⟨h8, e8⟩ : ∃ h, T8.heap = h := ⟨_, rfl⟩
  rw [e8] at Kq8 P8_0
  have sz_t_8 : h0.size ≤ t_8 := Nat.le_trans K7.1 P8_1
  have ge_t_8 : n0 ≤ t_8 := Nat.le_trans Z0 sz_t_8
  have ne_13 : sa ≠ t_8 := Nat.ne_of_lt (Nat.lt_of_lt_of_le F9.lt P8_1)
  have K14 : Keep h0 h8 [] := K7.trans Kq8 own_m0
  have F16 := (own_staK F10 Kq8 ns0)
  have F17 := (own_staK F11 Kq8 ns0)
  have F18 := (own_staK F12 Kq8 ns0)
  obtain ⟨_, _, ⟨T15, L15, kk15, nn15⟩, -, X15, ⟨Lc15, hQ15, l15, y15, z15⟩, st15⟩ := Jvm.LawKit.callS X8 hx (y := (⟨"java/lang/StringUTF16", "getChar", "([BI)C"⟩ : MethodName)) hown (mvT hZ (wk hw 94 rfl)) (mvT hZ (wk hw 95 rfl)) (mvT hZ (wk hw 45 rfl)) (mvT hZ (wk hw 96 rfl)) (by decide) (backOf (W := 0) (m21 l Z a0 hw [] t_8 kt_8 y bs f (own_b0 x) (own_b1 x) h8 n0 (Nat.le_trans Z0 K14.1) P8_0 F16 F17 F18 (own_T4 hT) (own_T5 hT) (own_T6 hT) (own_T7 hT) (own_T8 hT) (own_T9 hT)) hZ (wk hw 96 rfl) (wk hw 45 rfl) (by decide) (by decide)) (g := (mkF m 32 #[.val (.ref sa), .val (.int (0 : Int32)), .val (.int z), .val (.ref b1), .val (.int f), .val (.ref t_8)] [(.int f), (.ref t_8)])) rfl (by rw [hml]; rfl) (argsL := [(.ref t_8), (.int f)]) (rest := []) (lenOf pdx___BI_C rfl) rfl (by show 2 * 0 + _ ≤ _; exact Nat.le_of_eq rfl) (hb hby d8_32) (fun _ _ => ⟨rfl, e8, nle rfl, nle rfl⟩)
  dsimp only [Pt.U, Pt.locs, Pt.cells, Pt.slots] at X15 l15 y15 z15 st15 hQ15
  subst l15 y15 z15
  obtain ⟨rfl, Nq15, e15⟩ := hQ15
  have N15 := Fr.app N8 Nq15
  obtain ⟨fs, hr, hrun, hended, hW, hsame⟩ := X15.leave (v := some (.ref t_8)) (fun h => by rw [Bd.returns] at h; cases h)
  refine ⟨_, _, pre0 _ ?_, hrun, hended, _, _, rfl, ?_, ⟨_, rfl⟩, hW, hsame.mono (nle rfl) (nle rfl)⟩
  · show Steps p.tables e below (s₁.setTop (mkF m 0 #[.val (.ref sa), .val (.int (0 : Int32)), .val (.int z), .unset, .unset, .unset] [])) _
    refine XS.iloadN X0.here hx rfl (hb hby d8_0) rfl ?_
    show Steps p.tables e below (s₁.setTop (mkF m 1 #[.val (.ref sa), .val (.int (0 : Int32)), .val (.int z), .unset, .unset, .unset] [(.int z)])) _
    refine st1 _ ?_
    show Steps p.tables e below (T1.setTop (mkF m 3 #[.val (.ref sa), .val (.int (0 : Int32)), .val (.int z), .unset, .unset, .unset] [(.ref b1)])) _
    refine XS.astoreN X1.here hx rfl (hb hby d8_3) rfl rfl (l' := #[.val (.ref sa), .val (.int (0 : Int32)), .val (.int z), .val (.ref b1), .unset, .unset]) rfl ?_
    show Steps p.tables e below (T1.setTop (mkF m 4 #[.val (.ref sa), .val (.int (0 : Int32)), .val (.int z), .val (.ref b1), .unset, .unset] [])) _
    show Steps p.tables e below (T1.setTop (mkF m 4 #[.val (.ref sa), .val (.int (0 : Int32)), .val (.int z), .val (.ref b1), .unset, .unset] [])) _
    refine XS.aloadN X1.here hx rfl (hb hby d8_4) rfl rfl ?_
    refine XS.iloadN X1.here hx rfl (hb hby d8_5) rfl ?_
    show Steps p.tables e below (T1.setTop (mkF m 6 #[.val (.ref sa), .val (.int (0 : Int32)), .val (.int z), .val (.ref b1), .unset, .unset] [(.int (0 : Int32)), (.ref sa)])) _
    refine XS.aloadN X1.here hx rfl (hb hby d8_6) rfl rfl ?_
    refine XS.iconst X1.here hx rfl (hb hby d8_7) ?_
    show Steps p.tables e below (T1.setTop (mkF m 8 #[.val (.ref sa), .val (.int (0 : Int32)), .val (.int z), .val (.ref b1), .unset, .unset] [(.int (0 : Int32)), (.ref b1), (.int (0 : Int32)), (.ref sa)])) _
    refine XS.iloadN X1.here hx rfl (hb hby d8_8) rfl ?_
    show Steps p.tables e below (T1.setTop (mkF m 9 #[.val (.ref sa), .val (.int (0 : Int32)), .val (.int z), .val (.ref b1), .unset, .unset] [(.int z), (.int (0 : Int32)), (.ref b1), (.int (0 : Int32)), (.ref sa)])) _
    refine st5 _ ?_
    show Steps p.tables e below (T5.setTop (mkF m 12 #[.val (.ref sa), .val (.int (0 : Int32)), .val (.int z), .val (.ref b1), .unset, .unset] [(.int f)])) _
    refine XS.istore X5.here hx rfl (hb hby d8_12) rfl (l' := #[.val (.ref sa), .val (.int (0 : Int32)), .val (.int z), .val (.ref b1), .val (.int f), .unset]) rfl ?_
    refine XS.iload X5.here hx rfl (hb hby d8_14) rfl ?_
    show Steps p.tables e below (T5.setTop (mkF m 16 #[.val (.ref sa), .val (.int (0 : Int32)), .val (.int z), .val (.ref b1), .val (.int f), .unset] [(.int f)])) _
    refine XS.iloadN X5.here hx rfl (hb hby d8_16) rfl ?_
    show Steps p.tables e below (T5.setTop (mkF m 17 #[.val (.ref sa), .val (.int (0 : Int32)), .val (.int z), .val (.ref b1), .val (.int f), .unset] [(.int z), (.int f)])) _
    refine XS.icmpNo X5.here hx rfl (hb hby d8_17) rfl (feq ((own_T3 hT) : ¬ (f = z))).1 ?_
    show Steps p.tables e below (T5.setTop (mkF m 20 #[.val (.ref sa), .val (.int (0 : Int32)), .val (.int z), .val (.ref b1), .val (.int f), .unset] [])) _
    refine XS.aloadN X5.here hx rfl (hb hby d8_20) rfl rfl ?_
    refine XS.iloadN X5.here hx rfl (hb hby d8_21) rfl ?_
    show Steps p.tables e below (T5.setTop (mkF m 22 #[.val (.ref sa), .val (.int (0 : Int32)), .val (.int z), .val (.ref b1), .val (.int f), .unset] [(.int (0 : Int32)), (.ref sa)])) _
    refine XS.iloadN X5.here hx rfl (hb hby d8_22) rfl ?_
    show Steps p.tables e below (T5.setTop (mkF m 23 #[.val (.ref sa), .val (.int (0 : Int32)), .val (.int z), .val (.ref b1), .val (.int f), .unset] [(.int z), (.int (0 : Int32)), (.ref sa)])) _
    refine st8 _ ?_
    show Steps p.tables e below (T8.setTop (mkF m 26 #[.val (.ref sa), .val (.int (0 : Int32)), .val (.int z), .val (.ref b1), .val (.int f), .unset] [(.ref t_8)])) _
    refine XS.astore X8.here hx rfl (hb hby d8_26) rfl rfl (l' := #[.val (.ref sa), .val (.int (0 : Int32)), .val (.int z), .val (.ref b1), .val (.int f), .val (.ref t_8)]) rfl ?_
    refine XS.aload X8.here hx rfl (hb hby d8_28) rfl rfl ?_
    show Steps p.tables e below (T8.setTop (mkF m 30 #[.val (.ref sa), .val (.int (0 : Int32)), .val (.int z), .val (.ref b1), .val (.int f), .val (.ref t_8)] [(.ref t_8)])) _
    refine XS.iload X8.here hx rfl (hb hby d8_30) rfl ?_
    show Steps p.tables e below (T8.setTop (mkF m 32 #[.val (.ref sa), .val (.int (0 : Int32)), .val (.int z), .val (.ref b1), .val (.int f), .val (.ref t_8)] [(.int f), (.ref t_8)])) _
    refine st15 _ ?_
    show Steps p.tables e below (T15.setTop (mkF m 35 #[.val (.ref sa), .val (.int (0 : Int32)), .val (.int z), .val (.ref b1), .val (.int f), .val (.ref t_8)] [(.int (own_u (own_b0 x) (own_b1 x)))])) _
    refine XS.sipush X15.here hx rfl (hb hby d8_35) ?_
    show Steps p.tables e below (T15.setTop (mkF m 38 #[.val (.ref sa), .val (.int (0 : Int32)), .val (.int z), .val (.ref b1), .val (.int f), .val (.ref t_8)] [(.int (255 : Int32)), (.int (own_u (own_b0 x) (own_b1 x)))])) _
    refine XS.icmpYes X15.here hx rfl (pc0 := 38) (pc' := 54) rfl (hb hby d8_38) rfl (tlt ((by rw [hu]; exact own_T10 hT) : (255 : Int32) < (own_u (own_b0 x) (own_b1 x)))).2.2.1 (by decide) (by decide) ?_
    show Steps p.tables e below (T15.setTop (mkF m 54 #[.val (.ref sa), .val (.int (0 : Int32)), .val (.int z), .val (.ref b1), .val (.int f), .val (.ref t_8)] [])) _
    refine XS.aload X15.here hx rfl (hb hby d8_54) rfl rfl ?_
    show Steps p.tables e below (T15.setTop (mkF m 56 #[.val (.ref sa), .val (.int (0 : Int32)), .val (.int z), .val (.ref b1), .val (.int f), .val (.ref t_8)] [(.ref t_8)])) _
    exact X15.areturnOut hx rfl Bd.returns rfl (hb hby d8_56) hr
  · show Q_m8 Z sa ks z cs y bs f x h0 n0 _ T15.heap _
    rw [e15]
    exact ⟨t_8, kt_8, rfl, N15, K14, P8_0, sz_t_8⟩
theorem d10_0 : decode jdk_52_method_15_code 0 = .ok (.iload_n 1, 1) := by decide +kernel
theorem d10_1 : decode jdk_52_method_15_code 1 = .ok (.aload_n 0, 1) := by decide +kernel
theorem d10_2 : decode jdk_52_method_15_code 2 = .ok (.arraylength, 1) := by decide +kernel
theorem d10_3 : decode jdk_52_method_15_code 3 = .ok (.isub, 1) := by decide +kernel
theorem d10_4 : decode jdk_52_method_15_code 4 = .ok (.bipush 31, 2) := by decide +kernel
theorem d10_6 : decode jdk_52_method_15_code 6 = .ok (.iushr, 1) := by decide +kernel
theorem d10_7 : decode jdk_52_method_15_code 7 = .ok (.i2b, 1) := by decide +kernel
theorem d10_8 : decode jdk_52_method_15_code 8 = .ok (.ireturn, 1) := by decide +kernel
def Q_m10 (Z : State) (t : Addr) (kt : ClassId) (z : Int32) (y : Int32) (vs : List Value) (h0 : Heap) (n0 : Nat) (v : Option Value) (h : Heap) (L : List Loc) : Prop := v = (some (.int (1 : Int32))) ∧ Fr n0 L ∧ h = h0
theorem ef_m10 (m : MethodId) (t : Addr) (kt : ClassId) (z : Int32) (y : Int32) (vs : List Value) : entryFrame m #[(.ref t), (.int z)] 2 = mkF m 0 #[.val (.ref t), .val (.int z)] [] := by first | (simp [entryFrame, mkF, argsToLocals, Value.category]; done) | rfl
set_option maxRecDepth 65536 in
set_option maxHeartbeats 40000000 in
theorem m10 (l : Launch) (Z : State) (a0 : Array Value) (hw : ∀ d ∈ tables_1, d.before a0 Z = true) (ws : List Jvm.Cond) (t : Addr) (kt : ClassId) (z : Int32) (y : Int32) (vs : List Value) (h0 : Heap) (n0 : Nat) (Z0 : n0 ≤ h0.size) (Vt : Arv Z h0 t kt .byte y vs (.int (0 : Int32))) (hc : ((((z - y).toUInt32 >>> ((31 : Int32) &&& 31).toUInt32).toInt32).toInt8.toInt32) = (1 : Int32)) :
    MetFree l (⟨"java/lang/StringUTF16", "coderFromArrayLen", "([BI)B"⟩ : MethodName) (head1 (Jvm.Cond.code (⟨"java/lang/StringUTF16", "coderFromArrayLen", "([BI)B"⟩ : MethodName) jdk_52_method_15_code 2 (some .byte) :: ws) ({ frames := 0, cells := 0, slots := 0, locals := 0 } : Room)) (fun ar_ U => ar_ = #[(.ref t), (.int z)] ∧ Z.Warmed39 U.vm ∧ U.heap = h0) (fun _ _ _ _ _ => True) (fun _ U o U' => ∃ v L, o = .returned v ∧ Q_m10 Z t kt z y vs h0 n0 v U'.heap L ∧ FrameEnd U o U' L ({ frames := 0, cells := 0, slots := 0, locals := 0 } : Room).cells ({ frames := 0, cells := 0, slots := 0, locals := 0 } : Room).slots) := by
  refine MetFree.of_bodySF (plainFor_of_name pnx_java_lang_StringUTF16) hisR ?_
  intro p e s m args below meth c s₁ Bd hml0 hP hK
  obtain ⟨rfl, hZ, hh⟩ := hP
  have hx := Bd.exec
  have hby := Bd.bytes
  have hml : c.maxLocals = 2 := hml0
  have hown : s.vm.findClass "java/lang/StringUTF16" = some m.cls := findClass_of_methodNamed Bd.named
  have hnm := (name_of_methodNamed Bd.named Bd.method).1
  have X0 : Stand p l e ({ frames := 0, cells := 0, slots := 0, locals := 0 } : Room) s m #[(.ref t), (.int z)] below meth c s₁ [] 0 0 := Stand.of_body Bd
  have e0 : s₁.heap = h0 := by rw [← hh, Bd.state]; rfl
  have N0 := Fr.nil n0
  have pre0 : ∀ tq_, Steps p.tables e below (s₁.setTop (mkF m 0 #[.val (.ref t), .val (.int z)] [])) tq_ → Steps p.tables e below (s₁.setTop (entryFrame m #[(.ref t), (.int z)] 2)) tq_ := fun tq_ kt_ => castTop (ef_m10 m t kt z y vs ) kt_
  obtain ⟨c1, Ar1, -, Sz1, Nz1, -⟩ := id Vt
  obtain ⟨fs, hr, hrun, hended, hW, hsame⟩ := X0.leave (v := some (.int (1 : Int32))) (fun h => by rw [Bd.returns] at h; cases h)
  refine ⟨_, _, pre0 _ ?_, hrun, hended, _, _, rfl, ?_, ⟨_, rfl⟩, hW, hsame.mono (nle rfl) (nle rfl)⟩
  · show Steps p.tables e below (s₁.setTop (mkF m 0 #[.val (.ref t), .val (.int z)] [])) _
    refine XS.iloadN X0.here hx rfl (hb hby d10_0) rfl ?_
    refine XS.aloadN X0.here hx rfl (hb hby d10_1) rfl rfl ?_
    show Steps p.tables e below (s₁.setTop (mkF m 2 #[.val (.ref t), .val (.int z)] [(.ref t), (.int z)])) _
    refine X0.arraylength hx (by rw [e0]; exact Ar1.1) (State.isArrayOf_alike hZ.alike Ar1.2.1) (g := (mkF m 2 #[.val (.ref t), .val (.int z)] [(.ref t), (.int z)])) rfl rfl (hb hby d10_2) _ ?_
    rw [len_of Sz1 Nz1]
    show Steps p.tables e below (s₁.setTop (mkF m 3 #[.val (.ref t), .val (.int z)] [(.int y), (.int z)])) _
    refine XS.isub X0.here hx rfl (hb hby d10_3) rfl ?_
    refine XS.bipush X0.here hx rfl (hb hby d10_4) ?_
    show Steps p.tables e below (s₁.setTop (mkF m 6 #[.val (.ref t), .val (.int z)] [(.int (31 : Int32)), (.int (z - y))])) _
    refine XS.iushr X0.here hx rfl (hb hby d10_6) rfl ?_
    show Steps p.tables e below (s₁.setTop (mkF m 7 #[.val (.ref t), .val (.int z)] [(.int (((z - y).toUInt32 >>> ((31 : Int32) &&& 31).toUInt32).toInt32))])) _
    show Steps p.tables e below (s₁.setTop (mkF m 7 #[.val (.ref t), .val (.int z)] [(.int (((z - y).toUInt32 >>> ((31 : Int32) &&& 31).toUInt32).toInt32))])) _
    refine XS.i2b X0.here hx rfl (hb hby d10_7) rfl ?_
    show Steps p.tables e below (s₁.setTop (mkF m 8 #[.val (.ref t), .val (.int z)] [(.int ((((z - y).toUInt32 >>> ((31 : Int32) &&& 31).toUInt32).toInt32).toInt8.toInt32))])) _
    rw [hc]
    show Steps p.tables e below (s₁.setTop (mkF m 8 #[.val (.ref t), .val (.int z)] [(.int (1 : Int32))])) _
    exact own_retN X0 hx (t := .byte) rfl Bd.returns (by simp) (hb hby d10_8) hr
  · show Q_m10 Z t kt z y vs h0 n0 _ s₁.heap _
    exact ⟨rfl, N0, e0⟩
theorem pdx___BI_B : parseMethodDescriptor "([BI)B" = some ⟨[(.array .byte), .int], some .byte⟩ := by decide +kernel
theorem d3_0 : decode jdk_42_method_149_code 0 = .ok (.aload_n 0, 1) := by decide +kernel
theorem d3_1 : decode jdk_42_method_149_code 1 = .ok (.invokespecial 1, 3) := by decide +kernel
theorem d3_4 : decode jdk_42_method_149_code 4 = .ok (.iload_n 3, 1) := by decide +kernel
theorem d3_5 : decode jdk_42_method_149_code 5 = .ok (.ifCond .ne 22, 3) := by decide +kernel
theorem d3_27 : decode jdk_42_method_149_code 27 = .ok (.getstatic 38, 3) := by decide +kernel
theorem d3_30 : decode jdk_42_method_149_code 30 = .ok (.ifCond .eq 28, 3) := by decide +kernel
theorem d3_33 : decode jdk_42_method_149_code 33 = .ok (.aload_n 1, 1) := by decide +kernel
theorem d3_34 : decode jdk_42_method_149_code 34 = .ok (.iload_n 2, 1) := by decide +kernel
theorem d3_35 : decode jdk_42_method_149_code 35 = .ok (.iload_n 3, 1) := by decide +kernel
theorem d3_36 : decode jdk_42_method_149_code 36 = .ok (.invokestatic 177, 3) := by decide +kernel
theorem d3_39 : decode jdk_42_method_149_code 39 = .ok (.astore 5, 2) := by decide +kernel
theorem d3_41 : decode jdk_42_method_149_code 41 = .ok (.aload_n 0, 1) := by decide +kernel
theorem d3_42 : decode jdk_42_method_149_code 42 = .ok (.aload 5, 2) := by decide +kernel
theorem d3_44 : decode jdk_42_method_149_code 44 = .ok (.iload_n 3, 1) := by decide +kernel
theorem d3_45 : decode jdk_42_method_149_code 45 = .ok (.invokestatic 47, 3) := by decide +kernel
theorem d3_48 : decode jdk_42_method_149_code 48 = .ok (.putfield 15, 3) := by decide +kernel
theorem d3_51 : decode jdk_42_method_149_code 51 = .ok (.aload_n 0, 1) := by decide +kernel
theorem d3_52 : decode jdk_42_method_149_code 52 = .ok (.aload 5, 2) := by decide +kernel
theorem d3_54 : decode jdk_42_method_149_code 54 = .ok (.putfield 9, 3) := by decide +kernel
theorem d3_57 : decode jdk_42_method_149_code 57 = .ok (.return_, 1) := by decide +kernel
theorem pnx_java_lang_String : plainName "java/lang/String" = true := by first | (simp [plainName, overriddenIn]; done) | decide +kernel
def Q_m3u (Z : State) (a : Addr) (ua : Value) (ub : Value) (sa : Addr) (ks : ClassId) (z : Int32) (cs : List Value) (y : Int32) (bs : List Value) (f : Int32) (x : Int32) (wcs : Int32) (h0 : Heap) (n0 : Nat) (v : Option Value) (h : Heap) (L : List Loc) : Prop := ∃ (t : Addr) (kt : ClassId), v = none ∧ Fr n0 L ∧ Keep h0 h [a] ∧ Exa Z h a "java/lang/String" ∧ Fld Z h a "java/lang/String" "coder" "B" (.int (1 : Int32)) ∧ Fld Z h a "java/lang/String" "value" "[B" (.ref t) ∧ Arv Z h t kt .byte y bs (.int (0 : Int32)) ∧ h0.size ≤ t
theorem ef_m3u (m : MethodId) (a : Addr) (ua : Value) (ub : Value) (sa : Addr) (ks : ClassId) (z : Int32) (cs : List Value) (y : Int32) (bs : List Value) (f : Int32) (x : Int32) (wcs : Int32) : entryFrame m #[(.ref a), (.ref sa), (.int (0 : Int32)), (.int z), .null] 6 = mkF m 0 #[.val (.ref a), .val (.ref sa), .val (.int (0 : Int32)), .val (.int z), .val .null, .unset] [] := by first | (simp [entryFrame, mkF, argsToLocals, Value.category]; done) | rfl
set_option maxRecDepth 65536 in
set_option maxHeartbeats 40000000 in
theorem m3u (l : Launch) (Z : State) (a0 : Array Value) (hw : ∀ d ∈ tables_1, d.before a0 Z = true) (ws : List Jvm.Cond) (a : Addr) (ua : Value) (ub : Value) (sa : Addr) (ks : ClassId) (z : Int32) (cs : List Value) (y : Int32) (bs : List Value) (f : Int32) (x : Int32) (wcs : Int32) (h0 : Heap) (n0 : Nat) (Z0 : n0 ≤ h0.size) (E_a : Exa Z h0 a "java/lang/String") (Fv_a : Fld Z h0 a "java/lang/String" "value" "[B" ua) (Fc_a : Fld Z h0 a "java/lang/String" "coder" "B" ub) (ga : n0 ≤ a) (Vs : Arv Z h0 sa ks .char z cs (.int (0 : Int32))) (S_CS : Sta Z h0 "java/lang/String" "COMPACT_STRINGS" "Z" (.int wcs)) (ncs : ¬ (wcs = (0 : Int32))) (S_AD : Sta Z h0 "java/lang/StringUTF16" "$assertionsDisabled" "Z" (.int (1 : Int32))) (S_HI : Sta Z h0 "java/lang/StringUTF16" "HI_BYTE_SHIFT" "I" (.int (0 : Int32))) (S_LO : Sta Z h0 "java/lang/StringUTF16" "LO_BYTE_SHIFT" "I" (.int (8 : Int32))) (hT : own_T z cs y bs f x) (hu : own_u (own_b0 x) (own_b1 x) = x) (hz0 : ¬ (z = (0 : Int32))) :
    MetFree l (⟨"java/lang/String", "<init>", "([CIILjava/lang/Void;)V"⟩ : MethodName) (head1 (Jvm.Cond.code (⟨"java/lang/String", "<init>", "([CIILjava/lang/Void;)V"⟩ : MethodName) jdk_42_method_149_code 6 none :: ws) ({ frames := 4, cells := 2, slots := 12, locals := 57 } : Room)) (fun ar_ U => ar_ = #[(.ref a), (.ref sa), (.int (0 : Int32)), (.int z), .null] ∧ Z.Warmed39 U.vm ∧ U.heap = h0) (fun _ _ _ _ _ => True) (fun _ U o U' => ∃ v L, o = .returned v ∧ Q_m3u Z a ua ub sa ks z cs y bs f x wcs h0 n0 v U'.heap L ∧ FrameEnd U o U' L ({ frames := 4, cells := 2, slots := 12, locals := 57 } : Room).cells ({ frames := 4, cells := 2, slots := 12, locals := 57 } : Room).slots) := by
  refine MetFree.of_bodySF (plainFor_of_name pnx_java_lang_String) hisR ?_
  intro p e s m args below meth c s₁ Bd hml0 hP hK
  obtain ⟨rfl, hZ, hh⟩ := hP
  have hx := Bd.exec
  have hby := Bd.bytes
  have hml : c.maxLocals = 6 := hml0
  have hown : s.vm.findClass "java/lang/String" = some m.cls := findClass_of_methodNamed Bd.named
  have hnm := (name_of_methodNamed Bd.named Bd.method).1
  have X0 : Stand p l e ({ frames := 4, cells := 2, slots := 12, locals := 57 } : Room) s m #[(.ref a), (.ref sa), (.int (0 : Int32)), (.int z), .null] below meth c s₁ [] 0 0 := Stand.of_body Bd
  have e0 : s₁.heap = h0 := by rw [← hh, Bd.state]; rfl
  have N0 := Fr.nil n0
  have pre0 : ∀ tq_, Steps p.tables e below (s₁.setTop (mkF m 0 #[.val (.ref a), .val (.ref sa), .val (.int (0 : Int32)), .val (.int z), .val .null, .unset] [])) tq_ → Steps p.tables e below (s₁.setTop (entryFrame m #[(.ref a), (.ref sa), (.int (0 : Int32)), (.int z), .null] 6)) tq_ := fun tq_ kt_ => castTop (ef_m3u m a ua ub sa ks z cs y bs f x wcs ) kt_
  obtain ⟨T1, X1, e1, st1⟩ := initO X0 hx hZ hown (wk hw 17 rfl) (wk hw 18 rfl) (wk hw 19 rfl) e0 (g := (mkF m 1 #[.val (.ref a), .val (.ref sa), .val (.int (0 : Int32)), .val (.int z), .val .null, .unset] [(.ref a)])) rfl (by rw [hml]; rfl) rfl (hb hby d3_1) (by decide) (W := 0) (by show 2 * 0 + _ ≤ _; exact Nat.le_of_eq rfl) (by decide)
  obtain ⟨T2, X2, e2, st2⟩ := getS2 X1 hx hZ hown (host := "") (Or.inl (wk hw 42 rfl)) Via.refl e1 S_CS (g := (mkF m 27 #[.val (.ref a), .val (.ref sa), .val (.int (0 : Int32)), .val (.int z), .val .null, .unset] [])) rfl (hb hby d3_27)
  obtain ⟨_, _, ⟨T3, L3, kk3, nn3⟩, -, X3, ⟨Lc3, hQ3, l3, y3, z3⟩, st3⟩ := Jvm.LawKit.callS X2 hx (y := (⟨"java/lang/StringUTF16", "compress", "([CII)[B"⟩ : MethodName)) hown (mvT hZ (wk hw 43 rfl)) (mvT hZ (wk hw 44 rfl)) (mvT hZ (wk hw 45 rfl)) (mvT hZ (wk hw 46 rfl)) (by decide) (backOf (W := 0) (m8 l Z a0 hw [] sa ks z cs y bs f x h0 n0 Z0 Vs S_AD S_HI S_LO hT hu) hZ (wk hw 46 rfl) (wk hw 45 rfl) (by decide) (by decide)) (g := (mkF m 36 #[.val (.ref a), .val (.ref sa), .val (.int (0 : Int32)), .val (.int z), .val .null, .unset] [(.int z), (.int (0 : Int32)), (.ref sa)])) rfl (by rw [hml]; rfl) (argsL := [(.ref sa), (.int (0 : Int32)), (.int z)]) (rest := []) (lenOf pdx___CII__B rfl) rfl (by show 2 * 0 + _ ≤ _; exact Nat.le_of_eq rfl) (hb hby d3_36) (fun _ _ => ⟨rfl, e2, nle rfl, nle rfl⟩)
  dsimp only [Pt.U, Pt.locs, Pt.cells, Pt.slots] at X3 l3 y3 z3 st3 hQ3
  subst l3 y3 z3
  obtain ⟨t_3, kt_3, rfl, Nq3, Kq3, P3_0, P3_1⟩ := hQ3
  have N3 := Fr.app N0 Nq3
  obtain ⟨h3, e3⟩ : ∃ h, T3.heap = h := ⟨_, rfl⟩
  rw [e3] at Kq3 P3_0
  have sz_t_3 : h0.size ≤ t_3 := P3_1
  have ge_t_3 : n0 ≤ t_3 := Nat.le_trans Z0 sz_t_3
  have ne_4 : a ≠ t_3 := Nat.ne_of_lt (Nat.lt_of_lt_of_le E_a.lt P3_1)
  have ne_5 : sa ≠ t_3 := Nat.ne_of_lt (Nat.lt_of_lt_of_le Vs.lt P3_1)
  have K6 : Keep h0 h3 [a] := (Keep.refl h0 [a]).trans Kq3 own_m0
  obtain ⟨_, _, ⟨T7, L7, kk7, nn7⟩, -, X7, ⟨Lc7, hQ7, l7, y7, z7⟩, st7⟩ := Jvm.LawKit.callS X3 hx (y := (⟨"java/lang/StringUTF16", "coderFromArrayLen", "([BI)B"⟩ : MethodName)) hown (mvT hZ (wk hw 50 rfl)) (mvT hZ (wk hw 51 rfl)) (mvT hZ (wk hw 45 rfl)) (mvT hZ (wk hw 52 rfl)) (by decide) (backOf (W := 1) (m10 l Z a0 hw [] t_3 kt_3 z y bs h3 n0 (Nat.le_trans Z0 K6.1) P3_0 (own_T11 hT)) hZ (wk hw 52 rfl) (wk hw 45 rfl) (by decide) (by decide)) (g := (mkF m 45 #[.val (.ref a), .val (.ref sa), .val (.int (0 : Int32)), .val (.int z), .val .null, .val (.ref t_3)] [(.int z), (.ref t_3), (.ref a)])) rfl (by rw [hml]; rfl) (argsL := [(.ref t_3), (.int z)]) (rest := [(.ref a)]) (lenOf pdx___BI_B rfl) rfl (by show 2 * 0 + _ ≤ _; exact Nat.le_of_eq rfl) (hb hby d3_45) (fun _ _ => ⟨rfl, e3, nle rfl, nle rfl⟩)
  dsimp only [Pt.U, Pt.locs, Pt.cells, Pt.slots] at X7 l7 y7 z7 st7 hQ7
  subst l7 y7 z7
  obtain ⟨rfl, Nq7, e7⟩ := hQ7
  have N7 := Fr.app N3 Nq7
  have F9 := (Fc_a.keep Kq3 own_n0)
  have F10 := (E_a.keep Kq3)
  obtain ⟨T8, h8, X8, e8, W8, st8⟩ := putFN X7 hx hZ hown (wk hw 27 rfl) Via.refl e7 F9 F10 (Or.inr ⟨(wk hw 23 rfl), rfl, hnm⟩) (wk hw 7 rfl) (ty := .byte) (v' := (.int (1 : Int32))) (by decide) (by decide) (by decide) (g := (mkF m 48 #[.val (.ref a), .val (.ref sa), .val (.int (0 : Int32)), .val (.int z), .val .null, .val (.ref t_3)] [(.int (1 : Int32)), (.ref a)])) rfl rfl (hb hby d3_48)
  have Fw8 := F9.same W8
  have F12 := (Vs.keep Kq3 own_n0)
  have ne_11 : sa ≠ a := Ne.symm (Exa.neArv F10 F12 (wk hw 7 rfl))
  have K13 : Keep h0 h8 [a] := K6.wr W8 (Or.inl (by simp))
  have N8 := Fr.snoc X8 N7 ga
  have F15 := ((Fv_a.keep Kq3 own_n0).other W8 (Or.inr (slot_ne (Or.inr (wk hw 22 rfl)) (Or.inr (wk hw 23 rfl)) (by decide) (t := (.array .byte)) (t' := .byte) (by decide) (by decide))))
  have F16 := (F10.wr W8)
  obtain ⟨T14, h14, X14, e14, W14, st14⟩ := putF X8 hx hZ hown (host := "") (Or.inl (wk hw 26 rfl)) Via.refl e8 F15 F16 (Or.inr ⟨(wk hw 22 rfl), rfl, hnm⟩) (wk hw 7 rfl) (ty := (.array .byte)) (by decide) rfl rfl (g := (mkF m 54 #[.val (.ref a), .val (.ref sa), .val (.int (0 : Int32)), .val (.int z), .val .null, .val (.ref t_3)] [(.ref t_3), (.ref a)])) rfl rfl (hb hby d3_54)
  have Fw14 := F15.same W14
  have K17 : Keep h0 h14 [a] := K13.wr W14 (Or.inl (by simp))
  have N14 := Fr.snoc X14 N8 ga
  have F18 := (F16.wr W14)
  have F19 := (Fw8.other W14 (Or.inr (slot_ne (Or.inr (wk hw 23 rfl)) (Or.inr (wk hw 22 rfl)) (by decide) (t := .byte) (t' := (.array .byte)) (by decide) (by decide))))
  have F20 := ((P3_0.other W8 (Ne.symm ne_4)).other W14 (Ne.symm ne_4))
  obtain ⟨fs, hr, hrun, hended, hW, hsame⟩ := X14.leave (v := none) (fun _ => rfl)
  refine ⟨_, _, pre0 _ ?_, hrun, hended, _, _, rfl, ?_, ⟨_, rfl⟩, hW, hsame.mono (nle rfl) (nle rfl)⟩
  · show Steps p.tables e below (s₁.setTop (mkF m 0 #[.val (.ref a), .val (.ref sa), .val (.int (0 : Int32)), .val (.int z), .val .null, .unset] [])) _
    refine XS.aloadN X0.here hx rfl (hb hby d3_0) rfl rfl ?_
    show Steps p.tables e below (s₁.setTop (mkF m 1 #[.val (.ref a), .val (.ref sa), .val (.int (0 : Int32)), .val (.int z), .val .null, .unset] [(.ref a)])) _
    refine st1 _ ?_
    show Steps p.tables e below (T1.setTop (mkF m 4 #[.val (.ref a), .val (.ref sa), .val (.int (0 : Int32)), .val (.int z), .val .null, .unset] [])) _
    refine XS.iloadN X1.here hx rfl (hb hby d3_4) rfl ?_
    show Steps p.tables e below (T1.setTop (mkF m 5 #[.val (.ref a), .val (.ref sa), .val (.int (0 : Int32)), .val (.int z), .val .null, .unset] [(.int z)])) _
    refine XS.ifYes X1.here hx rfl (pc0 := 5) (pc' := 27) rfl (hb hby d3_5) rfl ((if0 _ _).trans (feq (hz0 : ¬ (z = (0 : Int32)))).2) (by decide) (by decide) ?_
    show Steps p.tables e below (T1.setTop (mkF m 27 #[.val (.ref a), .val (.ref sa), .val (.int (0 : Int32)), .val (.int z), .val .null, .unset] [])) _
    refine st2 _ ?_
    show Steps p.tables e below (T2.setTop (mkF m 30 #[.val (.ref a), .val (.ref sa), .val (.int (0 : Int32)), .val (.int z), .val .null, .unset] [(.int wcs)])) _
    refine XS.ifNo X2.here hx rfl (hb hby d3_30) rfl ((if0 _ _).trans (feq (ncs : ¬ (wcs = (0 : Int32)))).1) ?_
    show Steps p.tables e below (T2.setTop (mkF m 33 #[.val (.ref a), .val (.ref sa), .val (.int (0 : Int32)), .val (.int z), .val .null, .unset] [])) _
    refine XS.aloadN X2.here hx rfl (hb hby d3_33) rfl rfl ?_
    refine XS.iloadN X2.here hx rfl (hb hby d3_34) rfl ?_
    show Steps p.tables e below (T2.setTop (mkF m 35 #[.val (.ref a), .val (.ref sa), .val (.int (0 : Int32)), .val (.int z), .val .null, .unset] [(.int (0 : Int32)), (.ref sa)])) _
    refine XS.iloadN X2.here hx rfl (hb hby d3_35) rfl ?_
    show Steps p.tables e below (T2.setTop (mkF m 36 #[.val (.ref a), .val (.ref sa), .val (.int (0 : Int32)), .val (.int z), .val .null, .unset] [(.int z), (.int (0 : Int32)), (.ref sa)])) _
    refine st3 _ ?_
    show Steps p.tables e below (T3.setTop (mkF m 39 #[.val (.ref a), .val (.ref sa), .val (.int (0 : Int32)), .val (.int z), .val .null, .unset] [(.ref t_3)])) _
    refine XS.astore X3.here hx rfl (hb hby d3_39) rfl rfl (l' := #[.val (.ref a), .val (.ref sa), .val (.int (0 : Int32)), .val (.int z), .val .null, .val (.ref t_3)]) rfl ?_
    refine XS.aloadN X3.here hx rfl (hb hby d3_41) rfl rfl ?_
    show Steps p.tables e below (T3.setTop (mkF m 42 #[.val (.ref a), .val (.ref sa), .val (.int (0 : Int32)), .val (.int z), .val .null, .val (.ref t_3)] [(.ref a)])) _
    refine XS.aload X3.here hx rfl (hb hby d3_42) rfl rfl ?_
    refine XS.iloadN X3.here hx rfl (hb hby d3_44) rfl ?_
    show Steps p.tables e below (T3.setTop (mkF m 45 #[.val (.ref a), .val (.ref sa), .val (.int (0 : Int32)), .val (.int z), .val .null, .val (.ref t_3)] [(.int z), (.ref t_3), (.ref a)])) _
    refine st7 _ ?_
    show Steps p.tables e below (T7.setTop (mkF m 48 #[.val (.ref a), .val (.ref sa), .val (.int (0 : Int32)), .val (.int z), .val .null, .val (.ref t_3)] [(.int (1 : Int32)), (.ref a)])) _
    refine st8 _ ?_
    show Steps p.tables e below (T8.setTop (mkF m 51 #[.val (.ref a), .val (.ref sa), .val (.int (0 : Int32)), .val (.int z), .val .null, .val (.ref t_3)] [])) _
    refine XS.aloadN X8.here hx rfl (hb hby d3_51) rfl rfl ?_
    refine XS.aload X8.here hx rfl (hb hby d3_52) rfl rfl ?_
    show Steps p.tables e below (T8.setTop (mkF m 54 #[.val (.ref a), .val (.ref sa), .val (.int (0 : Int32)), .val (.int z), .val .null, .val (.ref t_3)] [(.ref t_3), (.ref a)])) _
    refine st14 _ ?_
    show Steps p.tables e below (T14.setTop (mkF m 57 #[.val (.ref a), .val (.ref sa), .val (.int (0 : Int32)), .val (.int z), .val .null, .val (.ref t_3)] [])) _
    exact X14.returnOut hx Bd.returns (hb hby d3_57) hr
  · show Q_m3u Z a ua ub sa ks z cs y bs f x wcs h0 n0 _ T14.heap _
    rw [e14]
    exact ⟨t_3, kt_3, rfl, N14, K17, F18, F19, Fw14, F20, sz_t_3⟩
theorem pdx___CIILjava_lang_Void__V : parseMethodDescriptor "([CIILjava/lang/Void;)V" = some ⟨[(.array .char), .int, .int, (.object "java/lang/Void")], none⟩ := by decide +kernel
theorem d2_0 : decode jdk_42_method_3_code 0 = .ok (.aload_n 0, 1) := by decide +kernel
theorem d2_1 : decode jdk_42_method_3_code 1 = .ok (.aload_n 1, 1) := by decide +kernel
theorem d2_2 : decode jdk_42_method_3_code 2 = .ok (.iconst 0, 1) := by decide +kernel
theorem d2_3 : decode jdk_42_method_3_code 3 = .ok (.aload_n 1, 1) := by decide +kernel
theorem d2_4 : decode jdk_42_method_3_code 4 = .ok (.arraylength, 1) := by decide +kernel
theorem d2_5 : decode jdk_42_method_3_code 5 = .ok (.aconst_null, 1) := by decide +kernel
theorem d2_6 : decode jdk_42_method_3_code 6 = .ok (.invokespecial 27, 3) := by decide +kernel
theorem d2_9 : decode jdk_42_method_3_code 9 = .ok (.return_, 1) := by decide +kernel
def Q_m2u (Z : State) (a : Addr) (ua : Value) (ub : Value) (sa : Addr) (ks : ClassId) (z : Int32) (cs : List Value) (y : Int32) (bs : List Value) (f : Int32) (x : Int32) (wcs : Int32) (h0 : Heap) (n0 : Nat) (v : Option Value) (h : Heap) (L : List Loc) : Prop := ∃ (t : Addr) (kt : ClassId), v = none ∧ Fr n0 L ∧ Keep h0 h [a] ∧ Exa Z h a "java/lang/String" ∧ Fld Z h a "java/lang/String" "coder" "B" (.int (1 : Int32)) ∧ Fld Z h a "java/lang/String" "value" "[B" (.ref t) ∧ Arv Z h t kt .byte y bs (.int (0 : Int32)) ∧ h0.size ≤ t
theorem ef_m2u (m : MethodId) (a : Addr) (ua : Value) (ub : Value) (sa : Addr) (ks : ClassId) (z : Int32) (cs : List Value) (y : Int32) (bs : List Value) (f : Int32) (x : Int32) (wcs : Int32) : entryFrame m #[(.ref a), (.ref sa)] 2 = mkF m 0 #[.val (.ref a), .val (.ref sa)] [] := by first | (simp [entryFrame, mkF, argsToLocals, Value.category]; done) | rfl
set_option maxRecDepth 65536 in
set_option maxHeartbeats 40000000 in
theorem m2u (l : Launch) (Z : State) (a0 : Array Value) (hw : ∀ d ∈ tables_1, d.before a0 Z = true) (ws : List Jvm.Cond) (a : Addr) (ua : Value) (ub : Value) (sa : Addr) (ks : ClassId) (z : Int32) (cs : List Value) (y : Int32) (bs : List Value) (f : Int32) (x : Int32) (wcs : Int32) (h0 : Heap) (n0 : Nat) (Z0 : n0 ≤ h0.size) (E_a : Exa Z h0 a "java/lang/String") (Fv_a : Fld Z h0 a "java/lang/String" "value" "[B" ua) (Fc_a : Fld Z h0 a "java/lang/String" "coder" "B" ub) (ga : n0 ≤ a) (Vs : Arv Z h0 sa ks .char z cs (.int (0 : Int32))) (S_CS : Sta Z h0 "java/lang/String" "COMPACT_STRINGS" "Z" (.int wcs)) (ncs : ¬ (wcs = (0 : Int32))) (S_AD : Sta Z h0 "java/lang/StringUTF16" "$assertionsDisabled" "Z" (.int (1 : Int32))) (S_HI : Sta Z h0 "java/lang/StringUTF16" "HI_BYTE_SHIFT" "I" (.int (0 : Int32))) (S_LO : Sta Z h0 "java/lang/StringUTF16" "LO_BYTE_SHIFT" "I" (.int (8 : Int32))) (hT : own_T z cs y bs f x) (hu : own_u (own_b0 x) (own_b1 x) = x) (hz0 : ¬ (z = (0 : Int32))) :
    MetFree l (⟨"java/lang/String", "<init>", "([C)V"⟩ : MethodName) (head1 (Jvm.Cond.code (⟨"java/lang/String", "<init>", "([C)V"⟩ : MethodName) jdk_42_method_3_code 2 none :: ws) ({ frames := 5, cells := 2, slots := 12, locals := 74 } : Room)) (fun ar_ U => ar_ = #[(.ref a), (.ref sa)] ∧ Z.Warmed39 U.vm ∧ U.heap = h0) (fun _ _ _ _ _ => True) (fun _ U o U' => ∃ v L, o = .returned v ∧ Q_m2u Z a ua ub sa ks z cs y bs f x wcs h0 n0 v U'.heap L ∧ FrameEnd U o U' L ({ frames := 5, cells := 2, slots := 12, locals := 74 } : Room).cells ({ frames := 5, cells := 2, slots := 12, locals := 74 } : Room).slots) := by
  refine MetFree.of_bodySF (plainFor_of_name pnx_java_lang_String) hisR ?_
  intro p e s m args below meth c s₁ Bd hml0 hP hK
  obtain ⟨rfl, hZ, hh⟩ := hP
  have hx := Bd.exec
  have hby := Bd.bytes
  have hml : c.maxLocals = 2 := hml0
  have hown : s.vm.findClass "java/lang/String" = some m.cls := findClass_of_methodNamed Bd.named
  have hnm := (name_of_methodNamed Bd.named Bd.method).1
  have X0 : Stand p l e ({ frames := 5, cells := 2, slots := 12, locals := 74 } : Room) s m #[(.ref a), (.ref sa)] below meth c s₁ [] 0 0 := Stand.of_body Bd
  have e0 : s₁.heap = h0 := by rw [← hh, Bd.state]; rfl
  have N0 := Fr.nil n0
  have pre0 : ∀ tq_, Steps p.tables e below (s₁.setTop (mkF m 0 #[.val (.ref a), .val (.ref sa)] [])) tq_ → Steps p.tables e below (s₁.setTop (entryFrame m #[(.ref a), (.ref sa)] 2)) tq_ := fun tq_ kt_ => castTop (ef_m2u m a ua ub sa ks z cs y bs f x wcs ) kt_
  obtain ⟨c1, Ar1, -, Sz1, Nz1, -⟩ := id Vs
  obtain ⟨_, _, ⟨T2, L2, kk2, nn2⟩, -, X2, ⟨Lc2, hQ2, l2, y2, z2⟩, st2⟩ := X0.specialBack hx (y := (⟨"java/lang/String", "<init>", "([CIILjava/lang/Void;)V"⟩ : MethodName)) rfl hown (mvT hZ (wk hw 13 rfl)) (mvT hZ (wk hw 14 rfl)) (mvT hZ (wk hw 16 rfl)) (by decide) (backOf (W := 0) (m3u l Z a0 hw [] a ua ub sa ks z cs y bs f x wcs h0 n0 Z0 E_a Fv_a Fc_a ga Vs S_CS ncs S_AD S_HI S_LO hT hu hz0) hZ (wk hw 16 rfl) (wk hw 8 rfl) (by decide) (by decide)) (g := (mkF m 6 #[.val (.ref a), .val (.ref sa)] [.null, (.int z), (.int (0 : Int32)), (.ref sa), (.ref a)])) rfl (by rw [hml]; rfl) (Steps.refl _) (a := a) (argsL := [(.ref sa), (.int (0 : Int32)), (.int z), .null]) (rest := []) (lenOf pdx___CIILjava_lang_Void__V rfl) rfl (by show 2 * 0 + _ ≤ _; exact Nat.le_of_eq rfl) (hb hby d2_6) (fun _ _ => ⟨rfl, e0, nle rfl, nle rfl⟩)
  dsimp only [Pt.U, Pt.locs, Pt.cells, Pt.slots] at X2 l2 y2 z2 st2 hQ2
  subst l2 y2 z2
  obtain ⟨t_2, kt_2, rfl, Nq2, Kq2, P2_0, P2_1, P2_2, P2_3, P2_4⟩ := hQ2
  have N2 := Fr.app N0 Nq2
  obtain ⟨h2, e2⟩ : ∃ h, T2.heap = h := ⟨_, rfl⟩
  rw [e2] at Kq2 P2_0 P2_1 P2_2 P2_3
  have sz_t_2 : h0.size ≤ t_2 := P2_4
  have ge_t_2 : n0 ≤ t_2 := Nat.le_trans Z0 sz_t_2
  have ne_3 : a ≠ t_2 := Nat.ne_of_lt (Nat.lt_of_lt_of_le E_a.lt P2_4)
  have ne_4 : sa ≠ t_2 := Nat.ne_of_lt (Nat.lt_of_lt_of_le Vs.lt P2_4)
  have ns2 := (nsS E_a.nostat ns0)
  have ne_5 : sa ≠ a := Ne.symm (Exa.neArv E_a Vs (wk hw 7 rfl))
  have K6 : Keep h0 h2 [a] := (Keep.refl h0 [a]).trans Kq2 (own_mS (Or.inl (by simp)) own_m0)
  obtain ⟨fs, hr, hrun, hended, hW, hsame⟩ := X2.leave (v := none) (fun _ => rfl)
  refine ⟨_, _, pre0 _ ?_, hrun, hended, _, _, rfl, ?_, ⟨_, rfl⟩, hW, hsame.mono (nle rfl) (nle rfl)⟩
  · show Steps p.tables e below (s₁.setTop (mkF m 0 #[.val (.ref a), .val (.ref sa)] [])) _
    refine XS.aloadN X0.here hx rfl (hb hby d2_0) rfl rfl ?_
    refine XS.aloadN X0.here hx rfl (hb hby d2_1) rfl rfl ?_
    show Steps p.tables e below (s₁.setTop (mkF m 2 #[.val (.ref a), .val (.ref sa)] [(.ref sa), (.ref a)])) _
    refine XS.iconst X0.here hx rfl (hb hby d2_2) ?_
    refine XS.aloadN X0.here hx rfl (hb hby d2_3) rfl rfl ?_
    show Steps p.tables e below (s₁.setTop (mkF m 4 #[.val (.ref a), .val (.ref sa)] [(.ref sa), (.int (0 : Int32)), (.ref sa), (.ref a)])) _
    refine X0.arraylength hx (by rw [e0]; exact Ar1.1) (State.isArrayOf_alike hZ.alike Ar1.2.1) (g := (mkF m 4 #[.val (.ref a), .val (.ref sa)] [(.ref sa), (.int (0 : Int32)), (.ref sa), (.ref a)])) rfl rfl (hb hby d2_4) _ ?_
    rw [len_of Sz1 Nz1]
    show Steps p.tables e below (s₁.setTop (mkF m 5 #[.val (.ref a), .val (.ref sa)] [(.int z), (.int (0 : Int32)), (.ref sa), (.ref a)])) _
    refine XS.aconstNull X0.here hx rfl (hb hby d2_5) ?_
    show Steps p.tables e below (s₁.setTop (mkF m 6 #[.val (.ref a), .val (.ref sa)] [.null, (.int z), (.int (0 : Int32)), (.ref sa), (.ref a)])) _
    refine st2.trans ?_
    show Steps p.tables e below (T2.setTop (mkF m 9 #[.val (.ref a), .val (.ref sa)] [])) _
    exact X2.returnOut hx Bd.returns (hb hby d2_9) hr
  · show Q_m2u Z a ua ub sa ks z cs y bs f x wcs h0 n0 _ T2.heap _
    rw [e2]
    exact ⟨t_2, kt_2, rfl, N2, K6, P2_0, P2_1, P2_2, P2_3, sz_t_2⟩
theorem own_shr0 (z : Int32) : z >>> ((0 : Int32) &&& 31) = z := by
  have e : (0 : Int32) &&& 31 = 0 := by decide
  rw [e]; apply Int32.toBitVec_inj.mp; simp
theorem d7_0 : decode jdk_42_method_152_code 0 = .ok (.getstatic 38, 3) := by decide +kernel
theorem d7_3 : decode jdk_42_method_152_code 3 = .ok (.ifCond .eq 10, 3) := by decide +kernel
theorem d7_6 : decode jdk_42_method_152_code 6 = .ok (.aload_n 0, 1) := by decide +kernel
theorem d7_7 : decode jdk_42_method_152_code 7 = .ok (.getfield 15, 3) := by decide +kernel
theorem d7_10 : decode jdk_42_method_152_code 10 = .ok (.goto 4, 3) := by decide +kernel
theorem d7_14 : decode jdk_42_method_152_code 14 = .ok (.ireturn, 1) := by decide +kernel
def Q_m7l (Z : State) (a : Addr) (wcs : Int32) (h0 : Heap) (n0 : Nat) (v : Option Value) (h : Heap) (L : List Loc) : Prop := v = (some (.int (0 : Int32))) ∧ Fr n0 L ∧ h = h0
theorem ef_m7l (m : MethodId) (a : Addr) (wcs : Int32) : entryFrame m #[(.ref a)] 1 = mkF m 0 #[.val (.ref a)] [] := by first | (simp [entryFrame, mkF, argsToLocals, Value.category]; done) | rfl
set_option maxRecDepth 65536 in
set_option maxHeartbeats 40000000 in
theorem m7l (l : Launch) (Z : State) (a0 : Array Value) (hw : ∀ d ∈ tables_1, d.before a0 Z = true) (ws : List Jvm.Cond) (a : Addr) (wcs : Int32) (h0 : Heap) (n0 : Nat) (Z0 : n0 ≤ h0.size) (Fc_a : Fld Z h0 a "java/lang/String" "coder" "B" (.int (0 : Int32))) (S_CS : Sta Z h0 "java/lang/String" "COMPACT_STRINGS" "Z" (.int wcs)) (ncs : ¬ (wcs = (0 : Int32))) :
    MetFree l (⟨"java/lang/String", "coder", "()B"⟩ : MethodName) (head1 (Jvm.Cond.code (⟨"java/lang/String", "coder", "()B"⟩ : MethodName) jdk_42_method_152_code 1 (some .byte) :: ws) ({ frames := 0, cells := 0, slots := 0, locals := 0 } : Room)) (fun ar_ U => ar_ = #[(.ref a)] ∧ Z.Warmed39 U.vm ∧ U.heap = h0) (fun _ _ _ _ _ => True) (fun _ U o U' => ∃ v L, o = .returned v ∧ Q_m7l Z a wcs h0 n0 v U'.heap L ∧ FrameEnd U o U' L ({ frames := 0, cells := 0, slots := 0, locals := 0 } : Room).cells ({ frames := 0, cells := 0, slots := 0, locals := 0 } : Room).slots) := by
  refine MetFree.of_bodySF (plainFor_of_name pnx_java_lang_String) hisR ?_
  intro p e s m args below meth c s₁ Bd hml0 hP hK
  obtain ⟨rfl, hZ, hh⟩ := hP
  have hx := Bd.exec
  have hby := Bd.bytes
  have hml : c.maxLocals = 1 := hml0
  have hown : s.vm.findClass "java/lang/String" = some m.cls := findClass_of_methodNamed Bd.named
  have hnm := (name_of_methodNamed Bd.named Bd.method).1
  have X0 : Stand p l e ({ frames := 0, cells := 0, slots := 0, locals := 0 } : Room) s m #[(.ref a)] below meth c s₁ [] 0 0 := Stand.of_body Bd
  have e0 : s₁.heap = h0 := by rw [← hh, Bd.state]; rfl
  have N0 := Fr.nil n0
  have pre0 : ∀ tq_, Steps p.tables e below (s₁.setTop (mkF m 0 #[.val (.ref a)] [])) tq_ → Steps p.tables e below (s₁.setTop (entryFrame m #[(.ref a)] 1)) tq_ := fun tq_ kt_ => castTop (ef_m7l m a wcs ) kt_
  obtain ⟨T1, X1, e1, st1⟩ := getS2 X0 hx hZ hown (host := "") (Or.inl (wk hw 42 rfl)) Via.refl e0 S_CS (g := (mkF m 0 #[.val (.ref a)] [])) rfl (hb hby d7_0)
  obtain ⟨T2, X2, e2, st2⟩ := getF X1 hx hZ hown (host := "") (Or.inl (wk hw 27 rfl)) Via.refl e1 Fc_a (g := (mkF m 7 #[.val (.ref a)] [(.ref a)])) rfl rfl (hb hby d7_7)
  obtain ⟨fs, hr, hrun, hended, hW, hsame⟩ := X2.leave (v := some (.int (0 : Int32))) (fun h => by rw [Bd.returns] at h; cases h)
  refine ⟨_, _, pre0 _ ?_, hrun, hended, _, _, rfl, ?_, ⟨_, rfl⟩, hW, hsame.mono (nle rfl) (nle rfl)⟩
  · show Steps p.tables e below (s₁.setTop (mkF m 0 #[.val (.ref a)] [])) _
    refine st1 _ ?_
    show Steps p.tables e below (T1.setTop (mkF m 3 #[.val (.ref a)] [(.int wcs)])) _
    refine XS.ifNo X1.here hx rfl (hb hby d7_3) rfl ((if0 _ _).trans (feq (ncs : ¬ (wcs = (0 : Int32)))).1) ?_
    show Steps p.tables e below (T1.setTop (mkF m 6 #[.val (.ref a)] [])) _
    refine XS.aloadN X1.here hx rfl (hb hby d7_6) rfl rfl ?_
    show Steps p.tables e below (T1.setTop (mkF m 7 #[.val (.ref a)] [(.ref a)])) _
    refine st2 _ ?_
    show Steps p.tables e below (T2.setTop (mkF m 10 #[.val (.ref a)] [(.int (0 : Int32))])) _
    refine XS.goto X2.here hx rfl (pc0 := 10) (pc' := 14) rfl (hb hby d7_10) (by decide) (by decide) ?_
    show Steps p.tables e below (T2.setTop (mkF m 14 #[.val (.ref a)] [(.int (0 : Int32))])) _
    exact own_retN X2 hx (t := .byte) rfl Bd.returns (by simp) (hb hby d7_14) hr
  · show Q_m7l Z a wcs h0 n0 _ T2.heap _
    exact ⟨rfl, N0, e2⟩
def Q_m7u (Z : State) (a : Addr) (wcs : Int32) (h0 : Heap) (n0 : Nat) (v : Option Value) (h : Heap) (L : List Loc) : Prop := v = (some (.int (1 : Int32))) ∧ Fr n0 L ∧ h = h0
theorem ef_m7u (m : MethodId) (a : Addr) (wcs : Int32) : entryFrame m #[(.ref a)] 1 = mkF m 0 #[.val (.ref a)] [] := by first | (simp [entryFrame, mkF, argsToLocals, Value.category]; done) | rfl
set_option maxRecDepth 65536 in
set_option maxHeartbeats 40000000 in
theorem m7u (l : Launch) (Z : State) (a0 : Array Value) (hw : ∀ d ∈ tables_1, d.before a0 Z = true) (ws : List Jvm.Cond) (a : Addr) (wcs : Int32) (h0 : Heap) (n0 : Nat) (Z0 : n0 ≤ h0.size) (Fc_a : Fld Z h0 a "java/lang/String" "coder" "B" (.int (1 : Int32))) (S_CS : Sta Z h0 "java/lang/String" "COMPACT_STRINGS" "Z" (.int wcs)) (ncs : ¬ (wcs = (0 : Int32))) :
    MetFree l (⟨"java/lang/String", "coder", "()B"⟩ : MethodName) (head1 (Jvm.Cond.code (⟨"java/lang/String", "coder", "()B"⟩ : MethodName) jdk_42_method_152_code 1 (some .byte) :: ws) ({ frames := 0, cells := 0, slots := 0, locals := 0 } : Room)) (fun ar_ U => ar_ = #[(.ref a)] ∧ Z.Warmed39 U.vm ∧ U.heap = h0) (fun _ _ _ _ _ => True) (fun _ U o U' => ∃ v L, o = .returned v ∧ Q_m7u Z a wcs h0 n0 v U'.heap L ∧ FrameEnd U o U' L ({ frames := 0, cells := 0, slots := 0, locals := 0 } : Room).cells ({ frames := 0, cells := 0, slots := 0, locals := 0 } : Room).slots) := by
  refine MetFree.of_bodySF (plainFor_of_name pnx_java_lang_String) hisR ?_
  intro p e s m args below meth c s₁ Bd hml0 hP hK
  obtain ⟨rfl, hZ, hh⟩ := hP
  have hx := Bd.exec
  have hby := Bd.bytes
  have hml : c.maxLocals = 1 := hml0
  have hown : s.vm.findClass "java/lang/String" = some m.cls := findClass_of_methodNamed Bd.named
  have hnm := (name_of_methodNamed Bd.named Bd.method).1
  have X0 : Stand p l e ({ frames := 0, cells := 0, slots := 0, locals := 0 } : Room) s m #[(.ref a)] below meth c s₁ [] 0 0 := Stand.of_body Bd
  have e0 : s₁.heap = h0 := by rw [← hh, Bd.state]; rfl
  have N0 := Fr.nil n0
  have pre0 : ∀ tq_, Steps p.tables e below (s₁.setTop (mkF m 0 #[.val (.ref a)] [])) tq_ → Steps p.tables e below (s₁.setTop (entryFrame m #[(.ref a)] 1)) tq_ := fun tq_ kt_ => castTop (ef_m7u m a wcs ) kt_
  obtain ⟨T1, X1, e1, st1⟩ := getS2 X0 hx hZ hown (host := "") (Or.inl (wk hw 42 rfl)) Via.refl e0 S_CS (g := (mkF m 0 #[.val (.ref a)] [])) rfl (hb hby d7_0)
  obtain ⟨T2, X2, e2, st2⟩ := getF X1 hx hZ hown (host := "") (Or.inl (wk hw 27 rfl)) Via.refl e1 Fc_a (g := (mkF m 7 #[.val (.ref a)] [(.ref a)])) rfl rfl (hb hby d7_7)
  obtain ⟨fs, hr, hrun, hended, hW, hsame⟩ := X2.leave (v := some (.int (1 : Int32))) (fun h => by rw [Bd.returns] at h; cases h)
  refine ⟨_, _, pre0 _ ?_, hrun, hended, _, _, rfl, ?_, ⟨_, rfl⟩, hW, hsame.mono (nle rfl) (nle rfl)⟩
  · show Steps p.tables e below (s₁.setTop (mkF m 0 #[.val (.ref a)] [])) _
    refine st1 _ ?_
    show Steps p.tables e below (T1.setTop (mkF m 3 #[.val (.ref a)] [(.int wcs)])) _
    refine XS.ifNo X1.here hx rfl (hb hby d7_3) rfl ((if0 _ _).trans (feq (ncs : ¬ (wcs = (0 : Int32)))).1) ?_
    show Steps p.tables e below (T1.setTop (mkF m 6 #[.val (.ref a)] [])) _
    refine XS.aloadN X1.here hx rfl (hb hby d7_6) rfl rfl ?_
    show Steps p.tables e below (T1.setTop (mkF m 7 #[.val (.ref a)] [(.ref a)])) _
    refine st2 _ ?_
    show Steps p.tables e below (T2.setTop (mkF m 10 #[.val (.ref a)] [(.int (1 : Int32))])) _
    refine XS.goto X2.here hx rfl (pc0 := 10) (pc' := 14) rfl (hb hby d7_10) (by decide) (by decide) ?_
    show Steps p.tables e below (T2.setTop (mkF m 14 #[.val (.ref a)] [(.int (1 : Int32))])) _
    exact own_retN X2 hx (t := .byte) rfl Bd.returns (by simp) (hb hby d7_14) hr
  · show Q_m7u Z a wcs h0 n0 _ T2.heap _
    exact ⟨rfl, N0, e2⟩
theorem pdx___B : parseMethodDescriptor "()B" = some ⟨[], some .byte⟩ := by decide +kernel
theorem d6_0 : decode jdk_42_method_54_code 0 = .ok (.aload_n 0, 1) := by decide +kernel
theorem d6_1 : decode jdk_42_method_54_code 1 = .ok (.getfield 9, 3) := by decide +kernel
theorem d6_4 : decode jdk_42_method_54_code 4 = .ok (.arraylength, 1) := by decide +kernel
theorem d6_5 : decode jdk_42_method_54_code 5 = .ok (.aload_n 0, 1) := by decide +kernel
theorem d6_6 : decode jdk_42_method_54_code 6 = .ok (.invokevirtual 335, 3) := by decide +kernel
theorem d6_9 : decode jdk_42_method_54_code 9 = .ok (.ishr, 1) := by decide +kernel
theorem d6_10 : decode jdk_42_method_54_code 10 = .ok (.ireturn, 1) := by decide +kernel
def Q_m6l (Z : State) (a : Addr) (t : Addr) (k : ClassId) (y : Int32) (vs : List Value) (wcs : Int32) (h0 : Heap) (n0 : Nat) (v : Option Value) (h : Heap) (L : List Loc) : Prop := v = (some (.int y)) ∧ Fr n0 L ∧ h = h0
theorem ef_m6l (m : MethodId) (a : Addr) (t : Addr) (k : ClassId) (y : Int32) (vs : List Value) (wcs : Int32) : entryFrame m #[(.ref a)] 1 = mkF m 0 #[.val (.ref a)] [] := by first | (simp [entryFrame, mkF, argsToLocals, Value.category]; done) | rfl
set_option maxRecDepth 65536 in
set_option maxHeartbeats 40000000 in
theorem m6l (l : Launch) (Z : State) (a0 : Array Value) (hw : ∀ d ∈ tables_1, d.before a0 Z = true) (ws : List Jvm.Cond) (a : Addr) (t : Addr) (k : ClassId) (y : Int32) (vs : List Value) (wcs : Int32) (h0 : Heap) (n0 : Nat) (Z0 : n0 ≤ h0.size) (E_a : Exa Z h0 a "java/lang/String") (Fc_a : Fld Z h0 a "java/lang/String" "coder" "B" (.int (0 : Int32))) (Fv_a : Fld Z h0 a "java/lang/String" "value" "[B" (.ref t)) (V : Arv Z h0 t k .byte y vs (.int (0 : Int32))) (S_CS : Sta Z h0 "java/lang/String" "COMPACT_STRINGS" "Z" (.int wcs)) (ncs : ¬ (wcs = (0 : Int32))) :
    MetFree l (⟨"java/lang/String", "length", "()I"⟩ : MethodName) (head1 (Jvm.Cond.code (⟨"java/lang/String", "length", "()I"⟩ : MethodName) jdk_42_method_54_code 1 (some .int) :: ws) ({ frames := 1, cells := 0, slots := 0, locals := 13 } : Room)) (fun ar_ U => ar_ = #[(.ref a)] ∧ Z.Warmed39 U.vm ∧ U.heap = h0) (fun _ _ _ _ _ => True) (fun _ U o U' => ∃ v L, o = .returned v ∧ Q_m6l Z a t k y vs wcs h0 n0 v U'.heap L ∧ FrameEnd U o U' L ({ frames := 1, cells := 0, slots := 0, locals := 13 } : Room).cells ({ frames := 1, cells := 0, slots := 0, locals := 13 } : Room).slots) := by
  refine MetFree.of_bodySF (plainFor_of_name pnx_java_lang_String) hisR ?_
  intro p e s m args below meth c s₁ Bd hml0 hP hK
  obtain ⟨rfl, hZ, hh⟩ := hP
  have hx := Bd.exec
  have hby := Bd.bytes
  have hml : c.maxLocals = 1 := hml0
  have hown : s.vm.findClass "java/lang/String" = some m.cls := findClass_of_methodNamed Bd.named
  have hnm := (name_of_methodNamed Bd.named Bd.method).1
  have X0 : Stand p l e ({ frames := 1, cells := 0, slots := 0, locals := 13 } : Room) s m #[(.ref a)] below meth c s₁ [] 0 0 := Stand.of_body Bd
  have e0 : s₁.heap = h0 := by rw [← hh, Bd.state]; rfl
  have N0 := Fr.nil n0
  have pre0 : ∀ tq_, Steps p.tables e below (s₁.setTop (mkF m 0 #[.val (.ref a)] [])) tq_ → Steps p.tables e below (s₁.setTop (entryFrame m #[(.ref a)] 1)) tq_ := fun tq_ kt_ => castTop (ef_m6l m a t k y vs wcs ) kt_
  obtain ⟨T1, X1, e1, st1⟩ := getF X0 hx hZ hown (host := "") (Or.inl (wk hw 26 rfl)) Via.refl e0 Fv_a (g := (mkF m 1 #[.val (.ref a)] [(.ref a)])) rfl rfl (hb hby d6_1)
  obtain ⟨c2, Ar2, -, Sz2, Nz2, -⟩ := id V
  obtain ⟨cq3, kq3, qa3, qb3, qc3⟩ := isOf hZ e1 E_a
  obtain ⟨_, _, ⟨T3, L3, kk3, nn3⟩, -, X3, ⟨Lc3, hQ3, l3, y3, z3⟩, st3⟩ := X1.virtualBack hx (y := (⟨"java/lang/String", "coder", "()B"⟩ : MethodName)) (z := (⟨"java/lang/String", "coder", "()B"⟩ : MethodName)) hown (mvT hZ (wk hw 37 rfl)) (mvT hZ (wk hw 38 rfl)) (notFace_of_selects (args := #[]) (mvT hZ (wk hw 40 rfl))) (mvT hZ (wk hw 40 rfl)) (mvT hZ (wk hw 39 rfl)) (by decide) (backOf (W := 1) (m7l l Z a0 hw [] a wcs h0 n0 Z0 Fc_a S_CS ncs) hZ (wk hw 41 rfl) (wk hw 8 rfl) (by decide) (by decide)) qa3 qc3 (g := (mkF m 6 #[.val (.ref a)] [(.ref a), (.int y)])) rfl (by rw [hml]; rfl) (Steps.refl _) (argsL := []) (rest := [(.int y)]) (lenOf pdx___B rfl) rfl (by show 2 * 0 + _ ≤ _; exact Nat.le_of_eq rfl) (hb hby d6_6) (fun _ _ => ⟨rfl, e1, nle rfl, nle rfl⟩)
  dsimp only [Pt.U, Pt.locs, Pt.cells, Pt.slots] at X3 l3 y3 z3 st3 hQ3
  subst l3 y3 z3
  obtain ⟨rfl, Nq3, e3⟩ := hQ3
  have N3 := Fr.app N0 Nq3
  obtain ⟨fs, hr, hrun, hended, hW, hsame⟩ := X3.leave (v := some (.int y)) (fun h => by rw [Bd.returns] at h; cases h)
  refine ⟨_, _, pre0 _ ?_, hrun, hended, _, _, rfl, ?_, ⟨_, rfl⟩, hW, hsame.mono (nle rfl) (nle rfl)⟩
  · show Steps p.tables e below (s₁.setTop (mkF m 0 #[.val (.ref a)] [])) _
    refine XS.aloadN X0.here hx rfl (hb hby d6_0) rfl rfl ?_
    show Steps p.tables e below (s₁.setTop (mkF m 1 #[.val (.ref a)] [(.ref a)])) _
    refine st1 _ ?_
    show Steps p.tables e below (T1.setTop (mkF m 4 #[.val (.ref a)] [(.ref t)])) _
    refine X1.arraylength hx (by rw [e1]; exact Ar2.1) (State.isArrayOf_alike hZ.alike Ar2.2.1) (g := (mkF m 4 #[.val (.ref a)] [(.ref t)])) rfl rfl (hb hby d6_4) _ ?_
    rw [len_of Sz2 Nz2]
    show Steps p.tables e below (T1.setTop (mkF m 5 #[.val (.ref a)] [(.int y)])) _
    refine XS.aloadN X1.here hx rfl (hb hby d6_5) rfl rfl ?_
    show Steps p.tables e below (T1.setTop (mkF m 6 #[.val (.ref a)] [(.ref a), (.int y)])) _
    refine st3.trans ?_
    show Steps p.tables e below (T3.setTop (mkF m 9 #[.val (.ref a)] [(.int (0 : Int32)), (.int y)])) _
    refine XS.ishr X3.here hx rfl (hb hby d6_9) rfl ?_
    show Steps p.tables e below (T3.setTop (mkF m 10 #[.val (.ref a)] [(.int (y >>> ((0 : Int32) &&& 31)))])) _
    rw [own_shr0]
    show Steps p.tables e below (T3.setTop (mkF m 10 #[.val (.ref a)] [(.int y)])) _
    exact retI X3 hx Bd.returns (hb hby d6_10) hr
  · show Q_m6l Z a t k y vs wcs h0 n0 _ T3.heap _
    exact ⟨rfl, N3, e3⟩
def Q_m6u (Z : State) (a : Addr) (t : Addr) (k : ClassId) (y : Int32) (vs : List Value) (z : Int32) (wcs : Int32) (h0 : Heap) (n0 : Nat) (v : Option Value) (h : Heap) (L : List Loc) : Prop := v = (some (.int z)) ∧ Fr n0 L ∧ h = h0
theorem ef_m6u (m : MethodId) (a : Addr) (t : Addr) (k : ClassId) (y : Int32) (vs : List Value) (z : Int32) (wcs : Int32) : entryFrame m #[(.ref a)] 1 = mkF m 0 #[.val (.ref a)] [] := by first | (simp [entryFrame, mkF, argsToLocals, Value.category]; done) | rfl
set_option maxRecDepth 65536 in
set_option maxHeartbeats 40000000 in
theorem m6u (l : Launch) (Z : State) (a0 : Array Value) (hw : ∀ d ∈ tables_1, d.before a0 Z = true) (ws : List Jvm.Cond) (a : Addr) (t : Addr) (k : ClassId) (y : Int32) (vs : List Value) (z : Int32) (wcs : Int32) (h0 : Heap) (n0 : Nat) (Z0 : n0 ≤ h0.size) (E_a : Exa Z h0 a "java/lang/String") (Fc_a : Fld Z h0 a "java/lang/String" "coder" "B" (.int (1 : Int32))) (Fv_a : Fld Z h0 a "java/lang/String" "value" "[B" (.ref t)) (V : Arv Z h0 t k .byte y vs (.int (0 : Int32))) (hz : (y >>> ((1 : Int32) &&& 31)) = z) (S_CS : Sta Z h0 "java/lang/String" "COMPACT_STRINGS" "Z" (.int wcs)) (ncs : ¬ (wcs = (0 : Int32))) :
    MetFree l (⟨"java/lang/String", "length", "()I"⟩ : MethodName) (head1 (Jvm.Cond.code (⟨"java/lang/String", "length", "()I"⟩ : MethodName) jdk_42_method_54_code 1 (some .int) :: ws) ({ frames := 1, cells := 0, slots := 0, locals := 13 } : Room)) (fun ar_ U => ar_ = #[(.ref a)] ∧ Z.Warmed39 U.vm ∧ U.heap = h0) (fun _ _ _ _ _ => True) (fun _ U o U' => ∃ v L, o = .returned v ∧ Q_m6u Z a t k y vs z wcs h0 n0 v U'.heap L ∧ FrameEnd U o U' L ({ frames := 1, cells := 0, slots := 0, locals := 13 } : Room).cells ({ frames := 1, cells := 0, slots := 0, locals := 13 } : Room).slots) := by
  refine MetFree.of_bodySF (plainFor_of_name pnx_java_lang_String) hisR ?_
  intro p e s m args below meth c s₁ Bd hml0 hP hK
  obtain ⟨rfl, hZ, hh⟩ := hP
  have hx := Bd.exec
  have hby := Bd.bytes
  have hml : c.maxLocals = 1 := hml0
  have hown : s.vm.findClass "java/lang/String" = some m.cls := findClass_of_methodNamed Bd.named
  have hnm := (name_of_methodNamed Bd.named Bd.method).1
  have X0 : Stand p l e ({ frames := 1, cells := 0, slots := 0, locals := 13 } : Room) s m #[(.ref a)] below meth c s₁ [] 0 0 := Stand.of_body Bd
  have e0 : s₁.heap = h0 := by rw [← hh, Bd.state]; rfl
  have N0 := Fr.nil n0
  have pre0 : ∀ tq_, Steps p.tables e below (s₁.setTop (mkF m 0 #[.val (.ref a)] [])) tq_ → Steps p.tables e below (s₁.setTop (entryFrame m #[(.ref a)] 1)) tq_ := fun tq_ kt_ => castTop (ef_m6u m a t k y vs z wcs ) kt_
  obtain ⟨T1, X1, e1, st1⟩ := getF X0 hx hZ hown (host := "") (Or.inl (wk hw 26 rfl)) Via.refl e0 Fv_a (g := (mkF m 1 #[.val (.ref a)] [(.ref a)])) rfl rfl (hb hby d6_1)
  obtain ⟨c2, Ar2, -, Sz2, Nz2, -⟩ := id V
  obtain ⟨cq3, kq3, qa3, qb3, qc3⟩ := isOf hZ e1 E_a
  obtain ⟨_, _, ⟨T3, L3, kk3, nn3⟩, -, X3, ⟨Lc3, hQ3, l3, y3, z3⟩, st3⟩ := X1.virtualBack hx (y := (⟨"java/lang/String", "coder", "()B"⟩ : MethodName)) (z := (⟨"java/lang/String", "coder", "()B"⟩ : MethodName)) hown (mvT hZ (wk hw 37 rfl)) (mvT hZ (wk hw 38 rfl)) (notFace_of_selects (args := #[]) (mvT hZ (wk hw 40 rfl))) (mvT hZ (wk hw 40 rfl)) (mvT hZ (wk hw 39 rfl)) (by decide) (backOf (W := 1) (m7u l Z a0 hw [] a wcs h0 n0 Z0 Fc_a S_CS ncs) hZ (wk hw 41 rfl) (wk hw 8 rfl) (by decide) (by decide)) qa3 qc3 (g := (mkF m 6 #[.val (.ref a)] [(.ref a), (.int y)])) rfl (by rw [hml]; rfl) (Steps.refl _) (argsL := []) (rest := [(.int y)]) (lenOf pdx___B rfl) rfl (by show 2 * 0 + _ ≤ _; exact Nat.le_of_eq rfl) (hb hby d6_6) (fun _ _ => ⟨rfl, e1, nle rfl, nle rfl⟩)
  dsimp only [Pt.U, Pt.locs, Pt.cells, Pt.slots] at X3 l3 y3 z3 st3 hQ3
  subst l3 y3 z3
  obtain ⟨rfl, Nq3, e3⟩ := hQ3
  have N3 := Fr.app N0 Nq3
  obtain ⟨fs, hr, hrun, hended, hW, hsame⟩ := X3.leave (v := some (.int z)) (fun h => by rw [Bd.returns] at h; cases h)
  refine ⟨_, _, pre0 _ ?_, hrun, hended, _, _, rfl, ?_, ⟨_, rfl⟩, hW, hsame.mono (nle rfl) (nle rfl)⟩
  · show Steps p.tables e below (s₁.setTop (mkF m 0 #[.val (.ref a)] [])) _
    refine XS.aloadN X0.here hx rfl (hb hby d6_0) rfl rfl ?_
    show Steps p.tables e below (s₁.setTop (mkF m 1 #[.val (.ref a)] [(.ref a)])) _
    refine st1 _ ?_
    show Steps p.tables e below (T1.setTop (mkF m 4 #[.val (.ref a)] [(.ref t)])) _
    refine X1.arraylength hx (by rw [e1]; exact Ar2.1) (State.isArrayOf_alike hZ.alike Ar2.2.1) (g := (mkF m 4 #[.val (.ref a)] [(.ref t)])) rfl rfl (hb hby d6_4) _ ?_
    rw [len_of Sz2 Nz2]
    show Steps p.tables e below (T1.setTop (mkF m 5 #[.val (.ref a)] [(.int y)])) _
    refine XS.aloadN X1.here hx rfl (hb hby d6_5) rfl rfl ?_
    show Steps p.tables e below (T1.setTop (mkF m 6 #[.val (.ref a)] [(.ref a), (.int y)])) _
    refine st3.trans ?_
    show Steps p.tables e below (T3.setTop (mkF m 9 #[.val (.ref a)] [(.int (1 : Int32)), (.int y)])) _
    show Steps p.tables e below (T3.setTop (mkF m 9 #[.val (.ref a)] [(.int (1 : Int32)), (.int y)])) _
    refine XS.ishr X3.here hx rfl (hb hby d6_9) rfl ?_
    show Steps p.tables e below (T3.setTop (mkF m 10 #[.val (.ref a)] [(.int (y >>> ((1 : Int32) &&& 31)))])) _
    rw [hz]
    show Steps p.tables e below (T3.setTop (mkF m 10 #[.val (.ref a)] [(.int z)])) _
    exact retI X3 hx Bd.returns (hb hby d6_10) hr
  · show Q_m6u Z a t k y vs z wcs h0 n0 _ T3.heap _
    exact ⟨rfl, N3, e3⟩
theorem d16_0 : decode jdk_41_method_11_code 0 = .ok (.iload_n 0, 1) := by decide +kernel
theorem d16_1 : decode jdk_41_method_11_code 1 = .ok (.ifCond .lt 8, 3) := by decide +kernel
theorem d16_4 : decode jdk_41_method_11_code 4 = .ok (.iload_n 0, 1) := by decide +kernel
theorem d16_5 : decode jdk_41_method_11_code 5 = .ok (.iload_n 1, 1) := by decide +kernel
theorem d16_6 : decode jdk_41_method_11_code 6 = .ok (.if_icmp .lt 10, 3) := by decide +kernel
theorem d16_16 : decode jdk_41_method_11_code 16 = .ok (.iload_n 0, 1) := by decide +kernel
theorem d16_17 : decode jdk_41_method_11_code 17 = .ok (.ireturn, 1) := by decide +kernel
theorem pnx_jdk_internal_util_Preconditions : plainName "jdk/internal/util/Preconditions" = true := by first | (simp [plainName, overriddenIn]; done) | decide +kernel
def Q_m16 (Z : State) (j : Int32) (z : Int32) (rg : Value) (h0 : Heap) (n0 : Nat) (v : Option Value) (h : Heap) (L : List Loc) : Prop := v = (some (.int j)) ∧ Fr n0 L ∧ h = h0
theorem ef_m16 (m : MethodId) (j : Int32) (z : Int32) (rg : Value) (r_rg : rg.isRef = true) : entryFrame m #[(.int j), (.int z), rg] 3 = mkF m 0 #[.val (.int j), .val (.int z), .val rg] [] := by
  have c1 : ∀ a : Addr, (Value.ref a).category = 1 := fun _ => rfl
  have c2 : ∀ z : Int32, (Value.int z).category = 1 := fun _ => rfl
  have c3 : Value.null.category = 1 := rfl
  simp [entryFrame, mkF, argsToLocals, own_catv r_rg, c1, c2, c3]
set_option maxRecDepth 65536 in
set_option maxHeartbeats 40000000 in
theorem m16 (l : Launch) (Z : State) (a0 : Array Value) (hw : ∀ d ∈ tables_1, d.before a0 Z = true) (ws : List Jvm.Cond) (j : Int32) (z : Int32) (rg : Value) (h0 : Heap) (n0 : Nat) (Z0 : n0 ≤ h0.size) (hj0 : ¬ (j < (0 : Int32))) (hjz : j < z) (r_rg : rg.isRef = true) :
    MetFree l (⟨"jdk/internal/util/Preconditions", "checkIndex", "(IILjava/util/function/BiFunction;)I"⟩ : MethodName) (head1 (Jvm.Cond.code (⟨"jdk/internal/util/Preconditions", "checkIndex", "(IILjava/util/function/BiFunction;)I"⟩ : MethodName) jdk_41_method_11_code 3 (some .int) :: ws) ({ frames := 0, cells := 0, slots := 0, locals := 0 } : Room)) (fun ar_ U => ar_ = #[(.int j), (.int z), rg] ∧ Z.Warmed39 U.vm ∧ U.heap = h0) (fun _ _ _ _ _ => True) (fun _ U o U' => ∃ v L, o = .returned v ∧ Q_m16 Z j z rg h0 n0 v U'.heap L ∧ FrameEnd U o U' L ({ frames := 0, cells := 0, slots := 0, locals := 0 } : Room).cells ({ frames := 0, cells := 0, slots := 0, locals := 0 } : Room).slots) := by
  refine MetFree.of_bodySF (plainFor_of_name pnx_jdk_internal_util_Preconditions) hisR ?_
  intro p e s m args below meth c s₁ Bd hml0 hP hK
  obtain ⟨rfl, hZ, hh⟩ := hP
  have hx := Bd.exec
  have hby := Bd.bytes
  have hml : c.maxLocals = 3 := hml0
  have hown : s.vm.findClass "jdk/internal/util/Preconditions" = some m.cls := findClass_of_methodNamed Bd.named
  have hnm := (name_of_methodNamed Bd.named Bd.method).1
  have X0 : Stand p l e ({ frames := 0, cells := 0, slots := 0, locals := 0 } : Room) s m #[(.int j), (.int z), rg] below meth c s₁ [] 0 0 := Stand.of_body Bd
  have e0 : s₁.heap = h0 := by rw [← hh, Bd.state]; rfl
  have N0 := Fr.nil n0
  have pre0 : ∀ tq_, Steps p.tables e below (s₁.setTop (mkF m 0 #[.val (.int j), .val (.int z), .val rg] [])) tq_ → Steps p.tables e below (s₁.setTop (entryFrame m #[(.int j), (.int z), rg] 3)) tq_ := fun tq_ kt_ => castTop (ef_m16 m j z rg r_rg) kt_
  obtain ⟨fs, hr, hrun, hended, hW, hsame⟩ := X0.leave (v := some (.int j)) (fun h => by rw [Bd.returns] at h; cases h)
  refine ⟨_, _, pre0 _ ?_, hrun, hended, _, _, rfl, ?_, ⟨_, rfl⟩, hW, hsame.mono (nle rfl) (nle rfl)⟩
  · show Steps p.tables e below (s₁.setTop (mkF m 0 #[.val (.int j), .val (.int z), .val rg] [])) _
    refine XS.iloadN X0.here hx rfl (hb hby d16_0) rfl ?_
    show Steps p.tables e below (s₁.setTop (mkF m 1 #[.val (.int j), .val (.int z), .val rg] [(.int j)])) _
    refine XS.ifNo X0.here hx rfl (hb hby d16_1) rfl ((if0 _ _).trans (flt (hj0 : ¬ (j < (0 : Int32)))).1) ?_
    show Steps p.tables e below (s₁.setTop (mkF m 4 #[.val (.int j), .val (.int z), .val rg] [])) _
    refine XS.iloadN X0.here hx rfl (hb hby d16_4) rfl ?_
    refine XS.iloadN X0.here hx rfl (hb hby d16_5) rfl ?_
    show Steps p.tables e below (s₁.setTop (mkF m 6 #[.val (.int j), .val (.int z), .val rg] [(.int z), (.int j)])) _
    refine XS.icmpYes X0.here hx rfl (pc0 := 6) (pc' := 16) rfl (hb hby d16_6) rfl (tlt (hjz : j < z)).1 (by decide) (by decide) ?_
    show Steps p.tables e below (s₁.setTop (mkF m 16 #[.val (.int j), .val (.int z), .val rg] [])) _
    refine XS.iloadN X0.here hx rfl (hb hby d16_16) rfl ?_
    show Steps p.tables e below (s₁.setTop (mkF m 17 #[.val (.int j), .val (.int z), .val rg] [(.int j)])) _
    exact retI X0 hx Bd.returns (hb hby d16_17) hr
  · show Q_m16 Z j z rg h0 n0 _ s₁.heap _
    exact ⟨rfl, N0, e0⟩
theorem pdx__IILjava_util_function_BiFunction__I : parseMethodDescriptor "(IILjava/util/function/BiFunction;)I" = some ⟨[.int, .int, (.object "java/util/function/BiFunction")], some .int⟩ := by decide +kernel
theorem d15_0 : decode jdk_42_method_155_code 0 = .ok (.iload_n 0, 1) := by decide +kernel
theorem d15_1 : decode jdk_42_method_155_code 1 = .ok (.iload_n 1, 1) := by decide +kernel
theorem d15_2 : decode jdk_42_method_155_code 2 = .ok (.getstatic 1053, 3) := by decide +kernel
theorem d15_5 : decode jdk_42_method_155_code 5 = .ok (.invokestatic 1059, 3) := by decide +kernel
theorem d15_8 : decode jdk_42_method_155_code 8 = .ok (.pop, 1) := by decide +kernel
theorem d15_9 : decode jdk_42_method_155_code 9 = .ok (.return_, 1) := by decide +kernel
def Q_m15 (Z : State) (j : Int32) (z : Int32) (rg : Value) (h0 : Heap) (n0 : Nat) (v : Option Value) (h : Heap) (L : List Loc) : Prop := v = none ∧ Fr n0 L ∧ h = h0
theorem ef_m15 (m : MethodId) (j : Int32) (z : Int32) (rg : Value) : entryFrame m #[(.int j), (.int z)] 2 = mkF m 0 #[.val (.int j), .val (.int z)] [] := by first | (simp [entryFrame, mkF, argsToLocals, Value.category]; done) | rfl
set_option maxRecDepth 65536 in
set_option maxHeartbeats 40000000 in
theorem m15 (l : Launch) (Z : State) (a0 : Array Value) (hw : ∀ d ∈ tables_1, d.before a0 Z = true) (ws : List Jvm.Cond) (j : Int32) (z : Int32) (rg : Value) (h0 : Heap) (n0 : Nat) (Z0 : n0 ≤ h0.size) (hj0 : ¬ (j < (0 : Int32))) (hjz : j < z) (S_SI : Sta Z h0 "jdk/internal/util/Preconditions" "SIOOBE_FORMATTER" "Ljava/util/function/BiFunction;" rg) (r_rg : rg.isRef = true) :
    MetFree l (⟨"java/lang/String", "checkIndex", "(II)V"⟩ : MethodName) (head1 (Jvm.Cond.code (⟨"java/lang/String", "checkIndex", "(II)V"⟩ : MethodName) jdk_42_method_155_code 2 none :: ws) ({ frames := 1, cells := 0, slots := 0, locals := 14 } : Room)) (fun ar_ U => ar_ = #[(.int j), (.int z)] ∧ Z.Warmed39 U.vm ∧ U.heap = h0) (fun _ _ _ _ _ => True) (fun _ U o U' => ∃ v L, o = .returned v ∧ Q_m15 Z j z rg h0 n0 v U'.heap L ∧ FrameEnd U o U' L ({ frames := 1, cells := 0, slots := 0, locals := 14 } : Room).cells ({ frames := 1, cells := 0, slots := 0, locals := 14 } : Room).slots) := by
  refine MetFree.of_bodySF (plainFor_of_name pnx_java_lang_String) hisR ?_
  intro p e s m args below meth c s₁ Bd hml0 hP hK
  obtain ⟨rfl, hZ, hh⟩ := hP
  have hx := Bd.exec
  have hby := Bd.bytes
  have hml : c.maxLocals = 2 := hml0
  have hown : s.vm.findClass "java/lang/String" = some m.cls := findClass_of_methodNamed Bd.named
  have hnm := (name_of_methodNamed Bd.named Bd.method).1
  have X0 : Stand p l e ({ frames := 1, cells := 0, slots := 0, locals := 14 } : Room) s m #[(.int j), (.int z)] below meth c s₁ [] 0 0 := Stand.of_body Bd
  have e0 : s₁.heap = h0 := by rw [← hh, Bd.state]; rfl
  have N0 := Fr.nil n0
  have pre0 : ∀ tq_, Steps p.tables e below (s₁.setTop (mkF m 0 #[.val (.int j), .val (.int z)] [])) tq_ → Steps p.tables e below (s₁.setTop (entryFrame m #[(.int j), (.int z)] 2)) tq_ := fun tq_ kt_ => castTop (ef_m15 m j z rg ) kt_
  obtain ⟨T1, X1, e1, st1⟩ := getS2 X0 hx hZ hown (host := "") (Or.inl (wk hw 73 rfl)) Via.refl e0 S_SI (g := (mkF m 2 #[.val (.int j), .val (.int z)] [(.int z), (.int j)])) rfl (hb hby d15_2)
  obtain ⟨_, _, ⟨T2, L2, kk2, nn2⟩, -, X2, ⟨Lc2, hQ2, l2, y2, z2⟩, st2⟩ := Jvm.LawKit.callS X1 hx (y := (⟨"jdk/internal/util/Preconditions", "checkIndex", "(IILjava/util/function/BiFunction;)I"⟩ : MethodName)) hown (mvT hZ (wk hw 75 rfl)) (mvT hZ (wk hw 76 rfl)) (mvT hZ (wk hw 74 rfl)) (mvT hZ (wk hw 77 rfl)) (by decide) (backOf (W := 0) (m16 l Z a0 hw [] j z rg h0 n0 Z0 hj0 hjz r_rg) hZ (wk hw 77 rfl) (wk hw 74 rfl) (by decide) (by decide)) (g := (mkF m 5 #[.val (.int j), .val (.int z)] [rg, (.int z), (.int j)])) rfl (by rw [hml]; rfl) (argsL := [(.int j), (.int z), rg]) (rest := []) (lenOf pdx__IILjava_util_function_BiFunction__I rfl) rfl (by show 2 * 0 + _ ≤ _; exact Nat.le_of_eq rfl) (hb hby d15_5) (fun _ _ => ⟨rfl, e1, nle rfl, nle rfl⟩)
  dsimp only [Pt.U, Pt.locs, Pt.cells, Pt.slots] at X2 l2 y2 z2 st2 hQ2
  subst l2 y2 z2
  obtain ⟨rfl, Nq2, e2⟩ := hQ2
  have N2 := Fr.app N0 Nq2
  obtain ⟨fs, hr, hrun, hended, hW, hsame⟩ := X2.leave (v := none) (fun _ => rfl)
  refine ⟨_, _, pre0 _ ?_, hrun, hended, _, _, rfl, ?_, ⟨_, rfl⟩, hW, hsame.mono (nle rfl) (nle rfl)⟩
  · show Steps p.tables e below (s₁.setTop (mkF m 0 #[.val (.int j), .val (.int z)] [])) _
    refine XS.iloadN X0.here hx rfl (hb hby d15_0) rfl ?_
    refine XS.iloadN X0.here hx rfl (hb hby d15_1) rfl ?_
    show Steps p.tables e below (s₁.setTop (mkF m 2 #[.val (.int j), .val (.int z)] [(.int z), (.int j)])) _
    refine st1 _ ?_
    show Steps p.tables e below (T1.setTop (mkF m 5 #[.val (.int j), .val (.int z)] [rg, (.int z), (.int j)])) _
    refine st2 _ ?_
    show Steps p.tables e below (T2.setTop (mkF m 8 #[.val (.int j), .val (.int z)] [(.int j)])) _
    refine XS.pop X2.here hx rfl (hb hby d15_8) rfl rfl ?_
    show Steps p.tables e below (T2.setTop (mkF m 9 #[.val (.int j), .val (.int z)] [])) _
    exact X2.returnOut hx Bd.returns (hb hby d15_9) hr
  · show Q_m15 Z j z rg h0 n0 _ T2.heap _
    exact ⟨rfl, N2, e2⟩
theorem pdx__II_V : parseMethodDescriptor "(II)V" = some ⟨[.int, .int], none⟩ := by decide +kernel
theorem d14_0 : decode jdk_43_method_2_code 0 = .ok (.iload_n 1, 1) := by decide +kernel
theorem d14_1 : decode jdk_43_method_2_code 1 = .ok (.aload_n 0, 1) := by decide +kernel
theorem d14_2 : decode jdk_43_method_2_code 2 = .ok (.arraylength, 1) := by decide +kernel
theorem d14_3 : decode jdk_43_method_2_code 3 = .ok (.invokestatic 9, 3) := by decide +kernel
theorem d14_6 : decode jdk_43_method_2_code 6 = .ok (.aload_n 0, 1) := by decide +kernel
theorem d14_7 : decode jdk_43_method_2_code 7 = .ok (.iload_n 1, 1) := by decide +kernel
theorem d14_8 : decode jdk_43_method_2_code 8 = .ok (.baload, 1) := by decide +kernel
theorem d14_9 : decode jdk_43_method_2_code 9 = .ok (.sipush 255, 3) := by decide +kernel
theorem d14_12 : decode jdk_43_method_2_code 12 = .ok (.iand, 1) := by decide +kernel
theorem d14_13 : decode jdk_43_method_2_code 13 = .ok (.i2c, 1) := by decide +kernel
theorem d14_14 : decode jdk_43_method_2_code 14 = .ok (.ireturn, 1) := by decide +kernel
theorem pnx_java_lang_StringLatin1 : plainName "java/lang/StringLatin1" = true := by first | (simp [plainName, overriddenIn]; done) | decide +kernel
def Q_m14 (Z : State) (t : Addr) (k : ClassId) (z : Int32) (vs : List Value) (j : Int32) (x : Int32) (rg : Value) (h0 : Heap) (n0 : Nat) (v : Option Value) (h : Heap) (L : List Loc) : Prop := v = (some (.int (own_cv x))) ∧ Fr n0 L ∧ h = h0
theorem ef_m14 (m : MethodId) (t : Addr) (k : ClassId) (z : Int32) (vs : List Value) (j : Int32) (x : Int32) (rg : Value) : entryFrame m #[(.ref t), (.int j)] 2 = mkF m 0 #[.val (.ref t), .val (.int j)] [] := by first | (simp [entryFrame, mkF, argsToLocals, Value.category]; done) | rfl
set_option maxRecDepth 65536 in
set_option maxHeartbeats 40000000 in
theorem m14 (l : Launch) (Z : State) (a0 : Array Value) (hw : ∀ d ∈ tables_1, d.before a0 Z = true) (ws : List Jvm.Cond) (t : Addr) (k : ClassId) (z : Int32) (vs : List Value) (j : Int32) (x : Int32) (rg : Value) (h0 : Heap) (n0 : Nat) (Z0 : n0 ≤ h0.size) (V : Arv Z h0 t k .byte z vs (.int (0 : Int32))) (hj0 : ¬ (j < (0 : Int32))) (hjz : j < z) (hv : vs.getD j.toNatClampNeg (.int (0 : Int32)) = .int x) (S_SI : Sta Z h0 "jdk/internal/util/Preconditions" "SIOOBE_FORMATTER" "Ljava/util/function/BiFunction;" rg) (r_rg : rg.isRef = true) :
    MetFree l (⟨"java/lang/StringLatin1", "charAt", "([BI)C"⟩ : MethodName) (head1 (Jvm.Cond.code (⟨"java/lang/StringLatin1", "charAt", "([BI)C"⟩ : MethodName) jdk_43_method_2_code 2 (some .char) :: ws) ({ frames := 2, cells := 0, slots := 0, locals := 27 } : Room)) (fun ar_ U => ar_ = #[(.ref t), (.int j)] ∧ Z.Warmed39 U.vm ∧ U.heap = h0) (fun _ _ _ _ _ => True) (fun _ U o U' => ∃ v L, o = .returned v ∧ Q_m14 Z t k z vs j x rg h0 n0 v U'.heap L ∧ FrameEnd U o U' L ({ frames := 2, cells := 0, slots := 0, locals := 27 } : Room).cells ({ frames := 2, cells := 0, slots := 0, locals := 27 } : Room).slots) := by
  refine MetFree.of_bodySF (plainFor_of_name pnx_java_lang_StringLatin1) hisR ?_
  intro p e s m args below meth c s₁ Bd hml0 hP hK
  obtain ⟨rfl, hZ, hh⟩ := hP
  have hx := Bd.exec
  have hby := Bd.bytes
  have hml : c.maxLocals = 2 := hml0
  have hown : s.vm.findClass "java/lang/StringLatin1" = some m.cls := findClass_of_methodNamed Bd.named
  have hnm := (name_of_methodNamed Bd.named Bd.method).1
  have X0 : Stand p l e ({ frames := 2, cells := 0, slots := 0, locals := 27 } : Room) s m #[(.ref t), (.int j)] below meth c s₁ [] 0 0 := Stand.of_body Bd
  have e0 : s₁.heap = h0 := by rw [← hh, Bd.state]; rfl
  have N0 := Fr.nil n0
  have pre0 : ∀ tq_, Steps p.tables e below (s₁.setTop (mkF m 0 #[.val (.ref t), .val (.int j)] [])) tq_ → Steps p.tables e below (s₁.setTop (entryFrame m #[(.ref t), (.int j)] 2)) tq_ := fun tq_ kt_ => castTop (ef_m14 m t k z vs j x rg ) kt_
  obtain ⟨c1, Ar1, -, Sz1, Nz1, -⟩ := id V
  obtain ⟨_, _, ⟨T2, L2, kk2, nn2⟩, -, X2, ⟨Lc2, hQ2, l2, y2, z2⟩, st2⟩ := Jvm.LawKit.callS X0 hx (y := (⟨"java/lang/String", "checkIndex", "(II)V"⟩ : MethodName)) hown (mvT hZ (wk hw 70 rfl)) (mvT hZ (wk hw 71 rfl)) (mvT hZ (wk hw 8 rfl)) (mvT hZ (wk hw 72 rfl)) (by decide) (backOf (W := 0) (m15 l Z a0 hw [] j z rg h0 n0 Z0 hj0 hjz S_SI r_rg) hZ (wk hw 72 rfl) (wk hw 8 rfl) (by decide) (by decide)) (g := (mkF m 3 #[.val (.ref t), .val (.int j)] [(.int z), (.int j)])) rfl (by rw [hml]; rfl) (argsL := [(.int j), (.int z)]) (rest := []) (lenOf pdx__II_V rfl) rfl (by show 2 * 0 + _ ≤ _; exact Nat.le_of_eq rfl) (hb hby d14_3) (fun _ _ => ⟨rfl, e0, nle rfl, nle rfl⟩)
  dsimp only [Pt.U, Pt.locs, Pt.cells, Pt.slots] at X2 l2 y2 z2 st2 hQ2
  subst l2 y2 z2
  obtain ⟨rfl, Nq2, e2⟩ := hQ2
  have N2 := Fr.app N0 Nq2
  obtain ⟨c3, Ar3, -, Sz3, -, H3, -⟩ := id V
  have hin3 := inb_of Sz3 ⟨hj0, hjz⟩
  have hat3 := H3 j.toNatClampNeg (Nat.lt_of_not_le fun q => hin3 (Or.inr q))
  rw [hv] at hat3
  obtain ⟨fs, hr, hrun, hended, hW, hsame⟩ := X2.leave (v := some (.int (own_cv x))) (fun h => by rw [Bd.returns] at h; cases h)
  refine ⟨_, _, pre0 _ ?_, hrun, hended, _, _, rfl, ?_, ⟨_, rfl⟩, hW, hsame.mono (nle rfl) (nle rfl)⟩
  · show Steps p.tables e below (s₁.setTop (mkF m 0 #[.val (.ref t), .val (.int j)] [])) _
    refine XS.iloadN X0.here hx rfl (hb hby d14_0) rfl ?_
    refine XS.aloadN X0.here hx rfl (hb hby d14_1) rfl rfl ?_
    show Steps p.tables e below (s₁.setTop (mkF m 2 #[.val (.ref t), .val (.int j)] [(.ref t), (.int j)])) _
    refine X0.arraylength hx (by rw [e0]; exact Ar1.1) (State.isArrayOf_alike hZ.alike Ar1.2.1) (g := (mkF m 2 #[.val (.ref t), .val (.int j)] [(.ref t), (.int j)])) rfl rfl (hb hby d14_2) _ ?_
    rw [len_of Sz1 Nz1]
    show Steps p.tables e below (s₁.setTop (mkF m 3 #[.val (.ref t), .val (.int j)] [(.int z), (.int j)])) _
    refine st2 _ ?_
    show Steps p.tables e below (T2.setTop (mkF m 6 #[.val (.ref t), .val (.int j)] [])) _
    refine XS.aloadN X2.here hx rfl (hb hby d14_6) rfl rfl ?_
    refine XS.iloadN X2.here hx rfl (hb hby d14_7) rfl ?_
    show Steps p.tables e below (T2.setTop (mkF m 8 #[.val (.ref t), .val (.int j)] [(.int j), (.ref t)])) _
    refine X2.baloadBytes hx (j := j) (v := (.int x)) (by rw [e2]; exact Ar3.1) (State.isArrayOf_alike hZ.alike Ar3.2.1) Ar3.2.2 hin3 hat3 (g := (mkF m 8 #[.val (.ref t), .val (.int j)] [(.int j), (.ref t)])) rfl rfl (hb hby d14_8) _ ?_
    show Steps p.tables e below (T2.setTop (mkF m 9 #[.val (.ref t), .val (.int j)] [(.int x)])) _
    refine XS.sipush X2.here hx rfl (hb hby d14_9) ?_
    refine XS.iand X2.here hx rfl (hb hby d14_12) rfl ?_
    show Steps p.tables e below (T2.setTop (mkF m 13 #[.val (.ref t), .val (.int j)] [(.int (x &&& (255 : Int32)))])) _
    show Steps p.tables e below (T2.setTop (mkF m 13 #[.val (.ref t), .val (.int j)] [(.int (x &&& (255 : Int32)))])) _
    refine XS.i2c X2.here hx rfl (hb hby d14_13) rfl ?_
    show Steps p.tables e below (T2.setTop (mkF m 14 #[.val (.ref t), .val (.int j)] [(.int (own_cv x))])) _
    exact own_retN X2 hx (t := .char) (own_cv_nar x) Bd.returns (by simp) (hb hby d14_14) hr
  · show Q_m14 Z t k z vs j x rg h0 n0 _ T2.heap _
    exact ⟨rfl, N2, e2⟩
theorem d13_0 : decode jdk_42_method_154_code 0 = .ok (.getstatic 38, 3) := by decide +kernel
theorem d13_3 : decode jdk_42_method_154_code 3 = .ok (.ifCond .eq 14, 3) := by decide +kernel
theorem d13_6 : decode jdk_42_method_154_code 6 = .ok (.aload_n 0, 1) := by decide +kernel
theorem d13_7 : decode jdk_42_method_154_code 7 = .ok (.getfield 15, 3) := by decide +kernel
theorem d13_10 : decode jdk_42_method_154_code 10 = .ok (.ifCond .ne 7, 3) := by decide +kernel
theorem d13_13 : decode jdk_42_method_154_code 13 = .ok (.iconst 1, 1) := by decide +kernel
theorem d13_14 : decode jdk_42_method_154_code 14 = .ok (.goto 4, 3) := by decide +kernel
theorem d13_18 : decode jdk_42_method_154_code 18 = .ok (.ireturn, 1) := by decide +kernel
def Q_m13l (Z : State) (a : Addr) (wcs : Int32) (h0 : Heap) (n0 : Nat) (v : Option Value) (h : Heap) (L : List Loc) : Prop := v = (some (.int (1 : Int32))) ∧ Fr n0 L ∧ h = h0
theorem ef_m13l (m : MethodId) (a : Addr) (wcs : Int32) : entryFrame m #[(.ref a)] 1 = mkF m 0 #[.val (.ref a)] [] := by first | (simp [entryFrame, mkF, argsToLocals, Value.category]; done) | rfl
set_option maxRecDepth 65536 in
set_option maxHeartbeats 40000000 in
theorem m13l (l : Launch) (Z : State) (a0 : Array Value) (hw : ∀ d ∈ tables_1, d.before a0 Z = true) (ws : List Jvm.Cond) (a : Addr) (wcs : Int32) (h0 : Heap) (n0 : Nat) (Z0 : n0 ≤ h0.size) (E_a : Exa Z h0 a "java/lang/String") (Fc_a : Fld Z h0 a "java/lang/String" "coder" "B" (.int (0 : Int32))) (S_CS : Sta Z h0 "java/lang/String" "COMPACT_STRINGS" "Z" (.int wcs)) (ncs : ¬ (wcs = (0 : Int32))) :
    MetFree l (⟨"java/lang/String", "isLatin1", "()Z"⟩ : MethodName) (head1 (Jvm.Cond.code (⟨"java/lang/String", "isLatin1", "()Z"⟩ : MethodName) jdk_42_method_154_code 1 (some .boolean) :: ws) ({ frames := 0, cells := 0, slots := 0, locals := 0 } : Room)) (fun ar_ U => ar_ = #[(.ref a)] ∧ Z.Warmed39 U.vm ∧ U.heap = h0) (fun _ _ _ _ _ => True) (fun _ U o U' => ∃ v L, o = .returned v ∧ Q_m13l Z a wcs h0 n0 v U'.heap L ∧ FrameEnd U o U' L ({ frames := 0, cells := 0, slots := 0, locals := 0 } : Room).cells ({ frames := 0, cells := 0, slots := 0, locals := 0 } : Room).slots) := by
  refine MetFree.of_bodySF (plainFor_of_name pnx_java_lang_String) hisR ?_
  intro p e s m args below meth c s₁ Bd hml0 hP hK
  obtain ⟨rfl, hZ, hh⟩ := hP
  have hx := Bd.exec
  have hby := Bd.bytes
  have hml : c.maxLocals = 1 := hml0
  have hown : s.vm.findClass "java/lang/String" = some m.cls := findClass_of_methodNamed Bd.named
  have hnm := (name_of_methodNamed Bd.named Bd.method).1
  have X0 : Stand p l e ({ frames := 0, cells := 0, slots := 0, locals := 0 } : Room) s m #[(.ref a)] below meth c s₁ [] 0 0 := Stand.of_body Bd
  have e0 : s₁.heap = h0 := by rw [← hh, Bd.state]; rfl
  have N0 := Fr.nil n0
  have pre0 : ∀ tq_, Steps p.tables e below (s₁.setTop (mkF m 0 #[.val (.ref a)] [])) tq_ → Steps p.tables e below (s₁.setTop (entryFrame m #[(.ref a)] 1)) tq_ := fun tq_ kt_ => castTop (ef_m13l m a wcs ) kt_
  obtain ⟨T1, X1, e1, st1⟩ := getS2 X0 hx hZ hown (host := "") (Or.inl (wk hw 42 rfl)) Via.refl e0 S_CS (g := (mkF m 0 #[.val (.ref a)] [])) rfl (hb hby d13_0)
  obtain ⟨T2, X2, e2, st2⟩ := getF X1 hx hZ hown (host := "") (Or.inl (wk hw 27 rfl)) Via.refl e1 Fc_a (g := (mkF m 7 #[.val (.ref a)] [(.ref a)])) rfl rfl (hb hby d13_7)
  obtain ⟨fs, hr, hrun, hended, hW, hsame⟩ := X2.leave (v := some (.int (1 : Int32))) (fun h => by rw [Bd.returns] at h; cases h)
  refine ⟨_, _, pre0 _ ?_, hrun, hended, _, _, rfl, ?_, ⟨_, rfl⟩, hW, hsame.mono (nle rfl) (nle rfl)⟩
  · show Steps p.tables e below (s₁.setTop (mkF m 0 #[.val (.ref a)] [])) _
    refine st1 _ ?_
    show Steps p.tables e below (T1.setTop (mkF m 3 #[.val (.ref a)] [(.int wcs)])) _
    refine XS.ifNo X1.here hx rfl (hb hby d13_3) rfl ((if0 _ _).trans (feq (ncs : ¬ (wcs = (0 : Int32)))).1) ?_
    show Steps p.tables e below (T1.setTop (mkF m 6 #[.val (.ref a)] [])) _
    refine XS.aloadN X1.here hx rfl (hb hby d13_6) rfl rfl ?_
    show Steps p.tables e below (T1.setTop (mkF m 7 #[.val (.ref a)] [(.ref a)])) _
    refine st2 _ ?_
    show Steps p.tables e below (T2.setTop (mkF m 10 #[.val (.ref a)] [(.int (0 : Int32))])) _
    refine XS.ifNo X2.here hx rfl (hb hby d13_10) rfl ((if0 _ _).trans (teq (by decide : (0 : Int32) = (0 : Int32))).2) ?_
    show Steps p.tables e below (T2.setTop (mkF m 13 #[.val (.ref a)] [])) _
    refine XS.iconst X2.here hx rfl (hb hby d13_13) ?_
    refine XS.goto X2.here hx rfl (pc0 := 14) (pc' := 18) rfl (hb hby d13_14) (by decide) (by decide) ?_
    show Steps p.tables e below (T2.setTop (mkF m 18 #[.val (.ref a)] [(.int (1 : Int32))])) _
    exact own_retN X2 hx (t := .boolean) rfl Bd.returns (by simp) (hb hby d13_18) hr
  · show Q_m13l Z a wcs h0 n0 _ T2.heap _
    exact ⟨rfl, N0, e2⟩
theorem d13_17 : decode jdk_42_method_154_code 17 = .ok (.iconst 0, 1) := by decide +kernel
def Q_m13u (Z : State) (a : Addr) (wcs : Int32) (h0 : Heap) (n0 : Nat) (v : Option Value) (h : Heap) (L : List Loc) : Prop := v = (some (.int (0 : Int32))) ∧ Fr n0 L ∧ h = h0
theorem ef_m13u (m : MethodId) (a : Addr) (wcs : Int32) : entryFrame m #[(.ref a)] 1 = mkF m 0 #[.val (.ref a)] [] := by first | (simp [entryFrame, mkF, argsToLocals, Value.category]; done) | rfl
set_option maxRecDepth 65536 in
set_option maxHeartbeats 40000000 in
theorem m13u (l : Launch) (Z : State) (a0 : Array Value) (hw : ∀ d ∈ tables_1, d.before a0 Z = true) (ws : List Jvm.Cond) (a : Addr) (wcs : Int32) (h0 : Heap) (n0 : Nat) (Z0 : n0 ≤ h0.size) (E_a : Exa Z h0 a "java/lang/String") (Fc_a : Fld Z h0 a "java/lang/String" "coder" "B" (.int (1 : Int32))) (S_CS : Sta Z h0 "java/lang/String" "COMPACT_STRINGS" "Z" (.int wcs)) (ncs : ¬ (wcs = (0 : Int32))) :
    MetFree l (⟨"java/lang/String", "isLatin1", "()Z"⟩ : MethodName) (head1 (Jvm.Cond.code (⟨"java/lang/String", "isLatin1", "()Z"⟩ : MethodName) jdk_42_method_154_code 1 (some .boolean) :: ws) ({ frames := 0, cells := 0, slots := 0, locals := 0 } : Room)) (fun ar_ U => ar_ = #[(.ref a)] ∧ Z.Warmed39 U.vm ∧ U.heap = h0) (fun _ _ _ _ _ => True) (fun _ U o U' => ∃ v L, o = .returned v ∧ Q_m13u Z a wcs h0 n0 v U'.heap L ∧ FrameEnd U o U' L ({ frames := 0, cells := 0, slots := 0, locals := 0 } : Room).cells ({ frames := 0, cells := 0, slots := 0, locals := 0 } : Room).slots) := by
  refine MetFree.of_bodySF (plainFor_of_name pnx_java_lang_String) hisR ?_
  intro p e s m args below meth c s₁ Bd hml0 hP hK
  obtain ⟨rfl, hZ, hh⟩ := hP
  have hx := Bd.exec
  have hby := Bd.bytes
  have hml : c.maxLocals = 1 := hml0
  have hown : s.vm.findClass "java/lang/String" = some m.cls := findClass_of_methodNamed Bd.named
  have hnm := (name_of_methodNamed Bd.named Bd.method).1
  have X0 : Stand p l e ({ frames := 0, cells := 0, slots := 0, locals := 0 } : Room) s m #[(.ref a)] below meth c s₁ [] 0 0 := Stand.of_body Bd
  have e0 : s₁.heap = h0 := by rw [← hh, Bd.state]; rfl
  have N0 := Fr.nil n0
  have pre0 : ∀ tq_, Steps p.tables e below (s₁.setTop (mkF m 0 #[.val (.ref a)] [])) tq_ → Steps p.tables e below (s₁.setTop (entryFrame m #[(.ref a)] 1)) tq_ := fun tq_ kt_ => castTop (ef_m13u m a wcs ) kt_
  obtain ⟨T1, X1, e1, st1⟩ := getS2 X0 hx hZ hown (host := "") (Or.inl (wk hw 42 rfl)) Via.refl e0 S_CS (g := (mkF m 0 #[.val (.ref a)] [])) rfl (hb hby d13_0)
  obtain ⟨T2, X2, e2, st2⟩ := getF X1 hx hZ hown (host := "") (Or.inl (wk hw 27 rfl)) Via.refl e1 Fc_a (g := (mkF m 7 #[.val (.ref a)] [(.ref a)])) rfl rfl (hb hby d13_7)
  obtain ⟨fs, hr, hrun, hended, hW, hsame⟩ := X2.leave (v := some (.int (0 : Int32))) (fun h => by rw [Bd.returns] at h; cases h)
  refine ⟨_, _, pre0 _ ?_, hrun, hended, _, _, rfl, ?_, ⟨_, rfl⟩, hW, hsame.mono (nle rfl) (nle rfl)⟩
  · show Steps p.tables e below (s₁.setTop (mkF m 0 #[.val (.ref a)] [])) _
    refine st1 _ ?_
    show Steps p.tables e below (T1.setTop (mkF m 3 #[.val (.ref a)] [(.int wcs)])) _
    refine XS.ifNo X1.here hx rfl (hb hby d13_3) rfl ((if0 _ _).trans (feq (ncs : ¬ (wcs = (0 : Int32)))).1) ?_
    show Steps p.tables e below (T1.setTop (mkF m 6 #[.val (.ref a)] [])) _
    refine XS.aloadN X1.here hx rfl (hb hby d13_6) rfl rfl ?_
    show Steps p.tables e below (T1.setTop (mkF m 7 #[.val (.ref a)] [(.ref a)])) _
    refine st2 _ ?_
    show Steps p.tables e below (T2.setTop (mkF m 10 #[.val (.ref a)] [(.int (1 : Int32))])) _
    refine XS.ifYes X2.here hx rfl (pc0 := 10) (pc' := 17) rfl (hb hby d13_10) rfl ((if0 _ _).trans (feq (by decide : ¬ ((1 : Int32) = (0 : Int32)))).2) (by decide) (by decide) ?_
    show Steps p.tables e below (T2.setTop (mkF m 17 #[.val (.ref a)] [])) _
    refine XS.iconst X2.here hx rfl (hb hby d13_17) ?_
    show Steps p.tables e below (T2.setTop (mkF m 18 #[.val (.ref a)] [(.int (0 : Int32))])) _
    exact own_retN X2 hx (t := .boolean) rfl Bd.returns (by simp) (hb hby d13_18) hr
  · show Q_m13u Z a wcs h0 n0 _ T2.heap _
    exact ⟨rfl, N0, e2⟩
theorem d24_0 : decode jdk_52_method_6_code 0 = .ok (.aload_n 0, 1) := by decide +kernel
theorem d24_1 : decode jdk_52_method_6_code 1 = .ok (.arraylength, 1) := by decide +kernel
theorem d24_2 : decode jdk_52_method_6_code 2 = .ok (.iconst 1, 1) := by decide +kernel
theorem d24_3 : decode jdk_52_method_6_code 3 = .ok (.ishr, 1) := by decide +kernel
theorem d24_4 : decode jdk_52_method_6_code 4 = .ok (.ireturn, 1) := by decide +kernel
def Q_m24 (Z : State) (t : Addr) (k : ClassId) (y : Int32) (vs : List Value) (z : Int32) (h0 : Heap) (n0 : Nat) (v : Option Value) (h : Heap) (L : List Loc) : Prop := v = (some (.int z)) ∧ Fr n0 L ∧ h = h0
theorem ef_m24 (m : MethodId) (t : Addr) (k : ClassId) (y : Int32) (vs : List Value) (z : Int32) : entryFrame m #[(.ref t)] 1 = mkF m 0 #[.val (.ref t)] [] := by first | (simp [entryFrame, mkF, argsToLocals, Value.category]; done) | rfl
set_option maxRecDepth 65536 in
set_option maxHeartbeats 40000000 in
theorem m24 (l : Launch) (Z : State) (a0 : Array Value) (hw : ∀ d ∈ tables_1, d.before a0 Z = true) (ws : List Jvm.Cond) (t : Addr) (k : ClassId) (y : Int32) (vs : List Value) (z : Int32) (h0 : Heap) (n0 : Nat) (Z0 : n0 ≤ h0.size) (V : Arv Z h0 t k .byte y vs (.int (0 : Int32))) (hz : (y >>> ((1 : Int32) &&& 31)) = z) :
    MetFree l (⟨"java/lang/StringUTF16", "length", "([B)I"⟩ : MethodName) (head1 (Jvm.Cond.code (⟨"java/lang/StringUTF16", "length", "([B)I"⟩ : MethodName) jdk_52_method_6_code 1 (some .int) :: ws) ({ frames := 0, cells := 0, slots := 0, locals := 0 } : Room)) (fun ar_ U => ar_ = #[(.ref t)] ∧ Z.Warmed39 U.vm ∧ U.heap = h0) (fun _ _ _ _ _ => True) (fun _ U o U' => ∃ v L, o = .returned v ∧ Q_m24 Z t k y vs z h0 n0 v U'.heap L ∧ FrameEnd U o U' L ({ frames := 0, cells := 0, slots := 0, locals := 0 } : Room).cells ({ frames := 0, cells := 0, slots := 0, locals := 0 } : Room).slots) := by
  refine MetFree.of_bodySF (plainFor_of_name pnx_java_lang_StringUTF16) hisR ?_
  intro p e s m args below meth c s₁ Bd hml0 hP hK
  obtain ⟨rfl, hZ, hh⟩ := hP
  have hx := Bd.exec
  have hby := Bd.bytes
  have hml : c.maxLocals = 1 := hml0
  have hown : s.vm.findClass "java/lang/StringUTF16" = some m.cls := findClass_of_methodNamed Bd.named
  have hnm := (name_of_methodNamed Bd.named Bd.method).1
  have X0 : Stand p l e ({ frames := 0, cells := 0, slots := 0, locals := 0 } : Room) s m #[(.ref t)] below meth c s₁ [] 0 0 := Stand.of_body Bd
  have e0 : s₁.heap = h0 := by rw [← hh, Bd.state]; rfl
  have N0 := Fr.nil n0
  have pre0 : ∀ tq_, Steps p.tables e below (s₁.setTop (mkF m 0 #[.val (.ref t)] [])) tq_ → Steps p.tables e below (s₁.setTop (entryFrame m #[(.ref t)] 1)) tq_ := fun tq_ kt_ => castTop (ef_m24 m t k y vs z ) kt_
  obtain ⟨c1, Ar1, -, Sz1, Nz1, -⟩ := id V
  obtain ⟨fs, hr, hrun, hended, hW, hsame⟩ := X0.leave (v := some (.int z)) (fun h => by rw [Bd.returns] at h; cases h)
  refine ⟨_, _, pre0 _ ?_, hrun, hended, _, _, rfl, ?_, ⟨_, rfl⟩, hW, hsame.mono (nle rfl) (nle rfl)⟩
  · show Steps p.tables e below (s₁.setTop (mkF m 0 #[.val (.ref t)] [])) _
    refine XS.aloadN X0.here hx rfl (hb hby d24_0) rfl rfl ?_
    show Steps p.tables e below (s₁.setTop (mkF m 1 #[.val (.ref t)] [(.ref t)])) _
    refine X0.arraylength hx (by rw [e0]; exact Ar1.1) (State.isArrayOf_alike hZ.alike Ar1.2.1) (g := (mkF m 1 #[.val (.ref t)] [(.ref t)])) rfl rfl (hb hby d24_1) _ ?_
    rw [len_of Sz1 Nz1]
    show Steps p.tables e below (s₁.setTop (mkF m 2 #[.val (.ref t)] [(.int y)])) _
    refine XS.iconst X0.here hx rfl (hb hby d24_2) ?_
    show Steps p.tables e below (s₁.setTop (mkF m 3 #[.val (.ref t)] [(.int (1 : Int32)), (.int y)])) _
    show Steps p.tables e below (s₁.setTop (mkF m 3 #[.val (.ref t)] [(.int (1 : Int32)), (.int y)])) _
    refine XS.ishr X0.here hx rfl (hb hby d24_3) rfl ?_
    show Steps p.tables e below (s₁.setTop (mkF m 4 #[.val (.ref t)] [(.int (y >>> ((1 : Int32) &&& 31)))])) _
    rw [hz]
    show Steps p.tables e below (s₁.setTop (mkF m 4 #[.val (.ref t)] [(.int z)])) _
    exact retI X0 hx Bd.returns (hb hby d24_4) hr
  · show Q_m24 Z t k y vs z h0 n0 _ s₁.heap _
    exact ⟨rfl, N0, e0⟩
theorem pdx___B_I : parseMethodDescriptor "([B)I" = some ⟨[(.array .byte)], some .int⟩ := by decide +kernel
theorem d23_0 : decode jdk_52_method_91_code 0 = .ok (.iload_n 0, 1) := by decide +kernel
theorem d23_1 : decode jdk_52_method_91_code 1 = .ok (.aload_n 1, 1) := by decide +kernel
theorem d23_2 : decode jdk_52_method_91_code 2 = .ok (.invokestatic 48, 3) := by decide +kernel
theorem d23_5 : decode jdk_52_method_91_code 5 = .ok (.invokestatic 414, 3) := by decide +kernel
theorem d23_8 : decode jdk_52_method_91_code 8 = .ok (.return_, 1) := by decide +kernel
def Q_m23 (Z : State) (t : Addr) (k : ClassId) (y : Int32) (vs : List Value) (z : Int32) (j : Int32) (rg : Value) (h0 : Heap) (n0 : Nat) (v : Option Value) (h : Heap) (L : List Loc) : Prop := v = none ∧ Fr n0 L ∧ h = h0
theorem ef_m23 (m : MethodId) (t : Addr) (k : ClassId) (y : Int32) (vs : List Value) (z : Int32) (j : Int32) (rg : Value) : entryFrame m #[(.int j), (.ref t)] 2 = mkF m 0 #[.val (.int j), .val (.ref t)] [] := by first | (simp [entryFrame, mkF, argsToLocals, Value.category]; done) | rfl
set_option maxRecDepth 65536 in
set_option maxHeartbeats 40000000 in
theorem m23 (l : Launch) (Z : State) (a0 : Array Value) (hw : ∀ d ∈ tables_1, d.before a0 Z = true) (ws : List Jvm.Cond) (t : Addr) (k : ClassId) (y : Int32) (vs : List Value) (z : Int32) (j : Int32) (rg : Value) (h0 : Heap) (n0 : Nat) (Z0 : n0 ≤ h0.size) (V : Arv Z h0 t k .byte y vs (.int (0 : Int32))) (hz : (y >>> ((1 : Int32) &&& 31)) = z) (hj0 : ¬ (j < (0 : Int32))) (hjz : j < z) (S_SI : Sta Z h0 "jdk/internal/util/Preconditions" "SIOOBE_FORMATTER" "Ljava/util/function/BiFunction;" rg) (r_rg : rg.isRef = true) :
    MetFree l (⟨"java/lang/StringUTF16", "checkIndex", "(I[B)V"⟩ : MethodName) (head1 (Jvm.Cond.code (⟨"java/lang/StringUTF16", "checkIndex", "(I[B)V"⟩ : MethodName) jdk_52_method_91_code 2 none :: ws) ({ frames := 2, cells := 0, slots := 0, locals := 27 } : Room)) (fun ar_ U => ar_ = #[(.int j), (.ref t)] ∧ Z.Warmed39 U.vm ∧ U.heap = h0) (fun _ _ _ _ _ => True) (fun _ U o U' => ∃ v L, o = .returned v ∧ Q_m23 Z t k y vs z j rg h0 n0 v U'.heap L ∧ FrameEnd U o U' L ({ frames := 2, cells := 0, slots := 0, locals := 27 } : Room).cells ({ frames := 2, cells := 0, slots := 0, locals := 27 } : Room).slots) := by
  refine MetFree.of_bodySF (plainFor_of_name pnx_java_lang_StringUTF16) hisR ?_
  intro p e s m args below meth c s₁ Bd hml0 hP hK
  obtain ⟨rfl, hZ, hh⟩ := hP
  have hx := Bd.exec
  have hby := Bd.bytes
  have hml : c.maxLocals = 2 := hml0
  have hown : s.vm.findClass "java/lang/StringUTF16" = some m.cls := findClass_of_methodNamed Bd.named
  have hnm := (name_of_methodNamed Bd.named Bd.method).1
  have X0 : Stand p l e ({ frames := 2, cells := 0, slots := 0, locals := 27 } : Room) s m #[(.int j), (.ref t)] below meth c s₁ [] 0 0 := Stand.of_body Bd
  have e0 : s₁.heap = h0 := by rw [← hh, Bd.state]; rfl
  have N0 := Fr.nil n0
  have pre0 : ∀ tq_, Steps p.tables e below (s₁.setTop (mkF m 0 #[.val (.int j), .val (.ref t)] [])) tq_ → Steps p.tables e below (s₁.setTop (entryFrame m #[(.int j), (.ref t)] 2)) tq_ := fun tq_ kt_ => castTop (ef_m23 m t k y vs z j rg ) kt_
  obtain ⟨_, _, ⟨T1, L1, kk1, nn1⟩, -, X1, ⟨Lc1, hQ1, l1, y1, z1⟩, st1⟩ := Jvm.LawKit.callS X0 hx (y := (⟨"java/lang/StringUTF16", "length", "([B)I"⟩ : MethodName)) hown (mvT hZ (wk hw 103 rfl)) (mvT hZ (wk hw 104 rfl)) (mvT hZ (wk hw 45 rfl)) (mvT hZ (wk hw 105 rfl)) (by decide) (backOf (W := 1) (m24 l Z a0 hw [] t k y vs z h0 n0 Z0 V hz) hZ (wk hw 105 rfl) (wk hw 45 rfl) (by decide) (by decide)) (g := (mkF m 2 #[.val (.int j), .val (.ref t)] [(.ref t), (.int j)])) rfl (by rw [hml]; rfl) (argsL := [(.ref t)]) (rest := [(.int j)]) (lenOf pdx___B_I rfl) rfl (by show 2 * 0 + _ ≤ _; exact Nat.le_of_eq rfl) (hb hby d23_2) (fun _ _ => ⟨rfl, e0, nle rfl, nle rfl⟩)
  dsimp only [Pt.U, Pt.locs, Pt.cells, Pt.slots] at X1 l1 y1 z1 st1 hQ1
  subst l1 y1 z1
  obtain ⟨rfl, Nq1, e1⟩ := hQ1
  have N1 := Fr.app N0 Nq1
  obtain ⟨_, _, ⟨T2, L2, kk2, nn2⟩, -, X2, ⟨Lc2, hQ2, l2, y2, z2⟩, st2⟩ := Jvm.LawKit.callS X1 hx (y := (⟨"java/lang/String", "checkIndex", "(II)V"⟩ : MethodName)) hown (mvT hZ (wk hw 106 rfl)) (mvT hZ (wk hw 71 rfl)) (mvT hZ (wk hw 8 rfl)) (mvT hZ (wk hw 72 rfl)) (by decide) (backOf (W := 0) (m15 l Z a0 hw [] j z rg h0 n0 Z0 hj0 hjz S_SI r_rg) hZ (wk hw 72 rfl) (wk hw 8 rfl) (by decide) (by decide)) (g := (mkF m 5 #[.val (.int j), .val (.ref t)] [(.int z), (.int j)])) rfl (by rw [hml]; rfl) (argsL := [(.int j), (.int z)]) (rest := []) (lenOf pdx__II_V rfl) rfl (by show 2 * 0 + _ ≤ _; exact Nat.le_of_eq rfl) (hb hby d23_5) (fun _ _ => ⟨rfl, e1, nle rfl, nle rfl⟩)
  dsimp only [Pt.U, Pt.locs, Pt.cells, Pt.slots] at X2 l2 y2 z2 st2 hQ2
  subst l2 y2 z2
  obtain ⟨rfl, Nq2, e2⟩ := hQ2
  have N2 := Fr.app N1 Nq2
  obtain ⟨fs, hr, hrun, hended, hW, hsame⟩ := X2.leave (v := none) (fun _ => rfl)
  refine ⟨_, _, pre0 _ ?_, hrun, hended, _, _, rfl, ?_, ⟨_, rfl⟩, hW, hsame.mono (nle rfl) (nle rfl)⟩
  · show Steps p.tables e below (s₁.setTop (mkF m 0 #[.val (.int j), .val (.ref t)] [])) _
    refine XS.iloadN X0.here hx rfl (hb hby d23_0) rfl ?_
    refine XS.aloadN X0.here hx rfl (hb hby d23_1) rfl rfl ?_
    show Steps p.tables e below (s₁.setTop (mkF m 2 #[.val (.int j), .val (.ref t)] [(.ref t), (.int j)])) _
    refine st1 _ ?_
    show Steps p.tables e below (T1.setTop (mkF m 5 #[.val (.int j), .val (.ref t)] [(.int z), (.int j)])) _
    refine st2 _ ?_
    show Steps p.tables e below (T2.setTop (mkF m 8 #[.val (.int j), .val (.ref t)] [])) _
    exact X2.returnOut hx Bd.returns (hb hby d23_8) hr
  · show Q_m23 Z t k y vs z j rg h0 n0 _ T2.heap _
    exact ⟨rfl, N2, e2⟩
theorem pdx__I_B_V : parseMethodDescriptor "(I[B)V" = some ⟨[.int, (.array .byte)], none⟩ := by decide +kernel
theorem d22_0 : decode jdk_52_method_83_code 0 = .ok (.iload_n 1, 1) := by decide +kernel
theorem d22_1 : decode jdk_52_method_83_code 1 = .ok (.aload_n 0, 1) := by decide +kernel
theorem d22_2 : decode jdk_52_method_83_code 2 = .ok (.invokestatic 67, 3) := by decide +kernel
theorem d22_5 : decode jdk_52_method_83_code 5 = .ok (.aload_n 0, 1) := by decide +kernel
theorem d22_6 : decode jdk_52_method_83_code 6 = .ok (.iload_n 1, 1) := by decide +kernel
theorem d22_7 : decode jdk_52_method_83_code 7 = .ok (.invokestatic 71, 3) := by decide +kernel
theorem d22_10 : decode jdk_52_method_83_code 10 = .ok (.ireturn, 1) := by decide +kernel
def Q_m22 (Z : State) (t : Addr) (k : ClassId) (y : Int32) (vs : List Value) (z : Int32) (j : Int32) (x0 : Int32) (x1 : Int32) (rg : Value) (h0 : Heap) (n0 : Nat) (v : Option Value) (h : Heap) (L : List Loc) : Prop := v = (some (.int (own_u x0 x1))) ∧ Fr n0 L ∧ h = h0
theorem ef_m22 (m : MethodId) (t : Addr) (k : ClassId) (y : Int32) (vs : List Value) (z : Int32) (j : Int32) (x0 : Int32) (x1 : Int32) (rg : Value) : entryFrame m #[(.ref t), (.int j)] 2 = mkF m 0 #[.val (.ref t), .val (.int j)] [] := by first | (simp [entryFrame, mkF, argsToLocals, Value.category]; done) | rfl
set_option maxRecDepth 65536 in
set_option maxHeartbeats 40000000 in
theorem m22 (l : Launch) (Z : State) (a0 : Array Value) (hw : ∀ d ∈ tables_1, d.before a0 Z = true) (ws : List Jvm.Cond) (t : Addr) (k : ClassId) (y : Int32) (vs : List Value) (z : Int32) (j : Int32) (x0 : Int32) (x1 : Int32) (rg : Value) (h0 : Heap) (n0 : Nat) (Z0 : n0 ≤ h0.size) (V : Arv Z h0 t k .byte y vs (.int (0 : Int32))) (hz : (y >>> ((1 : Int32) &&& 31)) = z) (hj0 : ¬ (j < (0 : Int32))) (hjz : j < z) (S_SI : Sta Z h0 "jdk/internal/util/Preconditions" "SIOOBE_FORMATTER" "Ljava/util/function/BiFunction;" rg) (r_rg : rg.isRef = true) (S_AD : Sta Z h0 "java/lang/StringUTF16" "$assertionsDisabled" "Z" (.int (1 : Int32))) (S_HI : Sta Z h0 "java/lang/StringUTF16" "HI_BYTE_SHIFT" "I" (.int (0 : Int32))) (S_LO : Sta Z h0 "java/lang/StringUTF16" "LO_BYTE_SHIFT" "I" (.int (8 : Int32))) (hb0 : ¬ ((j <<< ((1 : Int32) &&& 31)) < (0 : Int32))) (hb1 : (j <<< ((1 : Int32) &&& 31)) < y) (hc0 : ¬ (((j <<< ((1 : Int32) &&& 31)) + (1 : Int32)) < (0 : Int32))) (hc1 : ((j <<< ((1 : Int32) &&& 31)) + (1 : Int32)) < y) (hv0 : vs.getD (j <<< ((1 : Int32) &&& 31)).toNatClampNeg (.int (0 : Int32)) = .int x0) (hv1 : vs.getD ((j <<< ((1 : Int32) &&& 31)) + (1 : Int32)).toNatClampNeg (.int (0 : Int32)) = .int x1) :
    MetFree l (⟨"java/lang/StringUTF16", "charAt", "([BI)C"⟩ : MethodName) (head1 (Jvm.Cond.code (⟨"java/lang/StringUTF16", "charAt", "([BI)C"⟩ : MethodName) jdk_52_method_83_code 2 (some .char) :: ws) ({ frames := 3, cells := 0, slots := 0, locals := 40 } : Room)) (fun ar_ U => ar_ = #[(.ref t), (.int j)] ∧ Z.Warmed39 U.vm ∧ U.heap = h0) (fun _ _ _ _ _ => True) (fun _ U o U' => ∃ v L, o = .returned v ∧ Q_m22 Z t k y vs z j x0 x1 rg h0 n0 v U'.heap L ∧ FrameEnd U o U' L ({ frames := 3, cells := 0, slots := 0, locals := 40 } : Room).cells ({ frames := 3, cells := 0, slots := 0, locals := 40 } : Room).slots) := by
  refine MetFree.of_bodySF (plainFor_of_name pnx_java_lang_StringUTF16) hisR ?_
  intro p e s m args below meth c s₁ Bd hml0 hP hK
  obtain ⟨rfl, hZ, hh⟩ := hP
  have hx := Bd.exec
  have hby := Bd.bytes
  have hml : c.maxLocals = 2 := hml0
  have hown : s.vm.findClass "java/lang/StringUTF16" = some m.cls := findClass_of_methodNamed Bd.named
  have hnm := (name_of_methodNamed Bd.named Bd.method).1
  have X0 : Stand p l e ({ frames := 3, cells := 0, slots := 0, locals := 40 } : Room) s m #[(.ref t), (.int j)] below meth c s₁ [] 0 0 := Stand.of_body Bd
  have e0 : s₁.heap = h0 := by rw [← hh, Bd.state]; rfl
  have N0 := Fr.nil n0
  have pre0 : ∀ tq_, Steps p.tables e below (s₁.setTop (mkF m 0 #[.val (.ref t), .val (.int j)] [])) tq_ → Steps p.tables e below (s₁.setTop (entryFrame m #[(.ref t), (.int j)] 2)) tq_ := fun tq_ kt_ => castTop (ef_m22 m t k y vs z j x0 x1 rg ) kt_
  obtain ⟨_, _, ⟨T1, L1, kk1, nn1⟩, -, X1, ⟨Lc1, hQ1, l1, y1, z1⟩, st1⟩ := Jvm.LawKit.callS X0 hx (y := (⟨"java/lang/StringUTF16", "checkIndex", "(I[B)V"⟩ : MethodName)) hown (mvT hZ (wk hw 100 rfl)) (mvT hZ (wk hw 101 rfl)) (mvT hZ (wk hw 45 rfl)) (mvT hZ (wk hw 102 rfl)) (by decide) (backOf (W := 0) (m23 l Z a0 hw [] t k y vs z j rg h0 n0 Z0 V hz hj0 hjz S_SI r_rg) hZ (wk hw 102 rfl) (wk hw 45 rfl) (by decide) (by decide)) (g := (mkF m 2 #[.val (.ref t), .val (.int j)] [(.ref t), (.int j)])) rfl (by rw [hml]; rfl) (argsL := [(.int j), (.ref t)]) (rest := []) (lenOf pdx__I_B_V rfl) rfl (by show 2 * 0 + _ ≤ _; exact Nat.le_of_eq rfl) (hb hby d22_2) (fun _ _ => ⟨rfl, e0, nle rfl, nle rfl⟩)
  dsimp only [Pt.U, Pt.locs, Pt.cells, Pt.slots] at X1 l1 y1 z1 st1 hQ1
  subst l1 y1 z1
  obtain ⟨rfl, Nq1, e1⟩ := hQ1
  have N1 := Fr.app N0 Nq1
  obtain ⟨_, _, ⟨T2, L2, kk2, nn2⟩, -, X2, ⟨Lc2, hQ2, l2, y2, z2⟩, st2⟩ := Jvm.LawKit.callS X1 hx (y := (⟨"java/lang/StringUTF16", "getChar", "([BI)C"⟩ : MethodName)) hown (mvT hZ (wk hw 94 rfl)) (mvT hZ (wk hw 95 rfl)) (mvT hZ (wk hw 45 rfl)) (mvT hZ (wk hw 96 rfl)) (by decide) (backOf (W := 0) (m21 l Z a0 hw [] t k y vs j x0 x1 h0 n0 Z0 V S_AD S_HI S_LO hb0 hb1 hc0 hc1 hv0 hv1) hZ (wk hw 96 rfl) (wk hw 45 rfl) (by decide) (by decide)) (g := (mkF m 7 #[.val (.ref t), .val (.int j)] [(.int j), (.ref t)])) rfl (by rw [hml]; rfl) (argsL := [(.ref t), (.int j)]) (rest := []) (lenOf pdx___BI_C rfl) rfl (by show 2 * 0 + _ ≤ _; exact Nat.le_of_eq rfl) (hb hby d22_7) (fun _ _ => ⟨rfl, e1, nle rfl, nle rfl⟩)
  dsimp only [Pt.U, Pt.locs, Pt.cells, Pt.slots] at X2 l2 y2 z2 st2 hQ2
  subst l2 y2 z2
  obtain ⟨rfl, Nq2, e2⟩ := hQ2
  have N2 := Fr.app N1 Nq2
  obtain ⟨fs, hr, hrun, hended, hW, hsame⟩ := X2.leave (v := some (.int (own_u x0 x1))) (fun h => by rw [Bd.returns] at h; cases h)
  refine ⟨_, _, pre0 _ ?_, hrun, hended, _, _, rfl, ?_, ⟨_, rfl⟩, hW, hsame.mono (nle rfl) (nle rfl)⟩
  · show Steps p.tables e below (s₁.setTop (mkF m 0 #[.val (.ref t), .val (.int j)] [])) _
    refine XS.iloadN X0.here hx rfl (hb hby d22_0) rfl ?_
    refine XS.aloadN X0.here hx rfl (hb hby d22_1) rfl rfl ?_
    show Steps p.tables e below (s₁.setTop (mkF m 2 #[.val (.ref t), .val (.int j)] [(.ref t), (.int j)])) _
    refine st1 _ ?_
    show Steps p.tables e below (T1.setTop (mkF m 5 #[.val (.ref t), .val (.int j)] [])) _
    refine XS.aloadN X1.here hx rfl (hb hby d22_5) rfl rfl ?_
    refine XS.iloadN X1.here hx rfl (hb hby d22_6) rfl ?_
    show Steps p.tables e below (T1.setTop (mkF m 7 #[.val (.ref t), .val (.int j)] [(.int j), (.ref t)])) _
    refine st2 _ ?_
    show Steps p.tables e below (T2.setTop (mkF m 10 #[.val (.ref t), .val (.int j)] [(.int (own_u x0 x1))])) _
    exact own_retN X2 hx (t := .char) (own_u_nar x0 x1) Bd.returns (by simp) (hb hby d22_10) hr
  · show Q_m22 Z t k y vs z j x0 x1 rg h0 n0 _ T2.heap _
    exact ⟨rfl, N2, e2⟩
theorem pdx___Z : parseMethodDescriptor "()Z" = some ⟨[], some .boolean⟩ := by decide +kernel
theorem d12_0 : decode jdk_42_method_56_code 0 = .ok (.aload_n 0, 1) := by decide +kernel
theorem d12_1 : decode jdk_42_method_56_code 1 = .ok (.invokevirtual 492, 3) := by decide +kernel
theorem d12_4 : decode jdk_42_method_56_code 4 = .ok (.ifCond .eq 12, 3) := by decide +kernel
theorem d12_16 : decode jdk_42_method_56_code 16 = .ok (.aload_n 0, 1) := by decide +kernel
theorem d12_17 : decode jdk_42_method_56_code 17 = .ok (.getfield 9, 3) := by decide +kernel
theorem d12_20 : decode jdk_42_method_56_code 20 = .ok (.iload_n 1, 1) := by decide +kernel
theorem d12_21 : decode jdk_42_method_56_code 21 = .ok (.invokestatic 498, 3) := by decide +kernel
theorem d12_24 : decode jdk_42_method_56_code 24 = .ok (.ireturn, 1) := by decide +kernel
def Q_m12u (Z : State) (a : Addr) (t : Addr) (k : ClassId) (y : Int32) (vs : List Value) (z : Int32) (j : Int32) (x0 : Int32) (x1 : Int32) (wcs : Int32) (rg : Value) (h0 : Heap) (n0 : Nat) (v : Option Value) (h : Heap) (L : List Loc) : Prop := v = (some (.int (own_u x0 x1))) ∧ Fr n0 L ∧ h = h0
theorem ef_m12u (m : MethodId) (a : Addr) (t : Addr) (k : ClassId) (y : Int32) (vs : List Value) (z : Int32) (j : Int32) (x0 : Int32) (x1 : Int32) (wcs : Int32) (rg : Value) : entryFrame m #[(.ref a), (.int j)] 2 = mkF m 0 #[.val (.ref a), .val (.int j)] [] := by first | (simp [entryFrame, mkF, argsToLocals, Value.category]; done) | rfl
set_option maxRecDepth 65536 in
set_option maxHeartbeats 40000000 in
theorem m12u (l : Launch) (Z : State) (a0 : Array Value) (hw : ∀ d ∈ tables_1, d.before a0 Z = true) (ws : List Jvm.Cond) (a : Addr) (t : Addr) (k : ClassId) (y : Int32) (vs : List Value) (z : Int32) (j : Int32) (x0 : Int32) (x1 : Int32) (wcs : Int32) (rg : Value) (h0 : Heap) (n0 : Nat) (Z0 : n0 ≤ h0.size) (E_a : Exa Z h0 a "java/lang/String") (Fc_a : Fld Z h0 a "java/lang/String" "coder" "B" (.int (1 : Int32))) (Fv_a : Fld Z h0 a "java/lang/String" "value" "[B" (.ref t)) (V : Arv Z h0 t k .byte y vs (.int (0 : Int32))) (hz : (y >>> ((1 : Int32) &&& 31)) = z) (hj0 : ¬ (j < (0 : Int32))) (hjz : j < z) (S_CS : Sta Z h0 "java/lang/String" "COMPACT_STRINGS" "Z" (.int wcs)) (ncs : ¬ (wcs = (0 : Int32))) (S_SI : Sta Z h0 "jdk/internal/util/Preconditions" "SIOOBE_FORMATTER" "Ljava/util/function/BiFunction;" rg) (r_rg : rg.isRef = true) (S_AD : Sta Z h0 "java/lang/StringUTF16" "$assertionsDisabled" "Z" (.int (1 : Int32))) (S_HI : Sta Z h0 "java/lang/StringUTF16" "HI_BYTE_SHIFT" "I" (.int (0 : Int32))) (S_LO : Sta Z h0 "java/lang/StringUTF16" "LO_BYTE_SHIFT" "I" (.int (8 : Int32))) (hb0 : ¬ ((j <<< ((1 : Int32) &&& 31)) < (0 : Int32))) (hb1 : (j <<< ((1 : Int32) &&& 31)) < y) (hc0 : ¬ (((j <<< ((1 : Int32) &&& 31)) + (1 : Int32)) < (0 : Int32))) (hc1 : ((j <<< ((1 : Int32) &&& 31)) + (1 : Int32)) < y) (hv0 : vs.getD (j <<< ((1 : Int32) &&& 31)).toNatClampNeg (.int (0 : Int32)) = .int x0) (hv1 : vs.getD ((j <<< ((1 : Int32) &&& 31)) + (1 : Int32)).toNatClampNeg (.int (0 : Int32)) = .int x1) :
    MetFree l (⟨"java/lang/String", "charAt", "(I)C"⟩ : MethodName) (head1 (Jvm.Cond.code (⟨"java/lang/String", "charAt", "(I)C"⟩ : MethodName) jdk_42_method_56_code 2 (some .char) :: ws) ({ frames := 4, cells := 0, slots := 0, locals := 53 } : Room)) (fun ar_ U => ar_ = #[(.ref a), (.int j)] ∧ Z.Warmed39 U.vm ∧ U.heap = h0) (fun _ _ _ _ _ => True) (fun _ U o U' => ∃ v L, o = .returned v ∧ Q_m12u Z a t k y vs z j x0 x1 wcs rg h0 n0 v U'.heap L ∧ FrameEnd U o U' L ({ frames := 4, cells := 0, slots := 0, locals := 53 } : Room).cells ({ frames := 4, cells := 0, slots := 0, locals := 53 } : Room).slots) := by
  refine MetFree.of_bodySF (plainFor_of_name pnx_java_lang_String) hisR ?_
  intro p e s m args below meth c s₁ Bd hml0 hP hK
  obtain ⟨rfl, hZ, hh⟩ := hP
  have hx := Bd.exec
  have hby := Bd.bytes
  have hml : c.maxLocals = 2 := hml0
  have hown : s.vm.findClass "java/lang/String" = some m.cls := findClass_of_methodNamed Bd.named
  have hnm := (name_of_methodNamed Bd.named Bd.method).1
  have X0 : Stand p l e ({ frames := 4, cells := 0, slots := 0, locals := 53 } : Room) s m #[(.ref a), (.int j)] below meth c s₁ [] 0 0 := Stand.of_body Bd
  have e0 : s₁.heap = h0 := by rw [← hh, Bd.state]; rfl
  have N0 := Fr.nil n0
  have pre0 : ∀ tq_, Steps p.tables e below (s₁.setTop (mkF m 0 #[.val (.ref a), .val (.int j)] [])) tq_ → Steps p.tables e below (s₁.setTop (entryFrame m #[(.ref a), (.int j)] 2)) tq_ := fun tq_ kt_ => castTop (ef_m12u m a t k y vs z j x0 x1 wcs rg ) kt_
  obtain ⟨cq1, kq1, qa1, qb1, qc1⟩ := isOf hZ e0 E_a
  obtain ⟨_, _, ⟨T1, L1, kk1, nn1⟩, -, X1, ⟨Lc1, hQ1, l1, y1, z1⟩, st1⟩ := X0.virtualBack hx (y := (⟨"java/lang/String", "isLatin1", "()Z"⟩ : MethodName)) (z := (⟨"java/lang/String", "isLatin1", "()Z"⟩ : MethodName)) hown (mvT hZ (wk hw 61 rfl)) (mvT hZ (wk hw 62 rfl)) (notFace_of_selects (args := #[]) (mvT hZ (wk hw 64 rfl))) (mvT hZ (wk hw 64 rfl)) (mvT hZ (wk hw 63 rfl)) (by decide) (backOf (W := 0) (m13u l Z a0 hw [] a wcs h0 n0 Z0 E_a Fc_a S_CS ncs) hZ (wk hw 65 rfl) (wk hw 8 rfl) (by decide) (by decide)) qa1 qc1 (g := (mkF m 1 #[.val (.ref a), .val (.int j)] [(.ref a)])) rfl (by rw [hml]; rfl) (Steps.refl _) (argsL := []) (rest := []) (lenOf pdx___Z rfl) rfl (by show 2 * 0 + _ ≤ _; exact Nat.le_of_eq rfl) (hb hby d12_1) (fun _ _ => ⟨rfl, e0, nle rfl, nle rfl⟩)
  dsimp only [Pt.U, Pt.locs, Pt.cells, Pt.slots] at X1 l1 y1 z1 st1 hQ1
  subst l1 y1 z1
  obtain ⟨rfl, Nq1, e1⟩ := hQ1
  have N1 := Fr.app N0 Nq1
  obtain ⟨T2, X2, e2, st2⟩ := getF X1 hx hZ hown (host := "") (Or.inl (wk hw 26 rfl)) Via.refl e1 Fv_a (g := (mkF m 17 #[.val (.ref a), .val (.int j)] [(.ref a)])) rfl rfl (hb hby d12_17)
  obtain ⟨_, _, ⟨T3, L3, kk3, nn3⟩, -, X3, ⟨Lc3, hQ3, l3, y3, z3⟩, st3⟩ := Jvm.LawKit.callS X2 hx (y := (⟨"java/lang/StringUTF16", "charAt", "([BI)C"⟩ : MethodName)) hown (mvT hZ (wk hw 97 rfl)) (mvT hZ (wk hw 98 rfl)) (mvT hZ (wk hw 45 rfl)) (mvT hZ (wk hw 99 rfl)) (by decide) (backOf (W := 0) (m22 l Z a0 hw [] t k y vs z j x0 x1 rg h0 n0 Z0 V hz hj0 hjz S_SI r_rg S_AD S_HI S_LO hb0 hb1 hc0 hc1 hv0 hv1) hZ (wk hw 99 rfl) (wk hw 45 rfl) (by decide) (by decide)) (g := (mkF m 21 #[.val (.ref a), .val (.int j)] [(.int j), (.ref t)])) rfl (by rw [hml]; rfl) (argsL := [(.ref t), (.int j)]) (rest := []) (lenOf pdx___BI_C rfl) rfl (by show 2 * 0 + _ ≤ _; exact Nat.le_of_eq rfl) (hb hby d12_21) (fun _ _ => ⟨rfl, e2, nle rfl, nle rfl⟩)
  dsimp only [Pt.U, Pt.locs, Pt.cells, Pt.slots] at X3 l3 y3 z3 st3 hQ3
  subst l3 y3 z3
  obtain ⟨rfl, Nq3, e3⟩ := hQ3
  have N3 := Fr.app N1 Nq3
  obtain ⟨fs, hr, hrun, hended, hW, hsame⟩ := X3.leave (v := some (.int (own_u x0 x1))) (fun h => by rw [Bd.returns] at h; cases h)
  refine ⟨_, _, pre0 _ ?_, hrun, hended, _, _, rfl, ?_, ⟨_, rfl⟩, hW, hsame.mono (nle rfl) (nle rfl)⟩
  · show Steps p.tables e below (s₁.setTop (mkF m 0 #[.val (.ref a), .val (.int j)] [])) _
    refine XS.aloadN X0.here hx rfl (hb hby d12_0) rfl rfl ?_
    show Steps p.tables e below (s₁.setTop (mkF m 1 #[.val (.ref a), .val (.int j)] [(.ref a)])) _
    refine st1.trans ?_
    show Steps p.tables e below (T1.setTop (mkF m 4 #[.val (.ref a), .val (.int j)] [(.int (0 : Int32))])) _
    refine XS.ifYes X1.here hx rfl (pc0 := 4) (pc' := 16) rfl (hb hby d12_4) rfl ((if0 _ _).trans (teq (by decide : (0 : Int32) = (0 : Int32))).1) (by decide) (by decide) ?_
    show Steps p.tables e below (T1.setTop (mkF m 16 #[.val (.ref a), .val (.int j)] [])) _
    refine XS.aloadN X1.here hx rfl (hb hby d12_16) rfl rfl ?_
    show Steps p.tables e below (T1.setTop (mkF m 17 #[.val (.ref a), .val (.int j)] [(.ref a)])) _
    refine st2 _ ?_
    show Steps p.tables e below (T2.setTop (mkF m 20 #[.val (.ref a), .val (.int j)] [(.ref t)])) _
    refine XS.iloadN X2.here hx rfl (hb hby d12_20) rfl ?_
    show Steps p.tables e below (T2.setTop (mkF m 21 #[.val (.ref a), .val (.int j)] [(.int j), (.ref t)])) _
    refine st3 _ ?_
    show Steps p.tables e below (T3.setTop (mkF m 24 #[.val (.ref a), .val (.int j)] [(.int (own_u x0 x1))])) _
    exact own_retN X3 hx (t := .char) (own_u_nar x0 x1) Bd.returns (by simp) (hb hby d12_24) hr
  · show Q_m12u Z a t k y vs z j x0 x1 wcs rg h0 n0 _ T3.heap _
    exact ⟨rfl, N3, e3⟩
theorem d12_7 : decode jdk_42_method_56_code 7 = .ok (.aload_n 0, 1) := by decide +kernel
theorem d12_8 : decode jdk_42_method_56_code 8 = .ok (.getfield 9, 3) := by decide +kernel
theorem d12_11 : decode jdk_42_method_56_code 11 = .ok (.iload_n 1, 1) := by decide +kernel
theorem d12_12 : decode jdk_42_method_56_code 12 = .ok (.invokestatic 495, 3) := by decide +kernel
theorem d12_15 : decode jdk_42_method_56_code 15 = .ok (.ireturn, 1) := by decide +kernel
def Q_m12l (Z : State) (a : Addr) (t : Addr) (k : ClassId) (z : Int32) (vs : List Value) (j : Int32) (x : Int32) (wcs : Int32) (rg : Value) (h0 : Heap) (n0 : Nat) (v : Option Value) (h : Heap) (L : List Loc) : Prop := v = (some (.int (own_cv x))) ∧ Fr n0 L ∧ h = h0
theorem ef_m12l (m : MethodId) (a : Addr) (t : Addr) (k : ClassId) (z : Int32) (vs : List Value) (j : Int32) (x : Int32) (wcs : Int32) (rg : Value) : entryFrame m #[(.ref a), (.int j)] 2 = mkF m 0 #[.val (.ref a), .val (.int j)] [] := by first | (simp [entryFrame, mkF, argsToLocals, Value.category]; done) | rfl
set_option maxRecDepth 65536 in
set_option maxHeartbeats 40000000 in
theorem m12l (l : Launch) (Z : State) (a0 : Array Value) (hw : ∀ d ∈ tables_1, d.before a0 Z = true) (ws : List Jvm.Cond) (a : Addr) (t : Addr) (k : ClassId) (z : Int32) (vs : List Value) (j : Int32) (x : Int32) (wcs : Int32) (rg : Value) (h0 : Heap) (n0 : Nat) (Z0 : n0 ≤ h0.size) (E_a : Exa Z h0 a "java/lang/String") (Fc_a : Fld Z h0 a "java/lang/String" "coder" "B" (.int (0 : Int32))) (Fv_a : Fld Z h0 a "java/lang/String" "value" "[B" (.ref t)) (V : Arv Z h0 t k .byte z vs (.int (0 : Int32))) (hj0 : ¬ (j < (0 : Int32))) (hjz : j < z) (hv : vs.getD j.toNatClampNeg (.int (0 : Int32)) = .int x) (S_CS : Sta Z h0 "java/lang/String" "COMPACT_STRINGS" "Z" (.int wcs)) (ncs : ¬ (wcs = (0 : Int32))) (S_SI : Sta Z h0 "jdk/internal/util/Preconditions" "SIOOBE_FORMATTER" "Ljava/util/function/BiFunction;" rg) (r_rg : rg.isRef = true) :
    MetFree l (⟨"java/lang/String", "charAt", "(I)C"⟩ : MethodName) (head1 (Jvm.Cond.code (⟨"java/lang/String", "charAt", "(I)C"⟩ : MethodName) jdk_42_method_56_code 2 (some .char) :: ws) ({ frames := 4, cells := 0, slots := 0, locals := 53 } : Room)) (fun ar_ U => ar_ = #[(.ref a), (.int j)] ∧ Z.Warmed39 U.vm ∧ U.heap = h0) (fun _ _ _ _ _ => True) (fun _ U o U' => ∃ v L, o = .returned v ∧ Q_m12l Z a t k z vs j x wcs rg h0 n0 v U'.heap L ∧ FrameEnd U o U' L ({ frames := 4, cells := 0, slots := 0, locals := 53 } : Room).cells ({ frames := 4, cells := 0, slots := 0, locals := 53 } : Room).slots) := by
  refine MetFree.of_bodySF (plainFor_of_name pnx_java_lang_String) hisR ?_
  intro p e s m args below meth c s₁ Bd hml0 hP hK
  obtain ⟨rfl, hZ, hh⟩ := hP
  have hx := Bd.exec
  have hby := Bd.bytes
  have hml : c.maxLocals = 2 := hml0
  have hown : s.vm.findClass "java/lang/String" = some m.cls := findClass_of_methodNamed Bd.named
  have hnm := (name_of_methodNamed Bd.named Bd.method).1
  have X0 : Stand p l e ({ frames := 4, cells := 0, slots := 0, locals := 53 } : Room) s m #[(.ref a), (.int j)] below meth c s₁ [] 0 0 := Stand.of_body Bd
  have e0 : s₁.heap = h0 := by rw [← hh, Bd.state]; rfl
  have N0 := Fr.nil n0
  have pre0 : ∀ tq_, Steps p.tables e below (s₁.setTop (mkF m 0 #[.val (.ref a), .val (.int j)] [])) tq_ → Steps p.tables e below (s₁.setTop (entryFrame m #[(.ref a), (.int j)] 2)) tq_ := fun tq_ kt_ => castTop (ef_m12l m a t k z vs j x wcs rg ) kt_
  obtain ⟨cq1, kq1, qa1, qb1, qc1⟩ := isOf hZ e0 E_a
  obtain ⟨_, _, ⟨T1, L1, kk1, nn1⟩, -, X1, ⟨Lc1, hQ1, l1, y1, z1⟩, st1⟩ := X0.virtualBack hx (y := (⟨"java/lang/String", "isLatin1", "()Z"⟩ : MethodName)) (z := (⟨"java/lang/String", "isLatin1", "()Z"⟩ : MethodName)) hown (mvT hZ (wk hw 61 rfl)) (mvT hZ (wk hw 62 rfl)) (notFace_of_selects (args := #[]) (mvT hZ (wk hw 64 rfl))) (mvT hZ (wk hw 64 rfl)) (mvT hZ (wk hw 63 rfl)) (by decide) (backOf (W := 0) (m13l l Z a0 hw [] a wcs h0 n0 Z0 E_a Fc_a S_CS ncs) hZ (wk hw 65 rfl) (wk hw 8 rfl) (by decide) (by decide)) qa1 qc1 (g := (mkF m 1 #[.val (.ref a), .val (.int j)] [(.ref a)])) rfl (by rw [hml]; rfl) (Steps.refl _) (argsL := []) (rest := []) (lenOf pdx___Z rfl) rfl (by show 2 * 0 + _ ≤ _; exact Nat.le_of_eq rfl) (hb hby d12_1) (fun _ _ => ⟨rfl, e0, nle rfl, nle rfl⟩)
  dsimp only [Pt.U, Pt.locs, Pt.cells, Pt.slots] at X1 l1 y1 z1 st1 hQ1
  subst l1 y1 z1
  obtain ⟨rfl, Nq1, e1⟩ := hQ1
  have N1 := Fr.app N0 Nq1
  obtain ⟨T2, X2, e2, st2⟩ := getF X1 hx hZ hown (host := "") (Or.inl (wk hw 26 rfl)) Via.refl e1 Fv_a (g := (mkF m 8 #[.val (.ref a), .val (.int j)] [(.ref a)])) rfl rfl (hb hby d12_8)
  obtain ⟨_, _, ⟨T3, L3, kk3, nn3⟩, -, X3, ⟨Lc3, hQ3, l3, y3, z3⟩, st3⟩ := Jvm.LawKit.callS X2 hx (y := (⟨"java/lang/StringLatin1", "charAt", "([BI)C"⟩ : MethodName)) hown (mvT hZ (wk hw 66 rfl)) (mvT hZ (wk hw 67 rfl)) (mvT hZ (wk hw 68 rfl)) (mvT hZ (wk hw 69 rfl)) (by decide) (backOf (W := 0) (m14 l Z a0 hw [] t k z vs j x rg h0 n0 Z0 V hj0 hjz hv S_SI r_rg) hZ (wk hw 69 rfl) (wk hw 68 rfl) (by decide) (by decide)) (g := (mkF m 12 #[.val (.ref a), .val (.int j)] [(.int j), (.ref t)])) rfl (by rw [hml]; rfl) (argsL := [(.ref t), (.int j)]) (rest := []) (lenOf pdx___BI_C rfl) rfl (by show 2 * 0 + _ ≤ _; exact Nat.le_of_eq rfl) (hb hby d12_12) (fun _ _ => ⟨rfl, e2, nle rfl, nle rfl⟩)
  dsimp only [Pt.U, Pt.locs, Pt.cells, Pt.slots] at X3 l3 y3 z3 st3 hQ3
  subst l3 y3 z3
  obtain ⟨rfl, Nq3, e3⟩ := hQ3
  have N3 := Fr.app N1 Nq3
  obtain ⟨fs, hr, hrun, hended, hW, hsame⟩ := X3.leave (v := some (.int (own_cv x))) (fun h => by rw [Bd.returns] at h; cases h)
  refine ⟨_, _, pre0 _ ?_, hrun, hended, _, _, rfl, ?_, ⟨_, rfl⟩, hW, hsame.mono (nle rfl) (nle rfl)⟩
  · show Steps p.tables e below (s₁.setTop (mkF m 0 #[.val (.ref a), .val (.int j)] [])) _
    refine XS.aloadN X0.here hx rfl (hb hby d12_0) rfl rfl ?_
    show Steps p.tables e below (s₁.setTop (mkF m 1 #[.val (.ref a), .val (.int j)] [(.ref a)])) _
    refine st1.trans ?_
    show Steps p.tables e below (T1.setTop (mkF m 4 #[.val (.ref a), .val (.int j)] [(.int (1 : Int32))])) _
    refine XS.ifNo X1.here hx rfl (hb hby d12_4) rfl ((if0 _ _).trans (feq (by decide : ¬ ((1 : Int32) = (0 : Int32)))).1) ?_
    show Steps p.tables e below (T1.setTop (mkF m 7 #[.val (.ref a), .val (.int j)] [])) _
    refine XS.aloadN X1.here hx rfl (hb hby d12_7) rfl rfl ?_
    show Steps p.tables e below (T1.setTop (mkF m 8 #[.val (.ref a), .val (.int j)] [(.ref a)])) _
    refine st2 _ ?_
    show Steps p.tables e below (T2.setTop (mkF m 11 #[.val (.ref a), .val (.int j)] [(.ref t)])) _
    refine XS.iloadN X2.here hx rfl (hb hby d12_11) rfl ?_
    show Steps p.tables e below (T2.setTop (mkF m 12 #[.val (.ref a), .val (.int j)] [(.int j), (.ref t)])) _
    refine st3 _ ?_
    show Steps p.tables e below (T3.setTop (mkF m 15 #[.val (.ref a), .val (.int j)] [(.int (own_cv x))])) _
    exact own_retN X3 hx (t := .char) (own_cv_nar x) Bd.returns (by simp) (hb hby d12_15) hr
  · show Q_m12l Z a t k z vs j x wcs rg h0 n0 _ T3.heap _
    exact ⟨rfl, N3, e3⟩
def TX (Z : State) (h : Heap) (a : Addr) (z : Int32) (g : Int32 → Int32) : Prop := ∃ (t : Addr) (k : ClassId) (y : Int32) (vs : List Value), Fld Z h a "java/lang/String" "value" "[B" (.ref t) ∧ Arv Z h t k .byte y vs (.int (0 : Int32)) ∧ ((Fld Z h a "java/lang/String" "coder" "B" (.int (0 : Int32)) ∧ y = z ∧ ∀ j : Int32, ¬ (j < (0 : Int32)) → j < z → ∃ x, vs.getD j.toNatClampNeg (.int (0 : Int32)) = .int x ∧ own_cv x = g j) ∨ (Fld Z h a "java/lang/String" "coder" "B" (.int (1 : Int32)) ∧ (y >>> ((1 : Int32) &&& 31)) = z ∧ ∀ j : Int32, ¬ (j < (0 : Int32)) → j < z → ∃ x0 x1, ¬ ((j <<< ((1 : Int32) &&& 31)) < (0 : Int32)) ∧ (j <<< ((1 : Int32) &&& 31)) < y ∧ ¬ (((j <<< ((1 : Int32) &&& 31)) + (1 : Int32)) < (0 : Int32)) ∧ ((j <<< ((1 : Int32) &&& 31)) + (1 : Int32)) < y ∧ vs.getD (j <<< ((1 : Int32) &&& 31)).toNatClampNeg (.int (0 : Int32)) = .int x0 ∧ vs.getD ((j <<< ((1 : Int32) &&& 31)) + (1 : Int32)).toNatClampNeg (.int (0 : Int32)) = .int x1 ∧ own_u x0 x1 = g j))
theorem own_len (l : Launch) (Z : State) (a0 : Array Value) (hw : ∀ d ∈ tables_1, d.before a0 Z = true) (ws : List Jvm.Cond) (a : Addr) (z : Int32) (g : Int32 → Int32) (wcs : Int32) (h0 : Heap) (n0 : Nat) (Z0 : n0 ≤ h0.size) (E_a : Exa Z h0 a "java/lang/String") (tx : TX Z h0 a z g) (S_CS : Sta Z h0 "java/lang/String" "COMPACT_STRINGS" "Z" (.int wcs)) (ncs : ¬ (wcs = (0 : Int32))) :
    MetFree l (⟨"java/lang/String", "length", "()I"⟩ : MethodName) (head1 (Jvm.Cond.code (⟨"java/lang/String", "length", "()I"⟩ : MethodName) jdk_42_method_54_code 1 (some .int) :: ws) ({ frames := 1, cells := 0, slots := 0, locals := 13 } : Room)) (fun ar_ U => ar_ = #[(.ref a)] ∧ Z.Warmed39 U.vm ∧ U.heap = h0) (fun _ _ _ _ _ => True) (fun _ U o U' => ∃ v L, o = .returned v ∧ QV (some (.int z)) h0 n0 v U'.heap L ∧ FrameEnd U o U' L ({ frames := 1, cells := 0, slots := 0, locals := 13 } : Room).cells ({ frames := 1, cells := 0, slots := 0, locals := 13 } : Room).slots) := by
  obtain ⟨t, k, y, vs, Fv, V, ⟨Fc, rfl, H⟩ | ⟨Fc, hz, H⟩⟩ := tx
  · exact m6l l Z a0 hw ws a t k y vs wcs h0 n0 Z0 E_a Fc Fv V S_CS ncs
  · exact m6u l Z a0 hw ws a t k y vs z wcs h0 n0 Z0 E_a Fc Fv V hz S_CS ncs
theorem own_charAt (l : Launch) (Z : State) (a0 : Array Value) (hw : ∀ d ∈ tables_1, d.before a0 Z = true) (ws : List Jvm.Cond) (a : Addr) (z : Int32) (g : Int32 → Int32) (j wcs : Int32) (rg : Value) (h0 : Heap) (n0 : Nat) (Z0 : n0 ≤ h0.size) (E_a : Exa Z h0 a "java/lang/String") (tx : TX Z h0 a z g) (hj0 : ¬ (j < (0 : Int32))) (hjz : j < z) (S_CS : Sta Z h0 "java/lang/String" "COMPACT_STRINGS" "Z" (.int wcs)) (ncs : ¬ (wcs = (0 : Int32))) (S_SI : Sta Z h0 "jdk/internal/util/Preconditions" "SIOOBE_FORMATTER" "Ljava/util/function/BiFunction;" rg) (r_rg : rg.isRef = true) (S_AD : Sta Z h0 "java/lang/StringUTF16" "$assertionsDisabled" "Z" (.int (1 : Int32))) (S_HI : Sta Z h0 "java/lang/StringUTF16" "HI_BYTE_SHIFT" "I" (.int (0 : Int32))) (S_LO : Sta Z h0 "java/lang/StringUTF16" "LO_BYTE_SHIFT" "I" (.int (8 : Int32))) :
    MetFree l (⟨"java/lang/String", "charAt", "(I)C"⟩ : MethodName) (head1 (Jvm.Cond.code (⟨"java/lang/String", "charAt", "(I)C"⟩ : MethodName) jdk_42_method_56_code 2 (some .char) :: ws) ({ frames := 4, cells := 0, slots := 0, locals := 53 } : Room)) (fun ar_ U => ar_ = #[(.ref a), (.int j)] ∧ Z.Warmed39 U.vm ∧ U.heap = h0) (fun _ _ _ _ _ => True) (fun _ U o U' => ∃ v L, o = .returned v ∧ QV (some (.int (g j))) h0 n0 v U'.heap L ∧ FrameEnd U o U' L ({ frames := 4, cells := 0, slots := 0, locals := 53 } : Room).cells ({ frames := 4, cells := 0, slots := 0, locals := 53 } : Room).slots) := by
  obtain ⟨t, k, y, vs, Fv, V, ⟨Fc, rfl, H⟩ | ⟨Fc, hz, H⟩⟩ := tx
  · obtain ⟨x, hv, e⟩ := H j hj0 hjz
    rw [← e]
    exact m12l l Z a0 hw ws a t k y vs j x wcs rg h0 n0 Z0 E_a Fc Fv V hj0 hjz hv S_CS ncs S_SI r_rg
  · obtain ⟨x0, x1, b0, b1, c0, c1, v0, v1, e⟩ := H j hj0 hjz
    rw [← e]
    exact m12u l Z a0 hw ws a t k y vs z j x0 x1 wcs rg h0 n0 Z0 E_a Fc Fv V hz hj0 hjz S_CS ncs S_SI r_rg S_AD S_HI S_LO b0 b1 c0 c1 v0 v1
theorem pdx___I : parseMethodDescriptor "()I" = some ⟨[], some .int⟩ := by decide +kernel
theorem pdx__I_C : parseMethodDescriptor "(I)C" = some ⟨[.int], some .char⟩ := by decide +kernel
theorem d5_2 : decode prog_88_method_2_code 2 = .ok (.iload_n 1, 1) := by decide +kernel
theorem d5_3 : decode prog_88_method_2_code 3 = .ok (.aload_n 0, 1) := by decide +kernel
theorem d5_4 : decode prog_88_method_2_code 4 = .ok (.invokevirtual 7, 3) := by decide +kernel
theorem d5_7 : decode prog_88_method_2_code 7 = .ok (.if_icmp .ge 87, 3) := by decide +kernel
theorem d5_10 : decode prog_88_method_2_code 10 = .ok (.aload_n 0, 1) := by decide +kernel
theorem d5_11 : decode prog_88_method_2_code 11 = .ok (.iload_n 1, 1) := by decide +kernel
theorem d5_12 : decode prog_88_method_2_code 12 = .ok (.invokevirtual 13, 3) := by decide +kernel
theorem d5_15 : decode prog_88_method_2_code 15 = .ok (.istore_n 2, 1) := by decide +kernel
theorem d5_81 : decode prog_88_method_2_code 81 = .ok (.istore_n 3, 1) := by decide +kernel
theorem d5_82 : decode prog_88_method_2_code 82 = .ok (.iload_n 3, 1) := by decide +kernel
theorem d5_83 : decode prog_88_method_2_code 83 = .ok (.ifCond .ne 5, 3) := by decide +kernel
theorem d5_88 : decode prog_88_method_2_code 88 = .ok (.iinc 1 1, 3) := by decide +kernel
theorem d5_91 : decode prog_88_method_2_code 91 = .ok (.goto (-89), 3) := by decide +kernel
set_option maxRecDepth 65536 in
set_option maxHeartbeats 40000000 in
theorem own_tg0 {p : Program} {l : Launch} {e : Env} {s : State} {m : MethodId} {args : Array Value} {below : List Frame} {meth : Method} {c : Code} {Z : State} {a0 : Array Value} (hw : ∀ d ∈ tables_1, d.before a0 Z = true) (hx : p.tables.exec = Jvm.exec) (hby : c.code = prog_88_method_2_code) (hml : c.maxLocals = 4) (hZ : Z.Warmed39 s.vm) (hown : s.vm.findClass "com/example/grantline/grantline/authz/Unreserved" = some m.cls) {T : State} {locs : List Loc} (X0 : Stand p l e ({ frames := 5, cells := 0, slots := 0, locals := 68 } : Room) s m args below meth c T locs 0 0) {h0 : Heap} (e0 : T.heap = h0) {n0 : Nat} (Z0 : n0 ≤ h0.size) (N0 : Fr n0 locs) (a : Addr) (z : Int32) (g : Int32 → Int32) (wcs : Int32) (rg : Value) (i : Int32) (E_a : Exa Z h0 a "java/lang/String") (tx : TX Z h0 a z g) (S_CS : Sta Z h0 "java/lang/String" "COMPACT_STRINGS" "Z" (.int wcs)) (ncs : ¬ (wcs = (0 : Int32))) (S_SI : Sta Z h0 "jdk/internal/util/Preconditions" "SIOOBE_FORMATTER" "Ljava/util/function/BiFunction;" rg) (r_rg : rg.isRef = true) (S_AD : Sta Z h0 "java/lang/StringUTF16" "$assertionsDisabled" "Z" (.int (1 : Int32))) (S_HI : Sta Z h0 "java/lang/StringUTF16" "HI_BYTE_SHIFT" "I" (.int (0 : Int32))) (S_LO : Sta Z h0 "java/lang/StringUTF16" "LO_BYTE_SHIFT" "I" (.int (8 : Int32))) (hi0 : ¬ (i < (0 : Int32))) (hiz : i < z) (gd : ¬ (own_r (g i) = (0 : Int32))) :
    ∃ (T' : State) (locs' : List Loc), Stand p l e ({ frames := 5, cells := 0, slots := 0, locals := 68 } : Room) s m args below meth c T' locs' 0 0 ∧ T'.heap = h0 ∧ Fr n0 locs' ∧ ∀ t, Steps p.tables e below (T'.setTop (mkF m 2 #[.val (.ref a), .val (.int (i + (1 : Int32))), .val (.int (g i)), .val (.int (own_r (g i)))] [])) t → Steps p.tables e below (T.setTop (mkF m 2 #[.val (.ref a), .val (.int i), .unset, .unset] [])) t := by
  obtain ⟨cq1, kq1, qa1, qb1, qc1⟩ := isOf hZ e0 E_a
  obtain ⟨_, _, ⟨T1, L1, kk1, nn1⟩, -, X1, ⟨Lc1, hQ1, l1, y1, z1⟩, st1⟩ := X0.virtualBack hx (y := (⟨"java/lang/String", "length", "()I"⟩ : MethodName)) (z := (⟨"java/lang/String", "length", "()I"⟩ : MethodName)) hown (mvT hZ (wk hw 32 rfl)) (mvT hZ (wk hw 33 rfl)) (notFace_of_selects (args := #[]) (mvT hZ (wk hw 35 rfl))) (mvT hZ (wk hw 35 rfl)) (mvT hZ (wk hw 34 rfl)) (by decide) (backOf (W := 1) (own_len l Z a0 hw [] a z g wcs h0 n0 Z0 E_a tx S_CS ncs) hZ (wk hw 36 rfl) (wk hw 8 rfl) (by decide) (by decide)) qa1 qc1 (g := (mkF m 4 #[.val (.ref a), .val (.int i), .unset, .unset] [(.ref a), (.int i)])) rfl (by rw [hml]; rfl) (Steps.refl _) (argsL := []) (rest := [(.int i)]) (lenOf pdx___I rfl) rfl (by show 2 * 0 + _ ≤ _; exact Nat.le_of_eq rfl) (hb hby d5_4) (fun _ _ => ⟨rfl, e0, nle rfl, nle rfl⟩)
  dsimp only [Pt.U, Pt.locs, Pt.cells, Pt.slots] at X1 l1 y1 z1 st1 hQ1
  subst l1 y1 z1
  obtain ⟨rfl, Nq1, e1⟩ := hQ1
  have N1 := Fr.app N0 Nq1
  obtain ⟨cq2, kq2, qa2, qb2, qc2⟩ := isOf hZ e1 E_a
  obtain ⟨_, _, ⟨T2, L2, kk2, nn2⟩, -, X2, ⟨Lc2, hQ2, l2, y2, z2⟩, st2⟩ := X1.virtualBack hx (y := (⟨"java/lang/String", "charAt", "(I)C"⟩ : MethodName)) (z := (⟨"java/lang/String", "charAt", "(I)C"⟩ : MethodName)) hown (mvT hZ (wk hw 56 rfl)) (mvT hZ (wk hw 57 rfl)) (notFace_of_selects (args := #[]) (mvT hZ (wk hw 59 rfl))) (mvT hZ (wk hw 59 rfl)) (mvT hZ (wk hw 58 rfl)) (by decide) (backOf (W := 0) (own_charAt l Z a0 hw [] a z g i wcs rg h0 n0 Z0 E_a tx hi0 hiz S_CS ncs S_SI r_rg S_AD S_HI S_LO) hZ (wk hw 60 rfl) (wk hw 8 rfl) (by decide) (by decide)) qa2 qc2 (g := (mkF m 12 #[.val (.ref a), .val (.int i), .unset, .unset] [(.int i), (.ref a)])) rfl (by rw [hml]; rfl) (Steps.refl _) (argsL := [(.int i)]) (rest := []) (lenOf pdx__I_C rfl) rfl (by show 2 * 0 + _ ≤ _; exact Nat.le_of_eq rfl) (hb hby d5_12) (fun _ _ => ⟨rfl, e1, nle rfl, nle rfl⟩)
  dsimp only [Pt.U, Pt.locs, Pt.cells, Pt.slots] at X2 l2 y2 z2 st2 hQ2
  subst l2 y2 z2
  obtain ⟨rfl, Nq2, e2⟩ := hQ2
  have N2 := Fr.app N1 Nq2
  refine ⟨T2, _, X2, e2, N2, fun t kont => ?_⟩
  · show Steps p.tables e below (T.setTop (mkF m 2 #[.val (.ref a), .val (.int i), .unset, .unset] [])) _
    refine XS.iloadN X0.here hx rfl (hb hby d5_2) rfl ?_
    refine XS.aloadN X0.here hx rfl (hb hby d5_3) rfl rfl ?_
    show Steps p.tables e below (T.setTop (mkF m 4 #[.val (.ref a), .val (.int i), .unset, .unset] [(.ref a), (.int i)])) _
    refine st1.trans ?_
    show Steps p.tables e below (T1.setTop (mkF m 7 #[.val (.ref a), .val (.int i), .unset, .unset] [(.int z), (.int i)])) _
    refine XS.icmpNo X1.here hx rfl (hb hby d5_7) rfl (tlt (hiz : i < z)).2.1 ?_
    show Steps p.tables e below (T1.setTop (mkF m 10 #[.val (.ref a), .val (.int i), .unset, .unset] [])) _
    refine XS.aloadN X1.here hx rfl (hb hby d5_10) rfl rfl ?_
    refine XS.iloadN X1.here hx rfl (hb hby d5_11) rfl ?_
    show Steps p.tables e below (T1.setTop (mkF m 12 #[.val (.ref a), .val (.int i), .unset, .unset] [(.int i), (.ref a)])) _
    refine st2.trans ?_
    show Steps p.tables e below (T2.setTop (mkF m 15 #[.val (.ref a), .val (.int i), .unset, .unset] [(.int (g i))])) _
    refine XS.istoreN X2.here hx rfl (hb hby d5_15) rfl (l' := #[.val (.ref a), .val (.int i), .val (.int (g i)), .unset]) rfl ?_
    show Steps p.tables e below (T2.setTop (mkF m 16 #[.val (.ref a), .val (.int i), .val (.int (g i)), .unset] [])) _
    refine own_chk X2 hx hby (g i) _ _ _ _ ?_
    show Steps p.tables e below (T2.setTop (mkF m 81 #[.val (.ref a), .val (.int i), .val (.int (g i)), .unset] [(.int (own_r (g i)))])) _
    refine XS.istoreN X2.here hx rfl (hb hby d5_81) rfl (l' := #[.val (.ref a), .val (.int i), .val (.int (g i)), .val (.int (own_r (g i)))]) rfl ?_
    refine XS.iloadN X2.here hx rfl (hb hby d5_82) rfl ?_
    show Steps p.tables e below (T2.setTop (mkF m 83 #[.val (.ref a), .val (.int i), .val (.int (g i)), .val (.int (own_r (g i)))] [(.int (own_r (g i)))])) _
    refine XS.ifYes X2.here hx rfl (pc0 := 83) (pc' := 88) rfl (hb hby d5_83) rfl ((if0 _ _).trans (feq (gd : ¬ ((own_r (g i)) = (0 : Int32)))).2) (by decide) (by decide) ?_
    show Steps p.tables e below (T2.setTop (mkF m 88 #[.val (.ref a), .val (.int i), .val (.int (g i)), .val (.int (own_r (g i)))] [])) _
    refine XS.iinc X2.here hx rfl (hb hby d5_88) rfl (l' := #[.val (.ref a), .val (.int (i + (1 : Int32))), .val (.int (g i)), .val (.int (own_r (g i)))]) rfl ?_
    refine XS.goto X2.here hx rfl (pc0 := 91) (pc' := 2) rfl (hb hby d5_91) (by decide) (by decide) ?_
    exact kont
set_option maxRecDepth 65536 in
set_option maxHeartbeats 40000000 in
theorem own_tg1 {p : Program} {l : Launch} {e : Env} {s : State} {m : MethodId} {args : Array Value} {below : List Frame} {meth : Method} {c : Code} {Z : State} {a0 : Array Value} (hw : ∀ d ∈ tables_1, d.before a0 Z = true) (hx : p.tables.exec = Jvm.exec) (hby : c.code = prog_88_method_2_code) (hml : c.maxLocals = 4) (hZ : Z.Warmed39 s.vm) (hown : s.vm.findClass "com/example/grantline/grantline/authz/Unreserved" = some m.cls) {T : State} {locs : List Loc} (X0 : Stand p l e ({ frames := 5, cells := 0, slots := 0, locals := 68 } : Room) s m args below meth c T locs 0 0) {h0 : Heap} (e0 : T.heap = h0) {n0 : Nat} (Z0 : n0 ≤ h0.size) (N0 : Fr n0 locs) (a : Addr) (z : Int32) (g : Int32 → Int32) (wcs : Int32) (rg : Value) (i : Int32) (u2 u3 : Int32) (E_a : Exa Z h0 a "java/lang/String") (tx : TX Z h0 a z g) (S_CS : Sta Z h0 "java/lang/String" "COMPACT_STRINGS" "Z" (.int wcs)) (ncs : ¬ (wcs = (0 : Int32))) (S_SI : Sta Z h0 "jdk/internal/util/Preconditions" "SIOOBE_FORMATTER" "Ljava/util/function/BiFunction;" rg) (r_rg : rg.isRef = true) (S_AD : Sta Z h0 "java/lang/StringUTF16" "$assertionsDisabled" "Z" (.int (1 : Int32))) (S_HI : Sta Z h0 "java/lang/StringUTF16" "HI_BYTE_SHIFT" "I" (.int (0 : Int32))) (S_LO : Sta Z h0 "java/lang/StringUTF16" "LO_BYTE_SHIFT" "I" (.int (8 : Int32))) (hi0 : ¬ (i < (0 : Int32))) (hiz : i < z) (gd : ¬ (own_r (g i) = (0 : Int32))) :
    ∃ (T' : State) (locs' : List Loc), Stand p l e ({ frames := 5, cells := 0, slots := 0, locals := 68 } : Room) s m args below meth c T' locs' 0 0 ∧ T'.heap = h0 ∧ Fr n0 locs' ∧ ∀ t, Steps p.tables e below (T'.setTop (mkF m 2 #[.val (.ref a), .val (.int (i + (1 : Int32))), .val (.int (g i)), .val (.int (own_r (g i)))] [])) t → Steps p.tables e below (T.setTop (mkF m 2 #[.val (.ref a), .val (.int i), .val (.int u2), .val (.int u3)] [])) t := by
  obtain ⟨cq1, kq1, qa1, qb1, qc1⟩ := isOf hZ e0 E_a
  obtain ⟨_, _, ⟨T1, L1, kk1, nn1⟩, -, X1, ⟨Lc1, hQ1, l1, y1, z1⟩, st1⟩ := X0.virtualBack hx (y := (⟨"java/lang/String", "length", "()I"⟩ : MethodName)) (z := (⟨"java/lang/String", "length", "()I"⟩ : MethodName)) hown (mvT hZ (wk hw 32 rfl)) (mvT hZ (wk hw 33 rfl)) (notFace_of_selects (args := #[]) (mvT hZ (wk hw 35 rfl))) (mvT hZ (wk hw 35 rfl)) (mvT hZ (wk hw 34 rfl)) (by decide) (backOf (W := 1) (own_len l Z a0 hw [] a z g wcs h0 n0 Z0 E_a tx S_CS ncs) hZ (wk hw 36 rfl) (wk hw 8 rfl) (by decide) (by decide)) qa1 qc1 (g := (mkF m 4 #[.val (.ref a), .val (.int i), .val (.int u2), .val (.int u3)] [(.ref a), (.int i)])) rfl (by rw [hml]; rfl) (Steps.refl _) (argsL := []) (rest := [(.int i)]) (lenOf pdx___I rfl) rfl (by show 2 * 0 + _ ≤ _; exact Nat.le_of_eq rfl) (hb hby d5_4) (fun _ _ => ⟨rfl, e0, nle rfl, nle rfl⟩)
  dsimp only [Pt.U, Pt.locs, Pt.cells, Pt.slots] at X1 l1 y1 z1 st1 hQ1
  subst l1 y1 z1
  obtain ⟨rfl, Nq1, e1⟩ := hQ1
  have N1 := Fr.app N0 Nq1
  obtain ⟨cq2, kq2, qa2, qb2, qc2⟩ := isOf hZ e1 E_a
  obtain ⟨_, _, ⟨T2, L2, kk2, nn2⟩, -, X2, ⟨Lc2, hQ2, l2, y2, z2⟩, st2⟩ := X1.virtualBack hx (y := (⟨"java/lang/String", "charAt", "(I)C"⟩ : MethodName)) (z := (⟨"java/lang/String", "charAt", "(I)C"⟩ : MethodName)) hown (mvT hZ (wk hw 56 rfl)) (mvT hZ (wk hw 57 rfl)) (notFace_of_selects (args := #[]) (mvT hZ (wk hw 59 rfl))) (mvT hZ (wk hw 59 rfl)) (mvT hZ (wk hw 58 rfl)) (by decide) (backOf (W := 0) (own_charAt l Z a0 hw [] a z g i wcs rg h0 n0 Z0 E_a tx hi0 hiz S_CS ncs S_SI r_rg S_AD S_HI S_LO) hZ (wk hw 60 rfl) (wk hw 8 rfl) (by decide) (by decide)) qa2 qc2 (g := (mkF m 12 #[.val (.ref a), .val (.int i), .val (.int u2), .val (.int u3)] [(.int i), (.ref a)])) rfl (by rw [hml]; rfl) (Steps.refl _) (argsL := [(.int i)]) (rest := []) (lenOf pdx__I_C rfl) rfl (by show 2 * 0 + _ ≤ _; exact Nat.le_of_eq rfl) (hb hby d5_12) (fun _ _ => ⟨rfl, e1, nle rfl, nle rfl⟩)
  dsimp only [Pt.U, Pt.locs, Pt.cells, Pt.slots] at X2 l2 y2 z2 st2 hQ2
  subst l2 y2 z2
  obtain ⟨rfl, Nq2, e2⟩ := hQ2
  have N2 := Fr.app N1 Nq2
  refine ⟨T2, _, X2, e2, N2, fun t kont => ?_⟩
  · show Steps p.tables e below (T.setTop (mkF m 2 #[.val (.ref a), .val (.int i), .val (.int u2), .val (.int u3)] [])) _
    refine XS.iloadN X0.here hx rfl (hb hby d5_2) rfl ?_
    refine XS.aloadN X0.here hx rfl (hb hby d5_3) rfl rfl ?_
    show Steps p.tables e below (T.setTop (mkF m 4 #[.val (.ref a), .val (.int i), .val (.int u2), .val (.int u3)] [(.ref a), (.int i)])) _
    refine st1.trans ?_
    show Steps p.tables e below (T1.setTop (mkF m 7 #[.val (.ref a), .val (.int i), .val (.int u2), .val (.int u3)] [(.int z), (.int i)])) _
    refine XS.icmpNo X1.here hx rfl (hb hby d5_7) rfl (tlt (hiz : i < z)).2.1 ?_
    show Steps p.tables e below (T1.setTop (mkF m 10 #[.val (.ref a), .val (.int i), .val (.int u2), .val (.int u3)] [])) _
    refine XS.aloadN X1.here hx rfl (hb hby d5_10) rfl rfl ?_
    refine XS.iloadN X1.here hx rfl (hb hby d5_11) rfl ?_
    show Steps p.tables e below (T1.setTop (mkF m 12 #[.val (.ref a), .val (.int i), .val (.int u2), .val (.int u3)] [(.int i), (.ref a)])) _
    refine st2.trans ?_
    show Steps p.tables e below (T2.setTop (mkF m 15 #[.val (.ref a), .val (.int i), .val (.int u2), .val (.int u3)] [(.int (g i))])) _
    refine XS.istoreN X2.here hx rfl (hb hby d5_15) rfl (l' := #[.val (.ref a), .val (.int i), .val (.int (g i)), .val (.int u3)]) rfl ?_
    show Steps p.tables e below (T2.setTop (mkF m 16 #[.val (.ref a), .val (.int i), .val (.int (g i)), .val (.int u3)] [])) _
    refine own_chk X2 hx hby (g i) _ _ _ _ ?_
    show Steps p.tables e below (T2.setTop (mkF m 81 #[.val (.ref a), .val (.int i), .val (.int (g i)), .val (.int u3)] [(.int (own_r (g i)))])) _
    refine XS.istoreN X2.here hx rfl (hb hby d5_81) rfl (l' := #[.val (.ref a), .val (.int i), .val (.int (g i)), .val (.int (own_r (g i)))]) rfl ?_
    refine XS.iloadN X2.here hx rfl (hb hby d5_82) rfl ?_
    show Steps p.tables e below (T2.setTop (mkF m 83 #[.val (.ref a), .val (.int i), .val (.int (g i)), .val (.int (own_r (g i)))] [(.int (own_r (g i)))])) _
    refine XS.ifYes X2.here hx rfl (pc0 := 83) (pc' := 88) rfl (hb hby d5_83) rfl ((if0 _ _).trans (feq (gd : ¬ ((own_r (g i)) = (0 : Int32)))).2) (by decide) (by decide) ?_
    show Steps p.tables e below (T2.setTop (mkF m 88 #[.val (.ref a), .val (.int i), .val (.int (g i)), .val (.int (own_r (g i)))] [])) _
    refine XS.iinc X2.here hx rfl (hb hby d5_88) rfl (l' := #[.val (.ref a), .val (.int (i + (1 : Int32))), .val (.int (g i)), .val (.int (own_r (g i)))]) rfl ?_
    refine XS.goto X2.here hx rfl (pc0 := 91) (pc' := 2) rfl (hb hby d5_91) (by decide) (by decide) ?_
    exact kont
set_option maxRecDepth 65536 in
set_option maxHeartbeats 40000000 in
theorem own_tb0 {p : Program} {l : Launch} {e : Env} {s : State} {m : MethodId} {args : Array Value} {below : List Frame} {meth : Method} {c : Code} {Z : State} {a0 : Array Value} (hw : ∀ d ∈ tables_1, d.before a0 Z = true) (hx : p.tables.exec = Jvm.exec) (hby : c.code = prog_88_method_2_code) (hml : c.maxLocals = 4) (hZ : Z.Warmed39 s.vm) (hown : s.vm.findClass "com/example/grantline/grantline/authz/Unreserved" = some m.cls) {T : State} {locs : List Loc} (X0 : Stand p l e ({ frames := 5, cells := 0, slots := 0, locals := 68 } : Room) s m args below meth c T locs 0 0) {h0 : Heap} (e0 : T.heap = h0) {n0 : Nat} (Z0 : n0 ≤ h0.size) (N0 : Fr n0 locs) (a : Addr) (z : Int32) (g : Int32 → Int32) (wcs : Int32) (rg : Value) (i : Int32) (E_a : Exa Z h0 a "java/lang/String") (tx : TX Z h0 a z g) (S_CS : Sta Z h0 "java/lang/String" "COMPACT_STRINGS" "Z" (.int wcs)) (ncs : ¬ (wcs = (0 : Int32))) (S_SI : Sta Z h0 "jdk/internal/util/Preconditions" "SIOOBE_FORMATTER" "Ljava/util/function/BiFunction;" rg) (r_rg : rg.isRef = true) (S_AD : Sta Z h0 "java/lang/StringUTF16" "$assertionsDisabled" "Z" (.int (1 : Int32))) (S_HI : Sta Z h0 "java/lang/StringUTF16" "HI_BYTE_SHIFT" "I" (.int (0 : Int32))) (S_LO : Sta Z h0 "java/lang/StringUTF16" "LO_BYTE_SHIFT" "I" (.int (8 : Int32))) (hi0 : ¬ (i < (0 : Int32))) (hiz : i < z) (bad : own_r (g i) = (0 : Int32)) :
    ∃ (T' : State) (locs' : List Loc), Stand p l e ({ frames := 5, cells := 0, slots := 0, locals := 68 } : Room) s m args below meth c T' locs' 0 0 ∧ T'.heap = h0 ∧ Fr n0 locs' ∧ ∀ t, Steps p.tables e below (T'.setTop (mkF m 86 #[.val (.ref a), .val (.int i), .val (.int (g i)), .val (.int (own_r (g i)))] [])) t → Steps p.tables e below (T.setTop (mkF m 2 #[.val (.ref a), .val (.int i), .unset, .unset] [])) t := by
  obtain ⟨cq1, kq1, qa1, qb1, qc1⟩ := isOf hZ e0 E_a
  obtain ⟨_, _, ⟨T1, L1, kk1, nn1⟩, -, X1, ⟨Lc1, hQ1, l1, y1, z1⟩, st1⟩ := X0.virtualBack hx (y := (⟨"java/lang/String", "length", "()I"⟩ : MethodName)) (z := (⟨"java/lang/String", "length", "()I"⟩ : MethodName)) hown (mvT hZ (wk hw 32 rfl)) (mvT hZ (wk hw 33 rfl)) (notFace_of_selects (args := #[]) (mvT hZ (wk hw 35 rfl))) (mvT hZ (wk hw 35 rfl)) (mvT hZ (wk hw 34 rfl)) (by decide) (backOf (W := 1) (own_len l Z a0 hw [] a z g wcs h0 n0 Z0 E_a tx S_CS ncs) hZ (wk hw 36 rfl) (wk hw 8 rfl) (by decide) (by decide)) qa1 qc1 (g := (mkF m 4 #[.val (.ref a), .val (.int i), .unset, .unset] [(.ref a), (.int i)])) rfl (by rw [hml]; rfl) (Steps.refl _) (argsL := []) (rest := [(.int i)]) (lenOf pdx___I rfl) rfl (by show 2 * 0 + _ ≤ _; exact Nat.le_of_eq rfl) (hb hby d5_4) (fun _ _ => ⟨rfl, e0, nle rfl, nle rfl⟩)
  dsimp only [Pt.U, Pt.locs, Pt.cells, Pt.slots] at X1 l1 y1 z1 st1 hQ1
  subst l1 y1 z1
  obtain ⟨rfl, Nq1, e1⟩ := hQ1
  have N1 := Fr.app N0 Nq1
  obtain ⟨cq2, kq2, qa2, qb2, qc2⟩ := isOf hZ e1 E_a
  obtain ⟨_, _, ⟨T2, L2, kk2, nn2⟩, -, X2, ⟨Lc2, hQ2, l2, y2, z2⟩, st2⟩ := X1.virtualBack hx (y := (⟨"java/lang/String", "charAt", "(I)C"⟩ : MethodName)) (z := (⟨"java/lang/String", "charAt", "(I)C"⟩ : MethodName)) hown (mvT hZ (wk hw 56 rfl)) (mvT hZ (wk hw 57 rfl)) (notFace_of_selects (args := #[]) (mvT hZ (wk hw 59 rfl))) (mvT hZ (wk hw 59 rfl)) (mvT hZ (wk hw 58 rfl)) (by decide) (backOf (W := 0) (own_charAt l Z a0 hw [] a z g i wcs rg h0 n0 Z0 E_a tx hi0 hiz S_CS ncs S_SI r_rg S_AD S_HI S_LO) hZ (wk hw 60 rfl) (wk hw 8 rfl) (by decide) (by decide)) qa2 qc2 (g := (mkF m 12 #[.val (.ref a), .val (.int i), .unset, .unset] [(.int i), (.ref a)])) rfl (by rw [hml]; rfl) (Steps.refl _) (argsL := [(.int i)]) (rest := []) (lenOf pdx__I_C rfl) rfl (by show 2 * 0 + _ ≤ _; exact Nat.le_of_eq rfl) (hb hby d5_12) (fun _ _ => ⟨rfl, e1, nle rfl, nle rfl⟩)
  dsimp only [Pt.U, Pt.locs, Pt.cells, Pt.slots] at X2 l2 y2 z2 st2 hQ2
  subst l2 y2 z2
  obtain ⟨rfl, Nq2, e2⟩ := hQ2
  have N2 := Fr.app N1 Nq2
  refine ⟨T2, _, X2, e2, N2, fun t kont => ?_⟩
  · show Steps p.tables e below (T.setTop (mkF m 2 #[.val (.ref a), .val (.int i), .unset, .unset] [])) _
    refine XS.iloadN X0.here hx rfl (hb hby d5_2) rfl ?_
    refine XS.aloadN X0.here hx rfl (hb hby d5_3) rfl rfl ?_
    show Steps p.tables e below (T.setTop (mkF m 4 #[.val (.ref a), .val (.int i), .unset, .unset] [(.ref a), (.int i)])) _
    refine st1.trans ?_
    show Steps p.tables e below (T1.setTop (mkF m 7 #[.val (.ref a), .val (.int i), .unset, .unset] [(.int z), (.int i)])) _
    refine XS.icmpNo X1.here hx rfl (hb hby d5_7) rfl (tlt (hiz : i < z)).2.1 ?_
    show Steps p.tables e below (T1.setTop (mkF m 10 #[.val (.ref a), .val (.int i), .unset, .unset] [])) _
    refine XS.aloadN X1.here hx rfl (hb hby d5_10) rfl rfl ?_
    refine XS.iloadN X1.here hx rfl (hb hby d5_11) rfl ?_
    show Steps p.tables e below (T1.setTop (mkF m 12 #[.val (.ref a), .val (.int i), .unset, .unset] [(.int i), (.ref a)])) _
    refine st2.trans ?_
    show Steps p.tables e below (T2.setTop (mkF m 15 #[.val (.ref a), .val (.int i), .unset, .unset] [(.int (g i))])) _
    refine XS.istoreN X2.here hx rfl (hb hby d5_15) rfl (l' := #[.val (.ref a), .val (.int i), .val (.int (g i)), .unset]) rfl ?_
    show Steps p.tables e below (T2.setTop (mkF m 16 #[.val (.ref a), .val (.int i), .val (.int (g i)), .unset] [])) _
    refine own_chk X2 hx hby (g i) _ _ _ _ ?_
    show Steps p.tables e below (T2.setTop (mkF m 81 #[.val (.ref a), .val (.int i), .val (.int (g i)), .unset] [(.int (own_r (g i)))])) _
    refine XS.istoreN X2.here hx rfl (hb hby d5_81) rfl (l' := #[.val (.ref a), .val (.int i), .val (.int (g i)), .val (.int (own_r (g i)))]) rfl ?_
    refine XS.iloadN X2.here hx rfl (hb hby d5_82) rfl ?_
    show Steps p.tables e below (T2.setTop (mkF m 83 #[.val (.ref a), .val (.int i), .val (.int (g i)), .val (.int (own_r (g i)))] [(.int (own_r (g i)))])) _
    refine XS.ifNo X2.here hx rfl (hb hby d5_83) rfl ((if0 _ _).trans (teq (bad : (own_r (g i)) = (0 : Int32))).2) ?_
    exact kont
set_option maxRecDepth 65536 in
set_option maxHeartbeats 40000000 in
theorem own_tb1 {p : Program} {l : Launch} {e : Env} {s : State} {m : MethodId} {args : Array Value} {below : List Frame} {meth : Method} {c : Code} {Z : State} {a0 : Array Value} (hw : ∀ d ∈ tables_1, d.before a0 Z = true) (hx : p.tables.exec = Jvm.exec) (hby : c.code = prog_88_method_2_code) (hml : c.maxLocals = 4) (hZ : Z.Warmed39 s.vm) (hown : s.vm.findClass "com/example/grantline/grantline/authz/Unreserved" = some m.cls) {T : State} {locs : List Loc} (X0 : Stand p l e ({ frames := 5, cells := 0, slots := 0, locals := 68 } : Room) s m args below meth c T locs 0 0) {h0 : Heap} (e0 : T.heap = h0) {n0 : Nat} (Z0 : n0 ≤ h0.size) (N0 : Fr n0 locs) (a : Addr) (z : Int32) (g : Int32 → Int32) (wcs : Int32) (rg : Value) (i : Int32) (u2 u3 : Int32) (E_a : Exa Z h0 a "java/lang/String") (tx : TX Z h0 a z g) (S_CS : Sta Z h0 "java/lang/String" "COMPACT_STRINGS" "Z" (.int wcs)) (ncs : ¬ (wcs = (0 : Int32))) (S_SI : Sta Z h0 "jdk/internal/util/Preconditions" "SIOOBE_FORMATTER" "Ljava/util/function/BiFunction;" rg) (r_rg : rg.isRef = true) (S_AD : Sta Z h0 "java/lang/StringUTF16" "$assertionsDisabled" "Z" (.int (1 : Int32))) (S_HI : Sta Z h0 "java/lang/StringUTF16" "HI_BYTE_SHIFT" "I" (.int (0 : Int32))) (S_LO : Sta Z h0 "java/lang/StringUTF16" "LO_BYTE_SHIFT" "I" (.int (8 : Int32))) (hi0 : ¬ (i < (0 : Int32))) (hiz : i < z) (bad : own_r (g i) = (0 : Int32)) :
    ∃ (T' : State) (locs' : List Loc), Stand p l e ({ frames := 5, cells := 0, slots := 0, locals := 68 } : Room) s m args below meth c T' locs' 0 0 ∧ T'.heap = h0 ∧ Fr n0 locs' ∧ ∀ t, Steps p.tables e below (T'.setTop (mkF m 86 #[.val (.ref a), .val (.int i), .val (.int (g i)), .val (.int (own_r (g i)))] [])) t → Steps p.tables e below (T.setTop (mkF m 2 #[.val (.ref a), .val (.int i), .val (.int u2), .val (.int u3)] [])) t := by
  obtain ⟨cq1, kq1, qa1, qb1, qc1⟩ := isOf hZ e0 E_a
  obtain ⟨_, _, ⟨T1, L1, kk1, nn1⟩, -, X1, ⟨Lc1, hQ1, l1, y1, z1⟩, st1⟩ := X0.virtualBack hx (y := (⟨"java/lang/String", "length", "()I"⟩ : MethodName)) (z := (⟨"java/lang/String", "length", "()I"⟩ : MethodName)) hown (mvT hZ (wk hw 32 rfl)) (mvT hZ (wk hw 33 rfl)) (notFace_of_selects (args := #[]) (mvT hZ (wk hw 35 rfl))) (mvT hZ (wk hw 35 rfl)) (mvT hZ (wk hw 34 rfl)) (by decide) (backOf (W := 1) (own_len l Z a0 hw [] a z g wcs h0 n0 Z0 E_a tx S_CS ncs) hZ (wk hw 36 rfl) (wk hw 8 rfl) (by decide) (by decide)) qa1 qc1 (g := (mkF m 4 #[.val (.ref a), .val (.int i), .val (.int u2), .val (.int u3)] [(.ref a), (.int i)])) rfl (by rw [hml]; rfl) (Steps.refl _) (argsL := []) (rest := [(.int i)]) (lenOf pdx___I rfl) rfl (by show 2 * 0 + _ ≤ _; exact Nat.le_of_eq rfl) (hb hby d5_4) (fun _ _ => ⟨rfl, e0, nle rfl, nle rfl⟩)
  dsimp only [Pt.U, Pt.locs, Pt.cells, Pt.slots] at X1 l1 y1 z1 st1 hQ1
  subst l1 y1 z1
  obtain ⟨rfl, Nq1, e1⟩ := hQ1
  have N1 := Fr.app N0 Nq1
  obtain ⟨cq2, kq2, qa2, qb2, qc2⟩ := isOf hZ e1 E_a
  obtain ⟨_, _, ⟨T2, L2, kk2, nn2⟩, -, X2, ⟨Lc2, hQ2, l2, y2, z2⟩, st2⟩ := X1.virtualBack hx (y := (⟨"java/lang/String", "charAt", "(I)C"⟩ : MethodName)) (z := (⟨"java/lang/String", "charAt", "(I)C"⟩ : MethodName)) hown (mvT hZ (wk hw 56 rfl)) (mvT hZ (wk hw 57 rfl)) (notFace_of_selects (args := #[]) (mvT hZ (wk hw 59 rfl))) (mvT hZ (wk hw 59 rfl)) (mvT hZ (wk hw 58 rfl)) (by decide) (backOf (W := 0) (own_charAt l Z a0 hw [] a z g i wcs rg h0 n0 Z0 E_a tx hi0 hiz S_CS ncs S_SI r_rg S_AD S_HI S_LO) hZ (wk hw 60 rfl) (wk hw 8 rfl) (by decide) (by decide)) qa2 qc2 (g := (mkF m 12 #[.val (.ref a), .val (.int i), .val (.int u2), .val (.int u3)] [(.int i), (.ref a)])) rfl (by rw [hml]; rfl) (Steps.refl _) (argsL := [(.int i)]) (rest := []) (lenOf pdx__I_C rfl) rfl (by show 2 * 0 + _ ≤ _; exact Nat.le_of_eq rfl) (hb hby d5_12) (fun _ _ => ⟨rfl, e1, nle rfl, nle rfl⟩)
  dsimp only [Pt.U, Pt.locs, Pt.cells, Pt.slots] at X2 l2 y2 z2 st2 hQ2
  subst l2 y2 z2
  obtain ⟨rfl, Nq2, e2⟩ := hQ2
  have N2 := Fr.app N1 Nq2
  refine ⟨T2, _, X2, e2, N2, fun t kont => ?_⟩
  · show Steps p.tables e below (T.setTop (mkF m 2 #[.val (.ref a), .val (.int i), .val (.int u2), .val (.int u3)] [])) _
    refine XS.iloadN X0.here hx rfl (hb hby d5_2) rfl ?_
    refine XS.aloadN X0.here hx rfl (hb hby d5_3) rfl rfl ?_
    show Steps p.tables e below (T.setTop (mkF m 4 #[.val (.ref a), .val (.int i), .val (.int u2), .val (.int u3)] [(.ref a), (.int i)])) _
    refine st1.trans ?_
    show Steps p.tables e below (T1.setTop (mkF m 7 #[.val (.ref a), .val (.int i), .val (.int u2), .val (.int u3)] [(.int z), (.int i)])) _
    refine XS.icmpNo X1.here hx rfl (hb hby d5_7) rfl (tlt (hiz : i < z)).2.1 ?_
    show Steps p.tables e below (T1.setTop (mkF m 10 #[.val (.ref a), .val (.int i), .val (.int u2), .val (.int u3)] [])) _
    refine XS.aloadN X1.here hx rfl (hb hby d5_10) rfl rfl ?_
    refine XS.iloadN X1.here hx rfl (hb hby d5_11) rfl ?_
    show Steps p.tables e below (T1.setTop (mkF m 12 #[.val (.ref a), .val (.int i), .val (.int u2), .val (.int u3)] [(.int i), (.ref a)])) _
    refine st2.trans ?_
    show Steps p.tables e below (T2.setTop (mkF m 15 #[.val (.ref a), .val (.int i), .val (.int u2), .val (.int u3)] [(.int (g i))])) _
    refine XS.istoreN X2.here hx rfl (hb hby d5_15) rfl (l' := #[.val (.ref a), .val (.int i), .val (.int (g i)), .val (.int u3)]) rfl ?_
    show Steps p.tables e below (T2.setTop (mkF m 16 #[.val (.ref a), .val (.int i), .val (.int (g i)), .val (.int u3)] [])) _
    refine own_chk X2 hx hby (g i) _ _ _ _ ?_
    show Steps p.tables e below (T2.setTop (mkF m 81 #[.val (.ref a), .val (.int i), .val (.int (g i)), .val (.int u3)] [(.int (own_r (g i)))])) _
    refine XS.istoreN X2.here hx rfl (hb hby d5_81) rfl (l' := #[.val (.ref a), .val (.int i), .val (.int (g i)), .val (.int (own_r (g i)))]) rfl ?_
    refine XS.iloadN X2.here hx rfl (hb hby d5_82) rfl ?_
    show Steps p.tables e below (T2.setTop (mkF m 83 #[.val (.ref a), .val (.int i), .val (.int (g i)), .val (.int (own_r (g i)))] [(.int (own_r (g i)))])) _
    refine XS.ifNo X2.here hx rfl (hb hby d5_83) rfl ((if0 _ _).trans (teq (bad : (own_r (g i)) = (0 : Int32))).2) ?_
    exact kont
set_option maxRecDepth 65536 in
set_option maxHeartbeats 40000000 in
theorem own_te0 {p : Program} {l : Launch} {e : Env} {s : State} {m : MethodId} {args : Array Value} {below : List Frame} {meth : Method} {c : Code} {Z : State} {a0 : Array Value} (hw : ∀ d ∈ tables_1, d.before a0 Z = true) (hx : p.tables.exec = Jvm.exec) (hby : c.code = prog_88_method_2_code) (hml : c.maxLocals = 4) (hZ : Z.Warmed39 s.vm) (hown : s.vm.findClass "com/example/grantline/grantline/authz/Unreserved" = some m.cls) {T : State} {locs : List Loc} (X0 : Stand p l e ({ frames := 5, cells := 0, slots := 0, locals := 68 } : Room) s m args below meth c T locs 0 0) {h0 : Heap} (e0 : T.heap = h0) {n0 : Nat} (Z0 : n0 ≤ h0.size) (N0 : Fr n0 locs) (a : Addr) (z : Int32) (g : Int32 → Int32) (wcs : Int32) (rg : Value) (i : Int32) (E_a : Exa Z h0 a "java/lang/String") (tx : TX Z h0 a z g) (S_CS : Sta Z h0 "java/lang/String" "COMPACT_STRINGS" "Z" (.int wcs)) (ncs : ¬ (wcs = (0 : Int32))) (S_SI : Sta Z h0 "jdk/internal/util/Preconditions" "SIOOBE_FORMATTER" "Ljava/util/function/BiFunction;" rg) (r_rg : rg.isRef = true) (S_AD : Sta Z h0 "java/lang/StringUTF16" "$assertionsDisabled" "Z" (.int (1 : Int32))) (S_HI : Sta Z h0 "java/lang/StringUTF16" "HI_BYTE_SHIFT" "I" (.int (0 : Int32))) (S_LO : Sta Z h0 "java/lang/StringUTF16" "LO_BYTE_SHIFT" "I" (.int (8 : Int32))) (hie : ¬ (i < z)) :
    ∃ (T' : State) (locs' : List Loc), Stand p l e ({ frames := 5, cells := 0, slots := 0, locals := 68 } : Room) s m args below meth c T' locs' 0 0 ∧ T'.heap = h0 ∧ Fr n0 locs' ∧ ∀ t, Steps p.tables e below (T'.setTop (mkF m 94 #[.val (.ref a), .val (.int i), .unset, .unset] [])) t → Steps p.tables e below (T.setTop (mkF m 2 #[.val (.ref a), .val (.int i), .unset, .unset] [])) t := by
  obtain ⟨cq1, kq1, qa1, qb1, qc1⟩ := isOf hZ e0 E_a
  obtain ⟨_, _, ⟨T1, L1, kk1, nn1⟩, -, X1, ⟨Lc1, hQ1, l1, y1, z1⟩, st1⟩ := X0.virtualBack hx (y := (⟨"java/lang/String", "length", "()I"⟩ : MethodName)) (z := (⟨"java/lang/String", "length", "()I"⟩ : MethodName)) hown (mvT hZ (wk hw 32 rfl)) (mvT hZ (wk hw 33 rfl)) (notFace_of_selects (args := #[]) (mvT hZ (wk hw 35 rfl))) (mvT hZ (wk hw 35 rfl)) (mvT hZ (wk hw 34 rfl)) (by decide) (backOf (W := 1) (own_len l Z a0 hw [] a z g wcs h0 n0 Z0 E_a tx S_CS ncs) hZ (wk hw 36 rfl) (wk hw 8 rfl) (by decide) (by decide)) qa1 qc1 (g := (mkF m 4 #[.val (.ref a), .val (.int i), .unset, .unset] [(.ref a), (.int i)])) rfl (by rw [hml]; rfl) (Steps.refl _) (argsL := []) (rest := [(.int i)]) (lenOf pdx___I rfl) rfl (by show 2 * 0 + _ ≤ _; exact Nat.le_of_eq rfl) (hb hby d5_4) (fun _ _ => ⟨rfl, e0, nle rfl, nle rfl⟩)
  dsimp only [Pt.U, Pt.locs, Pt.cells, Pt.slots] at X1 l1 y1 z1 st1 hQ1
  subst l1 y1 z1
  obtain ⟨rfl, Nq1, e1⟩ := hQ1
  have N1 := Fr.app N0 Nq1
  refine ⟨T1, _, X1, e1, N1, fun t kont => ?_⟩
  · show Steps p.tables e below (T.setTop (mkF m 2 #[.val (.ref a), .val (.int i), .unset, .unset] [])) _
    refine XS.iloadN X0.here hx rfl (hb hby d5_2) rfl ?_
    refine XS.aloadN X0.here hx rfl (hb hby d5_3) rfl rfl ?_
    show Steps p.tables e below (T.setTop (mkF m 4 #[.val (.ref a), .val (.int i), .unset, .unset] [(.ref a), (.int i)])) _
    refine st1.trans ?_
    show Steps p.tables e below (T1.setTop (mkF m 7 #[.val (.ref a), .val (.int i), .unset, .unset] [(.int z), (.int i)])) _
    refine XS.icmpYes X1.here hx rfl (pc0 := 7) (pc' := 94) rfl (hb hby d5_7) rfl (flt (hie : ¬ (i < z))).2.1 (by decide) (by decide) ?_
    exact kont
set_option maxRecDepth 65536 in
set_option maxHeartbeats 40000000 in
theorem own_te1 {p : Program} {l : Launch} {e : Env} {s : State} {m : MethodId} {args : Array Value} {below : List Frame} {meth : Method} {c : Code} {Z : State} {a0 : Array Value} (hw : ∀ d ∈ tables_1, d.before a0 Z = true) (hx : p.tables.exec = Jvm.exec) (hby : c.code = prog_88_method_2_code) (hml : c.maxLocals = 4) (hZ : Z.Warmed39 s.vm) (hown : s.vm.findClass "com/example/grantline/grantline/authz/Unreserved" = some m.cls) {T : State} {locs : List Loc} (X0 : Stand p l e ({ frames := 5, cells := 0, slots := 0, locals := 68 } : Room) s m args below meth c T locs 0 0) {h0 : Heap} (e0 : T.heap = h0) {n0 : Nat} (Z0 : n0 ≤ h0.size) (N0 : Fr n0 locs) (a : Addr) (z : Int32) (g : Int32 → Int32) (wcs : Int32) (rg : Value) (i : Int32) (u2 u3 : Int32) (E_a : Exa Z h0 a "java/lang/String") (tx : TX Z h0 a z g) (S_CS : Sta Z h0 "java/lang/String" "COMPACT_STRINGS" "Z" (.int wcs)) (ncs : ¬ (wcs = (0 : Int32))) (S_SI : Sta Z h0 "jdk/internal/util/Preconditions" "SIOOBE_FORMATTER" "Ljava/util/function/BiFunction;" rg) (r_rg : rg.isRef = true) (S_AD : Sta Z h0 "java/lang/StringUTF16" "$assertionsDisabled" "Z" (.int (1 : Int32))) (S_HI : Sta Z h0 "java/lang/StringUTF16" "HI_BYTE_SHIFT" "I" (.int (0 : Int32))) (S_LO : Sta Z h0 "java/lang/StringUTF16" "LO_BYTE_SHIFT" "I" (.int (8 : Int32))) (hie : ¬ (i < z)) :
    ∃ (T' : State) (locs' : List Loc), Stand p l e ({ frames := 5, cells := 0, slots := 0, locals := 68 } : Room) s m args below meth c T' locs' 0 0 ∧ T'.heap = h0 ∧ Fr n0 locs' ∧ ∀ t, Steps p.tables e below (T'.setTop (mkF m 94 #[.val (.ref a), .val (.int i), .val (.int u2), .val (.int u3)] [])) t → Steps p.tables e below (T.setTop (mkF m 2 #[.val (.ref a), .val (.int i), .val (.int u2), .val (.int u3)] [])) t := by
  obtain ⟨cq1, kq1, qa1, qb1, qc1⟩ := isOf hZ e0 E_a
  obtain ⟨_, _, ⟨T1, L1, kk1, nn1⟩, -, X1, ⟨Lc1, hQ1, l1, y1, z1⟩, st1⟩ := X0.virtualBack hx (y := (⟨"java/lang/String", "length", "()I"⟩ : MethodName)) (z := (⟨"java/lang/String", "length", "()I"⟩ : MethodName)) hown (mvT hZ (wk hw 32 rfl)) (mvT hZ (wk hw 33 rfl)) (notFace_of_selects (args := #[]) (mvT hZ (wk hw 35 rfl))) (mvT hZ (wk hw 35 rfl)) (mvT hZ (wk hw 34 rfl)) (by decide) (backOf (W := 1) (own_len l Z a0 hw [] a z g wcs h0 n0 Z0 E_a tx S_CS ncs) hZ (wk hw 36 rfl) (wk hw 8 rfl) (by decide) (by decide)) qa1 qc1 (g := (mkF m 4 #[.val (.ref a), .val (.int i), .val (.int u2), .val (.int u3)] [(.ref a), (.int i)])) rfl (by rw [hml]; rfl) (Steps.refl _) (argsL := []) (rest := [(.int i)]) (lenOf pdx___I rfl) rfl (by show 2 * 0 + _ ≤ _; exact Nat.le_of_eq rfl) (hb hby d5_4) (fun _ _ => ⟨rfl, e0, nle rfl, nle rfl⟩)
  dsimp only [Pt.U, Pt.locs, Pt.cells, Pt.slots] at X1 l1 y1 z1 st1 hQ1
  subst l1 y1 z1
  obtain ⟨rfl, Nq1, e1⟩ := hQ1
  have N1 := Fr.app N0 Nq1
  refine ⟨T1, _, X1, e1, N1, fun t kont => ?_⟩
  · show Steps p.tables e below (T.setTop (mkF m 2 #[.val (.ref a), .val (.int i), .val (.int u2), .val (.int u3)] [])) _
    refine XS.iloadN X0.here hx rfl (hb hby d5_2) rfl ?_
    refine XS.aloadN X0.here hx rfl (hb hby d5_3) rfl rfl ?_
    show Steps p.tables e below (T.setTop (mkF m 4 #[.val (.ref a), .val (.int i), .val (.int u2), .val (.int u3)] [(.ref a), (.int i)])) _
    refine st1.trans ?_
    show Steps p.tables e below (T1.setTop (mkF m 7 #[.val (.ref a), .val (.int i), .val (.int u2), .val (.int u3)] [(.int z), (.int i)])) _
    refine XS.icmpYes X1.here hx rfl (pc0 := 7) (pc' := 94) rfl (hb hby d5_7) rfl (flt (hie : ¬ (i < z))).2.1 (by decide) (by decide) ?_
    exact kont
theorem d5_0 : decode prog_88_method_2_code 0 = .ok (.iconst 0, 1) := by decide +kernel
theorem d5_1 : decode prog_88_method_2_code 1 = .ok (.istore_n 1, 1) := by decide +kernel
theorem d5_94 : decode prog_88_method_2_code 94 = .ok (.iconst 1, 1) := by decide +kernel
theorem d5_95 : decode prog_88_method_2_code 95 = .ok (.ireturn, 1) := by decide +kernel
theorem pnx_com_example_grantline_grantline_authz_Unreserved : plainName "com/example/grantline/grantline/authz/Unreserved" = true := by first | (simp [plainName, overriddenIn]; done) | decide +kernel
def Q_m5g_0 (Z : State) (a : Addr) (g : Int32 → Int32) (wcs : Int32) (rg : Value) (h0 : Heap) (n0 : Nat) (v : Option Value) (h : Heap) (L : List Loc) : Prop := v = (some (.int (1 : Int32))) ∧ Fr n0 L ∧ h = h0
theorem ef_m5g_0 (m : MethodId) (a : Addr) (g : Int32 → Int32) (wcs : Int32) (rg : Value) : entryFrame m #[(.ref a)] 4 = mkF m 0 #[.val (.ref a), .unset, .unset, .unset] [] := by first | (simp [entryFrame, mkF, argsToLocals, Value.category]; done) | rfl
set_option maxRecDepth 65536 in
set_option maxHeartbeats 40000000 in
theorem m5g_0 (l : Launch) (Z : State) (a0 : Array Value) (hw : ∀ d ∈ tables_1, d.before a0 Z = true) (ws : List Jvm.Cond) (a : Addr) (g : Int32 → Int32) (wcs : Int32) (rg : Value) (h0 : Heap) (n0 : Nat) (Z0 : n0 ≤ h0.size) (E_a : Exa Z h0 a "java/lang/String") (tx : TX Z h0 a (0 : Int32) g) (S_CS : Sta Z h0 "java/lang/String" "COMPACT_STRINGS" "Z" (.int wcs)) (ncs : ¬ (wcs = (0 : Int32))) (S_SI : Sta Z h0 "jdk/internal/util/Preconditions" "SIOOBE_FORMATTER" "Ljava/util/function/BiFunction;" rg) (r_rg : rg.isRef = true) (S_AD : Sta Z h0 "java/lang/StringUTF16" "$assertionsDisabled" "Z" (.int (1 : Int32))) (S_HI : Sta Z h0 "java/lang/StringUTF16" "HI_BYTE_SHIFT" "I" (.int (0 : Int32))) (S_LO : Sta Z h0 "java/lang/StringUTF16" "LO_BYTE_SHIFT" "I" (.int (8 : Int32))) :
    MetFree l (⟨"com/example/grantline/grantline/authz/Unreserved", "matches", "(Ljava/lang/String;)Z"⟩ : MethodName) (head1 (Jvm.Cond.code (⟨"com/example/grantline/grantline/authz/Unreserved", "matches", "(Ljava/lang/String;)Z"⟩ : MethodName) prog_88_method_2_code 4 (some .boolean) :: ws) ({ frames := 5, cells := 0, slots := 0, locals := 68 } : Room)) (fun ar_ U => ar_ = #[(.ref a)] ∧ Z.Warmed39 U.vm ∧ U.heap = h0) (fun _ _ _ _ _ => True) (fun _ U o U' => ∃ v L, o = .returned v ∧ Q_m5g_0 Z a g wcs rg h0 n0 v U'.heap L ∧ FrameEnd U o U' L ({ frames := 5, cells := 0, slots := 0, locals := 68 } : Room).cells ({ frames := 5, cells := 0, slots := 0, locals := 68 } : Room).slots) := by
  refine MetFree.of_bodySF (plainFor_of_name pnx_com_example_grantline_grantline_authz_Unreserved) hisR ?_
  intro p e s m args below meth c s₁ Bd hml0 hP hK
  obtain ⟨rfl, hZ, hh⟩ := hP
  have hx := Bd.exec
  have hby := Bd.bytes
  have hml : c.maxLocals = 4 := hml0
  have hown : s.vm.findClass "com/example/grantline/grantline/authz/Unreserved" = some m.cls := findClass_of_methodNamed Bd.named
  have hnm := (name_of_methodNamed Bd.named Bd.method).1
  have X0 : Stand p l e ({ frames := 5, cells := 0, slots := 0, locals := 68 } : Room) s m #[(.ref a)] below meth c s₁ [] 0 0 := Stand.of_body Bd
  have e0 : s₁.heap = h0 := by rw [← hh, Bd.state]; rfl
  have N0 := Fr.nil n0
  have pre0 : ∀ tq_, Steps p.tables e below (s₁.setTop (mkF m 0 #[.val (.ref a), .unset, .unset, .unset] [])) tq_ → Steps p.tables e below (s₁.setTop (entryFrame m #[(.ref a)] 4)) tq_ := fun tq_ kt_ => castTop (ef_m5g_0 m a g wcs rg ) kt_
  obtain ⟨T1, locs1, X1, e1, N1, st1⟩ := own_te0 hw hx hby hml hZ hown X0 e0 Z0 N0 a (0 : Int32) g wcs rg (0 : Int32)  E_a tx S_CS ncs S_SI r_rg S_AD S_HI S_LO (by decide)
  obtain ⟨fs, hr, hrun, hended, hW, hsame⟩ := X1.leave (v := some (.int (1 : Int32))) (fun h => by rw [Bd.returns] at h; cases h)
  refine ⟨_, _, pre0 _ ?_, hrun, hended, _, _, rfl, ?_, ⟨_, rfl⟩, hW, hsame.mono (nle rfl) (nle rfl)⟩
  · show Steps p.tables e below (s₁.setTop (mkF m 0 #[.val (.ref a), .unset, .unset, .unset] [])) _
    refine XS.iconst X0.here hx rfl (hb hby d5_0) ?_
    refine XS.istoreN X0.here hx rfl (hb hby d5_1) rfl (l' := #[.val (.ref a), .val (.int (0 : Int32)), .unset, .unset]) rfl ?_
    show Steps p.tables e below (s₁.setTop (mkF m 2 #[.val (.ref a), .val (.int (0 : Int32)), .unset, .unset] [])) _
    refine st1 _ ?_
    show Steps p.tables e below (T1.setTop (mkF m 94 #[.val (.ref a), .val (.int (0 : Int32)), .unset, .unset] [])) _
    refine XS.iconst X1.here hx rfl (hb hby d5_94) ?_
    show Steps p.tables e below (T1.setTop (mkF m 95 #[.val (.ref a), .val (.int (0 : Int32)), .unset, .unset] [(.int (1 : Int32))])) _
    exact own_retN X1 hx (t := .boolean) rfl Bd.returns (by simp) (hb hby d5_95) hr
  · show Q_m5g_0 Z a g wcs rg h0 n0 _ T1.heap _
    exact ⟨rfl, N1, e1⟩
def Q_m5g_1 (Z : State) (a : Addr) (g : Int32 → Int32) (wcs : Int32) (rg : Value) (h0 : Heap) (n0 : Nat) (v : Option Value) (h : Heap) (L : List Loc) : Prop := v = (some (.int (1 : Int32))) ∧ Fr n0 L ∧ h = h0
theorem ef_m5g_1 (m : MethodId) (a : Addr) (g : Int32 → Int32) (wcs : Int32) (rg : Value) : entryFrame m #[(.ref a)] 4 = mkF m 0 #[.val (.ref a), .unset, .unset, .unset] [] := by first | (simp [entryFrame, mkF, argsToLocals, Value.category]; done) | rfl
set_option maxRecDepth 65536 in
set_option maxHeartbeats 40000000 in
theorem m5g_1 (l : Launch) (Z : State) (a0 : Array Value) (hw : ∀ d ∈ tables_1, d.before a0 Z = true) (ws : List Jvm.Cond) (a : Addr) (g : Int32 → Int32) (wcs : Int32) (rg : Value) (h0 : Heap) (n0 : Nat) (Z0 : n0 ≤ h0.size) (E_a : Exa Z h0 a "java/lang/String") (tx : TX Z h0 a (1 : Int32) g) (S_CS : Sta Z h0 "java/lang/String" "COMPACT_STRINGS" "Z" (.int wcs)) (ncs : ¬ (wcs = (0 : Int32))) (S_SI : Sta Z h0 "jdk/internal/util/Preconditions" "SIOOBE_FORMATTER" "Ljava/util/function/BiFunction;" rg) (r_rg : rg.isRef = true) (S_AD : Sta Z h0 "java/lang/StringUTF16" "$assertionsDisabled" "Z" (.int (1 : Int32))) (S_HI : Sta Z h0 "java/lang/StringUTF16" "HI_BYTE_SHIFT" "I" (.int (0 : Int32))) (S_LO : Sta Z h0 "java/lang/StringUTF16" "LO_BYTE_SHIFT" "I" (.int (8 : Int32))) (gd0 : ¬ (own_r (g (0 : Int32)) = (0 : Int32))) :
    MetFree l (⟨"com/example/grantline/grantline/authz/Unreserved", "matches", "(Ljava/lang/String;)Z"⟩ : MethodName) (head1 (Jvm.Cond.code (⟨"com/example/grantline/grantline/authz/Unreserved", "matches", "(Ljava/lang/String;)Z"⟩ : MethodName) prog_88_method_2_code 4 (some .boolean) :: ws) ({ frames := 5, cells := 0, slots := 0, locals := 68 } : Room)) (fun ar_ U => ar_ = #[(.ref a)] ∧ Z.Warmed39 U.vm ∧ U.heap = h0) (fun _ _ _ _ _ => True) (fun _ U o U' => ∃ v L, o = .returned v ∧ Q_m5g_1 Z a g wcs rg h0 n0 v U'.heap L ∧ FrameEnd U o U' L ({ frames := 5, cells := 0, slots := 0, locals := 68 } : Room).cells ({ frames := 5, cells := 0, slots := 0, locals := 68 } : Room).slots) := by
  refine MetFree.of_bodySF (plainFor_of_name pnx_com_example_grantline_grantline_authz_Unreserved) hisR ?_
  intro p e s m args below meth c s₁ Bd hml0 hP hK
  obtain ⟨rfl, hZ, hh⟩ := hP
  have hx := Bd.exec
  have hby := Bd.bytes
  have hml : c.maxLocals = 4 := hml0
  have hown : s.vm.findClass "com/example/grantline/grantline/authz/Unreserved" = some m.cls := findClass_of_methodNamed Bd.named
  have hnm := (name_of_methodNamed Bd.named Bd.method).1
  have X0 : Stand p l e ({ frames := 5, cells := 0, slots := 0, locals := 68 } : Room) s m #[(.ref a)] below meth c s₁ [] 0 0 := Stand.of_body Bd
  have e0 : s₁.heap = h0 := by rw [← hh, Bd.state]; rfl
  have N0 := Fr.nil n0
  have pre0 : ∀ tq_, Steps p.tables e below (s₁.setTop (mkF m 0 #[.val (.ref a), .unset, .unset, .unset] [])) tq_ → Steps p.tables e below (s₁.setTop (entryFrame m #[(.ref a)] 4)) tq_ := fun tq_ kt_ => castTop (ef_m5g_1 m a g wcs rg ) kt_
  obtain ⟨T1, locs1, X1, e1, N1, st1⟩ := own_tg0 hw hx hby hml hZ hown X0 e0 Z0 N0 a (1 : Int32) g wcs rg (0 : Int32)  E_a tx S_CS ncs S_SI r_rg S_AD S_HI S_LO (by decide) (by decide) gd0
  obtain ⟨T2, locs2, X2, e2, N2, st2⟩ := own_te1 hw hx hby hml hZ hown X1 e1 Z0 N1 a (1 : Int32) g wcs rg (1 : Int32) (g (0 : Int32)) (own_r (g (0 : Int32))) E_a tx S_CS ncs S_SI r_rg S_AD S_HI S_LO (by decide)
  obtain ⟨fs, hr, hrun, hended, hW, hsame⟩ := X2.leave (v := some (.int (1 : Int32))) (fun h => by rw [Bd.returns] at h; cases h)
  refine ⟨_, _, pre0 _ ?_, hrun, hended, _, _, rfl, ?_, ⟨_, rfl⟩, hW, hsame.mono (nle rfl) (nle rfl)⟩
  · show Steps p.tables e below (s₁.setTop (mkF m 0 #[.val (.ref a), .unset, .unset, .unset] [])) _
    refine XS.iconst X0.here hx rfl (hb hby d5_0) ?_
    refine XS.istoreN X0.here hx rfl (hb hby d5_1) rfl (l' := #[.val (.ref a), .val (.int (0 : Int32)), .unset, .unset]) rfl ?_
    show Steps p.tables e below (s₁.setTop (mkF m 2 #[.val (.ref a), .val (.int (0 : Int32)), .unset, .unset] [])) _
    refine st1 _ ?_
    show Steps p.tables e below (T1.setTop (mkF m 2 #[.val (.ref a), .val (.int (1 : Int32)), .val (.int (g (0 : Int32))), .val (.int (own_r (g (0 : Int32))))] [])) _
    refine st2 _ ?_
    show Steps p.tables e below (T2.setTop (mkF m 94 #[.val (.ref a), .val (.int (1 : Int32)), .val (.int (g (0 : Int32))), .val (.int (own_r (g (0 : Int32))))] [])) _
    refine XS.iconst X2.here hx rfl (hb hby d5_94) ?_
    show Steps p.tables e below (T2.setTop (mkF m 95 #[.val (.ref a), .val (.int (1 : Int32)), .val (.int (g (0 : Int32))), .val (.int (own_r (g (0 : Int32))))] [(.int (1 : Int32))])) _
    exact own_retN X2 hx (t := .boolean) rfl Bd.returns (by simp) (hb hby d5_95) hr
  · show Q_m5g_1 Z a g wcs rg h0 n0 _ T2.heap _
    exact ⟨rfl, N2, e2⟩
def Q_m5g_2 (Z : State) (a : Addr) (g : Int32 → Int32) (wcs : Int32) (rg : Value) (h0 : Heap) (n0 : Nat) (v : Option Value) (h : Heap) (L : List Loc) : Prop := v = (some (.int (1 : Int32))) ∧ Fr n0 L ∧ h = h0
theorem ef_m5g_2 (m : MethodId) (a : Addr) (g : Int32 → Int32) (wcs : Int32) (rg : Value) : entryFrame m #[(.ref a)] 4 = mkF m 0 #[.val (.ref a), .unset, .unset, .unset] [] := by first | (simp [entryFrame, mkF, argsToLocals, Value.category]; done) | rfl
set_option maxRecDepth 65536 in
set_option maxHeartbeats 40000000 in
theorem m5g_2 (l : Launch) (Z : State) (a0 : Array Value) (hw : ∀ d ∈ tables_1, d.before a0 Z = true) (ws : List Jvm.Cond) (a : Addr) (g : Int32 → Int32) (wcs : Int32) (rg : Value) (h0 : Heap) (n0 : Nat) (Z0 : n0 ≤ h0.size) (E_a : Exa Z h0 a "java/lang/String") (tx : TX Z h0 a (2 : Int32) g) (S_CS : Sta Z h0 "java/lang/String" "COMPACT_STRINGS" "Z" (.int wcs)) (ncs : ¬ (wcs = (0 : Int32))) (S_SI : Sta Z h0 "jdk/internal/util/Preconditions" "SIOOBE_FORMATTER" "Ljava/util/function/BiFunction;" rg) (r_rg : rg.isRef = true) (S_AD : Sta Z h0 "java/lang/StringUTF16" "$assertionsDisabled" "Z" (.int (1 : Int32))) (S_HI : Sta Z h0 "java/lang/StringUTF16" "HI_BYTE_SHIFT" "I" (.int (0 : Int32))) (S_LO : Sta Z h0 "java/lang/StringUTF16" "LO_BYTE_SHIFT" "I" (.int (8 : Int32))) (gd0 : ¬ (own_r (g (0 : Int32)) = (0 : Int32))) (gd1 : ¬ (own_r (g (1 : Int32)) = (0 : Int32))) :
    MetFree l (⟨"com/example/grantline/grantline/authz/Unreserved", "matches", "(Ljava/lang/String;)Z"⟩ : MethodName) (head1 (Jvm.Cond.code (⟨"com/example/grantline/grantline/authz/Unreserved", "matches", "(Ljava/lang/String;)Z"⟩ : MethodName) prog_88_method_2_code 4 (some .boolean) :: ws) ({ frames := 5, cells := 0, slots := 0, locals := 68 } : Room)) (fun ar_ U => ar_ = #[(.ref a)] ∧ Z.Warmed39 U.vm ∧ U.heap = h0) (fun _ _ _ _ _ => True) (fun _ U o U' => ∃ v L, o = .returned v ∧ Q_m5g_2 Z a g wcs rg h0 n0 v U'.heap L ∧ FrameEnd U o U' L ({ frames := 5, cells := 0, slots := 0, locals := 68 } : Room).cells ({ frames := 5, cells := 0, slots := 0, locals := 68 } : Room).slots) := by
  refine MetFree.of_bodySF (plainFor_of_name pnx_com_example_grantline_grantline_authz_Unreserved) hisR ?_
  intro p e s m args below meth c s₁ Bd hml0 hP hK
  obtain ⟨rfl, hZ, hh⟩ := hP
  have hx := Bd.exec
  have hby := Bd.bytes
  have hml : c.maxLocals = 4 := hml0
  have hown : s.vm.findClass "com/example/grantline/grantline/authz/Unreserved" = some m.cls := findClass_of_methodNamed Bd.named
  have hnm := (name_of_methodNamed Bd.named Bd.method).1
  have X0 : Stand p l e ({ frames := 5, cells := 0, slots := 0, locals := 68 } : Room) s m #[(.ref a)] below meth c s₁ [] 0 0 := Stand.of_body Bd
  have e0 : s₁.heap = h0 := by rw [← hh, Bd.state]; rfl
  have N0 := Fr.nil n0
  have pre0 : ∀ tq_, Steps p.tables e below (s₁.setTop (mkF m 0 #[.val (.ref a), .unset, .unset, .unset] [])) tq_ → Steps p.tables e below (s₁.setTop (entryFrame m #[(.ref a)] 4)) tq_ := fun tq_ kt_ => castTop (ef_m5g_2 m a g wcs rg ) kt_
  obtain ⟨T1, locs1, X1, e1, N1, st1⟩ := own_tg0 hw hx hby hml hZ hown X0 e0 Z0 N0 a (2 : Int32) g wcs rg (0 : Int32)  E_a tx S_CS ncs S_SI r_rg S_AD S_HI S_LO (by decide) (by decide) gd0
  obtain ⟨T2, locs2, X2, e2, N2, st2⟩ := own_tg1 hw hx hby hml hZ hown X1 e1 Z0 N1 a (2 : Int32) g wcs rg (1 : Int32) (g (0 : Int32)) (own_r (g (0 : Int32))) E_a tx S_CS ncs S_SI r_rg S_AD S_HI S_LO (by decide) (by decide) gd1
  obtain ⟨T3, locs3, X3, e3, N3, st3⟩ := own_te1 hw hx hby hml hZ hown X2 e2 Z0 N2 a (2 : Int32) g wcs rg (2 : Int32) (g (1 : Int32)) (own_r (g (1 : Int32))) E_a tx S_CS ncs S_SI r_rg S_AD S_HI S_LO (by decide)
  obtain ⟨fs, hr, hrun, hended, hW, hsame⟩ := X3.leave (v := some (.int (1 : Int32))) (fun h => by rw [Bd.returns] at h; cases h)
  refine ⟨_, _, pre0 _ ?_, hrun, hended, _, _, rfl, ?_, ⟨_, rfl⟩, hW, hsame.mono (nle rfl) (nle rfl)⟩
  · show Steps p.tables e below (s₁.setTop (mkF m 0 #[.val (.ref a), .unset, .unset, .unset] [])) _
    refine XS.iconst X0.here hx rfl (hb hby d5_0) ?_
    refine XS.istoreN X0.here hx rfl (hb hby d5_1) rfl (l' := #[.val (.ref a), .val (.int (0 : Int32)), .unset, .unset]) rfl ?_
    show Steps p.tables e below (s₁.setTop (mkF m 2 #[.val (.ref a), .val (.int (0 : Int32)), .unset, .unset] [])) _
    refine st1 _ ?_
    show Steps p.tables e below (T1.setTop (mkF m 2 #[.val (.ref a), .val (.int (1 : Int32)), .val (.int (g (0 : Int32))), .val (.int (own_r (g (0 : Int32))))] [])) _
    refine st2 _ ?_
    show Steps p.tables e below (T2.setTop (mkF m 2 #[.val (.ref a), .val (.int (2 : Int32)), .val (.int (g (1 : Int32))), .val (.int (own_r (g (1 : Int32))))] [])) _
    refine st3 _ ?_
    show Steps p.tables e below (T3.setTop (mkF m 94 #[.val (.ref a), .val (.int (2 : Int32)), .val (.int (g (1 : Int32))), .val (.int (own_r (g (1 : Int32))))] [])) _
    refine XS.iconst X3.here hx rfl (hb hby d5_94) ?_
    show Steps p.tables e below (T3.setTop (mkF m 95 #[.val (.ref a), .val (.int (2 : Int32)), .val (.int (g (1 : Int32))), .val (.int (own_r (g (1 : Int32))))] [(.int (1 : Int32))])) _
    exact own_retN X3 hx (t := .boolean) rfl Bd.returns (by simp) (hb hby d5_95) hr
  · show Q_m5g_2 Z a g wcs rg h0 n0 _ T3.heap _
    exact ⟨rfl, N3, e3⟩
def Q_m5g_3 (Z : State) (a : Addr) (g : Int32 → Int32) (wcs : Int32) (rg : Value) (h0 : Heap) (n0 : Nat) (v : Option Value) (h : Heap) (L : List Loc) : Prop := v = (some (.int (1 : Int32))) ∧ Fr n0 L ∧ h = h0
theorem ef_m5g_3 (m : MethodId) (a : Addr) (g : Int32 → Int32) (wcs : Int32) (rg : Value) : entryFrame m #[(.ref a)] 4 = mkF m 0 #[.val (.ref a), .unset, .unset, .unset] [] := by first | (simp [entryFrame, mkF, argsToLocals, Value.category]; done) | rfl
set_option maxRecDepth 65536 in
set_option maxHeartbeats 40000000 in
theorem m5g_3 (l : Launch) (Z : State) (a0 : Array Value) (hw : ∀ d ∈ tables_1, d.before a0 Z = true) (ws : List Jvm.Cond) (a : Addr) (g : Int32 → Int32) (wcs : Int32) (rg : Value) (h0 : Heap) (n0 : Nat) (Z0 : n0 ≤ h0.size) (E_a : Exa Z h0 a "java/lang/String") (tx : TX Z h0 a (3 : Int32) g) (S_CS : Sta Z h0 "java/lang/String" "COMPACT_STRINGS" "Z" (.int wcs)) (ncs : ¬ (wcs = (0 : Int32))) (S_SI : Sta Z h0 "jdk/internal/util/Preconditions" "SIOOBE_FORMATTER" "Ljava/util/function/BiFunction;" rg) (r_rg : rg.isRef = true) (S_AD : Sta Z h0 "java/lang/StringUTF16" "$assertionsDisabled" "Z" (.int (1 : Int32))) (S_HI : Sta Z h0 "java/lang/StringUTF16" "HI_BYTE_SHIFT" "I" (.int (0 : Int32))) (S_LO : Sta Z h0 "java/lang/StringUTF16" "LO_BYTE_SHIFT" "I" (.int (8 : Int32))) (gd0 : ¬ (own_r (g (0 : Int32)) = (0 : Int32))) (gd1 : ¬ (own_r (g (1 : Int32)) = (0 : Int32))) (gd2 : ¬ (own_r (g (2 : Int32)) = (0 : Int32))) :
    MetFree l (⟨"com/example/grantline/grantline/authz/Unreserved", "matches", "(Ljava/lang/String;)Z"⟩ : MethodName) (head1 (Jvm.Cond.code (⟨"com/example/grantline/grantline/authz/Unreserved", "matches", "(Ljava/lang/String;)Z"⟩ : MethodName) prog_88_method_2_code 4 (some .boolean) :: ws) ({ frames := 5, cells := 0, slots := 0, locals := 68 } : Room)) (fun ar_ U => ar_ = #[(.ref a)] ∧ Z.Warmed39 U.vm ∧ U.heap = h0) (fun _ _ _ _ _ => True) (fun _ U o U' => ∃ v L, o = .returned v ∧ Q_m5g_3 Z a g wcs rg h0 n0 v U'.heap L ∧ FrameEnd U o U' L ({ frames := 5, cells := 0, slots := 0, locals := 68 } : Room).cells ({ frames := 5, cells := 0, slots := 0, locals := 68 } : Room).slots) := by
  refine MetFree.of_bodySF (plainFor_of_name pnx_com_example_grantline_grantline_authz_Unreserved) hisR ?_
  intro p e s m args below meth c s₁ Bd hml0 hP hK
  obtain ⟨rfl, hZ, hh⟩ := hP
  have hx := Bd.exec
  have hby := Bd.bytes
  have hml : c.maxLocals = 4 := hml0
  have hown : s.vm.findClass "com/example/grantline/grantline/authz/Unreserved" = some m.cls := findClass_of_methodNamed Bd.named
  have hnm := (name_of_methodNamed Bd.named Bd.method).1
  have X0 : Stand p l e ({ frames := 5, cells := 0, slots := 0, locals := 68 } : Room) s m #[(.ref a)] below meth c s₁ [] 0 0 := Stand.of_body Bd
  have e0 : s₁.heap = h0 := by rw [← hh, Bd.state]; rfl
  have N0 := Fr.nil n0
  have pre0 : ∀ tq_, Steps p.tables e below (s₁.setTop (mkF m 0 #[.val (.ref a), .unset, .unset, .unset] [])) tq_ → Steps p.tables e below (s₁.setTop (entryFrame m #[(.ref a)] 4)) tq_ := fun tq_ kt_ => castTop (ef_m5g_3 m a g wcs rg ) kt_
  obtain ⟨T1, locs1, X1, e1, N1, st1⟩ := own_tg0 hw hx hby hml hZ hown X0 e0 Z0 N0 a (3 : Int32) g wcs rg (0 : Int32)  E_a tx S_CS ncs S_SI r_rg S_AD S_HI S_LO (by decide) (by decide) gd0
  obtain ⟨T2, locs2, X2, e2, N2, st2⟩ := own_tg1 hw hx hby hml hZ hown X1 e1 Z0 N1 a (3 : Int32) g wcs rg (1 : Int32) (g (0 : Int32)) (own_r (g (0 : Int32))) E_a tx S_CS ncs S_SI r_rg S_AD S_HI S_LO (by decide) (by decide) gd1
  obtain ⟨T3, locs3, X3, e3, N3, st3⟩ := own_tg1 hw hx hby hml hZ hown X2 e2 Z0 N2 a (3 : Int32) g wcs rg (2 : Int32) (g (1 : Int32)) (own_r (g (1 : Int32))) E_a tx S_CS ncs S_SI r_rg S_AD S_HI S_LO (by decide) (by decide) gd2
  obtain ⟨T4, locs4, X4, e4, N4, st4⟩ := own_te1 hw hx hby hml hZ hown X3 e3 Z0 N3 a (3 : Int32) g wcs rg (3 : Int32) (g (2 : Int32)) (own_r (g (2 : Int32))) E_a tx S_CS ncs S_SI r_rg S_AD S_HI S_LO (by decide)
  obtain ⟨fs, hr, hrun, hended, hW, hsame⟩ := X4.leave (v := some (.int (1 : Int32))) (fun h => by rw [Bd.returns] at h; cases h)
  refine ⟨_, _, pre0 _ ?_, hrun, hended, _, _, rfl, ?_, ⟨_, rfl⟩, hW, hsame.mono (nle rfl) (nle rfl)⟩
  · show Steps p.tables e below (s₁.setTop (mkF m 0 #[.val (.ref a), .unset, .unset, .unset] [])) _
    refine XS.iconst X0.here hx rfl (hb hby d5_0) ?_
    refine XS.istoreN X0.here hx rfl (hb hby d5_1) rfl (l' := #[.val (.ref a), .val (.int (0 : Int32)), .unset, .unset]) rfl ?_
    show Steps p.tables e below (s₁.setTop (mkF m 2 #[.val (.ref a), .val (.int (0 : Int32)), .unset, .unset] [])) _
    refine st1 _ ?_
    show Steps p.tables e below (T1.setTop (mkF m 2 #[.val (.ref a), .val (.int (1 : Int32)), .val (.int (g (0 : Int32))), .val (.int (own_r (g (0 : Int32))))] [])) _
    refine st2 _ ?_
    show Steps p.tables e below (T2.setTop (mkF m 2 #[.val (.ref a), .val (.int (2 : Int32)), .val (.int (g (1 : Int32))), .val (.int (own_r (g (1 : Int32))))] [])) _
    refine st3 _ ?_
    show Steps p.tables e below (T3.setTop (mkF m 2 #[.val (.ref a), .val (.int (3 : Int32)), .val (.int (g (2 : Int32))), .val (.int (own_r (g (2 : Int32))))] [])) _
    refine st4 _ ?_
    show Steps p.tables e below (T4.setTop (mkF m 94 #[.val (.ref a), .val (.int (3 : Int32)), .val (.int (g (2 : Int32))), .val (.int (own_r (g (2 : Int32))))] [])) _
    refine XS.iconst X4.here hx rfl (hb hby d5_94) ?_
    show Steps p.tables e below (T4.setTop (mkF m 95 #[.val (.ref a), .val (.int (3 : Int32)), .val (.int (g (2 : Int32))), .val (.int (own_r (g (2 : Int32))))] [(.int (1 : Int32))])) _
    exact own_retN X4 hx (t := .boolean) rfl Bd.returns (by simp) (hb hby d5_95) hr
  · show Q_m5g_3 Z a g wcs rg h0 n0 _ T4.heap _
    exact ⟨rfl, N4, e4⟩
def Q_m5g_4 (Z : State) (a : Addr) (g : Int32 → Int32) (wcs : Int32) (rg : Value) (h0 : Heap) (n0 : Nat) (v : Option Value) (h : Heap) (L : List Loc) : Prop := v = (some (.int (1 : Int32))) ∧ Fr n0 L ∧ h = h0
theorem ef_m5g_4 (m : MethodId) (a : Addr) (g : Int32 → Int32) (wcs : Int32) (rg : Value) : entryFrame m #[(.ref a)] 4 = mkF m 0 #[.val (.ref a), .unset, .unset, .unset] [] := by first | (simp [entryFrame, mkF, argsToLocals, Value.category]; done) | rfl
set_option maxRecDepth 65536 in
set_option maxHeartbeats 40000000 in
theorem m5g_4 (l : Launch) (Z : State) (a0 : Array Value) (hw : ∀ d ∈ tables_1, d.before a0 Z = true) (ws : List Jvm.Cond) (a : Addr) (g : Int32 → Int32) (wcs : Int32) (rg : Value) (h0 : Heap) (n0 : Nat) (Z0 : n0 ≤ h0.size) (E_a : Exa Z h0 a "java/lang/String") (tx : TX Z h0 a (4 : Int32) g) (S_CS : Sta Z h0 "java/lang/String" "COMPACT_STRINGS" "Z" (.int wcs)) (ncs : ¬ (wcs = (0 : Int32))) (S_SI : Sta Z h0 "jdk/internal/util/Preconditions" "SIOOBE_FORMATTER" "Ljava/util/function/BiFunction;" rg) (r_rg : rg.isRef = true) (S_AD : Sta Z h0 "java/lang/StringUTF16" "$assertionsDisabled" "Z" (.int (1 : Int32))) (S_HI : Sta Z h0 "java/lang/StringUTF16" "HI_BYTE_SHIFT" "I" (.int (0 : Int32))) (S_LO : Sta Z h0 "java/lang/StringUTF16" "LO_BYTE_SHIFT" "I" (.int (8 : Int32))) (gd0 : ¬ (own_r (g (0 : Int32)) = (0 : Int32))) (gd1 : ¬ (own_r (g (1 : Int32)) = (0 : Int32))) (gd2 : ¬ (own_r (g (2 : Int32)) = (0 : Int32))) (gd3 : ¬ (own_r (g (3 : Int32)) = (0 : Int32))) :
    MetFree l (⟨"com/example/grantline/grantline/authz/Unreserved", "matches", "(Ljava/lang/String;)Z"⟩ : MethodName) (head1 (Jvm.Cond.code (⟨"com/example/grantline/grantline/authz/Unreserved", "matches", "(Ljava/lang/String;)Z"⟩ : MethodName) prog_88_method_2_code 4 (some .boolean) :: ws) ({ frames := 5, cells := 0, slots := 0, locals := 68 } : Room)) (fun ar_ U => ar_ = #[(.ref a)] ∧ Z.Warmed39 U.vm ∧ U.heap = h0) (fun _ _ _ _ _ => True) (fun _ U o U' => ∃ v L, o = .returned v ∧ Q_m5g_4 Z a g wcs rg h0 n0 v U'.heap L ∧ FrameEnd U o U' L ({ frames := 5, cells := 0, slots := 0, locals := 68 } : Room).cells ({ frames := 5, cells := 0, slots := 0, locals := 68 } : Room).slots) := by
  refine MetFree.of_bodySF (plainFor_of_name pnx_com_example_grantline_grantline_authz_Unreserved) hisR ?_
  intro p e s m args below meth c s₁ Bd hml0 hP hK
  obtain ⟨rfl, hZ, hh⟩ := hP
  have hx := Bd.exec
  have hby := Bd.bytes
  have hml : c.maxLocals = 4 := hml0
  have hown : s.vm.findClass "com/example/grantline/grantline/authz/Unreserved" = some m.cls := findClass_of_methodNamed Bd.named
  have hnm := (name_of_methodNamed Bd.named Bd.method).1
  have X0 : Stand p l e ({ frames := 5, cells := 0, slots := 0, locals := 68 } : Room) s m #[(.ref a)] below meth c s₁ [] 0 0 := Stand.of_body Bd
  have e0 : s₁.heap = h0 := by rw [← hh, Bd.state]; rfl
  have N0 := Fr.nil n0
  have pre0 : ∀ tq_, Steps p.tables e below (s₁.setTop (mkF m 0 #[.val (.ref a), .unset, .unset, .unset] [])) tq_ → Steps p.tables e below (s₁.setTop (entryFrame m #[(.ref a)] 4)) tq_ := fun tq_ kt_ => castTop (ef_m5g_4 m a g wcs rg ) kt_
  obtain ⟨T1, locs1, X1, e1, N1, st1⟩ := own_tg0 hw hx hby hml hZ hown X0 e0 Z0 N0 a (4 : Int32) g wcs rg (0 : Int32)  E_a tx S_CS ncs S_SI r_rg S_AD S_HI S_LO (by decide) (by decide) gd0
  obtain ⟨T2, locs2, X2, e2, N2, st2⟩ := own_tg1 hw hx hby hml hZ hown X1 e1 Z0 N1 a (4 : Int32) g wcs rg (1 : Int32) (g (0 : Int32)) (own_r (g (0 : Int32))) E_a tx S_CS ncs S_SI r_rg S_AD S_HI S_LO (by decide) (by decide) gd1
  obtain ⟨T3, locs3, X3, e3, N3, st3⟩ := own_tg1 hw hx hby hml hZ hown X2 e2 Z0 N2 a (4 : Int32) g wcs rg (2 : Int32) (g (1 : Int32)) (own_r (g (1 : Int32))) E_a tx S_CS ncs S_SI r_rg S_AD S_HI S_LO (by decide) (by decide) gd2
  obtain ⟨T4, locs4, X4, e4, N4, st4⟩ := own_tg1 hw hx hby hml hZ hown X3 e3 Z0 N3 a (4 : Int32) g wcs rg (3 : Int32) (g (2 : Int32)) (own_r (g (2 : Int32))) E_a tx S_CS ncs S_SI r_rg S_AD S_HI S_LO (by decide) (by decide) gd3
  obtain ⟨T5, locs5, X5, e5, N5, st5⟩ := own_te1 hw hx hby hml hZ hown X4 e4 Z0 N4 a (4 : Int32) g wcs rg (4 : Int32) (g (3 : Int32)) (own_r (g (3 : Int32))) E_a tx S_CS ncs S_SI r_rg S_AD S_HI S_LO (by decide)
  obtain ⟨fs, hr, hrun, hended, hW, hsame⟩ := X5.leave (v := some (.int (1 : Int32))) (fun h => by rw [Bd.returns] at h; cases h)
  refine ⟨_, _, pre0 _ ?_, hrun, hended, _, _, rfl, ?_, ⟨_, rfl⟩, hW, hsame.mono (nle rfl) (nle rfl)⟩
  · show Steps p.tables e below (s₁.setTop (mkF m 0 #[.val (.ref a), .unset, .unset, .unset] [])) _
    refine XS.iconst X0.here hx rfl (hb hby d5_0) ?_
    refine XS.istoreN X0.here hx rfl (hb hby d5_1) rfl (l' := #[.val (.ref a), .val (.int (0 : Int32)), .unset, .unset]) rfl ?_
    show Steps p.tables e below (s₁.setTop (mkF m 2 #[.val (.ref a), .val (.int (0 : Int32)), .unset, .unset] [])) _
    refine st1 _ ?_
    show Steps p.tables e below (T1.setTop (mkF m 2 #[.val (.ref a), .val (.int (1 : Int32)), .val (.int (g (0 : Int32))), .val (.int (own_r (g (0 : Int32))))] [])) _
    refine st2 _ ?_
    show Steps p.tables e below (T2.setTop (mkF m 2 #[.val (.ref a), .val (.int (2 : Int32)), .val (.int (g (1 : Int32))), .val (.int (own_r (g (1 : Int32))))] [])) _
    refine st3 _ ?_
    show Steps p.tables e below (T3.setTop (mkF m 2 #[.val (.ref a), .val (.int (3 : Int32)), .val (.int (g (2 : Int32))), .val (.int (own_r (g (2 : Int32))))] [])) _
    refine st4 _ ?_
    show Steps p.tables e below (T4.setTop (mkF m 2 #[.val (.ref a), .val (.int (4 : Int32)), .val (.int (g (3 : Int32))), .val (.int (own_r (g (3 : Int32))))] [])) _
    refine st5 _ ?_
    show Steps p.tables e below (T5.setTop (mkF m 94 #[.val (.ref a), .val (.int (4 : Int32)), .val (.int (g (3 : Int32))), .val (.int (own_r (g (3 : Int32))))] [])) _
    refine XS.iconst X5.here hx rfl (hb hby d5_94) ?_
    show Steps p.tables e below (T5.setTop (mkF m 95 #[.val (.ref a), .val (.int (4 : Int32)), .val (.int (g (3 : Int32))), .val (.int (own_r (g (3 : Int32))))] [(.int (1 : Int32))])) _
    exact own_retN X5 hx (t := .boolean) rfl Bd.returns (by simp) (hb hby d5_95) hr
  · show Q_m5g_4 Z a g wcs rg h0 n0 _ T5.heap _
    exact ⟨rfl, N5, e5⟩
theorem d5_86 : decode prog_88_method_2_code 86 = .ok (.iconst 0, 1) := by decide +kernel
theorem d5_87 : decode prog_88_method_2_code 87 = .ok (.ireturn, 1) := by decide +kernel
def Q_m5b_0 (Z : State) (a : Addr) (z : Int32) (g : Int32 → Int32) (wcs : Int32) (rg : Value) (h0 : Heap) (n0 : Nat) (v : Option Value) (h : Heap) (L : List Loc) : Prop := v = (some (.int (0 : Int32))) ∧ Fr n0 L ∧ h = h0
theorem ef_m5b_0 (m : MethodId) (a : Addr) (z : Int32) (g : Int32 → Int32) (wcs : Int32) (rg : Value) : entryFrame m #[(.ref a)] 4 = mkF m 0 #[.val (.ref a), .unset, .unset, .unset] [] := by first | (simp [entryFrame, mkF, argsToLocals, Value.category]; done) | rfl
set_option maxRecDepth 65536 in
set_option maxHeartbeats 40000000 in
theorem m5b_0 (l : Launch) (Z : State) (a0 : Array Value) (hw : ∀ d ∈ tables_1, d.before a0 Z = true) (ws : List Jvm.Cond) (a : Addr) (z : Int32) (g : Int32 → Int32) (wcs : Int32) (rg : Value) (h0 : Heap) (n0 : Nat) (Z0 : n0 ≤ h0.size) (E_a : Exa Z h0 a "java/lang/String") (tx : TX Z h0 a z g) (S_CS : Sta Z h0 "java/lang/String" "COMPACT_STRINGS" "Z" (.int wcs)) (ncs : ¬ (wcs = (0 : Int32))) (S_SI : Sta Z h0 "jdk/internal/util/Preconditions" "SIOOBE_FORMATTER" "Ljava/util/function/BiFunction;" rg) (r_rg : rg.isRef = true) (S_AD : Sta Z h0 "java/lang/StringUTF16" "$assertionsDisabled" "Z" (.int (1 : Int32))) (S_HI : Sta Z h0 "java/lang/StringUTF16" "HI_BYTE_SHIFT" "I" (.int (0 : Int32))) (S_LO : Sta Z h0 "java/lang/StringUTF16" "LO_BYTE_SHIFT" "I" (.int (8 : Int32))) (hz0 : (0 : Int32) < z) (bad : own_r (g (0 : Int32)) = (0 : Int32)) :
    MetFree l (⟨"com/example/grantline/grantline/authz/Unreserved", "matches", "(Ljava/lang/String;)Z"⟩ : MethodName) (head1 (Jvm.Cond.code (⟨"com/example/grantline/grantline/authz/Unreserved", "matches", "(Ljava/lang/String;)Z"⟩ : MethodName) prog_88_method_2_code 4 (some .boolean) :: ws) ({ frames := 5, cells := 0, slots := 0, locals := 68 } : Room)) (fun ar_ U => ar_ = #[(.ref a)] ∧ Z.Warmed39 U.vm ∧ U.heap = h0) (fun _ _ _ _ _ => True) (fun _ U o U' => ∃ v L, o = .returned v ∧ Q_m5b_0 Z a z g wcs rg h0 n0 v U'.heap L ∧ FrameEnd U o U' L ({ frames := 5, cells := 0, slots := 0, locals := 68 } : Room).cells ({ frames := 5, cells := 0, slots := 0, locals := 68 } : Room).slots) := by
  refine MetFree.of_bodySF (plainFor_of_name pnx_com_example_grantline_grantline_authz_Unreserved) hisR ?_
  intro p e s m args below meth c s₁ Bd hml0 hP hK
  obtain ⟨rfl, hZ, hh⟩ := hP
  have hx := Bd.exec
  have hby := Bd.bytes
  have hml : c.maxLocals = 4 := hml0
  have hown : s.vm.findClass "com/example/grantline/grantline/authz/Unreserved" = some m.cls := findClass_of_methodNamed Bd.named
  have hnm := (name_of_methodNamed Bd.named Bd.method).1
  have X0 : Stand p l e ({ frames := 5, cells := 0, slots := 0, locals := 68 } : Room) s m #[(.ref a)] below meth c s₁ [] 0 0 := Stand.of_body Bd
  have e0 : s₁.heap = h0 := by rw [← hh, Bd.state]; rfl
  have N0 := Fr.nil n0
  have pre0 : ∀ tq_, Steps p.tables e below (s₁.setTop (mkF m 0 #[.val (.ref a), .unset, .unset, .unset] [])) tq_ → Steps p.tables e below (s₁.setTop (entryFrame m #[(.ref a)] 4)) tq_ := fun tq_ kt_ => castTop (ef_m5b_0 m a z g wcs rg ) kt_
  obtain ⟨T1, locs1, X1, e1, N1, st1⟩ := own_tb0 hw hx hby hml hZ hown X0 e0 Z0 N0 a z g wcs rg (0 : Int32)  E_a tx S_CS ncs S_SI r_rg S_AD S_HI S_LO (by decide) hz0 bad
  obtain ⟨fs, hr, hrun, hended, hW, hsame⟩ := X1.leave (v := some (.int (0 : Int32))) (fun h => by rw [Bd.returns] at h; cases h)
  refine ⟨_, _, pre0 _ ?_, hrun, hended, _, _, rfl, ?_, ⟨_, rfl⟩, hW, hsame.mono (nle rfl) (nle rfl)⟩
  · show Steps p.tables e below (s₁.setTop (mkF m 0 #[.val (.ref a), .unset, .unset, .unset] [])) _
    refine XS.iconst X0.here hx rfl (hb hby d5_0) ?_
    refine XS.istoreN X0.here hx rfl (hb hby d5_1) rfl (l' := #[.val (.ref a), .val (.int (0 : Int32)), .unset, .unset]) rfl ?_
    show Steps p.tables e below (s₁.setTop (mkF m 2 #[.val (.ref a), .val (.int (0 : Int32)), .unset, .unset] [])) _
    refine st1 _ ?_
    show Steps p.tables e below (T1.setTop (mkF m 86 #[.val (.ref a), .val (.int (0 : Int32)), .val (.int (g (0 : Int32))), .val (.int (own_r (g (0 : Int32))))] [])) _
    refine XS.iconst X1.here hx rfl (hb hby d5_86) ?_
    show Steps p.tables e below (T1.setTop (mkF m 87 #[.val (.ref a), .val (.int (0 : Int32)), .val (.int (g (0 : Int32))), .val (.int (own_r (g (0 : Int32))))] [(.int (0 : Int32))])) _
    exact own_retN X1 hx (t := .boolean) rfl Bd.returns (by simp) (hb hby d5_87) hr
  · show Q_m5b_0 Z a z g wcs rg h0 n0 _ T1.heap _
    exact ⟨rfl, N1, e1⟩
def Q_m5b_1 (Z : State) (a : Addr) (z : Int32) (g : Int32 → Int32) (wcs : Int32) (rg : Value) (h0 : Heap) (n0 : Nat) (v : Option Value) (h : Heap) (L : List Loc) : Prop := v = (some (.int (0 : Int32))) ∧ Fr n0 L ∧ h = h0
theorem ef_m5b_1 (m : MethodId) (a : Addr) (z : Int32) (g : Int32 → Int32) (wcs : Int32) (rg : Value) : entryFrame m #[(.ref a)] 4 = mkF m 0 #[.val (.ref a), .unset, .unset, .unset] [] := by first | (simp [entryFrame, mkF, argsToLocals, Value.category]; done) | rfl
set_option maxRecDepth 65536 in
set_option maxHeartbeats 40000000 in
theorem m5b_1 (l : Launch) (Z : State) (a0 : Array Value) (hw : ∀ d ∈ tables_1, d.before a0 Z = true) (ws : List Jvm.Cond) (a : Addr) (z : Int32) (g : Int32 → Int32) (wcs : Int32) (rg : Value) (h0 : Heap) (n0 : Nat) (Z0 : n0 ≤ h0.size) (E_a : Exa Z h0 a "java/lang/String") (tx : TX Z h0 a z g) (S_CS : Sta Z h0 "java/lang/String" "COMPACT_STRINGS" "Z" (.int wcs)) (ncs : ¬ (wcs = (0 : Int32))) (S_SI : Sta Z h0 "jdk/internal/util/Preconditions" "SIOOBE_FORMATTER" "Ljava/util/function/BiFunction;" rg) (r_rg : rg.isRef = true) (S_AD : Sta Z h0 "java/lang/StringUTF16" "$assertionsDisabled" "Z" (.int (1 : Int32))) (S_HI : Sta Z h0 "java/lang/StringUTF16" "HI_BYTE_SHIFT" "I" (.int (0 : Int32))) (S_LO : Sta Z h0 "java/lang/StringUTF16" "LO_BYTE_SHIFT" "I" (.int (8 : Int32))) (hz0 : (0 : Int32) < z) (hz1 : (1 : Int32) < z) (gd0 : ¬ (own_r (g (0 : Int32)) = (0 : Int32))) (bad : own_r (g (1 : Int32)) = (0 : Int32)) :
    MetFree l (⟨"com/example/grantline/grantline/authz/Unreserved", "matches", "(Ljava/lang/String;)Z"⟩ : MethodName) (head1 (Jvm.Cond.code (⟨"com/example/grantline/grantline/authz/Unreserved", "matches", "(Ljava/lang/String;)Z"⟩ : MethodName) prog_88_method_2_code 4 (some .boolean) :: ws) ({ frames := 5, cells := 0, slots := 0, locals := 68 } : Room)) (fun ar_ U => ar_ = #[(.ref a)] ∧ Z.Warmed39 U.vm ∧ U.heap = h0) (fun _ _ _ _ _ => True) (fun _ U o U' => ∃ v L, o = .returned v ∧ Q_m5b_1 Z a z g wcs rg h0 n0 v U'.heap L ∧ FrameEnd U o U' L ({ frames := 5, cells := 0, slots := 0, locals := 68 } : Room).cells ({ frames := 5, cells := 0, slots := 0, locals := 68 } : Room).slots) := by
  refine MetFree.of_bodySF (plainFor_of_name pnx_com_example_grantline_grantline_authz_Unreserved) hisR ?_
  intro p e s m args below meth c s₁ Bd hml0 hP hK
  obtain ⟨rfl, hZ, hh⟩ := hP
  have hx := Bd.exec
  have hby := Bd.bytes
  have hml : c.maxLocals = 4 := hml0
  have hown : s.vm.findClass "com/example/grantline/grantline/authz/Unreserved" = some m.cls := findClass_of_methodNamed Bd.named
  have hnm := (name_of_methodNamed Bd.named Bd.method).1
  have X0 : Stand p l e ({ frames := 5, cells := 0, slots := 0, locals := 68 } : Room) s m #[(.ref a)] below meth c s₁ [] 0 0 := Stand.of_body Bd
  have e0 : s₁.heap = h0 := by rw [← hh, Bd.state]; rfl
  have N0 := Fr.nil n0
  have pre0 : ∀ tq_, Steps p.tables e below (s₁.setTop (mkF m 0 #[.val (.ref a), .unset, .unset, .unset] [])) tq_ → Steps p.tables e below (s₁.setTop (entryFrame m #[(.ref a)] 4)) tq_ := fun tq_ kt_ => castTop (ef_m5b_1 m a z g wcs rg ) kt_
  obtain ⟨T1, locs1, X1, e1, N1, st1⟩ := own_tg0 hw hx hby hml hZ hown X0 e0 Z0 N0 a z g wcs rg (0 : Int32)  E_a tx S_CS ncs S_SI r_rg S_AD S_HI S_LO (by decide) hz0 gd0
  obtain ⟨T2, locs2, X2, e2, N2, st2⟩ := own_tb1 hw hx hby hml hZ hown X1 e1 Z0 N1 a z g wcs rg (1 : Int32) (g (0 : Int32)) (own_r (g (0 : Int32))) E_a tx S_CS ncs S_SI r_rg S_AD S_HI S_LO (by decide) hz1 bad
  obtain ⟨fs, hr, hrun, hended, hW, hsame⟩ := X2.leave (v := some (.int (0 : Int32))) (fun h => by rw [Bd.returns] at h; cases h)
  refine ⟨_, _, pre0 _ ?_, hrun, hended, _, _, rfl, ?_, ⟨_, rfl⟩, hW, hsame.mono (nle rfl) (nle rfl)⟩
  · show Steps p.tables e below (s₁.setTop (mkF m 0 #[.val (.ref a), .unset, .unset, .unset] [])) _
    refine XS.iconst X0.here hx rfl (hb hby d5_0) ?_
    refine XS.istoreN X0.here hx rfl (hb hby d5_1) rfl (l' := #[.val (.ref a), .val (.int (0 : Int32)), .unset, .unset]) rfl ?_
    show Steps p.tables e below (s₁.setTop (mkF m 2 #[.val (.ref a), .val (.int (0 : Int32)), .unset, .unset] [])) _
    refine st1 _ ?_
    show Steps p.tables e below (T1.setTop (mkF m 2 #[.val (.ref a), .val (.int (1 : Int32)), .val (.int (g (0 : Int32))), .val (.int (own_r (g (0 : Int32))))] [])) _
    refine st2 _ ?_
    show Steps p.tables e below (T2.setTop (mkF m 86 #[.val (.ref a), .val (.int (1 : Int32)), .val (.int (g (1 : Int32))), .val (.int (own_r (g (1 : Int32))))] [])) _
    refine XS.iconst X2.here hx rfl (hb hby d5_86) ?_
    show Steps p.tables e below (T2.setTop (mkF m 87 #[.val (.ref a), .val (.int (1 : Int32)), .val (.int (g (1 : Int32))), .val (.int (own_r (g (1 : Int32))))] [(.int (0 : Int32))])) _
    exact own_retN X2 hx (t := .boolean) rfl Bd.returns (by simp) (hb hby d5_87) hr
  · show Q_m5b_1 Z a z g wcs rg h0 n0 _ T2.heap _
    exact ⟨rfl, N2, e2⟩
def Q_m5b_2 (Z : State) (a : Addr) (z : Int32) (g : Int32 → Int32) (wcs : Int32) (rg : Value) (h0 : Heap) (n0 : Nat) (v : Option Value) (h : Heap) (L : List Loc) : Prop := v = (some (.int (0 : Int32))) ∧ Fr n0 L ∧ h = h0
theorem ef_m5b_2 (m : MethodId) (a : Addr) (z : Int32) (g : Int32 → Int32) (wcs : Int32) (rg : Value) : entryFrame m #[(.ref a)] 4 = mkF m 0 #[.val (.ref a), .unset, .unset, .unset] [] := by first | (simp [entryFrame, mkF, argsToLocals, Value.category]; done) | rfl
set_option maxRecDepth 65536 in
set_option maxHeartbeats 40000000 in
theorem m5b_2 (l : Launch) (Z : State) (a0 : Array Value) (hw : ∀ d ∈ tables_1, d.before a0 Z = true) (ws : List Jvm.Cond) (a : Addr) (z : Int32) (g : Int32 → Int32) (wcs : Int32) (rg : Value) (h0 : Heap) (n0 : Nat) (Z0 : n0 ≤ h0.size) (E_a : Exa Z h0 a "java/lang/String") (tx : TX Z h0 a z g) (S_CS : Sta Z h0 "java/lang/String" "COMPACT_STRINGS" "Z" (.int wcs)) (ncs : ¬ (wcs = (0 : Int32))) (S_SI : Sta Z h0 "jdk/internal/util/Preconditions" "SIOOBE_FORMATTER" "Ljava/util/function/BiFunction;" rg) (r_rg : rg.isRef = true) (S_AD : Sta Z h0 "java/lang/StringUTF16" "$assertionsDisabled" "Z" (.int (1 : Int32))) (S_HI : Sta Z h0 "java/lang/StringUTF16" "HI_BYTE_SHIFT" "I" (.int (0 : Int32))) (S_LO : Sta Z h0 "java/lang/StringUTF16" "LO_BYTE_SHIFT" "I" (.int (8 : Int32))) (hz0 : (0 : Int32) < z) (hz1 : (1 : Int32) < z) (hz2 : (2 : Int32) < z) (gd0 : ¬ (own_r (g (0 : Int32)) = (0 : Int32))) (gd1 : ¬ (own_r (g (1 : Int32)) = (0 : Int32))) (bad : own_r (g (2 : Int32)) = (0 : Int32)) :
    MetFree l (⟨"com/example/grantline/grantline/authz/Unreserved", "matches", "(Ljava/lang/String;)Z"⟩ : MethodName) (head1 (Jvm.Cond.code (⟨"com/example/grantline/grantline/authz/Unreserved", "matches", "(Ljava/lang/String;)Z"⟩ : MethodName) prog_88_method_2_code 4 (some .boolean) :: ws) ({ frames := 5, cells := 0, slots := 0, locals := 68 } : Room)) (fun ar_ U => ar_ = #[(.ref a)] ∧ Z.Warmed39 U.vm ∧ U.heap = h0) (fun _ _ _ _ _ => True) (fun _ U o U' => ∃ v L, o = .returned v ∧ Q_m5b_2 Z a z g wcs rg h0 n0 v U'.heap L ∧ FrameEnd U o U' L ({ frames := 5, cells := 0, slots := 0, locals := 68 } : Room).cells ({ frames := 5, cells := 0, slots := 0, locals := 68 } : Room).slots) := by
  refine MetFree.of_bodySF (plainFor_of_name pnx_com_example_grantline_grantline_authz_Unreserved) hisR ?_
  intro p e s m args below meth c s₁ Bd hml0 hP hK
  obtain ⟨rfl, hZ, hh⟩ := hP
  have hx := Bd.exec
  have hby := Bd.bytes
  have hml : c.maxLocals = 4 := hml0
  have hown : s.vm.findClass "com/example/grantline/grantline/authz/Unreserved" = some m.cls := findClass_of_methodNamed Bd.named
  have hnm := (name_of_methodNamed Bd.named Bd.method).1
  have X0 : Stand p l e ({ frames := 5, cells := 0, slots := 0, locals := 68 } : Room) s m #[(.ref a)] below meth c s₁ [] 0 0 := Stand.of_body Bd
  have e0 : s₁.heap = h0 := by rw [← hh, Bd.state]; rfl
  have N0 := Fr.nil n0
  have pre0 : ∀ tq_, Steps p.tables e below (s₁.setTop (mkF m 0 #[.val (.ref a), .unset, .unset, .unset] [])) tq_ → Steps p.tables e below (s₁.setTop (entryFrame m #[(.ref a)] 4)) tq_ := fun tq_ kt_ => castTop (ef_m5b_2 m a z g wcs rg ) kt_
  obtain ⟨T1, locs1, X1, e1, N1, st1⟩ := own_tg0 hw hx hby hml hZ hown X0 e0 Z0 N0 a z g wcs rg (0 : Int32)  E_a tx S_CS ncs S_SI r_rg S_AD S_HI S_LO (by decide) hz0 gd0
  obtain ⟨T2, locs2, X2, e2, N2, st2⟩ := own_tg1 hw hx hby hml hZ hown X1 e1 Z0 N1 a z g wcs rg (1 : Int32) (g (0 : Int32)) (own_r (g (0 : Int32))) E_a tx S_CS ncs S_SI r_rg S_AD S_HI S_LO (by decide) hz1 gd1
  obtain ⟨T3, locs3, X3, e3, N3, st3⟩ := own_tb1 hw hx hby hml hZ hown X2 e2 Z0 N2 a z g wcs rg (2 : Int32) (g (1 : Int32)) (own_r (g (1 : Int32))) E_a tx S_CS ncs S_SI r_rg S_AD S_HI S_LO (by decide) hz2 bad
  obtain ⟨fs, hr, hrun, hended, hW, hsame⟩ := X3.leave (v := some (.int (0 : Int32))) (fun h => by rw [Bd.returns] at h; cases h)
  refine ⟨_, _, pre0 _ ?_, hrun, hended, _, _, rfl, ?_, ⟨_, rfl⟩, hW, hsame.mono (nle rfl) (nle rfl)⟩
  · show Steps p.tables e below (s₁.setTop (mkF m 0 #[.val (.ref a), .unset, .unset, .unset] [])) _
    refine XS.iconst X0.here hx rfl (hb hby d5_0) ?_
    refine XS.istoreN X0.here hx rfl (hb hby d5_1) rfl (l' := #[.val (.ref a), .val (.int (0 : Int32)), .unset, .unset]) rfl ?_
    show Steps p.tables e below (s₁.setTop (mkF m 2 #[.val (.ref a), .val (.int (0 : Int32)), .unset, .unset] [])) _
    refine st1 _ ?_
    show Steps p.tables e below (T1.setTop (mkF m 2 #[.val (.ref a), .val (.int (1 : Int32)), .val (.int (g (0 : Int32))), .val (.int (own_r (g (0 : Int32))))] [])) _
    refine st2 _ ?_
    show Steps p.tables e below (T2.setTop (mkF m 2 #[.val (.ref a), .val (.int (2 : Int32)), .val (.int (g (1 : Int32))), .val (.int (own_r (g (1 : Int32))))] [])) _
    refine st3 _ ?_
    show Steps p.tables e below (T3.setTop (mkF m 86 #[.val (.ref a), .val (.int (2 : Int32)), .val (.int (g (2 : Int32))), .val (.int (own_r (g (2 : Int32))))] [])) _
    refine XS.iconst X3.here hx rfl (hb hby d5_86) ?_
    show Steps p.tables e below (T3.setTop (mkF m 87 #[.val (.ref a), .val (.int (2 : Int32)), .val (.int (g (2 : Int32))), .val (.int (own_r (g (2 : Int32))))] [(.int (0 : Int32))])) _
    exact own_retN X3 hx (t := .boolean) rfl Bd.returns (by simp) (hb hby d5_87) hr
  · show Q_m5b_2 Z a z g wcs rg h0 n0 _ T3.heap _
    exact ⟨rfl, N3, e3⟩
def Q_m5b_3 (Z : State) (a : Addr) (z : Int32) (g : Int32 → Int32) (wcs : Int32) (rg : Value) (h0 : Heap) (n0 : Nat) (v : Option Value) (h : Heap) (L : List Loc) : Prop := v = (some (.int (0 : Int32))) ∧ Fr n0 L ∧ h = h0
theorem ef_m5b_3 (m : MethodId) (a : Addr) (z : Int32) (g : Int32 → Int32) (wcs : Int32) (rg : Value) : entryFrame m #[(.ref a)] 4 = mkF m 0 #[.val (.ref a), .unset, .unset, .unset] [] := by first | (simp [entryFrame, mkF, argsToLocals, Value.category]; done) | rfl
set_option maxRecDepth 65536 in
set_option maxHeartbeats 40000000 in
theorem m5b_3 (l : Launch) (Z : State) (a0 : Array Value) (hw : ∀ d ∈ tables_1, d.before a0 Z = true) (ws : List Jvm.Cond) (a : Addr) (z : Int32) (g : Int32 → Int32) (wcs : Int32) (rg : Value) (h0 : Heap) (n0 : Nat) (Z0 : n0 ≤ h0.size) (E_a : Exa Z h0 a "java/lang/String") (tx : TX Z h0 a z g) (S_CS : Sta Z h0 "java/lang/String" "COMPACT_STRINGS" "Z" (.int wcs)) (ncs : ¬ (wcs = (0 : Int32))) (S_SI : Sta Z h0 "jdk/internal/util/Preconditions" "SIOOBE_FORMATTER" "Ljava/util/function/BiFunction;" rg) (r_rg : rg.isRef = true) (S_AD : Sta Z h0 "java/lang/StringUTF16" "$assertionsDisabled" "Z" (.int (1 : Int32))) (S_HI : Sta Z h0 "java/lang/StringUTF16" "HI_BYTE_SHIFT" "I" (.int (0 : Int32))) (S_LO : Sta Z h0 "java/lang/StringUTF16" "LO_BYTE_SHIFT" "I" (.int (8 : Int32))) (hz0 : (0 : Int32) < z) (hz1 : (1 : Int32) < z) (hz2 : (2 : Int32) < z) (hz3 : (3 : Int32) < z) (gd0 : ¬ (own_r (g (0 : Int32)) = (0 : Int32))) (gd1 : ¬ (own_r (g (1 : Int32)) = (0 : Int32))) (gd2 : ¬ (own_r (g (2 : Int32)) = (0 : Int32))) (bad : own_r (g (3 : Int32)) = (0 : Int32)) :
    MetFree l (⟨"com/example/grantline/grantline/authz/Unreserved", "matches", "(Ljava/lang/String;)Z"⟩ : MethodName) (head1 (Jvm.Cond.code (⟨"com/example/grantline/grantline/authz/Unreserved", "matches", "(Ljava/lang/String;)Z"⟩ : MethodName) prog_88_method_2_code 4 (some .boolean) :: ws) ({ frames := 5, cells := 0, slots := 0, locals := 68 } : Room)) (fun ar_ U => ar_ = #[(.ref a)] ∧ Z.Warmed39 U.vm ∧ U.heap = h0) (fun _ _ _ _ _ => True) (fun _ U o U' => ∃ v L, o = .returned v ∧ Q_m5b_3 Z a z g wcs rg h0 n0 v U'.heap L ∧ FrameEnd U o U' L ({ frames := 5, cells := 0, slots := 0, locals := 68 } : Room).cells ({ frames := 5, cells := 0, slots := 0, locals := 68 } : Room).slots) := by
  refine MetFree.of_bodySF (plainFor_of_name pnx_com_example_grantline_grantline_authz_Unreserved) hisR ?_
  intro p e s m args below meth c s₁ Bd hml0 hP hK
  obtain ⟨rfl, hZ, hh⟩ := hP
  have hx := Bd.exec
  have hby := Bd.bytes
  have hml : c.maxLocals = 4 := hml0
  have hown : s.vm.findClass "com/example/grantline/grantline/authz/Unreserved" = some m.cls := findClass_of_methodNamed Bd.named
  have hnm := (name_of_methodNamed Bd.named Bd.method).1
  have X0 : Stand p l e ({ frames := 5, cells := 0, slots := 0, locals := 68 } : Room) s m #[(.ref a)] below meth c s₁ [] 0 0 := Stand.of_body Bd
  have e0 : s₁.heap = h0 := by rw [← hh, Bd.state]; rfl
  have N0 := Fr.nil n0
  have pre0 : ∀ tq_, Steps p.tables e below (s₁.setTop (mkF m 0 #[.val (.ref a), .unset, .unset, .unset] [])) tq_ → Steps p.tables e below (s₁.setTop (entryFrame m #[(.ref a)] 4)) tq_ := fun tq_ kt_ => castTop (ef_m5b_3 m a z g wcs rg ) kt_
  obtain ⟨T1, locs1, X1, e1, N1, st1⟩ := own_tg0 hw hx hby hml hZ hown X0 e0 Z0 N0 a z g wcs rg (0 : Int32)  E_a tx S_CS ncs S_SI r_rg S_AD S_HI S_LO (by decide) hz0 gd0
  obtain ⟨T2, locs2, X2, e2, N2, st2⟩ := own_tg1 hw hx hby hml hZ hown X1 e1 Z0 N1 a z g wcs rg (1 : Int32) (g (0 : Int32)) (own_r (g (0 : Int32))) E_a tx S_CS ncs S_SI r_rg S_AD S_HI S_LO (by decide) hz1 gd1
  obtain ⟨T3, locs3, X3, e3, N3, st3⟩ := own_tg1 hw hx hby hml hZ hown X2 e2 Z0 N2 a z g wcs rg (2 : Int32) (g (1 : Int32)) (own_r (g (1 : Int32))) E_a tx S_CS ncs S_SI r_rg S_AD S_HI S_LO (by decide) hz2 gd2
  obtain ⟨T4, locs4, X4, e4, N4, st4⟩ := own_tb1 hw hx hby hml hZ hown X3 e3 Z0 N3 a z g wcs rg (3 : Int32) (g (2 : Int32)) (own_r (g (2 : Int32))) E_a tx S_CS ncs S_SI r_rg S_AD S_HI S_LO (by decide) hz3 bad
  obtain ⟨fs, hr, hrun, hended, hW, hsame⟩ := X4.leave (v := some (.int (0 : Int32))) (fun h => by rw [Bd.returns] at h; cases h)
  refine ⟨_, _, pre0 _ ?_, hrun, hended, _, _, rfl, ?_, ⟨_, rfl⟩, hW, hsame.mono (nle rfl) (nle rfl)⟩
  · show Steps p.tables e below (s₁.setTop (mkF m 0 #[.val (.ref a), .unset, .unset, .unset] [])) _
    refine XS.iconst X0.here hx rfl (hb hby d5_0) ?_
    refine XS.istoreN X0.here hx rfl (hb hby d5_1) rfl (l' := #[.val (.ref a), .val (.int (0 : Int32)), .unset, .unset]) rfl ?_
    show Steps p.tables e below (s₁.setTop (mkF m 2 #[.val (.ref a), .val (.int (0 : Int32)), .unset, .unset] [])) _
    refine st1 _ ?_
    show Steps p.tables e below (T1.setTop (mkF m 2 #[.val (.ref a), .val (.int (1 : Int32)), .val (.int (g (0 : Int32))), .val (.int (own_r (g (0 : Int32))))] [])) _
    refine st2 _ ?_
    show Steps p.tables e below (T2.setTop (mkF m 2 #[.val (.ref a), .val (.int (2 : Int32)), .val (.int (g (1 : Int32))), .val (.int (own_r (g (1 : Int32))))] [])) _
    refine st3 _ ?_
    show Steps p.tables e below (T3.setTop (mkF m 2 #[.val (.ref a), .val (.int (3 : Int32)), .val (.int (g (2 : Int32))), .val (.int (own_r (g (2 : Int32))))] [])) _
    refine st4 _ ?_
    show Steps p.tables e below (T4.setTop (mkF m 86 #[.val (.ref a), .val (.int (3 : Int32)), .val (.int (g (3 : Int32))), .val (.int (own_r (g (3 : Int32))))] [])) _
    refine XS.iconst X4.here hx rfl (hb hby d5_86) ?_
    show Steps p.tables e below (T4.setTop (mkF m 87 #[.val (.ref a), .val (.int (3 : Int32)), .val (.int (g (3 : Int32))), .val (.int (own_r (g (3 : Int32))))] [(.int (0 : Int32))])) _
    exact own_retN X4 hx (t := .boolean) rfl Bd.returns (by simp) (hb hby d5_87) hr
  · show Q_m5b_3 Z a z g wcs rg h0 n0 _ T4.heap _
    exact ⟨rfl, N4, e4⟩
theorem own_backSafe {p : Program} {l : Launch} {e : Env} {R : Room} {s : State} {args : Array Value} {below : List Frame} {Z : State} {a0 : Array Value} {EL : List (String × Nat)} {h : Heap} {vm0 : Vm} {y : MethodName} {bytes : ByteArray} {maxL : Nat} {ret : Option FieldType} {rm : Room} {len W : Nat} {as' : Array Value} {x1 : Addr} {Q : Option Value → Heap → List Loc → Prop}
    (hM : MetFree l y (head1 [Jvm.Cond.code y bytes maxL ret] rm) (fun a U => a = as' ∧ Z.Warmed39 U.vm ∧ U.heap = h ∧ CHv Z EL U.vm h ∧ Safe Z EL U.vm h x1) (fun _ _ _ _ _ => True) (fun _ U o U' => ∃ v L, o = .returned v ∧ Q v U'.heap L ∧ CHr Z EL U.vm U.heap U'.vm U'.heap ∧ ReturnedEndW U o U' L rm.cells rm.slots))
    (hZ : Z.Warmed39 vm0) (wc : (Jvm.Cond.code y bytes maxL ret).before a0 Z = true) (wz : (Jvm.Cond.initialized y.cls).before a0 Z = true) (hf : rm.frames + 1 ≤ R.frames) (hl : W + (maxL + 11) + rm.locals ≤ R.locals) (hEL : EW Z a0 EL) (H : CHv Z EL vm0 h) (hlt : x1 < h.size) (hsf : Safe Z EL vm0 h x1) :
    BackS l R p e below (s.setVm vm0) args y len W (fun A a => a = as' ∧ A.U.heap = h ∧ A.cells + rm.cells ≤ R.cells ∧ A.slots + rm.slots ≤ R.slots)
      (fun A _ v B => ∃ L, Q v B.U.heap L ∧ B.locs = A.locs ++ L ∧ B.cells = A.cells + rm.cells ∧ B.slots = A.slots + rm.slots ∧ CHr Z EL vm0 h B.U.vm B.U.heap) :=
  BackS.of_freeW (bytes := bytes) (maxL := maxL) (ret := ret) (E := fun _ first o t L k n => k = rm.cells ∧ n = rm.slots ∧ (∃ v, o = .returned v ∧ Q v t.heap L) ∧ CHr Z EL first.vm first.heap t.vm t.heap) hM hf hl
    (fun m meth c A a Y hp => have hU : Z.Warmed39 A.U.vm := wtrans (s := s.setVm vm0) hZ Y.warmed
      ⟨by show (Jvm.Cond.and _ .tt).before a A.U = true; rw [Cond.before_and, mv hU wc]; rfl, mv hU wc, mv hU wz, hp.2.2.1, hp.2.2.2⟩)
    (fun m meth c A a g mk Y hp => ⟨hp.1, wtrans (s := s.setVm vm0) hZ Y.warmed, hp.2.1, (CHv.at Y hZ hEL H).1, (CHv.at Y hZ hEL H).safe hlt hsf⟩) (fun _ _ _ _ _ _ _ _ _ => trivial)
    (fun _ _ _ _ ⟨v, L, h1, h2, h3, h4⟩ => ⟨L, _, _, h4, rfl, rfl, ⟨v, h1, h2⟩, h3⟩)
    (fun m meth c A a g mk v t L k n Y hp _ _ ⟨e1, e2, ⟨v', e3, e4⟩, e5⟩ => by
      cases e3; subst e1 e2
      refine ⟨L, e4, rfl, rfl, rfl, (CHv.at Y hZ hEL H).trans ?_⟩
      rw [← hp.2.1]; exact e5)
def QE (Z : State) (a1 : Addr) (h0 : Heap) (n0 : Nat) (v : Option Value) (h : Heap) (L : List Loc) : Prop := v = none ∧ Fr n0 L ∧ Keep h0 h [a1] ∧ Exa Z h a1 "java/lang/String" ∧ Fld Z h a1 "java/lang/String" "coder" "B" (.int 0) ∧ ∃ b k, Fld Z h a1 "java/lang/String" "value" "[B" (.ref b) ∧ Arv Z h b k .byte 0 [] (.int 0)
theorem own_wS {Z : State} {a0 : Array Value} (hw : ∀ d ∈ tables_1, d.before a0 Z = true) : ∀ a ∈ Bundle.stringAtoms, a.before a0 Z = true := fun d hd => hw d ((by decide +kernel : ∀ d ∈ Bundle.stringAtoms, d ∈ tables_1) d hd)
theorem pn_S : plainName "java/lang/String" = true := by first | (simp [plainName, overriddenIn]; done) | decide +kernel
theorem ef_Ve (m : MethodId) (x0 x1 : Addr) (x2 x3 : Int32) : entryFrame m #[(.ref x0), (.ref x1), (.int x2), (.int x3), .null] 6 = mkF m 0 #[.val (.ref x0), .val (.ref x1), .val (.int x2), .val (.int x3), .val .null, .unset] [] := by first | (simp [entryFrame, mkF, argsToLocals, Value.category]; done) | rfl
theorem ef_Ce (m : MethodId) (x0 x1 : Addr) : entryFrame m #[(.ref x0), (.ref x1)] 2 = mkF m 0 #[.val (.ref x0), .val (.ref x1)] [] := by first | (simp [entryFrame, mkF, argsToLocals, Value.category]; done) | rfl
theorem pd_Ve : parseMethodDescriptor "([CIILjava/lang/Void;)V" = some ⟨[(.array .char), .int, .int, (.object "java/lang/Void")], none⟩ := by decide +kernel
theorem d3_8 : decode jdk_42_method_149_code 8 = .ok (.aload_n 0, 1) := by decide +kernel
theorem d3_9 : decode jdk_42_method_149_code 9 = .ok (.ldc 7, 2) := by decide +kernel
theorem d3_11 : decode jdk_42_method_149_code 11 = .ok (.getfield 9, 3) := by decide +kernel
theorem d3_14 : decode jdk_42_method_149_code 14 = .ok (.putfield 9, 3) := by decide +kernel
theorem d3_17 : decode jdk_42_method_149_code 17 = .ok (.aload_n 0, 1) := by decide +kernel
theorem d3_18 : decode jdk_42_method_149_code 18 = .ok (.ldc 7, 2) := by decide +kernel
theorem d3_20 : decode jdk_42_method_149_code 20 = .ok (.getfield 15, 3) := by decide +kernel
theorem d3_23 : decode jdk_42_method_149_code 23 = .ok (.putfield 15, 3) := by decide +kernel
theorem d3_26 : decode jdk_42_method_149_code 26 = .ok (.return_, 1) := by decide +kernel
set_option maxRecDepth 65536 in
set_option maxHeartbeats 40000000 in
theorem rm3e (l : Launch) (Z : State) (a0 : Array Value) (hw : ∀ d ∈ tables_1, d.before a0 Z = true) (ws : List Jvm.Cond) (a1 a2 : Addr) (EL : List (String × Nat)) (u_v u_c : Value) (h0 : Heap) (n0 : Nat) (Z0 : n0 ≤ h0.size) (hEL : EW Z a0 EL) (hmem : (("java/lang/String", 7) : String × Nat) ∈ EL) (E_a1 : Exa Z h0 a1 "java/lang/String") (F_v : Fld Z h0 a1 "java/lang/String" "value" "[B" u_v) (F_c : Fld Z h0 a1 "java/lang/String" "coder" "B" u_c) (g_a1 : n0 ≤ a1) :
    MetFree l (⟨"java/lang/String", "<init>", "([CIILjava/lang/Void;)V"⟩ : MethodName) (head1 (Jvm.Cond.code (⟨"java/lang/String", "<init>", "([CIILjava/lang/Void;)V"⟩ : MethodName) jdk_42_method_149_code 6 none :: ws) ({ frames := 1, cells := 2, slots := 4, locals := 12 } : Room)) (fun a U => a = #[(.ref a1), (.ref a2), (.int (0 : Int32)), (.int (0 : Int32)), .null] ∧ Z.Warmed39 U.vm ∧ U.heap = h0 ∧ CHv Z EL U.vm h0 ∧ Safe Z EL U.vm h0 a1) (fun _ _ _ _ _ => True) (fun _ U o U' => ∃ v L, o = .returned v ∧ QE Z a1 h0 n0 v U'.heap L ∧ CHr Z EL U.vm U.heap U'.vm U'.heap ∧ ReturnedEndW U o U' L ({ frames := 1, cells := 2, slots := 4, locals := 12 } : Room).cells ({ frames := 1, cells := 2, slots := 4, locals := 12 } : Room).slots) := by
  refine MetFree.of_bodySF (plainFor_of_name pn_S) hisR ?_
  intro p e s m args below meth c s₁ Bd hml0 hP hK
  obtain ⟨rfl, hZ, hh, HC, HS⟩ := hP
  have hx := Bd.exec
  have hby := Bd.bytes
  have hml : c.maxLocals = 6 := hml0
  have hown : s.vm.findClass "java/lang/String" = some m.cls := findClass_of_methodNamed Bd.named
  have hnm := (name_of_methodNamed Bd.named Bd.method).1
  have X0 : Stand p l e ({ frames := 1, cells := 2, slots := 4, locals := 12 } : Room) s m #[(.ref a1), (.ref a2), (.int (0 : Int32)), (.int (0 : Int32)), .null] below meth c s₁ [] 0 0 := Stand.of_body Bd
  have e0 : s₁.heap = h0 := by rw [← hh, Bd.state]; rfl
  have N0 := Fr.nil n0
  have pre0 : ∀ t, Steps p.tables e below (s₁.setTop (mkF m 0 #[.val (.ref a1), .val (.ref a2), .val (.int (0 : Int32)), .val (.int (0 : Int32)), .val .null, .unset] [])) t → Steps p.tables e below (s₁.setTop (entryFrame m #[(.ref a1), (.ref a2), (.int (0 : Int32)), (.int (0 : Int32)), .null] 6)) t := fun t k => castTop (ef_Ve m a1 a2 0 0) k
  obtain ⟨T6, X6, e6, st6⟩ := initO X0 hx hZ hown (wk hw 17 rfl) (wk hw 18 rfl) (wk hw 19 rfl) e0 (g := (mkF m 1 #[.val (.ref a1), .val (.ref a2), .val (.int (0 : Int32)), .val (.int (0 : Int32)), .val .null, .unset] [(.ref a1)])) rfl (by rw [hml]; rfl) rfl (hb hby d3_1) (by decide) (W := 0) (by show 2 * 0 + _ ≤ _; exact Nat.le_of_eq rfl) (by decide)
  obtain ⟨li, T7, h7, k7, b7, kb7, X7, e7, E7, hS7, hk7, hZ7, hown7, EX7, FC7, FV7, AV7, la7, lb7, C7, L7, ne7, st7⟩ := ldcCH (s := s) (vm0 := s.vm) (EL := EL) X6 hx hZ hown (wk hw 20 rfl) (own_wS hw) e6 (k0 := 0) ((State.WarmedH.refl s).since 0) (Nat.zero_le _) hEL hmem HC (vs := []) (z := 0) ⟨by decide, rfl⟩ (by decide) (by decide) (g := (mkF m 9 #[.val (.ref a1), .val (.ref a2), .val (.int (0 : Int32)), .val (.int (0 : Int32)), .val .null, .unset] [(.ref a1)])) rfl (hb hby d3_9) (n := 0) (by decide) (by decide) (by decide) (by decide)
  have S7 := C7.safe E_a1.lt HS
  have K7 : Keep h0 h7 [a1] := (Keep.refl h0 [a1]).ext E7
  obtain ⟨T8, X8, e8, st8⟩ := getF X7 hx hZ7 hown7 (host := "") (Or.inl (wk hw 26 rfl)) Via.refl e7 FV7 (g := (mkF m 11 #[.val (.ref a1), .val (.ref a2), .val (.int (0 : Int32)), .val (.int (0 : Int32)), .val .null, .unset] [(.ref li), (.ref a1)])) rfl rfl (hb hby d3_11)
  obtain ⟨T9, h9, X9, e9, W9, st9⟩ := putF X8 hx hZ7 hown7 (host := "") (Or.inl (wk hw 26 rfl)) Via.refl e8 (F_v.ext E7) (E_a1.ext E7) (Or.inr ⟨(wk hw 22 rfl), rfl, hnm⟩) (wk hw 7 rfl) (ty := (.array .byte)) (by decide) rfl rfl (g := (mkF m 14 #[.val (.ref a1), .val (.ref a2), .val (.int (0 : Int32)), .val (.int (0 : Int32)), .val .null, .unset] [(.ref b7), (.ref a1)])) rfl rfl (hb hby d3_14)
  have Fw9 := (F_v.ext E7).same W9
  have K9 : Keep h0 h9 [a1] := K7.wr W9 (Or.inl (List.mem_singleton.mpr rfl))
  have N9 := Fr.snoc X9 N0 g_a1
  have FC9 := FC7.other W9 (Or.inr (slot_ne (Or.inr (wk hw 23 rfl)) (Or.inr (wk hw 22 rfl)) (by decide) (t := .byte) (t' := (.array .byte)) (by decide) (by decide)))
  have Fc9 := (F_c.ext E7).other W9 (Or.inr (slot_ne (Or.inr (wk hw 23 rfl)) (Or.inr (wk hw 22 rfl)) (by decide) (t := .byte) (t' := (.array .byte)) (by decide) (by decide)))
  have C9 : CHr Z EL s.vm h0 T7.vm h9 := C7.trans (CHr.wr W9 S7 C7.1)
  have S9 := C9.safe E_a1.lt HS
  have AV9 := AV7.keep (Keep.of_wr W9) (by simp only [List.mem_singleton]; exact (ne7 a1 S7).2.symm)
  obtain ⟨T10, X10, e10, st10⟩ := getF X9 hx hZ7 hown7 (host := "") (Or.inl (wk hw 27 rfl)) Via.refl e9 FC9 (g := (mkF m 20 #[.val (.ref a1), .val (.ref a2), .val (.int (0 : Int32)), .val (.int (0 : Int32)), .val .null, .unset] [(.ref li), (.ref a1)])) rfl rfl (hb hby d3_20)
  obtain ⟨T11, h11, X11, e11, W11, st11⟩ := putFN X10 hx hZ7 hown7 (wk hw 27 rfl) Via.refl e10 Fc9 ((E_a1.ext E7).wr W9) (Or.inr ⟨(wk hw 23 rfl), rfl, hnm⟩) (wk hw 7 rfl) (ty := .byte) (v' := (.int (0 : Int32))) (by decide) rfl (by decide) (g := (mkF m 23 #[.val (.ref a1), .val (.ref a2), .val (.int (0 : Int32)), .val (.int (0 : Int32)), .val .null, .unset] [(.int (0 : Int32)), (.ref a1)])) rfl rfl (hb hby d3_23)
  have Fw11 := Fc9.same W11
  have K11 : Keep h0 h11 [a1] := K9.wr W11 (Or.inl (List.mem_singleton.mpr rfl))
  have N11 := Fr.snoc X11 N9 g_a1
  have Fv11 := Fw9.other W11 (Or.inr (slot_ne (Or.inr (wk hw 22 rfl)) (Or.inr (wk hw 23 rfl)) (by decide) (t := (.array .byte)) (t' := .byte) (by decide) (by decide)))
  have C11 : CHr Z EL s.vm h0 T7.vm h11 := C9.trans (CHr.wr W11 S9 C9.1)
  have AV11 := AV9.keep (Keep.of_wr W11) (by simp only [List.mem_singleton]; exact (ne7 a1 S7).2.symm)
  have C12 : CHr Z EL s.vm h0 T11.vm h11 := C11.trans (CHv.at (s := s) X11 hZ7 hEL C11.1)
  obtain ⟨fs, hr, hrun, hended, hWW⟩ := leaveW (s := s) X11 hS7 (Nat.le_trans hk7 (by rw [e11]; exact Nat.le_trans (Keep.of_wr W9).1 (Keep.of_wr W11).1)) (v := none) (fun _ => rfl)
  refine ⟨_, _, pre0 _ ?_, hrun, hended, _, _, rfl, ?_, ?_, ⟨hWW.1, hWW.2.1, hWW.2.2.1, hWW.2.2.2.mono (by decide) (by decide)⟩⟩
  · show Steps p.tables e below (s₁.setTop (mkF m 0 #[.val (.ref a1), .val (.ref a2), .val (.int (0 : Int32)), .val (.int (0 : Int32)), .val .null, .unset] [])) _
    refine XS.aloadN X0.here hx rfl (hb hby d3_0) rfl rfl ?_
    show Steps p.tables e below (s₁.setTop (mkF m 1 #[.val (.ref a1), .val (.ref a2), .val (.int (0 : Int32)), .val (.int (0 : Int32)), .val .null, .unset] [(.ref a1)])) _
    refine st6 _ ?_
    show Steps p.tables e below (T6.setTop (mkF m 4 #[.val (.ref a1), .val (.ref a2), .val (.int (0 : Int32)), .val (.int (0 : Int32)), .val .null, .unset] [])) _
    refine XS.iloadN X6.here hx rfl (hb hby d3_4) rfl ?_
    show Steps p.tables e below (T6.setTop (mkF m 5 #[.val (.ref a1), .val (.ref a2), .val (.int (0 : Int32)), .val (.int (0 : Int32)), .val .null, .unset] [(.int (0 : Int32))])) _
    refine XS.ifNo X6.here hx rfl (hb hby d3_5) rfl ((if0 _ _).trans (teq (by decide : (0 : Int32) = (0 : Int32))).2) ?_
    show Steps p.tables e below (T6.setTop (mkF m 8 #[.val (.ref a1), .val (.ref a2), .val (.int (0 : Int32)), .val (.int (0 : Int32)), .val .null, .unset] [])) _
    refine XS.aloadN X6.here hx rfl (hb hby d3_8) rfl rfl ?_
    show Steps p.tables e below (T6.setTop (mkF m 9 #[.val (.ref a1), .val (.ref a2), .val (.int (0 : Int32)), .val (.int (0 : Int32)), .val .null, .unset] [(.ref a1)])) _
    refine st7 _ ?_
    show Steps p.tables e below (T7.setTop (mkF m 11 #[.val (.ref a1), .val (.ref a2), .val (.int (0 : Int32)), .val (.int (0 : Int32)), .val .null, .unset] [(.ref li), (.ref a1)])) _
    refine st8 _ ?_
    show Steps p.tables e below (T8.setTop (mkF m 14 #[.val (.ref a1), .val (.ref a2), .val (.int (0 : Int32)), .val (.int (0 : Int32)), .val .null, .unset] [(.ref b7), (.ref a1)])) _
    refine st9 _ ?_
    show Steps p.tables e below (T9.setTop (mkF m 17 #[.val (.ref a1), .val (.ref a2), .val (.int (0 : Int32)), .val (.int (0 : Int32)), .val .null, .unset] [])) _
    refine XS.aloadN X9.here hx rfl (hb hby d3_17) rfl rfl ?_
    show Steps p.tables e below (T9.setTop (mkF m 18 #[.val (.ref a1), .val (.ref a2), .val (.int (0 : Int32)), .val (.int (0 : Int32)), .val .null, .unset] [(.ref a1)])) _
    refine ldcAgain (s := s) (vm0 := T7.vm) X9 hx hZ7 hown7 (wk hw 20 rfl) L7 (g := (mkF m 18 #[.val (.ref a1), .val (.ref a2), .val (.int (0 : Int32)), .val (.int (0 : Int32)), .val .null, .unset] [(.ref a1)])) rfl (hb hby d3_18) _ ?_
    show Steps p.tables e below (T9.setTop (mkF m 20 #[.val (.ref a1), .val (.ref a2), .val (.int (0 : Int32)), .val (.int (0 : Int32)), .val .null, .unset] [(.ref li), (.ref a1)])) _
    refine st10 _ ?_
    show Steps p.tables e below (T10.setTop (mkF m 23 #[.val (.ref a1), .val (.ref a2), .val (.int (0 : Int32)), .val (.int (0 : Int32)), .val .null, .unset] [(.int (0 : Int32)), (.ref a1)])) _
    refine st11 _ ?_
    show Steps p.tables e below (T11.setTop (mkF m 26 #[.val (.ref a1), .val (.ref a2), .val (.int (0 : Int32)), .val (.int (0 : Int32)), .val .null, .unset] [])) _
    exact X11.returnOut hx Bd.returns (hb hby d3_26) hr
  · show QE Z a1 h0 n0 _ T11.heap _
    rw [e11]
    exact ⟨rfl, N11, K11, ((E_a1.ext E7).wr W9).wr W11, Fw11, b7, kb7, Fv11, AV11⟩
  · show CHr Z EL s.vm s.heap T11.vm T11.heap
    rw [e11, hh]
    exact C12
set_option maxRecDepth 65536 in
set_option maxHeartbeats 40000000 in
theorem rm2e (l : Launch) (Z : State) (a0 : Array Value) (hw : ∀ d ∈ tables_1, d.before a0 Z = true) (ws : List Jvm.Cond) (a1 a2 : Addr) (EL : List (String × Nat)) (u_v u_c : Value) (h0 : Heap) (n0 : Nat) (Z0 : n0 ≤ h0.size) (hEL : EW Z a0 EL) (hmem : (("java/lang/String", 7) : String × Nat) ∈ EL) (E_a1 : Exa Z h0 a1 "java/lang/String") (F_v : Fld Z h0 a1 "java/lang/String" "value" "[B" u_v) (F_c : Fld Z h0 a1 "java/lang/String" "coder" "B" u_c) (g_a1 : n0 ≤ a1) (cl : Cell) (Ar : Arr Z h0 a2 cl .char) (Sz : cl.slots.size = (0 : Int32).toNatClampNeg) :
    MetFree l (⟨"java/lang/String", "<init>", "([C)V"⟩ : MethodName) (head1 (Jvm.Cond.code (⟨"java/lang/String", "<init>", "([C)V"⟩ : MethodName) jdk_42_method_3_code 2 none :: ws) ({ frames := 2, cells := 2, slots := 4, locals := 29 } : Room)) (fun a U => a = #[(.ref a1), (.ref a2)] ∧ Z.Warmed39 U.vm ∧ U.heap = h0 ∧ CHv Z EL U.vm h0 ∧ Safe Z EL U.vm h0 a1) (fun _ _ _ _ _ => True) (fun _ U o U' => ∃ v L, o = .returned v ∧ QE Z a1 h0 n0 v U'.heap L ∧ CHr Z EL U.vm U.heap U'.vm U'.heap ∧ ReturnedEndW U o U' L ({ frames := 2, cells := 2, slots := 4, locals := 29 } : Room).cells ({ frames := 2, cells := 2, slots := 4, locals := 29 } : Room).slots) := by
  refine MetFree.of_bodySF (plainFor_of_name pn_S) hisR ?_
  intro p e s m args below meth c s₁ Bd hml0 hP hK
  obtain ⟨rfl, hZ, hh, HC, HS⟩ := hP
  have hx := Bd.exec
  have hby := Bd.bytes
  have hml : c.maxLocals = 2 := hml0
  have hown : s.vm.findClass "java/lang/String" = some m.cls := findClass_of_methodNamed Bd.named
  have hnm := (name_of_methodNamed Bd.named Bd.method).1
  have X0 : Stand p l e ({ frames := 2, cells := 2, slots := 4, locals := 29 } : Room) s m #[(.ref a1), (.ref a2)] below meth c s₁ [] 0 0 := Stand.of_body Bd
  have e0 : s₁.heap = h0 := by rw [← hh, Bd.state]; rfl
  have N0 := Fr.nil n0
  have pre0 : ∀ t, Steps p.tables e below (s₁.setTop (mkF m 0 #[.val (.ref a1), .val (.ref a2)] [])) t → Steps p.tables e below (s₁.setTop (entryFrame m #[(.ref a1), (.ref a2)] 2)) t := fun t k => castTop (ef_Ce m a1 a2) k
  obtain ⟨_, _, ⟨T3, L3, k3, n3⟩, -, X3, hS3, hg3, ⟨Lc3, hQ3, l3, y3, z3, C3⟩, st3⟩ := X0.specialBackS hx (y := (⟨"java/lang/String", "<init>", "([CIILjava/lang/Void;)V"⟩ : MethodName)) rfl hown (mvT hZ (wk hw 13 rfl)) (mvT hZ (wk hw 14 rfl)) (mvT hZ (wk hw 16 rfl)) (by decide) (own_backSafe (s := s) (vm0 := s.vm) (W := 0) (rm3e l Z a0 hw [] a1 a2 EL u_v u_c h0 n0 Z0 hEL hmem E_a1 F_v F_c g_a1) hZ (wk hw 16 rfl) (wk hw 8 rfl) (by decide) (by decide) hEL HC E_a1.lt HS) (g := (mkF m 6 #[.val (.ref a1), .val (.ref a2)] [.null, (.int (0 : Int32)), (.int (0 : Int32)), (.ref a2), (.ref a1)])) rfl (by rw [hml]; rfl) (Steps.refl _) (a := a1) (argsL := [(.ref a2), (.int (0 : Int32)), (.int (0 : Int32)), .null]) (rest := []) (lenOf pd_Ve rfl) rfl (by show 2 * 0 + _ ≤ _; exact Nat.le_of_eq rfl) (hb hby d2_6) (fun _ _ => ⟨rfl, e0, (by decide : 0 + 2 ≤ _), (by decide : 0 + 4 ≤ _)⟩)
  dsimp only [Pt.U, Pt.locs, Pt.cells, Pt.slots] at X3 hS3 hg3 l3 y3 z3 st3 hQ3 C3
  subst l3 y3 z3
  obtain ⟨rfl, N3q, hQ3⟩ := hQ3
  have N3 := Fr.app N0 N3q
  obtain ⟨fs, hr, hrun, hended, hWW⟩ := leaveW (s := s) X3 hS3 (Nat.le_refl _) (v := none) (fun _ => rfl)
  refine ⟨_, _, pre0 _ ?_, hrun, hended, _, _, rfl, ?_, ?_, ⟨hWW.1, hWW.2.1, hWW.2.2.1, hWW.2.2.2.mono (by decide) (by decide)⟩⟩
  · show Steps p.tables e below (s₁.setTop (mkF m 0 #[.val (.ref a1), .val (.ref a2)] [])) _
    refine XS.aloadN X0.here hx rfl (hb hby d2_0) rfl rfl ?_
    refine XS.aloadN X0.here hx rfl (hb hby d2_1) rfl rfl ?_
    show Steps p.tables e below (s₁.setTop (mkF m 2 #[.val (.ref a1), .val (.ref a2)] [(.ref a2), (.ref a1)])) _
    refine XS.iconst X0.here hx rfl (hb hby d2_2) ?_
    refine XS.aloadN X0.here hx rfl (hb hby d2_3) rfl rfl ?_
    show Steps p.tables e below (s₁.setTop (mkF m 4 #[.val (.ref a1), .val (.ref a2)] [(.ref a2), (.int (0 : Int32)), (.ref a2), (.ref a1)])) _
    refine X0.arraylength hx (by rw [e0]; exact Ar.1) (State.isArrayOf_alike hZ.alike Ar.2.1) (g := (mkF m 4 #[.val (.ref a1), .val (.ref a2)] [(.ref a2), (.int (0 : Int32)), (.ref a2), (.ref a1)])) rfl rfl (hb hby d2_4) _ ?_
    rw [len_of Sz (by decide : ¬ (0 : Int32) < 0)]
    show Steps p.tables e below (s₁.setTop (mkF m 5 #[.val (.ref a1), .val (.ref a2)] [(.int (0 : Int32)), (.int (0 : Int32)), (.ref a2), (.ref a1)])) _
    refine XS.aconstNull X0.here hx rfl (hb hby d2_5) ?_
    show Steps p.tables e below (s₁.setTop (mkF m 6 #[.val (.ref a1), .val (.ref a2)] [.null, (.int (0 : Int32)), (.int (0 : Int32)), (.ref a2), (.ref a1)])) _
    refine st3.trans ?_
    show Steps p.tables e below (T3.setTop (mkF m 9 #[.val (.ref a1), .val (.ref a2)] [])) _
    exact X3.returnOut hx Bd.returns (hb hby d2_9) hr
  · exact ⟨rfl, N3, hQ3⟩
  · show CHr Z EL s.vm s.heap T3.vm T3.heap
    rw [hh]
    exact C3
theorem pdx___C_V : parseMethodDescriptor "([C)V" = some ⟨[(.array .char)], none⟩ := by decide +kernel
theorem d1_0 : decode method_3_code 0 = .ok (.iload_n 0, 1) := by decide +kernel
theorem d1_1 : decode method_3_code 1 = .ok (.ifCond .ne 14, 3) := by decide +kernel
theorem d1_4 : decode method_3_code 4 = .ok (.new 7, 3) := by decide +kernel
theorem d1_7 : decode method_3_code 7 = .ok (.dup, 1) := by decide +kernel
theorem d1_8 : decode method_3_code 8 = .ok (.iconst 0, 1) := by decide +kernel
theorem d1_9 : decode method_3_code 9 = .ok (.newarray .char, 2) := by decide +kernel
theorem d1_11 : decode method_3_code 11 = .ok (.invokespecial 9, 3) := by decide +kernel
theorem d1_14 : decode method_3_code 14 = .ok (.areturn, 1) := by decide +kernel
def Q_m1_0 (Z : State) (ch0 : Int32) (ch1 : Int32) (ch2 : Int32) (ch3 : Int32) (EL : List (String × Nat)) (h0 : Heap) (n0 : Nat) (v : Option Value) (h : Heap) (L : List Loc) : Prop := ∃ (a : Addr) (t : Addr) (k : ClassId), v = (some (.ref a)) ∧ Fr n0 L ∧ Keep h0 h [] ∧ Exa Z h a "java/lang/String" ∧ Fld Z h a "java/lang/String" "coder" "B" (.int (0 : Int32)) ∧ Fld Z h a "java/lang/String" "value" "[B" (.ref t) ∧ Arv Z h t k .byte (0 : Int32) [] (.int (0 : Int32)) ∧ h0.size ≤ a
theorem ef_m1_0 (m : MethodId) (ch0 : Int32) (ch1 : Int32) (ch2 : Int32) (ch3 : Int32) (EL : List (String × Nat)) : entryFrame m #[(.int (0 : Int32)), (.int ch0), (.int ch1), (.int ch2), (.int ch3)] 5 = mkF m 0 #[.val (.int (0 : Int32)), .val (.int ch0), .val (.int ch1), .val (.int ch2), .val (.int ch3)] [] := by first | (simp [entryFrame, mkF, argsToLocals, Value.category]; done) | rfl
set_option maxRecDepth 65536 in
set_option maxHeartbeats 40000000 in
theorem m1_0 (l : Launch) (Z : State) (a0 : Array Value) (hw : ∀ d ∈ tables_1, d.before a0 Z = true) (ws : List Jvm.Cond) (ch0 : Int32) (ch1 : Int32) (ch2 : Int32) (ch3 : Int32) (EL : List (String × Nat)) (h0 : Heap) (n0 : Nat) (Z0 : n0 ≤ h0.size) (hEL : EW Z a0 EL) (hmem : (("java/lang/String", 7) : String × Nat) ∈ EL) :
    MetFree l (⟨"com/example/grantline/grantline/authz/UnreservedMatchesPinLaw", "build", "(ICCCC)Ljava/lang/String;"⟩ : MethodName) (head1 (Jvm.Cond.code (⟨"com/example/grantline/grantline/authz/UnreservedMatchesPinLaw", "build", "(ICCCC)Ljava/lang/String;"⟩ : MethodName) method_3_code 5 (some (.object "java/lang/String")) :: ws) ({ frames := 3, cells := 4, slots := 8, locals := 43 } : Room)) (fun ar_ U => ar_ = #[(.int (0 : Int32)), (.int ch0), (.int ch1), (.int ch2), (.int ch3)] ∧ Z.Warmed39 U.vm ∧ U.heap = h0 ∧ CHv Z EL U.vm h0) (fun _ _ _ _ _ => True) (fun _ U o U' => ∃ v L, o = .returned v ∧ Q_m1_0 Z ch0 ch1 ch2 ch3 EL h0 n0 v U'.heap L ∧ CHr Z EL U.vm U.heap U'.vm U'.heap ∧ ReturnedEndW U o U' L ({ frames := 3, cells := 4, slots := 8, locals := 43 } : Room).cells ({ frames := 3, cells := 4, slots := 8, locals := 43 } : Room).slots) := by
  refine MetFree.of_bodySF (plainFor_of_name pnx_com_example_grantline_grantline_authz_UnreservedMatchesPinLaw) hisR ?_
  intro p e s m args below meth c s₁ Bd hml0 hP hK
  obtain ⟨rfl, hZ, hh, HC⟩ := hP
  have hx := Bd.exec
  have hby := Bd.bytes
  have hml : c.maxLocals = 5 := hml0
  have hown : s.vm.findClass "com/example/grantline/grantline/authz/UnreservedMatchesPinLaw" = some m.cls := findClass_of_methodNamed Bd.named
  have hnm := (name_of_methodNamed Bd.named Bd.method).1
  have X0 : Stand p l e ({ frames := 3, cells := 4, slots := 8, locals := 43 } : Room) s m #[(.int (0 : Int32)), (.int ch0), (.int ch1), (.int ch2), (.int ch3)] below meth c s₁ [] 0 0 := Stand.of_body Bd
  have e0 : s₁.heap = h0 := by rw [← hh, Bd.state]; rfl
  have N0 := Fr.nil n0
  have pre0 : ∀ tq_, Steps p.tables e below (s₁.setTop (mkF m 0 #[.val (.int (0 : Int32)), .val (.int ch0), .val (.int ch1), .val (.int ch2), .val (.int ch3)] [])) tq_ → Steps p.tables e below (s₁.setTop (entryFrame m #[(.int (0 : Int32)), (.int ch0), (.int ch1), (.int ch2), (.int ch3)] 5)) tq_ := fun tq_ kt_ => castTop (ef_m1_0 m ch0 ch1 ch2 ch3 EL ) kt_
  obtain ⟨T1, h1, X1, e1, E1, A1, D1, -, st1⟩ := newO X0 hx hZ hown (wk hw 6 rfl) (wk hw 7 rfl) (wk hw 8 rfl) e0 (g := (mkF m 4 #[.val (.int (0 : Int32)), .val (.int ch0), .val (.int ch1), .val (.int ch2), .val (.int ch3)] [])) rfl (hb hby d1_4) (nle rfl) (nle rfl)
  obtain ⟨b1, g1⟩ : ∃ z, z = h0.size := ⟨_, rfl⟩
  rw [← g1] at A1 D1 st1
  have sz_b1 : h0.size ≤ b1 := (Nat.le_of_eq g1.symm)
  have ge_b1 : n0 ≤ b1 := Nat.le_trans Z0 sz_b1
  have CH2 := HC.ext E1
  have sf2_b1 := Safe.ext E1 HC (Safe.new (Nat.le_of_eq g1.symm))
  have K3 : Keep h0 h1 [] := (Keep.refl h0 []).ext E1
  have D1_value := D1 (Or.inr (wk hw 22 rfl)) (ty := (.array .byte)) (by decide)
  have D1_coder := D1 (Or.inr (wk hw 23 rfl)) (ty := .byte) (by decide)
  obtain ⟨T4, h4, k4, X4, e4, E4, A4, st4⟩ := newP X1 hx hZ (wk hw 9 rfl) e1 (g := (mkF m 9 #[.val (.int (0 : Int32)), .val (.int ch0), .val (.int ch1), .val (.int ch2), .val (.int ch3)] [(.int (0 : Int32)), (.ref b1), (.ref b1)])) rfl (hb hby d1_9) rfl (by decide) (cap := 0) (by decide) (by decide) (nle rfl) (nle rfl)
  obtain ⟨b4, g4⟩ : ∃ z, z = h1.size := ⟨_, rfl⟩
  rw [← g4] at A4 st4
  have V4 : Arv Z h4 b4 k4 .char (0 : Int32) [] (.int (0 : Int32)) := Arv.new A4 (by decide)
  have sz_b4 : h0.size ≤ b4 := Nat.le_trans K3.1 (Nat.le_of_eq g4.symm)
  have ge_b4 : n0 ≤ b4 := Nat.le_trans Z0 sz_b4
  have ne_5 : b1 ≠ b4 := Nat.ne_of_lt (Nat.lt_of_lt_of_le A1.lt (Nat.le_of_eq g4.symm))
  have CH6 := CH2.ext E4
  have sf6_b1 := Safe.ext E4 CH2 sf2_b1
  have sf6_b4 := Safe.ext E4 CH2 (Safe.new (Nat.le_of_eq g4.symm))
  have K7 : Keep h0 h4 [] := K3.ext E4
  have F9 := (A1.ext E4)
  have F10 := (D1_value.ext E4)
  have F11 := (D1_coder.ext E4)
  obtain ⟨cl8, Ar8, -, Sz8, -⟩ := id V4
  obtain ⟨_, _, ⟨T8, L8, kk8, nn8⟩, -, X8, hS8, hg8, ⟨Lc8, hQ8, l8, y8, z8, C8⟩, st8⟩ := X4.specialBackS hx (y := (⟨"java/lang/String", "<init>", "([C)V"⟩ : MethodName)) rfl hown (mvT hZ (wk hw 10 rfl)) (mvT hZ (wk hw 11 rfl)) (mvT hZ (wk hw 12 rfl)) (by decide) (own_backSafe (s := s) (vm0 := s.vm) (W := 1) (rm2e l Z a0 hw [] b1 b4 EL _ _ h4 n0 (Nat.le_trans Z0 K7.1) hEL hmem F9 F10 F11 ge_b1 cl8 Ar8 Sz8) hZ (wk hw 12 rfl) (wk hw 8 rfl) (by decide) (by decide) hEL CH6 F9.lt sf6_b1) (g := (mkF m 11 #[.val (.int (0 : Int32)), .val (.int ch0), .val (.int ch1), .val (.int ch2), .val (.int ch3)] [(.ref b4), (.ref b1), (.ref b1)])) rfl (by rw [hml]; rfl) (Steps.refl _) (a := b1) (argsL := [(.ref b4)]) (rest := [(.ref b1)]) (lenOf pdx___C_V rfl) rfl (by show 2 * 0 + _ ≤ _; exact Nat.le_of_eq rfl) (hb hby d1_11) (fun _ _ => ⟨rfl, e4, nle rfl, nle rfl⟩)
  dsimp only [Pt.U, Pt.locs, Pt.cells, Pt.slots] at X8 hS8 hg8 l8 y8 z8 st8 hQ8 C8
  subst l8 y8 z8
  obtain ⟨rfl, Nq8, Kq8, Ex8, Fc8, t8, kb8, Fv8, Av8⟩ := hQ8
  have N8 := Fr.app N0 Nq8
  have CR8 := ((CHr.ext E1 HC).trans (CHr.ext E4 CH2)).trans C8
  obtain ⟨h8, e8⟩ : ∃ h, T8.heap = h := ⟨_, rfl⟩
  rw [e8] at Kq8 Ex8 Fc8 Fv8 Av8 CR8
  have K12 : Keep h0 h8 [] := K7.trans Kq8 (own_mS (Or.inr sz_b1) own_m0)
  obtain ⟨fs, hr, hrun, hended, hWW⟩ := leaveW (s := s) X8 hS8 (Nat.le_refl _) (v := some (.ref b1)) (fun h => by rw [Bd.returns] at h; cases h)
  refine ⟨_, _, pre0 _ ?_, hrun, hended, _, _, rfl, ?_, ?_, ⟨hWW.1, hWW.2.1, hWW.2.2.1, hWW.2.2.2.mono (nle rfl) (nle rfl)⟩⟩
  · show Steps p.tables e below (s₁.setTop (mkF m 0 #[.val (.int (0 : Int32)), .val (.int ch0), .val (.int ch1), .val (.int ch2), .val (.int ch3)] [])) _
    refine XS.iloadN X0.here hx rfl (hb hby d1_0) rfl ?_
    show Steps p.tables e below (s₁.setTop (mkF m 1 #[.val (.int (0 : Int32)), .val (.int ch0), .val (.int ch1), .val (.int ch2), .val (.int ch3)] [(.int (0 : Int32))])) _
    refine XS.ifNo X0.here hx rfl (hb hby d1_1) rfl ((if0 _ _).trans (teq (by decide : (0 : Int32) = (0 : Int32))).2) ?_
    show Steps p.tables e below (s₁.setTop (mkF m 4 #[.val (.int (0 : Int32)), .val (.int ch0), .val (.int ch1), .val (.int ch2), .val (.int ch3)] [])) _
    refine st1 _ ?_
    show Steps p.tables e below (T1.setTop (mkF m 7 #[.val (.int (0 : Int32)), .val (.int ch0), .val (.int ch1), .val (.int ch2), .val (.int ch3)] [(.ref b1)])) _
    refine XS.dup X1.here hx rfl (hb hby d1_7) rfl rfl ?_
    refine XS.iconst X1.here hx rfl (hb hby d1_8) ?_
    show Steps p.tables e below (T1.setTop (mkF m 9 #[.val (.int (0 : Int32)), .val (.int ch0), .val (.int ch1), .val (.int ch2), .val (.int ch3)] [(.int (0 : Int32)), (.ref b1), (.ref b1)])) _
    refine st4 _ ?_
    show Steps p.tables e below (T4.setTop (mkF m 11 #[.val (.int (0 : Int32)), .val (.int ch0), .val (.int ch1), .val (.int ch2), .val (.int ch3)] [(.ref b4), (.ref b1), (.ref b1)])) _
    refine st8.trans ?_
    show Steps p.tables e below (T8.setTop (mkF m 14 #[.val (.int (0 : Int32)), .val (.int ch0), .val (.int ch1), .val (.int ch2), .val (.int ch3)] [(.ref b1)])) _
    exact X8.areturnOut hx rfl Bd.returns rfl (hb hby d1_14) hr
  · show Q_m1_0 Z ch0 ch1 ch2 ch3 EL h0 n0 _ T8.heap _
    rw [e8]
    exact ⟨b1, t8, kb8, rfl, N8, K12, Ex8, Fc8, Fv8, Av8, sz_b1⟩
  · show CHr Z EL s.vm s.heap T8.vm T8.heap
    rw [e8, hh]
    exact CR8
theorem d1_15 : decode method_3_code 15 = .ok (.iload_n 0, 1) := by decide +kernel
theorem d1_16 : decode method_3_code 16 = .ok (.iconst 1, 1) := by decide +kernel
theorem d1_17 : decode method_3_code 17 = .ok (.if_icmp .ne 18, 3) := by decide +kernel
theorem d1_20 : decode method_3_code 20 = .ok (.new 7, 3) := by decide +kernel
theorem d1_23 : decode method_3_code 23 = .ok (.dup, 1) := by decide +kernel
theorem d1_24 : decode method_3_code 24 = .ok (.iconst 1, 1) := by decide +kernel
theorem d1_25 : decode method_3_code 25 = .ok (.newarray .char, 2) := by decide +kernel
theorem d1_27 : decode method_3_code 27 = .ok (.dup, 1) := by decide +kernel
theorem d1_28 : decode method_3_code 28 = .ok (.iconst 0, 1) := by decide +kernel
theorem d1_29 : decode method_3_code 29 = .ok (.iload_n 1, 1) := by decide +kernel
theorem d1_30 : decode method_3_code 30 = .ok (.castore, 1) := by decide +kernel
theorem d1_31 : decode method_3_code 31 = .ok (.invokespecial 9, 3) := by decide +kernel
theorem d1_34 : decode method_3_code 34 = .ok (.areturn, 1) := by decide +kernel
def Q_m1l_1 (Z : State) (ch0 : Int32) (ch1 : Int32) (ch2 : Int32) (ch3 : Int32) (wcs : Int32) (h0 : Heap) (n0 : Nat) (v : Option Value) (h : Heap) (L : List Loc) : Prop := ∃ (a : Addr) (t : Addr) (k : ClassId), v = (some (.ref a)) ∧ Fr n0 L ∧ Keep h0 h [] ∧ Exa Z h a "java/lang/String" ∧ Fld Z h a "java/lang/String" "coder" "B" (.int (0 : Int32)) ∧ Fld Z h a "java/lang/String" "value" "[B" (.ref t) ∧ Arv Z h t k .byte (1 : Int32) [(.int (nar .char ch0).toInt8.toInt32)] (.int (0 : Int32)) ∧ h0.size ≤ a
theorem ef_m1l_1 (m : MethodId) (ch0 : Int32) (ch1 : Int32) (ch2 : Int32) (ch3 : Int32) (wcs : Int32) : entryFrame m #[(.int (1 : Int32)), (.int ch0), (.int ch1), (.int ch2), (.int ch3)] 5 = mkF m 0 #[.val (.int (1 : Int32)), .val (.int ch0), .val (.int ch1), .val (.int ch2), .val (.int ch3)] [] := by first | (simp [entryFrame, mkF, argsToLocals, Value.category]; done) | rfl
set_option maxRecDepth 65536 in
set_option maxHeartbeats 40000000 in
theorem m1l_1 (l : Launch) (Z : State) (a0 : Array Value) (hw : ∀ d ∈ tables_1, d.before a0 Z = true) (ws : List Jvm.Cond) (ch0 : Int32) (ch1 : Int32) (ch2 : Int32) (ch3 : Int32) (wcs : Int32) (h0 : Heap) (n0 : Nat) (Z0 : n0 ≤ h0.size) (S_CS : Sta Z h0 "java/lang/String" "COMPACT_STRINGS" "Z" (.int wcs)) (ncs : ¬ (wcs = (0 : Int32))) (q0 : ¬ (255 : Int32) < nar .char ch0) :
    MetFree l (⟨"com/example/grantline/grantline/authz/UnreservedMatchesPinLaw", "build", "(ICCCC)Ljava/lang/String;"⟩ : MethodName) (head1 (Jvm.Cond.code (⟨"com/example/grantline/grantline/authz/UnreservedMatchesPinLaw", "build", "(ICCCC)Ljava/lang/String;"⟩ : MethodName) method_3_code 5 (some (.object "java/lang/String")) :: ws) ({ frames := 4, cells := 3, slots := 6, locals := 66 } : Room)) (fun ar_ U => ar_ = #[(.int (1 : Int32)), (.int ch0), (.int ch1), (.int ch2), (.int ch3)] ∧ Z.Warmed39 U.vm ∧ U.heap = h0) (fun _ _ _ _ _ => True) (fun _ U o U' => ∃ v L, o = .returned v ∧ Q_m1l_1 Z ch0 ch1 ch2 ch3 wcs h0 n0 v U'.heap L ∧ FrameEnd U o U' L ({ frames := 4, cells := 3, slots := 6, locals := 66 } : Room).cells ({ frames := 4, cells := 3, slots := 6, locals := 66 } : Room).slots) := by
  refine MetFree.of_bodySF (plainFor_of_name pnx_com_example_grantline_grantline_authz_UnreservedMatchesPinLaw) hisR ?_
  intro p e s m args below meth c s₁ Bd hml0 hP hK
  obtain ⟨rfl, hZ, hh⟩ := hP
  have hx := Bd.exec
  have hby := Bd.bytes
  have hml : c.maxLocals = 5 := hml0
  have hown : s.vm.findClass "com/example/grantline/grantline/authz/UnreservedMatchesPinLaw" = some m.cls := findClass_of_methodNamed Bd.named
  have hnm := (name_of_methodNamed Bd.named Bd.method).1
  have X0 : Stand p l e ({ frames := 4, cells := 3, slots := 6, locals := 66 } : Room) s m #[(.int (1 : Int32)), (.int ch0), (.int ch1), (.int ch2), (.int ch3)] below meth c s₁ [] 0 0 := Stand.of_body Bd
  have e0 : s₁.heap = h0 := by rw [← hh, Bd.state]; rfl
  have N0 := Fr.nil n0
  have pre0 : ∀ tq_, Steps p.tables e below (s₁.setTop (mkF m 0 #[.val (.int (1 : Int32)), .val (.int ch0), .val (.int ch1), .val (.int ch2), .val (.int ch3)] [])) tq_ → Steps p.tables e below (s₁.setTop (entryFrame m #[(.int (1 : Int32)), (.int ch0), (.int ch1), (.int ch2), (.int ch3)] 5)) tq_ := fun tq_ kt_ => castTop (ef_m1l_1 m ch0 ch1 ch2 ch3 wcs ) kt_
  obtain ⟨T1, h1, X1, e1, E1, A1, D1, -, st1⟩ := newO X0 hx hZ hown (wk hw 6 rfl) (wk hw 7 rfl) (wk hw 8 rfl) e0 (g := (mkF m 20 #[.val (.int (1 : Int32)), .val (.int ch0), .val (.int ch1), .val (.int ch2), .val (.int ch3)] [])) rfl (hb hby d1_20) (nle rfl) (nle rfl)
  obtain ⟨b1, g1⟩ : ∃ z, z = h0.size := ⟨_, rfl⟩
  rw [← g1] at A1 D1 st1
  have sz_b1 : h0.size ≤ b1 := (Nat.le_of_eq g1.symm)
  have ge_b1 : n0 ≤ b1 := Nat.le_trans Z0 sz_b1
  have K2 : Keep h0 h1 [] := (Keep.refl h0 []).ext E1
  have D1_value := D1 (Or.inr (wk hw 22 rfl)) (ty := (.array .byte)) (by decide)
  have D1_coder := D1 (Or.inr (wk hw 23 rfl)) (ty := .byte) (by decide)
  obtain ⟨T3, h3, k3, X3, e3, E3, A3, st3⟩ := newP X1 hx hZ (wk hw 9 rfl) e1 (g := (mkF m 25 #[.val (.int (1 : Int32)), .val (.int ch0), .val (.int ch1), .val (.int ch2), .val (.int ch3)] [(.int (1 : Int32)), (.ref b1), (.ref b1)])) rfl (hb hby d1_25) rfl (by decide) (cap := 1) (by decide) (by decide) (nle rfl) (nle rfl)
  obtain ⟨b3, g3⟩ : ∃ z, z = h1.size := ⟨_, rfl⟩
  rw [← g3] at A3 st3
  have V3 : Arv Z h3 b3 k3 .char (1 : Int32) [] (.int (0 : Int32)) := Arv.new A3 (by decide)
  have sz_b3 : h0.size ≤ b3 := Nat.le_trans K2.1 (Nat.le_of_eq g3.symm)
  have ge_b3 : n0 ≤ b3 := Nat.le_trans Z0 sz_b3
  have ne_4 : b1 ≠ b3 := Nat.ne_of_lt (Nat.lt_of_lt_of_le A1.lt (Nat.le_of_eq g3.symm))
  have K5 : Keep h0 h3 [] := K2.ext E3
  have V7 : Arv Z h3 b3 k3 .char (1 : Int32) [(.int (0 : Int32))] (.int (0 : Int32)) := V3.pad (pad_rep [] (.int (0 : Int32)) 1)
  obtain ⟨c6, A6, q6, S6, M6, H6, U6⟩ := id V7
  obtain ⟨T6, h6, X6, e6, W6, st6⟩ := stC X3 hx hZ e3 A6 (j := (0 : Int32)) (inb_of S6 ⟨(by decide : ¬ ((0 : Int32) < (0 : Int32))), (by decide : (0 : Int32) < (1 : Int32))⟩) (g := (mkF m 30 #[.val (.int (1 : Int32)), .val (.int ch0), .val (.int ch1), .val (.int ch2), .val (.int ch3)] [(.int ch0), (.int (0 : Int32)), (.ref b3), (.ref b3), (.ref b1), (.ref b1)])) rfl rfl (hb hby d1_30)
  have N6 := Fr.snoc X6 N0 ge_b3
  have V6 : Arv Z h6 b3 k3 .char (1 : Int32) [(.int (nar .char ch0))] (.int (0 : Int32)) := Arv.set A6 q6 S6 M6 H6 U6 (fits_nar_char _) W6 0 rfl (nle rfl)
  have K8 : Keep h0 h6 [] := K5.wr W6 (Or.inr sz_b3)
  have F10 := ((A1.ext E3).wr W6)
  have F11 := ((D1_value.ext E3).other W6 (Or.inl ne_4))
  have F12 := ((D1_coder.ext E3).other W6 (Or.inl ne_4))
  have F13 := (((S_CS.ext E1).ext E3).wr W6)
  have hws : ∀ d ∈ StrChars.Road.words, d.before a0 Z = true := fun d hd => hw d ((by decide +kernel : ∀ d ∈ StrChars.Road.words, d ∈ tables_1) d hd)
  have Vc9 : Arv Z h6 b3 k3 .char (1 : Int32) (([(nar .char ch0)] : List Int32).map Value.int) (.int (0 : Int32)) := V6
  have hp : ∀ c ∈ ([(nar .char ch0)] : List Int32), ¬ c < 0 ∧ ¬ (255 : Int32) < c := (own_mS ⟨own_nneg _ (own_is_i2c _), q0⟩ own_m0)
  obtain ⟨_, _, ⟨T9, L9, kk9, nn9⟩, -, X9, ⟨Lc9, hQ9, l9, y9, z9⟩, st9⟩ := X6.specialBack hx (y := (⟨"java/lang/String", "<init>", "([C)V"⟩ : MethodName)) rfl hown (mvT hZ (wk hw 10 rfl)) (mvT hZ (wk hw 11 rfl)) (mvT hZ (wk hw 12 rfl)) (by decide) (StrChars.Road.backV (W := 1) hZ hws (kI := 4) (wk hw 7 rfl) (cs := ([(nar .char ch0)] : List Int32)) (bs := ([(nar .char ch0)] : List Int32).map (fun c => c.toInt8.toInt32)) (n := 1) ge_b1 (Nat.le_trans Z0 K8.1) F10 F11 F12 Vc9 F13 ncs rfl rfl (by decide) (by decide) hp rfl (by decide) (by decide)) (g := (mkF m 31 #[.val (.int (1 : Int32)), .val (.int ch0), .val (.int ch1), .val (.int ch2), .val (.int ch3)] [(.ref b3), (.ref b1), (.ref b1)])) rfl (by rw [hml]; rfl) (Steps.refl _) (a := b1) (argsL := [(.ref b3)]) (rest := [(.ref b1)]) (lenOf pdx___C_V rfl) rfl (by show 2 * 0 + _ ≤ _; exact Nat.le_of_eq rfl) (hb hby d1_31) (fun _ _ => ⟨rfl, e6, nle rfl, nle rfl⟩)
  dsimp only [Pt.U, Pt.locs, Pt.cells, Pt.slots] at X9 l9 y9 z9 st9 hQ9
  subst l9 y9 z9
  obtain ⟨rfl, Nq9, Kq9, Ex9, Fc9, t9, kb9, -, fr9, -, Fv9, Av9⟩ := hQ9
  have N9 := Fr.app N6 Nq9
  obtain ⟨h9, e9⟩ : ∃ h, T9.heap = h := ⟨_, rfl⟩
  rw [e9] at Kq9 Ex9 Fc9 Fv9 Av9
  have sz_t9 : h0.size ≤ t9 := Nat.le_trans K8.1 fr9
  have ge_t9 : n0 ≤ t9 := Nat.le_trans Z0 sz_t9
  have ne_14 : b1 ≠ t9 := Nat.ne_of_lt (Nat.lt_of_lt_of_le F10.lt fr9)
  have ne_15 : b3 ≠ t9 := Nat.ne_of_lt (Nat.lt_of_lt_of_le V6.lt fr9)
  have K16 : Keep h0 h9 [] := K8.trans Kq9 (own_mS (Or.inr sz_b1) own_m0)
  have Av9 : Arv Z h9 t9 kb9 .byte (1 : Int32) [(.int (nar .char ch0).toInt8.toInt32)] (.int (0 : Int32)) := Av9
  obtain ⟨fs, hr, hrun, hended, hW, hsame⟩ := X9.leave (v := some (.ref b1)) (fun h => by rw [Bd.returns] at h; cases h)
  refine ⟨_, _, pre0 _ ?_, hrun, hended, _, _, rfl, ?_, ⟨_, rfl⟩, hW, hsame.mono (nle rfl) (nle rfl)⟩
  · show Steps p.tables e below (s₁.setTop (mkF m 0 #[.val (.int (1 : Int32)), .val (.int ch0), .val (.int ch1), .val (.int ch2), .val (.int ch3)] [])) _
    refine XS.iloadN X0.here hx rfl (hb hby d1_0) rfl ?_
    show Steps p.tables e below (s₁.setTop (mkF m 1 #[.val (.int (1 : Int32)), .val (.int ch0), .val (.int ch1), .val (.int ch2), .val (.int ch3)] [(.int (1 : Int32))])) _
    refine XS.ifYes X0.here hx rfl (pc0 := 1) (pc' := 15) rfl (hb hby d1_1) rfl ((if0 _ _).trans (feq (by decide : ¬ ((1 : Int32) = (0 : Int32)))).2) (by decide) (by decide) ?_
    show Steps p.tables e below (s₁.setTop (mkF m 15 #[.val (.int (1 : Int32)), .val (.int ch0), .val (.int ch1), .val (.int ch2), .val (.int ch3)] [])) _
    refine XS.iloadN X0.here hx rfl (hb hby d1_15) rfl ?_
    refine XS.iconst X0.here hx rfl (hb hby d1_16) ?_
    show Steps p.tables e below (s₁.setTop (mkF m 17 #[.val (.int (1 : Int32)), .val (.int ch0), .val (.int ch1), .val (.int ch2), .val (.int ch3)] [(.int (1 : Int32)), (.int (1 : Int32))])) _
    refine XS.icmpNo X0.here hx rfl (hb hby d1_17) rfl (teq (by decide : (1 : Int32) = (1 : Int32))).2 ?_
    show Steps p.tables e below (s₁.setTop (mkF m 20 #[.val (.int (1 : Int32)), .val (.int ch0), .val (.int ch1), .val (.int ch2), .val (.int ch3)] [])) _
    refine st1 _ ?_
    show Steps p.tables e below (T1.setTop (mkF m 23 #[.val (.int (1 : Int32)), .val (.int ch0), .val (.int ch1), .val (.int ch2), .val (.int ch3)] [(.ref b1)])) _
    refine XS.dup X1.here hx rfl (hb hby d1_23) rfl rfl ?_
    refine XS.iconst X1.here hx rfl (hb hby d1_24) ?_
    show Steps p.tables e below (T1.setTop (mkF m 25 #[.val (.int (1 : Int32)), .val (.int ch0), .val (.int ch1), .val (.int ch2), .val (.int ch3)] [(.int (1 : Int32)), (.ref b1), (.ref b1)])) _
    refine st3 _ ?_
    show Steps p.tables e below (T3.setTop (mkF m 27 #[.val (.int (1 : Int32)), .val (.int ch0), .val (.int ch1), .val (.int ch2), .val (.int ch3)] [(.ref b3), (.ref b1), (.ref b1)])) _
    refine XS.dup X3.here hx rfl (hb hby d1_27) rfl rfl ?_
    refine XS.iconst X3.here hx rfl (hb hby d1_28) ?_
    show Steps p.tables e below (T3.setTop (mkF m 29 #[.val (.int (1 : Int32)), .val (.int ch0), .val (.int ch1), .val (.int ch2), .val (.int ch3)] [(.int (0 : Int32)), (.ref b3), (.ref b3), (.ref b1), (.ref b1)])) _
    refine XS.iloadN X3.here hx rfl (hb hby d1_29) rfl ?_
    show Steps p.tables e below (T3.setTop (mkF m 30 #[.val (.int (1 : Int32)), .val (.int ch0), .val (.int ch1), .val (.int ch2), .val (.int ch3)] [(.int ch0), (.int (0 : Int32)), (.ref b3), (.ref b3), (.ref b1), (.ref b1)])) _
    refine st6 _ ?_
    show Steps p.tables e below (T6.setTop (mkF m 31 #[.val (.int (1 : Int32)), .val (.int ch0), .val (.int ch1), .val (.int ch2), .val (.int ch3)] [(.ref b3), (.ref b1), (.ref b1)])) _
    refine st9.trans ?_
    show Steps p.tables e below (T9.setTop (mkF m 34 #[.val (.int (1 : Int32)), .val (.int ch0), .val (.int ch1), .val (.int ch2), .val (.int ch3)] [(.ref b1)])) _
    exact X9.areturnOut hx rfl Bd.returns rfl (hb hby d1_34) hr
  · show Q_m1l_1 Z ch0 ch1 ch2 ch3 wcs h0 n0 _ T9.heap _
    rw [e9]
    exact ⟨b1, t9, kb9, rfl, N9, K16, Ex9, Fc9, Fv9, Av9, sz_b1⟩
def Q_m1u_1 (Z : State) (ch0 : Int32) (ch1 : Int32) (ch2 : Int32) (ch3 : Int32) (f : Int32) (x : Int32) (wcs : Int32) (h0 : Heap) (n0 : Nat) (v : Option Value) (h : Heap) (L : List Loc) : Prop := ∃ (a : Addr) (t : Addr) (k : ClassId), v = (some (.ref a)) ∧ Fr n0 L ∧ Keep h0 h [] ∧ Exa Z h a "java/lang/String" ∧ Fld Z h a "java/lang/String" "coder" "B" (.int (1 : Int32)) ∧ Fld Z h a "java/lang/String" "value" "[B" (.ref t) ∧ Arv Z h t k .byte (2 : Int32) [(.int (own_b0 (nar .char ch0))), (.int (own_b1 (nar .char ch0)))] (.int (0 : Int32)) ∧ h0.size ≤ a
theorem ef_m1u_1 (m : MethodId) (ch0 : Int32) (ch1 : Int32) (ch2 : Int32) (ch3 : Int32) (f : Int32) (x : Int32) (wcs : Int32) : entryFrame m #[(.int (1 : Int32)), (.int ch0), (.int ch1), (.int ch2), (.int ch3)] 5 = mkF m 0 #[.val (.int (1 : Int32)), .val (.int ch0), .val (.int ch1), .val (.int ch2), .val (.int ch3)] [] := by first | (simp [entryFrame, mkF, argsToLocals, Value.category]; done) | rfl
set_option maxRecDepth 65536 in
set_option maxHeartbeats 40000000 in
theorem m1u_1 (l : Launch) (Z : State) (a0 : Array Value) (hw : ∀ d ∈ tables_1, d.before a0 Z = true) (ws : List Jvm.Cond) (ch0 : Int32) (ch1 : Int32) (ch2 : Int32) (ch3 : Int32) (f : Int32) (x : Int32) (wcs : Int32) (h0 : Heap) (n0 : Nat) (Z0 : n0 ≤ h0.size) (S_CS : Sta Z h0 "java/lang/String" "COMPACT_STRINGS" "Z" (.int wcs)) (ncs : ¬ (wcs = (0 : Int32))) (S_AD : Sta Z h0 "java/lang/StringUTF16" "$assertionsDisabled" "Z" (.int (1 : Int32))) (S_HI : Sta Z h0 "java/lang/StringUTF16" "HI_BYTE_SHIFT" "I" (.int (0 : Int32))) (S_LO : Sta Z h0 "java/lang/StringUTF16" "LO_BYTE_SHIFT" "I" (.int (8 : Int32))) (hT : own_T (1 : Int32) [(.int (nar .char ch0))] (2 : Int32) [(.int (own_b0 (nar .char ch0))), (.int (own_b1 (nar .char ch0)))] f x) (hu : own_u (own_b0 x) (own_b1 x) = x) :
    MetFree l (⟨"com/example/grantline/grantline/authz/UnreservedMatchesPinLaw", "build", "(ICCCC)Ljava/lang/String;"⟩ : MethodName) (head1 (Jvm.Cond.code (⟨"com/example/grantline/grantline/authz/UnreservedMatchesPinLaw", "build", "(ICCCC)Ljava/lang/String;"⟩ : MethodName) method_3_code 5 (some (.object "java/lang/String")) :: ws) ({ frames := 6, cells := 4, slots := 17, locals := 88 } : Room)) (fun ar_ U => ar_ = #[(.int (1 : Int32)), (.int ch0), (.int ch1), (.int ch2), (.int ch3)] ∧ Z.Warmed39 U.vm ∧ U.heap = h0) (fun _ _ _ _ _ => True) (fun _ U o U' => ∃ v L, o = .returned v ∧ Q_m1u_1 Z ch0 ch1 ch2 ch3 f x wcs h0 n0 v U'.heap L ∧ FrameEnd U o U' L ({ frames := 6, cells := 4, slots := 17, locals := 88 } : Room).cells ({ frames := 6, cells := 4, slots := 17, locals := 88 } : Room).slots) := by
  refine MetFree.of_bodySF (plainFor_of_name pnx_com_example_grantline_grantline_authz_UnreservedMatchesPinLaw) hisR ?_
  intro p e s m args below meth c s₁ Bd hml0 hP hK
  obtain ⟨rfl, hZ, hh⟩ := hP
  have hx := Bd.exec
  have hby := Bd.bytes
  have hml : c.maxLocals = 5 := hml0
  have hown : s.vm.findClass "com/example/grantline/grantline/authz/UnreservedMatchesPinLaw" = some m.cls := findClass_of_methodNamed Bd.named
  have hnm := (name_of_methodNamed Bd.named Bd.method).1
  have X0 : Stand p l e ({ frames := 6, cells := 4, slots := 17, locals := 88 } : Room) s m #[(.int (1 : Int32)), (.int ch0), (.int ch1), (.int ch2), (.int ch3)] below meth c s₁ [] 0 0 := Stand.of_body Bd
  have e0 : s₁.heap = h0 := by rw [← hh, Bd.state]; rfl
  have N0 := Fr.nil n0
  have pre0 : ∀ tq_, Steps p.tables e below (s₁.setTop (mkF m 0 #[.val (.int (1 : Int32)), .val (.int ch0), .val (.int ch1), .val (.int ch2), .val (.int ch3)] [])) tq_ → Steps p.tables e below (s₁.setTop (entryFrame m #[(.int (1 : Int32)), (.int ch0), (.int ch1), (.int ch2), (.int ch3)] 5)) tq_ := fun tq_ kt_ => castTop (ef_m1u_1 m ch0 ch1 ch2 ch3 f x wcs ) kt_
  obtain ⟨T1, h1, X1, e1, E1, A1, D1, -, st1⟩ := newO X0 hx hZ hown (wk hw 6 rfl) (wk hw 7 rfl) (wk hw 8 rfl) e0 (g := (mkF m 20 #[.val (.int (1 : Int32)), .val (.int ch0), .val (.int ch1), .val (.int ch2), .val (.int ch3)] [])) rfl (hb hby d1_20) (nle rfl) (nle rfl)
  obtain ⟨b1, g1⟩ : ∃ z, z = h0.size := ⟨_, rfl⟩
  rw [← g1] at A1 D1 st1
  have sz_b1 : h0.size ≤ b1 := (Nat.le_of_eq g1.symm)
  have ge_b1 : n0 ≤ b1 := Nat.le_trans Z0 sz_b1
  have K2 : Keep h0 h1 [] := (Keep.refl h0 []).ext E1
  have D1_value := D1 (Or.inr (wk hw 22 rfl)) (ty := (.array .byte)) (by decide)
  have D1_coder := D1 (Or.inr (wk hw 23 rfl)) (ty := .byte) (by decide)
  obtain ⟨T3, h3, k3, X3, e3, E3, A3, st3⟩ := newP X1 hx hZ (wk hw 9 rfl) e1 (g := (mkF m 25 #[.val (.int (1 : Int32)), .val (.int ch0), .val (.int ch1), .val (.int ch2), .val (.int ch3)] [(.int (1 : Int32)), (.ref b1), (.ref b1)])) rfl (hb hby d1_25) rfl (by decide) (cap := 1) (by decide) (by decide) (nle rfl) (nle rfl)
  obtain ⟨b3, g3⟩ : ∃ z, z = h1.size := ⟨_, rfl⟩
  rw [← g3] at A3 st3
  have V3 : Arv Z h3 b3 k3 .char (1 : Int32) [] (.int (0 : Int32)) := Arv.new A3 (by decide)
  have sz_b3 : h0.size ≤ b3 := Nat.le_trans K2.1 (Nat.le_of_eq g3.symm)
  have ge_b3 : n0 ≤ b3 := Nat.le_trans Z0 sz_b3
  have ne_4 : b1 ≠ b3 := Nat.ne_of_lt (Nat.lt_of_lt_of_le A1.lt (Nat.le_of_eq g3.symm))
  have K5 : Keep h0 h3 [] := K2.ext E3
  have V7 : Arv Z h3 b3 k3 .char (1 : Int32) [(.int (0 : Int32))] (.int (0 : Int32)) := V3.pad (pad_rep [] (.int (0 : Int32)) 1)
  obtain ⟨c6, A6, q6, S6, M6, H6, U6⟩ := id V7
  obtain ⟨T6, h6, X6, e6, W6, st6⟩ := stC X3 hx hZ e3 A6 (j := (0 : Int32)) (inb_of S6 ⟨(by decide : ¬ ((0 : Int32) < (0 : Int32))), (by decide : (0 : Int32) < (1 : Int32))⟩) (g := (mkF m 30 #[.val (.int (1 : Int32)), .val (.int ch0), .val (.int ch1), .val (.int ch2), .val (.int ch3)] [(.int ch0), (.int (0 : Int32)), (.ref b3), (.ref b3), (.ref b1), (.ref b1)])) rfl rfl (hb hby d1_30)
  have N6 := Fr.snoc X6 N0 ge_b3
  have V6 : Arv Z h6 b3 k3 .char (1 : Int32) [(.int (nar .char ch0))] (.int (0 : Int32)) := Arv.set A6 q6 S6 M6 H6 U6 (fits_nar_char _) W6 0 rfl (nle rfl)
  have K8 : Keep h0 h6 [] := K5.wr W6 (Or.inr sz_b3)
  have F10 := ((A1.ext E3).wr W6)
  have F11 := ((D1_value.ext E3).other W6 (Or.inl ne_4))
  have F12 := ((D1_coder.ext E3).other W6 (Or.inl ne_4))
  have F13 := (((S_CS.ext E1).ext E3).wr W6)
  have F14 := (((S_AD.ext E1).ext E3).wr W6)
  have F15 := (((S_HI.ext E1).ext E3).wr W6)
  have F16 := (((S_LO.ext E1).ext E3).wr W6)
  obtain ⟨_, _, ⟨T9, L9, kk9, nn9⟩, -, X9, ⟨Lc9, hQ9, l9, y9, z9⟩, st9⟩ := X6.specialBack hx (y := (⟨"java/lang/String", "<init>", "([C)V"⟩ : MethodName)) rfl hown (mvT hZ (wk hw 10 rfl)) (mvT hZ (wk hw 11 rfl)) (mvT hZ (wk hw 12 rfl)) (by decide) (backOf (W := 1) (m2u l Z a0 hw [] b1 .null (.int (0 : Int32)) b3 k3 (1 : Int32) [(.int (nar .char ch0))] (2 : Int32) [(.int (own_b0 (nar .char ch0))), (.int (own_b1 (nar .char ch0)))] f x wcs h6 n0 (Nat.le_trans Z0 K8.1) F10 F11 F12 ge_b1 V6 F13 ncs F14 F15 F16 hT hu (by decide)) hZ (wk hw 12 rfl) (wk hw 8 rfl) (by decide) (by decide)) (g := (mkF m 31 #[.val (.int (1 : Int32)), .val (.int ch0), .val (.int ch1), .val (.int ch2), .val (.int ch3)] [(.ref b3), (.ref b1), (.ref b1)])) rfl (by rw [hml]; rfl) (Steps.refl _) (a := b1) (argsL := [(.ref b3)]) (rest := [(.ref b1)]) (lenOf pdx___C_V rfl) rfl (by show 2 * 0 + _ ≤ _; exact Nat.le_of_eq rfl) (hb hby d1_31) (fun _ _ => ⟨rfl, e6, nle rfl, nle rfl⟩)
  dsimp only [Pt.U, Pt.locs, Pt.cells, Pt.slots] at X9 l9 y9 z9 st9 hQ9
  subst l9 y9 z9
  obtain ⟨t_9, kt_9, rfl, Nq9, Kq9, P9_0, P9_1, P9_2, P9_3, P9_4⟩ := hQ9
  have N9 := Fr.app N6 Nq9
  obtain ⟨h9, e9⟩ : ∃ h, T9.heap = h := ⟨_, rfl⟩
  rw [e9] at Kq9 P9_0 P9_1 P9_2 P9_3
  have sz_t_9 : h0.size ≤ t_9 := Nat.le_trans K8.1 P9_4
  have ge_t_9 : n0 ≤ t_9 := Nat.le_trans Z0 sz_t_9
  have ne_17 : b1 ≠ t_9 := Nat.ne_of_lt (Nat.lt_of_lt_of_le F10.lt P9_4)
  have ne_18 : b3 ≠ t_9 := Nat.ne_of_lt (Nat.lt_of_lt_of_le V6.lt P9_4)
  have ns9 := (nsS F10.nostat ns0)
  have K19 : Keep h0 h9 [] := K8.trans Kq9 (own_mS (Or.inr sz_b1) own_m0)
  obtain ⟨fs, hr, hrun, hended, hW, hsame⟩ := X9.leave (v := some (.ref b1)) (fun h => by rw [Bd.returns] at h; cases h)
  refine ⟨_, _, pre0 _ ?_, hrun, hended, _, _, rfl, ?_, ⟨_, rfl⟩, hW, hsame.mono (nle rfl) (nle rfl)⟩
  · show Steps p.tables e below (s₁.setTop (mkF m 0 #[.val (.int (1 : Int32)), .val (.int ch0), .val (.int ch1), .val (.int ch2), .val (.int ch3)] [])) _
    refine XS.iloadN X0.here hx rfl (hb hby d1_0) rfl ?_
    show Steps p.tables e below (s₁.setTop (mkF m 1 #[.val (.int (1 : Int32)), .val (.int ch0), .val (.int ch1), .val (.int ch2), .val (.int ch3)] [(.int (1 : Int32))])) _
    refine XS.ifYes X0.here hx rfl (pc0 := 1) (pc' := 15) rfl (hb hby d1_1) rfl ((if0 _ _).trans (feq (by decide : ¬ ((1 : Int32) = (0 : Int32)))).2) (by decide) (by decide) ?_
    show Steps p.tables e below (s₁.setTop (mkF m 15 #[.val (.int (1 : Int32)), .val (.int ch0), .val (.int ch1), .val (.int ch2), .val (.int ch3)] [])) _
    refine XS.iloadN X0.here hx rfl (hb hby d1_15) rfl ?_
    refine XS.iconst X0.here hx rfl (hb hby d1_16) ?_
    show Steps p.tables e below (s₁.setTop (mkF m 17 #[.val (.int (1 : Int32)), .val (.int ch0), .val (.int ch1), .val (.int ch2), .val (.int ch3)] [(.int (1 : Int32)), (.int (1 : Int32))])) _
    refine XS.icmpNo X0.here hx rfl (hb hby d1_17) rfl (teq (by decide : (1 : Int32) = (1 : Int32))).2 ?_
    show Steps p.tables e below (s₁.setTop (mkF m 20 #[.val (.int (1 : Int32)), .val (.int ch0), .val (.int ch1), .val (.int ch2), .val (.int ch3)] [])) _
    refine st1 _ ?_
    show Steps p.tables e below (T1.setTop (mkF m 23 #[.val (.int (1 : Int32)), .val (.int ch0), .val (.int ch1), .val (.int ch2), .val (.int ch3)] [(.ref b1)])) _
    refine XS.dup X1.here hx rfl (hb hby d1_23) rfl rfl ?_
    refine XS.iconst X1.here hx rfl (hb hby d1_24) ?_
    show Steps p.tables e below (T1.setTop (mkF m 25 #[.val (.int (1 : Int32)), .val (.int ch0), .val (.int ch1), .val (.int ch2), .val (.int ch3)] [(.int (1 : Int32)), (.ref b1), (.ref b1)])) _
    refine st3 _ ?_
    show Steps p.tables e below (T3.setTop (mkF m 27 #[.val (.int (1 : Int32)), .val (.int ch0), .val (.int ch1), .val (.int ch2), .val (.int ch3)] [(.ref b3), (.ref b1), (.ref b1)])) _
    refine XS.dup X3.here hx rfl (hb hby d1_27) rfl rfl ?_
    refine XS.iconst X3.here hx rfl (hb hby d1_28) ?_
    show Steps p.tables e below (T3.setTop (mkF m 29 #[.val (.int (1 : Int32)), .val (.int ch0), .val (.int ch1), .val (.int ch2), .val (.int ch3)] [(.int (0 : Int32)), (.ref b3), (.ref b3), (.ref b1), (.ref b1)])) _
    refine XS.iloadN X3.here hx rfl (hb hby d1_29) rfl ?_
    show Steps p.tables e below (T3.setTop (mkF m 30 #[.val (.int (1 : Int32)), .val (.int ch0), .val (.int ch1), .val (.int ch2), .val (.int ch3)] [(.int ch0), (.int (0 : Int32)), (.ref b3), (.ref b3), (.ref b1), (.ref b1)])) _
    refine st6 _ ?_
    show Steps p.tables e below (T6.setTop (mkF m 31 #[.val (.int (1 : Int32)), .val (.int ch0), .val (.int ch1), .val (.int ch2), .val (.int ch3)] [(.ref b3), (.ref b1), (.ref b1)])) _
    refine st9.trans ?_
    show Steps p.tables e below (T9.setTop (mkF m 34 #[.val (.int (1 : Int32)), .val (.int ch0), .val (.int ch1), .val (.int ch2), .val (.int ch3)] [(.ref b1)])) _
    exact X9.areturnOut hx rfl Bd.returns rfl (hb hby d1_34) hr
  · show Q_m1u_1 Z ch0 ch1 ch2 ch3 f x wcs h0 n0 _ T9.heap _
    rw [e9]
    exact ⟨b1, t_9, kt_9, rfl, N9, K19, P9_0, P9_1, P9_2, P9_3, sz_b1⟩
theorem d1_35 : decode method_3_code 35 = .ok (.iload_n 0, 1) := by decide +kernel
theorem d1_36 : decode method_3_code 36 = .ok (.iconst 2, 1) := by decide +kernel
theorem d1_37 : decode method_3_code 37 = .ok (.if_icmp .ne 22, 3) := by decide +kernel
theorem d1_40 : decode method_3_code 40 = .ok (.new 7, 3) := by decide +kernel
theorem d1_43 : decode method_3_code 43 = .ok (.dup, 1) := by decide +kernel
theorem d1_44 : decode method_3_code 44 = .ok (.iconst 2, 1) := by decide +kernel
theorem d1_45 : decode method_3_code 45 = .ok (.newarray .char, 2) := by decide +kernel
theorem d1_47 : decode method_3_code 47 = .ok (.dup, 1) := by decide +kernel
theorem d1_48 : decode method_3_code 48 = .ok (.iconst 0, 1) := by decide +kernel
theorem d1_49 : decode method_3_code 49 = .ok (.iload_n 1, 1) := by decide +kernel
theorem d1_50 : decode method_3_code 50 = .ok (.castore, 1) := by decide +kernel
theorem d1_51 : decode method_3_code 51 = .ok (.dup, 1) := by decide +kernel
theorem d1_52 : decode method_3_code 52 = .ok (.iconst 1, 1) := by decide +kernel
theorem d1_53 : decode method_3_code 53 = .ok (.iload_n 2, 1) := by decide +kernel
theorem d1_54 : decode method_3_code 54 = .ok (.castore, 1) := by decide +kernel
theorem d1_55 : decode method_3_code 55 = .ok (.invokespecial 9, 3) := by decide +kernel
theorem d1_58 : decode method_3_code 58 = .ok (.areturn, 1) := by decide +kernel
def Q_m1l_2 (Z : State) (ch0 : Int32) (ch1 : Int32) (ch2 : Int32) (ch3 : Int32) (wcs : Int32) (h0 : Heap) (n0 : Nat) (v : Option Value) (h : Heap) (L : List Loc) : Prop := ∃ (a : Addr) (t : Addr) (k : ClassId), v = (some (.ref a)) ∧ Fr n0 L ∧ Keep h0 h [] ∧ Exa Z h a "java/lang/String" ∧ Fld Z h a "java/lang/String" "coder" "B" (.int (0 : Int32)) ∧ Fld Z h a "java/lang/String" "value" "[B" (.ref t) ∧ Arv Z h t k .byte (2 : Int32) [(.int (nar .char ch0).toInt8.toInt32), (.int (nar .char ch1).toInt8.toInt32)] (.int (0 : Int32)) ∧ h0.size ≤ a
theorem ef_m1l_2 (m : MethodId) (ch0 : Int32) (ch1 : Int32) (ch2 : Int32) (ch3 : Int32) (wcs : Int32) : entryFrame m #[(.int (2 : Int32)), (.int ch0), (.int ch1), (.int ch2), (.int ch3)] 5 = mkF m 0 #[.val (.int (2 : Int32)), .val (.int ch0), .val (.int ch1), .val (.int ch2), .val (.int ch3)] [] := by first | (simp [entryFrame, mkF, argsToLocals, Value.category]; done) | rfl
set_option maxRecDepth 65536 in
set_option maxHeartbeats 40000000 in
theorem m1l_2 (l : Launch) (Z : State) (a0 : Array Value) (hw : ∀ d ∈ tables_1, d.before a0 Z = true) (ws : List Jvm.Cond) (ch0 : Int32) (ch1 : Int32) (ch2 : Int32) (ch3 : Int32) (wcs : Int32) (h0 : Heap) (n0 : Nat) (Z0 : n0 ≤ h0.size) (S_CS : Sta Z h0 "java/lang/String" "COMPACT_STRINGS" "Z" (.int wcs)) (ncs : ¬ (wcs = (0 : Int32))) (q0 : ¬ (255 : Int32) < nar .char ch0) (q1 : ¬ (255 : Int32) < nar .char ch1) :
    MetFree l (⟨"com/example/grantline/grantline/authz/UnreservedMatchesPinLaw", "build", "(ICCCC)Ljava/lang/String;"⟩ : MethodName) (head1 (Jvm.Cond.code (⟨"com/example/grantline/grantline/authz/UnreservedMatchesPinLaw", "build", "(ICCCC)Ljava/lang/String;"⟩ : MethodName) method_3_code 5 (some (.object "java/lang/String")) :: ws) ({ frames := 4, cells := 3, slots := 8, locals := 66 } : Room)) (fun ar_ U => ar_ = #[(.int (2 : Int32)), (.int ch0), (.int ch1), (.int ch2), (.int ch3)] ∧ Z.Warmed39 U.vm ∧ U.heap = h0) (fun _ _ _ _ _ => True) (fun _ U o U' => ∃ v L, o = .returned v ∧ Q_m1l_2 Z ch0 ch1 ch2 ch3 wcs h0 n0 v U'.heap L ∧ FrameEnd U o U' L ({ frames := 4, cells := 3, slots := 8, locals := 66 } : Room).cells ({ frames := 4, cells := 3, slots := 8, locals := 66 } : Room).slots) := by
  refine MetFree.of_bodySF (plainFor_of_name pnx_com_example_grantline_grantline_authz_UnreservedMatchesPinLaw) hisR ?_
  intro p e s m args below meth c s₁ Bd hml0 hP hK
  obtain ⟨rfl, hZ, hh⟩ := hP
  have hx := Bd.exec
  have hby := Bd.bytes
  have hml : c.maxLocals = 5 := hml0
  have hown : s.vm.findClass "com/example/grantline/grantline/authz/UnreservedMatchesPinLaw" = some m.cls := findClass_of_methodNamed Bd.named
  have hnm := (name_of_methodNamed Bd.named Bd.method).1
  have X0 : Stand p l e ({ frames := 4, cells := 3, slots := 8, locals := 66 } : Room) s m #[(.int (2 : Int32)), (.int ch0), (.int ch1), (.int ch2), (.int ch3)] below meth c s₁ [] 0 0 := Stand.of_body Bd
  have e0 : s₁.heap = h0 := by rw [← hh, Bd.state]; rfl
  have N0 := Fr.nil n0
  have pre0 : ∀ tq_, Steps p.tables e below (s₁.setTop (mkF m 0 #[.val (.int (2 : Int32)), .val (.int ch0), .val (.int ch1), .val (.int ch2), .val (.int ch3)] [])) tq_ → Steps p.tables e below (s₁.setTop (entryFrame m #[(.int (2 : Int32)), (.int ch0), (.int ch1), (.int ch2), (.int ch3)] 5)) tq_ := fun tq_ kt_ => castTop (ef_m1l_2 m ch0 ch1 ch2 ch3 wcs ) kt_
  obtain ⟨T1, h1, X1, e1, E1, A1, D1, -, st1⟩ := newO X0 hx hZ hown (wk hw 6 rfl) (wk hw 7 rfl) (wk hw 8 rfl) e0 (g := (mkF m 40 #[.val (.int (2 : Int32)), .val (.int ch0), .val (.int ch1), .val (.int ch2), .val (.int ch3)] [])) rfl (hb hby d1_40) (nle rfl) (nle rfl)
  obtain ⟨b1, g1⟩ : ∃ z, z = h0.size := ⟨_, rfl⟩
  rw [← g1] at A1 D1 st1
  have sz_b1 : h0.size ≤ b1 := (Nat.le_of_eq g1.symm)
  have ge_b1 : n0 ≤ b1 := Nat.le_trans Z0 sz_b1
  have K2 : Keep h0 h1 [] := (Keep.refl h0 []).ext E1
  have D1_value := D1 (Or.inr (wk hw 22 rfl)) (ty := (.array .byte)) (by decide)
  have D1_coder := D1 (Or.inr (wk hw 23 rfl)) (ty := .byte) (by decide)
  obtain ⟨T3, h3, k3, X3, e3, E3, A3, st3⟩ := newP X1 hx hZ (wk hw 9 rfl) e1 (g := (mkF m 45 #[.val (.int (2 : Int32)), .val (.int ch0), .val (.int ch1), .val (.int ch2), .val (.int ch3)] [(.int (2 : Int32)), (.ref b1), (.ref b1)])) rfl (hb hby d1_45) rfl (by decide) (cap := 2) (by decide) (by decide) (nle rfl) (nle rfl)
  obtain ⟨b3, g3⟩ : ∃ z, z = h1.size := ⟨_, rfl⟩
  rw [← g3] at A3 st3
  have V3 : Arv Z h3 b3 k3 .char (2 : Int32) [] (.int (0 : Int32)) := Arv.new A3 (by decide)
  have sz_b3 : h0.size ≤ b3 := Nat.le_trans K2.1 (Nat.le_of_eq g3.symm)
  have ge_b3 : n0 ≤ b3 := Nat.le_trans Z0 sz_b3
  have ne_4 : b1 ≠ b3 := Nat.ne_of_lt (Nat.lt_of_lt_of_le A1.lt (Nat.le_of_eq g3.symm))
  have K5 : Keep h0 h3 [] := K2.ext E3
  have V7 : Arv Z h3 b3 k3 .char (2 : Int32) [(.int (0 : Int32))] (.int (0 : Int32)) := V3.pad (pad_rep [] (.int (0 : Int32)) 1)
  obtain ⟨c6, A6, q6, S6, M6, H6, U6⟩ := id V7
  obtain ⟨T6, h6, X6, e6, W6, st6⟩ := stC X3 hx hZ e3 A6 (j := (0 : Int32)) (inb_of S6 ⟨(by decide : ¬ ((0 : Int32) < (0 : Int32))), (by decide : (0 : Int32) < (2 : Int32))⟩) (g := (mkF m 50 #[.val (.int (2 : Int32)), .val (.int ch0), .val (.int ch1), .val (.int ch2), .val (.int ch3)] [(.int ch0), (.int (0 : Int32)), (.ref b3), (.ref b3), (.ref b1), (.ref b1)])) rfl rfl (hb hby d1_50)
  have N6 := Fr.snoc X6 N0 ge_b3
  have V6 : Arv Z h6 b3 k3 .char (2 : Int32) [(.int (nar .char ch0))] (.int (0 : Int32)) := Arv.set A6 q6 S6 M6 H6 U6 (fits_nar_char _) W6 0 rfl (nle rfl)
  have K8 : Keep h0 h6 [] := K5.wr W6 (Or.inr sz_b3)
  have V10 : Arv Z h6 b3 k3 .char (2 : Int32) [(.int (nar .char ch0)), (.int (0 : Int32))] (.int (0 : Int32)) := V6.pad (pad_rep [(.int (nar .char ch0))] (.int (0 : Int32)) 1)
  obtain ⟨c9, A9, q9, S9, M9, H9, U9⟩ := id V10
  obtain ⟨T9, h9, X9, e9, W9, st9⟩ := stC X6 hx hZ e6 A9 (j := (1 : Int32)) (inb_of S9 ⟨(by decide : ¬ ((1 : Int32) < (0 : Int32))), (by decide : (1 : Int32) < (2 : Int32))⟩) (g := (mkF m 54 #[.val (.int (2 : Int32)), .val (.int ch0), .val (.int ch1), .val (.int ch2), .val (.int ch3)] [(.int ch1), (.int (1 : Int32)), (.ref b3), (.ref b3), (.ref b1), (.ref b1)])) rfl rfl (hb hby d1_54)
  have N9 := Fr.snoc X9 N6 ge_b3
  have V9 : Arv Z h9 b3 k3 .char (2 : Int32) [(.int (nar .char ch0)), (.int (nar .char ch1))] (.int (0 : Int32)) := Arv.set A9 q9 S9 M9 H9 U9 (fits_nar_char _) W9 1 rfl (nle rfl)
  have K11 : Keep h0 h9 [] := K8.wr W9 (Or.inr sz_b3)
  have F13 := (((A1.ext E3).wr W6).wr W9)
  have F14 := (((D1_value.ext E3).other W6 (Or.inl ne_4)).other W9 (Or.inl ne_4))
  have F15 := (((D1_coder.ext E3).other W6 (Or.inl ne_4)).other W9 (Or.inl ne_4))
  have F16 := ((((S_CS.ext E1).ext E3).wr W6).wr W9)
  have hws : ∀ d ∈ StrChars.Road.words, d.before a0 Z = true := fun d hd => hw d ((by decide +kernel : ∀ d ∈ StrChars.Road.words, d ∈ tables_1) d hd)
  have Vc12 : Arv Z h9 b3 k3 .char (2 : Int32) (([(nar .char ch0), (nar .char ch1)] : List Int32).map Value.int) (.int (0 : Int32)) := V9
  have hp : ∀ c ∈ ([(nar .char ch0), (nar .char ch1)] : List Int32), ¬ c < 0 ∧ ¬ (255 : Int32) < c := (own_mS ⟨own_nneg _ (own_is_i2c _), q0⟩ (own_mS ⟨own_nneg _ (own_is_i2c _), q1⟩ own_m0))
  obtain ⟨_, _, ⟨T12, L12, kk12, nn12⟩, -, X12, ⟨Lc12, hQ12, l12, y12, z12⟩, st12⟩ := X9.specialBack hx (y := (⟨"java/lang/String", "<init>", "([C)V"⟩ : MethodName)) rfl hown (mvT hZ (wk hw 10 rfl)) (mvT hZ (wk hw 11 rfl)) (mvT hZ (wk hw 12 rfl)) (by decide) (StrChars.Road.backV (W := 1) hZ hws (kI := 4) (wk hw 7 rfl) (cs := ([(nar .char ch0), (nar .char ch1)] : List Int32)) (bs := ([(nar .char ch0), (nar .char ch1)] : List Int32).map (fun c => c.toInt8.toInt32)) (n := 2) ge_b1 (Nat.le_trans Z0 K11.1) F13 F14 F15 Vc12 F16 ncs rfl rfl (by decide) (by decide) hp rfl (by decide) (by decide)) (g := (mkF m 55 #[.val (.int (2 : Int32)), .val (.int ch0), .val (.int ch1), .val (.int ch2), .val (.int ch3)] [(.ref b3), (.ref b1), (.ref b1)])) rfl (by rw [hml]; rfl) (Steps.refl _) (a := b1) (argsL := [(.ref b3)]) (rest := [(.ref b1)]) (lenOf pdx___C_V rfl) rfl (by show 2 * 0 + _ ≤ _; exact Nat.le_of_eq rfl) (hb hby d1_55) (fun _ _ => ⟨rfl, e9, nle rfl, nle rfl⟩)
  dsimp only [Pt.U, Pt.locs, Pt.cells, Pt.slots] at X12 l12 y12 z12 st12 hQ12
  subst l12 y12 z12
  obtain ⟨rfl, Nq12, Kq12, Ex12, Fc12, t12, kb12, -, fr12, -, Fv12, Av12⟩ := hQ12
  have N12 := Fr.app N9 Nq12
  obtain ⟨h12, e12⟩ : ∃ h, T12.heap = h := ⟨_, rfl⟩
  rw [e12] at Kq12 Ex12 Fc12 Fv12 Av12
  have sz_t12 : h0.size ≤ t12 := Nat.le_trans K11.1 fr12
  have ge_t12 : n0 ≤ t12 := Nat.le_trans Z0 sz_t12
  have ne_17 : b1 ≠ t12 := Nat.ne_of_lt (Nat.lt_of_lt_of_le F13.lt fr12)
  have ne_18 : b3 ≠ t12 := Nat.ne_of_lt (Nat.lt_of_lt_of_le V9.lt fr12)
  have K19 : Keep h0 h12 [] := K11.trans Kq12 (own_mS (Or.inr sz_b1) own_m0)
  have Av12 : Arv Z h12 t12 kb12 .byte (2 : Int32) [(.int (nar .char ch0).toInt8.toInt32), (.int (nar .char ch1).toInt8.toInt32)] (.int (0 : Int32)) := Av12
  obtain ⟨fs, hr, hrun, hended, hW, hsame⟩ := X12.leave (v := some (.ref b1)) (fun h => by rw [Bd.returns] at h; cases h)
  refine ⟨_, _, pre0 _ ?_, hrun, hended, _, _, rfl, ?_, ⟨_, rfl⟩, hW, hsame.mono (nle rfl) (nle rfl)⟩
  · show Steps p.tables e below (s₁.setTop (mkF m 0 #[.val (.int (2 : Int32)), .val (.int ch0), .val (.int ch1), .val (.int ch2), .val (.int ch3)] [])) _
    refine XS.iloadN X0.here hx rfl (hb hby d1_0) rfl ?_
    show Steps p.tables e below (s₁.setTop (mkF m 1 #[.val (.int (2 : Int32)), .val (.int ch0), .val (.int ch1), .val (.int ch2), .val (.int ch3)] [(.int (2 : Int32))])) _
    refine XS.ifYes X0.here hx rfl (pc0 := 1) (pc' := 15) rfl (hb hby d1_1) rfl ((if0 _ _).trans (feq (by decide : ¬ ((2 : Int32) = (0 : Int32)))).2) (by decide) (by decide) ?_
    show Steps p.tables e below (s₁.setTop (mkF m 15 #[.val (.int (2 : Int32)), .val (.int ch0), .val (.int ch1), .val (.int ch2), .val (.int ch3)] [])) _
    refine XS.iloadN X0.here hx rfl (hb hby d1_15) rfl ?_
    refine XS.iconst X0.here hx rfl (hb hby d1_16) ?_
    show Steps p.tables e below (s₁.setTop (mkF m 17 #[.val (.int (2 : Int32)), .val (.int ch0), .val (.int ch1), .val (.int ch2), .val (.int ch3)] [(.int (1 : Int32)), (.int (2 : Int32))])) _
    refine XS.icmpYes X0.here hx rfl (pc0 := 17) (pc' := 35) rfl (hb hby d1_17) rfl (feq (by decide : ¬ ((2 : Int32) = (1 : Int32)))).2 (by decide) (by decide) ?_
    show Steps p.tables e below (s₁.setTop (mkF m 35 #[.val (.int (2 : Int32)), .val (.int ch0), .val (.int ch1), .val (.int ch2), .val (.int ch3)] [])) _
    refine XS.iloadN X0.here hx rfl (hb hby d1_35) rfl ?_
    refine XS.iconst X0.here hx rfl (hb hby d1_36) ?_
    show Steps p.tables e below (s₁.setTop (mkF m 37 #[.val (.int (2 : Int32)), .val (.int ch0), .val (.int ch1), .val (.int ch2), .val (.int ch3)] [(.int (2 : Int32)), (.int (2 : Int32))])) _
    refine XS.icmpNo X0.here hx rfl (hb hby d1_37) rfl (teq (by decide : (2 : Int32) = (2 : Int32))).2 ?_
    show Steps p.tables e below (s₁.setTop (mkF m 40 #[.val (.int (2 : Int32)), .val (.int ch0), .val (.int ch1), .val (.int ch2), .val (.int ch3)] [])) _
    refine st1 _ ?_
    show Steps p.tables e below (T1.setTop (mkF m 43 #[.val (.int (2 : Int32)), .val (.int ch0), .val (.int ch1), .val (.int ch2), .val (.int ch3)] [(.ref b1)])) _
    refine XS.dup X1.here hx rfl (hb hby d1_43) rfl rfl ?_
    refine XS.iconst X1.here hx rfl (hb hby d1_44) ?_
    show Steps p.tables e below (T1.setTop (mkF m 45 #[.val (.int (2 : Int32)), .val (.int ch0), .val (.int ch1), .val (.int ch2), .val (.int ch3)] [(.int (2 : Int32)), (.ref b1), (.ref b1)])) _
    refine st3 _ ?_
    show Steps p.tables e below (T3.setTop (mkF m 47 #[.val (.int (2 : Int32)), .val (.int ch0), .val (.int ch1), .val (.int ch2), .val (.int ch3)] [(.ref b3), (.ref b1), (.ref b1)])) _
    refine XS.dup X3.here hx rfl (hb hby d1_47) rfl rfl ?_
    refine XS.iconst X3.here hx rfl (hb hby d1_48) ?_
    show Steps p.tables e below (T3.setTop (mkF m 49 #[.val (.int (2 : Int32)), .val (.int ch0), .val (.int ch1), .val (.int ch2), .val (.int ch3)] [(.int (0 : Int32)), (.ref b3), (.ref b3), (.ref b1), (.ref b1)])) _
    refine XS.iloadN X3.here hx rfl (hb hby d1_49) rfl ?_
    show Steps p.tables e below (T3.setTop (mkF m 50 #[.val (.int (2 : Int32)), .val (.int ch0), .val (.int ch1), .val (.int ch2), .val (.int ch3)] [(.int ch0), (.int (0 : Int32)), (.ref b3), (.ref b3), (.ref b1), (.ref b1)])) _
    refine st6 _ ?_
    show Steps p.tables e below (T6.setTop (mkF m 51 #[.val (.int (2 : Int32)), .val (.int ch0), .val (.int ch1), .val (.int ch2), .val (.int ch3)] [(.ref b3), (.ref b1), (.ref b1)])) _
    refine XS.dup X6.here hx rfl (hb hby d1_51) rfl rfl ?_
    refine XS.iconst X6.here hx rfl (hb hby d1_52) ?_
    show Steps p.tables e below (T6.setTop (mkF m 53 #[.val (.int (2 : Int32)), .val (.int ch0), .val (.int ch1), .val (.int ch2), .val (.int ch3)] [(.int (1 : Int32)), (.ref b3), (.ref b3), (.ref b1), (.ref b1)])) _
    refine XS.iloadN X6.here hx rfl (hb hby d1_53) rfl ?_
    show Steps p.tables e below (T6.setTop (mkF m 54 #[.val (.int (2 : Int32)), .val (.int ch0), .val (.int ch1), .val (.int ch2), .val (.int ch3)] [(.int ch1), (.int (1 : Int32)), (.ref b3), (.ref b3), (.ref b1), (.ref b1)])) _
    refine st9 _ ?_
    show Steps p.tables e below (T9.setTop (mkF m 55 #[.val (.int (2 : Int32)), .val (.int ch0), .val (.int ch1), .val (.int ch2), .val (.int ch3)] [(.ref b3), (.ref b1), (.ref b1)])) _
    refine st12.trans ?_
    show Steps p.tables e below (T12.setTop (mkF m 58 #[.val (.int (2 : Int32)), .val (.int ch0), .val (.int ch1), .val (.int ch2), .val (.int ch3)] [(.ref b1)])) _
    exact X12.areturnOut hx rfl Bd.returns rfl (hb hby d1_58) hr
  · show Q_m1l_2 Z ch0 ch1 ch2 ch3 wcs h0 n0 _ T12.heap _
    rw [e12]
    exact ⟨b1, t12, kb12, rfl, N12, K19, Ex12, Fc12, Fv12, Av12, sz_b1⟩
def Q_m1u_2 (Z : State) (ch0 : Int32) (ch1 : Int32) (ch2 : Int32) (ch3 : Int32) (f : Int32) (x : Int32) (wcs : Int32) (h0 : Heap) (n0 : Nat) (v : Option Value) (h : Heap) (L : List Loc) : Prop := ∃ (a : Addr) (t : Addr) (k : ClassId), v = (some (.ref a)) ∧ Fr n0 L ∧ Keep h0 h [] ∧ Exa Z h a "java/lang/String" ∧ Fld Z h a "java/lang/String" "coder" "B" (.int (1 : Int32)) ∧ Fld Z h a "java/lang/String" "value" "[B" (.ref t) ∧ Arv Z h t k .byte (4 : Int32) [(.int (own_b0 (nar .char ch0))), (.int (own_b1 (nar .char ch0))), (.int (own_b0 (nar .char ch1))), (.int (own_b1 (nar .char ch1)))] (.int (0 : Int32)) ∧ h0.size ≤ a
theorem ef_m1u_2 (m : MethodId) (ch0 : Int32) (ch1 : Int32) (ch2 : Int32) (ch3 : Int32) (f : Int32) (x : Int32) (wcs : Int32) : entryFrame m #[(.int (2 : Int32)), (.int ch0), (.int ch1), (.int ch2), (.int ch3)] 5 = mkF m 0 #[.val (.int (2 : Int32)), .val (.int ch0), .val (.int ch1), .val (.int ch2), .val (.int ch3)] [] := by first | (simp [entryFrame, mkF, argsToLocals, Value.category]; done) | rfl
set_option maxRecDepth 65536 in
set_option maxHeartbeats 40000000 in
theorem m1u_2 (l : Launch) (Z : State) (a0 : Array Value) (hw : ∀ d ∈ tables_1, d.before a0 Z = true) (ws : List Jvm.Cond) (ch0 : Int32) (ch1 : Int32) (ch2 : Int32) (ch3 : Int32) (f : Int32) (x : Int32) (wcs : Int32) (h0 : Heap) (n0 : Nat) (Z0 : n0 ≤ h0.size) (S_CS : Sta Z h0 "java/lang/String" "COMPACT_STRINGS" "Z" (.int wcs)) (ncs : ¬ (wcs = (0 : Int32))) (S_AD : Sta Z h0 "java/lang/StringUTF16" "$assertionsDisabled" "Z" (.int (1 : Int32))) (S_HI : Sta Z h0 "java/lang/StringUTF16" "HI_BYTE_SHIFT" "I" (.int (0 : Int32))) (S_LO : Sta Z h0 "java/lang/StringUTF16" "LO_BYTE_SHIFT" "I" (.int (8 : Int32))) (hT : own_T (2 : Int32) [(.int (nar .char ch0)), (.int (nar .char ch1))] (4 : Int32) [(.int (own_b0 (nar .char ch0))), (.int (own_b1 (nar .char ch0))), (.int (own_b0 (nar .char ch1))), (.int (own_b1 (nar .char ch1)))] f x) (hu : own_u (own_b0 x) (own_b1 x) = x) :
    MetFree l (⟨"com/example/grantline/grantline/authz/UnreservedMatchesPinLaw", "build", "(ICCCC)Ljava/lang/String;"⟩ : MethodName) (head1 (Jvm.Cond.code (⟨"com/example/grantline/grantline/authz/UnreservedMatchesPinLaw", "build", "(ICCCC)Ljava/lang/String;"⟩ : MethodName) method_3_code 5 (some (.object "java/lang/String")) :: ws) ({ frames := 6, cells := 4, slots := 18, locals := 88 } : Room)) (fun ar_ U => ar_ = #[(.int (2 : Int32)), (.int ch0), (.int ch1), (.int ch2), (.int ch3)] ∧ Z.Warmed39 U.vm ∧ U.heap = h0) (fun _ _ _ _ _ => True) (fun _ U o U' => ∃ v L, o = .returned v ∧ Q_m1u_2 Z ch0 ch1 ch2 ch3 f x wcs h0 n0 v U'.heap L ∧ FrameEnd U o U' L ({ frames := 6, cells := 4, slots := 18, locals := 88 } : Room).cells ({ frames := 6, cells := 4, slots := 18, locals := 88 } : Room).slots) := by
  refine MetFree.of_bodySF (plainFor_of_name pnx_com_example_grantline_grantline_authz_UnreservedMatchesPinLaw) hisR ?_
  intro p e s m args below meth c s₁ Bd hml0 hP hK
  obtain ⟨rfl, hZ, hh⟩ := hP
  have hx := Bd.exec
  have hby := Bd.bytes
  have hml : c.maxLocals = 5 := hml0
  have hown : s.vm.findClass "com/example/grantline/grantline/authz/UnreservedMatchesPinLaw" = some m.cls := findClass_of_methodNamed Bd.named
  have hnm := (name_of_methodNamed Bd.named Bd.method).1
  have X0 : Stand p l e ({ frames := 6, cells := 4, slots := 18, locals := 88 } : Room) s m #[(.int (2 : Int32)), (.int ch0), (.int ch1), (.int ch2), (.int ch3)] below meth c s₁ [] 0 0 := Stand.of_body Bd
  have e0 : s₁.heap = h0 := by rw [← hh, Bd.state]; rfl
  have N0 := Fr.nil n0
  have pre0 : ∀ tq_, Steps p.tables e below (s₁.setTop (mkF m 0 #[.val (.int (2 : Int32)), .val (.int ch0), .val (.int ch1), .val (.int ch2), .val (.int ch3)] [])) tq_ → Steps p.tables e below (s₁.setTop (entryFrame m #[(.int (2 : Int32)), (.int ch0), (.int ch1), (.int ch2), (.int ch3)] 5)) tq_ := fun tq_ kt_ => castTop (ef_m1u_2 m ch0 ch1 ch2 ch3 f x wcs ) kt_
  obtain ⟨T1, h1, X1, e1, E1, A1, D1, -, st1⟩ := newO X0 hx hZ hown (wk hw 6 rfl) (wk hw 7 rfl) (wk hw 8 rfl) e0 (g := (mkF m 40 #[.val (.int (2 : Int32)), .val (.int ch0), .val (.int ch1), .val (.int ch2), .val (.int ch3)] [])) rfl (hb hby d1_40) (nle rfl) (nle rfl)
  obtain ⟨b1, g1⟩ : ∃ z, z = h0.size := ⟨_, rfl⟩
  rw [← g1] at A1 D1 st1
  have sz_b1 : h0.size ≤ b1 := (Nat.le_of_eq g1.symm)
  have ge_b1 : n0 ≤ b1 := Nat.le_trans Z0 sz_b1
  have K2 : Keep h0 h1 [] := (Keep.refl h0 []).ext E1
  have D1_value := D1 (Or.inr (wk hw 22 rfl)) (ty := (.array .byte)) (by decide)
  have D1_coder := D1 (Or.inr (wk hw 23 rfl)) (ty := .byte) (by decide)
  obtain ⟨T3, h3, k3, X3, e3, E3, A3, st3⟩ := newP X1 hx hZ (wk hw 9 rfl) e1 (g := (mkF m 45 #[.val (.int (2 : Int32)), .val (.int ch0), .val (.int ch1), .val (.int ch2), .val (.int ch3)] [(.int (2 : Int32)), (.ref b1), (.ref b1)])) rfl (hb hby d1_45) rfl (by decide) (cap := 2) (by decide) (by decide) (nle rfl) (nle rfl)
  obtain ⟨b3, g3⟩ : ∃ z, z = h1.size := ⟨_, rfl⟩
  rw [← g3] at A3 st3
  have V3 : Arv Z h3 b3 k3 .char (2 : Int32) [] (.int (0 : Int32)) := Arv.new A3 (by decide)
  have sz_b3 : h0.size ≤ b3 := Nat.le_trans K2.1 (Nat.le_of_eq g3.symm)
  have ge_b3 : n0 ≤ b3 := Nat.le_trans Z0 sz_b3
  have ne_4 : b1 ≠ b3 := Nat.ne_of_lt (Nat.lt_of_lt_of_le A1.lt (Nat.le_of_eq g3.symm))
  have K5 : Keep h0 h3 [] := K2.ext E3
  have V7 : Arv Z h3 b3 k3 .char (2 : Int32) [(.int (0 : Int32))] (.int (0 : Int32)) := V3.pad (pad_rep [] (.int (0 : Int32)) 1)
  obtain ⟨c6, A6, q6, S6, M6, H6, U6⟩ := id V7
  obtain ⟨T6, h6, X6, e6, W6, st6⟩ := stC X3 hx hZ e3 A6 (j := (0 : Int32)) (inb_of S6 ⟨(by decide : ¬ ((0 : Int32) < (0 : Int32))), (by decide : (0 : Int32) < (2 : Int32))⟩) (g := (mkF m 50 #[.val (.int (2 : Int32)), .val (.int ch0), .val (.int ch1), .val (.int ch2), .val (.int ch3)] [(.int ch0), (.int (0 : Int32)), (.ref b3), (.ref b3), (.ref b1), (.ref b1)])) rfl rfl (hb hby d1_50)
  have N6 := Fr.snoc X6 N0 ge_b3
  have V6 : Arv Z h6 b3 k3 .char (2 : Int32) [(.int (nar .char ch0))] (.int (0 : Int32)) := Arv.set A6 q6 S6 M6 H6 U6 (fits_nar_char _) W6 0 rfl (nle rfl)
  have K8 : Keep h0 h6 [] := K5.wr W6 (Or.inr sz_b3)
  have V10 : Arv Z h6 b3 k3 .char (2 : Int32) [(.int (nar .char ch0)), (.int (0 : Int32))] (.int (0 : Int32)) := V6.pad (pad_rep [(.int (nar .char ch0))] (.int (0 : Int32)) 1)
  obtain ⟨c9, A9, q9, S9, M9, H9, U9⟩ := id V10
  obtain ⟨T9, h9, X9, e9, W9, st9⟩ := stC X6 hx hZ e6 A9 (j := (1 : Int32)) (inb_of S9 ⟨(by decide : ¬ ((1 : Int32) < (0 : Int32))), (by decide : (1 : Int32) < (2 : Int32))⟩) (g := (mkF m 54 #[.val (.int (2 : Int32)), .val (.int ch0), .val (.int ch1), .val (.int ch2), .val (.int ch3)] [(.int ch1), (.int (1 : Int32)), (.ref b3), (.ref b3), (.ref b1), (.ref b1)])) rfl rfl (hb hby d1_54)
  have N9 := Fr.snoc X9 N6 ge_b3
  have V9 : Arv Z h9 b3 k3 .char (2 : Int32) [(.int (nar .char ch0)), (.int (nar .char ch1))] (.int (0 : Int32)) := Arv.set A9 q9 S9 M9 H9 U9 (fits_nar_char _) W9 1 rfl (nle rfl)
  have K11 : Keep h0 h9 [] := K8.wr W9 (Or.inr sz_b3)
  have F13 := (((A1.ext E3).wr W6).wr W9)
  have F14 := (((D1_value.ext E3).other W6 (Or.inl ne_4)).other W9 (Or.inl ne_4))
  have F15 := (((D1_coder.ext E3).other W6 (Or.inl ne_4)).other W9 (Or.inl ne_4))
  have F16 := ((((S_CS.ext E1).ext E3).wr W6).wr W9)
  have F17 := ((((S_AD.ext E1).ext E3).wr W6).wr W9)
  have F18 := ((((S_HI.ext E1).ext E3).wr W6).wr W9)
  have F19 := ((((S_LO.ext E1).ext E3).wr W6).wr W9)
  obtain ⟨_, _, ⟨T12, L12, kk12, nn12⟩, -, X12, ⟨Lc12, hQ12, l12, y12, z12⟩, st12⟩ := X9.specialBack hx (y := (⟨"java/lang/String", "<init>", "([C)V"⟩ : MethodName)) rfl hown (mvT hZ (wk hw 10 rfl)) (mvT hZ (wk hw 11 rfl)) (mvT hZ (wk hw 12 rfl)) (by decide) (backOf (W := 1) (m2u l Z a0 hw [] b1 .null (.int (0 : Int32)) b3 k3 (2 : Int32) [(.int (nar .char ch0)), (.int (nar .char ch1))] (4 : Int32) [(.int (own_b0 (nar .char ch0))), (.int (own_b1 (nar .char ch0))), (.int (own_b0 (nar .char ch1))), (.int (own_b1 (nar .char ch1)))] f x wcs h9 n0 (Nat.le_trans Z0 K11.1) F13 F14 F15 ge_b1 V9 F16 ncs F17 F18 F19 hT hu (by decide)) hZ (wk hw 12 rfl) (wk hw 8 rfl) (by decide) (by decide)) (g := (mkF m 55 #[.val (.int (2 : Int32)), .val (.int ch0), .val (.int ch1), .val (.int ch2), .val (.int ch3)] [(.ref b3), (.ref b1), (.ref b1)])) rfl (by rw [hml]; rfl) (Steps.refl _) (a := b1) (argsL := [(.ref b3)]) (rest := [(.ref b1)]) (lenOf pdx___C_V rfl) rfl (by show 2 * 0 + _ ≤ _; exact Nat.le_of_eq rfl) (hb hby d1_55) (fun _ _ => ⟨rfl, e9, nle rfl, nle rfl⟩)
  dsimp only [Pt.U, Pt.locs, Pt.cells, Pt.slots] at X12 l12 y12 z12 st12 hQ12
  subst l12 y12 z12
  obtain ⟨t_12, kt_12, rfl, Nq12, Kq12, P12_0, P12_1, P12_2, P12_3, P12_4⟩ := hQ12
  have N12 := Fr.app N9 Nq12
  obtain ⟨h12, e12⟩ : ∃ h, T12.heap = h := ⟨_, rfl⟩
  rw [e12] at Kq12 P12_0 P12_1 P12_2 P12_3
  have sz_t_12 : h0.size ≤ t_12 := Nat.le_trans K11.1 P12_4
  have ge_t_12 : n0 ≤ t_12 := Nat.le_trans Z0 sz_t_12
  have ne_20 : b1 ≠ t_12 := Nat.ne_of_lt (Nat.lt_of_lt_of_le F13.lt P12_4)
  have ne_21 : b3 ≠ t_12 := Nat.ne_of_lt (Nat.lt_of_lt_of_le V9.lt P12_4)
  have ns12 := (nsS F13.nostat ns0)
  have K22 : Keep h0 h12 [] := K11.trans Kq12 (own_mS (Or.inr sz_b1) own_m0)
  obtain ⟨fs, hr, hrun, hended, hW, hsame⟩ := X12.leave (v := some (.ref b1)) (fun h => by rw [Bd.returns] at h; cases h)
  refine ⟨_, _, pre0 _ ?_, hrun, hended, _, _, rfl, ?_, ⟨_, rfl⟩, hW, hsame.mono (nle rfl) (nle rfl)⟩
  · show Steps p.tables e below (s₁.setTop (mkF m 0 #[.val (.int (2 : Int32)), .val (.int ch0), .val (.int ch1), .val (.int ch2), .val (.int ch3)] [])) _
    refine XS.iloadN X0.here hx rfl (hb hby d1_0) rfl ?_
    show Steps p.tables e below (s₁.setTop (mkF m 1 #[.val (.int (2 : Int32)), .val (.int ch0), .val (.int ch1), .val (.int ch2), .val (.int ch3)] [(.int (2 : Int32))])) _
    refine XS.ifYes X0.here hx rfl (pc0 := 1) (pc' := 15) rfl (hb hby d1_1) rfl ((if0 _ _).trans (feq (by decide : ¬ ((2 : Int32) = (0 : Int32)))).2) (by decide) (by decide) ?_
    show Steps p.tables e below (s₁.setTop (mkF m 15 #[.val (.int (2 : Int32)), .val (.int ch0), .val (.int ch1), .val (.int ch2), .val (.int ch3)] [])) _
    refine XS.iloadN X0.here hx rfl (hb hby d1_15) rfl ?_
    refine XS.iconst X0.here hx rfl (hb hby d1_16) ?_
    show Steps p.tables e below (s₁.setTop (mkF m 17 #[.val (.int (2 : Int32)), .val (.int ch0), .val (.int ch1), .val (.int ch2), .val (.int ch3)] [(.int (1 : Int32)), (.int (2 : Int32))])) _
    refine XS.icmpYes X0.here hx rfl (pc0 := 17) (pc' := 35) rfl (hb hby d1_17) rfl (feq (by decide : ¬ ((2 : Int32) = (1 : Int32)))).2 (by decide) (by decide) ?_
    show Steps p.tables e below (s₁.setTop (mkF m 35 #[.val (.int (2 : Int32)), .val (.int ch0), .val (.int ch1), .val (.int ch2), .val (.int ch3)] [])) _
    refine XS.iloadN X0.here hx rfl (hb hby d1_35) rfl ?_
    refine XS.iconst X0.here hx rfl (hb hby d1_36) ?_
    show Steps p.tables e below (s₁.setTop (mkF m 37 #[.val (.int (2 : Int32)), .val (.int ch0), .val (.int ch1), .val (.int ch2), .val (.int ch3)] [(.int (2 : Int32)), (.int (2 : Int32))])) _
    refine XS.icmpNo X0.here hx rfl (hb hby d1_37) rfl (teq (by decide : (2 : Int32) = (2 : Int32))).2 ?_
    show Steps p.tables e below (s₁.setTop (mkF m 40 #[.val (.int (2 : Int32)), .val (.int ch0), .val (.int ch1), .val (.int ch2), .val (.int ch3)] [])) _
    refine st1 _ ?_
    show Steps p.tables e below (T1.setTop (mkF m 43 #[.val (.int (2 : Int32)), .val (.int ch0), .val (.int ch1), .val (.int ch2), .val (.int ch3)] [(.ref b1)])) _
    refine XS.dup X1.here hx rfl (hb hby d1_43) rfl rfl ?_
    refine XS.iconst X1.here hx rfl (hb hby d1_44) ?_
    show Steps p.tables e below (T1.setTop (mkF m 45 #[.val (.int (2 : Int32)), .val (.int ch0), .val (.int ch1), .val (.int ch2), .val (.int ch3)] [(.int (2 : Int32)), (.ref b1), (.ref b1)])) _
    refine st3 _ ?_
    show Steps p.tables e below (T3.setTop (mkF m 47 #[.val (.int (2 : Int32)), .val (.int ch0), .val (.int ch1), .val (.int ch2), .val (.int ch3)] [(.ref b3), (.ref b1), (.ref b1)])) _
    refine XS.dup X3.here hx rfl (hb hby d1_47) rfl rfl ?_
    refine XS.iconst X3.here hx rfl (hb hby d1_48) ?_
    show Steps p.tables e below (T3.setTop (mkF m 49 #[.val (.int (2 : Int32)), .val (.int ch0), .val (.int ch1), .val (.int ch2), .val (.int ch3)] [(.int (0 : Int32)), (.ref b3), (.ref b3), (.ref b1), (.ref b1)])) _
    refine XS.iloadN X3.here hx rfl (hb hby d1_49) rfl ?_
    show Steps p.tables e below (T3.setTop (mkF m 50 #[.val (.int (2 : Int32)), .val (.int ch0), .val (.int ch1), .val (.int ch2), .val (.int ch3)] [(.int ch0), (.int (0 : Int32)), (.ref b3), (.ref b3), (.ref b1), (.ref b1)])) _
    refine st6 _ ?_
    show Steps p.tables e below (T6.setTop (mkF m 51 #[.val (.int (2 : Int32)), .val (.int ch0), .val (.int ch1), .val (.int ch2), .val (.int ch3)] [(.ref b3), (.ref b1), (.ref b1)])) _
    refine XS.dup X6.here hx rfl (hb hby d1_51) rfl rfl ?_
    refine XS.iconst X6.here hx rfl (hb hby d1_52) ?_
    show Steps p.tables e below (T6.setTop (mkF m 53 #[.val (.int (2 : Int32)), .val (.int ch0), .val (.int ch1), .val (.int ch2), .val (.int ch3)] [(.int (1 : Int32)), (.ref b3), (.ref b3), (.ref b1), (.ref b1)])) _
    refine XS.iloadN X6.here hx rfl (hb hby d1_53) rfl ?_
    show Steps p.tables e below (T6.setTop (mkF m 54 #[.val (.int (2 : Int32)), .val (.int ch0), .val (.int ch1), .val (.int ch2), .val (.int ch3)] [(.int ch1), (.int (1 : Int32)), (.ref b3), (.ref b3), (.ref b1), (.ref b1)])) _
    refine st9 _ ?_
    show Steps p.tables e below (T9.setTop (mkF m 55 #[.val (.int (2 : Int32)), .val (.int ch0), .val (.int ch1), .val (.int ch2), .val (.int ch3)] [(.ref b3), (.ref b1), (.ref b1)])) _
    refine st12.trans ?_
    show Steps p.tables e below (T12.setTop (mkF m 58 #[.val (.int (2 : Int32)), .val (.int ch0), .val (.int ch1), .val (.int ch2), .val (.int ch3)] [(.ref b1)])) _
    exact X12.areturnOut hx rfl Bd.returns rfl (hb hby d1_58) hr
  · show Q_m1u_2 Z ch0 ch1 ch2 ch3 f x wcs h0 n0 _ T12.heap _
    rw [e12]
    exact ⟨b1, t_12, kt_12, rfl, N12, K22, P12_0, P12_1, P12_2, P12_3, sz_b1⟩
theorem d1_59 : decode method_3_code 59 = .ok (.iload_n 0, 1) := by decide +kernel
theorem d1_60 : decode method_3_code 60 = .ok (.iconst 3, 1) := by decide +kernel
theorem d1_61 : decode method_3_code 61 = .ok (.if_icmp .ne 26, 3) := by decide +kernel
theorem d1_64 : decode method_3_code 64 = .ok (.new 7, 3) := by decide +kernel
theorem d1_67 : decode method_3_code 67 = .ok (.dup, 1) := by decide +kernel
theorem d1_68 : decode method_3_code 68 = .ok (.iconst 3, 1) := by decide +kernel
theorem d1_69 : decode method_3_code 69 = .ok (.newarray .char, 2) := by decide +kernel
theorem d1_71 : decode method_3_code 71 = .ok (.dup, 1) := by decide +kernel
theorem d1_72 : decode method_3_code 72 = .ok (.iconst 0, 1) := by decide +kernel
theorem d1_73 : decode method_3_code 73 = .ok (.iload_n 1, 1) := by decide +kernel
theorem d1_74 : decode method_3_code 74 = .ok (.castore, 1) := by decide +kernel
theorem d1_75 : decode method_3_code 75 = .ok (.dup, 1) := by decide +kernel
theorem d1_76 : decode method_3_code 76 = .ok (.iconst 1, 1) := by decide +kernel
theorem d1_77 : decode method_3_code 77 = .ok (.iload_n 2, 1) := by decide +kernel
theorem d1_78 : decode method_3_code 78 = .ok (.castore, 1) := by decide +kernel
theorem d1_79 : decode method_3_code 79 = .ok (.dup, 1) := by decide +kernel
theorem d1_80 : decode method_3_code 80 = .ok (.iconst 2, 1) := by decide +kernel
theorem d1_81 : decode method_3_code 81 = .ok (.iload_n 3, 1) := by decide +kernel
theorem d1_82 : decode method_3_code 82 = .ok (.castore, 1) := by decide +kernel
theorem d1_83 : decode method_3_code 83 = .ok (.invokespecial 9, 3) := by decide +kernel
theorem d1_86 : decode method_3_code 86 = .ok (.areturn, 1) := by decide +kernel
def Q_m1l_3 (Z : State) (ch0 : Int32) (ch1 : Int32) (ch2 : Int32) (ch3 : Int32) (wcs : Int32) (h0 : Heap) (n0 : Nat) (v : Option Value) (h : Heap) (L : List Loc) : Prop := ∃ (a : Addr) (t : Addr) (k : ClassId), v = (some (.ref a)) ∧ Fr n0 L ∧ Keep h0 h [] ∧ Exa Z h a "java/lang/String" ∧ Fld Z h a "java/lang/String" "coder" "B" (.int (0 : Int32)) ∧ Fld Z h a "java/lang/String" "value" "[B" (.ref t) ∧ Arv Z h t k .byte (3 : Int32) [(.int (nar .char ch0).toInt8.toInt32), (.int (nar .char ch1).toInt8.toInt32), (.int (nar .char ch2).toInt8.toInt32)] (.int (0 : Int32)) ∧ h0.size ≤ a
theorem ef_m1l_3 (m : MethodId) (ch0 : Int32) (ch1 : Int32) (ch2 : Int32) (ch3 : Int32) (wcs : Int32) : entryFrame m #[(.int (3 : Int32)), (.int ch0), (.int ch1), (.int ch2), (.int ch3)] 5 = mkF m 0 #[.val (.int (3 : Int32)), .val (.int ch0), .val (.int ch1), .val (.int ch2), .val (.int ch3)] [] := by first | (simp [entryFrame, mkF, argsToLocals, Value.category]; done) | rfl
set_option maxRecDepth 65536 in
set_option maxHeartbeats 40000000 in
theorem m1l_3 (l : Launch) (Z : State) (a0 : Array Value) (hw : ∀ d ∈ tables_1, d.before a0 Z = true) (ws : List Jvm.Cond) (ch0 : Int32) (ch1 : Int32) (ch2 : Int32) (ch3 : Int32) (wcs : Int32) (h0 : Heap) (n0 : Nat) (Z0 : n0 ≤ h0.size) (S_CS : Sta Z h0 "java/lang/String" "COMPACT_STRINGS" "Z" (.int wcs)) (ncs : ¬ (wcs = (0 : Int32))) (q0 : ¬ (255 : Int32) < nar .char ch0) (q1 : ¬ (255 : Int32) < nar .char ch1) (q2 : ¬ (255 : Int32) < nar .char ch2) :
    MetFree l (⟨"com/example/grantline/grantline/authz/UnreservedMatchesPinLaw", "build", "(ICCCC)Ljava/lang/String;"⟩ : MethodName) (head1 (Jvm.Cond.code (⟨"com/example/grantline/grantline/authz/UnreservedMatchesPinLaw", "build", "(ICCCC)Ljava/lang/String;"⟩ : MethodName) method_3_code 5 (some (.object "java/lang/String")) :: ws) ({ frames := 4, cells := 3, slots := 10, locals := 66 } : Room)) (fun ar_ U => ar_ = #[(.int (3 : Int32)), (.int ch0), (.int ch1), (.int ch2), (.int ch3)] ∧ Z.Warmed39 U.vm ∧ U.heap = h0) (fun _ _ _ _ _ => True) (fun _ U o U' => ∃ v L, o = .returned v ∧ Q_m1l_3 Z ch0 ch1 ch2 ch3 wcs h0 n0 v U'.heap L ∧ FrameEnd U o U' L ({ frames := 4, cells := 3, slots := 10, locals := 66 } : Room).cells ({ frames := 4, cells := 3, slots := 10, locals := 66 } : Room).slots) := by
  refine MetFree.of_bodySF (plainFor_of_name pnx_com_example_grantline_grantline_authz_UnreservedMatchesPinLaw) hisR ?_
  intro p e s m args below meth c s₁ Bd hml0 hP hK
  obtain ⟨rfl, hZ, hh⟩ := hP
  have hx := Bd.exec
  have hby := Bd.bytes
  have hml : c.maxLocals = 5 := hml0
  have hown : s.vm.findClass "com/example/grantline/grantline/authz/UnreservedMatchesPinLaw" = some m.cls := findClass_of_methodNamed Bd.named
  have hnm := (name_of_methodNamed Bd.named Bd.method).1
  have X0 : Stand p l e ({ frames := 4, cells := 3, slots := 10, locals := 66 } : Room) s m #[(.int (3 : Int32)), (.int ch0), (.int ch1), (.int ch2), (.int ch3)] below meth c s₁ [] 0 0 := Stand.of_body Bd
  have e0 : s₁.heap = h0 := by rw [← hh, Bd.state]; rfl
  have N0 := Fr.nil n0
  have pre0 : ∀ tq_, Steps p.tables e below (s₁.setTop (mkF m 0 #[.val (.int (3 : Int32)), .val (.int ch0), .val (.int ch1), .val (.int ch2), .val (.int ch3)] [])) tq_ → Steps p.tables e below (s₁.setTop (entryFrame m #[(.int (3 : Int32)), (.int ch0), (.int ch1), (.int ch2), (.int ch3)] 5)) tq_ := fun tq_ kt_ => castTop (ef_m1l_3 m ch0 ch1 ch2 ch3 wcs ) kt_
  obtain ⟨T1, h1, X1, e1, E1, A1, D1, -, st1⟩ := newO X0 hx hZ hown (wk hw 6 rfl) (wk hw 7 rfl) (wk hw 8 rfl) e0 (g := (mkF m 64 #[.val (.int (3 : Int32)), .val (.int ch0), .val (.int ch1), .val (.int ch2), .val (.int ch3)] [])) rfl (hb hby d1_64) (nle rfl) (nle rfl)
  obtain ⟨b1, g1⟩ : ∃ z, z = h0.size := ⟨_, rfl⟩
  rw [← g1] at A1 D1 st1
  have sz_b1 : h0.size ≤ b1 := (Nat.le_of_eq g1.symm)
  have ge_b1 : n0 ≤ b1 := Nat.le_trans Z0 sz_b1
  have K2 : Keep h0 h1 [] := (Keep.refl h0 []).ext E1
  have D1_value := D1 (Or.inr (wk hw 22 rfl)) (ty := (.array .byte)) (by decide)
  have D1_coder := D1 (Or.inr (wk hw 23 rfl)) (ty := .byte) (by decide)
  obtain ⟨T3, h3, k3, X3, e3, E3, A3, st3⟩ := newP X1 hx hZ (wk hw 9 rfl) e1 (g := (mkF m 69 #[.val (.int (3 : Int32)), .val (.int ch0), .val (.int ch1), .val (.int ch2), .val (.int ch3)] [(.int (3 : Int32)), (.ref b1), (.ref b1)])) rfl (hb hby d1_69) rfl (by decide) (cap := 3) (by decide) (by decide) (nle rfl) (nle rfl)
  obtain ⟨b3, g3⟩ : ∃ z, z = h1.size := ⟨_, rfl⟩
  rw [← g3] at A3 st3
  have V3 : Arv Z h3 b3 k3 .char (3 : Int32) [] (.int (0 : Int32)) := Arv.new A3 (by decide)
  have sz_b3 : h0.size ≤ b3 := Nat.le_trans K2.1 (Nat.le_of_eq g3.symm)
  have ge_b3 : n0 ≤ b3 := Nat.le_trans Z0 sz_b3
  have ne_4 : b1 ≠ b3 := Nat.ne_of_lt (Nat.lt_of_lt_of_le A1.lt (Nat.le_of_eq g3.symm))
  have K5 : Keep h0 h3 [] := K2.ext E3
  have V7 : Arv Z h3 b3 k3 .char (3 : Int32) [(.int (0 : Int32))] (.int (0 : Int32)) := V3.pad (pad_rep [] (.int (0 : Int32)) 1)
  obtain ⟨c6, A6, q6, S6, M6, H6, U6⟩ := id V7
  obtain ⟨T6, h6, X6, e6, W6, st6⟩ := stC X3 hx hZ e3 A6 (j := (0 : Int32)) (inb_of S6 ⟨(by decide : ¬ ((0 : Int32) < (0 : Int32))), (by decide : (0 : Int32) < (3 : Int32))⟩) (g := (mkF m 74 #[.val (.int (3 : Int32)), .val (.int ch0), .val (.int ch1), .val (.int ch2), .val (.int ch3)] [(.int ch0), (.int (0 : Int32)), (.ref b3), (.ref b3), (.ref b1), (.ref b1)])) rfl rfl (hb hby d1_74)
  have N6 := Fr.snoc X6 N0 ge_b3
  have V6 : Arv Z h6 b3 k3 .char (3 : Int32) [(.int (nar .char ch0))] (.int (0 : Int32)) := Arv.set A6 q6 S6 M6 H6 U6 (fits_nar_char _) W6 0 rfl (nle rfl)
  have K8 : Keep h0 h6 [] := K5.wr W6 (Or.inr sz_b3)
  have V10 : Arv Z h6 b3 k3 .char (3 : Int32) [(.int (nar .char ch0)), (.int (0 : Int32))] (.int (0 : Int32)) := V6.pad (pad_rep [(.int (nar .char ch0))] (.int (0 : Int32)) 1)
  obtain ⟨c9, A9, q9, S9, M9, H9, U9⟩ := id V10
  obtain ⟨T9, h9, X9, e9, W9, st9⟩ := stC X6 hx hZ e6 A9 (j := (1 : Int32)) (inb_of S9 ⟨(by decide : ¬ ((1 : Int32) < (0 : Int32))), (by decide : (1 : Int32) < (3 : Int32))⟩) (g := (mkF m 78 #[.val (.int (3 : Int32)), .val (.int ch0), .val (.int ch1), .val (.int ch2), .val (.int ch3)] [(.int ch1), (.int (1 : Int32)), (.ref b3), (.ref b3), (.ref b1), (.ref b1)])) rfl rfl (hb hby d1_78)
  have N9 := Fr.snoc X9 N6 ge_b3
  have V9 : Arv Z h9 b3 k3 .char (3 : Int32) [(.int (nar .char ch0)), (.int (nar .char ch1))] (.int (0 : Int32)) := Arv.set A9 q9 S9 M9 H9 U9 (fits_nar_char _) W9 1 rfl (nle rfl)
  have K11 : Keep h0 h9 [] := K8.wr W9 (Or.inr sz_b3)
  have V13 : Arv Z h9 b3 k3 .char (3 : Int32) [(.int (nar .char ch0)), (.int (nar .char ch1)), (.int (0 : Int32))] (.int (0 : Int32)) := V9.pad (pad_rep [(.int (nar .char ch0)), (.int (nar .char ch1))] (.int (0 : Int32)) 1)
  obtain ⟨c12, A12, q12, S12, M12, H12, U12⟩ := id V13
  obtain ⟨T12, h12, X12, e12, W12, st12⟩ := stC X9 hx hZ e9 A12 (j := (2 : Int32)) (inb_of S12 ⟨(by decide : ¬ ((2 : Int32) < (0 : Int32))), (by decide : (2 : Int32) < (3 : Int32))⟩) (g := (mkF m 82 #[.val (.int (3 : Int32)), .val (.int ch0), .val (.int ch1), .val (.int ch2), .val (.int ch3)] [(.int ch2), (.int (2 : Int32)), (.ref b3), (.ref b3), (.ref b1), (.ref b1)])) rfl rfl (hb hby d1_82)
  have N12 := Fr.snoc X12 N9 ge_b3
  have V12 : Arv Z h12 b3 k3 .char (3 : Int32) [(.int (nar .char ch0)), (.int (nar .char ch1)), (.int (nar .char ch2))] (.int (0 : Int32)) := Arv.set A12 q12 S12 M12 H12 U12 (fits_nar_char _) W12 2 rfl (nle rfl)
  have K14 : Keep h0 h12 [] := K11.wr W12 (Or.inr sz_b3)
  have F16 := ((((A1.ext E3).wr W6).wr W9).wr W12)
  have F17 := ((((D1_value.ext E3).other W6 (Or.inl ne_4)).other W9 (Or.inl ne_4)).other W12 (Or.inl ne_4))
  have F18 := ((((D1_coder.ext E3).other W6 (Or.inl ne_4)).other W9 (Or.inl ne_4)).other W12 (Or.inl ne_4))
  have F19 := (((((S_CS.ext E1).ext E3).wr W6).wr W9).wr W12)
  have hws : ∀ d ∈ StrChars.Road.words, d.before a0 Z = true := fun d hd => hw d ((by decide +kernel : ∀ d ∈ StrChars.Road.words, d ∈ tables_1) d hd)
  have Vc15 : Arv Z h12 b3 k3 .char (3 : Int32) (([(nar .char ch0), (nar .char ch1), (nar .char ch2)] : List Int32).map Value.int) (.int (0 : Int32)) := V12
  have hp : ∀ c ∈ ([(nar .char ch0), (nar .char ch1), (nar .char ch2)] : List Int32), ¬ c < 0 ∧ ¬ (255 : Int32) < c := (own_mS ⟨own_nneg _ (own_is_i2c _), q0⟩ (own_mS ⟨own_nneg _ (own_is_i2c _), q1⟩ (own_mS ⟨own_nneg _ (own_is_i2c _), q2⟩ own_m0)))
  obtain ⟨_, _, ⟨T15, L15, kk15, nn15⟩, -, X15, ⟨Lc15, hQ15, l15, y15, z15⟩, st15⟩ := X12.specialBack hx (y := (⟨"java/lang/String", "<init>", "([C)V"⟩ : MethodName)) rfl hown (mvT hZ (wk hw 10 rfl)) (mvT hZ (wk hw 11 rfl)) (mvT hZ (wk hw 12 rfl)) (by decide) (StrChars.Road.backV (W := 1) hZ hws (kI := 4) (wk hw 7 rfl) (cs := ([(nar .char ch0), (nar .char ch1), (nar .char ch2)] : List Int32)) (bs := ([(nar .char ch0), (nar .char ch1), (nar .char ch2)] : List Int32).map (fun c => c.toInt8.toInt32)) (n := 3) ge_b1 (Nat.le_trans Z0 K14.1) F16 F17 F18 Vc15 F19 ncs rfl rfl (by decide) (by decide) hp rfl (by decide) (by decide)) (g := (mkF m 83 #[.val (.int (3 : Int32)), .val (.int ch0), .val (.int ch1), .val (.int ch2), .val (.int ch3)] [(.ref b3), (.ref b1), (.ref b1)])) rfl (by rw [hml]; rfl) (Steps.refl _) (a := b1) (argsL := [(.ref b3)]) (rest := [(.ref b1)]) (lenOf pdx___C_V rfl) rfl (by show 2 * 0 + _ ≤ _; exact Nat.le_of_eq rfl) (hb hby d1_83) (fun _ _ => ⟨rfl, e12, nle rfl, nle rfl⟩)
  dsimp only [Pt.U, Pt.locs, Pt.cells, Pt.slots] at X15 l15 y15 z15 st15 hQ15
  subst l15 y15 z15
  obtain ⟨rfl, Nq15, Kq15, Ex15, Fc15, t15, kb15, -, fr15, -, Fv15, Av15⟩ := hQ15
  have N15 := Fr.app N12 Nq15
  obtain ⟨h15, e15⟩ : ∃ h, T15.heap = h := ⟨_, rfl⟩
  rw [e15] at Kq15 Ex15 Fc15 Fv15 Av15
  have sz_t15 : h0.size ≤ t15 := Nat.le_trans K14.1 fr15
  have ge_t15 : n0 ≤ t15 := Nat.le_trans Z0 sz_t15
  have ne_20 : b1 ≠ t15 := Nat.ne_of_lt (Nat.lt_of_lt_of_le F16.lt fr15)
  have ne_21 : b3 ≠ t15 := Nat.ne_of_lt (Nat.lt_of_lt_of_le V12.lt fr15)
  have K22 : Keep h0 h15 [] := K14.trans Kq15 (own_mS (Or.inr sz_b1) own_m0)
  have Av15 : Arv Z h15 t15 kb15 .byte (3 : Int32) [(.int (nar .char ch0).toInt8.toInt32), (.int (nar .char ch1).toInt8.toInt32), (.int (nar .char ch2).toInt8.toInt32)] (.int (0 : Int32)) := Av15
  obtain ⟨fs, hr, hrun, hended, hW, hsame⟩ := X15.leave (v := some (.ref b1)) (fun h => by rw [Bd.returns] at h; cases h)
  refine ⟨_, _, pre0 _ ?_, hrun, hended, _, _, rfl, ?_, ⟨_, rfl⟩, hW, hsame.mono (nle rfl) (nle rfl)⟩
  · show Steps p.tables e below (s₁.setTop (mkF m 0 #[.val (.int (3 : Int32)), .val (.int ch0), .val (.int ch1), .val (.int ch2), .val (.int ch3)] [])) _
    refine XS.iloadN X0.here hx rfl (hb hby d1_0) rfl ?_
    show Steps p.tables e below (s₁.setTop (mkF m 1 #[.val (.int (3 : Int32)), .val (.int ch0), .val (.int ch1), .val (.int ch2), .val (.int ch3)] [(.int (3 : Int32))])) _
    refine XS.ifYes X0.here hx rfl (pc0 := 1) (pc' := 15) rfl (hb hby d1_1) rfl ((if0 _ _).trans (feq (by decide : ¬ ((3 : Int32) = (0 : Int32)))).2) (by decide) (by decide) ?_
    show Steps p.tables e below (s₁.setTop (mkF m 15 #[.val (.int (3 : Int32)), .val (.int ch0), .val (.int ch1), .val (.int ch2), .val (.int ch3)] [])) _
    refine XS.iloadN X0.here hx rfl (hb hby d1_15) rfl ?_
    refine XS.iconst X0.here hx rfl (hb hby d1_16) ?_
    show Steps p.tables e below (s₁.setTop (mkF m 17 #[.val (.int (3 : Int32)), .val (.int ch0), .val (.int ch1), .val (.int ch2), .val (.int ch3)] [(.int (1 : Int32)), (.int (3 : Int32))])) _
    refine XS.icmpYes X0.here hx rfl (pc0 := 17) (pc' := 35) rfl (hb hby d1_17) rfl (feq (by decide : ¬ ((3 : Int32) = (1 : Int32)))).2 (by decide) (by decide) ?_
    show Steps p.tables e below (s₁.setTop (mkF m 35 #[.val (.int (3 : Int32)), .val (.int ch0), .val (.int ch1), .val (.int ch2), .val (.int ch3)] [])) _
    refine XS.iloadN X0.here hx rfl (hb hby d1_35) rfl ?_
    refine XS.iconst X0.here hx rfl (hb hby d1_36) ?_
    show Steps p.tables e below (s₁.setTop (mkF m 37 #[.val (.int (3 : Int32)), .val (.int ch0), .val (.int ch1), .val (.int ch2), .val (.int ch3)] [(.int (2 : Int32)), (.int (3 : Int32))])) _
    refine XS.icmpYes X0.here hx rfl (pc0 := 37) (pc' := 59) rfl (hb hby d1_37) rfl (feq (by decide : ¬ ((3 : Int32) = (2 : Int32)))).2 (by decide) (by decide) ?_
    show Steps p.tables e below (s₁.setTop (mkF m 59 #[.val (.int (3 : Int32)), .val (.int ch0), .val (.int ch1), .val (.int ch2), .val (.int ch3)] [])) _
    refine XS.iloadN X0.here hx rfl (hb hby d1_59) rfl ?_
    refine XS.iconst X0.here hx rfl (hb hby d1_60) ?_
    show Steps p.tables e below (s₁.setTop (mkF m 61 #[.val (.int (3 : Int32)), .val (.int ch0), .val (.int ch1), .val (.int ch2), .val (.int ch3)] [(.int (3 : Int32)), (.int (3 : Int32))])) _
    refine XS.icmpNo X0.here hx rfl (hb hby d1_61) rfl (teq (by decide : (3 : Int32) = (3 : Int32))).2 ?_
    show Steps p.tables e below (s₁.setTop (mkF m 64 #[.val (.int (3 : Int32)), .val (.int ch0), .val (.int ch1), .val (.int ch2), .val (.int ch3)] [])) _
    refine st1 _ ?_
    show Steps p.tables e below (T1.setTop (mkF m 67 #[.val (.int (3 : Int32)), .val (.int ch0), .val (.int ch1), .val (.int ch2), .val (.int ch3)] [(.ref b1)])) _
    refine XS.dup X1.here hx rfl (hb hby d1_67) rfl rfl ?_
    refine XS.iconst X1.here hx rfl (hb hby d1_68) ?_
    show Steps p.tables e below (T1.setTop (mkF m 69 #[.val (.int (3 : Int32)), .val (.int ch0), .val (.int ch1), .val (.int ch2), .val (.int ch3)] [(.int (3 : Int32)), (.ref b1), (.ref b1)])) _
    refine st3 _ ?_
    show Steps p.tables e below (T3.setTop (mkF m 71 #[.val (.int (3 : Int32)), .val (.int ch0), .val (.int ch1), .val (.int ch2), .val (.int ch3)] [(.ref b3), (.ref b1), (.ref b1)])) _
    refine XS.dup X3.here hx rfl (hb hby d1_71) rfl rfl ?_
    refine XS.iconst X3.here hx rfl (hb hby d1_72) ?_
    show Steps p.tables e below (T3.setTop (mkF m 73 #[.val (.int (3 : Int32)), .val (.int ch0), .val (.int ch1), .val (.int ch2), .val (.int ch3)] [(.int (0 : Int32)), (.ref b3), (.ref b3), (.ref b1), (.ref b1)])) _
    refine XS.iloadN X3.here hx rfl (hb hby d1_73) rfl ?_
    show Steps p.tables e below (T3.setTop (mkF m 74 #[.val (.int (3 : Int32)), .val (.int ch0), .val (.int ch1), .val (.int ch2), .val (.int ch3)] [(.int ch0), (.int (0 : Int32)), (.ref b3), (.ref b3), (.ref b1), (.ref b1)])) _
    refine st6 _ ?_
    show Steps p.tables e below (T6.setTop (mkF m 75 #[.val (.int (3 : Int32)), .val (.int ch0), .val (.int ch1), .val (.int ch2), .val (.int ch3)] [(.ref b3), (.ref b1), (.ref b1)])) _
    refine XS.dup X6.here hx rfl (hb hby d1_75) rfl rfl ?_
    refine XS.iconst X6.here hx rfl (hb hby d1_76) ?_
    show Steps p.tables e below (T6.setTop (mkF m 77 #[.val (.int (3 : Int32)), .val (.int ch0), .val (.int ch1), .val (.int ch2), .val (.int ch3)] [(.int (1 : Int32)), (.ref b3), (.ref b3), (.ref b1), (.ref b1)])) _
    refine XS.iloadN X6.here hx rfl (hb hby d1_77) rfl ?_
    show Steps p.tables e below (T6.setTop (mkF m 78 #[.val (.int (3 : Int32)), .val (.int ch0), .val (.int ch1), .val (.int ch2), .val (.int ch3)] [(.int ch1), (.int (1 : Int32)), (.ref b3), (.ref b3), (.ref b1), (.ref b1)])) _
    refine st9 _ ?_
    show Steps p.tables e below (T9.setTop (mkF m 79 #[.val (.int (3 : Int32)), .val (.int ch0), .val (.int ch1), .val (.int ch2), .val (.int ch3)] [(.ref b3), (.ref b1), (.ref b1)])) _
    refine XS.dup X9.here hx rfl (hb hby d1_79) rfl rfl ?_
    refine XS.iconst X9.here hx rfl (hb hby d1_80) ?_
    show Steps p.tables e below (T9.setTop (mkF m 81 #[.val (.int (3 : Int32)), .val (.int ch0), .val (.int ch1), .val (.int ch2), .val (.int ch3)] [(.int (2 : Int32)), (.ref b3), (.ref b3), (.ref b1), (.ref b1)])) _
    refine XS.iloadN X9.here hx rfl (hb hby d1_81) rfl ?_
    show Steps p.tables e below (T9.setTop (mkF m 82 #[.val (.int (3 : Int32)), .val (.int ch0), .val (.int ch1), .val (.int ch2), .val (.int ch3)] [(.int ch2), (.int (2 : Int32)), (.ref b3), (.ref b3), (.ref b1), (.ref b1)])) _
    refine st12 _ ?_
    show Steps p.tables e below (T12.setTop (mkF m 83 #[.val (.int (3 : Int32)), .val (.int ch0), .val (.int ch1), .val (.int ch2), .val (.int ch3)] [(.ref b3), (.ref b1), (.ref b1)])) _
    refine st15.trans ?_
    show Steps p.tables e below (T15.setTop (mkF m 86 #[.val (.int (3 : Int32)), .val (.int ch0), .val (.int ch1), .val (.int ch2), .val (.int ch3)] [(.ref b1)])) _
    exact X15.areturnOut hx rfl Bd.returns rfl (hb hby d1_86) hr
  · show Q_m1l_3 Z ch0 ch1 ch2 ch3 wcs h0 n0 _ T15.heap _
    rw [e15]
    exact ⟨b1, t15, kb15, rfl, N15, K22, Ex15, Fc15, Fv15, Av15, sz_b1⟩
def Q_m1u_3 (Z : State) (ch0 : Int32) (ch1 : Int32) (ch2 : Int32) (ch3 : Int32) (f : Int32) (x : Int32) (wcs : Int32) (h0 : Heap) (n0 : Nat) (v : Option Value) (h : Heap) (L : List Loc) : Prop := ∃ (a : Addr) (t : Addr) (k : ClassId), v = (some (.ref a)) ∧ Fr n0 L ∧ Keep h0 h [] ∧ Exa Z h a "java/lang/String" ∧ Fld Z h a "java/lang/String" "coder" "B" (.int (1 : Int32)) ∧ Fld Z h a "java/lang/String" "value" "[B" (.ref t) ∧ Arv Z h t k .byte (6 : Int32) [(.int (own_b0 (nar .char ch0))), (.int (own_b1 (nar .char ch0))), (.int (own_b0 (nar .char ch1))), (.int (own_b1 (nar .char ch1))), (.int (own_b0 (nar .char ch2))), (.int (own_b1 (nar .char ch2)))] (.int (0 : Int32)) ∧ h0.size ≤ a
theorem ef_m1u_3 (m : MethodId) (ch0 : Int32) (ch1 : Int32) (ch2 : Int32) (ch3 : Int32) (f : Int32) (x : Int32) (wcs : Int32) : entryFrame m #[(.int (3 : Int32)), (.int ch0), (.int ch1), (.int ch2), (.int ch3)] 5 = mkF m 0 #[.val (.int (3 : Int32)), .val (.int ch0), .val (.int ch1), .val (.int ch2), .val (.int ch3)] [] := by first | (simp [entryFrame, mkF, argsToLocals, Value.category]; done) | rfl
set_option maxRecDepth 65536 in
set_option maxHeartbeats 40000000 in
theorem m1u_3 (l : Launch) (Z : State) (a0 : Array Value) (hw : ∀ d ∈ tables_1, d.before a0 Z = true) (ws : List Jvm.Cond) (ch0 : Int32) (ch1 : Int32) (ch2 : Int32) (ch3 : Int32) (f : Int32) (x : Int32) (wcs : Int32) (h0 : Heap) (n0 : Nat) (Z0 : n0 ≤ h0.size) (S_CS : Sta Z h0 "java/lang/String" "COMPACT_STRINGS" "Z" (.int wcs)) (ncs : ¬ (wcs = (0 : Int32))) (S_AD : Sta Z h0 "java/lang/StringUTF16" "$assertionsDisabled" "Z" (.int (1 : Int32))) (S_HI : Sta Z h0 "java/lang/StringUTF16" "HI_BYTE_SHIFT" "I" (.int (0 : Int32))) (S_LO : Sta Z h0 "java/lang/StringUTF16" "LO_BYTE_SHIFT" "I" (.int (8 : Int32))) (hT : own_T (3 : Int32) [(.int (nar .char ch0)), (.int (nar .char ch1)), (.int (nar .char ch2))] (6 : Int32) [(.int (own_b0 (nar .char ch0))), (.int (own_b1 (nar .char ch0))), (.int (own_b0 (nar .char ch1))), (.int (own_b1 (nar .char ch1))), (.int (own_b0 (nar .char ch2))), (.int (own_b1 (nar .char ch2)))] f x) (hu : own_u (own_b0 x) (own_b1 x) = x) :
    MetFree l (⟨"com/example/grantline/grantline/authz/UnreservedMatchesPinLaw", "build", "(ICCCC)Ljava/lang/String;"⟩ : MethodName) (head1 (Jvm.Cond.code (⟨"com/example/grantline/grantline/authz/UnreservedMatchesPinLaw", "build", "(ICCCC)Ljava/lang/String;"⟩ : MethodName) method_3_code 5 (some (.object "java/lang/String")) :: ws) ({ frames := 6, cells := 4, slots := 19, locals := 88 } : Room)) (fun ar_ U => ar_ = #[(.int (3 : Int32)), (.int ch0), (.int ch1), (.int ch2), (.int ch3)] ∧ Z.Warmed39 U.vm ∧ U.heap = h0) (fun _ _ _ _ _ => True) (fun _ U o U' => ∃ v L, o = .returned v ∧ Q_m1u_3 Z ch0 ch1 ch2 ch3 f x wcs h0 n0 v U'.heap L ∧ FrameEnd U o U' L ({ frames := 6, cells := 4, slots := 19, locals := 88 } : Room).cells ({ frames := 6, cells := 4, slots := 19, locals := 88 } : Room).slots) := by
  refine MetFree.of_bodySF (plainFor_of_name pnx_com_example_grantline_grantline_authz_UnreservedMatchesPinLaw) hisR ?_
  intro p e s m args below meth c s₁ Bd hml0 hP hK
  obtain ⟨rfl, hZ, hh⟩ := hP
  have hx := Bd.exec
  have hby := Bd.bytes
  have hml : c.maxLocals = 5 := hml0
  have hown : s.vm.findClass "com/example/grantline/grantline/authz/UnreservedMatchesPinLaw" = some m.cls := findClass_of_methodNamed Bd.named
  have hnm := (name_of_methodNamed Bd.named Bd.method).1
  have X0 : Stand p l e ({ frames := 6, cells := 4, slots := 19, locals := 88 } : Room) s m #[(.int (3 : Int32)), (.int ch0), (.int ch1), (.int ch2), (.int ch3)] below meth c s₁ [] 0 0 := Stand.of_body Bd
  have e0 : s₁.heap = h0 := by rw [← hh, Bd.state]; rfl
  have N0 := Fr.nil n0
  have pre0 : ∀ tq_, Steps p.tables e below (s₁.setTop (mkF m 0 #[.val (.int (3 : Int32)), .val (.int ch0), .val (.int ch1), .val (.int ch2), .val (.int ch3)] [])) tq_ → Steps p.tables e below (s₁.setTop (entryFrame m #[(.int (3 : Int32)), (.int ch0), (.int ch1), (.int ch2), (.int ch3)] 5)) tq_ := fun tq_ kt_ => castTop (ef_m1u_3 m ch0 ch1 ch2 ch3 f x wcs ) kt_
  obtain ⟨T1, h1, X1, e1, E1, A1, D1, -, st1⟩ := newO X0 hx hZ hown (wk hw 6 rfl) (wk hw 7 rfl) (wk hw 8 rfl) e0 (g := (mkF m 64 #[.val (.int (3 : Int32)), .val (.int ch0), .val (.int ch1), .val (.int ch2), .val (.int ch3)] [])) rfl (hb hby d1_64) (nle rfl) (nle rfl)
  obtain ⟨b1, g1⟩ : ∃ z, z = h0.size := ⟨_, rfl⟩
  rw [← g1] at A1 D1 st1
  have sz_b1 : h0.size ≤ b1 := (Nat.le_of_eq g1.symm)
  have ge_b1 : n0 ≤ b1 := Nat.le_trans Z0 sz_b1
  have K2 : Keep h0 h1 [] := (Keep.refl h0 []).ext E1
  have D1_value := D1 (Or.inr (wk hw 22 rfl)) (ty := (.array .byte)) (by decide)
  have D1_coder := D1 (Or.inr (wk hw 23 rfl)) (ty := .byte) (by decide)
  obtain ⟨T3, h3, k3, X3, e3, E3, A3, st3⟩ := newP X1 hx hZ (wk hw 9 rfl) e1 (g := (mkF m 69 #[.val (.int (3 : Int32)), .val (.int ch0), .val (.int ch1), .val (.int ch2), .val (.int ch3)] [(.int (3 : Int32)), (.ref b1), (.ref b1)])) rfl (hb hby d1_69) rfl (by decide) (cap := 3) (by decide) (by decide) (nle rfl) (nle rfl)
  obtain ⟨b3, g3⟩ : ∃ z, z = h1.size := ⟨_, rfl⟩
  rw [← g3] at A3 st3
  have V3 : Arv Z h3 b3 k3 .char (3 : Int32) [] (.int (0 : Int32)) := Arv.new A3 (by decide)
  have sz_b3 : h0.size ≤ b3 := Nat.le_trans K2.1 (Nat.le_of_eq g3.symm)
  have ge_b3 : n0 ≤ b3 := Nat.le_trans Z0 sz_b3
  have ne_4 : b1 ≠ b3 := Nat.ne_of_lt (Nat.lt_of_lt_of_le A1.lt (Nat.le_of_eq g3.symm))
  have K5 : Keep h0 h3 [] := K2.ext E3
  have V7 : Arv Z h3 b3 k3 .char (3 : Int32) [(.int (0 : Int32))] (.int (0 : Int32)) := V3.pad (pad_rep [] (.int (0 : Int32)) 1)
  obtain ⟨c6, A6, q6, S6, M6, H6, U6⟩ := id V7
  obtain ⟨T6, h6, X6, e6, W6, st6⟩ := stC X3 hx hZ e3 A6 (j := (0 : Int32)) (inb_of S6 ⟨(by decide : ¬ ((0 : Int32) < (0 : Int32))), (by decide : (0 : Int32) < (3 : Int32))⟩) (g := (mkF m 74 #[.val (.int (3 : Int32)), .val (.int ch0), .val (.int ch1), .val (.int ch2), .val (.int ch3)] [(.int ch0), (.int (0 : Int32)), (.ref b3), (.ref b3), (.ref b1), (.ref b1)])) rfl rfl (hb hby d1_74)
  have N6 := Fr.snoc X6 N0 ge_b3
  have V6 : Arv Z h6 b3 k3 .char (3 : Int32) [(.int (nar .char ch0))] (.int (0 : Int32)) := Arv.set A6 q6 S6 M6 H6 U6 (fits_nar_char _) W6 0 rfl (nle rfl)
  have K8 : Keep h0 h6 [] := K5.wr W6 (Or.inr sz_b3)
  have V10 : Arv Z h6 b3 k3 .char (3 : Int32) [(.int (nar .char ch0)), (.int (0 : Int32))] (.int (0 : Int32)) := V6.pad (pad_rep [(.int (nar .char ch0))] (.int (0 : Int32)) 1)
  obtain ⟨c9, A9, q9, S9, M9, H9, U9⟩ := id V10
  obtain ⟨T9, h9, X9, e9, W9, st9⟩ := stC X6 hx hZ e6 A9 (j := (1 : Int32)) (inb_of S9 ⟨(by decide : ¬ ((1 : Int32) < (0 : Int32))), (by decide : (1 : Int32) < (3 : Int32))⟩) (g := (mkF m 78 #[.val (.int (3 : Int32)), .val (.int ch0), .val (.int ch1), .val (.int ch2), .val (.int ch3)] [(.int ch1), (.int (1 : Int32)), (.ref b3), (.ref b3), (.ref b1), (.ref b1)])) rfl rfl (hb hby d1_78)
  have N9 := Fr.snoc X9 N6 ge_b3
  have V9 : Arv Z h9 b3 k3 .char (3 : Int32) [(.int (nar .char ch0)), (.int (nar .char ch1))] (.int (0 : Int32)) := Arv.set A9 q9 S9 M9 H9 U9 (fits_nar_char _) W9 1 rfl (nle rfl)
  have K11 : Keep h0 h9 [] := K8.wr W9 (Or.inr sz_b3)
  have V13 : Arv Z h9 b3 k3 .char (3 : Int32) [(.int (nar .char ch0)), (.int (nar .char ch1)), (.int (0 : Int32))] (.int (0 : Int32)) := V9.pad (pad_rep [(.int (nar .char ch0)), (.int (nar .char ch1))] (.int (0 : Int32)) 1)
  obtain ⟨c12, A12, q12, S12, M12, H12, U12⟩ := id V13
  obtain ⟨T12, h12, X12, e12, W12, st12⟩ := stC X9 hx hZ e9 A12 (j := (2 : Int32)) (inb_of S12 ⟨(by decide : ¬ ((2 : Int32) < (0 : Int32))), (by decide : (2 : Int32) < (3 : Int32))⟩) (g := (mkF m 82 #[.val (.int (3 : Int32)), .val (.int ch0), .val (.int ch1), .val (.int ch2), .val (.int ch3)] [(.int ch2), (.int (2 : Int32)), (.ref b3), (.ref b3), (.ref b1), (.ref b1)])) rfl rfl (hb hby d1_82)
  have N12 := Fr.snoc X12 N9 ge_b3
  have V12 : Arv Z h12 b3 k3 .char (3 : Int32) [(.int (nar .char ch0)), (.int (nar .char ch1)), (.int (nar .char ch2))] (.int (0 : Int32)) := Arv.set A12 q12 S12 M12 H12 U12 (fits_nar_char _) W12 2 rfl (nle rfl)
  have K14 : Keep h0 h12 [] := K11.wr W12 (Or.inr sz_b3)
  have F16 := ((((A1.ext E3).wr W6).wr W9).wr W12)
  have F17 := ((((D1_value.ext E3).other W6 (Or.inl ne_4)).other W9 (Or.inl ne_4)).other W12 (Or.inl ne_4))
  have F18 := ((((D1_coder.ext E3).other W6 (Or.inl ne_4)).other W9 (Or.inl ne_4)).other W12 (Or.inl ne_4))
  have F19 := (((((S_CS.ext E1).ext E3).wr W6).wr W9).wr W12)
  have F20 := (((((S_AD.ext E1).ext E3).wr W6).wr W9).wr W12)
  have F21 := (((((S_HI.ext E1).ext E3).wr W6).wr W9).wr W12)
  have F22 := (((((S_LO.ext E1).ext E3).wr W6).wr W9).wr W12)
  obtain ⟨_, _, ⟨T15, L15, kk15, nn15⟩, -, X15, ⟨Lc15, hQ15, l15, y15, z15⟩, st15⟩ := X12.specialBack hx (y := (⟨"java/lang/String", "<init>", "([C)V"⟩ : MethodName)) rfl hown (mvT hZ (wk hw 10 rfl)) (mvT hZ (wk hw 11 rfl)) (mvT hZ (wk hw 12 rfl)) (by decide) (backOf (W := 1) (m2u l Z a0 hw [] b1 .null (.int (0 : Int32)) b3 k3 (3 : Int32) [(.int (nar .char ch0)), (.int (nar .char ch1)), (.int (nar .char ch2))] (6 : Int32) [(.int (own_b0 (nar .char ch0))), (.int (own_b1 (nar .char ch0))), (.int (own_b0 (nar .char ch1))), (.int (own_b1 (nar .char ch1))), (.int (own_b0 (nar .char ch2))), (.int (own_b1 (nar .char ch2)))] f x wcs h12 n0 (Nat.le_trans Z0 K14.1) F16 F17 F18 ge_b1 V12 F19 ncs F20 F21 F22 hT hu (by decide)) hZ (wk hw 12 rfl) (wk hw 8 rfl) (by decide) (by decide)) (g := (mkF m 83 #[.val (.int (3 : Int32)), .val (.int ch0), .val (.int ch1), .val (.int ch2), .val (.int ch3)] [(.ref b3), (.ref b1), (.ref b1)])) rfl (by rw [hml]; rfl) (Steps.refl _) (a := b1) (argsL := [(.ref b3)]) (rest := [(.ref b1)]) (lenOf pdx___C_V rfl) rfl (by show 2 * 0 + _ ≤ _; exact Nat.le_of_eq rfl) (hb hby d1_83) (fun _ _ => ⟨rfl, e12, nle rfl, nle rfl⟩)
  dsimp only [Pt.U, Pt.locs, Pt.cells, Pt.slots] at X15 l15 y15 z15 st15 hQ15
  subst l15 y15 z15
  obtain ⟨t_15, kt_15, rfl, Nq15, Kq15, P15_0, P15_1, P15_2, P15_3, P15_4⟩ := hQ15
  have N15 := Fr.app N12 Nq15
  obtain ⟨h15, e15⟩ : ∃ h, T15.heap = h := ⟨_, rfl⟩
  rw [e15] at Kq15 P15_0 P15_1 P15_2 P15_3
  have sz_t_15 : h0.size ≤ t_15 := Nat.le_trans K14.1 P15_4
  have ge_t_15 : n0 ≤ t_15 := Nat.le_trans Z0 sz_t_15
  have ne_23 : b1 ≠ t_15 := Nat.ne_of_lt (Nat.lt_of_lt_of_le F16.lt P15_4)
  have ne_24 : b3 ≠ t_15 := Nat.ne_of_lt (Nat.lt_of_lt_of_le V12.lt P15_4)
  have ns15 := (nsS F16.nostat ns0)
  have K25 : Keep h0 h15 [] := K14.trans Kq15 (own_mS (Or.inr sz_b1) own_m0)
  obtain ⟨fs, hr, hrun, hended, hW, hsame⟩ := X15.leave (v := some (.ref b1)) (fun h => by rw [Bd.returns] at h; cases h)
  refine ⟨_, _, pre0 _ ?_, hrun, hended, _, _, rfl, ?_, ⟨_, rfl⟩, hW, hsame.mono (nle rfl) (nle rfl)⟩
  · show Steps p.tables e below (s₁.setTop (mkF m 0 #[.val (.int (3 : Int32)), .val (.int ch0), .val (.int ch1), .val (.int ch2), .val (.int ch3)] [])) _
    refine XS.iloadN X0.here hx rfl (hb hby d1_0) rfl ?_
    show Steps p.tables e below (s₁.setTop (mkF m 1 #[.val (.int (3 : Int32)), .val (.int ch0), .val (.int ch1), .val (.int ch2), .val (.int ch3)] [(.int (3 : Int32))])) _
    refine XS.ifYes X0.here hx rfl (pc0 := 1) (pc' := 15) rfl (hb hby d1_1) rfl ((if0 _ _).trans (feq (by decide : ¬ ((3 : Int32) = (0 : Int32)))).2) (by decide) (by decide) ?_
    show Steps p.tables e below (s₁.setTop (mkF m 15 #[.val (.int (3 : Int32)), .val (.int ch0), .val (.int ch1), .val (.int ch2), .val (.int ch3)] [])) _
    refine XS.iloadN X0.here hx rfl (hb hby d1_15) rfl ?_
    refine XS.iconst X0.here hx rfl (hb hby d1_16) ?_
    show Steps p.tables e below (s₁.setTop (mkF m 17 #[.val (.int (3 : Int32)), .val (.int ch0), .val (.int ch1), .val (.int ch2), .val (.int ch3)] [(.int (1 : Int32)), (.int (3 : Int32))])) _
    refine XS.icmpYes X0.here hx rfl (pc0 := 17) (pc' := 35) rfl (hb hby d1_17) rfl (feq (by decide : ¬ ((3 : Int32) = (1 : Int32)))).2 (by decide) (by decide) ?_
    show Steps p.tables e below (s₁.setTop (mkF m 35 #[.val (.int (3 : Int32)), .val (.int ch0), .val (.int ch1), .val (.int ch2), .val (.int ch3)] [])) _
    refine XS.iloadN X0.here hx rfl (hb hby d1_35) rfl ?_
    refine XS.iconst X0.here hx rfl (hb hby d1_36) ?_
    show Steps p.tables e below (s₁.setTop (mkF m 37 #[.val (.int (3 : Int32)), .val (.int ch0), .val (.int ch1), .val (.int ch2), .val (.int ch3)] [(.int (2 : Int32)), (.int (3 : Int32))])) _
    refine XS.icmpYes X0.here hx rfl (pc0 := 37) (pc' := 59) rfl (hb hby d1_37) rfl (feq (by decide : ¬ ((3 : Int32) = (2 : Int32)))).2 (by decide) (by decide) ?_
    show Steps p.tables e below (s₁.setTop (mkF m 59 #[.val (.int (3 : Int32)), .val (.int ch0), .val (.int ch1), .val (.int ch2), .val (.int ch3)] [])) _
    refine XS.iloadN X0.here hx rfl (hb hby d1_59) rfl ?_
    refine XS.iconst X0.here hx rfl (hb hby d1_60) ?_
    show Steps p.tables e below (s₁.setTop (mkF m 61 #[.val (.int (3 : Int32)), .val (.int ch0), .val (.int ch1), .val (.int ch2), .val (.int ch3)] [(.int (3 : Int32)), (.int (3 : Int32))])) _
    refine XS.icmpNo X0.here hx rfl (hb hby d1_61) rfl (teq (by decide : (3 : Int32) = (3 : Int32))).2 ?_
    show Steps p.tables e below (s₁.setTop (mkF m 64 #[.val (.int (3 : Int32)), .val (.int ch0), .val (.int ch1), .val (.int ch2), .val (.int ch3)] [])) _
    refine st1 _ ?_
    show Steps p.tables e below (T1.setTop (mkF m 67 #[.val (.int (3 : Int32)), .val (.int ch0), .val (.int ch1), .val (.int ch2), .val (.int ch3)] [(.ref b1)])) _
    refine XS.dup X1.here hx rfl (hb hby d1_67) rfl rfl ?_
    refine XS.iconst X1.here hx rfl (hb hby d1_68) ?_
    show Steps p.tables e below (T1.setTop (mkF m 69 #[.val (.int (3 : Int32)), .val (.int ch0), .val (.int ch1), .val (.int ch2), .val (.int ch3)] [(.int (3 : Int32)), (.ref b1), (.ref b1)])) _
    refine st3 _ ?_
    show Steps p.tables e below (T3.setTop (mkF m 71 #[.val (.int (3 : Int32)), .val (.int ch0), .val (.int ch1), .val (.int ch2), .val (.int ch3)] [(.ref b3), (.ref b1), (.ref b1)])) _
    refine XS.dup X3.here hx rfl (hb hby d1_71) rfl rfl ?_
    refine XS.iconst X3.here hx rfl (hb hby d1_72) ?_
    show Steps p.tables e below (T3.setTop (mkF m 73 #[.val (.int (3 : Int32)), .val (.int ch0), .val (.int ch1), .val (.int ch2), .val (.int ch3)] [(.int (0 : Int32)), (.ref b3), (.ref b3), (.ref b1), (.ref b1)])) _
    refine XS.iloadN X3.here hx rfl (hb hby d1_73) rfl ?_
    show Steps p.tables e below (T3.setTop (mkF m 74 #[.val (.int (3 : Int32)), .val (.int ch0), .val (.int ch1), .val (.int ch2), .val (.int ch3)] [(.int ch0), (.int (0 : Int32)), (.ref b3), (.ref b3), (.ref b1), (.ref b1)])) _
    refine st6 _ ?_
    show Steps p.tables e below (T6.setTop (mkF m 75 #[.val (.int (3 : Int32)), .val (.int ch0), .val (.int ch1), .val (.int ch2), .val (.int ch3)] [(.ref b3), (.ref b1), (.ref b1)])) _
    refine XS.dup X6.here hx rfl (hb hby d1_75) rfl rfl ?_
    refine XS.iconst X6.here hx rfl (hb hby d1_76) ?_
    show Steps p.tables e below (T6.setTop (mkF m 77 #[.val (.int (3 : Int32)), .val (.int ch0), .val (.int ch1), .val (.int ch2), .val (.int ch3)] [(.int (1 : Int32)), (.ref b3), (.ref b3), (.ref b1), (.ref b1)])) _
    refine XS.iloadN X6.here hx rfl (hb hby d1_77) rfl ?_
    show Steps p.tables e below (T6.setTop (mkF m 78 #[.val (.int (3 : Int32)), .val (.int ch0), .val (.int ch1), .val (.int ch2), .val (.int ch3)] [(.int ch1), (.int (1 : Int32)), (.ref b3), (.ref b3), (.ref b1), (.ref b1)])) _
    refine st9 _ ?_
    show Steps p.tables e below (T9.setTop (mkF m 79 #[.val (.int (3 : Int32)), .val (.int ch0), .val (.int ch1), .val (.int ch2), .val (.int ch3)] [(.ref b3), (.ref b1), (.ref b1)])) _
    refine XS.dup X9.here hx rfl (hb hby d1_79) rfl rfl ?_
    refine XS.iconst X9.here hx rfl (hb hby d1_80) ?_
    show Steps p.tables e below (T9.setTop (mkF m 81 #[.val (.int (3 : Int32)), .val (.int ch0), .val (.int ch1), .val (.int ch2), .val (.int ch3)] [(.int (2 : Int32)), (.ref b3), (.ref b3), (.ref b1), (.ref b1)])) _
    refine XS.iloadN X9.here hx rfl (hb hby d1_81) rfl ?_
    show Steps p.tables e below (T9.setTop (mkF m 82 #[.val (.int (3 : Int32)), .val (.int ch0), .val (.int ch1), .val (.int ch2), .val (.int ch3)] [(.int ch2), (.int (2 : Int32)), (.ref b3), (.ref b3), (.ref b1), (.ref b1)])) _
    refine st12 _ ?_
    show Steps p.tables e below (T12.setTop (mkF m 83 #[.val (.int (3 : Int32)), .val (.int ch0), .val (.int ch1), .val (.int ch2), .val (.int ch3)] [(.ref b3), (.ref b1), (.ref b1)])) _
    refine st15.trans ?_
    show Steps p.tables e below (T15.setTop (mkF m 86 #[.val (.int (3 : Int32)), .val (.int ch0), .val (.int ch1), .val (.int ch2), .val (.int ch3)] [(.ref b1)])) _
    exact X15.areturnOut hx rfl Bd.returns rfl (hb hby d1_86) hr
  · show Q_m1u_3 Z ch0 ch1 ch2 ch3 f x wcs h0 n0 _ T15.heap _
    rw [e15]
    exact ⟨b1, t_15, kt_15, rfl, N15, K25, P15_0, P15_1, P15_2, P15_3, sz_b1⟩
theorem d1_87 : decode method_3_code 87 = .ok (.new 7, 3) := by decide +kernel
theorem d1_90 : decode method_3_code 90 = .ok (.dup, 1) := by decide +kernel
theorem d1_91 : decode method_3_code 91 = .ok (.iconst 4, 1) := by decide +kernel
theorem d1_92 : decode method_3_code 92 = .ok (.newarray .char, 2) := by decide +kernel
theorem d1_94 : decode method_3_code 94 = .ok (.dup, 1) := by decide +kernel
theorem d1_95 : decode method_3_code 95 = .ok (.iconst 0, 1) := by decide +kernel
theorem d1_96 : decode method_3_code 96 = .ok (.iload_n 1, 1) := by decide +kernel
theorem d1_97 : decode method_3_code 97 = .ok (.castore, 1) := by decide +kernel
theorem d1_98 : decode method_3_code 98 = .ok (.dup, 1) := by decide +kernel
theorem d1_99 : decode method_3_code 99 = .ok (.iconst 1, 1) := by decide +kernel
theorem d1_100 : decode method_3_code 100 = .ok (.iload_n 2, 1) := by decide +kernel
theorem d1_101 : decode method_3_code 101 = .ok (.castore, 1) := by decide +kernel
theorem d1_102 : decode method_3_code 102 = .ok (.dup, 1) := by decide +kernel
theorem d1_103 : decode method_3_code 103 = .ok (.iconst 2, 1) := by decide +kernel
theorem d1_104 : decode method_3_code 104 = .ok (.iload_n 3, 1) := by decide +kernel
theorem d1_105 : decode method_3_code 105 = .ok (.castore, 1) := by decide +kernel
theorem d1_106 : decode method_3_code 106 = .ok (.dup, 1) := by decide +kernel
theorem d1_107 : decode method_3_code 107 = .ok (.iconst 3, 1) := by decide +kernel
theorem d1_108 : decode method_3_code 108 = .ok (.iload 4, 2) := by decide +kernel
theorem d1_110 : decode method_3_code 110 = .ok (.castore, 1) := by decide +kernel
theorem d1_111 : decode method_3_code 111 = .ok (.invokespecial 9, 3) := by decide +kernel
theorem d1_114 : decode method_3_code 114 = .ok (.areturn, 1) := by decide +kernel
def Q_m1l_4 (Z : State) (ch0 : Int32) (ch1 : Int32) (ch2 : Int32) (ch3 : Int32) (wcs : Int32) (h0 : Heap) (n0 : Nat) (v : Option Value) (h : Heap) (L : List Loc) : Prop := ∃ (a : Addr) (t : Addr) (k : ClassId), v = (some (.ref a)) ∧ Fr n0 L ∧ Keep h0 h [] ∧ Exa Z h a "java/lang/String" ∧ Fld Z h a "java/lang/String" "coder" "B" (.int (0 : Int32)) ∧ Fld Z h a "java/lang/String" "value" "[B" (.ref t) ∧ Arv Z h t k .byte (4 : Int32) [(.int (nar .char ch0).toInt8.toInt32), (.int (nar .char ch1).toInt8.toInt32), (.int (nar .char ch2).toInt8.toInt32), (.int (nar .char ch3).toInt8.toInt32)] (.int (0 : Int32)) ∧ h0.size ≤ a
theorem ef_m1l_4 (m : MethodId) (ch0 : Int32) (ch1 : Int32) (ch2 : Int32) (ch3 : Int32) (wcs : Int32) : entryFrame m #[(.int (4 : Int32)), (.int ch0), (.int ch1), (.int ch2), (.int ch3)] 5 = mkF m 0 #[.val (.int (4 : Int32)), .val (.int ch0), .val (.int ch1), .val (.int ch2), .val (.int ch3)] [] := by first | (simp [entryFrame, mkF, argsToLocals, Value.category]; done) | rfl
set_option maxRecDepth 65536 in
set_option maxHeartbeats 40000000 in
theorem m1l_4 (l : Launch) (Z : State) (a0 : Array Value) (hw : ∀ d ∈ tables_1, d.before a0 Z = true) (ws : List Jvm.Cond) (ch0 : Int32) (ch1 : Int32) (ch2 : Int32) (ch3 : Int32) (wcs : Int32) (h0 : Heap) (n0 : Nat) (Z0 : n0 ≤ h0.size) (S_CS : Sta Z h0 "java/lang/String" "COMPACT_STRINGS" "Z" (.int wcs)) (ncs : ¬ (wcs = (0 : Int32))) (q0 : ¬ (255 : Int32) < nar .char ch0) (q1 : ¬ (255 : Int32) < nar .char ch1) (q2 : ¬ (255 : Int32) < nar .char ch2) (q3 : ¬ (255 : Int32) < nar .char ch3) :
    MetFree l (⟨"com/example/grantline/grantline/authz/UnreservedMatchesPinLaw", "build", "(ICCCC)Ljava/lang/String;"⟩ : MethodName) (head1 (Jvm.Cond.code (⟨"com/example/grantline/grantline/authz/UnreservedMatchesPinLaw", "build", "(ICCCC)Ljava/lang/String;"⟩ : MethodName) method_3_code 5 (some (.object "java/lang/String")) :: ws) ({ frames := 4, cells := 3, slots := 12, locals := 66 } : Room)) (fun ar_ U => ar_ = #[(.int (4 : Int32)), (.int ch0), (.int ch1), (.int ch2), (.int ch3)] ∧ Z.Warmed39 U.vm ∧ U.heap = h0) (fun _ _ _ _ _ => True) (fun _ U o U' => ∃ v L, o = .returned v ∧ Q_m1l_4 Z ch0 ch1 ch2 ch3 wcs h0 n0 v U'.heap L ∧ FrameEnd U o U' L ({ frames := 4, cells := 3, slots := 12, locals := 66 } : Room).cells ({ frames := 4, cells := 3, slots := 12, locals := 66 } : Room).slots) := by
  refine MetFree.of_bodySF (plainFor_of_name pnx_com_example_grantline_grantline_authz_UnreservedMatchesPinLaw) hisR ?_
  intro p e s m args below meth c s₁ Bd hml0 hP hK
  obtain ⟨rfl, hZ, hh⟩ := hP
  have hx := Bd.exec
  have hby := Bd.bytes
  have hml : c.maxLocals = 5 := hml0
  have hown : s.vm.findClass "com/example/grantline/grantline/authz/UnreservedMatchesPinLaw" = some m.cls := findClass_of_methodNamed Bd.named
  have hnm := (name_of_methodNamed Bd.named Bd.method).1
  have X0 : Stand p l e ({ frames := 4, cells := 3, slots := 12, locals := 66 } : Room) s m #[(.int (4 : Int32)), (.int ch0), (.int ch1), (.int ch2), (.int ch3)] below meth c s₁ [] 0 0 := Stand.of_body Bd
  have e0 : s₁.heap = h0 := by rw [← hh, Bd.state]; rfl
  have N0 := Fr.nil n0
  have pre0 : ∀ tq_, Steps p.tables e below (s₁.setTop (mkF m 0 #[.val (.int (4 : Int32)), .val (.int ch0), .val (.int ch1), .val (.int ch2), .val (.int ch3)] [])) tq_ → Steps p.tables e below (s₁.setTop (entryFrame m #[(.int (4 : Int32)), (.int ch0), (.int ch1), (.int ch2), (.int ch3)] 5)) tq_ := fun tq_ kt_ => castTop (ef_m1l_4 m ch0 ch1 ch2 ch3 wcs ) kt_
  obtain ⟨T1, h1, X1, e1, E1, A1, D1, -, st1⟩ := newO X0 hx hZ hown (wk hw 6 rfl) (wk hw 7 rfl) (wk hw 8 rfl) e0 (g := (mkF m 87 #[.val (.int (4 : Int32)), .val (.int ch0), .val (.int ch1), .val (.int ch2), .val (.int ch3)] [])) rfl (hb hby d1_87) (nle rfl) (nle rfl)
  obtain ⟨b1, g1⟩ : ∃ z, z = h0.size := ⟨_, rfl⟩
  rw [← g1] at A1 D1 st1
  have sz_b1 : h0.size ≤ b1 := (Nat.le_of_eq g1.symm)
  have ge_b1 : n0 ≤ b1 := Nat.le_trans Z0 sz_b1
  have K2 : Keep h0 h1 [] := (Keep.refl h0 []).ext E1
  have D1_value := D1 (Or.inr (wk hw 22 rfl)) (ty := (.array .byte)) (by decide)
  have D1_coder := D1 (Or.inr (wk hw 23 rfl)) (ty := .byte) (by decide)
  obtain ⟨T3, h3, k3, X3, e3, E3, A3, st3⟩ := newP X1 hx hZ (wk hw 9 rfl) e1 (g := (mkF m 92 #[.val (.int (4 : Int32)), .val (.int ch0), .val (.int ch1), .val (.int ch2), .val (.int ch3)] [(.int (4 : Int32)), (.ref b1), (.ref b1)])) rfl (hb hby d1_92) rfl (by decide) (cap := 4) (by decide) (by decide) (nle rfl) (nle rfl)
  obtain ⟨b3, g3⟩ : ∃ z, z = h1.size := ⟨_, rfl⟩
  rw [← g3] at A3 st3
  have V3 : Arv Z h3 b3 k3 .char (4 : Int32) [] (.int (0 : Int32)) := Arv.new A3 (by decide)
  have sz_b3 : h0.size ≤ b3 := Nat.le_trans K2.1 (Nat.le_of_eq g3.symm)
  have ge_b3 : n0 ≤ b3 := Nat.le_trans Z0 sz_b3
  have ne_4 : b1 ≠ b3 := Nat.ne_of_lt (Nat.lt_of_lt_of_le A1.lt (Nat.le_of_eq g3.symm))
  have K5 : Keep h0 h3 [] := K2.ext E3
  have V7 : Arv Z h3 b3 k3 .char (4 : Int32) [(.int (0 : Int32))] (.int (0 : Int32)) := V3.pad (pad_rep [] (.int (0 : Int32)) 1)
  obtain ⟨c6, A6, q6, S6, M6, H6, U6⟩ := id V7
  obtain ⟨T6, h6, X6, e6, W6, st6⟩ := stC X3 hx hZ e3 A6 (j := (0 : Int32)) (inb_of S6 ⟨(by decide : ¬ ((0 : Int32) < (0 : Int32))), (by decide : (0 : Int32) < (4 : Int32))⟩) (g := (mkF m 97 #[.val (.int (4 : Int32)), .val (.int ch0), .val (.int ch1), .val (.int ch2), .val (.int ch3)] [(.int ch0), (.int (0 : Int32)), (.ref b3), (.ref b3), (.ref b1), (.ref b1)])) rfl rfl (hb hby d1_97)
  have N6 := Fr.snoc X6 N0 ge_b3
  have V6 : Arv Z h6 b3 k3 .char (4 : Int32) [(.int (nar .char ch0))] (.int (0 : Int32)) := Arv.set A6 q6 S6 M6 H6 U6 (fits_nar_char _) W6 0 rfl (nle rfl)
  have K8 : Keep h0 h6 [] := K5.wr W6 (Or.inr sz_b3)
  have V10 : Arv Z h6 b3 k3 .char (4 : Int32) [(.int (nar .char ch0)), (.int (0 : Int32))] (.int (0 : Int32)) := V6.pad (pad_rep [(.int (nar .char ch0))] (.int (0 : Int32)) 1)
  obtain ⟨c9, A9, q9, S9, M9, H9, U9⟩ := id V10
  obtain ⟨T9, h9, X9, e9, W9, st9⟩ := stC X6 hx hZ e6 A9 (j := (1 : Int32)) (inb_of S9 ⟨(by decide : ¬ ((1 : Int32) < (0 : Int32))), (by decide : (1 : Int32) < (4 : Int32))⟩) (g := (mkF m 101 #[.val (.int (4 : Int32)), .val (.int ch0), .val (.int ch1), .val (.int ch2), .val (.int ch3)] [(.int ch1), (.int (1 : Int32)), (.ref b3), (.ref b3), (.ref b1), (.ref b1)])) rfl rfl (hb hby d1_101)
  have N9 := Fr.snoc X9 N6 ge_b3
  have V9 : Arv Z h9 b3 k3 .char (4 : Int32) [(.int (nar .char ch0)), (.int (nar .char ch1))] (.int (0 : Int32)) := Arv.set A9 q9 S9 M9 H9 U9 (fits_nar_char _) W9 1 rfl (nle rfl)
  have K11 : Keep h0 h9 [] := K8.wr W9 (Or.inr sz_b3)
  have V13 : Arv Z h9 b3 k3 .char (4 : Int32) [(.int (nar .char ch0)), (.int (nar .char ch1)), (.int (0 : Int32))] (.int (0 : Int32)) := V9.pad (pad_rep [(.int (nar .char ch0)), (.int (nar .char ch1))] (.int (0 : Int32)) 1)
  obtain ⟨c12, A12, q12, S12, M12, H12, U12⟩ := id V13
  obtain ⟨T12, h12, X12, e12, W12, st12⟩ := stC X9 hx hZ e9 A12 (j := (2 : Int32)) (inb_of S12 ⟨(by decide : ¬ ((2 : Int32) < (0 : Int32))), (by decide : (2 : Int32) < (4 : Int32))⟩) (g := (mkF m 105 #[.val (.int (4 : Int32)), .val (.int ch0), .val (.int ch1), .val (.int ch2), .val (.int ch3)] [(.int ch2), (.int (2 : Int32)), (.ref b3), (.ref b3), (.ref b1), (.ref b1)])) rfl rfl (hb hby d1_105)
  have N12 := Fr.snoc X12 N9 ge_b3
  have V12 : Arv Z h12 b3 k3 .char (4 : Int32) [(.int (nar .char ch0)), (.int (nar .char ch1)), (.int (nar .char ch2))] (.int (0 : Int32)) := Arv.set A12 q12 S12 M12 H12 U12 (fits_nar_char _) W12 2 rfl (nle rfl)
  have K14 : Keep h0 h12 [] := K11.wr W12 (Or.inr sz_b3)
  have V16 : Arv Z h12 b3 k3 .char (4 : Int32) [(.int (nar .char ch0)), (.int (nar .char ch1)), (.int (nar .char ch2)), (.int (0 : Int32))] (.int (0 : Int32)) := V12.pad (pad_rep [(.int (nar .char ch0)), (.int (nar .char ch1)), (.int (nar .char ch2))] (.int (0 : Int32)) 1)
  obtain ⟨c15, A15, q15, S15, M15, H15, U15⟩ := id V16
  obtain ⟨T15, h15, X15, e15, W15, st15⟩ := stC X12 hx hZ e12 A15 (j := (3 : Int32)) (inb_of S15 ⟨(by decide : ¬ ((3 : Int32) < (0 : Int32))), (by decide : (3 : Int32) < (4 : Int32))⟩) (g := (mkF m 110 #[.val (.int (4 : Int32)), .val (.int ch0), .val (.int ch1), .val (.int ch2), .val (.int ch3)] [(.int ch3), (.int (3 : Int32)), (.ref b3), (.ref b3), (.ref b1), (.ref b1)])) rfl rfl (hb hby d1_110)
  have N15 := Fr.snoc X15 N12 ge_b3
  have V15 : Arv Z h15 b3 k3 .char (4 : Int32) [(.int (nar .char ch0)), (.int (nar .char ch1)), (.int (nar .char ch2)), (.int (nar .char ch3))] (.int (0 : Int32)) := Arv.set A15 q15 S15 M15 H15 U15 (fits_nar_char _) W15 3 rfl (nle rfl)
  have K17 : Keep h0 h15 [] := K14.wr W15 (Or.inr sz_b3)
  have F19 := (((((A1.ext E3).wr W6).wr W9).wr W12).wr W15)
  have F20 := (((((D1_value.ext E3).other W6 (Or.inl ne_4)).other W9 (Or.inl ne_4)).other W12 (Or.inl ne_4)).other W15 (Or.inl ne_4))
  have F21 := (((((D1_coder.ext E3).other W6 (Or.inl ne_4)).other W9 (Or.inl ne_4)).other W12 (Or.inl ne_4)).other W15 (Or.inl ne_4))
  have F22 := ((((((S_CS.ext E1).ext E3).wr W6).wr W9).wr W12).wr W15)
  have hws : ∀ d ∈ StrChars.Road.words, d.before a0 Z = true := fun d hd => hw d ((by decide +kernel : ∀ d ∈ StrChars.Road.words, d ∈ tables_1) d hd)
  have Vc18 : Arv Z h15 b3 k3 .char (4 : Int32) (([(nar .char ch0), (nar .char ch1), (nar .char ch2), (nar .char ch3)] : List Int32).map Value.int) (.int (0 : Int32)) := V15
  have hp : ∀ c ∈ ([(nar .char ch0), (nar .char ch1), (nar .char ch2), (nar .char ch3)] : List Int32), ¬ c < 0 ∧ ¬ (255 : Int32) < c := (own_mS ⟨own_nneg _ (own_is_i2c _), q0⟩ (own_mS ⟨own_nneg _ (own_is_i2c _), q1⟩ (own_mS ⟨own_nneg _ (own_is_i2c _), q2⟩ (own_mS ⟨own_nneg _ (own_is_i2c _), q3⟩ own_m0))))
  obtain ⟨_, _, ⟨T18, L18, kk18, nn18⟩, -, X18, ⟨Lc18, hQ18, l18, y18, z18⟩, st18⟩ := X15.specialBack hx (y := (⟨"java/lang/String", "<init>", "([C)V"⟩ : MethodName)) rfl hown (mvT hZ (wk hw 10 rfl)) (mvT hZ (wk hw 11 rfl)) (mvT hZ (wk hw 12 rfl)) (by decide) (StrChars.Road.backV (W := 1) hZ hws (kI := 4) (wk hw 7 rfl) (cs := ([(nar .char ch0), (nar .char ch1), (nar .char ch2), (nar .char ch3)] : List Int32)) (bs := ([(nar .char ch0), (nar .char ch1), (nar .char ch2), (nar .char ch3)] : List Int32).map (fun c => c.toInt8.toInt32)) (n := 4) ge_b1 (Nat.le_trans Z0 K17.1) F19 F20 F21 Vc18 F22 ncs rfl rfl (by decide) (by decide) hp rfl (by decide) (by decide)) (g := (mkF m 111 #[.val (.int (4 : Int32)), .val (.int ch0), .val (.int ch1), .val (.int ch2), .val (.int ch3)] [(.ref b3), (.ref b1), (.ref b1)])) rfl (by rw [hml]; rfl) (Steps.refl _) (a := b1) (argsL := [(.ref b3)]) (rest := [(.ref b1)]) (lenOf pdx___C_V rfl) rfl (by show 2 * 0 + _ ≤ _; exact Nat.le_of_eq rfl) (hb hby d1_111) (fun _ _ => ⟨rfl, e15, nle rfl, nle rfl⟩)
  dsimp only [Pt.U, Pt.locs, Pt.cells, Pt.slots] at X18 l18 y18 z18 st18 hQ18
  subst l18 y18 z18
  obtain ⟨rfl, Nq18, Kq18, Ex18, Fc18, t18, kb18, -, fr18, -, Fv18, Av18⟩ := hQ18
  have N18 := Fr.app N15 Nq18
  obtain ⟨h18, e18⟩ : ∃ h, T18.heap = h := ⟨_, rfl⟩
  rw [e18] at Kq18 Ex18 Fc18 Fv18 Av18
  have sz_t18 : h0.size ≤ t18 := Nat.le_trans K17.1 fr18
  have ge_t18 : n0 ≤ t18 := Nat.le_trans Z0 sz_t18
  have ne_23 : b1 ≠ t18 := Nat.ne_of_lt (Nat.lt_of_lt_of_le F19.lt fr18)
  have ne_24 : b3 ≠ t18 := Nat.ne_of_lt (Nat.lt_of_lt_of_le V15.lt fr18)
  have K25 : Keep h0 h18 [] := K17.trans Kq18 (own_mS (Or.inr sz_b1) own_m0)
  have Av18 : Arv Z h18 t18 kb18 .byte (4 : Int32) [(.int (nar .char ch0).toInt8.toInt32), (.int (nar .char ch1).toInt8.toInt32), (.int (nar .char ch2).toInt8.toInt32), (.int (nar .char ch3).toInt8.toInt32)] (.int (0 : Int32)) := Av18
  obtain ⟨fs, hr, hrun, hended, hW, hsame⟩ := X18.leave (v := some (.ref b1)) (fun h => by rw [Bd.returns] at h; cases h)
  refine ⟨_, _, pre0 _ ?_, hrun, hended, _, _, rfl, ?_, ⟨_, rfl⟩, hW, hsame.mono (nle rfl) (nle rfl)⟩
  · show Steps p.tables e below (s₁.setTop (mkF m 0 #[.val (.int (4 : Int32)), .val (.int ch0), .val (.int ch1), .val (.int ch2), .val (.int ch3)] [])) _
    refine XS.iloadN X0.here hx rfl (hb hby d1_0) rfl ?_
    show Steps p.tables e below (s₁.setTop (mkF m 1 #[.val (.int (4 : Int32)), .val (.int ch0), .val (.int ch1), .val (.int ch2), .val (.int ch3)] [(.int (4 : Int32))])) _
    refine XS.ifYes X0.here hx rfl (pc0 := 1) (pc' := 15) rfl (hb hby d1_1) rfl ((if0 _ _).trans (feq (by decide : ¬ ((4 : Int32) = (0 : Int32)))).2) (by decide) (by decide) ?_
    show Steps p.tables e below (s₁.setTop (mkF m 15 #[.val (.int (4 : Int32)), .val (.int ch0), .val (.int ch1), .val (.int ch2), .val (.int ch3)] [])) _
    refine XS.iloadN X0.here hx rfl (hb hby d1_15) rfl ?_
    refine XS.iconst X0.here hx rfl (hb hby d1_16) ?_
    show Steps p.tables e below (s₁.setTop (mkF m 17 #[.val (.int (4 : Int32)), .val (.int ch0), .val (.int ch1), .val (.int ch2), .val (.int ch3)] [(.int (1 : Int32)), (.int (4 : Int32))])) _
    refine XS.icmpYes X0.here hx rfl (pc0 := 17) (pc' := 35) rfl (hb hby d1_17) rfl (feq (by decide : ¬ ((4 : Int32) = (1 : Int32)))).2 (by decide) (by decide) ?_
    show Steps p.tables e below (s₁.setTop (mkF m 35 #[.val (.int (4 : Int32)), .val (.int ch0), .val (.int ch1), .val (.int ch2), .val (.int ch3)] [])) _
    refine XS.iloadN X0.here hx rfl (hb hby d1_35) rfl ?_
    refine XS.iconst X0.here hx rfl (hb hby d1_36) ?_
    show Steps p.tables e below (s₁.setTop (mkF m 37 #[.val (.int (4 : Int32)), .val (.int ch0), .val (.int ch1), .val (.int ch2), .val (.int ch3)] [(.int (2 : Int32)), (.int (4 : Int32))])) _
    refine XS.icmpYes X0.here hx rfl (pc0 := 37) (pc' := 59) rfl (hb hby d1_37) rfl (feq (by decide : ¬ ((4 : Int32) = (2 : Int32)))).2 (by decide) (by decide) ?_
    show Steps p.tables e below (s₁.setTop (mkF m 59 #[.val (.int (4 : Int32)), .val (.int ch0), .val (.int ch1), .val (.int ch2), .val (.int ch3)] [])) _
    refine XS.iloadN X0.here hx rfl (hb hby d1_59) rfl ?_
    refine XS.iconst X0.here hx rfl (hb hby d1_60) ?_
    show Steps p.tables e below (s₁.setTop (mkF m 61 #[.val (.int (4 : Int32)), .val (.int ch0), .val (.int ch1), .val (.int ch2), .val (.int ch3)] [(.int (3 : Int32)), (.int (4 : Int32))])) _
    refine XS.icmpYes X0.here hx rfl (pc0 := 61) (pc' := 87) rfl (hb hby d1_61) rfl (feq (by decide : ¬ ((4 : Int32) = (3 : Int32)))).2 (by decide) (by decide) ?_
    show Steps p.tables e below (s₁.setTop (mkF m 87 #[.val (.int (4 : Int32)), .val (.int ch0), .val (.int ch1), .val (.int ch2), .val (.int ch3)] [])) _
    refine st1 _ ?_
    show Steps p.tables e below (T1.setTop (mkF m 90 #[.val (.int (4 : Int32)), .val (.int ch0), .val (.int ch1), .val (.int ch2), .val (.int ch3)] [(.ref b1)])) _
    refine XS.dup X1.here hx rfl (hb hby d1_90) rfl rfl ?_
    refine XS.iconst X1.here hx rfl (hb hby d1_91) ?_
    show Steps p.tables e below (T1.setTop (mkF m 92 #[.val (.int (4 : Int32)), .val (.int ch0), .val (.int ch1), .val (.int ch2), .val (.int ch3)] [(.int (4 : Int32)), (.ref b1), (.ref b1)])) _
    refine st3 _ ?_
    show Steps p.tables e below (T3.setTop (mkF m 94 #[.val (.int (4 : Int32)), .val (.int ch0), .val (.int ch1), .val (.int ch2), .val (.int ch3)] [(.ref b3), (.ref b1), (.ref b1)])) _
    refine XS.dup X3.here hx rfl (hb hby d1_94) rfl rfl ?_
    refine XS.iconst X3.here hx rfl (hb hby d1_95) ?_
    show Steps p.tables e below (T3.setTop (mkF m 96 #[.val (.int (4 : Int32)), .val (.int ch0), .val (.int ch1), .val (.int ch2), .val (.int ch3)] [(.int (0 : Int32)), (.ref b3), (.ref b3), (.ref b1), (.ref b1)])) _
    refine XS.iloadN X3.here hx rfl (hb hby d1_96) rfl ?_
    show Steps p.tables e below (T3.setTop (mkF m 97 #[.val (.int (4 : Int32)), .val (.int ch0), .val (.int ch1), .val (.int ch2), .val (.int ch3)] [(.int ch0), (.int (0 : Int32)), (.ref b3), (.ref b3), (.ref b1), (.ref b1)])) _
    refine st6 _ ?_
    show Steps p.tables e below (T6.setTop (mkF m 98 #[.val (.int (4 : Int32)), .val (.int ch0), .val (.int ch1), .val (.int ch2), .val (.int ch3)] [(.ref b3), (.ref b1), (.ref b1)])) _
    refine XS.dup X6.here hx rfl (hb hby d1_98) rfl rfl ?_
    refine XS.iconst X6.here hx rfl (hb hby d1_99) ?_
    show Steps p.tables e below (T6.setTop (mkF m 100 #[.val (.int (4 : Int32)), .val (.int ch0), .val (.int ch1), .val (.int ch2), .val (.int ch3)] [(.int (1 : Int32)), (.ref b3), (.ref b3), (.ref b1), (.ref b1)])) _
    refine XS.iloadN X6.here hx rfl (hb hby d1_100) rfl ?_
    show Steps p.tables e below (T6.setTop (mkF m 101 #[.val (.int (4 : Int32)), .val (.int ch0), .val (.int ch1), .val (.int ch2), .val (.int ch3)] [(.int ch1), (.int (1 : Int32)), (.ref b3), (.ref b3), (.ref b1), (.ref b1)])) _
    refine st9 _ ?_
    show Steps p.tables e below (T9.setTop (mkF m 102 #[.val (.int (4 : Int32)), .val (.int ch0), .val (.int ch1), .val (.int ch2), .val (.int ch3)] [(.ref b3), (.ref b1), (.ref b1)])) _
    refine XS.dup X9.here hx rfl (hb hby d1_102) rfl rfl ?_
    refine XS.iconst X9.here hx rfl (hb hby d1_103) ?_
    show Steps p.tables e below (T9.setTop (mkF m 104 #[.val (.int (4 : Int32)), .val (.int ch0), .val (.int ch1), .val (.int ch2), .val (.int ch3)] [(.int (2 : Int32)), (.ref b3), (.ref b3), (.ref b1), (.ref b1)])) _
    refine XS.iloadN X9.here hx rfl (hb hby d1_104) rfl ?_
    show Steps p.tables e below (T9.setTop (mkF m 105 #[.val (.int (4 : Int32)), .val (.int ch0), .val (.int ch1), .val (.int ch2), .val (.int ch3)] [(.int ch2), (.int (2 : Int32)), (.ref b3), (.ref b3), (.ref b1), (.ref b1)])) _
    refine st12 _ ?_
    show Steps p.tables e below (T12.setTop (mkF m 106 #[.val (.int (4 : Int32)), .val (.int ch0), .val (.int ch1), .val (.int ch2), .val (.int ch3)] [(.ref b3), (.ref b1), (.ref b1)])) _
    refine XS.dup X12.here hx rfl (hb hby d1_106) rfl rfl ?_
    refine XS.iconst X12.here hx rfl (hb hby d1_107) ?_
    show Steps p.tables e below (T12.setTop (mkF m 108 #[.val (.int (4 : Int32)), .val (.int ch0), .val (.int ch1), .val (.int ch2), .val (.int ch3)] [(.int (3 : Int32)), (.ref b3), (.ref b3), (.ref b1), (.ref b1)])) _
    refine XS.iload X12.here hx rfl (hb hby d1_108) rfl ?_
    show Steps p.tables e below (T12.setTop (mkF m 110 #[.val (.int (4 : Int32)), .val (.int ch0), .val (.int ch1), .val (.int ch2), .val (.int ch3)] [(.int ch3), (.int (3 : Int32)), (.ref b3), (.ref b3), (.ref b1), (.ref b1)])) _
    refine st15 _ ?_
    show Steps p.tables e below (T15.setTop (mkF m 111 #[.val (.int (4 : Int32)), .val (.int ch0), .val (.int ch1), .val (.int ch2), .val (.int ch3)] [(.ref b3), (.ref b1), (.ref b1)])) _
    refine st18.trans ?_
    show Steps p.tables e below (T18.setTop (mkF m 114 #[.val (.int (4 : Int32)), .val (.int ch0), .val (.int ch1), .val (.int ch2), .val (.int ch3)] [(.ref b1)])) _
    exact X18.areturnOut hx rfl Bd.returns rfl (hb hby d1_114) hr
  · show Q_m1l_4 Z ch0 ch1 ch2 ch3 wcs h0 n0 _ T18.heap _
    rw [e18]
    exact ⟨b1, t18, kb18, rfl, N18, K25, Ex18, Fc18, Fv18, Av18, sz_b1⟩
def Q_m1u_4 (Z : State) (ch0 : Int32) (ch1 : Int32) (ch2 : Int32) (ch3 : Int32) (f : Int32) (x : Int32) (wcs : Int32) (h0 : Heap) (n0 : Nat) (v : Option Value) (h : Heap) (L : List Loc) : Prop := ∃ (a : Addr) (t : Addr) (k : ClassId), v = (some (.ref a)) ∧ Fr n0 L ∧ Keep h0 h [] ∧ Exa Z h a "java/lang/String" ∧ Fld Z h a "java/lang/String" "coder" "B" (.int (1 : Int32)) ∧ Fld Z h a "java/lang/String" "value" "[B" (.ref t) ∧ Arv Z h t k .byte (8 : Int32) [(.int (own_b0 (nar .char ch0))), (.int (own_b1 (nar .char ch0))), (.int (own_b0 (nar .char ch1))), (.int (own_b1 (nar .char ch1))), (.int (own_b0 (nar .char ch2))), (.int (own_b1 (nar .char ch2))), (.int (own_b0 (nar .char ch3))), (.int (own_b1 (nar .char ch3)))] (.int (0 : Int32)) ∧ h0.size ≤ a
theorem ef_m1u_4 (m : MethodId) (ch0 : Int32) (ch1 : Int32) (ch2 : Int32) (ch3 : Int32) (f : Int32) (x : Int32) (wcs : Int32) : entryFrame m #[(.int (4 : Int32)), (.int ch0), (.int ch1), (.int ch2), (.int ch3)] 5 = mkF m 0 #[.val (.int (4 : Int32)), .val (.int ch0), .val (.int ch1), .val (.int ch2), .val (.int ch3)] [] := by first | (simp [entryFrame, mkF, argsToLocals, Value.category]; done) | rfl
set_option maxRecDepth 65536 in
set_option maxHeartbeats 40000000 in
theorem m1u_4 (l : Launch) (Z : State) (a0 : Array Value) (hw : ∀ d ∈ tables_1, d.before a0 Z = true) (ws : List Jvm.Cond) (ch0 : Int32) (ch1 : Int32) (ch2 : Int32) (ch3 : Int32) (f : Int32) (x : Int32) (wcs : Int32) (h0 : Heap) (n0 : Nat) (Z0 : n0 ≤ h0.size) (S_CS : Sta Z h0 "java/lang/String" "COMPACT_STRINGS" "Z" (.int wcs)) (ncs : ¬ (wcs = (0 : Int32))) (S_AD : Sta Z h0 "java/lang/StringUTF16" "$assertionsDisabled" "Z" (.int (1 : Int32))) (S_HI : Sta Z h0 "java/lang/StringUTF16" "HI_BYTE_SHIFT" "I" (.int (0 : Int32))) (S_LO : Sta Z h0 "java/lang/StringUTF16" "LO_BYTE_SHIFT" "I" (.int (8 : Int32))) (hT : own_T (4 : Int32) [(.int (nar .char ch0)), (.int (nar .char ch1)), (.int (nar .char ch2)), (.int (nar .char ch3))] (8 : Int32) [(.int (own_b0 (nar .char ch0))), (.int (own_b1 (nar .char ch0))), (.int (own_b0 (nar .char ch1))), (.int (own_b1 (nar .char ch1))), (.int (own_b0 (nar .char ch2))), (.int (own_b1 (nar .char ch2))), (.int (own_b0 (nar .char ch3))), (.int (own_b1 (nar .char ch3)))] f x) (hu : own_u (own_b0 x) (own_b1 x) = x) :
    MetFree l (⟨"com/example/grantline/grantline/authz/UnreservedMatchesPinLaw", "build", "(ICCCC)Ljava/lang/String;"⟩ : MethodName) (head1 (Jvm.Cond.code (⟨"com/example/grantline/grantline/authz/UnreservedMatchesPinLaw", "build", "(ICCCC)Ljava/lang/String;"⟩ : MethodName) method_3_code 5 (some (.object "java/lang/String")) :: ws) ({ frames := 6, cells := 4, slots := 20, locals := 88 } : Room)) (fun ar_ U => ar_ = #[(.int (4 : Int32)), (.int ch0), (.int ch1), (.int ch2), (.int ch3)] ∧ Z.Warmed39 U.vm ∧ U.heap = h0) (fun _ _ _ _ _ => True) (fun _ U o U' => ∃ v L, o = .returned v ∧ Q_m1u_4 Z ch0 ch1 ch2 ch3 f x wcs h0 n0 v U'.heap L ∧ FrameEnd U o U' L ({ frames := 6, cells := 4, slots := 20, locals := 88 } : Room).cells ({ frames := 6, cells := 4, slots := 20, locals := 88 } : Room).slots) := by
  refine MetFree.of_bodySF (plainFor_of_name pnx_com_example_grantline_grantline_authz_UnreservedMatchesPinLaw) hisR ?_
  intro p e s m args below meth c s₁ Bd hml0 hP hK
  obtain ⟨rfl, hZ, hh⟩ := hP
  have hx := Bd.exec
  have hby := Bd.bytes
  have hml : c.maxLocals = 5 := hml0
  have hown : s.vm.findClass "com/example/grantline/grantline/authz/UnreservedMatchesPinLaw" = some m.cls := findClass_of_methodNamed Bd.named
  have hnm := (name_of_methodNamed Bd.named Bd.method).1
  have X0 : Stand p l e ({ frames := 6, cells := 4, slots := 20, locals := 88 } : Room) s m #[(.int (4 : Int32)), (.int ch0), (.int ch1), (.int ch2), (.int ch3)] below meth c s₁ [] 0 0 := Stand.of_body Bd
  have e0 : s₁.heap = h0 := by rw [← hh, Bd.state]; rfl
  have N0 := Fr.nil n0
  have pre0 : ∀ tq_, Steps p.tables e below (s₁.setTop (mkF m 0 #[.val (.int (4 : Int32)), .val (.int ch0), .val (.int ch1), .val (.int ch2), .val (.int ch3)] [])) tq_ → Steps p.tables e below (s₁.setTop (entryFrame m #[(.int (4 : Int32)), (.int ch0), (.int ch1), (.int ch2), (.int ch3)] 5)) tq_ := fun tq_ kt_ => castTop (ef_m1u_4 m ch0 ch1 ch2 ch3 f x wcs ) kt_
  obtain ⟨T1, h1, X1, e1, E1, A1, D1, -, st1⟩ := newO X0 hx hZ hown (wk hw 6 rfl) (wk hw 7 rfl) (wk hw 8 rfl) e0 (g := (mkF m 87 #[.val (.int (4 : Int32)), .val (.int ch0), .val (.int ch1), .val (.int ch2), .val (.int ch3)] [])) rfl (hb hby d1_87) (nle rfl) (nle rfl)
  obtain ⟨b1, g1⟩ : ∃ z, z = h0.size := ⟨_, rfl⟩
  rw [← g1] at A1 D1 st1
  have sz_b1 : h0.size ≤ b1 := (Nat.le_of_eq g1.symm)
  have ge_b1 : n0 ≤ b1 := Nat.le_trans Z0 sz_b1
  have K2 : Keep h0 h1 [] := (Keep.refl h0 []).ext E1
  have D1_value := D1 (Or.inr (wk hw 22 rfl)) (ty := (.array .byte)) (by decide)
  have D1_coder := D1 (Or.inr (wk hw 23 rfl)) (ty := .byte) (by decide)
  obtain ⟨T3, h3, k3, X3, e3, E3, A3, st3⟩ := newP X1 hx hZ (wk hw 9 rfl) e1 (g := (mkF m 92 #[.val (.int (4 : Int32)), .val (.int ch0), .val (.int ch1), .val (.int ch2), .val (.int ch3)] [(.int (4 : Int32)), (.ref b1), (.ref b1)])) rfl (hb hby d1_92) rfl (by decide) (cap := 4) (by decide) (by decide) (nle rfl) (nle rfl)
  obtain ⟨b3, g3⟩ : ∃ z, z = h1.size := ⟨_, rfl⟩
  rw [← g3] at A3 st3
  have V3 : Arv Z h3 b3 k3 .char (4 : Int32) [] (.int (0 : Int32)) := Arv.new A3 (by decide)
  have sz_b3 : h0.size ≤ b3 := Nat.le_trans K2.1 (Nat.le_of_eq g3.symm)
  have ge_b3 : n0 ≤ b3 := Nat.le_trans Z0 sz_b3
  have ne_4 : b1 ≠ b3 := Nat.ne_of_lt (Nat.lt_of_lt_of_le A1.lt (Nat.le_of_eq g3.symm))
  have K5 : Keep h0 h3 [] := K2.ext E3
  have V7 : Arv Z h3 b3 k3 .char (4 : Int32) [(.int (0 : Int32))] (.int (0 : Int32)) := V3.pad (pad_rep [] (.int (0 : Int32)) 1)
  obtain ⟨c6, A6, q6, S6, M6, H6, U6⟩ := id V7
  obtain ⟨T6, h6, X6, e6, W6, st6⟩ := stC X3 hx hZ e3 A6 (j := (0 : Int32)) (inb_of S6 ⟨(by decide : ¬ ((0 : Int32) < (0 : Int32))), (by decide : (0 : Int32) < (4 : Int32))⟩) (g := (mkF m 97 #[.val (.int (4 : Int32)), .val (.int ch0), .val (.int ch1), .val (.int ch2), .val (.int ch3)] [(.int ch0), (.int (0 : Int32)), (.ref b3), (.ref b3), (.ref b1), (.ref b1)])) rfl rfl (hb hby d1_97)
  have N6 := Fr.snoc X6 N0 ge_b3
  have V6 : Arv Z h6 b3 k3 .char (4 : Int32) [(.int (nar .char ch0))] (.int (0 : Int32)) := Arv.set A6 q6 S6 M6 H6 U6 (fits_nar_char _) W6 0 rfl (nle rfl)
  have K8 : Keep h0 h6 [] := K5.wr W6 (Or.inr sz_b3)
  have V10 : Arv Z h6 b3 k3 .char (4 : Int32) [(.int (nar .char ch0)), (.int (0 : Int32))] (.int (0 : Int32)) := V6.pad (pad_rep [(.int (nar .char ch0))] (.int (0 : Int32)) 1)
  obtain ⟨c9, A9, q9, S9, M9, H9, U9⟩ := id V10
  obtain ⟨T9, h9, X9, e9, W9, st9⟩ := stC X6 hx hZ e6 A9 (j := (1 : Int32)) (inb_of S9 ⟨(by decide : ¬ ((1 : Int32) < (0 : Int32))), (by decide : (1 : Int32) < (4 : Int32))⟩) (g := (mkF m 101 #[.val (.int (4 : Int32)), .val (.int ch0), .val (.int ch1), .val (.int ch2), .val (.int ch3)] [(.int ch1), (.int (1 : Int32)), (.ref b3), (.ref b3), (.ref b1), (.ref b1)])) rfl rfl (hb hby d1_101)
  have N9 := Fr.snoc X9 N6 ge_b3
  have V9 : Arv Z h9 b3 k3 .char (4 : Int32) [(.int (nar .char ch0)), (.int (nar .char ch1))] (.int (0 : Int32)) := Arv.set A9 q9 S9 M9 H9 U9 (fits_nar_char _) W9 1 rfl (nle rfl)
  have K11 : Keep h0 h9 [] := K8.wr W9 (Or.inr sz_b3)
  have V13 : Arv Z h9 b3 k3 .char (4 : Int32) [(.int (nar .char ch0)), (.int (nar .char ch1)), (.int (0 : Int32))] (.int (0 : Int32)) := V9.pad (pad_rep [(.int (nar .char ch0)), (.int (nar .char ch1))] (.int (0 : Int32)) 1)
  obtain ⟨c12, A12, q12, S12, M12, H12, U12⟩ := id V13
  obtain ⟨T12, h12, X12, e12, W12, st12⟩ := stC X9 hx hZ e9 A12 (j := (2 : Int32)) (inb_of S12 ⟨(by decide : ¬ ((2 : Int32) < (0 : Int32))), (by decide : (2 : Int32) < (4 : Int32))⟩) (g := (mkF m 105 #[.val (.int (4 : Int32)), .val (.int ch0), .val (.int ch1), .val (.int ch2), .val (.int ch3)] [(.int ch2), (.int (2 : Int32)), (.ref b3), (.ref b3), (.ref b1), (.ref b1)])) rfl rfl (hb hby d1_105)
  have N12 := Fr.snoc X12 N9 ge_b3
  have V12 : Arv Z h12 b3 k3 .char (4 : Int32) [(.int (nar .char ch0)), (.int (nar .char ch1)), (.int (nar .char ch2))] (.int (0 : Int32)) := Arv.set A12 q12 S12 M12 H12 U12 (fits_nar_char _) W12 2 rfl (nle rfl)
  have K14 : Keep h0 h12 [] := K11.wr W12 (Or.inr sz_b3)
  have V16 : Arv Z h12 b3 k3 .char (4 : Int32) [(.int (nar .char ch0)), (.int (nar .char ch1)), (.int (nar .char ch2)), (.int (0 : Int32))] (.int (0 : Int32)) := V12.pad (pad_rep [(.int (nar .char ch0)), (.int (nar .char ch1)), (.int (nar .char ch2))] (.int (0 : Int32)) 1)
  obtain ⟨c15, A15, q15, S15, M15, H15, U15⟩ := id V16
  obtain ⟨T15, h15, X15, e15, W15, st15⟩ := stC X12 hx hZ e12 A15 (j := (3 : Int32)) (inb_of S15 ⟨(by decide : ¬ ((3 : Int32) < (0 : Int32))), (by decide : (3 : Int32) < (4 : Int32))⟩) (g := (mkF m 110 #[.val (.int (4 : Int32)), .val (.int ch0), .val (.int ch1), .val (.int ch2), .val (.int ch3)] [(.int ch3), (.int (3 : Int32)), (.ref b3), (.ref b3), (.ref b1), (.ref b1)])) rfl rfl (hb hby d1_110)
  have N15 := Fr.snoc X15 N12 ge_b3
  have V15 : Arv Z h15 b3 k3 .char (4 : Int32) [(.int (nar .char ch0)), (.int (nar .char ch1)), (.int (nar .char ch2)), (.int (nar .char ch3))] (.int (0 : Int32)) := Arv.set A15 q15 S15 M15 H15 U15 (fits_nar_char _) W15 3 rfl (nle rfl)
  have K17 : Keep h0 h15 [] := K14.wr W15 (Or.inr sz_b3)
  have F19 := (((((A1.ext E3).wr W6).wr W9).wr W12).wr W15)
  have F20 := (((((D1_value.ext E3).other W6 (Or.inl ne_4)).other W9 (Or.inl ne_4)).other W12 (Or.inl ne_4)).other W15 (Or.inl ne_4))
  have F21 := (((((D1_coder.ext E3).other W6 (Or.inl ne_4)).other W9 (Or.inl ne_4)).other W12 (Or.inl ne_4)).other W15 (Or.inl ne_4))
  have F22 := ((((((S_CS.ext E1).ext E3).wr W6).wr W9).wr W12).wr W15)
  have F23 := ((((((S_AD.ext E1).ext E3).wr W6).wr W9).wr W12).wr W15)
  have F24 := ((((((S_HI.ext E1).ext E3).wr W6).wr W9).wr W12).wr W15)
  have F25 := ((((((S_LO.ext E1).ext E3).wr W6).wr W9).wr W12).wr W15)
  obtain ⟨_, _, ⟨T18, L18, kk18, nn18⟩, -, X18, ⟨Lc18, hQ18, l18, y18, z18⟩, st18⟩ := X15.specialBack hx (y := (⟨"java/lang/String", "<init>", "([C)V"⟩ : MethodName)) rfl hown (mvT hZ (wk hw 10 rfl)) (mvT hZ (wk hw 11 rfl)) (mvT hZ (wk hw 12 rfl)) (by decide) (backOf (W := 1) (m2u l Z a0 hw [] b1 .null (.int (0 : Int32)) b3 k3 (4 : Int32) [(.int (nar .char ch0)), (.int (nar .char ch1)), (.int (nar .char ch2)), (.int (nar .char ch3))] (8 : Int32) [(.int (own_b0 (nar .char ch0))), (.int (own_b1 (nar .char ch0))), (.int (own_b0 (nar .char ch1))), (.int (own_b1 (nar .char ch1))), (.int (own_b0 (nar .char ch2))), (.int (own_b1 (nar .char ch2))), (.int (own_b0 (nar .char ch3))), (.int (own_b1 (nar .char ch3)))] f x wcs h15 n0 (Nat.le_trans Z0 K17.1) F19 F20 F21 ge_b1 V15 F22 ncs F23 F24 F25 hT hu (by decide)) hZ (wk hw 12 rfl) (wk hw 8 rfl) (by decide) (by decide)) (g := (mkF m 111 #[.val (.int (4 : Int32)), .val (.int ch0), .val (.int ch1), .val (.int ch2), .val (.int ch3)] [(.ref b3), (.ref b1), (.ref b1)])) rfl (by rw [hml]; rfl) (Steps.refl _) (a := b1) (argsL := [(.ref b3)]) (rest := [(.ref b1)]) (lenOf pdx___C_V rfl) rfl (by show 2 * 0 + _ ≤ _; exact Nat.le_of_eq rfl) (hb hby d1_111) (fun _ _ => ⟨rfl, e15, nle rfl, nle rfl⟩)
  dsimp only [Pt.U, Pt.locs, Pt.cells, Pt.slots] at X18 l18 y18 z18 st18 hQ18
  subst l18 y18 z18
  obtain ⟨t_18, kt_18, rfl, Nq18, Kq18, P18_0, P18_1, P18_2, P18_3, P18_4⟩ := hQ18
  have N18 := Fr.app N15 Nq18
  obtain ⟨h18, e18⟩ : ∃ h, T18.heap = h := ⟨_, rfl⟩
  rw [e18] at Kq18 P18_0 P18_1 P18_2 P18_3
  have sz_t_18 : h0.size ≤ t_18 := Nat.le_trans K17.1 P18_4
  have ge_t_18 : n0 ≤ t_18 := Nat.le_trans Z0 sz_t_18
  have ne_26 : b1 ≠ t_18 := Nat.ne_of_lt (Nat.lt_of_lt_of_le F19.lt P18_4)
  have ne_27 : b3 ≠ t_18 := Nat.ne_of_lt (Nat.lt_of_lt_of_le V15.lt P18_4)
  have ns18 := (nsS F19.nostat ns0)
  have K28 : Keep h0 h18 [] := K17.trans Kq18 (own_mS (Or.inr sz_b1) own_m0)
  obtain ⟨fs, hr, hrun, hended, hW, hsame⟩ := X18.leave (v := some (.ref b1)) (fun h => by rw [Bd.returns] at h; cases h)
  refine ⟨_, _, pre0 _ ?_, hrun, hended, _, _, rfl, ?_, ⟨_, rfl⟩, hW, hsame.mono (nle rfl) (nle rfl)⟩
  · show Steps p.tables e below (s₁.setTop (mkF m 0 #[.val (.int (4 : Int32)), .val (.int ch0), .val (.int ch1), .val (.int ch2), .val (.int ch3)] [])) _
    refine XS.iloadN X0.here hx rfl (hb hby d1_0) rfl ?_
    show Steps p.tables e below (s₁.setTop (mkF m 1 #[.val (.int (4 : Int32)), .val (.int ch0), .val (.int ch1), .val (.int ch2), .val (.int ch3)] [(.int (4 : Int32))])) _
    refine XS.ifYes X0.here hx rfl (pc0 := 1) (pc' := 15) rfl (hb hby d1_1) rfl ((if0 _ _).trans (feq (by decide : ¬ ((4 : Int32) = (0 : Int32)))).2) (by decide) (by decide) ?_
    show Steps p.tables e below (s₁.setTop (mkF m 15 #[.val (.int (4 : Int32)), .val (.int ch0), .val (.int ch1), .val (.int ch2), .val (.int ch3)] [])) _
    refine XS.iloadN X0.here hx rfl (hb hby d1_15) rfl ?_
    refine XS.iconst X0.here hx rfl (hb hby d1_16) ?_
    show Steps p.tables e below (s₁.setTop (mkF m 17 #[.val (.int (4 : Int32)), .val (.int ch0), .val (.int ch1), .val (.int ch2), .val (.int ch3)] [(.int (1 : Int32)), (.int (4 : Int32))])) _
    refine XS.icmpYes X0.here hx rfl (pc0 := 17) (pc' := 35) rfl (hb hby d1_17) rfl (feq (by decide : ¬ ((4 : Int32) = (1 : Int32)))).2 (by decide) (by decide) ?_
    show Steps p.tables e below (s₁.setTop (mkF m 35 #[.val (.int (4 : Int32)), .val (.int ch0), .val (.int ch1), .val (.int ch2), .val (.int ch3)] [])) _
    refine XS.iloadN X0.here hx rfl (hb hby d1_35) rfl ?_
    refine XS.iconst X0.here hx rfl (hb hby d1_36) ?_
    show Steps p.tables e below (s₁.setTop (mkF m 37 #[.val (.int (4 : Int32)), .val (.int ch0), .val (.int ch1), .val (.int ch2), .val (.int ch3)] [(.int (2 : Int32)), (.int (4 : Int32))])) _
    refine XS.icmpYes X0.here hx rfl (pc0 := 37) (pc' := 59) rfl (hb hby d1_37) rfl (feq (by decide : ¬ ((4 : Int32) = (2 : Int32)))).2 (by decide) (by decide) ?_
    show Steps p.tables e below (s₁.setTop (mkF m 59 #[.val (.int (4 : Int32)), .val (.int ch0), .val (.int ch1), .val (.int ch2), .val (.int ch3)] [])) _
    refine XS.iloadN X0.here hx rfl (hb hby d1_59) rfl ?_
    refine XS.iconst X0.here hx rfl (hb hby d1_60) ?_
    show Steps p.tables e below (s₁.setTop (mkF m 61 #[.val (.int (4 : Int32)), .val (.int ch0), .val (.int ch1), .val (.int ch2), .val (.int ch3)] [(.int (3 : Int32)), (.int (4 : Int32))])) _
    refine XS.icmpYes X0.here hx rfl (pc0 := 61) (pc' := 87) rfl (hb hby d1_61) rfl (feq (by decide : ¬ ((4 : Int32) = (3 : Int32)))).2 (by decide) (by decide) ?_
    show Steps p.tables e below (s₁.setTop (mkF m 87 #[.val (.int (4 : Int32)), .val (.int ch0), .val (.int ch1), .val (.int ch2), .val (.int ch3)] [])) _
    refine st1 _ ?_
    show Steps p.tables e below (T1.setTop (mkF m 90 #[.val (.int (4 : Int32)), .val (.int ch0), .val (.int ch1), .val (.int ch2), .val (.int ch3)] [(.ref b1)])) _
    refine XS.dup X1.here hx rfl (hb hby d1_90) rfl rfl ?_
    refine XS.iconst X1.here hx rfl (hb hby d1_91) ?_
    show Steps p.tables e below (T1.setTop (mkF m 92 #[.val (.int (4 : Int32)), .val (.int ch0), .val (.int ch1), .val (.int ch2), .val (.int ch3)] [(.int (4 : Int32)), (.ref b1), (.ref b1)])) _
    refine st3 _ ?_
    show Steps p.tables e below (T3.setTop (mkF m 94 #[.val (.int (4 : Int32)), .val (.int ch0), .val (.int ch1), .val (.int ch2), .val (.int ch3)] [(.ref b3), (.ref b1), (.ref b1)])) _
    refine XS.dup X3.here hx rfl (hb hby d1_94) rfl rfl ?_
    refine XS.iconst X3.here hx rfl (hb hby d1_95) ?_
    show Steps p.tables e below (T3.setTop (mkF m 96 #[.val (.int (4 : Int32)), .val (.int ch0), .val (.int ch1), .val (.int ch2), .val (.int ch3)] [(.int (0 : Int32)), (.ref b3), (.ref b3), (.ref b1), (.ref b1)])) _
    refine XS.iloadN X3.here hx rfl (hb hby d1_96) rfl ?_
    show Steps p.tables e below (T3.setTop (mkF m 97 #[.val (.int (4 : Int32)), .val (.int ch0), .val (.int ch1), .val (.int ch2), .val (.int ch3)] [(.int ch0), (.int (0 : Int32)), (.ref b3), (.ref b3), (.ref b1), (.ref b1)])) _
    refine st6 _ ?_
    show Steps p.tables e below (T6.setTop (mkF m 98 #[.val (.int (4 : Int32)), .val (.int ch0), .val (.int ch1), .val (.int ch2), .val (.int ch3)] [(.ref b3), (.ref b1), (.ref b1)])) _
    refine XS.dup X6.here hx rfl (hb hby d1_98) rfl rfl ?_
    refine XS.iconst X6.here hx rfl (hb hby d1_99) ?_
    show Steps p.tables e below (T6.setTop (mkF m 100 #[.val (.int (4 : Int32)), .val (.int ch0), .val (.int ch1), .val (.int ch2), .val (.int ch3)] [(.int (1 : Int32)), (.ref b3), (.ref b3), (.ref b1), (.ref b1)])) _
    refine XS.iloadN X6.here hx rfl (hb hby d1_100) rfl ?_
    show Steps p.tables e below (T6.setTop (mkF m 101 #[.val (.int (4 : Int32)), .val (.int ch0), .val (.int ch1), .val (.int ch2), .val (.int ch3)] [(.int ch1), (.int (1 : Int32)), (.ref b3), (.ref b3), (.ref b1), (.ref b1)])) _
    refine st9 _ ?_
    show Steps p.tables e below (T9.setTop (mkF m 102 #[.val (.int (4 : Int32)), .val (.int ch0), .val (.int ch1), .val (.int ch2), .val (.int ch3)] [(.ref b3), (.ref b1), (.ref b1)])) _
    refine XS.dup X9.here hx rfl (hb hby d1_102) rfl rfl ?_
    refine XS.iconst X9.here hx rfl (hb hby d1_103) ?_
    show Steps p.tables e below (T9.setTop (mkF m 104 #[.val (.int (4 : Int32)), .val (.int ch0), .val (.int ch1), .val (.int ch2), .val (.int ch3)] [(.int (2 : Int32)), (.ref b3), (.ref b3), (.ref b1), (.ref b1)])) _
    refine XS.iloadN X9.here hx rfl (hb hby d1_104) rfl ?_
    show Steps p.tables e below (T9.setTop (mkF m 105 #[.val (.int (4 : Int32)), .val (.int ch0), .val (.int ch1), .val (.int ch2), .val (.int ch3)] [(.int ch2), (.int (2 : Int32)), (.ref b3), (.ref b3), (.ref b1), (.ref b1)])) _
    refine st12 _ ?_
    show Steps p.tables e below (T12.setTop (mkF m 106 #[.val (.int (4 : Int32)), .val (.int ch0), .val (.int ch1), .val (.int ch2), .val (.int ch3)] [(.ref b3), (.ref b1), (.ref b1)])) _
    refine XS.dup X12.here hx rfl (hb hby d1_106) rfl rfl ?_
    refine XS.iconst X12.here hx rfl (hb hby d1_107) ?_
    show Steps p.tables e below (T12.setTop (mkF m 108 #[.val (.int (4 : Int32)), .val (.int ch0), .val (.int ch1), .val (.int ch2), .val (.int ch3)] [(.int (3 : Int32)), (.ref b3), (.ref b3), (.ref b1), (.ref b1)])) _
    refine XS.iload X12.here hx rfl (hb hby d1_108) rfl ?_
    show Steps p.tables e below (T12.setTop (mkF m 110 #[.val (.int (4 : Int32)), .val (.int ch0), .val (.int ch1), .val (.int ch2), .val (.int ch3)] [(.int ch3), (.int (3 : Int32)), (.ref b3), (.ref b3), (.ref b1), (.ref b1)])) _
    refine st15 _ ?_
    show Steps p.tables e below (T15.setTop (mkF m 111 #[.val (.int (4 : Int32)), .val (.int ch0), .val (.int ch1), .val (.int ch2), .val (.int ch3)] [(.ref b3), (.ref b1), (.ref b1)])) _
    refine st18.trans ?_
    show Steps p.tables e below (T18.setTop (mkF m 114 #[.val (.int (4 : Int32)), .val (.int ch0), .val (.int ch1), .val (.int ch2), .val (.int ch3)] [(.ref b1)])) _
    exact X18.areturnOut hx rfl Bd.returns rfl (hb hby d1_114) hr
  · show Q_m1u_4 Z ch0 ch1 ch2 ch3 f x wcs h0 n0 _ T18.heap _
    rw [e18]
    exact ⟨b1, t_18, kt_18, rfl, N18, K28, P18_0, P18_1, P18_2, P18_3, sz_b1⟩
def own_g (a b c d : Int32) : Int32 → Int32 := fun j => if j = 0 then a else if j = 1 then b else if j = 2 then c else d
theorem own_g0 (a b c d : Int32) : own_g a b c d (0 : Int32) = a := rfl
theorem own_g1 (a b c d : Int32) : own_g a b c d (1 : Int32) = b := rfl
theorem own_g2 (a b c d : Int32) : own_g a b c d (2 : Int32) = c := rfl
theorem own_g3 (a b c d : Int32) : own_g a b c d (3 : Int32) = d := rfl
theorem own_tx0 {Z : State} {h : Heap} {a t : Addr} {k : ClassId} (ch0 ch1 ch2 ch3 : Int32) (Fc : Fld Z h a "java/lang/String" "coder" "B" (.int (0 : Int32))) (Fv : Fld Z h a "java/lang/String" "value" "[B" (.ref t)) (V : Arv Z h t k .byte (0 : Int32) [] (.int (0 : Int32))) : TX Z h a (0 : Int32) (own_g (nar .char ch0) (nar .char ch1) (nar .char ch2) (nar .char ch3)) :=
  ⟨t, k, _, _, Fv, V, Or.inl ⟨Fc, rfl, fun j h0 h1 => (h0 h1).elim⟩⟩
theorem own_txl_1 {Z : State} {h : Heap} {a t : Addr} {k : ClassId} (ch0 ch1 ch2 ch3 : Int32) (Fc : Fld Z h a "java/lang/String" "coder" "B" (.int (0 : Int32))) (Fv : Fld Z h a "java/lang/String" "value" "[B" (.ref t)) (V : Arv Z h t k .byte (1 : Int32) [(.int (nar .char ch0).toInt8.toInt32)] (.int (0 : Int32))) (q0 : ¬ (255 : Int32) < nar .char ch0) : TX Z h a (1 : Int32) (own_g (nar .char ch0) (nar .char ch1) (nar .char ch2) (nar .char ch3)) := by
  refine ⟨t, k, _, _, Fv, V, Or.inl ⟨Fc, rfl, fun j h0 h1 => ?_⟩⟩
  rcases own_lt1 j h0 h1 with rfl
  · exact ⟨_, rfl, own_cvl _ (own_is_i2c _) q0⟩
theorem own_txu_1 {Z : State} {h : Heap} {a t : Addr} {k : ClassId} (ch0 ch1 ch2 ch3 : Int32) (Fc : Fld Z h a "java/lang/String" "coder" "B" (.int (1 : Int32))) (Fv : Fld Z h a "java/lang/String" "value" "[B" (.ref t)) (V : Arv Z h t k .byte (2 : Int32) [(.int (own_b0 (nar .char ch0))), (.int (own_b1 (nar .char ch0)))] (.int (0 : Int32))) : TX Z h a (1 : Int32) (own_g (nar .char ch0) (nar .char ch1) (nar .char ch2) (nar .char ch3)) := by
  refine ⟨t, k, _, _, Fv, V, Or.inr ⟨Fc, by decide, fun j h0 h1 => ?_⟩⟩
  rcases own_lt1 j h0 h1 with rfl
  · exact ⟨_, _, by decide, by decide, by decide, by decide, rfl, rfl, own_ub _ (own_is_i2c _)⟩
theorem own_case_1 (ch0 ch1 ch2 ch3 : Int32) : (¬ (255 : Int32) < nar .char ch0) ∨ ∃ f x : Int32, own_T (1 : Int32) [(.int (nar .char ch0))] (2 : Int32) [(.int (own_b0 (nar .char ch0))), (.int (own_b1 (nar .char ch0)))] f x ∧ own_u (own_b0 x) (own_b1 x) = x := by
  by_cases g0 : (255 : Int32) < nar .char ch0
  · exact Or.inr ⟨_, _, Or.inl ⟨rfl, nar .char ch0, rfl, rfl, rfl, ⟨rfl, rfl, g0⟩⟩, own_ub _ (own_is_i2c _)⟩
  exact Or.inl g0
theorem own_txl_2 {Z : State} {h : Heap} {a t : Addr} {k : ClassId} (ch0 ch1 ch2 ch3 : Int32) (Fc : Fld Z h a "java/lang/String" "coder" "B" (.int (0 : Int32))) (Fv : Fld Z h a "java/lang/String" "value" "[B" (.ref t)) (V : Arv Z h t k .byte (2 : Int32) [(.int (nar .char ch0).toInt8.toInt32), (.int (nar .char ch1).toInt8.toInt32)] (.int (0 : Int32))) (q0 : ¬ (255 : Int32) < nar .char ch0) (q1 : ¬ (255 : Int32) < nar .char ch1) : TX Z h a (2 : Int32) (own_g (nar .char ch0) (nar .char ch1) (nar .char ch2) (nar .char ch3)) := by
  refine ⟨t, k, _, _, Fv, V, Or.inl ⟨Fc, rfl, fun j h0 h1 => ?_⟩⟩
  rcases own_lt2 j h0 h1 with rfl | rfl
  · exact ⟨_, rfl, own_cvl _ (own_is_i2c _) q0⟩
  · exact ⟨_, rfl, own_cvl _ (own_is_i2c _) q1⟩
theorem own_txu_2 {Z : State} {h : Heap} {a t : Addr} {k : ClassId} (ch0 ch1 ch2 ch3 : Int32) (Fc : Fld Z h a "java/lang/String" "coder" "B" (.int (1 : Int32))) (Fv : Fld Z h a "java/lang/String" "value" "[B" (.ref t)) (V : Arv Z h t k .byte (4 : Int32) [(.int (own_b0 (nar .char ch0))), (.int (own_b1 (nar .char ch0))), (.int (own_b0 (nar .char ch1))), (.int (own_b1 (nar .char ch1)))] (.int (0 : Int32))) : TX Z h a (2 : Int32) (own_g (nar .char ch0) (nar .char ch1) (nar .char ch2) (nar .char ch3)) := by
  refine ⟨t, k, _, _, Fv, V, Or.inr ⟨Fc, by decide, fun j h0 h1 => ?_⟩⟩
  rcases own_lt2 j h0 h1 with rfl | rfl
  · exact ⟨_, _, by decide, by decide, by decide, by decide, rfl, rfl, own_ub _ (own_is_i2c _)⟩
  · exact ⟨_, _, by decide, by decide, by decide, by decide, rfl, rfl, own_ub _ (own_is_i2c _)⟩
theorem own_case_2 (ch0 ch1 ch2 ch3 : Int32) : (¬ (255 : Int32) < nar .char ch0 ∧ ¬ (255 : Int32) < nar .char ch1) ∨ ∃ f x : Int32, own_T (2 : Int32) [(.int (nar .char ch0)), (.int (nar .char ch1))] (4 : Int32) [(.int (own_b0 (nar .char ch0))), (.int (own_b1 (nar .char ch0))), (.int (own_b0 (nar .char ch1))), (.int (own_b1 (nar .char ch1)))] f x ∧ own_u (own_b0 x) (own_b1 x) = x := by
  by_cases g0 : (255 : Int32) < nar .char ch0
  · exact Or.inr ⟨_, _, Or.inr (Or.inl ⟨rfl, nar .char ch0, nar .char ch1, rfl, rfl, rfl, Or.inl ⟨rfl, rfl, g0⟩⟩), own_ub _ (own_is_i2c _)⟩
  by_cases g1 : (255 : Int32) < nar .char ch1
  · exact Or.inr ⟨_, _, Or.inr (Or.inl ⟨rfl, nar .char ch0, nar .char ch1, rfl, rfl, rfl, Or.inr (⟨rfl, rfl, g0, g1⟩)⟩), own_ub _ (own_is_i2c _)⟩
  exact Or.inl ⟨g0, g1⟩
theorem own_txl_3 {Z : State} {h : Heap} {a t : Addr} {k : ClassId} (ch0 ch1 ch2 ch3 : Int32) (Fc : Fld Z h a "java/lang/String" "coder" "B" (.int (0 : Int32))) (Fv : Fld Z h a "java/lang/String" "value" "[B" (.ref t)) (V : Arv Z h t k .byte (3 : Int32) [(.int (nar .char ch0).toInt8.toInt32), (.int (nar .char ch1).toInt8.toInt32), (.int (nar .char ch2).toInt8.toInt32)] (.int (0 : Int32))) (q0 : ¬ (255 : Int32) < nar .char ch0) (q1 : ¬ (255 : Int32) < nar .char ch1) (q2 : ¬ (255 : Int32) < nar .char ch2) : TX Z h a (3 : Int32) (own_g (nar .char ch0) (nar .char ch1) (nar .char ch2) (nar .char ch3)) := by
  refine ⟨t, k, _, _, Fv, V, Or.inl ⟨Fc, rfl, fun j h0 h1 => ?_⟩⟩
  rcases own_lt3 j h0 h1 with rfl | rfl | rfl
  · exact ⟨_, rfl, own_cvl _ (own_is_i2c _) q0⟩
  · exact ⟨_, rfl, own_cvl _ (own_is_i2c _) q1⟩
  · exact ⟨_, rfl, own_cvl _ (own_is_i2c _) q2⟩
theorem own_txu_3 {Z : State} {h : Heap} {a t : Addr} {k : ClassId} (ch0 ch1 ch2 ch3 : Int32) (Fc : Fld Z h a "java/lang/String" "coder" "B" (.int (1 : Int32))) (Fv : Fld Z h a "java/lang/String" "value" "[B" (.ref t)) (V : Arv Z h t k .byte (6 : Int32) [(.int (own_b0 (nar .char ch0))), (.int (own_b1 (nar .char ch0))), (.int (own_b0 (nar .char ch1))), (.int (own_b1 (nar .char ch1))), (.int (own_b0 (nar .char ch2))), (.int (own_b1 (nar .char ch2)))] (.int (0 : Int32))) : TX Z h a (3 : Int32) (own_g (nar .char ch0) (nar .char ch1) (nar .char ch2) (nar .char ch3)) := by
  refine ⟨t, k, _, _, Fv, V, Or.inr ⟨Fc, by decide, fun j h0 h1 => ?_⟩⟩
  rcases own_lt3 j h0 h1 with rfl | rfl | rfl
  · exact ⟨_, _, by decide, by decide, by decide, by decide, rfl, rfl, own_ub _ (own_is_i2c _)⟩
  · exact ⟨_, _, by decide, by decide, by decide, by decide, rfl, rfl, own_ub _ (own_is_i2c _)⟩
  · exact ⟨_, _, by decide, by decide, by decide, by decide, rfl, rfl, own_ub _ (own_is_i2c _)⟩
theorem own_case_3 (ch0 ch1 ch2 ch3 : Int32) : (¬ (255 : Int32) < nar .char ch0 ∧ ¬ (255 : Int32) < nar .char ch1 ∧ ¬ (255 : Int32) < nar .char ch2) ∨ ∃ f x : Int32, own_T (3 : Int32) [(.int (nar .char ch0)), (.int (nar .char ch1)), (.int (nar .char ch2))] (6 : Int32) [(.int (own_b0 (nar .char ch0))), (.int (own_b1 (nar .char ch0))), (.int (own_b0 (nar .char ch1))), (.int (own_b1 (nar .char ch1))), (.int (own_b0 (nar .char ch2))), (.int (own_b1 (nar .char ch2)))] f x ∧ own_u (own_b0 x) (own_b1 x) = x := by
  by_cases g0 : (255 : Int32) < nar .char ch0
  · exact Or.inr ⟨_, _, Or.inr (Or.inr (Or.inl ⟨rfl, nar .char ch0, nar .char ch1, nar .char ch2, rfl, rfl, rfl, Or.inl ⟨rfl, rfl, g0⟩⟩)), own_ub _ (own_is_i2c _)⟩
  by_cases g1 : (255 : Int32) < nar .char ch1
  · exact Or.inr ⟨_, _, Or.inr (Or.inr (Or.inl ⟨rfl, nar .char ch0, nar .char ch1, nar .char ch2, rfl, rfl, rfl, Or.inr (Or.inl ⟨rfl, rfl, g0, g1⟩)⟩)), own_ub _ (own_is_i2c _)⟩
  by_cases g2 : (255 : Int32) < nar .char ch2
  · exact Or.inr ⟨_, _, Or.inr (Or.inr (Or.inl ⟨rfl, nar .char ch0, nar .char ch1, nar .char ch2, rfl, rfl, rfl, Or.inr (Or.inr (⟨rfl, rfl, g0, g1, g2⟩))⟩)), own_ub _ (own_is_i2c _)⟩
  exact Or.inl ⟨g0, g1, g2⟩
theorem own_txl_4 {Z : State} {h : Heap} {a t : Addr} {k : ClassId} (ch0 ch1 ch2 ch3 : Int32) (Fc : Fld Z h a "java/lang/String" "coder" "B" (.int (0 : Int32))) (Fv : Fld Z h a "java/lang/String" "value" "[B" (.ref t)) (V : Arv Z h t k .byte (4 : Int32) [(.int (nar .char ch0).toInt8.toInt32), (.int (nar .char ch1).toInt8.toInt32), (.int (nar .char ch2).toInt8.toInt32), (.int (nar .char ch3).toInt8.toInt32)] (.int (0 : Int32))) (q0 : ¬ (255 : Int32) < nar .char ch0) (q1 : ¬ (255 : Int32) < nar .char ch1) (q2 : ¬ (255 : Int32) < nar .char ch2) (q3 : ¬ (255 : Int32) < nar .char ch3) : TX Z h a (4 : Int32) (own_g (nar .char ch0) (nar .char ch1) (nar .char ch2) (nar .char ch3)) := by
  refine ⟨t, k, _, _, Fv, V, Or.inl ⟨Fc, rfl, fun j h0 h1 => ?_⟩⟩
  rcases own_lt4 j h0 h1 with rfl | rfl | rfl | rfl
  · exact ⟨_, rfl, own_cvl _ (own_is_i2c _) q0⟩
  · exact ⟨_, rfl, own_cvl _ (own_is_i2c _) q1⟩
  · exact ⟨_, rfl, own_cvl _ (own_is_i2c _) q2⟩
  · exact ⟨_, rfl, own_cvl _ (own_is_i2c _) q3⟩
theorem own_txu_4 {Z : State} {h : Heap} {a t : Addr} {k : ClassId} (ch0 ch1 ch2 ch3 : Int32) (Fc : Fld Z h a "java/lang/String" "coder" "B" (.int (1 : Int32))) (Fv : Fld Z h a "java/lang/String" "value" "[B" (.ref t)) (V : Arv Z h t k .byte (8 : Int32) [(.int (own_b0 (nar .char ch0))), (.int (own_b1 (nar .char ch0))), (.int (own_b0 (nar .char ch1))), (.int (own_b1 (nar .char ch1))), (.int (own_b0 (nar .char ch2))), (.int (own_b1 (nar .char ch2))), (.int (own_b0 (nar .char ch3))), (.int (own_b1 (nar .char ch3)))] (.int (0 : Int32))) : TX Z h a (4 : Int32) (own_g (nar .char ch0) (nar .char ch1) (nar .char ch2) (nar .char ch3)) := by
  refine ⟨t, k, _, _, Fv, V, Or.inr ⟨Fc, by decide, fun j h0 h1 => ?_⟩⟩
  rcases own_lt4 j h0 h1 with rfl | rfl | rfl | rfl
  · exact ⟨_, _, by decide, by decide, by decide, by decide, rfl, rfl, own_ub _ (own_is_i2c _)⟩
  · exact ⟨_, _, by decide, by decide, by decide, by decide, rfl, rfl, own_ub _ (own_is_i2c _)⟩
  · exact ⟨_, _, by decide, by decide, by decide, by decide, rfl, rfl, own_ub _ (own_is_i2c _)⟩
  · exact ⟨_, _, by decide, by decide, by decide, by decide, rfl, rfl, own_ub _ (own_is_i2c _)⟩
theorem own_case_4 (ch0 ch1 ch2 ch3 : Int32) : (¬ (255 : Int32) < nar .char ch0 ∧ ¬ (255 : Int32) < nar .char ch1 ∧ ¬ (255 : Int32) < nar .char ch2 ∧ ¬ (255 : Int32) < nar .char ch3) ∨ ∃ f x : Int32, own_T (4 : Int32) [(.int (nar .char ch0)), (.int (nar .char ch1)), (.int (nar .char ch2)), (.int (nar .char ch3))] (8 : Int32) [(.int (own_b0 (nar .char ch0))), (.int (own_b1 (nar .char ch0))), (.int (own_b0 (nar .char ch1))), (.int (own_b1 (nar .char ch1))), (.int (own_b0 (nar .char ch2))), (.int (own_b1 (nar .char ch2))), (.int (own_b0 (nar .char ch3))), (.int (own_b1 (nar .char ch3)))] f x ∧ own_u (own_b0 x) (own_b1 x) = x := by
  by_cases g0 : (255 : Int32) < nar .char ch0
  · exact Or.inr ⟨_, _, Or.inr (Or.inr (Or.inr (⟨rfl, nar .char ch0, nar .char ch1, nar .char ch2, nar .char ch3, rfl, rfl, rfl, Or.inl ⟨rfl, rfl, g0⟩⟩))), own_ub _ (own_is_i2c _)⟩
  by_cases g1 : (255 : Int32) < nar .char ch1
  · exact Or.inr ⟨_, _, Or.inr (Or.inr (Or.inr (⟨rfl, nar .char ch0, nar .char ch1, nar .char ch2, nar .char ch3, rfl, rfl, rfl, Or.inr (Or.inl ⟨rfl, rfl, g0, g1⟩)⟩))), own_ub _ (own_is_i2c _)⟩
  by_cases g2 : (255 : Int32) < nar .char ch2
  · exact Or.inr ⟨_, _, Or.inr (Or.inr (Or.inr (⟨rfl, nar .char ch0, nar .char ch1, nar .char ch2, nar .char ch3, rfl, rfl, rfl, Or.inr (Or.inr (Or.inl ⟨rfl, rfl, g0, g1, g2⟩))⟩))), own_ub _ (own_is_i2c _)⟩
  by_cases g3 : (255 : Int32) < nar .char ch3
  · exact Or.inr ⟨_, _, Or.inr (Or.inr (Or.inr (⟨rfl, nar .char ch0, nar .char ch1, nar .char ch2, nar .char ch3, rfl, rfl, rfl, Or.inr (Or.inr (Or.inr (⟨rfl, rfl, g0, g1, g2, g3⟩)))⟩))), own_ub _ (own_is_i2c _)⟩
  exact Or.inl ⟨g0, g1, g2, g3⟩
set_option maxRecDepth 65536 in
set_option maxHeartbeats 40000000 in
theorem seg1 {p : Program} {l : Launch} {e : Env} {s : State} {m : MethodId} {args : Array Value} {below : List Frame} {meth : Method} {c : Code} {Z : State} {a0 : Array Value} (hw : ∀ d ∈ tables_1, d.before a0 Z = true) (hx : p.tables.exec = Jvm.exec) (hby : c.code = code) (hml : c.maxLocals = 13) (hZ : Z.Warmed39 s.vm) (hown : s.vm.findClass "com/example/grantline/grantline/authz/UnreservedMatchesPinLaw" = some m.cls) {T : State} {locs : List Loc} {cells slots : Nat} (X0 : Stand p l e room_1 s m args below meth c T locs cells slots) (p1 p2 p3 p4 p5 : Int32) :
    ∀ t, Steps p.tables e below (T.setTop (mkF m 47 #[.val (.int p1), .val (.int p2), .val (.int p3), .val (.int p4), .val (.int p5), .val (.int ((p5 &&& (2147483647 : Int32)) % (5 : Int32))), .val (.int ((p1 &&& (65535 : Int32)).toUInt32.toUInt16.toUInt32.toInt32)), .val (.int ((p2 &&& (65535 : Int32)).toUInt32.toUInt16.toUInt32.toInt32)), .val (.int ((p3 &&& (65535 : Int32)).toUInt32.toUInt16.toUInt32.toInt32)), .val (.int ((p4 &&& (65535 : Int32)).toUInt32.toUInt16.toUInt32.toInt32)), .unset, .unset, .unset] [(.int ((p4 &&& (65535 : Int32)).toUInt32.toUInt16.toUInt32.toInt32)), (.int ((p3 &&& (65535 : Int32)).toUInt32.toUInt16.toUInt32.toInt32)), (.int ((p2 &&& (65535 : Int32)).toUInt32.toUInt16.toUInt32.toInt32)), (.int ((p1 &&& (65535 : Int32)).toUInt32.toUInt16.toUInt32.toInt32)), (.int ((p5 &&& (2147483647 : Int32)) % (5 : Int32)))])) t → Steps p.tables e below (T.setTop (mkF m 0 #[.val (.int p1), .val (.int p2), .val (.int p3), .val (.int p4), .val (.int p5), .unset, .unset, .unset, .unset, .unset, .unset, .unset, .unset] [])) t := by
  intro t kont
  show Steps p.tables e below (T.setTop (mkF m 0 #[.val (.int p1), .val (.int p2), .val (.int p3), .val (.int p4), .val (.int p5), .unset, .unset, .unset, .unset, .unset, .unset, .unset, .unset] [])) _
  refine XS.iload X0.here hx rfl (hb hby at_0) rfl ?_
  show Steps p.tables e below (T.setTop (mkF m 2 #[.val (.int p1), .val (.int p2), .val (.int p3), .val (.int p4), .val (.int p5), .unset, .unset, .unset, .unset, .unset, .unset, .unset, .unset] [(.int p5)])) _
  refine X0.ldcInt hx hown (mvT hZ (wk hw 0 rfl)) (g := (mkF m 2 #[.val (.int p1), .val (.int p2), .val (.int p3), .val (.int p4), .val (.int p5), .unset, .unset, .unset, .unset, .unset, .unset, .unset, .unset] [(.int p5)])) rfl (hb hby at_2) _ ?_
  show Steps p.tables e below (T.setTop (mkF m 4 #[.val (.int p1), .val (.int p2), .val (.int p3), .val (.int p4), .val (.int p5), .unset, .unset, .unset, .unset, .unset, .unset, .unset, .unset] [(.int (2147483647 : Int32)), (.int p5)])) _
  refine XS.iand X0.here hx rfl (hb hby at_4) rfl ?_
  refine XS.iconst X0.here hx rfl (hb hby at_5) ?_
  show Steps p.tables e below (T.setTop (mkF m 6 #[.val (.int p1), .val (.int p2), .val (.int p3), .val (.int p4), .val (.int p5), .unset, .unset, .unset, .unset, .unset, .unset, .unset, .unset] [(.int (5 : Int32)), (.int (p5 &&& (2147483647 : Int32)))])) _
  refine iremM X0 hx rfl (hb hby at_6) rfl (by decide) ?_
  show Steps p.tables e below (T.setTop (mkF m 7 #[.val (.int p1), .val (.int p2), .val (.int p3), .val (.int p4), .val (.int p5), .unset, .unset, .unset, .unset, .unset, .unset, .unset, .unset] [(.int ((p5 &&& (2147483647 : Int32)) % (5 : Int32)))])) _
  refine XS.istore X0.here hx rfl (hb hby at_7) rfl (l' := #[.val (.int p1), .val (.int p2), .val (.int p3), .val (.int p4), .val (.int p5), .val (.int ((p5 &&& (2147483647 : Int32)) % (5 : Int32))), .unset, .unset, .unset, .unset, .unset, .unset, .unset]) rfl ?_
  refine XS.iloadN X0.here hx rfl (hb hby at_9) rfl ?_
  show Steps p.tables e below (T.setTop (mkF m 10 #[.val (.int p1), .val (.int p2), .val (.int p3), .val (.int p4), .val (.int p5), .val (.int ((p5 &&& (2147483647 : Int32)) % (5 : Int32))), .unset, .unset, .unset, .unset, .unset, .unset, .unset] [(.int p1)])) _
  refine X0.ldcInt hx hown (mvT hZ (wk hw 1 rfl)) (g := (mkF m 10 #[.val (.int p1), .val (.int p2), .val (.int p3), .val (.int p4), .val (.int p5), .val (.int ((p5 &&& (2147483647 : Int32)) % (5 : Int32))), .unset, .unset, .unset, .unset, .unset, .unset, .unset] [(.int p1)])) rfl (hb hby at_10) _ ?_
  show Steps p.tables e below (T.setTop (mkF m 12 #[.val (.int p1), .val (.int p2), .val (.int p3), .val (.int p4), .val (.int p5), .val (.int ((p5 &&& (2147483647 : Int32)) % (5 : Int32))), .unset, .unset, .unset, .unset, .unset, .unset, .unset] [(.int (65535 : Int32)), (.int p1)])) _
  refine XS.iand X0.here hx rfl (hb hby at_12) rfl ?_
  refine XS.i2c X0.here hx rfl (hb hby at_13) rfl ?_
  show Steps p.tables e below (T.setTop (mkF m 14 #[.val (.int p1), .val (.int p2), .val (.int p3), .val (.int p4), .val (.int p5), .val (.int ((p5 &&& (2147483647 : Int32)) % (5 : Int32))), .unset, .unset, .unset, .unset, .unset, .unset, .unset] [(.int ((p1 &&& (65535 : Int32)).toUInt32.toUInt16.toUInt32.toInt32))])) _
  refine XS.istore X0.here hx rfl (hb hby at_14) rfl (l' := #[.val (.int p1), .val (.int p2), .val (.int p3), .val (.int p4), .val (.int p5), .val (.int ((p5 &&& (2147483647 : Int32)) % (5 : Int32))), .val (.int ((p1 &&& (65535 : Int32)).toUInt32.toUInt16.toUInt32.toInt32)), .unset, .unset, .unset, .unset, .unset, .unset]) rfl ?_
  refine XS.iloadN X0.here hx rfl (hb hby at_16) rfl ?_
  show Steps p.tables e below (T.setTop (mkF m 17 #[.val (.int p1), .val (.int p2), .val (.int p3), .val (.int p4), .val (.int p5), .val (.int ((p5 &&& (2147483647 : Int32)) % (5 : Int32))), .val (.int ((p1 &&& (65535 : Int32)).toUInt32.toUInt16.toUInt32.toInt32)), .unset, .unset, .unset, .unset, .unset, .unset] [(.int p2)])) _
  refine X0.ldcInt hx hown (mvT hZ (wk hw 1 rfl)) (g := (mkF m 17 #[.val (.int p1), .val (.int p2), .val (.int p3), .val (.int p4), .val (.int p5), .val (.int ((p5 &&& (2147483647 : Int32)) % (5 : Int32))), .val (.int ((p1 &&& (65535 : Int32)).toUInt32.toUInt16.toUInt32.toInt32)), .unset, .unset, .unset, .unset, .unset, .unset] [(.int p2)])) rfl (hb hby at_17) _ ?_
  show Steps p.tables e below (T.setTop (mkF m 19 #[.val (.int p1), .val (.int p2), .val (.int p3), .val (.int p4), .val (.int p5), .val (.int ((p5 &&& (2147483647 : Int32)) % (5 : Int32))), .val (.int ((p1 &&& (65535 : Int32)).toUInt32.toUInt16.toUInt32.toInt32)), .unset, .unset, .unset, .unset, .unset, .unset] [(.int (65535 : Int32)), (.int p2)])) _
  refine XS.iand X0.here hx rfl (hb hby at_19) rfl ?_
  refine XS.i2c X0.here hx rfl (hb hby at_20) rfl ?_
  show Steps p.tables e below (T.setTop (mkF m 21 #[.val (.int p1), .val (.int p2), .val (.int p3), .val (.int p4), .val (.int p5), .val (.int ((p5 &&& (2147483647 : Int32)) % (5 : Int32))), .val (.int ((p1 &&& (65535 : Int32)).toUInt32.toUInt16.toUInt32.toInt32)), .unset, .unset, .unset, .unset, .unset, .unset] [(.int ((p2 &&& (65535 : Int32)).toUInt32.toUInt16.toUInt32.toInt32))])) _
  refine XS.istore X0.here hx rfl (hb hby at_21) rfl (l' := #[.val (.int p1), .val (.int p2), .val (.int p3), .val (.int p4), .val (.int p5), .val (.int ((p5 &&& (2147483647 : Int32)) % (5 : Int32))), .val (.int ((p1 &&& (65535 : Int32)).toUInt32.toUInt16.toUInt32.toInt32)), .val (.int ((p2 &&& (65535 : Int32)).toUInt32.toUInt16.toUInt32.toInt32)), .unset, .unset, .unset, .unset, .unset]) rfl ?_
  refine XS.iloadN X0.here hx rfl (hb hby at_23) rfl ?_
  show Steps p.tables e below (T.setTop (mkF m 24 #[.val (.int p1), .val (.int p2), .val (.int p3), .val (.int p4), .val (.int p5), .val (.int ((p5 &&& (2147483647 : Int32)) % (5 : Int32))), .val (.int ((p1 &&& (65535 : Int32)).toUInt32.toUInt16.toUInt32.toInt32)), .val (.int ((p2 &&& (65535 : Int32)).toUInt32.toUInt16.toUInt32.toInt32)), .unset, .unset, .unset, .unset, .unset] [(.int p3)])) _
  refine X0.ldcInt hx hown (mvT hZ (wk hw 1 rfl)) (g := (mkF m 24 #[.val (.int p1), .val (.int p2), .val (.int p3), .val (.int p4), .val (.int p5), .val (.int ((p5 &&& (2147483647 : Int32)) % (5 : Int32))), .val (.int ((p1 &&& (65535 : Int32)).toUInt32.toUInt16.toUInt32.toInt32)), .val (.int ((p2 &&& (65535 : Int32)).toUInt32.toUInt16.toUInt32.toInt32)), .unset, .unset, .unset, .unset, .unset] [(.int p3)])) rfl (hb hby at_24) _ ?_
  show Steps p.tables e below (T.setTop (mkF m 26 #[.val (.int p1), .val (.int p2), .val (.int p3), .val (.int p4), .val (.int p5), .val (.int ((p5 &&& (2147483647 : Int32)) % (5 : Int32))), .val (.int ((p1 &&& (65535 : Int32)).toUInt32.toUInt16.toUInt32.toInt32)), .val (.int ((p2 &&& (65535 : Int32)).toUInt32.toUInt16.toUInt32.toInt32)), .unset, .unset, .unset, .unset, .unset] [(.int (65535 : Int32)), (.int p3)])) _
  refine XS.iand X0.here hx rfl (hb hby at_26) rfl ?_
  refine XS.i2c X0.here hx rfl (hb hby at_27) rfl ?_
  show Steps p.tables e below (T.setTop (mkF m 28 #[.val (.int p1), .val (.int p2), .val (.int p3), .val (.int p4), .val (.int p5), .val (.int ((p5 &&& (2147483647 : Int32)) % (5 : Int32))), .val (.int ((p1 &&& (65535 : Int32)).toUInt32.toUInt16.toUInt32.toInt32)), .val (.int ((p2 &&& (65535 : Int32)).toUInt32.toUInt16.toUInt32.toInt32)), .unset, .unset, .unset, .unset, .unset] [(.int ((p3 &&& (65535 : Int32)).toUInt32.toUInt16.toUInt32.toInt32))])) _
  refine XS.istore X0.here hx rfl (hb hby at_28) rfl (l' := #[.val (.int p1), .val (.int p2), .val (.int p3), .val (.int p4), .val (.int p5), .val (.int ((p5 &&& (2147483647 : Int32)) % (5 : Int32))), .val (.int ((p1 &&& (65535 : Int32)).toUInt32.toUInt16.toUInt32.toInt32)), .val (.int ((p2 &&& (65535 : Int32)).toUInt32.toUInt16.toUInt32.toInt32)), .val (.int ((p3 &&& (65535 : Int32)).toUInt32.toUInt16.toUInt32.toInt32)), .unset, .unset, .unset, .unset]) rfl ?_
  refine XS.iloadN X0.here hx rfl (hb hby at_30) rfl ?_
  show Steps p.tables e below (T.setTop (mkF m 31 #[.val (.int p1), .val (.int p2), .val (.int p3), .val (.int p4), .val (.int p5), .val (.int ((p5 &&& (2147483647 : Int32)) % (5 : Int32))), .val (.int ((p1 &&& (65535 : Int32)).toUInt32.toUInt16.toUInt32.toInt32)), .val (.int ((p2 &&& (65535 : Int32)).toUInt32.toUInt16.toUInt32.toInt32)), .val (.int ((p3 &&& (65535 : Int32)).toUInt32.toUInt16.toUInt32.toInt32)), .unset, .unset, .unset, .unset] [(.int p4)])) _
  refine X0.ldcInt hx hown (mvT hZ (wk hw 1 rfl)) (g := (mkF m 31 #[.val (.int p1), .val (.int p2), .val (.int p3), .val (.int p4), .val (.int p5), .val (.int ((p5 &&& (2147483647 : Int32)) % (5 : Int32))), .val (.int ((p1 &&& (65535 : Int32)).toUInt32.toUInt16.toUInt32.toInt32)), .val (.int ((p2 &&& (65535 : Int32)).toUInt32.toUInt16.toUInt32.toInt32)), .val (.int ((p3 &&& (65535 : Int32)).toUInt32.toUInt16.toUInt32.toInt32)), .unset, .unset, .unset, .unset] [(.int p4)])) rfl (hb hby at_31) _ ?_
  show Steps p.tables e below (T.setTop (mkF m 33 #[.val (.int p1), .val (.int p2), .val (.int p3), .val (.int p4), .val (.int p5), .val (.int ((p5 &&& (2147483647 : Int32)) % (5 : Int32))), .val (.int ((p1 &&& (65535 : Int32)).toUInt32.toUInt16.toUInt32.toInt32)), .val (.int ((p2 &&& (65535 : Int32)).toUInt32.toUInt16.toUInt32.toInt32)), .val (.int ((p3 &&& (65535 : Int32)).toUInt32.toUInt16.toUInt32.toInt32)), .unset, .unset, .unset, .unset] [(.int (65535 : Int32)), (.int p4)])) _
  refine XS.iand X0.here hx rfl (hb hby at_33) rfl ?_
  refine XS.i2c X0.here hx rfl (hb hby at_34) rfl ?_
  show Steps p.tables e below (T.setTop (mkF m 35 #[.val (.int p1), .val (.int p2), .val (.int p3), .val (.int p4), .val (.int p5), .val (.int ((p5 &&& (2147483647 : Int32)) % (5 : Int32))), .val (.int ((p1 &&& (65535 : Int32)).toUInt32.toUInt16.toUInt32.toInt32)), .val (.int ((p2 &&& (65535 : Int32)).toUInt32.toUInt16.toUInt32.toInt32)), .val (.int ((p3 &&& (65535 : Int32)).toUInt32.toUInt16.toUInt32.toInt32)), .unset, .unset, .unset, .unset] [(.int ((p4 &&& (65535 : Int32)).toUInt32.toUInt16.toUInt32.toInt32))])) _
  refine XS.istore X0.here hx rfl (hb hby at_35) rfl (l' := #[.val (.int p1), .val (.int p2), .val (.int p3), .val (.int p4), .val (.int p5), .val (.int ((p5 &&& (2147483647 : Int32)) % (5 : Int32))), .val (.int ((p1 &&& (65535 : Int32)).toUInt32.toUInt16.toUInt32.toInt32)), .val (.int ((p2 &&& (65535 : Int32)).toUInt32.toUInt16.toUInt32.toInt32)), .val (.int ((p3 &&& (65535 : Int32)).toUInt32.toUInt16.toUInt32.toInt32)), .val (.int ((p4 &&& (65535 : Int32)).toUInt32.toUInt16.toUInt32.toInt32)), .unset, .unset, .unset]) rfl ?_
  refine XS.iload X0.here hx rfl (hb hby at_37) rfl ?_
  show Steps p.tables e below (T.setTop (mkF m 39 #[.val (.int p1), .val (.int p2), .val (.int p3), .val (.int p4), .val (.int p5), .val (.int ((p5 &&& (2147483647 : Int32)) % (5 : Int32))), .val (.int ((p1 &&& (65535 : Int32)).toUInt32.toUInt16.toUInt32.toInt32)), .val (.int ((p2 &&& (65535 : Int32)).toUInt32.toUInt16.toUInt32.toInt32)), .val (.int ((p3 &&& (65535 : Int32)).toUInt32.toUInt16.toUInt32.toInt32)), .val (.int ((p4 &&& (65535 : Int32)).toUInt32.toUInt16.toUInt32.toInt32)), .unset, .unset, .unset] [(.int ((p5 &&& (2147483647 : Int32)) % (5 : Int32)))])) _
  refine XS.iload X0.here hx rfl (hb hby at_39) rfl ?_
  refine XS.iload X0.here hx rfl (hb hby at_41) rfl ?_
  show Steps p.tables e below (T.setTop (mkF m 43 #[.val (.int p1), .val (.int p2), .val (.int p3), .val (.int p4), .val (.int p5), .val (.int ((p5 &&& (2147483647 : Int32)) % (5 : Int32))), .val (.int ((p1 &&& (65535 : Int32)).toUInt32.toUInt16.toUInt32.toInt32)), .val (.int ((p2 &&& (65535 : Int32)).toUInt32.toUInt16.toUInt32.toInt32)), .val (.int ((p3 &&& (65535 : Int32)).toUInt32.toUInt16.toUInt32.toInt32)), .val (.int ((p4 &&& (65535 : Int32)).toUInt32.toUInt16.toUInt32.toInt32)), .unset, .unset, .unset] [(.int ((p2 &&& (65535 : Int32)).toUInt32.toUInt16.toUInt32.toInt32)), (.int ((p1 &&& (65535 : Int32)).toUInt32.toUInt16.toUInt32.toInt32)), (.int ((p5 &&& (2147483647 : Int32)) % (5 : Int32)))])) _
  refine XS.iload X0.here hx rfl (hb hby at_43) rfl ?_
  refine XS.iload X0.here hx rfl (hb hby at_45) rfl ?_
  exact kont
theorem pdx__ICCCC_Ljava_lang_String_ : parseMethodDescriptor "(ICCCC)Ljava/lang/String;" = some ⟨[.int, .char, .char, .char, .char], some (.object "java/lang/String")⟩ := by decide +kernel
set_option maxRecDepth 65536 in
set_option maxHeartbeats 40000000 in
theorem seg2 {p : Program} {l : Launch} {e : Env} {s : State} {m : MethodId} {args : Array Value} {below : List Frame} {meth : Method} {c : Code} {Z : State} {a0 : Array Value} (hw : ∀ d ∈ tables_1, d.before a0 Z = true) (hx : p.tables.exec = Jvm.exec) (hby : c.code = code) (hml : c.maxLocals = 13) (hZ : Z.Warmed39 s.vm) (hown : s.vm.findClass "com/example/grantline/grantline/authz/UnreservedMatchesPinLaw" = some m.cls) {T : State} {locs : List Loc} (X0 : Stand p l e room_1 s m args below meth c T locs 0 0) {h0 : Heap} (e0 : T.heap = h0) {n0 : Nat} (Z0 : n0 ≤ h0.size) (N0 : Fr n0 locs) (p1 p2 p3 p4 p5 z ch0 ch1 ch2 ch3 wcs : Int32) (S_CS : Sta Z h0 "java/lang/String" "COMPACT_STRINGS" "Z" (.int wcs)) (ncs : ¬ (wcs = (0 : Int32))) (S_AD : Sta Z h0 "java/lang/StringUTF16" "$assertionsDisabled" "Z" (.int (1 : Int32))) (S_HI : Sta Z h0 "java/lang/StringUTF16" "HI_BYTE_SHIFT" "I" (.int (0 : Int32))) (S_LO : Sta Z h0 "java/lang/StringUTF16" "LO_BYTE_SHIFT" "I" (.int (8 : Int32))) (hEL : EW Z a0 [("java/lang/String", 7)]) (HC : CHv Z [("java/lang/String", 7)] s.vm h0) (hz : z = 0 ∨ z = 1 ∨ z = 2 ∨ z = 3 ∨ z = 4) :
    ∃ (vmB : Vm) (T' : State) (h' : Heap) (locs' : List Loc) (a : Addr), Stand p l e room_1 (s.setVm vmB) m args below meth c T' locs' 8 64 ∧ T'.heap = h' ∧ Keep h0 h' [] ∧ Fr n0 locs' ∧ s.Since vmB h'.size ∧ Z.Warmed39 (s.setVm vmB).vm ∧ (s.setVm vmB).vm.findClass "com/example/grantline/grantline/authz/UnreservedMatchesPinLaw" = some m.cls ∧ Exa Z h' a "java/lang/String" ∧ TX Z h' a z (own_g (nar .char ch0) (nar .char ch1) (nar .char ch2) (nar .char ch3)) ∧ ∀ t, Steps p.tables e below (T'.setTop (mkF m 50 #[.val (.int p1), .val (.int p2), .val (.int p3), .val (.int p4), .val (.int p5), .val (.int z), .val (.int ch0), .val (.int ch1), .val (.int ch2), .val (.int ch3), .unset, .unset, .unset] [(.ref a)])) t → Steps p.tables e below (T.setTop (mkF m 47 #[.val (.int p1), .val (.int p2), .val (.int p3), .val (.int p4), .val (.int p5), .val (.int z), .val (.int ch0), .val (.int ch1), .val (.int ch2), .val (.int ch3), .unset, .unset, .unset] [(.int ch3), (.int ch2), (.int ch1), (.int ch0), (.int z)])) t := by
  rcases hz with rfl | rfl | rfl | rfl | rfl
  · obtain ⟨_, _, ⟨T1, L1, kk1, nn1⟩, -, X1, hS1, hg1, ⟨Lc1, hQ1, l1, y1, z1, C1⟩, st1⟩ := callSS (s := s) X0 hx (y := (⟨"com/example/grantline/grantline/authz/UnreservedMatchesPinLaw", "build", "(ICCCC)Ljava/lang/String;"⟩ : MethodName)) hown (mvT hZ (wk hw 2 rfl)) (mvT hZ (wk hw 3 rfl)) (mvT hZ (wk hw 4 rfl)) (mvT hZ (wk hw 5 rfl)) (by decide) (backOfSH (s := s) (vm0 := s.vm) (W := 0) (m1_0 l Z a0 hw [] ch0 ch1 ch2 ch3 [("java/lang/String", 7)] h0 n0 Z0 hEL (by decide)) hZ (wk hw 5 rfl) (wk hw 4 rfl) (by decide) (by decide) hEL HC) (g := (mkF m 47 #[.val (.int p1), .val (.int p2), .val (.int p3), .val (.int p4), .val (.int p5), .val (.int (0 : Int32)), .val (.int ch0), .val (.int ch1), .val (.int ch2), .val (.int ch3), .unset, .unset, .unset] [(.int ch3), (.int ch2), (.int ch1), (.int ch0), (.int (0 : Int32))])) rfl (by rw [hml]; rfl) (argsL := [(.int (0 : Int32)), (.int ch0), (.int ch1), (.int ch2), (.int ch3)]) (rest := []) (lenOf pdx__ICCCC_Ljava_lang_String_ rfl) rfl (by show 2 * 0 + _ ≤ _; exact Nat.le_of_eq rfl) (hb hby at_47) (fun _ _ => ⟨rfl, e0, nle rfl, nle rfl⟩)
    dsimp only [Pt.U, Pt.locs, Pt.cells, Pt.slots] at X1 hS1 hg1 l1 y1 z1 st1 hQ1 C1
    subst l1 y1 z1
    obtain ⟨a, t, k, rfl, Nq1, Kq1, E1, Fc1, Fv1, V1, fr1⟩ := hQ1
    have N1 := Fr.app N0 Nq1
    refine ⟨T1.vm, T1, T1.heap, _, a, X1.more (cells' := 8) (slots' := 64) (nle rfl) (nle rfl), rfl, Kq1, N1, hS1, State.Warmed39.trans (t := s) hZ hS1.1, (by rw [show (s.setVm T1.vm).vm = T1.vm from rfl, hS1.1.alike.findClass]; exact hown), E1, own_tx0 ch0 ch1 ch2 ch3 Fc1 Fv1 V1, fun q kont => st1.trans kont⟩
  · rcases own_case_1 ch0 ch1 ch2 ch3 with q0 | ⟨f, x, hT, hu⟩
    · obtain ⟨_, _, ⟨T1, L1, kk1, nn1⟩, -, X1, ⟨Lc1, hQ1, l1, y1, z1⟩, st1⟩ := Jvm.LawKit.callS X0 hx (y := (⟨"com/example/grantline/grantline/authz/UnreservedMatchesPinLaw", "build", "(ICCCC)Ljava/lang/String;"⟩ : MethodName)) hown (mvT hZ (wk hw 2 rfl)) (mvT hZ (wk hw 3 rfl)) (mvT hZ (wk hw 4 rfl)) (mvT hZ (wk hw 5 rfl)) (by decide) (backOf (W := 0) (m1l_1 l Z a0 hw [] ch0 ch1 ch2 ch3 wcs h0 n0 Z0 S_CS ncs q0) hZ (wk hw 5 rfl) (wk hw 4 rfl) (by decide) (by decide)) (g := (mkF m 47 #[.val (.int p1), .val (.int p2), .val (.int p3), .val (.int p4), .val (.int p5), .val (.int (1 : Int32)), .val (.int ch0), .val (.int ch1), .val (.int ch2), .val (.int ch3), .unset, .unset, .unset] [(.int ch3), (.int ch2), (.int ch1), (.int ch0), (.int (1 : Int32))])) rfl (by rw [hml]; rfl) (argsL := [(.int (1 : Int32)), (.int ch0), (.int ch1), (.int ch2), (.int ch3)]) (rest := []) (lenOf pdx__ICCCC_Ljava_lang_String_ rfl) rfl (by show 2 * 0 + _ ≤ _; exact Nat.le_of_eq rfl) (hb hby at_47) (fun _ _ => ⟨rfl, e0, nle rfl, nle rfl⟩)
      dsimp only [Pt.U, Pt.locs, Pt.cells, Pt.slots] at X1 l1 y1 z1 st1 hQ1
      subst l1 y1 z1
      obtain ⟨a, t, k, rfl, Nq1, Kq1, E1, Fc1, Fv1, V1, fr1⟩ := hQ1
      have N1 := Fr.app N0 Nq1
      refine ⟨s.vm, T1, T1.heap, _, a, X1.more (cells' := 8) (slots' := 64) (nle rfl) (nle rfl), rfl, Kq1, N1, (State.WarmedH.refl s).since _, hZ, hown, E1, own_txl_1 ch0 ch1 ch2 ch3 Fc1 Fv1 V1 q0, fun q kont => st1 _ kont⟩
    · obtain ⟨_, _, ⟨T1, L1, kk1, nn1⟩, -, X1, ⟨Lc1, hQ1, l1, y1, z1⟩, st1⟩ := Jvm.LawKit.callS X0 hx (y := (⟨"com/example/grantline/grantline/authz/UnreservedMatchesPinLaw", "build", "(ICCCC)Ljava/lang/String;"⟩ : MethodName)) hown (mvT hZ (wk hw 2 rfl)) (mvT hZ (wk hw 3 rfl)) (mvT hZ (wk hw 4 rfl)) (mvT hZ (wk hw 5 rfl)) (by decide) (backOf (W := 0) (m1u_1 l Z a0 hw [] ch0 ch1 ch2 ch3 f x wcs h0 n0 Z0 S_CS ncs S_AD S_HI S_LO hT hu) hZ (wk hw 5 rfl) (wk hw 4 rfl) (by decide) (by decide)) (g := (mkF m 47 #[.val (.int p1), .val (.int p2), .val (.int p3), .val (.int p4), .val (.int p5), .val (.int (1 : Int32)), .val (.int ch0), .val (.int ch1), .val (.int ch2), .val (.int ch3), .unset, .unset, .unset] [(.int ch3), (.int ch2), (.int ch1), (.int ch0), (.int (1 : Int32))])) rfl (by rw [hml]; rfl) (argsL := [(.int (1 : Int32)), (.int ch0), (.int ch1), (.int ch2), (.int ch3)]) (rest := []) (lenOf pdx__ICCCC_Ljava_lang_String_ rfl) rfl (by show 2 * 0 + _ ≤ _; exact Nat.le_of_eq rfl) (hb hby at_47) (fun _ _ => ⟨rfl, e0, nle rfl, nle rfl⟩)
      dsimp only [Pt.U, Pt.locs, Pt.cells, Pt.slots] at X1 l1 y1 z1 st1 hQ1
      subst l1 y1 z1
      obtain ⟨a, t, k, rfl, Nq1, Kq1, E1, Fc1, Fv1, V1, fr1⟩ := hQ1
      have N1 := Fr.app N0 Nq1
      refine ⟨s.vm, T1, T1.heap, _, a, X1.more (cells' := 8) (slots' := 64) (nle rfl) (nle rfl), rfl, Kq1, N1, (State.WarmedH.refl s).since _, hZ, hown, E1, own_txu_1 ch0 ch1 ch2 ch3 Fc1 Fv1 V1, fun q kont => st1 _ kont⟩
  · rcases own_case_2 ch0 ch1 ch2 ch3 with ⟨q0, q1⟩ | ⟨f, x, hT, hu⟩
    · obtain ⟨_, _, ⟨T1, L1, kk1, nn1⟩, -, X1, ⟨Lc1, hQ1, l1, y1, z1⟩, st1⟩ := Jvm.LawKit.callS X0 hx (y := (⟨"com/example/grantline/grantline/authz/UnreservedMatchesPinLaw", "build", "(ICCCC)Ljava/lang/String;"⟩ : MethodName)) hown (mvT hZ (wk hw 2 rfl)) (mvT hZ (wk hw 3 rfl)) (mvT hZ (wk hw 4 rfl)) (mvT hZ (wk hw 5 rfl)) (by decide) (backOf (W := 0) (m1l_2 l Z a0 hw [] ch0 ch1 ch2 ch3 wcs h0 n0 Z0 S_CS ncs q0 q1) hZ (wk hw 5 rfl) (wk hw 4 rfl) (by decide) (by decide)) (g := (mkF m 47 #[.val (.int p1), .val (.int p2), .val (.int p3), .val (.int p4), .val (.int p5), .val (.int (2 : Int32)), .val (.int ch0), .val (.int ch1), .val (.int ch2), .val (.int ch3), .unset, .unset, .unset] [(.int ch3), (.int ch2), (.int ch1), (.int ch0), (.int (2 : Int32))])) rfl (by rw [hml]; rfl) (argsL := [(.int (2 : Int32)), (.int ch0), (.int ch1), (.int ch2), (.int ch3)]) (rest := []) (lenOf pdx__ICCCC_Ljava_lang_String_ rfl) rfl (by show 2 * 0 + _ ≤ _; exact Nat.le_of_eq rfl) (hb hby at_47) (fun _ _ => ⟨rfl, e0, nle rfl, nle rfl⟩)
      dsimp only [Pt.U, Pt.locs, Pt.cells, Pt.slots] at X1 l1 y1 z1 st1 hQ1
      subst l1 y1 z1
      obtain ⟨a, t, k, rfl, Nq1, Kq1, E1, Fc1, Fv1, V1, fr1⟩ := hQ1
      have N1 := Fr.app N0 Nq1
      refine ⟨s.vm, T1, T1.heap, _, a, X1.more (cells' := 8) (slots' := 64) (nle rfl) (nle rfl), rfl, Kq1, N1, (State.WarmedH.refl s).since _, hZ, hown, E1, own_txl_2 ch0 ch1 ch2 ch3 Fc1 Fv1 V1 q0 q1, fun q kont => st1 _ kont⟩
    · obtain ⟨_, _, ⟨T1, L1, kk1, nn1⟩, -, X1, ⟨Lc1, hQ1, l1, y1, z1⟩, st1⟩ := Jvm.LawKit.callS X0 hx (y := (⟨"com/example/grantline/grantline/authz/UnreservedMatchesPinLaw", "build", "(ICCCC)Ljava/lang/String;"⟩ : MethodName)) hown (mvT hZ (wk hw 2 rfl)) (mvT hZ (wk hw 3 rfl)) (mvT hZ (wk hw 4 rfl)) (mvT hZ (wk hw 5 rfl)) (by decide) (backOf (W := 0) (m1u_2 l Z a0 hw [] ch0 ch1 ch2 ch3 f x wcs h0 n0 Z0 S_CS ncs S_AD S_HI S_LO hT hu) hZ (wk hw 5 rfl) (wk hw 4 rfl) (by decide) (by decide)) (g := (mkF m 47 #[.val (.int p1), .val (.int p2), .val (.int p3), .val (.int p4), .val (.int p5), .val (.int (2 : Int32)), .val (.int ch0), .val (.int ch1), .val (.int ch2), .val (.int ch3), .unset, .unset, .unset] [(.int ch3), (.int ch2), (.int ch1), (.int ch0), (.int (2 : Int32))])) rfl (by rw [hml]; rfl) (argsL := [(.int (2 : Int32)), (.int ch0), (.int ch1), (.int ch2), (.int ch3)]) (rest := []) (lenOf pdx__ICCCC_Ljava_lang_String_ rfl) rfl (by show 2 * 0 + _ ≤ _; exact Nat.le_of_eq rfl) (hb hby at_47) (fun _ _ => ⟨rfl, e0, nle rfl, nle rfl⟩)
      dsimp only [Pt.U, Pt.locs, Pt.cells, Pt.slots] at X1 l1 y1 z1 st1 hQ1
      subst l1 y1 z1
      obtain ⟨a, t, k, rfl, Nq1, Kq1, E1, Fc1, Fv1, V1, fr1⟩ := hQ1
      have N1 := Fr.app N0 Nq1
      refine ⟨s.vm, T1, T1.heap, _, a, X1.more (cells' := 8) (slots' := 64) (nle rfl) (nle rfl), rfl, Kq1, N1, (State.WarmedH.refl s).since _, hZ, hown, E1, own_txu_2 ch0 ch1 ch2 ch3 Fc1 Fv1 V1, fun q kont => st1 _ kont⟩
  · rcases own_case_3 ch0 ch1 ch2 ch3 with ⟨q0, q1, q2⟩ | ⟨f, x, hT, hu⟩
    · obtain ⟨_, _, ⟨T1, L1, kk1, nn1⟩, -, X1, ⟨Lc1, hQ1, l1, y1, z1⟩, st1⟩ := Jvm.LawKit.callS X0 hx (y := (⟨"com/example/grantline/grantline/authz/UnreservedMatchesPinLaw", "build", "(ICCCC)Ljava/lang/String;"⟩ : MethodName)) hown (mvT hZ (wk hw 2 rfl)) (mvT hZ (wk hw 3 rfl)) (mvT hZ (wk hw 4 rfl)) (mvT hZ (wk hw 5 rfl)) (by decide) (backOf (W := 0) (m1l_3 l Z a0 hw [] ch0 ch1 ch2 ch3 wcs h0 n0 Z0 S_CS ncs q0 q1 q2) hZ (wk hw 5 rfl) (wk hw 4 rfl) (by decide) (by decide)) (g := (mkF m 47 #[.val (.int p1), .val (.int p2), .val (.int p3), .val (.int p4), .val (.int p5), .val (.int (3 : Int32)), .val (.int ch0), .val (.int ch1), .val (.int ch2), .val (.int ch3), .unset, .unset, .unset] [(.int ch3), (.int ch2), (.int ch1), (.int ch0), (.int (3 : Int32))])) rfl (by rw [hml]; rfl) (argsL := [(.int (3 : Int32)), (.int ch0), (.int ch1), (.int ch2), (.int ch3)]) (rest := []) (lenOf pdx__ICCCC_Ljava_lang_String_ rfl) rfl (by show 2 * 0 + _ ≤ _; exact Nat.le_of_eq rfl) (hb hby at_47) (fun _ _ => ⟨rfl, e0, nle rfl, nle rfl⟩)
      dsimp only [Pt.U, Pt.locs, Pt.cells, Pt.slots] at X1 l1 y1 z1 st1 hQ1
      subst l1 y1 z1
      obtain ⟨a, t, k, rfl, Nq1, Kq1, E1, Fc1, Fv1, V1, fr1⟩ := hQ1
      have N1 := Fr.app N0 Nq1
      refine ⟨s.vm, T1, T1.heap, _, a, X1.more (cells' := 8) (slots' := 64) (nle rfl) (nle rfl), rfl, Kq1, N1, (State.WarmedH.refl s).since _, hZ, hown, E1, own_txl_3 ch0 ch1 ch2 ch3 Fc1 Fv1 V1 q0 q1 q2, fun q kont => st1 _ kont⟩
    · obtain ⟨_, _, ⟨T1, L1, kk1, nn1⟩, -, X1, ⟨Lc1, hQ1, l1, y1, z1⟩, st1⟩ := Jvm.LawKit.callS X0 hx (y := (⟨"com/example/grantline/grantline/authz/UnreservedMatchesPinLaw", "build", "(ICCCC)Ljava/lang/String;"⟩ : MethodName)) hown (mvT hZ (wk hw 2 rfl)) (mvT hZ (wk hw 3 rfl)) (mvT hZ (wk hw 4 rfl)) (mvT hZ (wk hw 5 rfl)) (by decide) (backOf (W := 0) (m1u_3 l Z a0 hw [] ch0 ch1 ch2 ch3 f x wcs h0 n0 Z0 S_CS ncs S_AD S_HI S_LO hT hu) hZ (wk hw 5 rfl) (wk hw 4 rfl) (by decide) (by decide)) (g := (mkF m 47 #[.val (.int p1), .val (.int p2), .val (.int p3), .val (.int p4), .val (.int p5), .val (.int (3 : Int32)), .val (.int ch0), .val (.int ch1), .val (.int ch2), .val (.int ch3), .unset, .unset, .unset] [(.int ch3), (.int ch2), (.int ch1), (.int ch0), (.int (3 : Int32))])) rfl (by rw [hml]; rfl) (argsL := [(.int (3 : Int32)), (.int ch0), (.int ch1), (.int ch2), (.int ch3)]) (rest := []) (lenOf pdx__ICCCC_Ljava_lang_String_ rfl) rfl (by show 2 * 0 + _ ≤ _; exact Nat.le_of_eq rfl) (hb hby at_47) (fun _ _ => ⟨rfl, e0, nle rfl, nle rfl⟩)
      dsimp only [Pt.U, Pt.locs, Pt.cells, Pt.slots] at X1 l1 y1 z1 st1 hQ1
      subst l1 y1 z1
      obtain ⟨a, t, k, rfl, Nq1, Kq1, E1, Fc1, Fv1, V1, fr1⟩ := hQ1
      have N1 := Fr.app N0 Nq1
      refine ⟨s.vm, T1, T1.heap, _, a, X1.more (cells' := 8) (slots' := 64) (nle rfl) (nle rfl), rfl, Kq1, N1, (State.WarmedH.refl s).since _, hZ, hown, E1, own_txu_3 ch0 ch1 ch2 ch3 Fc1 Fv1 V1, fun q kont => st1 _ kont⟩
  · rcases own_case_4 ch0 ch1 ch2 ch3 with ⟨q0, q1, q2, q3⟩ | ⟨f, x, hT, hu⟩
    · obtain ⟨_, _, ⟨T1, L1, kk1, nn1⟩, -, X1, ⟨Lc1, hQ1, l1, y1, z1⟩, st1⟩ := Jvm.LawKit.callS X0 hx (y := (⟨"com/example/grantline/grantline/authz/UnreservedMatchesPinLaw", "build", "(ICCCC)Ljava/lang/String;"⟩ : MethodName)) hown (mvT hZ (wk hw 2 rfl)) (mvT hZ (wk hw 3 rfl)) (mvT hZ (wk hw 4 rfl)) (mvT hZ (wk hw 5 rfl)) (by decide) (backOf (W := 0) (m1l_4 l Z a0 hw [] ch0 ch1 ch2 ch3 wcs h0 n0 Z0 S_CS ncs q0 q1 q2 q3) hZ (wk hw 5 rfl) (wk hw 4 rfl) (by decide) (by decide)) (g := (mkF m 47 #[.val (.int p1), .val (.int p2), .val (.int p3), .val (.int p4), .val (.int p5), .val (.int (4 : Int32)), .val (.int ch0), .val (.int ch1), .val (.int ch2), .val (.int ch3), .unset, .unset, .unset] [(.int ch3), (.int ch2), (.int ch1), (.int ch0), (.int (4 : Int32))])) rfl (by rw [hml]; rfl) (argsL := [(.int (4 : Int32)), (.int ch0), (.int ch1), (.int ch2), (.int ch3)]) (rest := []) (lenOf pdx__ICCCC_Ljava_lang_String_ rfl) rfl (by show 2 * 0 + _ ≤ _; exact Nat.le_of_eq rfl) (hb hby at_47) (fun _ _ => ⟨rfl, e0, nle rfl, nle rfl⟩)
      dsimp only [Pt.U, Pt.locs, Pt.cells, Pt.slots] at X1 l1 y1 z1 st1 hQ1
      subst l1 y1 z1
      obtain ⟨a, t, k, rfl, Nq1, Kq1, E1, Fc1, Fv1, V1, fr1⟩ := hQ1
      have N1 := Fr.app N0 Nq1
      refine ⟨s.vm, T1, T1.heap, _, a, X1.more (cells' := 8) (slots' := 64) (nle rfl) (nle rfl), rfl, Kq1, N1, (State.WarmedH.refl s).since _, hZ, hown, E1, own_txl_4 ch0 ch1 ch2 ch3 Fc1 Fv1 V1 q0 q1 q2 q3, fun q kont => st1 _ kont⟩
    · obtain ⟨_, _, ⟨T1, L1, kk1, nn1⟩, -, X1, ⟨Lc1, hQ1, l1, y1, z1⟩, st1⟩ := Jvm.LawKit.callS X0 hx (y := (⟨"com/example/grantline/grantline/authz/UnreservedMatchesPinLaw", "build", "(ICCCC)Ljava/lang/String;"⟩ : MethodName)) hown (mvT hZ (wk hw 2 rfl)) (mvT hZ (wk hw 3 rfl)) (mvT hZ (wk hw 4 rfl)) (mvT hZ (wk hw 5 rfl)) (by decide) (backOf (W := 0) (m1u_4 l Z a0 hw [] ch0 ch1 ch2 ch3 f x wcs h0 n0 Z0 S_CS ncs S_AD S_HI S_LO hT hu) hZ (wk hw 5 rfl) (wk hw 4 rfl) (by decide) (by decide)) (g := (mkF m 47 #[.val (.int p1), .val (.int p2), .val (.int p3), .val (.int p4), .val (.int p5), .val (.int (4 : Int32)), .val (.int ch0), .val (.int ch1), .val (.int ch2), .val (.int ch3), .unset, .unset, .unset] [(.int ch3), (.int ch2), (.int ch1), (.int ch0), (.int (4 : Int32))])) rfl (by rw [hml]; rfl) (argsL := [(.int (4 : Int32)), (.int ch0), (.int ch1), (.int ch2), (.int ch3)]) (rest := []) (lenOf pdx__ICCCC_Ljava_lang_String_ rfl) rfl (by show 2 * 0 + _ ≤ _; exact Nat.le_of_eq rfl) (hb hby at_47) (fun _ _ => ⟨rfl, e0, nle rfl, nle rfl⟩)
      dsimp only [Pt.U, Pt.locs, Pt.cells, Pt.slots] at X1 l1 y1 z1 st1 hQ1
      subst l1 y1 z1
      obtain ⟨a, t, k, rfl, Nq1, Kq1, E1, Fc1, Fv1, V1, fr1⟩ := hQ1
      have N1 := Fr.app N0 Nq1
      refine ⟨s.vm, T1, T1.heap, _, a, X1.more (cells' := 8) (slots' := 64) (nle rfl) (nle rfl), rfl, Kq1, N1, (State.WarmedH.refl s).since _, hZ, hown, E1, own_txu_4 ch0 ch1 ch2 ch3 Fc1 Fv1 V1, fun q kont => st1 _ kont⟩
theorem pdx__Ljava_lang_String__Z : parseMethodDescriptor "(Ljava/lang/String;)Z" = some ⟨[(.object "java/lang/String")], some .boolean⟩ := by decide +kernel
set_option maxRecDepth 65536 in
set_option maxHeartbeats 40000000 in
theorem seg3g_0 {p : Program} {l : Launch} {e : Env} {s : State} {m : MethodId} {args : Array Value} {below : List Frame} {meth : Method} {c : Code} {Z : State} {a0 : Array Value} (hw : ∀ d ∈ tables_1, d.before a0 Z = true) (hx : p.tables.exec = Jvm.exec) (hby : c.code = code) (hml : c.maxLocals = 13) (hZ : Z.Warmed39 s.vm) (hown : s.vm.findClass "com/example/grantline/grantline/authz/UnreservedMatchesPinLaw" = some m.cls) {T : State} {locs : List Loc} (X0 : Stand p l e room_1 s m args below meth c T locs 8 64) {h0 : Heap} (e0 : T.heap = h0) {n0 : Nat} (Z0 : n0 ≤ h0.size) (N0 : Fr n0 locs) (a : Addr) (p1 p2 p3 p4 p5 ch0 ch1 ch2 ch3 wcs : Int32) (rg : Value) (E_a : Exa Z h0 a "java/lang/String") (tx : TX Z h0 a (0 : Int32) (own_g ch0 ch1 ch2 ch3)) (S_CS : Sta Z h0 "java/lang/String" "COMPACT_STRINGS" "Z" (.int wcs)) (ncs : ¬ (wcs = (0 : Int32))) (S_SI : Sta Z h0 "jdk/internal/util/Preconditions" "SIOOBE_FORMATTER" "Ljava/util/function/BiFunction;" rg) (r_rg : rg.isRef = true) (S_AD : Sta Z h0 "java/lang/StringUTF16" "$assertionsDisabled" "Z" (.int (1 : Int32))) (S_HI : Sta Z h0 "java/lang/StringUTF16" "HI_BYTE_SHIFT" "I" (.int (0 : Int32))) (S_LO : Sta Z h0 "java/lang/StringUTF16" "LO_BYTE_SHIFT" "I" (.int (8 : Int32))) :
    ∃ (T' : State) (locs' : List Loc) (Ls : Array Slot), Stand p l e room_1 s m args below meth c T' locs' 8 64 ∧ T'.heap = h0 ∧ Fr n0 locs' ∧ ∀ t, Steps p.tables e below (T'.setTop (mkF m 134 Ls [(.int (1 : Int32))])) t → Steps p.tables e below (T.setTop (mkF m 50 #[.val (.int p1), .val (.int p2), .val (.int p3), .val (.int p4), .val (.int p5), .val (.int (0 : Int32)), .val (.int ch0), .val (.int ch1), .val (.int ch2), .val (.int ch3), .unset, .unset, .unset] [(.ref a)])) t := by
  obtain ⟨_, _, ⟨T1, L1, kk1, nn1⟩, -, X1, ⟨Lc1, hQ1, l1, y1, z1⟩, st1⟩ := Jvm.LawKit.callS X0 hx (y := (⟨"com/example/grantline/grantline/authz/Unreserved", "matches", "(Ljava/lang/String;)Z"⟩ : MethodName)) hown (mvT hZ (wk hw 28 rfl)) (mvT hZ (wk hw 29 rfl)) (mvT hZ (wk hw 30 rfl)) (mvT hZ (wk hw 31 rfl)) (by decide) (backOf (W := 0) (m5g_0 l Z a0 hw [] a (own_g ch0 ch1 ch2 ch3) wcs rg h0 n0 Z0 E_a tx S_CS ncs S_SI r_rg S_AD S_HI S_LO) hZ (wk hw 31 rfl) (wk hw 30 rfl) (by decide) (by decide)) (g := (mkF m 117 #[.val (.int p1), .val (.int p2), .val (.int p3), .val (.int p4), .val (.int p5), .val (.int (0 : Int32)), .val (.int ch0), .val (.int ch1), .val (.int ch2), .val (.int ch3), .val (.ref a), .val (.int (1 : Int32)), .unset] [(.ref a)])) rfl (by rw [hml]; rfl) (argsL := [(.ref a)]) (rest := []) (lenOf pdx__Ljava_lang_String__Z rfl) rfl (by show 2 * 0 + _ ≤ _; exact Nat.le_of_eq rfl) (hb hby at_117) (fun _ _ => ⟨rfl, e0, nle rfl, nle rfl⟩)
  dsimp only [Pt.U, Pt.locs, Pt.cells, Pt.slots] at X1 l1 y1 z1 st1 hQ1
  subst l1 y1 z1
  obtain ⟨rfl, Nq1, e1⟩ := hQ1
  have N1 := Fr.app N0 Nq1
  refine ⟨T1, _, #[.val (.int p1), .val (.int p2), .val (.int p3), .val (.int p4), .val (.int p5), .val (.int (0 : Int32)), .val (.int ch0), .val (.int ch1), .val (.int ch2), .val (.int ch3), .val (.ref a), .val (.int (1 : Int32)), .val (.int (1 : Int32))], X1, e1, N1, fun t kont => ?_⟩
  · show Steps p.tables e below (T.setTop (mkF m 50 #[.val (.int p1), .val (.int p2), .val (.int p3), .val (.int p4), .val (.int p5), .val (.int (0 : Int32)), .val (.int ch0), .val (.int ch1), .val (.int ch2), .val (.int ch3), .unset, .unset, .unset] [(.ref a)])) _
    refine XS.astore X0.here hx rfl (hb hby at_50) rfl rfl (l' := #[.val (.int p1), .val (.int p2), .val (.int p3), .val (.int p4), .val (.int p5), .val (.int (0 : Int32)), .val (.int ch0), .val (.int ch1), .val (.int ch2), .val (.int ch3), .val (.ref a), .unset, .unset]) rfl ?_
    refine XS.iload X0.here hx rfl (hb hby at_52) rfl ?_
    show Steps p.tables e below (T.setTop (mkF m 54 #[.val (.int p1), .val (.int p2), .val (.int p3), .val (.int p4), .val (.int p5), .val (.int (0 : Int32)), .val (.int ch0), .val (.int ch1), .val (.int ch2), .val (.int ch3), .val (.ref a), .unset, .unset] [(.int (0 : Int32))])) _
    refine XS.iconst X0.here hx rfl (hb hby at_54) ?_
    show Steps p.tables e below (T.setTop (mkF m 55 #[.val (.int p1), .val (.int p2), .val (.int p3), .val (.int p4), .val (.int p5), .val (.int (0 : Int32)), .val (.int ch0), .val (.int ch1), .val (.int ch2), .val (.int ch3), .val (.ref a), .unset, .unset] [(.int (1 : Int32)), (.int (0 : Int32))])) _
    refine XS.icmpYes X0.here hx rfl (pc0 := 55) (pc' := 66) rfl (hb hby at_55) rfl (tlt (by decide : (0 : Int32) < (1 : Int32))).1 (by decide) (by decide) ?_
    show Steps p.tables e below (T.setTop (mkF m 66 #[.val (.int p1), .val (.int p2), .val (.int p3), .val (.int p4), .val (.int p5), .val (.int (0 : Int32)), .val (.int ch0), .val (.int ch1), .val (.int ch2), .val (.int ch3), .val (.ref a), .unset, .unset] [])) _
    refine XS.iload X0.here hx rfl (hb hby at_66) rfl ?_
    refine XS.iconst X0.here hx rfl (hb hby at_68) ?_
    show Steps p.tables e below (T.setTop (mkF m 69 #[.val (.int p1), .val (.int p2), .val (.int p3), .val (.int p4), .val (.int p5), .val (.int (0 : Int32)), .val (.int ch0), .val (.int ch1), .val (.int ch2), .val (.int ch3), .val (.ref a), .unset, .unset] [(.int (2 : Int32)), (.int (0 : Int32))])) _
    refine XS.icmpYes X0.here hx rfl (pc0 := 69) (pc' := 80) rfl (hb hby at_69) rfl (tlt (by decide : (0 : Int32) < (2 : Int32))).1 (by decide) (by decide) ?_
    show Steps p.tables e below (T.setTop (mkF m 80 #[.val (.int p1), .val (.int p2), .val (.int p3), .val (.int p4), .val (.int p5), .val (.int (0 : Int32)), .val (.int ch0), .val (.int ch1), .val (.int ch2), .val (.int ch3), .val (.ref a), .unset, .unset] [])) _
    refine XS.iload X0.here hx rfl (hb hby at_80) rfl ?_
    refine XS.iconst X0.here hx rfl (hb hby at_82) ?_
    show Steps p.tables e below (T.setTop (mkF m 83 #[.val (.int p1), .val (.int p2), .val (.int p3), .val (.int p4), .val (.int p5), .val (.int (0 : Int32)), .val (.int ch0), .val (.int ch1), .val (.int ch2), .val (.int ch3), .val (.ref a), .unset, .unset] [(.int (3 : Int32)), (.int (0 : Int32))])) _
    refine XS.icmpYes X0.here hx rfl (pc0 := 83) (pc' := 94) rfl (hb hby at_83) rfl (tlt (by decide : (0 : Int32) < (3 : Int32))).1 (by decide) (by decide) ?_
    show Steps p.tables e below (T.setTop (mkF m 94 #[.val (.int p1), .val (.int p2), .val (.int p3), .val (.int p4), .val (.int p5), .val (.int (0 : Int32)), .val (.int ch0), .val (.int ch1), .val (.int ch2), .val (.int ch3), .val (.ref a), .unset, .unset] [])) _
    refine XS.iload X0.here hx rfl (hb hby at_94) rfl ?_
    refine XS.iconst X0.here hx rfl (hb hby at_96) ?_
    show Steps p.tables e below (T.setTop (mkF m 97 #[.val (.int p1), .val (.int p2), .val (.int p3), .val (.int p4), .val (.int p5), .val (.int (0 : Int32)), .val (.int ch0), .val (.int ch1), .val (.int ch2), .val (.int ch3), .val (.ref a), .unset, .unset] [(.int (4 : Int32)), (.int (0 : Int32))])) _
    refine XS.icmpYes X0.here hx rfl (pc0 := 97) (pc' := 108) rfl (hb hby at_97) rfl (tlt (by decide : (0 : Int32) < (4 : Int32))).1 (by decide) (by decide) ?_
    show Steps p.tables e below (T.setTop (mkF m 108 #[.val (.int p1), .val (.int p2), .val (.int p3), .val (.int p4), .val (.int p5), .val (.int (0 : Int32)), .val (.int ch0), .val (.int ch1), .val (.int ch2), .val (.int ch3), .val (.ref a), .unset, .unset] [])) _
    refine XS.iconst X0.here hx rfl (hb hby at_108) ?_
    refine XS.goto X0.here hx rfl (pc0 := 109) (pc' := 113) rfl (hb hby at_109) (by decide) (by decide) ?_
    show Steps p.tables e below (T.setTop (mkF m 113 #[.val (.int p1), .val (.int p2), .val (.int p3), .val (.int p4), .val (.int p5), .val (.int (0 : Int32)), .val (.int ch0), .val (.int ch1), .val (.int ch2), .val (.int ch3), .val (.ref a), .unset, .unset] [(.int (1 : Int32))])) _
    refine XS.istore X0.here hx rfl (hb hby at_113) rfl (l' := #[.val (.int p1), .val (.int p2), .val (.int p3), .val (.int p4), .val (.int p5), .val (.int (0 : Int32)), .val (.int ch0), .val (.int ch1), .val (.int ch2), .val (.int ch3), .val (.ref a), .val (.int (1 : Int32)), .unset]) rfl ?_
    refine XS.aload X0.here hx rfl (hb hby at_115) rfl rfl ?_
    show Steps p.tables e below (T.setTop (mkF m 117 #[.val (.int p1), .val (.int p2), .val (.int p3), .val (.int p4), .val (.int p5), .val (.int (0 : Int32)), .val (.int ch0), .val (.int ch1), .val (.int ch2), .val (.int ch3), .val (.ref a), .val (.int (1 : Int32)), .unset] [(.ref a)])) _
    refine st1 _ ?_
    show Steps p.tables e below (T1.setTop (mkF m 120 #[.val (.int p1), .val (.int p2), .val (.int p3), .val (.int p4), .val (.int p5), .val (.int (0 : Int32)), .val (.int ch0), .val (.int ch1), .val (.int ch2), .val (.int ch3), .val (.ref a), .val (.int (1 : Int32)), .unset] [(.int (1 : Int32))])) _
    refine XS.istore X1.here hx rfl (hb hby at_120) rfl (l' := #[.val (.int p1), .val (.int p2), .val (.int p3), .val (.int p4), .val (.int p5), .val (.int (0 : Int32)), .val (.int ch0), .val (.int ch1), .val (.int ch2), .val (.int ch3), .val (.ref a), .val (.int (1 : Int32)), .val (.int (1 : Int32))]) rfl ?_
    refine XS.iload X1.here hx rfl (hb hby at_122) rfl ?_
    show Steps p.tables e below (T1.setTop (mkF m 124 #[.val (.int p1), .val (.int p2), .val (.int p3), .val (.int p4), .val (.int p5), .val (.int (0 : Int32)), .val (.int ch0), .val (.int ch1), .val (.int ch2), .val (.int ch3), .val (.ref a), .val (.int (1 : Int32)), .val (.int (1 : Int32))] [(.int (1 : Int32))])) _
    refine XS.iload X1.here hx rfl (hb hby at_124) rfl ?_
    show Steps p.tables e below (T1.setTop (mkF m 126 #[.val (.int p1), .val (.int p2), .val (.int p3), .val (.int p4), .val (.int p5), .val (.int (0 : Int32)), .val (.int ch0), .val (.int ch1), .val (.int ch2), .val (.int ch3), .val (.ref a), .val (.int (1 : Int32)), .val (.int (1 : Int32))] [(.int (1 : Int32)), (.int (1 : Int32))])) _
    refine XS.icmpNo X1.here hx rfl (hb hby at_126) rfl (teq (by decide : (1 : Int32) = (1 : Int32))).2 ?_
    show Steps p.tables e below (T1.setTop (mkF m 129 #[.val (.int p1), .val (.int p2), .val (.int p3), .val (.int p4), .val (.int p5), .val (.int (0 : Int32)), .val (.int ch0), .val (.int ch1), .val (.int ch2), .val (.int ch3), .val (.ref a), .val (.int (1 : Int32)), .val (.int (1 : Int32))] [])) _
    refine XS.iconst X1.here hx rfl (hb hby at_129) ?_
    refine XS.goto X1.here hx rfl (pc0 := 130) (pc' := 134) rfl (hb hby at_130) (by decide) (by decide) ?_
    exact kont
theorem pdx__C_Z : parseMethodDescriptor "(C)Z" = some ⟨[.char], some .boolean⟩ := by decide +kernel
set_option maxRecDepth 65536 in
set_option maxHeartbeats 40000000 in
theorem seg3g_1 {p : Program} {l : Launch} {e : Env} {s : State} {m : MethodId} {args : Array Value} {below : List Frame} {meth : Method} {c : Code} {Z : State} {a0 : Array Value} (hw : ∀ d ∈ tables_1, d.before a0 Z = true) (hx : p.tables.exec = Jvm.exec) (hby : c.code = code) (hml : c.maxLocals = 13) (hZ : Z.Warmed39 s.vm) (hown : s.vm.findClass "com/example/grantline/grantline/authz/UnreservedMatchesPinLaw" = some m.cls) {T : State} {locs : List Loc} (X0 : Stand p l e room_1 s m args below meth c T locs 8 64) {h0 : Heap} (e0 : T.heap = h0) {n0 : Nat} (Z0 : n0 ≤ h0.size) (N0 : Fr n0 locs) (a : Addr) (p1 p2 p3 p4 p5 ch0 ch1 ch2 ch3 wcs : Int32) (rg : Value) (E_a : Exa Z h0 a "java/lang/String") (tx : TX Z h0 a (1 : Int32) (own_g ch0 ch1 ch2 ch3)) (S_CS : Sta Z h0 "java/lang/String" "COMPACT_STRINGS" "Z" (.int wcs)) (ncs : ¬ (wcs = (0 : Int32))) (S_SI : Sta Z h0 "jdk/internal/util/Preconditions" "SIOOBE_FORMATTER" "Ljava/util/function/BiFunction;" rg) (r_rg : rg.isRef = true) (S_AD : Sta Z h0 "java/lang/StringUTF16" "$assertionsDisabled" "Z" (.int (1 : Int32))) (S_HI : Sta Z h0 "java/lang/StringUTF16" "HI_BYTE_SHIFT" "I" (.int (0 : Int32))) (S_LO : Sta Z h0 "java/lang/StringUTF16" "LO_BYTE_SHIFT" "I" (.int (8 : Int32))) (gd0 : ¬ (own_r ch0 = (0 : Int32))) :
    ∃ (T' : State) (locs' : List Loc) (Ls : Array Slot), Stand p l e room_1 s m args below meth c T' locs' 8 64 ∧ T'.heap = h0 ∧ Fr n0 locs' ∧ ∀ t, Steps p.tables e below (T'.setTop (mkF m 134 Ls [(.int (1 : Int32))])) t → Steps p.tables e below (T.setTop (mkF m 50 #[.val (.int p1), .val (.int p2), .val (.int p3), .val (.int p4), .val (.int p5), .val (.int (1 : Int32)), .val (.int ch0), .val (.int ch1), .val (.int ch2), .val (.int ch3), .unset, .unset, .unset] [(.ref a)])) t := by
  obtain ⟨_, _, ⟨T1, L1, kk1, nn1⟩, -, X1, ⟨Lc1, hQ1, l1, y1, z1⟩, st1⟩ := Jvm.LawKit.callS X0 hx (y := (⟨"com/example/grantline/grantline/authz/UnreservedMatchesPinLaw", "ok", "(C)Z"⟩ : MethodName)) hown (mvT hZ (wk hw 53 rfl)) (mvT hZ (wk hw 54 rfl)) (mvT hZ (wk hw 4 rfl)) (mvT hZ (wk hw 55 rfl)) (by decide) (backOf (W := 0) (m11 l Z a0 hw [] ch0 h0 n0 Z0 ) hZ (wk hw 55 rfl) (wk hw 4 rfl) (by decide) (by decide)) (g := (mkF m 60 #[.val (.int p1), .val (.int p2), .val (.int p3), .val (.int p4), .val (.int p5), .val (.int (1 : Int32)), .val (.int ch0), .val (.int ch1), .val (.int ch2), .val (.int ch3), .val (.ref a), .unset, .unset] [(.int ch0)])) rfl (by rw [hml]; rfl) (argsL := [(.int ch0)]) (rest := []) (lenOf pdx__C_Z rfl) rfl (by show 2 * 0 + _ ≤ _; exact Nat.le_of_eq rfl) (hb hby at_60) (fun _ _ => ⟨rfl, e0, nle rfl, nle rfl⟩)
  dsimp only [Pt.U, Pt.locs, Pt.cells, Pt.slots] at X1 l1 y1 z1 st1 hQ1
  subst l1 y1 z1
  obtain ⟨rfl, Nq1, e1⟩ := hQ1
  have N1 := Fr.app N0 Nq1
  obtain ⟨_, _, ⟨T2, L2, kk2, nn2⟩, -, X2, ⟨Lc2, hQ2, l2, y2, z2⟩, st2⟩ := Jvm.LawKit.callS X1 hx (y := (⟨"com/example/grantline/grantline/authz/Unreserved", "matches", "(Ljava/lang/String;)Z"⟩ : MethodName)) hown (mvT hZ (wk hw 28 rfl)) (mvT hZ (wk hw 29 rfl)) (mvT hZ (wk hw 30 rfl)) (mvT hZ (wk hw 31 rfl)) (by decide) (backOf (W := 0) (m5g_1 l Z a0 hw [] a (own_g ch0 ch1 ch2 ch3) wcs rg h0 n0 Z0 E_a tx S_CS ncs S_SI r_rg S_AD S_HI S_LO gd0) hZ (wk hw 31 rfl) (wk hw 30 rfl) (by decide) (by decide)) (g := (mkF m 117 #[.val (.int p1), .val (.int p2), .val (.int p3), .val (.int p4), .val (.int p5), .val (.int (1 : Int32)), .val (.int ch0), .val (.int ch1), .val (.int ch2), .val (.int ch3), .val (.ref a), .val (.int (1 : Int32)), .unset] [(.ref a)])) rfl (by rw [hml]; rfl) (argsL := [(.ref a)]) (rest := []) (lenOf pdx__Ljava_lang_String__Z rfl) rfl (by show 2 * 0 + _ ≤ _; exact Nat.le_of_eq rfl) (hb hby at_117) (fun _ _ => ⟨rfl, e1, nle rfl, nle rfl⟩)
  dsimp only [Pt.U, Pt.locs, Pt.cells, Pt.slots] at X2 l2 y2 z2 st2 hQ2
  subst l2 y2 z2
  obtain ⟨rfl, Nq2, e2⟩ := hQ2
  have N2 := Fr.app N1 Nq2
  refine ⟨T2, _, #[.val (.int p1), .val (.int p2), .val (.int p3), .val (.int p4), .val (.int p5), .val (.int (1 : Int32)), .val (.int ch0), .val (.int ch1), .val (.int ch2), .val (.int ch3), .val (.ref a), .val (.int (1 : Int32)), .val (.int (1 : Int32))], X2, e2, N2, fun t kont => ?_⟩
  · show Steps p.tables e below (T.setTop (mkF m 50 #[.val (.int p1), .val (.int p2), .val (.int p3), .val (.int p4), .val (.int p5), .val (.int (1 : Int32)), .val (.int ch0), .val (.int ch1), .val (.int ch2), .val (.int ch3), .unset, .unset, .unset] [(.ref a)])) _
    refine XS.astore X0.here hx rfl (hb hby at_50) rfl rfl (l' := #[.val (.int p1), .val (.int p2), .val (.int p3), .val (.int p4), .val (.int p5), .val (.int (1 : Int32)), .val (.int ch0), .val (.int ch1), .val (.int ch2), .val (.int ch3), .val (.ref a), .unset, .unset]) rfl ?_
    refine XS.iload X0.here hx rfl (hb hby at_52) rfl ?_
    show Steps p.tables e below (T.setTop (mkF m 54 #[.val (.int p1), .val (.int p2), .val (.int p3), .val (.int p4), .val (.int p5), .val (.int (1 : Int32)), .val (.int ch0), .val (.int ch1), .val (.int ch2), .val (.int ch3), .val (.ref a), .unset, .unset] [(.int (1 : Int32))])) _
    refine XS.iconst X0.here hx rfl (hb hby at_54) ?_
    show Steps p.tables e below (T.setTop (mkF m 55 #[.val (.int p1), .val (.int p2), .val (.int p3), .val (.int p4), .val (.int p5), .val (.int (1 : Int32)), .val (.int ch0), .val (.int ch1), .val (.int ch2), .val (.int ch3), .val (.ref a), .unset, .unset] [(.int (1 : Int32)), (.int (1 : Int32))])) _
    refine XS.icmpNo X0.here hx rfl (hb hby at_55) rfl (flt (by decide : ¬ ((1 : Int32) < (1 : Int32)))).1 ?_
    show Steps p.tables e below (T.setTop (mkF m 58 #[.val (.int p1), .val (.int p2), .val (.int p3), .val (.int p4), .val (.int p5), .val (.int (1 : Int32)), .val (.int ch0), .val (.int ch1), .val (.int ch2), .val (.int ch3), .val (.ref a), .unset, .unset] [])) _
    refine XS.iload X0.here hx rfl (hb hby at_58) rfl ?_
    show Steps p.tables e below (T.setTop (mkF m 60 #[.val (.int p1), .val (.int p2), .val (.int p3), .val (.int p4), .val (.int p5), .val (.int (1 : Int32)), .val (.int ch0), .val (.int ch1), .val (.int ch2), .val (.int ch3), .val (.ref a), .unset, .unset] [(.int ch0)])) _
    refine st1 _ ?_
    show Steps p.tables e below (T1.setTop (mkF m 63 #[.val (.int p1), .val (.int p2), .val (.int p3), .val (.int p4), .val (.int p5), .val (.int (1 : Int32)), .val (.int ch0), .val (.int ch1), .val (.int ch2), .val (.int ch3), .val (.ref a), .unset, .unset] [(.int (own_r ch0))])) _
    refine XS.ifNo X1.here hx rfl (hb hby at_63) rfl ((if0 _ _).trans (feq (gd0 : ¬ ((own_r ch0) = (0 : Int32)))).1) ?_
    show Steps p.tables e below (T1.setTop (mkF m 66 #[.val (.int p1), .val (.int p2), .val (.int p3), .val (.int p4), .val (.int p5), .val (.int (1 : Int32)), .val (.int ch0), .val (.int ch1), .val (.int ch2), .val (.int ch3), .val (.ref a), .unset, .unset] [])) _
    refine XS.iload X1.here hx rfl (hb hby at_66) rfl ?_
    refine XS.iconst X1.here hx rfl (hb hby at_68) ?_
    show Steps p.tables e below (T1.setTop (mkF m 69 #[.val (.int p1), .val (.int p2), .val (.int p3), .val (.int p4), .val (.int p5), .val (.int (1 : Int32)), .val (.int ch0), .val (.int ch1), .val (.int ch2), .val (.int ch3), .val (.ref a), .unset, .unset] [(.int (2 : Int32)), (.int (1 : Int32))])) _
    refine XS.icmpYes X1.here hx rfl (pc0 := 69) (pc' := 80) rfl (hb hby at_69) rfl (tlt (by decide : (1 : Int32) < (2 : Int32))).1 (by decide) (by decide) ?_
    show Steps p.tables e below (T1.setTop (mkF m 80 #[.val (.int p1), .val (.int p2), .val (.int p3), .val (.int p4), .val (.int p5), .val (.int (1 : Int32)), .val (.int ch0), .val (.int ch1), .val (.int ch2), .val (.int ch3), .val (.ref a), .unset, .unset] [])) _
    refine XS.iload X1.here hx rfl (hb hby at_80) rfl ?_
    refine XS.iconst X1.here hx rfl (hb hby at_82) ?_
    show Steps p.tables e below (T1.setTop (mkF m 83 #[.val (.int p1), .val (.int p2), .val (.int p3), .val (.int p4), .val (.int p5), .val (.int (1 : Int32)), .val (.int ch0), .val (.int ch1), .val (.int ch2), .val (.int ch3), .val (.ref a), .unset, .unset] [(.int (3 : Int32)), (.int (1 : Int32))])) _
    refine XS.icmpYes X1.here hx rfl (pc0 := 83) (pc' := 94) rfl (hb hby at_83) rfl (tlt (by decide : (1 : Int32) < (3 : Int32))).1 (by decide) (by decide) ?_
    show Steps p.tables e below (T1.setTop (mkF m 94 #[.val (.int p1), .val (.int p2), .val (.int p3), .val (.int p4), .val (.int p5), .val (.int (1 : Int32)), .val (.int ch0), .val (.int ch1), .val (.int ch2), .val (.int ch3), .val (.ref a), .unset, .unset] [])) _
    refine XS.iload X1.here hx rfl (hb hby at_94) rfl ?_
    refine XS.iconst X1.here hx rfl (hb hby at_96) ?_
    show Steps p.tables e below (T1.setTop (mkF m 97 #[.val (.int p1), .val (.int p2), .val (.int p3), .val (.int p4), .val (.int p5), .val (.int (1 : Int32)), .val (.int ch0), .val (.int ch1), .val (.int ch2), .val (.int ch3), .val (.ref a), .unset, .unset] [(.int (4 : Int32)), (.int (1 : Int32))])) _
    refine XS.icmpYes X1.here hx rfl (pc0 := 97) (pc' := 108) rfl (hb hby at_97) rfl (tlt (by decide : (1 : Int32) < (4 : Int32))).1 (by decide) (by decide) ?_
    show Steps p.tables e below (T1.setTop (mkF m 108 #[.val (.int p1), .val (.int p2), .val (.int p3), .val (.int p4), .val (.int p5), .val (.int (1 : Int32)), .val (.int ch0), .val (.int ch1), .val (.int ch2), .val (.int ch3), .val (.ref a), .unset, .unset] [])) _
    refine XS.iconst X1.here hx rfl (hb hby at_108) ?_
    refine XS.goto X1.here hx rfl (pc0 := 109) (pc' := 113) rfl (hb hby at_109) (by decide) (by decide) ?_
    show Steps p.tables e below (T1.setTop (mkF m 113 #[.val (.int p1), .val (.int p2), .val (.int p3), .val (.int p4), .val (.int p5), .val (.int (1 : Int32)), .val (.int ch0), .val (.int ch1), .val (.int ch2), .val (.int ch3), .val (.ref a), .unset, .unset] [(.int (1 : Int32))])) _
    refine XS.istore X1.here hx rfl (hb hby at_113) rfl (l' := #[.val (.int p1), .val (.int p2), .val (.int p3), .val (.int p4), .val (.int p5), .val (.int (1 : Int32)), .val (.int ch0), .val (.int ch1), .val (.int ch2), .val (.int ch3), .val (.ref a), .val (.int (1 : Int32)), .unset]) rfl ?_
    refine XS.aload X1.here hx rfl (hb hby at_115) rfl rfl ?_
    show Steps p.tables e below (T1.setTop (mkF m 117 #[.val (.int p1), .val (.int p2), .val (.int p3), .val (.int p4), .val (.int p5), .val (.int (1 : Int32)), .val (.int ch0), .val (.int ch1), .val (.int ch2), .val (.int ch3), .val (.ref a), .val (.int (1 : Int32)), .unset] [(.ref a)])) _
    refine st2 _ ?_
    show Steps p.tables e below (T2.setTop (mkF m 120 #[.val (.int p1), .val (.int p2), .val (.int p3), .val (.int p4), .val (.int p5), .val (.int (1 : Int32)), .val (.int ch0), .val (.int ch1), .val (.int ch2), .val (.int ch3), .val (.ref a), .val (.int (1 : Int32)), .unset] [(.int (1 : Int32))])) _
    refine XS.istore X2.here hx rfl (hb hby at_120) rfl (l' := #[.val (.int p1), .val (.int p2), .val (.int p3), .val (.int p4), .val (.int p5), .val (.int (1 : Int32)), .val (.int ch0), .val (.int ch1), .val (.int ch2), .val (.int ch3), .val (.ref a), .val (.int (1 : Int32)), .val (.int (1 : Int32))]) rfl ?_
    refine XS.iload X2.here hx rfl (hb hby at_122) rfl ?_
    show Steps p.tables e below (T2.setTop (mkF m 124 #[.val (.int p1), .val (.int p2), .val (.int p3), .val (.int p4), .val (.int p5), .val (.int (1 : Int32)), .val (.int ch0), .val (.int ch1), .val (.int ch2), .val (.int ch3), .val (.ref a), .val (.int (1 : Int32)), .val (.int (1 : Int32))] [(.int (1 : Int32))])) _
    refine XS.iload X2.here hx rfl (hb hby at_124) rfl ?_
    show Steps p.tables e below (T2.setTop (mkF m 126 #[.val (.int p1), .val (.int p2), .val (.int p3), .val (.int p4), .val (.int p5), .val (.int (1 : Int32)), .val (.int ch0), .val (.int ch1), .val (.int ch2), .val (.int ch3), .val (.ref a), .val (.int (1 : Int32)), .val (.int (1 : Int32))] [(.int (1 : Int32)), (.int (1 : Int32))])) _
    refine XS.icmpNo X2.here hx rfl (hb hby at_126) rfl (teq (by decide : (1 : Int32) = (1 : Int32))).2 ?_
    show Steps p.tables e below (T2.setTop (mkF m 129 #[.val (.int p1), .val (.int p2), .val (.int p3), .val (.int p4), .val (.int p5), .val (.int (1 : Int32)), .val (.int ch0), .val (.int ch1), .val (.int ch2), .val (.int ch3), .val (.ref a), .val (.int (1 : Int32)), .val (.int (1 : Int32))] [])) _
    refine XS.iconst X2.here hx rfl (hb hby at_129) ?_
    refine XS.goto X2.here hx rfl (pc0 := 130) (pc' := 134) rfl (hb hby at_130) (by decide) (by decide) ?_
    exact kont
set_option maxRecDepth 65536 in
set_option maxHeartbeats 40000000 in
theorem seg3g_2 {p : Program} {l : Launch} {e : Env} {s : State} {m : MethodId} {args : Array Value} {below : List Frame} {meth : Method} {c : Code} {Z : State} {a0 : Array Value} (hw : ∀ d ∈ tables_1, d.before a0 Z = true) (hx : p.tables.exec = Jvm.exec) (hby : c.code = code) (hml : c.maxLocals = 13) (hZ : Z.Warmed39 s.vm) (hown : s.vm.findClass "com/example/grantline/grantline/authz/UnreservedMatchesPinLaw" = some m.cls) {T : State} {locs : List Loc} (X0 : Stand p l e room_1 s m args below meth c T locs 8 64) {h0 : Heap} (e0 : T.heap = h0) {n0 : Nat} (Z0 : n0 ≤ h0.size) (N0 : Fr n0 locs) (a : Addr) (p1 p2 p3 p4 p5 ch0 ch1 ch2 ch3 wcs : Int32) (rg : Value) (E_a : Exa Z h0 a "java/lang/String") (tx : TX Z h0 a (2 : Int32) (own_g ch0 ch1 ch2 ch3)) (S_CS : Sta Z h0 "java/lang/String" "COMPACT_STRINGS" "Z" (.int wcs)) (ncs : ¬ (wcs = (0 : Int32))) (S_SI : Sta Z h0 "jdk/internal/util/Preconditions" "SIOOBE_FORMATTER" "Ljava/util/function/BiFunction;" rg) (r_rg : rg.isRef = true) (S_AD : Sta Z h0 "java/lang/StringUTF16" "$assertionsDisabled" "Z" (.int (1 : Int32))) (S_HI : Sta Z h0 "java/lang/StringUTF16" "HI_BYTE_SHIFT" "I" (.int (0 : Int32))) (S_LO : Sta Z h0 "java/lang/StringUTF16" "LO_BYTE_SHIFT" "I" (.int (8 : Int32))) (gd0 : ¬ (own_r ch0 = (0 : Int32))) (gd1 : ¬ (own_r ch1 = (0 : Int32))) :
    ∃ (T' : State) (locs' : List Loc) (Ls : Array Slot), Stand p l e room_1 s m args below meth c T' locs' 8 64 ∧ T'.heap = h0 ∧ Fr n0 locs' ∧ ∀ t, Steps p.tables e below (T'.setTop (mkF m 134 Ls [(.int (1 : Int32))])) t → Steps p.tables e below (T.setTop (mkF m 50 #[.val (.int p1), .val (.int p2), .val (.int p3), .val (.int p4), .val (.int p5), .val (.int (2 : Int32)), .val (.int ch0), .val (.int ch1), .val (.int ch2), .val (.int ch3), .unset, .unset, .unset] [(.ref a)])) t := by
  obtain ⟨_, _, ⟨T1, L1, kk1, nn1⟩, -, X1, ⟨Lc1, hQ1, l1, y1, z1⟩, st1⟩ := Jvm.LawKit.callS X0 hx (y := (⟨"com/example/grantline/grantline/authz/UnreservedMatchesPinLaw", "ok", "(C)Z"⟩ : MethodName)) hown (mvT hZ (wk hw 53 rfl)) (mvT hZ (wk hw 54 rfl)) (mvT hZ (wk hw 4 rfl)) (mvT hZ (wk hw 55 rfl)) (by decide) (backOf (W := 0) (m11 l Z a0 hw [] ch0 h0 n0 Z0 ) hZ (wk hw 55 rfl) (wk hw 4 rfl) (by decide) (by decide)) (g := (mkF m 60 #[.val (.int p1), .val (.int p2), .val (.int p3), .val (.int p4), .val (.int p5), .val (.int (2 : Int32)), .val (.int ch0), .val (.int ch1), .val (.int ch2), .val (.int ch3), .val (.ref a), .unset, .unset] [(.int ch0)])) rfl (by rw [hml]; rfl) (argsL := [(.int ch0)]) (rest := []) (lenOf pdx__C_Z rfl) rfl (by show 2 * 0 + _ ≤ _; exact Nat.le_of_eq rfl) (hb hby at_60) (fun _ _ => ⟨rfl, e0, nle rfl, nle rfl⟩)
  dsimp only [Pt.U, Pt.locs, Pt.cells, Pt.slots] at X1 l1 y1 z1 st1 hQ1
  subst l1 y1 z1
  obtain ⟨rfl, Nq1, e1⟩ := hQ1
  have N1 := Fr.app N0 Nq1
  obtain ⟨_, _, ⟨T2, L2, kk2, nn2⟩, -, X2, ⟨Lc2, hQ2, l2, y2, z2⟩, st2⟩ := Jvm.LawKit.callS X1 hx (y := (⟨"com/example/grantline/grantline/authz/UnreservedMatchesPinLaw", "ok", "(C)Z"⟩ : MethodName)) hown (mvT hZ (wk hw 53 rfl)) (mvT hZ (wk hw 54 rfl)) (mvT hZ (wk hw 4 rfl)) (mvT hZ (wk hw 55 rfl)) (by decide) (backOf (W := 0) (m11 l Z a0 hw [] ch1 h0 n0 Z0 ) hZ (wk hw 55 rfl) (wk hw 4 rfl) (by decide) (by decide)) (g := (mkF m 74 #[.val (.int p1), .val (.int p2), .val (.int p3), .val (.int p4), .val (.int p5), .val (.int (2 : Int32)), .val (.int ch0), .val (.int ch1), .val (.int ch2), .val (.int ch3), .val (.ref a), .unset, .unset] [(.int ch1)])) rfl (by rw [hml]; rfl) (argsL := [(.int ch1)]) (rest := []) (lenOf pdx__C_Z rfl) rfl (by show 2 * 0 + _ ≤ _; exact Nat.le_of_eq rfl) (hb hby at_74) (fun _ _ => ⟨rfl, e1, nle rfl, nle rfl⟩)
  dsimp only [Pt.U, Pt.locs, Pt.cells, Pt.slots] at X2 l2 y2 z2 st2 hQ2
  subst l2 y2 z2
  obtain ⟨rfl, Nq2, e2⟩ := hQ2
  have N2 := Fr.app N1 Nq2
  obtain ⟨_, _, ⟨T3, L3, kk3, nn3⟩, -, X3, ⟨Lc3, hQ3, l3, y3, z3⟩, st3⟩ := Jvm.LawKit.callS X2 hx (y := (⟨"com/example/grantline/grantline/authz/Unreserved", "matches", "(Ljava/lang/String;)Z"⟩ : MethodName)) hown (mvT hZ (wk hw 28 rfl)) (mvT hZ (wk hw 29 rfl)) (mvT hZ (wk hw 30 rfl)) (mvT hZ (wk hw 31 rfl)) (by decide) (backOf (W := 0) (m5g_2 l Z a0 hw [] a (own_g ch0 ch1 ch2 ch3) wcs rg h0 n0 Z0 E_a tx S_CS ncs S_SI r_rg S_AD S_HI S_LO gd0 gd1) hZ (wk hw 31 rfl) (wk hw 30 rfl) (by decide) (by decide)) (g := (mkF m 117 #[.val (.int p1), .val (.int p2), .val (.int p3), .val (.int p4), .val (.int p5), .val (.int (2 : Int32)), .val (.int ch0), .val (.int ch1), .val (.int ch2), .val (.int ch3), .val (.ref a), .val (.int (1 : Int32)), .unset] [(.ref a)])) rfl (by rw [hml]; rfl) (argsL := [(.ref a)]) (rest := []) (lenOf pdx__Ljava_lang_String__Z rfl) rfl (by show 2 * 0 + _ ≤ _; exact Nat.le_of_eq rfl) (hb hby at_117) (fun _ _ => ⟨rfl, e2, nle rfl, nle rfl⟩)
  dsimp only [Pt.U, Pt.locs, Pt.cells, Pt.slots] at X3 l3 y3 z3 st3 hQ3
  subst l3 y3 z3
  obtain ⟨rfl, Nq3, e3⟩ := hQ3
  have N3 := Fr.app N2 Nq3
  refine ⟨T3, _, #[.val (.int p1), .val (.int p2), .val (.int p3), .val (.int p4), .val (.int p5), .val (.int (2 : Int32)), .val (.int ch0), .val (.int ch1), .val (.int ch2), .val (.int ch3), .val (.ref a), .val (.int (1 : Int32)), .val (.int (1 : Int32))], X3, e3, N3, fun t kont => ?_⟩
  · show Steps p.tables e below (T.setTop (mkF m 50 #[.val (.int p1), .val (.int p2), .val (.int p3), .val (.int p4), .val (.int p5), .val (.int (2 : Int32)), .val (.int ch0), .val (.int ch1), .val (.int ch2), .val (.int ch3), .unset, .unset, .unset] [(.ref a)])) _
    refine XS.astore X0.here hx rfl (hb hby at_50) rfl rfl (l' := #[.val (.int p1), .val (.int p2), .val (.int p3), .val (.int p4), .val (.int p5), .val (.int (2 : Int32)), .val (.int ch0), .val (.int ch1), .val (.int ch2), .val (.int ch3), .val (.ref a), .unset, .unset]) rfl ?_
    refine XS.iload X0.here hx rfl (hb hby at_52) rfl ?_
    show Steps p.tables e below (T.setTop (mkF m 54 #[.val (.int p1), .val (.int p2), .val (.int p3), .val (.int p4), .val (.int p5), .val (.int (2 : Int32)), .val (.int ch0), .val (.int ch1), .val (.int ch2), .val (.int ch3), .val (.ref a), .unset, .unset] [(.int (2 : Int32))])) _
    refine XS.iconst X0.here hx rfl (hb hby at_54) ?_
    show Steps p.tables e below (T.setTop (mkF m 55 #[.val (.int p1), .val (.int p2), .val (.int p3), .val (.int p4), .val (.int p5), .val (.int (2 : Int32)), .val (.int ch0), .val (.int ch1), .val (.int ch2), .val (.int ch3), .val (.ref a), .unset, .unset] [(.int (1 : Int32)), (.int (2 : Int32))])) _
    refine XS.icmpNo X0.here hx rfl (hb hby at_55) rfl (flt (by decide : ¬ ((2 : Int32) < (1 : Int32)))).1 ?_
    show Steps p.tables e below (T.setTop (mkF m 58 #[.val (.int p1), .val (.int p2), .val (.int p3), .val (.int p4), .val (.int p5), .val (.int (2 : Int32)), .val (.int ch0), .val (.int ch1), .val (.int ch2), .val (.int ch3), .val (.ref a), .unset, .unset] [])) _
    refine XS.iload X0.here hx rfl (hb hby at_58) rfl ?_
    show Steps p.tables e below (T.setTop (mkF m 60 #[.val (.int p1), .val (.int p2), .val (.int p3), .val (.int p4), .val (.int p5), .val (.int (2 : Int32)), .val (.int ch0), .val (.int ch1), .val (.int ch2), .val (.int ch3), .val (.ref a), .unset, .unset] [(.int ch0)])) _
    refine st1 _ ?_
    show Steps p.tables e below (T1.setTop (mkF m 63 #[.val (.int p1), .val (.int p2), .val (.int p3), .val (.int p4), .val (.int p5), .val (.int (2 : Int32)), .val (.int ch0), .val (.int ch1), .val (.int ch2), .val (.int ch3), .val (.ref a), .unset, .unset] [(.int (own_r ch0))])) _
    refine XS.ifNo X1.here hx rfl (hb hby at_63) rfl ((if0 _ _).trans (feq (gd0 : ¬ ((own_r ch0) = (0 : Int32)))).1) ?_
    show Steps p.tables e below (T1.setTop (mkF m 66 #[.val (.int p1), .val (.int p2), .val (.int p3), .val (.int p4), .val (.int p5), .val (.int (2 : Int32)), .val (.int ch0), .val (.int ch1), .val (.int ch2), .val (.int ch3), .val (.ref a), .unset, .unset] [])) _
    refine XS.iload X1.here hx rfl (hb hby at_66) rfl ?_
    refine XS.iconst X1.here hx rfl (hb hby at_68) ?_
    show Steps p.tables e below (T1.setTop (mkF m 69 #[.val (.int p1), .val (.int p2), .val (.int p3), .val (.int p4), .val (.int p5), .val (.int (2 : Int32)), .val (.int ch0), .val (.int ch1), .val (.int ch2), .val (.int ch3), .val (.ref a), .unset, .unset] [(.int (2 : Int32)), (.int (2 : Int32))])) _
    refine XS.icmpNo X1.here hx rfl (hb hby at_69) rfl (flt (by decide : ¬ ((2 : Int32) < (2 : Int32)))).1 ?_
    show Steps p.tables e below (T1.setTop (mkF m 72 #[.val (.int p1), .val (.int p2), .val (.int p3), .val (.int p4), .val (.int p5), .val (.int (2 : Int32)), .val (.int ch0), .val (.int ch1), .val (.int ch2), .val (.int ch3), .val (.ref a), .unset, .unset] [])) _
    refine XS.iload X1.here hx rfl (hb hby at_72) rfl ?_
    show Steps p.tables e below (T1.setTop (mkF m 74 #[.val (.int p1), .val (.int p2), .val (.int p3), .val (.int p4), .val (.int p5), .val (.int (2 : Int32)), .val (.int ch0), .val (.int ch1), .val (.int ch2), .val (.int ch3), .val (.ref a), .unset, .unset] [(.int ch1)])) _
    refine st2 _ ?_
    show Steps p.tables e below (T2.setTop (mkF m 77 #[.val (.int p1), .val (.int p2), .val (.int p3), .val (.int p4), .val (.int p5), .val (.int (2 : Int32)), .val (.int ch0), .val (.int ch1), .val (.int ch2), .val (.int ch3), .val (.ref a), .unset, .unset] [(.int (own_r ch1))])) _
    refine XS.ifNo X2.here hx rfl (hb hby at_77) rfl ((if0 _ _).trans (feq (gd1 : ¬ ((own_r ch1) = (0 : Int32)))).1) ?_
    show Steps p.tables e below (T2.setTop (mkF m 80 #[.val (.int p1), .val (.int p2), .val (.int p3), .val (.int p4), .val (.int p5), .val (.int (2 : Int32)), .val (.int ch0), .val (.int ch1), .val (.int ch2), .val (.int ch3), .val (.ref a), .unset, .unset] [])) _
    refine XS.iload X2.here hx rfl (hb hby at_80) rfl ?_
    refine XS.iconst X2.here hx rfl (hb hby at_82) ?_
    show Steps p.tables e below (T2.setTop (mkF m 83 #[.val (.int p1), .val (.int p2), .val (.int p3), .val (.int p4), .val (.int p5), .val (.int (2 : Int32)), .val (.int ch0), .val (.int ch1), .val (.int ch2), .val (.int ch3), .val (.ref a), .unset, .unset] [(.int (3 : Int32)), (.int (2 : Int32))])) _
    refine XS.icmpYes X2.here hx rfl (pc0 := 83) (pc' := 94) rfl (hb hby at_83) rfl (tlt (by decide : (2 : Int32) < (3 : Int32))).1 (by decide) (by decide) ?_
    show Steps p.tables e below (T2.setTop (mkF m 94 #[.val (.int p1), .val (.int p2), .val (.int p3), .val (.int p4), .val (.int p5), .val (.int (2 : Int32)), .val (.int ch0), .val (.int ch1), .val (.int ch2), .val (.int ch3), .val (.ref a), .unset, .unset] [])) _
    refine XS.iload X2.here hx rfl (hb hby at_94) rfl ?_
    refine XS.iconst X2.here hx rfl (hb hby at_96) ?_
    show Steps p.tables e below (T2.setTop (mkF m 97 #[.val (.int p1), .val (.int p2), .val (.int p3), .val (.int p4), .val (.int p5), .val (.int (2 : Int32)), .val (.int ch0), .val (.int ch1), .val (.int ch2), .val (.int ch3), .val (.ref a), .unset, .unset] [(.int (4 : Int32)), (.int (2 : Int32))])) _
    refine XS.icmpYes X2.here hx rfl (pc0 := 97) (pc' := 108) rfl (hb hby at_97) rfl (tlt (by decide : (2 : Int32) < (4 : Int32))).1 (by decide) (by decide) ?_
    show Steps p.tables e below (T2.setTop (mkF m 108 #[.val (.int p1), .val (.int p2), .val (.int p3), .val (.int p4), .val (.int p5), .val (.int (2 : Int32)), .val (.int ch0), .val (.int ch1), .val (.int ch2), .val (.int ch3), .val (.ref a), .unset, .unset] [])) _
    refine XS.iconst X2.here hx rfl (hb hby at_108) ?_
    refine XS.goto X2.here hx rfl (pc0 := 109) (pc' := 113) rfl (hb hby at_109) (by decide) (by decide) ?_
    show Steps p.tables e below (T2.setTop (mkF m 113 #[.val (.int p1), .val (.int p2), .val (.int p3), .val (.int p4), .val (.int p5), .val (.int (2 : Int32)), .val (.int ch0), .val (.int ch1), .val (.int ch2), .val (.int ch3), .val (.ref a), .unset, .unset] [(.int (1 : Int32))])) _
    refine XS.istore X2.here hx rfl (hb hby at_113) rfl (l' := #[.val (.int p1), .val (.int p2), .val (.int p3), .val (.int p4), .val (.int p5), .val (.int (2 : Int32)), .val (.int ch0), .val (.int ch1), .val (.int ch2), .val (.int ch3), .val (.ref a), .val (.int (1 : Int32)), .unset]) rfl ?_
    refine XS.aload X2.here hx rfl (hb hby at_115) rfl rfl ?_
    show Steps p.tables e below (T2.setTop (mkF m 117 #[.val (.int p1), .val (.int p2), .val (.int p3), .val (.int p4), .val (.int p5), .val (.int (2 : Int32)), .val (.int ch0), .val (.int ch1), .val (.int ch2), .val (.int ch3), .val (.ref a), .val (.int (1 : Int32)), .unset] [(.ref a)])) _
    refine st3 _ ?_
    show Steps p.tables e below (T3.setTop (mkF m 120 #[.val (.int p1), .val (.int p2), .val (.int p3), .val (.int p4), .val (.int p5), .val (.int (2 : Int32)), .val (.int ch0), .val (.int ch1), .val (.int ch2), .val (.int ch3), .val (.ref a), .val (.int (1 : Int32)), .unset] [(.int (1 : Int32))])) _
    refine XS.istore X3.here hx rfl (hb hby at_120) rfl (l' := #[.val (.int p1), .val (.int p2), .val (.int p3), .val (.int p4), .val (.int p5), .val (.int (2 : Int32)), .val (.int ch0), .val (.int ch1), .val (.int ch2), .val (.int ch3), .val (.ref a), .val (.int (1 : Int32)), .val (.int (1 : Int32))]) rfl ?_
    refine XS.iload X3.here hx rfl (hb hby at_122) rfl ?_
    show Steps p.tables e below (T3.setTop (mkF m 124 #[.val (.int p1), .val (.int p2), .val (.int p3), .val (.int p4), .val (.int p5), .val (.int (2 : Int32)), .val (.int ch0), .val (.int ch1), .val (.int ch2), .val (.int ch3), .val (.ref a), .val (.int (1 : Int32)), .val (.int (1 : Int32))] [(.int (1 : Int32))])) _
    refine XS.iload X3.here hx rfl (hb hby at_124) rfl ?_
    show Steps p.tables e below (T3.setTop (mkF m 126 #[.val (.int p1), .val (.int p2), .val (.int p3), .val (.int p4), .val (.int p5), .val (.int (2 : Int32)), .val (.int ch0), .val (.int ch1), .val (.int ch2), .val (.int ch3), .val (.ref a), .val (.int (1 : Int32)), .val (.int (1 : Int32))] [(.int (1 : Int32)), (.int (1 : Int32))])) _
    refine XS.icmpNo X3.here hx rfl (hb hby at_126) rfl (teq (by decide : (1 : Int32) = (1 : Int32))).2 ?_
    show Steps p.tables e below (T3.setTop (mkF m 129 #[.val (.int p1), .val (.int p2), .val (.int p3), .val (.int p4), .val (.int p5), .val (.int (2 : Int32)), .val (.int ch0), .val (.int ch1), .val (.int ch2), .val (.int ch3), .val (.ref a), .val (.int (1 : Int32)), .val (.int (1 : Int32))] [])) _
    refine XS.iconst X3.here hx rfl (hb hby at_129) ?_
    refine XS.goto X3.here hx rfl (pc0 := 130) (pc' := 134) rfl (hb hby at_130) (by decide) (by decide) ?_
    exact kont
set_option maxRecDepth 65536 in
set_option maxHeartbeats 40000000 in
theorem seg3g_3 {p : Program} {l : Launch} {e : Env} {s : State} {m : MethodId} {args : Array Value} {below : List Frame} {meth : Method} {c : Code} {Z : State} {a0 : Array Value} (hw : ∀ d ∈ tables_1, d.before a0 Z = true) (hx : p.tables.exec = Jvm.exec) (hby : c.code = code) (hml : c.maxLocals = 13) (hZ : Z.Warmed39 s.vm) (hown : s.vm.findClass "com/example/grantline/grantline/authz/UnreservedMatchesPinLaw" = some m.cls) {T : State} {locs : List Loc} (X0 : Stand p l e room_1 s m args below meth c T locs 8 64) {h0 : Heap} (e0 : T.heap = h0) {n0 : Nat} (Z0 : n0 ≤ h0.size) (N0 : Fr n0 locs) (a : Addr) (p1 p2 p3 p4 p5 ch0 ch1 ch2 ch3 wcs : Int32) (rg : Value) (E_a : Exa Z h0 a "java/lang/String") (tx : TX Z h0 a (3 : Int32) (own_g ch0 ch1 ch2 ch3)) (S_CS : Sta Z h0 "java/lang/String" "COMPACT_STRINGS" "Z" (.int wcs)) (ncs : ¬ (wcs = (0 : Int32))) (S_SI : Sta Z h0 "jdk/internal/util/Preconditions" "SIOOBE_FORMATTER" "Ljava/util/function/BiFunction;" rg) (r_rg : rg.isRef = true) (S_AD : Sta Z h0 "java/lang/StringUTF16" "$assertionsDisabled" "Z" (.int (1 : Int32))) (S_HI : Sta Z h0 "java/lang/StringUTF16" "HI_BYTE_SHIFT" "I" (.int (0 : Int32))) (S_LO : Sta Z h0 "java/lang/StringUTF16" "LO_BYTE_SHIFT" "I" (.int (8 : Int32))) (gd0 : ¬ (own_r ch0 = (0 : Int32))) (gd1 : ¬ (own_r ch1 = (0 : Int32))) (gd2 : ¬ (own_r ch2 = (0 : Int32))) :
    ∃ (T' : State) (locs' : List Loc) (Ls : Array Slot), Stand p l e room_1 s m args below meth c T' locs' 8 64 ∧ T'.heap = h0 ∧ Fr n0 locs' ∧ ∀ t, Steps p.tables e below (T'.setTop (mkF m 134 Ls [(.int (1 : Int32))])) t → Steps p.tables e below (T.setTop (mkF m 50 #[.val (.int p1), .val (.int p2), .val (.int p3), .val (.int p4), .val (.int p5), .val (.int (3 : Int32)), .val (.int ch0), .val (.int ch1), .val (.int ch2), .val (.int ch3), .unset, .unset, .unset] [(.ref a)])) t := by
  obtain ⟨_, _, ⟨T1, L1, kk1, nn1⟩, -, X1, ⟨Lc1, hQ1, l1, y1, z1⟩, st1⟩ := Jvm.LawKit.callS X0 hx (y := (⟨"com/example/grantline/grantline/authz/UnreservedMatchesPinLaw", "ok", "(C)Z"⟩ : MethodName)) hown (mvT hZ (wk hw 53 rfl)) (mvT hZ (wk hw 54 rfl)) (mvT hZ (wk hw 4 rfl)) (mvT hZ (wk hw 55 rfl)) (by decide) (backOf (W := 0) (m11 l Z a0 hw [] ch0 h0 n0 Z0 ) hZ (wk hw 55 rfl) (wk hw 4 rfl) (by decide) (by decide)) (g := (mkF m 60 #[.val (.int p1), .val (.int p2), .val (.int p3), .val (.int p4), .val (.int p5), .val (.int (3 : Int32)), .val (.int ch0), .val (.int ch1), .val (.int ch2), .val (.int ch3), .val (.ref a), .unset, .unset] [(.int ch0)])) rfl (by rw [hml]; rfl) (argsL := [(.int ch0)]) (rest := []) (lenOf pdx__C_Z rfl) rfl (by show 2 * 0 + _ ≤ _; exact Nat.le_of_eq rfl) (hb hby at_60) (fun _ _ => ⟨rfl, e0, nle rfl, nle rfl⟩)
  dsimp only [Pt.U, Pt.locs, Pt.cells, Pt.slots] at X1 l1 y1 z1 st1 hQ1
  subst l1 y1 z1
  obtain ⟨rfl, Nq1, e1⟩ := hQ1
  have N1 := Fr.app N0 Nq1
  obtain ⟨_, _, ⟨T2, L2, kk2, nn2⟩, -, X2, ⟨Lc2, hQ2, l2, y2, z2⟩, st2⟩ := Jvm.LawKit.callS X1 hx (y := (⟨"com/example/grantline/grantline/authz/UnreservedMatchesPinLaw", "ok", "(C)Z"⟩ : MethodName)) hown (mvT hZ (wk hw 53 rfl)) (mvT hZ (wk hw 54 rfl)) (mvT hZ (wk hw 4 rfl)) (mvT hZ (wk hw 55 rfl)) (by decide) (backOf (W := 0) (m11 l Z a0 hw [] ch1 h0 n0 Z0 ) hZ (wk hw 55 rfl) (wk hw 4 rfl) (by decide) (by decide)) (g := (mkF m 74 #[.val (.int p1), .val (.int p2), .val (.int p3), .val (.int p4), .val (.int p5), .val (.int (3 : Int32)), .val (.int ch0), .val (.int ch1), .val (.int ch2), .val (.int ch3), .val (.ref a), .unset, .unset] [(.int ch1)])) rfl (by rw [hml]; rfl) (argsL := [(.int ch1)]) (rest := []) (lenOf pdx__C_Z rfl) rfl (by show 2 * 0 + _ ≤ _; exact Nat.le_of_eq rfl) (hb hby at_74) (fun _ _ => ⟨rfl, e1, nle rfl, nle rfl⟩)
  dsimp only [Pt.U, Pt.locs, Pt.cells, Pt.slots] at X2 l2 y2 z2 st2 hQ2
  subst l2 y2 z2
  obtain ⟨rfl, Nq2, e2⟩ := hQ2
  have N2 := Fr.app N1 Nq2
  obtain ⟨_, _, ⟨T3, L3, kk3, nn3⟩, -, X3, ⟨Lc3, hQ3, l3, y3, z3⟩, st3⟩ := Jvm.LawKit.callS X2 hx (y := (⟨"com/example/grantline/grantline/authz/UnreservedMatchesPinLaw", "ok", "(C)Z"⟩ : MethodName)) hown (mvT hZ (wk hw 53 rfl)) (mvT hZ (wk hw 54 rfl)) (mvT hZ (wk hw 4 rfl)) (mvT hZ (wk hw 55 rfl)) (by decide) (backOf (W := 0) (m11 l Z a0 hw [] ch2 h0 n0 Z0 ) hZ (wk hw 55 rfl) (wk hw 4 rfl) (by decide) (by decide)) (g := (mkF m 88 #[.val (.int p1), .val (.int p2), .val (.int p3), .val (.int p4), .val (.int p5), .val (.int (3 : Int32)), .val (.int ch0), .val (.int ch1), .val (.int ch2), .val (.int ch3), .val (.ref a), .unset, .unset] [(.int ch2)])) rfl (by rw [hml]; rfl) (argsL := [(.int ch2)]) (rest := []) (lenOf pdx__C_Z rfl) rfl (by show 2 * 0 + _ ≤ _; exact Nat.le_of_eq rfl) (hb hby at_88) (fun _ _ => ⟨rfl, e2, nle rfl, nle rfl⟩)
  dsimp only [Pt.U, Pt.locs, Pt.cells, Pt.slots] at X3 l3 y3 z3 st3 hQ3
  subst l3 y3 z3
  obtain ⟨rfl, Nq3, e3⟩ := hQ3
  have N3 := Fr.app N2 Nq3
  obtain ⟨_, _, ⟨T4, L4, kk4, nn4⟩, -, X4, ⟨Lc4, hQ4, l4, y4, z4⟩, st4⟩ := Jvm.LawKit.callS X3 hx (y := (⟨"com/example/grantline/grantline/authz/Unreserved", "matches", "(Ljava/lang/String;)Z"⟩ : MethodName)) hown (mvT hZ (wk hw 28 rfl)) (mvT hZ (wk hw 29 rfl)) (mvT hZ (wk hw 30 rfl)) (mvT hZ (wk hw 31 rfl)) (by decide) (backOf (W := 0) (m5g_3 l Z a0 hw [] a (own_g ch0 ch1 ch2 ch3) wcs rg h0 n0 Z0 E_a tx S_CS ncs S_SI r_rg S_AD S_HI S_LO gd0 gd1 gd2) hZ (wk hw 31 rfl) (wk hw 30 rfl) (by decide) (by decide)) (g := (mkF m 117 #[.val (.int p1), .val (.int p2), .val (.int p3), .val (.int p4), .val (.int p5), .val (.int (3 : Int32)), .val (.int ch0), .val (.int ch1), .val (.int ch2), .val (.int ch3), .val (.ref a), .val (.int (1 : Int32)), .unset] [(.ref a)])) rfl (by rw [hml]; rfl) (argsL := [(.ref a)]) (rest := []) (lenOf pdx__Ljava_lang_String__Z rfl) rfl (by show 2 * 0 + _ ≤ _; exact Nat.le_of_eq rfl) (hb hby at_117) (fun _ _ => ⟨rfl, e3, nle rfl, nle rfl⟩)
  dsimp only [Pt.U, Pt.locs, Pt.cells, Pt.slots] at X4 l4 y4 z4 st4 hQ4
  subst l4 y4 z4
  obtain ⟨rfl, Nq4, e4⟩ := hQ4
  have N4 := Fr.app N3 Nq4
  refine ⟨T4, _, #[.val (.int p1), .val (.int p2), .val (.int p3), .val (.int p4), .val (.int p5), .val (.int (3 : Int32)), .val (.int ch0), .val (.int ch1), .val (.int ch2), .val (.int ch3), .val (.ref a), .val (.int (1 : Int32)), .val (.int (1 : Int32))], X4, e4, N4, fun t kont => ?_⟩
  · show Steps p.tables e below (T.setTop (mkF m 50 #[.val (.int p1), .val (.int p2), .val (.int p3), .val (.int p4), .val (.int p5), .val (.int (3 : Int32)), .val (.int ch0), .val (.int ch1), .val (.int ch2), .val (.int ch3), .unset, .unset, .unset] [(.ref a)])) _
    refine XS.astore X0.here hx rfl (hb hby at_50) rfl rfl (l' := #[.val (.int p1), .val (.int p2), .val (.int p3), .val (.int p4), .val (.int p5), .val (.int (3 : Int32)), .val (.int ch0), .val (.int ch1), .val (.int ch2), .val (.int ch3), .val (.ref a), .unset, .unset]) rfl ?_
    refine XS.iload X0.here hx rfl (hb hby at_52) rfl ?_
    show Steps p.tables e below (T.setTop (mkF m 54 #[.val (.int p1), .val (.int p2), .val (.int p3), .val (.int p4), .val (.int p5), .val (.int (3 : Int32)), .val (.int ch0), .val (.int ch1), .val (.int ch2), .val (.int ch3), .val (.ref a), .unset, .unset] [(.int (3 : Int32))])) _
    refine XS.iconst X0.here hx rfl (hb hby at_54) ?_
    show Steps p.tables e below (T.setTop (mkF m 55 #[.val (.int p1), .val (.int p2), .val (.int p3), .val (.int p4), .val (.int p5), .val (.int (3 : Int32)), .val (.int ch0), .val (.int ch1), .val (.int ch2), .val (.int ch3), .val (.ref a), .unset, .unset] [(.int (1 : Int32)), (.int (3 : Int32))])) _
    refine XS.icmpNo X0.here hx rfl (hb hby at_55) rfl (flt (by decide : ¬ ((3 : Int32) < (1 : Int32)))).1 ?_
    show Steps p.tables e below (T.setTop (mkF m 58 #[.val (.int p1), .val (.int p2), .val (.int p3), .val (.int p4), .val (.int p5), .val (.int (3 : Int32)), .val (.int ch0), .val (.int ch1), .val (.int ch2), .val (.int ch3), .val (.ref a), .unset, .unset] [])) _
    refine XS.iload X0.here hx rfl (hb hby at_58) rfl ?_
    show Steps p.tables e below (T.setTop (mkF m 60 #[.val (.int p1), .val (.int p2), .val (.int p3), .val (.int p4), .val (.int p5), .val (.int (3 : Int32)), .val (.int ch0), .val (.int ch1), .val (.int ch2), .val (.int ch3), .val (.ref a), .unset, .unset] [(.int ch0)])) _
    refine st1 _ ?_
    show Steps p.tables e below (T1.setTop (mkF m 63 #[.val (.int p1), .val (.int p2), .val (.int p3), .val (.int p4), .val (.int p5), .val (.int (3 : Int32)), .val (.int ch0), .val (.int ch1), .val (.int ch2), .val (.int ch3), .val (.ref a), .unset, .unset] [(.int (own_r ch0))])) _
    refine XS.ifNo X1.here hx rfl (hb hby at_63) rfl ((if0 _ _).trans (feq (gd0 : ¬ ((own_r ch0) = (0 : Int32)))).1) ?_
    show Steps p.tables e below (T1.setTop (mkF m 66 #[.val (.int p1), .val (.int p2), .val (.int p3), .val (.int p4), .val (.int p5), .val (.int (3 : Int32)), .val (.int ch0), .val (.int ch1), .val (.int ch2), .val (.int ch3), .val (.ref a), .unset, .unset] [])) _
    refine XS.iload X1.here hx rfl (hb hby at_66) rfl ?_
    refine XS.iconst X1.here hx rfl (hb hby at_68) ?_
    show Steps p.tables e below (T1.setTop (mkF m 69 #[.val (.int p1), .val (.int p2), .val (.int p3), .val (.int p4), .val (.int p5), .val (.int (3 : Int32)), .val (.int ch0), .val (.int ch1), .val (.int ch2), .val (.int ch3), .val (.ref a), .unset, .unset] [(.int (2 : Int32)), (.int (3 : Int32))])) _
    refine XS.icmpNo X1.here hx rfl (hb hby at_69) rfl (flt (by decide : ¬ ((3 : Int32) < (2 : Int32)))).1 ?_
    show Steps p.tables e below (T1.setTop (mkF m 72 #[.val (.int p1), .val (.int p2), .val (.int p3), .val (.int p4), .val (.int p5), .val (.int (3 : Int32)), .val (.int ch0), .val (.int ch1), .val (.int ch2), .val (.int ch3), .val (.ref a), .unset, .unset] [])) _
    refine XS.iload X1.here hx rfl (hb hby at_72) rfl ?_
    show Steps p.tables e below (T1.setTop (mkF m 74 #[.val (.int p1), .val (.int p2), .val (.int p3), .val (.int p4), .val (.int p5), .val (.int (3 : Int32)), .val (.int ch0), .val (.int ch1), .val (.int ch2), .val (.int ch3), .val (.ref a), .unset, .unset] [(.int ch1)])) _
    refine st2 _ ?_
    show Steps p.tables e below (T2.setTop (mkF m 77 #[.val (.int p1), .val (.int p2), .val (.int p3), .val (.int p4), .val (.int p5), .val (.int (3 : Int32)), .val (.int ch0), .val (.int ch1), .val (.int ch2), .val (.int ch3), .val (.ref a), .unset, .unset] [(.int (own_r ch1))])) _
    refine XS.ifNo X2.here hx rfl (hb hby at_77) rfl ((if0 _ _).trans (feq (gd1 : ¬ ((own_r ch1) = (0 : Int32)))).1) ?_
    show Steps p.tables e below (T2.setTop (mkF m 80 #[.val (.int p1), .val (.int p2), .val (.int p3), .val (.int p4), .val (.int p5), .val (.int (3 : Int32)), .val (.int ch0), .val (.int ch1), .val (.int ch2), .val (.int ch3), .val (.ref a), .unset, .unset] [])) _
    refine XS.iload X2.here hx rfl (hb hby at_80) rfl ?_
    refine XS.iconst X2.here hx rfl (hb hby at_82) ?_
    show Steps p.tables e below (T2.setTop (mkF m 83 #[.val (.int p1), .val (.int p2), .val (.int p3), .val (.int p4), .val (.int p5), .val (.int (3 : Int32)), .val (.int ch0), .val (.int ch1), .val (.int ch2), .val (.int ch3), .val (.ref a), .unset, .unset] [(.int (3 : Int32)), (.int (3 : Int32))])) _
    refine XS.icmpNo X2.here hx rfl (hb hby at_83) rfl (flt (by decide : ¬ ((3 : Int32) < (3 : Int32)))).1 ?_
    show Steps p.tables e below (T2.setTop (mkF m 86 #[.val (.int p1), .val (.int p2), .val (.int p3), .val (.int p4), .val (.int p5), .val (.int (3 : Int32)), .val (.int ch0), .val (.int ch1), .val (.int ch2), .val (.int ch3), .val (.ref a), .unset, .unset] [])) _
    refine XS.iload X2.here hx rfl (hb hby at_86) rfl ?_
    show Steps p.tables e below (T2.setTop (mkF m 88 #[.val (.int p1), .val (.int p2), .val (.int p3), .val (.int p4), .val (.int p5), .val (.int (3 : Int32)), .val (.int ch0), .val (.int ch1), .val (.int ch2), .val (.int ch3), .val (.ref a), .unset, .unset] [(.int ch2)])) _
    refine st3 _ ?_
    show Steps p.tables e below (T3.setTop (mkF m 91 #[.val (.int p1), .val (.int p2), .val (.int p3), .val (.int p4), .val (.int p5), .val (.int (3 : Int32)), .val (.int ch0), .val (.int ch1), .val (.int ch2), .val (.int ch3), .val (.ref a), .unset, .unset] [(.int (own_r ch2))])) _
    refine XS.ifNo X3.here hx rfl (hb hby at_91) rfl ((if0 _ _).trans (feq (gd2 : ¬ ((own_r ch2) = (0 : Int32)))).1) ?_
    show Steps p.tables e below (T3.setTop (mkF m 94 #[.val (.int p1), .val (.int p2), .val (.int p3), .val (.int p4), .val (.int p5), .val (.int (3 : Int32)), .val (.int ch0), .val (.int ch1), .val (.int ch2), .val (.int ch3), .val (.ref a), .unset, .unset] [])) _
    refine XS.iload X3.here hx rfl (hb hby at_94) rfl ?_
    refine XS.iconst X3.here hx rfl (hb hby at_96) ?_
    show Steps p.tables e below (T3.setTop (mkF m 97 #[.val (.int p1), .val (.int p2), .val (.int p3), .val (.int p4), .val (.int p5), .val (.int (3 : Int32)), .val (.int ch0), .val (.int ch1), .val (.int ch2), .val (.int ch3), .val (.ref a), .unset, .unset] [(.int (4 : Int32)), (.int (3 : Int32))])) _
    refine XS.icmpYes X3.here hx rfl (pc0 := 97) (pc' := 108) rfl (hb hby at_97) rfl (tlt (by decide : (3 : Int32) < (4 : Int32))).1 (by decide) (by decide) ?_
    show Steps p.tables e below (T3.setTop (mkF m 108 #[.val (.int p1), .val (.int p2), .val (.int p3), .val (.int p4), .val (.int p5), .val (.int (3 : Int32)), .val (.int ch0), .val (.int ch1), .val (.int ch2), .val (.int ch3), .val (.ref a), .unset, .unset] [])) _
    refine XS.iconst X3.here hx rfl (hb hby at_108) ?_
    refine XS.goto X3.here hx rfl (pc0 := 109) (pc' := 113) rfl (hb hby at_109) (by decide) (by decide) ?_
    show Steps p.tables e below (T3.setTop (mkF m 113 #[.val (.int p1), .val (.int p2), .val (.int p3), .val (.int p4), .val (.int p5), .val (.int (3 : Int32)), .val (.int ch0), .val (.int ch1), .val (.int ch2), .val (.int ch3), .val (.ref a), .unset, .unset] [(.int (1 : Int32))])) _
    refine XS.istore X3.here hx rfl (hb hby at_113) rfl (l' := #[.val (.int p1), .val (.int p2), .val (.int p3), .val (.int p4), .val (.int p5), .val (.int (3 : Int32)), .val (.int ch0), .val (.int ch1), .val (.int ch2), .val (.int ch3), .val (.ref a), .val (.int (1 : Int32)), .unset]) rfl ?_
    refine XS.aload X3.here hx rfl (hb hby at_115) rfl rfl ?_
    show Steps p.tables e below (T3.setTop (mkF m 117 #[.val (.int p1), .val (.int p2), .val (.int p3), .val (.int p4), .val (.int p5), .val (.int (3 : Int32)), .val (.int ch0), .val (.int ch1), .val (.int ch2), .val (.int ch3), .val (.ref a), .val (.int (1 : Int32)), .unset] [(.ref a)])) _
    refine st4 _ ?_
    show Steps p.tables e below (T4.setTop (mkF m 120 #[.val (.int p1), .val (.int p2), .val (.int p3), .val (.int p4), .val (.int p5), .val (.int (3 : Int32)), .val (.int ch0), .val (.int ch1), .val (.int ch2), .val (.int ch3), .val (.ref a), .val (.int (1 : Int32)), .unset] [(.int (1 : Int32))])) _
    refine XS.istore X4.here hx rfl (hb hby at_120) rfl (l' := #[.val (.int p1), .val (.int p2), .val (.int p3), .val (.int p4), .val (.int p5), .val (.int (3 : Int32)), .val (.int ch0), .val (.int ch1), .val (.int ch2), .val (.int ch3), .val (.ref a), .val (.int (1 : Int32)), .val (.int (1 : Int32))]) rfl ?_
    refine XS.iload X4.here hx rfl (hb hby at_122) rfl ?_
    show Steps p.tables e below (T4.setTop (mkF m 124 #[.val (.int p1), .val (.int p2), .val (.int p3), .val (.int p4), .val (.int p5), .val (.int (3 : Int32)), .val (.int ch0), .val (.int ch1), .val (.int ch2), .val (.int ch3), .val (.ref a), .val (.int (1 : Int32)), .val (.int (1 : Int32))] [(.int (1 : Int32))])) _
    refine XS.iload X4.here hx rfl (hb hby at_124) rfl ?_
    show Steps p.tables e below (T4.setTop (mkF m 126 #[.val (.int p1), .val (.int p2), .val (.int p3), .val (.int p4), .val (.int p5), .val (.int (3 : Int32)), .val (.int ch0), .val (.int ch1), .val (.int ch2), .val (.int ch3), .val (.ref a), .val (.int (1 : Int32)), .val (.int (1 : Int32))] [(.int (1 : Int32)), (.int (1 : Int32))])) _
    refine XS.icmpNo X4.here hx rfl (hb hby at_126) rfl (teq (by decide : (1 : Int32) = (1 : Int32))).2 ?_
    show Steps p.tables e below (T4.setTop (mkF m 129 #[.val (.int p1), .val (.int p2), .val (.int p3), .val (.int p4), .val (.int p5), .val (.int (3 : Int32)), .val (.int ch0), .val (.int ch1), .val (.int ch2), .val (.int ch3), .val (.ref a), .val (.int (1 : Int32)), .val (.int (1 : Int32))] [])) _
    refine XS.iconst X4.here hx rfl (hb hby at_129) ?_
    refine XS.goto X4.here hx rfl (pc0 := 130) (pc' := 134) rfl (hb hby at_130) (by decide) (by decide) ?_
    exact kont
set_option maxRecDepth 65536 in
set_option maxHeartbeats 40000000 in
theorem seg3g_4 {p : Program} {l : Launch} {e : Env} {s : State} {m : MethodId} {args : Array Value} {below : List Frame} {meth : Method} {c : Code} {Z : State} {a0 : Array Value} (hw : ∀ d ∈ tables_1, d.before a0 Z = true) (hx : p.tables.exec = Jvm.exec) (hby : c.code = code) (hml : c.maxLocals = 13) (hZ : Z.Warmed39 s.vm) (hown : s.vm.findClass "com/example/grantline/grantline/authz/UnreservedMatchesPinLaw" = some m.cls) {T : State} {locs : List Loc} (X0 : Stand p l e room_1 s m args below meth c T locs 8 64) {h0 : Heap} (e0 : T.heap = h0) {n0 : Nat} (Z0 : n0 ≤ h0.size) (N0 : Fr n0 locs) (a : Addr) (p1 p2 p3 p4 p5 ch0 ch1 ch2 ch3 wcs : Int32) (rg : Value) (E_a : Exa Z h0 a "java/lang/String") (tx : TX Z h0 a (4 : Int32) (own_g ch0 ch1 ch2 ch3)) (S_CS : Sta Z h0 "java/lang/String" "COMPACT_STRINGS" "Z" (.int wcs)) (ncs : ¬ (wcs = (0 : Int32))) (S_SI : Sta Z h0 "jdk/internal/util/Preconditions" "SIOOBE_FORMATTER" "Ljava/util/function/BiFunction;" rg) (r_rg : rg.isRef = true) (S_AD : Sta Z h0 "java/lang/StringUTF16" "$assertionsDisabled" "Z" (.int (1 : Int32))) (S_HI : Sta Z h0 "java/lang/StringUTF16" "HI_BYTE_SHIFT" "I" (.int (0 : Int32))) (S_LO : Sta Z h0 "java/lang/StringUTF16" "LO_BYTE_SHIFT" "I" (.int (8 : Int32))) (gd0 : ¬ (own_r ch0 = (0 : Int32))) (gd1 : ¬ (own_r ch1 = (0 : Int32))) (gd2 : ¬ (own_r ch2 = (0 : Int32))) (gd3 : ¬ (own_r ch3 = (0 : Int32))) :
    ∃ (T' : State) (locs' : List Loc) (Ls : Array Slot), Stand p l e room_1 s m args below meth c T' locs' 8 64 ∧ T'.heap = h0 ∧ Fr n0 locs' ∧ ∀ t, Steps p.tables e below (T'.setTop (mkF m 134 Ls [(.int (1 : Int32))])) t → Steps p.tables e below (T.setTop (mkF m 50 #[.val (.int p1), .val (.int p2), .val (.int p3), .val (.int p4), .val (.int p5), .val (.int (4 : Int32)), .val (.int ch0), .val (.int ch1), .val (.int ch2), .val (.int ch3), .unset, .unset, .unset] [(.ref a)])) t := by
  obtain ⟨_, _, ⟨T1, L1, kk1, nn1⟩, -, X1, ⟨Lc1, hQ1, l1, y1, z1⟩, st1⟩ := Jvm.LawKit.callS X0 hx (y := (⟨"com/example/grantline/grantline/authz/UnreservedMatchesPinLaw", "ok", "(C)Z"⟩ : MethodName)) hown (mvT hZ (wk hw 53 rfl)) (mvT hZ (wk hw 54 rfl)) (mvT hZ (wk hw 4 rfl)) (mvT hZ (wk hw 55 rfl)) (by decide) (backOf (W := 0) (m11 l Z a0 hw [] ch0 h0 n0 Z0 ) hZ (wk hw 55 rfl) (wk hw 4 rfl) (by decide) (by decide)) (g := (mkF m 60 #[.val (.int p1), .val (.int p2), .val (.int p3), .val (.int p4), .val (.int p5), .val (.int (4 : Int32)), .val (.int ch0), .val (.int ch1), .val (.int ch2), .val (.int ch3), .val (.ref a), .unset, .unset] [(.int ch0)])) rfl (by rw [hml]; rfl) (argsL := [(.int ch0)]) (rest := []) (lenOf pdx__C_Z rfl) rfl (by show 2 * 0 + _ ≤ _; exact Nat.le_of_eq rfl) (hb hby at_60) (fun _ _ => ⟨rfl, e0, nle rfl, nle rfl⟩)
  dsimp only [Pt.U, Pt.locs, Pt.cells, Pt.slots] at X1 l1 y1 z1 st1 hQ1
  subst l1 y1 z1
  obtain ⟨rfl, Nq1, e1⟩ := hQ1
  have N1 := Fr.app N0 Nq1
  obtain ⟨_, _, ⟨T2, L2, kk2, nn2⟩, -, X2, ⟨Lc2, hQ2, l2, y2, z2⟩, st2⟩ := Jvm.LawKit.callS X1 hx (y := (⟨"com/example/grantline/grantline/authz/UnreservedMatchesPinLaw", "ok", "(C)Z"⟩ : MethodName)) hown (mvT hZ (wk hw 53 rfl)) (mvT hZ (wk hw 54 rfl)) (mvT hZ (wk hw 4 rfl)) (mvT hZ (wk hw 55 rfl)) (by decide) (backOf (W := 0) (m11 l Z a0 hw [] ch1 h0 n0 Z0 ) hZ (wk hw 55 rfl) (wk hw 4 rfl) (by decide) (by decide)) (g := (mkF m 74 #[.val (.int p1), .val (.int p2), .val (.int p3), .val (.int p4), .val (.int p5), .val (.int (4 : Int32)), .val (.int ch0), .val (.int ch1), .val (.int ch2), .val (.int ch3), .val (.ref a), .unset, .unset] [(.int ch1)])) rfl (by rw [hml]; rfl) (argsL := [(.int ch1)]) (rest := []) (lenOf pdx__C_Z rfl) rfl (by show 2 * 0 + _ ≤ _; exact Nat.le_of_eq rfl) (hb hby at_74) (fun _ _ => ⟨rfl, e1, nle rfl, nle rfl⟩)
  dsimp only [Pt.U, Pt.locs, Pt.cells, Pt.slots] at X2 l2 y2 z2 st2 hQ2
  subst l2 y2 z2
  obtain ⟨rfl, Nq2, e2⟩ := hQ2
  have N2 := Fr.app N1 Nq2
  obtain ⟨_, _, ⟨T3, L3, kk3, nn3⟩, -, X3, ⟨Lc3, hQ3, l3, y3, z3⟩, st3⟩ := Jvm.LawKit.callS X2 hx (y := (⟨"com/example/grantline/grantline/authz/UnreservedMatchesPinLaw", "ok", "(C)Z"⟩ : MethodName)) hown (mvT hZ (wk hw 53 rfl)) (mvT hZ (wk hw 54 rfl)) (mvT hZ (wk hw 4 rfl)) (mvT hZ (wk hw 55 rfl)) (by decide) (backOf (W := 0) (m11 l Z a0 hw [] ch2 h0 n0 Z0 ) hZ (wk hw 55 rfl) (wk hw 4 rfl) (by decide) (by decide)) (g := (mkF m 88 #[.val (.int p1), .val (.int p2), .val (.int p3), .val (.int p4), .val (.int p5), .val (.int (4 : Int32)), .val (.int ch0), .val (.int ch1), .val (.int ch2), .val (.int ch3), .val (.ref a), .unset, .unset] [(.int ch2)])) rfl (by rw [hml]; rfl) (argsL := [(.int ch2)]) (rest := []) (lenOf pdx__C_Z rfl) rfl (by show 2 * 0 + _ ≤ _; exact Nat.le_of_eq rfl) (hb hby at_88) (fun _ _ => ⟨rfl, e2, nle rfl, nle rfl⟩)
  dsimp only [Pt.U, Pt.locs, Pt.cells, Pt.slots] at X3 l3 y3 z3 st3 hQ3
  subst l3 y3 z3
  obtain ⟨rfl, Nq3, e3⟩ := hQ3
  have N3 := Fr.app N2 Nq3
  obtain ⟨_, _, ⟨T4, L4, kk4, nn4⟩, -, X4, ⟨Lc4, hQ4, l4, y4, z4⟩, st4⟩ := Jvm.LawKit.callS X3 hx (y := (⟨"com/example/grantline/grantline/authz/UnreservedMatchesPinLaw", "ok", "(C)Z"⟩ : MethodName)) hown (mvT hZ (wk hw 53 rfl)) (mvT hZ (wk hw 54 rfl)) (mvT hZ (wk hw 4 rfl)) (mvT hZ (wk hw 55 rfl)) (by decide) (backOf (W := 0) (m11 l Z a0 hw [] ch3 h0 n0 Z0 ) hZ (wk hw 55 rfl) (wk hw 4 rfl) (by decide) (by decide)) (g := (mkF m 102 #[.val (.int p1), .val (.int p2), .val (.int p3), .val (.int p4), .val (.int p5), .val (.int (4 : Int32)), .val (.int ch0), .val (.int ch1), .val (.int ch2), .val (.int ch3), .val (.ref a), .unset, .unset] [(.int ch3)])) rfl (by rw [hml]; rfl) (argsL := [(.int ch3)]) (rest := []) (lenOf pdx__C_Z rfl) rfl (by show 2 * 0 + _ ≤ _; exact Nat.le_of_eq rfl) (hb hby at_102) (fun _ _ => ⟨rfl, e3, nle rfl, nle rfl⟩)
  dsimp only [Pt.U, Pt.locs, Pt.cells, Pt.slots] at X4 l4 y4 z4 st4 hQ4
  subst l4 y4 z4
  obtain ⟨rfl, Nq4, e4⟩ := hQ4
  have N4 := Fr.app N3 Nq4
  obtain ⟨_, _, ⟨T5, L5, kk5, nn5⟩, -, X5, ⟨Lc5, hQ5, l5, y5, z5⟩, st5⟩ := Jvm.LawKit.callS X4 hx (y := (⟨"com/example/grantline/grantline/authz/Unreserved", "matches", "(Ljava/lang/String;)Z"⟩ : MethodName)) hown (mvT hZ (wk hw 28 rfl)) (mvT hZ (wk hw 29 rfl)) (mvT hZ (wk hw 30 rfl)) (mvT hZ (wk hw 31 rfl)) (by decide) (backOf (W := 0) (m5g_4 l Z a0 hw [] a (own_g ch0 ch1 ch2 ch3) wcs rg h0 n0 Z0 E_a tx S_CS ncs S_SI r_rg S_AD S_HI S_LO gd0 gd1 gd2 gd3) hZ (wk hw 31 rfl) (wk hw 30 rfl) (by decide) (by decide)) (g := (mkF m 117 #[.val (.int p1), .val (.int p2), .val (.int p3), .val (.int p4), .val (.int p5), .val (.int (4 : Int32)), .val (.int ch0), .val (.int ch1), .val (.int ch2), .val (.int ch3), .val (.ref a), .val (.int (1 : Int32)), .unset] [(.ref a)])) rfl (by rw [hml]; rfl) (argsL := [(.ref a)]) (rest := []) (lenOf pdx__Ljava_lang_String__Z rfl) rfl (by show 2 * 0 + _ ≤ _; exact Nat.le_of_eq rfl) (hb hby at_117) (fun _ _ => ⟨rfl, e4, nle rfl, nle rfl⟩)
  dsimp only [Pt.U, Pt.locs, Pt.cells, Pt.slots] at X5 l5 y5 z5 st5 hQ5
  subst l5 y5 z5
  obtain ⟨rfl, Nq5, e5⟩ := hQ5
  have N5 := Fr.app N4 Nq5
  refine ⟨T5, _, #[.val (.int p1), .val (.int p2), .val (.int p3), .val (.int p4), .val (.int p5), .val (.int (4 : Int32)), .val (.int ch0), .val (.int ch1), .val (.int ch2), .val (.int ch3), .val (.ref a), .val (.int (1 : Int32)), .val (.int (1 : Int32))], X5, e5, N5, fun t kont => ?_⟩
  · show Steps p.tables e below (T.setTop (mkF m 50 #[.val (.int p1), .val (.int p2), .val (.int p3), .val (.int p4), .val (.int p5), .val (.int (4 : Int32)), .val (.int ch0), .val (.int ch1), .val (.int ch2), .val (.int ch3), .unset, .unset, .unset] [(.ref a)])) _
    refine XS.astore X0.here hx rfl (hb hby at_50) rfl rfl (l' := #[.val (.int p1), .val (.int p2), .val (.int p3), .val (.int p4), .val (.int p5), .val (.int (4 : Int32)), .val (.int ch0), .val (.int ch1), .val (.int ch2), .val (.int ch3), .val (.ref a), .unset, .unset]) rfl ?_
    refine XS.iload X0.here hx rfl (hb hby at_52) rfl ?_
    show Steps p.tables e below (T.setTop (mkF m 54 #[.val (.int p1), .val (.int p2), .val (.int p3), .val (.int p4), .val (.int p5), .val (.int (4 : Int32)), .val (.int ch0), .val (.int ch1), .val (.int ch2), .val (.int ch3), .val (.ref a), .unset, .unset] [(.int (4 : Int32))])) _
    refine XS.iconst X0.here hx rfl (hb hby at_54) ?_
    show Steps p.tables e below (T.setTop (mkF m 55 #[.val (.int p1), .val (.int p2), .val (.int p3), .val (.int p4), .val (.int p5), .val (.int (4 : Int32)), .val (.int ch0), .val (.int ch1), .val (.int ch2), .val (.int ch3), .val (.ref a), .unset, .unset] [(.int (1 : Int32)), (.int (4 : Int32))])) _
    refine XS.icmpNo X0.here hx rfl (hb hby at_55) rfl (flt (by decide : ¬ ((4 : Int32) < (1 : Int32)))).1 ?_
    show Steps p.tables e below (T.setTop (mkF m 58 #[.val (.int p1), .val (.int p2), .val (.int p3), .val (.int p4), .val (.int p5), .val (.int (4 : Int32)), .val (.int ch0), .val (.int ch1), .val (.int ch2), .val (.int ch3), .val (.ref a), .unset, .unset] [])) _
    refine XS.iload X0.here hx rfl (hb hby at_58) rfl ?_
    show Steps p.tables e below (T.setTop (mkF m 60 #[.val (.int p1), .val (.int p2), .val (.int p3), .val (.int p4), .val (.int p5), .val (.int (4 : Int32)), .val (.int ch0), .val (.int ch1), .val (.int ch2), .val (.int ch3), .val (.ref a), .unset, .unset] [(.int ch0)])) _
    refine st1 _ ?_
    show Steps p.tables e below (T1.setTop (mkF m 63 #[.val (.int p1), .val (.int p2), .val (.int p3), .val (.int p4), .val (.int p5), .val (.int (4 : Int32)), .val (.int ch0), .val (.int ch1), .val (.int ch2), .val (.int ch3), .val (.ref a), .unset, .unset] [(.int (own_r ch0))])) _
    refine XS.ifNo X1.here hx rfl (hb hby at_63) rfl ((if0 _ _).trans (feq (gd0 : ¬ ((own_r ch0) = (0 : Int32)))).1) ?_
    show Steps p.tables e below (T1.setTop (mkF m 66 #[.val (.int p1), .val (.int p2), .val (.int p3), .val (.int p4), .val (.int p5), .val (.int (4 : Int32)), .val (.int ch0), .val (.int ch1), .val (.int ch2), .val (.int ch3), .val (.ref a), .unset, .unset] [])) _
    refine XS.iload X1.here hx rfl (hb hby at_66) rfl ?_
    refine XS.iconst X1.here hx rfl (hb hby at_68) ?_
    show Steps p.tables e below (T1.setTop (mkF m 69 #[.val (.int p1), .val (.int p2), .val (.int p3), .val (.int p4), .val (.int p5), .val (.int (4 : Int32)), .val (.int ch0), .val (.int ch1), .val (.int ch2), .val (.int ch3), .val (.ref a), .unset, .unset] [(.int (2 : Int32)), (.int (4 : Int32))])) _
    refine XS.icmpNo X1.here hx rfl (hb hby at_69) rfl (flt (by decide : ¬ ((4 : Int32) < (2 : Int32)))).1 ?_
    show Steps p.tables e below (T1.setTop (mkF m 72 #[.val (.int p1), .val (.int p2), .val (.int p3), .val (.int p4), .val (.int p5), .val (.int (4 : Int32)), .val (.int ch0), .val (.int ch1), .val (.int ch2), .val (.int ch3), .val (.ref a), .unset, .unset] [])) _
    refine XS.iload X1.here hx rfl (hb hby at_72) rfl ?_
    show Steps p.tables e below (T1.setTop (mkF m 74 #[.val (.int p1), .val (.int p2), .val (.int p3), .val (.int p4), .val (.int p5), .val (.int (4 : Int32)), .val (.int ch0), .val (.int ch1), .val (.int ch2), .val (.int ch3), .val (.ref a), .unset, .unset] [(.int ch1)])) _
    refine st2 _ ?_
    show Steps p.tables e below (T2.setTop (mkF m 77 #[.val (.int p1), .val (.int p2), .val (.int p3), .val (.int p4), .val (.int p5), .val (.int (4 : Int32)), .val (.int ch0), .val (.int ch1), .val (.int ch2), .val (.int ch3), .val (.ref a), .unset, .unset] [(.int (own_r ch1))])) _
    refine XS.ifNo X2.here hx rfl (hb hby at_77) rfl ((if0 _ _).trans (feq (gd1 : ¬ ((own_r ch1) = (0 : Int32)))).1) ?_
    show Steps p.tables e below (T2.setTop (mkF m 80 #[.val (.int p1), .val (.int p2), .val (.int p3), .val (.int p4), .val (.int p5), .val (.int (4 : Int32)), .val (.int ch0), .val (.int ch1), .val (.int ch2), .val (.int ch3), .val (.ref a), .unset, .unset] [])) _
    refine XS.iload X2.here hx rfl (hb hby at_80) rfl ?_
    refine XS.iconst X2.here hx rfl (hb hby at_82) ?_
    show Steps p.tables e below (T2.setTop (mkF m 83 #[.val (.int p1), .val (.int p2), .val (.int p3), .val (.int p4), .val (.int p5), .val (.int (4 : Int32)), .val (.int ch0), .val (.int ch1), .val (.int ch2), .val (.int ch3), .val (.ref a), .unset, .unset] [(.int (3 : Int32)), (.int (4 : Int32))])) _
    refine XS.icmpNo X2.here hx rfl (hb hby at_83) rfl (flt (by decide : ¬ ((4 : Int32) < (3 : Int32)))).1 ?_
    show Steps p.tables e below (T2.setTop (mkF m 86 #[.val (.int p1), .val (.int p2), .val (.int p3), .val (.int p4), .val (.int p5), .val (.int (4 : Int32)), .val (.int ch0), .val (.int ch1), .val (.int ch2), .val (.int ch3), .val (.ref a), .unset, .unset] [])) _
    refine XS.iload X2.here hx rfl (hb hby at_86) rfl ?_
    show Steps p.tables e below (T2.setTop (mkF m 88 #[.val (.int p1), .val (.int p2), .val (.int p3), .val (.int p4), .val (.int p5), .val (.int (4 : Int32)), .val (.int ch0), .val (.int ch1), .val (.int ch2), .val (.int ch3), .val (.ref a), .unset, .unset] [(.int ch2)])) _
    refine st3 _ ?_
    show Steps p.tables e below (T3.setTop (mkF m 91 #[.val (.int p1), .val (.int p2), .val (.int p3), .val (.int p4), .val (.int p5), .val (.int (4 : Int32)), .val (.int ch0), .val (.int ch1), .val (.int ch2), .val (.int ch3), .val (.ref a), .unset, .unset] [(.int (own_r ch2))])) _
    refine XS.ifNo X3.here hx rfl (hb hby at_91) rfl ((if0 _ _).trans (feq (gd2 : ¬ ((own_r ch2) = (0 : Int32)))).1) ?_
    show Steps p.tables e below (T3.setTop (mkF m 94 #[.val (.int p1), .val (.int p2), .val (.int p3), .val (.int p4), .val (.int p5), .val (.int (4 : Int32)), .val (.int ch0), .val (.int ch1), .val (.int ch2), .val (.int ch3), .val (.ref a), .unset, .unset] [])) _
    refine XS.iload X3.here hx rfl (hb hby at_94) rfl ?_
    refine XS.iconst X3.here hx rfl (hb hby at_96) ?_
    show Steps p.tables e below (T3.setTop (mkF m 97 #[.val (.int p1), .val (.int p2), .val (.int p3), .val (.int p4), .val (.int p5), .val (.int (4 : Int32)), .val (.int ch0), .val (.int ch1), .val (.int ch2), .val (.int ch3), .val (.ref a), .unset, .unset] [(.int (4 : Int32)), (.int (4 : Int32))])) _
    refine XS.icmpNo X3.here hx rfl (hb hby at_97) rfl (flt (by decide : ¬ ((4 : Int32) < (4 : Int32)))).1 ?_
    show Steps p.tables e below (T3.setTop (mkF m 100 #[.val (.int p1), .val (.int p2), .val (.int p3), .val (.int p4), .val (.int p5), .val (.int (4 : Int32)), .val (.int ch0), .val (.int ch1), .val (.int ch2), .val (.int ch3), .val (.ref a), .unset, .unset] [])) _
    refine XS.iload X3.here hx rfl (hb hby at_100) rfl ?_
    show Steps p.tables e below (T3.setTop (mkF m 102 #[.val (.int p1), .val (.int p2), .val (.int p3), .val (.int p4), .val (.int p5), .val (.int (4 : Int32)), .val (.int ch0), .val (.int ch1), .val (.int ch2), .val (.int ch3), .val (.ref a), .unset, .unset] [(.int ch3)])) _
    refine st4 _ ?_
    show Steps p.tables e below (T4.setTop (mkF m 105 #[.val (.int p1), .val (.int p2), .val (.int p3), .val (.int p4), .val (.int p5), .val (.int (4 : Int32)), .val (.int ch0), .val (.int ch1), .val (.int ch2), .val (.int ch3), .val (.ref a), .unset, .unset] [(.int (own_r ch3))])) _
    refine XS.ifNo X4.here hx rfl (hb hby at_105) rfl ((if0 _ _).trans (feq (gd3 : ¬ ((own_r ch3) = (0 : Int32)))).1) ?_
    show Steps p.tables e below (T4.setTop (mkF m 108 #[.val (.int p1), .val (.int p2), .val (.int p3), .val (.int p4), .val (.int p5), .val (.int (4 : Int32)), .val (.int ch0), .val (.int ch1), .val (.int ch2), .val (.int ch3), .val (.ref a), .unset, .unset] [])) _
    refine XS.iconst X4.here hx rfl (hb hby at_108) ?_
    refine XS.goto X4.here hx rfl (pc0 := 109) (pc' := 113) rfl (hb hby at_109) (by decide) (by decide) ?_
    show Steps p.tables e below (T4.setTop (mkF m 113 #[.val (.int p1), .val (.int p2), .val (.int p3), .val (.int p4), .val (.int p5), .val (.int (4 : Int32)), .val (.int ch0), .val (.int ch1), .val (.int ch2), .val (.int ch3), .val (.ref a), .unset, .unset] [(.int (1 : Int32))])) _
    refine XS.istore X4.here hx rfl (hb hby at_113) rfl (l' := #[.val (.int p1), .val (.int p2), .val (.int p3), .val (.int p4), .val (.int p5), .val (.int (4 : Int32)), .val (.int ch0), .val (.int ch1), .val (.int ch2), .val (.int ch3), .val (.ref a), .val (.int (1 : Int32)), .unset]) rfl ?_
    refine XS.aload X4.here hx rfl (hb hby at_115) rfl rfl ?_
    show Steps p.tables e below (T4.setTop (mkF m 117 #[.val (.int p1), .val (.int p2), .val (.int p3), .val (.int p4), .val (.int p5), .val (.int (4 : Int32)), .val (.int ch0), .val (.int ch1), .val (.int ch2), .val (.int ch3), .val (.ref a), .val (.int (1 : Int32)), .unset] [(.ref a)])) _
    refine st5 _ ?_
    show Steps p.tables e below (T5.setTop (mkF m 120 #[.val (.int p1), .val (.int p2), .val (.int p3), .val (.int p4), .val (.int p5), .val (.int (4 : Int32)), .val (.int ch0), .val (.int ch1), .val (.int ch2), .val (.int ch3), .val (.ref a), .val (.int (1 : Int32)), .unset] [(.int (1 : Int32))])) _
    refine XS.istore X5.here hx rfl (hb hby at_120) rfl (l' := #[.val (.int p1), .val (.int p2), .val (.int p3), .val (.int p4), .val (.int p5), .val (.int (4 : Int32)), .val (.int ch0), .val (.int ch1), .val (.int ch2), .val (.int ch3), .val (.ref a), .val (.int (1 : Int32)), .val (.int (1 : Int32))]) rfl ?_
    refine XS.iload X5.here hx rfl (hb hby at_122) rfl ?_
    show Steps p.tables e below (T5.setTop (mkF m 124 #[.val (.int p1), .val (.int p2), .val (.int p3), .val (.int p4), .val (.int p5), .val (.int (4 : Int32)), .val (.int ch0), .val (.int ch1), .val (.int ch2), .val (.int ch3), .val (.ref a), .val (.int (1 : Int32)), .val (.int (1 : Int32))] [(.int (1 : Int32))])) _
    refine XS.iload X5.here hx rfl (hb hby at_124) rfl ?_
    show Steps p.tables e below (T5.setTop (mkF m 126 #[.val (.int p1), .val (.int p2), .val (.int p3), .val (.int p4), .val (.int p5), .val (.int (4 : Int32)), .val (.int ch0), .val (.int ch1), .val (.int ch2), .val (.int ch3), .val (.ref a), .val (.int (1 : Int32)), .val (.int (1 : Int32))] [(.int (1 : Int32)), (.int (1 : Int32))])) _
    refine XS.icmpNo X5.here hx rfl (hb hby at_126) rfl (teq (by decide : (1 : Int32) = (1 : Int32))).2 ?_
    show Steps p.tables e below (T5.setTop (mkF m 129 #[.val (.int p1), .val (.int p2), .val (.int p3), .val (.int p4), .val (.int p5), .val (.int (4 : Int32)), .val (.int ch0), .val (.int ch1), .val (.int ch2), .val (.int ch3), .val (.ref a), .val (.int (1 : Int32)), .val (.int (1 : Int32))] [])) _
    refine XS.iconst X5.here hx rfl (hb hby at_129) ?_
    refine XS.goto X5.here hx rfl (pc0 := 130) (pc' := 134) rfl (hb hby at_130) (by decide) (by decide) ?_
    exact kont
set_option maxRecDepth 65536 in
set_option maxHeartbeats 40000000 in
theorem seg3b_0 {p : Program} {l : Launch} {e : Env} {s : State} {m : MethodId} {args : Array Value} {below : List Frame} {meth : Method} {c : Code} {Z : State} {a0 : Array Value} (hw : ∀ d ∈ tables_1, d.before a0 Z = true) (hx : p.tables.exec = Jvm.exec) (hby : c.code = code) (hml : c.maxLocals = 13) (hZ : Z.Warmed39 s.vm) (hown : s.vm.findClass "com/example/grantline/grantline/authz/UnreservedMatchesPinLaw" = some m.cls) {T : State} {locs : List Loc} (X0 : Stand p l e room_1 s m args below meth c T locs 8 64) {h0 : Heap} (e0 : T.heap = h0) {n0 : Nat} (Z0 : n0 ≤ h0.size) (N0 : Fr n0 locs) (a : Addr) (p1 p2 p3 p4 p5 z ch0 ch1 ch2 ch3 wcs : Int32) (rg : Value) (E_a : Exa Z h0 a "java/lang/String") (tx : TX Z h0 a z (own_g ch0 ch1 ch2 ch3)) (S_CS : Sta Z h0 "java/lang/String" "COMPACT_STRINGS" "Z" (.int wcs)) (ncs : ¬ (wcs = (0 : Int32))) (S_SI : Sta Z h0 "jdk/internal/util/Preconditions" "SIOOBE_FORMATTER" "Ljava/util/function/BiFunction;" rg) (r_rg : rg.isRef = true) (S_AD : Sta Z h0 "java/lang/StringUTF16" "$assertionsDisabled" "Z" (.int (1 : Int32))) (S_HI : Sta Z h0 "java/lang/StringUTF16" "HI_BYTE_SHIFT" "I" (.int (0 : Int32))) (S_LO : Sta Z h0 "java/lang/StringUTF16" "LO_BYTE_SHIFT" "I" (.int (8 : Int32))) (hz0 : (0 : Int32) < z) (hn0 : ¬ (z < (1 : Int32))) (bad : own_r ch0 = (0 : Int32)) :
    ∃ (T' : State) (locs' : List Loc) (Ls : Array Slot), Stand p l e room_1 s m args below meth c T' locs' 8 64 ∧ T'.heap = h0 ∧ Fr n0 locs' ∧ ∀ t, Steps p.tables e below (T'.setTop (mkF m 134 Ls [(.int (1 : Int32))])) t → Steps p.tables e below (T.setTop (mkF m 50 #[.val (.int p1), .val (.int p2), .val (.int p3), .val (.int p4), .val (.int p5), .val (.int z), .val (.int ch0), .val (.int ch1), .val (.int ch2), .val (.int ch3), .unset, .unset, .unset] [(.ref a)])) t := by
  obtain ⟨_, _, ⟨T1, L1, kk1, nn1⟩, -, X1, ⟨Lc1, hQ1, l1, y1, z1⟩, st1⟩ := Jvm.LawKit.callS X0 hx (y := (⟨"com/example/grantline/grantline/authz/UnreservedMatchesPinLaw", "ok", "(C)Z"⟩ : MethodName)) hown (mvT hZ (wk hw 53 rfl)) (mvT hZ (wk hw 54 rfl)) (mvT hZ (wk hw 4 rfl)) (mvT hZ (wk hw 55 rfl)) (by decide) (backOf (W := 0) (m11 l Z a0 hw [] ch0 h0 n0 Z0 ) hZ (wk hw 55 rfl) (wk hw 4 rfl) (by decide) (by decide)) (g := (mkF m 60 #[.val (.int p1), .val (.int p2), .val (.int p3), .val (.int p4), .val (.int p5), .val (.int z), .val (.int ch0), .val (.int ch1), .val (.int ch2), .val (.int ch3), .val (.ref a), .unset, .unset] [(.int ch0)])) rfl (by rw [hml]; rfl) (argsL := [(.int ch0)]) (rest := []) (lenOf pdx__C_Z rfl) rfl (by show 2 * 0 + _ ≤ _; exact Nat.le_of_eq rfl) (hb hby at_60) (fun _ _ => ⟨rfl, e0, nle rfl, nle rfl⟩)
  dsimp only [Pt.U, Pt.locs, Pt.cells, Pt.slots] at X1 l1 y1 z1 st1 hQ1
  subst l1 y1 z1
  obtain ⟨rfl, Nq1, e1⟩ := hQ1
  have N1 := Fr.app N0 Nq1
  obtain ⟨_, _, ⟨T2, L2, kk2, nn2⟩, -, X2, ⟨Lc2, hQ2, l2, y2, z2⟩, st2⟩ := Jvm.LawKit.callS X1 hx (y := (⟨"com/example/grantline/grantline/authz/Unreserved", "matches", "(Ljava/lang/String;)Z"⟩ : MethodName)) hown (mvT hZ (wk hw 28 rfl)) (mvT hZ (wk hw 29 rfl)) (mvT hZ (wk hw 30 rfl)) (mvT hZ (wk hw 31 rfl)) (by decide) (backOf (W := 0) (m5b_0 l Z a0 hw [] a z (own_g ch0 ch1 ch2 ch3) wcs rg h0 n0 Z0 E_a tx S_CS ncs S_SI r_rg S_AD S_HI S_LO hz0 bad) hZ (wk hw 31 rfl) (wk hw 30 rfl) (by decide) (by decide)) (g := (mkF m 117 #[.val (.int p1), .val (.int p2), .val (.int p3), .val (.int p4), .val (.int p5), .val (.int z), .val (.int ch0), .val (.int ch1), .val (.int ch2), .val (.int ch3), .val (.ref a), .val (.int (0 : Int32)), .unset] [(.ref a)])) rfl (by rw [hml]; rfl) (argsL := [(.ref a)]) (rest := []) (lenOf pdx__Ljava_lang_String__Z rfl) rfl (by show 2 * 0 + _ ≤ _; exact Nat.le_of_eq rfl) (hb hby at_117) (fun _ _ => ⟨rfl, e1, nle rfl, nle rfl⟩)
  dsimp only [Pt.U, Pt.locs, Pt.cells, Pt.slots] at X2 l2 y2 z2 st2 hQ2
  subst l2 y2 z2
  obtain ⟨rfl, Nq2, e2⟩ := hQ2
  have N2 := Fr.app N1 Nq2
  refine ⟨T2, _, #[.val (.int p1), .val (.int p2), .val (.int p3), .val (.int p4), .val (.int p5), .val (.int z), .val (.int ch0), .val (.int ch1), .val (.int ch2), .val (.int ch3), .val (.ref a), .val (.int (0 : Int32)), .val (.int (0 : Int32))], X2, e2, N2, fun t kont => ?_⟩
  · show Steps p.tables e below (T.setTop (mkF m 50 #[.val (.int p1), .val (.int p2), .val (.int p3), .val (.int p4), .val (.int p5), .val (.int z), .val (.int ch0), .val (.int ch1), .val (.int ch2), .val (.int ch3), .unset, .unset, .unset] [(.ref a)])) _
    refine XS.astore X0.here hx rfl (hb hby at_50) rfl rfl (l' := #[.val (.int p1), .val (.int p2), .val (.int p3), .val (.int p4), .val (.int p5), .val (.int z), .val (.int ch0), .val (.int ch1), .val (.int ch2), .val (.int ch3), .val (.ref a), .unset, .unset]) rfl ?_
    refine XS.iload X0.here hx rfl (hb hby at_52) rfl ?_
    show Steps p.tables e below (T.setTop (mkF m 54 #[.val (.int p1), .val (.int p2), .val (.int p3), .val (.int p4), .val (.int p5), .val (.int z), .val (.int ch0), .val (.int ch1), .val (.int ch2), .val (.int ch3), .val (.ref a), .unset, .unset] [(.int z)])) _
    refine XS.iconst X0.here hx rfl (hb hby at_54) ?_
    show Steps p.tables e below (T.setTop (mkF m 55 #[.val (.int p1), .val (.int p2), .val (.int p3), .val (.int p4), .val (.int p5), .val (.int z), .val (.int ch0), .val (.int ch1), .val (.int ch2), .val (.int ch3), .val (.ref a), .unset, .unset] [(.int (1 : Int32)), (.int z)])) _
    refine XS.icmpNo X0.here hx rfl (hb hby at_55) rfl (flt (hn0 : ¬ (z < (1 : Int32)))).1 ?_
    show Steps p.tables e below (T.setTop (mkF m 58 #[.val (.int p1), .val (.int p2), .val (.int p3), .val (.int p4), .val (.int p5), .val (.int z), .val (.int ch0), .val (.int ch1), .val (.int ch2), .val (.int ch3), .val (.ref a), .unset, .unset] [])) _
    refine XS.iload X0.here hx rfl (hb hby at_58) rfl ?_
    show Steps p.tables e below (T.setTop (mkF m 60 #[.val (.int p1), .val (.int p2), .val (.int p3), .val (.int p4), .val (.int p5), .val (.int z), .val (.int ch0), .val (.int ch1), .val (.int ch2), .val (.int ch3), .val (.ref a), .unset, .unset] [(.int ch0)])) _
    refine st1 _ ?_
    show Steps p.tables e below (T1.setTop (mkF m 63 #[.val (.int p1), .val (.int p2), .val (.int p3), .val (.int p4), .val (.int p5), .val (.int z), .val (.int ch0), .val (.int ch1), .val (.int ch2), .val (.int ch3), .val (.ref a), .unset, .unset] [(.int (own_r ch0))])) _
    refine XS.ifYes X1.here hx rfl (pc0 := 63) (pc' := 112) rfl (hb hby at_63) rfl ((if0 _ _).trans (teq (bad : (own_r ch0) = (0 : Int32))).1) (by decide) (by decide) ?_
    show Steps p.tables e below (T1.setTop (mkF m 112 #[.val (.int p1), .val (.int p2), .val (.int p3), .val (.int p4), .val (.int p5), .val (.int z), .val (.int ch0), .val (.int ch1), .val (.int ch2), .val (.int ch3), .val (.ref a), .unset, .unset] [])) _
    refine XS.iconst X1.here hx rfl (hb hby at_112) ?_
    refine XS.istore X1.here hx rfl (hb hby at_113) rfl (l' := #[.val (.int p1), .val (.int p2), .val (.int p3), .val (.int p4), .val (.int p5), .val (.int z), .val (.int ch0), .val (.int ch1), .val (.int ch2), .val (.int ch3), .val (.ref a), .val (.int (0 : Int32)), .unset]) rfl ?_
    show Steps p.tables e below (T1.setTop (mkF m 115 #[.val (.int p1), .val (.int p2), .val (.int p3), .val (.int p4), .val (.int p5), .val (.int z), .val (.int ch0), .val (.int ch1), .val (.int ch2), .val (.int ch3), .val (.ref a), .val (.int (0 : Int32)), .unset] [])) _
    refine XS.aload X1.here hx rfl (hb hby at_115) rfl rfl ?_
    show Steps p.tables e below (T1.setTop (mkF m 117 #[.val (.int p1), .val (.int p2), .val (.int p3), .val (.int p4), .val (.int p5), .val (.int z), .val (.int ch0), .val (.int ch1), .val (.int ch2), .val (.int ch3), .val (.ref a), .val (.int (0 : Int32)), .unset] [(.ref a)])) _
    refine st2 _ ?_
    show Steps p.tables e below (T2.setTop (mkF m 120 #[.val (.int p1), .val (.int p2), .val (.int p3), .val (.int p4), .val (.int p5), .val (.int z), .val (.int ch0), .val (.int ch1), .val (.int ch2), .val (.int ch3), .val (.ref a), .val (.int (0 : Int32)), .unset] [(.int (0 : Int32))])) _
    refine XS.istore X2.here hx rfl (hb hby at_120) rfl (l' := #[.val (.int p1), .val (.int p2), .val (.int p3), .val (.int p4), .val (.int p5), .val (.int z), .val (.int ch0), .val (.int ch1), .val (.int ch2), .val (.int ch3), .val (.ref a), .val (.int (0 : Int32)), .val (.int (0 : Int32))]) rfl ?_
    refine XS.iload X2.here hx rfl (hb hby at_122) rfl ?_
    show Steps p.tables e below (T2.setTop (mkF m 124 #[.val (.int p1), .val (.int p2), .val (.int p3), .val (.int p4), .val (.int p5), .val (.int z), .val (.int ch0), .val (.int ch1), .val (.int ch2), .val (.int ch3), .val (.ref a), .val (.int (0 : Int32)), .val (.int (0 : Int32))] [(.int (0 : Int32))])) _
    refine XS.iload X2.here hx rfl (hb hby at_124) rfl ?_
    show Steps p.tables e below (T2.setTop (mkF m 126 #[.val (.int p1), .val (.int p2), .val (.int p3), .val (.int p4), .val (.int p5), .val (.int z), .val (.int ch0), .val (.int ch1), .val (.int ch2), .val (.int ch3), .val (.ref a), .val (.int (0 : Int32)), .val (.int (0 : Int32))] [(.int (0 : Int32)), (.int (0 : Int32))])) _
    refine XS.icmpNo X2.here hx rfl (hb hby at_126) rfl (teq (by decide : (0 : Int32) = (0 : Int32))).2 ?_
    show Steps p.tables e below (T2.setTop (mkF m 129 #[.val (.int p1), .val (.int p2), .val (.int p3), .val (.int p4), .val (.int p5), .val (.int z), .val (.int ch0), .val (.int ch1), .val (.int ch2), .val (.int ch3), .val (.ref a), .val (.int (0 : Int32)), .val (.int (0 : Int32))] [])) _
    refine XS.iconst X2.here hx rfl (hb hby at_129) ?_
    refine XS.goto X2.here hx rfl (pc0 := 130) (pc' := 134) rfl (hb hby at_130) (by decide) (by decide) ?_
    exact kont
set_option maxRecDepth 65536 in
set_option maxHeartbeats 40000000 in
theorem seg3b_1 {p : Program} {l : Launch} {e : Env} {s : State} {m : MethodId} {args : Array Value} {below : List Frame} {meth : Method} {c : Code} {Z : State} {a0 : Array Value} (hw : ∀ d ∈ tables_1, d.before a0 Z = true) (hx : p.tables.exec = Jvm.exec) (hby : c.code = code) (hml : c.maxLocals = 13) (hZ : Z.Warmed39 s.vm) (hown : s.vm.findClass "com/example/grantline/grantline/authz/UnreservedMatchesPinLaw" = some m.cls) {T : State} {locs : List Loc} (X0 : Stand p l e room_1 s m args below meth c T locs 8 64) {h0 : Heap} (e0 : T.heap = h0) {n0 : Nat} (Z0 : n0 ≤ h0.size) (N0 : Fr n0 locs) (a : Addr) (p1 p2 p3 p4 p5 z ch0 ch1 ch2 ch3 wcs : Int32) (rg : Value) (E_a : Exa Z h0 a "java/lang/String") (tx : TX Z h0 a z (own_g ch0 ch1 ch2 ch3)) (S_CS : Sta Z h0 "java/lang/String" "COMPACT_STRINGS" "Z" (.int wcs)) (ncs : ¬ (wcs = (0 : Int32))) (S_SI : Sta Z h0 "jdk/internal/util/Preconditions" "SIOOBE_FORMATTER" "Ljava/util/function/BiFunction;" rg) (r_rg : rg.isRef = true) (S_AD : Sta Z h0 "java/lang/StringUTF16" "$assertionsDisabled" "Z" (.int (1 : Int32))) (S_HI : Sta Z h0 "java/lang/StringUTF16" "HI_BYTE_SHIFT" "I" (.int (0 : Int32))) (S_LO : Sta Z h0 "java/lang/StringUTF16" "LO_BYTE_SHIFT" "I" (.int (8 : Int32))) (hz0 : (0 : Int32) < z) (hz1 : (1 : Int32) < z) (hn0 : ¬ (z < (1 : Int32))) (hn1 : ¬ (z < (2 : Int32))) (gd0 : ¬ (own_r ch0 = (0 : Int32))) (bad : own_r ch1 = (0 : Int32)) :
    ∃ (T' : State) (locs' : List Loc) (Ls : Array Slot), Stand p l e room_1 s m args below meth c T' locs' 8 64 ∧ T'.heap = h0 ∧ Fr n0 locs' ∧ ∀ t, Steps p.tables e below (T'.setTop (mkF m 134 Ls [(.int (1 : Int32))])) t → Steps p.tables e below (T.setTop (mkF m 50 #[.val (.int p1), .val (.int p2), .val (.int p3), .val (.int p4), .val (.int p5), .val (.int z), .val (.int ch0), .val (.int ch1), .val (.int ch2), .val (.int ch3), .unset, .unset, .unset] [(.ref a)])) t := by
  obtain ⟨_, _, ⟨T1, L1, kk1, nn1⟩, -, X1, ⟨Lc1, hQ1, l1, y1, z1⟩, st1⟩ := Jvm.LawKit.callS X0 hx (y := (⟨"com/example/grantline/grantline/authz/UnreservedMatchesPinLaw", "ok", "(C)Z"⟩ : MethodName)) hown (mvT hZ (wk hw 53 rfl)) (mvT hZ (wk hw 54 rfl)) (mvT hZ (wk hw 4 rfl)) (mvT hZ (wk hw 55 rfl)) (by decide) (backOf (W := 0) (m11 l Z a0 hw [] ch0 h0 n0 Z0 ) hZ (wk hw 55 rfl) (wk hw 4 rfl) (by decide) (by decide)) (g := (mkF m 60 #[.val (.int p1), .val (.int p2), .val (.int p3), .val (.int p4), .val (.int p5), .val (.int z), .val (.int ch0), .val (.int ch1), .val (.int ch2), .val (.int ch3), .val (.ref a), .unset, .unset] [(.int ch0)])) rfl (by rw [hml]; rfl) (argsL := [(.int ch0)]) (rest := []) (lenOf pdx__C_Z rfl) rfl (by show 2 * 0 + _ ≤ _; exact Nat.le_of_eq rfl) (hb hby at_60) (fun _ _ => ⟨rfl, e0, nle rfl, nle rfl⟩)
  dsimp only [Pt.U, Pt.locs, Pt.cells, Pt.slots] at X1 l1 y1 z1 st1 hQ1
  subst l1 y1 z1
  obtain ⟨rfl, Nq1, e1⟩ := hQ1
  have N1 := Fr.app N0 Nq1
  obtain ⟨_, _, ⟨T2, L2, kk2, nn2⟩, -, X2, ⟨Lc2, hQ2, l2, y2, z2⟩, st2⟩ := Jvm.LawKit.callS X1 hx (y := (⟨"com/example/grantline/grantline/authz/UnreservedMatchesPinLaw", "ok", "(C)Z"⟩ : MethodName)) hown (mvT hZ (wk hw 53 rfl)) (mvT hZ (wk hw 54 rfl)) (mvT hZ (wk hw 4 rfl)) (mvT hZ (wk hw 55 rfl)) (by decide) (backOf (W := 0) (m11 l Z a0 hw [] ch1 h0 n0 Z0 ) hZ (wk hw 55 rfl) (wk hw 4 rfl) (by decide) (by decide)) (g := (mkF m 74 #[.val (.int p1), .val (.int p2), .val (.int p3), .val (.int p4), .val (.int p5), .val (.int z), .val (.int ch0), .val (.int ch1), .val (.int ch2), .val (.int ch3), .val (.ref a), .unset, .unset] [(.int ch1)])) rfl (by rw [hml]; rfl) (argsL := [(.int ch1)]) (rest := []) (lenOf pdx__C_Z rfl) rfl (by show 2 * 0 + _ ≤ _; exact Nat.le_of_eq rfl) (hb hby at_74) (fun _ _ => ⟨rfl, e1, nle rfl, nle rfl⟩)
  dsimp only [Pt.U, Pt.locs, Pt.cells, Pt.slots] at X2 l2 y2 z2 st2 hQ2
  subst l2 y2 z2
  obtain ⟨rfl, Nq2, e2⟩ := hQ2
  have N2 := Fr.app N1 Nq2
  obtain ⟨_, _, ⟨T3, L3, kk3, nn3⟩, -, X3, ⟨Lc3, hQ3, l3, y3, z3⟩, st3⟩ := Jvm.LawKit.callS X2 hx (y := (⟨"com/example/grantline/grantline/authz/Unreserved", "matches", "(Ljava/lang/String;)Z"⟩ : MethodName)) hown (mvT hZ (wk hw 28 rfl)) (mvT hZ (wk hw 29 rfl)) (mvT hZ (wk hw 30 rfl)) (mvT hZ (wk hw 31 rfl)) (by decide) (backOf (W := 0) (m5b_1 l Z a0 hw [] a z (own_g ch0 ch1 ch2 ch3) wcs rg h0 n0 Z0 E_a tx S_CS ncs S_SI r_rg S_AD S_HI S_LO hz0 hz1 gd0 bad) hZ (wk hw 31 rfl) (wk hw 30 rfl) (by decide) (by decide)) (g := (mkF m 117 #[.val (.int p1), .val (.int p2), .val (.int p3), .val (.int p4), .val (.int p5), .val (.int z), .val (.int ch0), .val (.int ch1), .val (.int ch2), .val (.int ch3), .val (.ref a), .val (.int (0 : Int32)), .unset] [(.ref a)])) rfl (by rw [hml]; rfl) (argsL := [(.ref a)]) (rest := []) (lenOf pdx__Ljava_lang_String__Z rfl) rfl (by show 2 * 0 + _ ≤ _; exact Nat.le_of_eq rfl) (hb hby at_117) (fun _ _ => ⟨rfl, e2, nle rfl, nle rfl⟩)
  dsimp only [Pt.U, Pt.locs, Pt.cells, Pt.slots] at X3 l3 y3 z3 st3 hQ3
  subst l3 y3 z3
  obtain ⟨rfl, Nq3, e3⟩ := hQ3
  have N3 := Fr.app N2 Nq3
  refine ⟨T3, _, #[.val (.int p1), .val (.int p2), .val (.int p3), .val (.int p4), .val (.int p5), .val (.int z), .val (.int ch0), .val (.int ch1), .val (.int ch2), .val (.int ch3), .val (.ref a), .val (.int (0 : Int32)), .val (.int (0 : Int32))], X3, e3, N3, fun t kont => ?_⟩
  · show Steps p.tables e below (T.setTop (mkF m 50 #[.val (.int p1), .val (.int p2), .val (.int p3), .val (.int p4), .val (.int p5), .val (.int z), .val (.int ch0), .val (.int ch1), .val (.int ch2), .val (.int ch3), .unset, .unset, .unset] [(.ref a)])) _
    refine XS.astore X0.here hx rfl (hb hby at_50) rfl rfl (l' := #[.val (.int p1), .val (.int p2), .val (.int p3), .val (.int p4), .val (.int p5), .val (.int z), .val (.int ch0), .val (.int ch1), .val (.int ch2), .val (.int ch3), .val (.ref a), .unset, .unset]) rfl ?_
    refine XS.iload X0.here hx rfl (hb hby at_52) rfl ?_
    show Steps p.tables e below (T.setTop (mkF m 54 #[.val (.int p1), .val (.int p2), .val (.int p3), .val (.int p4), .val (.int p5), .val (.int z), .val (.int ch0), .val (.int ch1), .val (.int ch2), .val (.int ch3), .val (.ref a), .unset, .unset] [(.int z)])) _
    refine XS.iconst X0.here hx rfl (hb hby at_54) ?_
    show Steps p.tables e below (T.setTop (mkF m 55 #[.val (.int p1), .val (.int p2), .val (.int p3), .val (.int p4), .val (.int p5), .val (.int z), .val (.int ch0), .val (.int ch1), .val (.int ch2), .val (.int ch3), .val (.ref a), .unset, .unset] [(.int (1 : Int32)), (.int z)])) _
    refine XS.icmpNo X0.here hx rfl (hb hby at_55) rfl (flt (hn0 : ¬ (z < (1 : Int32)))).1 ?_
    show Steps p.tables e below (T.setTop (mkF m 58 #[.val (.int p1), .val (.int p2), .val (.int p3), .val (.int p4), .val (.int p5), .val (.int z), .val (.int ch0), .val (.int ch1), .val (.int ch2), .val (.int ch3), .val (.ref a), .unset, .unset] [])) _
    refine XS.iload X0.here hx rfl (hb hby at_58) rfl ?_
    show Steps p.tables e below (T.setTop (mkF m 60 #[.val (.int p1), .val (.int p2), .val (.int p3), .val (.int p4), .val (.int p5), .val (.int z), .val (.int ch0), .val (.int ch1), .val (.int ch2), .val (.int ch3), .val (.ref a), .unset, .unset] [(.int ch0)])) _
    refine st1 _ ?_
    show Steps p.tables e below (T1.setTop (mkF m 63 #[.val (.int p1), .val (.int p2), .val (.int p3), .val (.int p4), .val (.int p5), .val (.int z), .val (.int ch0), .val (.int ch1), .val (.int ch2), .val (.int ch3), .val (.ref a), .unset, .unset] [(.int (own_r ch0))])) _
    refine XS.ifNo X1.here hx rfl (hb hby at_63) rfl ((if0 _ _).trans (feq (gd0 : ¬ ((own_r ch0) = (0 : Int32)))).1) ?_
    show Steps p.tables e below (T1.setTop (mkF m 66 #[.val (.int p1), .val (.int p2), .val (.int p3), .val (.int p4), .val (.int p5), .val (.int z), .val (.int ch0), .val (.int ch1), .val (.int ch2), .val (.int ch3), .val (.ref a), .unset, .unset] [])) _
    refine XS.iload X1.here hx rfl (hb hby at_66) rfl ?_
    refine XS.iconst X1.here hx rfl (hb hby at_68) ?_
    show Steps p.tables e below (T1.setTop (mkF m 69 #[.val (.int p1), .val (.int p2), .val (.int p3), .val (.int p4), .val (.int p5), .val (.int z), .val (.int ch0), .val (.int ch1), .val (.int ch2), .val (.int ch3), .val (.ref a), .unset, .unset] [(.int (2 : Int32)), (.int z)])) _
    refine XS.icmpNo X1.here hx rfl (hb hby at_69) rfl (flt (hn1 : ¬ (z < (2 : Int32)))).1 ?_
    show Steps p.tables e below (T1.setTop (mkF m 72 #[.val (.int p1), .val (.int p2), .val (.int p3), .val (.int p4), .val (.int p5), .val (.int z), .val (.int ch0), .val (.int ch1), .val (.int ch2), .val (.int ch3), .val (.ref a), .unset, .unset] [])) _
    refine XS.iload X1.here hx rfl (hb hby at_72) rfl ?_
    show Steps p.tables e below (T1.setTop (mkF m 74 #[.val (.int p1), .val (.int p2), .val (.int p3), .val (.int p4), .val (.int p5), .val (.int z), .val (.int ch0), .val (.int ch1), .val (.int ch2), .val (.int ch3), .val (.ref a), .unset, .unset] [(.int ch1)])) _
    refine st2 _ ?_
    show Steps p.tables e below (T2.setTop (mkF m 77 #[.val (.int p1), .val (.int p2), .val (.int p3), .val (.int p4), .val (.int p5), .val (.int z), .val (.int ch0), .val (.int ch1), .val (.int ch2), .val (.int ch3), .val (.ref a), .unset, .unset] [(.int (own_r ch1))])) _
    refine XS.ifYes X2.here hx rfl (pc0 := 77) (pc' := 112) rfl (hb hby at_77) rfl ((if0 _ _).trans (teq (bad : (own_r ch1) = (0 : Int32))).1) (by decide) (by decide) ?_
    show Steps p.tables e below (T2.setTop (mkF m 112 #[.val (.int p1), .val (.int p2), .val (.int p3), .val (.int p4), .val (.int p5), .val (.int z), .val (.int ch0), .val (.int ch1), .val (.int ch2), .val (.int ch3), .val (.ref a), .unset, .unset] [])) _
    refine XS.iconst X2.here hx rfl (hb hby at_112) ?_
    refine XS.istore X2.here hx rfl (hb hby at_113) rfl (l' := #[.val (.int p1), .val (.int p2), .val (.int p3), .val (.int p4), .val (.int p5), .val (.int z), .val (.int ch0), .val (.int ch1), .val (.int ch2), .val (.int ch3), .val (.ref a), .val (.int (0 : Int32)), .unset]) rfl ?_
    show Steps p.tables e below (T2.setTop (mkF m 115 #[.val (.int p1), .val (.int p2), .val (.int p3), .val (.int p4), .val (.int p5), .val (.int z), .val (.int ch0), .val (.int ch1), .val (.int ch2), .val (.int ch3), .val (.ref a), .val (.int (0 : Int32)), .unset] [])) _
    refine XS.aload X2.here hx rfl (hb hby at_115) rfl rfl ?_
    show Steps p.tables e below (T2.setTop (mkF m 117 #[.val (.int p1), .val (.int p2), .val (.int p3), .val (.int p4), .val (.int p5), .val (.int z), .val (.int ch0), .val (.int ch1), .val (.int ch2), .val (.int ch3), .val (.ref a), .val (.int (0 : Int32)), .unset] [(.ref a)])) _
    refine st3 _ ?_
    show Steps p.tables e below (T3.setTop (mkF m 120 #[.val (.int p1), .val (.int p2), .val (.int p3), .val (.int p4), .val (.int p5), .val (.int z), .val (.int ch0), .val (.int ch1), .val (.int ch2), .val (.int ch3), .val (.ref a), .val (.int (0 : Int32)), .unset] [(.int (0 : Int32))])) _
    refine XS.istore X3.here hx rfl (hb hby at_120) rfl (l' := #[.val (.int p1), .val (.int p2), .val (.int p3), .val (.int p4), .val (.int p5), .val (.int z), .val (.int ch0), .val (.int ch1), .val (.int ch2), .val (.int ch3), .val (.ref a), .val (.int (0 : Int32)), .val (.int (0 : Int32))]) rfl ?_
    refine XS.iload X3.here hx rfl (hb hby at_122) rfl ?_
    show Steps p.tables e below (T3.setTop (mkF m 124 #[.val (.int p1), .val (.int p2), .val (.int p3), .val (.int p4), .val (.int p5), .val (.int z), .val (.int ch0), .val (.int ch1), .val (.int ch2), .val (.int ch3), .val (.ref a), .val (.int (0 : Int32)), .val (.int (0 : Int32))] [(.int (0 : Int32))])) _
    refine XS.iload X3.here hx rfl (hb hby at_124) rfl ?_
    show Steps p.tables e below (T3.setTop (mkF m 126 #[.val (.int p1), .val (.int p2), .val (.int p3), .val (.int p4), .val (.int p5), .val (.int z), .val (.int ch0), .val (.int ch1), .val (.int ch2), .val (.int ch3), .val (.ref a), .val (.int (0 : Int32)), .val (.int (0 : Int32))] [(.int (0 : Int32)), (.int (0 : Int32))])) _
    refine XS.icmpNo X3.here hx rfl (hb hby at_126) rfl (teq (by decide : (0 : Int32) = (0 : Int32))).2 ?_
    show Steps p.tables e below (T3.setTop (mkF m 129 #[.val (.int p1), .val (.int p2), .val (.int p3), .val (.int p4), .val (.int p5), .val (.int z), .val (.int ch0), .val (.int ch1), .val (.int ch2), .val (.int ch3), .val (.ref a), .val (.int (0 : Int32)), .val (.int (0 : Int32))] [])) _
    refine XS.iconst X3.here hx rfl (hb hby at_129) ?_
    refine XS.goto X3.here hx rfl (pc0 := 130) (pc' := 134) rfl (hb hby at_130) (by decide) (by decide) ?_
    exact kont
set_option maxRecDepth 65536 in
set_option maxHeartbeats 40000000 in
theorem seg3b_2 {p : Program} {l : Launch} {e : Env} {s : State} {m : MethodId} {args : Array Value} {below : List Frame} {meth : Method} {c : Code} {Z : State} {a0 : Array Value} (hw : ∀ d ∈ tables_1, d.before a0 Z = true) (hx : p.tables.exec = Jvm.exec) (hby : c.code = code) (hml : c.maxLocals = 13) (hZ : Z.Warmed39 s.vm) (hown : s.vm.findClass "com/example/grantline/grantline/authz/UnreservedMatchesPinLaw" = some m.cls) {T : State} {locs : List Loc} (X0 : Stand p l e room_1 s m args below meth c T locs 8 64) {h0 : Heap} (e0 : T.heap = h0) {n0 : Nat} (Z0 : n0 ≤ h0.size) (N0 : Fr n0 locs) (a : Addr) (p1 p2 p3 p4 p5 z ch0 ch1 ch2 ch3 wcs : Int32) (rg : Value) (E_a : Exa Z h0 a "java/lang/String") (tx : TX Z h0 a z (own_g ch0 ch1 ch2 ch3)) (S_CS : Sta Z h0 "java/lang/String" "COMPACT_STRINGS" "Z" (.int wcs)) (ncs : ¬ (wcs = (0 : Int32))) (S_SI : Sta Z h0 "jdk/internal/util/Preconditions" "SIOOBE_FORMATTER" "Ljava/util/function/BiFunction;" rg) (r_rg : rg.isRef = true) (S_AD : Sta Z h0 "java/lang/StringUTF16" "$assertionsDisabled" "Z" (.int (1 : Int32))) (S_HI : Sta Z h0 "java/lang/StringUTF16" "HI_BYTE_SHIFT" "I" (.int (0 : Int32))) (S_LO : Sta Z h0 "java/lang/StringUTF16" "LO_BYTE_SHIFT" "I" (.int (8 : Int32))) (hz0 : (0 : Int32) < z) (hz1 : (1 : Int32) < z) (hz2 : (2 : Int32) < z) (hn0 : ¬ (z < (1 : Int32))) (hn1 : ¬ (z < (2 : Int32))) (hn2 : ¬ (z < (3 : Int32))) (gd0 : ¬ (own_r ch0 = (0 : Int32))) (gd1 : ¬ (own_r ch1 = (0 : Int32))) (bad : own_r ch2 = (0 : Int32)) :
    ∃ (T' : State) (locs' : List Loc) (Ls : Array Slot), Stand p l e room_1 s m args below meth c T' locs' 8 64 ∧ T'.heap = h0 ∧ Fr n0 locs' ∧ ∀ t, Steps p.tables e below (T'.setTop (mkF m 134 Ls [(.int (1 : Int32))])) t → Steps p.tables e below (T.setTop (mkF m 50 #[.val (.int p1), .val (.int p2), .val (.int p3), .val (.int p4), .val (.int p5), .val (.int z), .val (.int ch0), .val (.int ch1), .val (.int ch2), .val (.int ch3), .unset, .unset, .unset] [(.ref a)])) t := by
  obtain ⟨_, _, ⟨T1, L1, kk1, nn1⟩, -, X1, ⟨Lc1, hQ1, l1, y1, z1⟩, st1⟩ := Jvm.LawKit.callS X0 hx (y := (⟨"com/example/grantline/grantline/authz/UnreservedMatchesPinLaw", "ok", "(C)Z"⟩ : MethodName)) hown (mvT hZ (wk hw 53 rfl)) (mvT hZ (wk hw 54 rfl)) (mvT hZ (wk hw 4 rfl)) (mvT hZ (wk hw 55 rfl)) (by decide) (backOf (W := 0) (m11 l Z a0 hw [] ch0 h0 n0 Z0 ) hZ (wk hw 55 rfl) (wk hw 4 rfl) (by decide) (by decide)) (g := (mkF m 60 #[.val (.int p1), .val (.int p2), .val (.int p3), .val (.int p4), .val (.int p5), .val (.int z), .val (.int ch0), .val (.int ch1), .val (.int ch2), .val (.int ch3), .val (.ref a), .unset, .unset] [(.int ch0)])) rfl (by rw [hml]; rfl) (argsL := [(.int ch0)]) (rest := []) (lenOf pdx__C_Z rfl) rfl (by show 2 * 0 + _ ≤ _; exact Nat.le_of_eq rfl) (hb hby at_60) (fun _ _ => ⟨rfl, e0, nle rfl, nle rfl⟩)
  dsimp only [Pt.U, Pt.locs, Pt.cells, Pt.slots] at X1 l1 y1 z1 st1 hQ1
  subst l1 y1 z1
  obtain ⟨rfl, Nq1, e1⟩ := hQ1
  have N1 := Fr.app N0 Nq1
  obtain ⟨_, _, ⟨T2, L2, kk2, nn2⟩, -, X2, ⟨Lc2, hQ2, l2, y2, z2⟩, st2⟩ := Jvm.LawKit.callS X1 hx (y := (⟨"com/example/grantline/grantline/authz/UnreservedMatchesPinLaw", "ok", "(C)Z"⟩ : MethodName)) hown (mvT hZ (wk hw 53 rfl)) (mvT hZ (wk hw 54 rfl)) (mvT hZ (wk hw 4 rfl)) (mvT hZ (wk hw 55 rfl)) (by decide) (backOf (W := 0) (m11 l Z a0 hw [] ch1 h0 n0 Z0 ) hZ (wk hw 55 rfl) (wk hw 4 rfl) (by decide) (by decide)) (g := (mkF m 74 #[.val (.int p1), .val (.int p2), .val (.int p3), .val (.int p4), .val (.int p5), .val (.int z), .val (.int ch0), .val (.int ch1), .val (.int ch2), .val (.int ch3), .val (.ref a), .unset, .unset] [(.int ch1)])) rfl (by rw [hml]; rfl) (argsL := [(.int ch1)]) (rest := []) (lenOf pdx__C_Z rfl) rfl (by show 2 * 0 + _ ≤ _; exact Nat.le_of_eq rfl) (hb hby at_74) (fun _ _ => ⟨rfl, e1, nle rfl, nle rfl⟩)
  dsimp only [Pt.U, Pt.locs, Pt.cells, Pt.slots] at X2 l2 y2 z2 st2 hQ2
  subst l2 y2 z2
  obtain ⟨rfl, Nq2, e2⟩ := hQ2
  have N2 := Fr.app N1 Nq2
  obtain ⟨_, _, ⟨T3, L3, kk3, nn3⟩, -, X3, ⟨Lc3, hQ3, l3, y3, z3⟩, st3⟩ := Jvm.LawKit.callS X2 hx (y := (⟨"com/example/grantline/grantline/authz/UnreservedMatchesPinLaw", "ok", "(C)Z"⟩ : MethodName)) hown (mvT hZ (wk hw 53 rfl)) (mvT hZ (wk hw 54 rfl)) (mvT hZ (wk hw 4 rfl)) (mvT hZ (wk hw 55 rfl)) (by decide) (backOf (W := 0) (m11 l Z a0 hw [] ch2 h0 n0 Z0 ) hZ (wk hw 55 rfl) (wk hw 4 rfl) (by decide) (by decide)) (g := (mkF m 88 #[.val (.int p1), .val (.int p2), .val (.int p3), .val (.int p4), .val (.int p5), .val (.int z), .val (.int ch0), .val (.int ch1), .val (.int ch2), .val (.int ch3), .val (.ref a), .unset, .unset] [(.int ch2)])) rfl (by rw [hml]; rfl) (argsL := [(.int ch2)]) (rest := []) (lenOf pdx__C_Z rfl) rfl (by show 2 * 0 + _ ≤ _; exact Nat.le_of_eq rfl) (hb hby at_88) (fun _ _ => ⟨rfl, e2, nle rfl, nle rfl⟩)
  dsimp only [Pt.U, Pt.locs, Pt.cells, Pt.slots] at X3 l3 y3 z3 st3 hQ3
  subst l3 y3 z3
  obtain ⟨rfl, Nq3, e3⟩ := hQ3
  have N3 := Fr.app N2 Nq3
  obtain ⟨_, _, ⟨T4, L4, kk4, nn4⟩, -, X4, ⟨Lc4, hQ4, l4, y4, z4⟩, st4⟩ := Jvm.LawKit.callS X3 hx (y := (⟨"com/example/grantline/grantline/authz/Unreserved", "matches", "(Ljava/lang/String;)Z"⟩ : MethodName)) hown (mvT hZ (wk hw 28 rfl)) (mvT hZ (wk hw 29 rfl)) (mvT hZ (wk hw 30 rfl)) (mvT hZ (wk hw 31 rfl)) (by decide) (backOf (W := 0) (m5b_2 l Z a0 hw [] a z (own_g ch0 ch1 ch2 ch3) wcs rg h0 n0 Z0 E_a tx S_CS ncs S_SI r_rg S_AD S_HI S_LO hz0 hz1 hz2 gd0 gd1 bad) hZ (wk hw 31 rfl) (wk hw 30 rfl) (by decide) (by decide)) (g := (mkF m 117 #[.val (.int p1), .val (.int p2), .val (.int p3), .val (.int p4), .val (.int p5), .val (.int z), .val (.int ch0), .val (.int ch1), .val (.int ch2), .val (.int ch3), .val (.ref a), .val (.int (0 : Int32)), .unset] [(.ref a)])) rfl (by rw [hml]; rfl) (argsL := [(.ref a)]) (rest := []) (lenOf pdx__Ljava_lang_String__Z rfl) rfl (by show 2 * 0 + _ ≤ _; exact Nat.le_of_eq rfl) (hb hby at_117) (fun _ _ => ⟨rfl, e3, nle rfl, nle rfl⟩)
  dsimp only [Pt.U, Pt.locs, Pt.cells, Pt.slots] at X4 l4 y4 z4 st4 hQ4
  subst l4 y4 z4
  obtain ⟨rfl, Nq4, e4⟩ := hQ4
  have N4 := Fr.app N3 Nq4
  refine ⟨T4, _, #[.val (.int p1), .val (.int p2), .val (.int p3), .val (.int p4), .val (.int p5), .val (.int z), .val (.int ch0), .val (.int ch1), .val (.int ch2), .val (.int ch3), .val (.ref a), .val (.int (0 : Int32)), .val (.int (0 : Int32))], X4, e4, N4, fun t kont => ?_⟩
  · show Steps p.tables e below (T.setTop (mkF m 50 #[.val (.int p1), .val (.int p2), .val (.int p3), .val (.int p4), .val (.int p5), .val (.int z), .val (.int ch0), .val (.int ch1), .val (.int ch2), .val (.int ch3), .unset, .unset, .unset] [(.ref a)])) _
    refine XS.astore X0.here hx rfl (hb hby at_50) rfl rfl (l' := #[.val (.int p1), .val (.int p2), .val (.int p3), .val (.int p4), .val (.int p5), .val (.int z), .val (.int ch0), .val (.int ch1), .val (.int ch2), .val (.int ch3), .val (.ref a), .unset, .unset]) rfl ?_
    refine XS.iload X0.here hx rfl (hb hby at_52) rfl ?_
    show Steps p.tables e below (T.setTop (mkF m 54 #[.val (.int p1), .val (.int p2), .val (.int p3), .val (.int p4), .val (.int p5), .val (.int z), .val (.int ch0), .val (.int ch1), .val (.int ch2), .val (.int ch3), .val (.ref a), .unset, .unset] [(.int z)])) _
    refine XS.iconst X0.here hx rfl (hb hby at_54) ?_
    show Steps p.tables e below (T.setTop (mkF m 55 #[.val (.int p1), .val (.int p2), .val (.int p3), .val (.int p4), .val (.int p5), .val (.int z), .val (.int ch0), .val (.int ch1), .val (.int ch2), .val (.int ch3), .val (.ref a), .unset, .unset] [(.int (1 : Int32)), (.int z)])) _
    refine XS.icmpNo X0.here hx rfl (hb hby at_55) rfl (flt (hn0 : ¬ (z < (1 : Int32)))).1 ?_
    show Steps p.tables e below (T.setTop (mkF m 58 #[.val (.int p1), .val (.int p2), .val (.int p3), .val (.int p4), .val (.int p5), .val (.int z), .val (.int ch0), .val (.int ch1), .val (.int ch2), .val (.int ch3), .val (.ref a), .unset, .unset] [])) _
    refine XS.iload X0.here hx rfl (hb hby at_58) rfl ?_
    show Steps p.tables e below (T.setTop (mkF m 60 #[.val (.int p1), .val (.int p2), .val (.int p3), .val (.int p4), .val (.int p5), .val (.int z), .val (.int ch0), .val (.int ch1), .val (.int ch2), .val (.int ch3), .val (.ref a), .unset, .unset] [(.int ch0)])) _
    refine st1 _ ?_
    show Steps p.tables e below (T1.setTop (mkF m 63 #[.val (.int p1), .val (.int p2), .val (.int p3), .val (.int p4), .val (.int p5), .val (.int z), .val (.int ch0), .val (.int ch1), .val (.int ch2), .val (.int ch3), .val (.ref a), .unset, .unset] [(.int (own_r ch0))])) _
    refine XS.ifNo X1.here hx rfl (hb hby at_63) rfl ((if0 _ _).trans (feq (gd0 : ¬ ((own_r ch0) = (0 : Int32)))).1) ?_
    show Steps p.tables e below (T1.setTop (mkF m 66 #[.val (.int p1), .val (.int p2), .val (.int p3), .val (.int p4), .val (.int p5), .val (.int z), .val (.int ch0), .val (.int ch1), .val (.int ch2), .val (.int ch3), .val (.ref a), .unset, .unset] [])) _
    refine XS.iload X1.here hx rfl (hb hby at_66) rfl ?_
    refine XS.iconst X1.here hx rfl (hb hby at_68) ?_
    show Steps p.tables e below (T1.setTop (mkF m 69 #[.val (.int p1), .val (.int p2), .val (.int p3), .val (.int p4), .val (.int p5), .val (.int z), .val (.int ch0), .val (.int ch1), .val (.int ch2), .val (.int ch3), .val (.ref a), .unset, .unset] [(.int (2 : Int32)), (.int z)])) _
    refine XS.icmpNo X1.here hx rfl (hb hby at_69) rfl (flt (hn1 : ¬ (z < (2 : Int32)))).1 ?_
    show Steps p.tables e below (T1.setTop (mkF m 72 #[.val (.int p1), .val (.int p2), .val (.int p3), .val (.int p4), .val (.int p5), .val (.int z), .val (.int ch0), .val (.int ch1), .val (.int ch2), .val (.int ch3), .val (.ref a), .unset, .unset] [])) _
    refine XS.iload X1.here hx rfl (hb hby at_72) rfl ?_
    show Steps p.tables e below (T1.setTop (mkF m 74 #[.val (.int p1), .val (.int p2), .val (.int p3), .val (.int p4), .val (.int p5), .val (.int z), .val (.int ch0), .val (.int ch1), .val (.int ch2), .val (.int ch3), .val (.ref a), .unset, .unset] [(.int ch1)])) _
    refine st2 _ ?_
    show Steps p.tables e below (T2.setTop (mkF m 77 #[.val (.int p1), .val (.int p2), .val (.int p3), .val (.int p4), .val (.int p5), .val (.int z), .val (.int ch0), .val (.int ch1), .val (.int ch2), .val (.int ch3), .val (.ref a), .unset, .unset] [(.int (own_r ch1))])) _
    refine XS.ifNo X2.here hx rfl (hb hby at_77) rfl ((if0 _ _).trans (feq (gd1 : ¬ ((own_r ch1) = (0 : Int32)))).1) ?_
    show Steps p.tables e below (T2.setTop (mkF m 80 #[.val (.int p1), .val (.int p2), .val (.int p3), .val (.int p4), .val (.int p5), .val (.int z), .val (.int ch0), .val (.int ch1), .val (.int ch2), .val (.int ch3), .val (.ref a), .unset, .unset] [])) _
    refine XS.iload X2.here hx rfl (hb hby at_80) rfl ?_
    refine XS.iconst X2.here hx rfl (hb hby at_82) ?_
    show Steps p.tables e below (T2.setTop (mkF m 83 #[.val (.int p1), .val (.int p2), .val (.int p3), .val (.int p4), .val (.int p5), .val (.int z), .val (.int ch0), .val (.int ch1), .val (.int ch2), .val (.int ch3), .val (.ref a), .unset, .unset] [(.int (3 : Int32)), (.int z)])) _
    refine XS.icmpNo X2.here hx rfl (hb hby at_83) rfl (flt (hn2 : ¬ (z < (3 : Int32)))).1 ?_
    show Steps p.tables e below (T2.setTop (mkF m 86 #[.val (.int p1), .val (.int p2), .val (.int p3), .val (.int p4), .val (.int p5), .val (.int z), .val (.int ch0), .val (.int ch1), .val (.int ch2), .val (.int ch3), .val (.ref a), .unset, .unset] [])) _
    refine XS.iload X2.here hx rfl (hb hby at_86) rfl ?_
    show Steps p.tables e below (T2.setTop (mkF m 88 #[.val (.int p1), .val (.int p2), .val (.int p3), .val (.int p4), .val (.int p5), .val (.int z), .val (.int ch0), .val (.int ch1), .val (.int ch2), .val (.int ch3), .val (.ref a), .unset, .unset] [(.int ch2)])) _
    refine st3 _ ?_
    show Steps p.tables e below (T3.setTop (mkF m 91 #[.val (.int p1), .val (.int p2), .val (.int p3), .val (.int p4), .val (.int p5), .val (.int z), .val (.int ch0), .val (.int ch1), .val (.int ch2), .val (.int ch3), .val (.ref a), .unset, .unset] [(.int (own_r ch2))])) _
    refine XS.ifYes X3.here hx rfl (pc0 := 91) (pc' := 112) rfl (hb hby at_91) rfl ((if0 _ _).trans (teq (bad : (own_r ch2) = (0 : Int32))).1) (by decide) (by decide) ?_
    show Steps p.tables e below (T3.setTop (mkF m 112 #[.val (.int p1), .val (.int p2), .val (.int p3), .val (.int p4), .val (.int p5), .val (.int z), .val (.int ch0), .val (.int ch1), .val (.int ch2), .val (.int ch3), .val (.ref a), .unset, .unset] [])) _
    refine XS.iconst X3.here hx rfl (hb hby at_112) ?_
    refine XS.istore X3.here hx rfl (hb hby at_113) rfl (l' := #[.val (.int p1), .val (.int p2), .val (.int p3), .val (.int p4), .val (.int p5), .val (.int z), .val (.int ch0), .val (.int ch1), .val (.int ch2), .val (.int ch3), .val (.ref a), .val (.int (0 : Int32)), .unset]) rfl ?_
    show Steps p.tables e below (T3.setTop (mkF m 115 #[.val (.int p1), .val (.int p2), .val (.int p3), .val (.int p4), .val (.int p5), .val (.int z), .val (.int ch0), .val (.int ch1), .val (.int ch2), .val (.int ch3), .val (.ref a), .val (.int (0 : Int32)), .unset] [])) _
    refine XS.aload X3.here hx rfl (hb hby at_115) rfl rfl ?_
    show Steps p.tables e below (T3.setTop (mkF m 117 #[.val (.int p1), .val (.int p2), .val (.int p3), .val (.int p4), .val (.int p5), .val (.int z), .val (.int ch0), .val (.int ch1), .val (.int ch2), .val (.int ch3), .val (.ref a), .val (.int (0 : Int32)), .unset] [(.ref a)])) _
    refine st4 _ ?_
    show Steps p.tables e below (T4.setTop (mkF m 120 #[.val (.int p1), .val (.int p2), .val (.int p3), .val (.int p4), .val (.int p5), .val (.int z), .val (.int ch0), .val (.int ch1), .val (.int ch2), .val (.int ch3), .val (.ref a), .val (.int (0 : Int32)), .unset] [(.int (0 : Int32))])) _
    refine XS.istore X4.here hx rfl (hb hby at_120) rfl (l' := #[.val (.int p1), .val (.int p2), .val (.int p3), .val (.int p4), .val (.int p5), .val (.int z), .val (.int ch0), .val (.int ch1), .val (.int ch2), .val (.int ch3), .val (.ref a), .val (.int (0 : Int32)), .val (.int (0 : Int32))]) rfl ?_
    refine XS.iload X4.here hx rfl (hb hby at_122) rfl ?_
    show Steps p.tables e below (T4.setTop (mkF m 124 #[.val (.int p1), .val (.int p2), .val (.int p3), .val (.int p4), .val (.int p5), .val (.int z), .val (.int ch0), .val (.int ch1), .val (.int ch2), .val (.int ch3), .val (.ref a), .val (.int (0 : Int32)), .val (.int (0 : Int32))] [(.int (0 : Int32))])) _
    refine XS.iload X4.here hx rfl (hb hby at_124) rfl ?_
    show Steps p.tables e below (T4.setTop (mkF m 126 #[.val (.int p1), .val (.int p2), .val (.int p3), .val (.int p4), .val (.int p5), .val (.int z), .val (.int ch0), .val (.int ch1), .val (.int ch2), .val (.int ch3), .val (.ref a), .val (.int (0 : Int32)), .val (.int (0 : Int32))] [(.int (0 : Int32)), (.int (0 : Int32))])) _
    refine XS.icmpNo X4.here hx rfl (hb hby at_126) rfl (teq (by decide : (0 : Int32) = (0 : Int32))).2 ?_
    show Steps p.tables e below (T4.setTop (mkF m 129 #[.val (.int p1), .val (.int p2), .val (.int p3), .val (.int p4), .val (.int p5), .val (.int z), .val (.int ch0), .val (.int ch1), .val (.int ch2), .val (.int ch3), .val (.ref a), .val (.int (0 : Int32)), .val (.int (0 : Int32))] [])) _
    refine XS.iconst X4.here hx rfl (hb hby at_129) ?_
    refine XS.goto X4.here hx rfl (pc0 := 130) (pc' := 134) rfl (hb hby at_130) (by decide) (by decide) ?_
    exact kont
set_option maxRecDepth 65536 in
set_option maxHeartbeats 40000000 in
theorem seg3b_3 {p : Program} {l : Launch} {e : Env} {s : State} {m : MethodId} {args : Array Value} {below : List Frame} {meth : Method} {c : Code} {Z : State} {a0 : Array Value} (hw : ∀ d ∈ tables_1, d.before a0 Z = true) (hx : p.tables.exec = Jvm.exec) (hby : c.code = code) (hml : c.maxLocals = 13) (hZ : Z.Warmed39 s.vm) (hown : s.vm.findClass "com/example/grantline/grantline/authz/UnreservedMatchesPinLaw" = some m.cls) {T : State} {locs : List Loc} (X0 : Stand p l e room_1 s m args below meth c T locs 8 64) {h0 : Heap} (e0 : T.heap = h0) {n0 : Nat} (Z0 : n0 ≤ h0.size) (N0 : Fr n0 locs) (a : Addr) (p1 p2 p3 p4 p5 z ch0 ch1 ch2 ch3 wcs : Int32) (rg : Value) (E_a : Exa Z h0 a "java/lang/String") (tx : TX Z h0 a z (own_g ch0 ch1 ch2 ch3)) (S_CS : Sta Z h0 "java/lang/String" "COMPACT_STRINGS" "Z" (.int wcs)) (ncs : ¬ (wcs = (0 : Int32))) (S_SI : Sta Z h0 "jdk/internal/util/Preconditions" "SIOOBE_FORMATTER" "Ljava/util/function/BiFunction;" rg) (r_rg : rg.isRef = true) (S_AD : Sta Z h0 "java/lang/StringUTF16" "$assertionsDisabled" "Z" (.int (1 : Int32))) (S_HI : Sta Z h0 "java/lang/StringUTF16" "HI_BYTE_SHIFT" "I" (.int (0 : Int32))) (S_LO : Sta Z h0 "java/lang/StringUTF16" "LO_BYTE_SHIFT" "I" (.int (8 : Int32))) (hz0 : (0 : Int32) < z) (hz1 : (1 : Int32) < z) (hz2 : (2 : Int32) < z) (hz3 : (3 : Int32) < z) (hn0 : ¬ (z < (1 : Int32))) (hn1 : ¬ (z < (2 : Int32))) (hn2 : ¬ (z < (3 : Int32))) (hn3 : ¬ (z < (4 : Int32))) (gd0 : ¬ (own_r ch0 = (0 : Int32))) (gd1 : ¬ (own_r ch1 = (0 : Int32))) (gd2 : ¬ (own_r ch2 = (0 : Int32))) (bad : own_r ch3 = (0 : Int32)) :
    ∃ (T' : State) (locs' : List Loc) (Ls : Array Slot), Stand p l e room_1 s m args below meth c T' locs' 8 64 ∧ T'.heap = h0 ∧ Fr n0 locs' ∧ ∀ t, Steps p.tables e below (T'.setTop (mkF m 134 Ls [(.int (1 : Int32))])) t → Steps p.tables e below (T.setTop (mkF m 50 #[.val (.int p1), .val (.int p2), .val (.int p3), .val (.int p4), .val (.int p5), .val (.int z), .val (.int ch0), .val (.int ch1), .val (.int ch2), .val (.int ch3), .unset, .unset, .unset] [(.ref a)])) t := by
  obtain ⟨_, _, ⟨T1, L1, kk1, nn1⟩, -, X1, ⟨Lc1, hQ1, l1, y1, z1⟩, st1⟩ := Jvm.LawKit.callS X0 hx (y := (⟨"com/example/grantline/grantline/authz/UnreservedMatchesPinLaw", "ok", "(C)Z"⟩ : MethodName)) hown (mvT hZ (wk hw 53 rfl)) (mvT hZ (wk hw 54 rfl)) (mvT hZ (wk hw 4 rfl)) (mvT hZ (wk hw 55 rfl)) (by decide) (backOf (W := 0) (m11 l Z a0 hw [] ch0 h0 n0 Z0 ) hZ (wk hw 55 rfl) (wk hw 4 rfl) (by decide) (by decide)) (g := (mkF m 60 #[.val (.int p1), .val (.int p2), .val (.int p3), .val (.int p4), .val (.int p5), .val (.int z), .val (.int ch0), .val (.int ch1), .val (.int ch2), .val (.int ch3), .val (.ref a), .unset, .unset] [(.int ch0)])) rfl (by rw [hml]; rfl) (argsL := [(.int ch0)]) (rest := []) (lenOf pdx__C_Z rfl) rfl (by show 2 * 0 + _ ≤ _; exact Nat.le_of_eq rfl) (hb hby at_60) (fun _ _ => ⟨rfl, e0, nle rfl, nle rfl⟩)
  dsimp only [Pt.U, Pt.locs, Pt.cells, Pt.slots] at X1 l1 y1 z1 st1 hQ1
  subst l1 y1 z1
  obtain ⟨rfl, Nq1, e1⟩ := hQ1
  have N1 := Fr.app N0 Nq1
  obtain ⟨_, _, ⟨T2, L2, kk2, nn2⟩, -, X2, ⟨Lc2, hQ2, l2, y2, z2⟩, st2⟩ := Jvm.LawKit.callS X1 hx (y := (⟨"com/example/grantline/grantline/authz/UnreservedMatchesPinLaw", "ok", "(C)Z"⟩ : MethodName)) hown (mvT hZ (wk hw 53 rfl)) (mvT hZ (wk hw 54 rfl)) (mvT hZ (wk hw 4 rfl)) (mvT hZ (wk hw 55 rfl)) (by decide) (backOf (W := 0) (m11 l Z a0 hw [] ch1 h0 n0 Z0 ) hZ (wk hw 55 rfl) (wk hw 4 rfl) (by decide) (by decide)) (g := (mkF m 74 #[.val (.int p1), .val (.int p2), .val (.int p3), .val (.int p4), .val (.int p5), .val (.int z), .val (.int ch0), .val (.int ch1), .val (.int ch2), .val (.int ch3), .val (.ref a), .unset, .unset] [(.int ch1)])) rfl (by rw [hml]; rfl) (argsL := [(.int ch1)]) (rest := []) (lenOf pdx__C_Z rfl) rfl (by show 2 * 0 + _ ≤ _; exact Nat.le_of_eq rfl) (hb hby at_74) (fun _ _ => ⟨rfl, e1, nle rfl, nle rfl⟩)
  dsimp only [Pt.U, Pt.locs, Pt.cells, Pt.slots] at X2 l2 y2 z2 st2 hQ2
  subst l2 y2 z2
  obtain ⟨rfl, Nq2, e2⟩ := hQ2
  have N2 := Fr.app N1 Nq2
  obtain ⟨_, _, ⟨T3, L3, kk3, nn3⟩, -, X3, ⟨Lc3, hQ3, l3, y3, z3⟩, st3⟩ := Jvm.LawKit.callS X2 hx (y := (⟨"com/example/grantline/grantline/authz/UnreservedMatchesPinLaw", "ok", "(C)Z"⟩ : MethodName)) hown (mvT hZ (wk hw 53 rfl)) (mvT hZ (wk hw 54 rfl)) (mvT hZ (wk hw 4 rfl)) (mvT hZ (wk hw 55 rfl)) (by decide) (backOf (W := 0) (m11 l Z a0 hw [] ch2 h0 n0 Z0 ) hZ (wk hw 55 rfl) (wk hw 4 rfl) (by decide) (by decide)) (g := (mkF m 88 #[.val (.int p1), .val (.int p2), .val (.int p3), .val (.int p4), .val (.int p5), .val (.int z), .val (.int ch0), .val (.int ch1), .val (.int ch2), .val (.int ch3), .val (.ref a), .unset, .unset] [(.int ch2)])) rfl (by rw [hml]; rfl) (argsL := [(.int ch2)]) (rest := []) (lenOf pdx__C_Z rfl) rfl (by show 2 * 0 + _ ≤ _; exact Nat.le_of_eq rfl) (hb hby at_88) (fun _ _ => ⟨rfl, e2, nle rfl, nle rfl⟩)
  dsimp only [Pt.U, Pt.locs, Pt.cells, Pt.slots] at X3 l3 y3 z3 st3 hQ3
  subst l3 y3 z3
  obtain ⟨rfl, Nq3, e3⟩ := hQ3
  have N3 := Fr.app N2 Nq3
  obtain ⟨_, _, ⟨T4, L4, kk4, nn4⟩, -, X4, ⟨Lc4, hQ4, l4, y4, z4⟩, st4⟩ := Jvm.LawKit.callS X3 hx (y := (⟨"com/example/grantline/grantline/authz/UnreservedMatchesPinLaw", "ok", "(C)Z"⟩ : MethodName)) hown (mvT hZ (wk hw 53 rfl)) (mvT hZ (wk hw 54 rfl)) (mvT hZ (wk hw 4 rfl)) (mvT hZ (wk hw 55 rfl)) (by decide) (backOf (W := 0) (m11 l Z a0 hw [] ch3 h0 n0 Z0 ) hZ (wk hw 55 rfl) (wk hw 4 rfl) (by decide) (by decide)) (g := (mkF m 102 #[.val (.int p1), .val (.int p2), .val (.int p3), .val (.int p4), .val (.int p5), .val (.int z), .val (.int ch0), .val (.int ch1), .val (.int ch2), .val (.int ch3), .val (.ref a), .unset, .unset] [(.int ch3)])) rfl (by rw [hml]; rfl) (argsL := [(.int ch3)]) (rest := []) (lenOf pdx__C_Z rfl) rfl (by show 2 * 0 + _ ≤ _; exact Nat.le_of_eq rfl) (hb hby at_102) (fun _ _ => ⟨rfl, e3, nle rfl, nle rfl⟩)
  dsimp only [Pt.U, Pt.locs, Pt.cells, Pt.slots] at X4 l4 y4 z4 st4 hQ4
  subst l4 y4 z4
  obtain ⟨rfl, Nq4, e4⟩ := hQ4
  have N4 := Fr.app N3 Nq4
  obtain ⟨_, _, ⟨T5, L5, kk5, nn5⟩, -, X5, ⟨Lc5, hQ5, l5, y5, z5⟩, st5⟩ := Jvm.LawKit.callS X4 hx (y := (⟨"com/example/grantline/grantline/authz/Unreserved", "matches", "(Ljava/lang/String;)Z"⟩ : MethodName)) hown (mvT hZ (wk hw 28 rfl)) (mvT hZ (wk hw 29 rfl)) (mvT hZ (wk hw 30 rfl)) (mvT hZ (wk hw 31 rfl)) (by decide) (backOf (W := 0) (m5b_3 l Z a0 hw [] a z (own_g ch0 ch1 ch2 ch3) wcs rg h0 n0 Z0 E_a tx S_CS ncs S_SI r_rg S_AD S_HI S_LO hz0 hz1 hz2 hz3 gd0 gd1 gd2 bad) hZ (wk hw 31 rfl) (wk hw 30 rfl) (by decide) (by decide)) (g := (mkF m 117 #[.val (.int p1), .val (.int p2), .val (.int p3), .val (.int p4), .val (.int p5), .val (.int z), .val (.int ch0), .val (.int ch1), .val (.int ch2), .val (.int ch3), .val (.ref a), .val (.int (0 : Int32)), .unset] [(.ref a)])) rfl (by rw [hml]; rfl) (argsL := [(.ref a)]) (rest := []) (lenOf pdx__Ljava_lang_String__Z rfl) rfl (by show 2 * 0 + _ ≤ _; exact Nat.le_of_eq rfl) (hb hby at_117) (fun _ _ => ⟨rfl, e4, nle rfl, nle rfl⟩)
  dsimp only [Pt.U, Pt.locs, Pt.cells, Pt.slots] at X5 l5 y5 z5 st5 hQ5
  subst l5 y5 z5
  obtain ⟨rfl, Nq5, e5⟩ := hQ5
  have N5 := Fr.app N4 Nq5
  refine ⟨T5, _, #[.val (.int p1), .val (.int p2), .val (.int p3), .val (.int p4), .val (.int p5), .val (.int z), .val (.int ch0), .val (.int ch1), .val (.int ch2), .val (.int ch3), .val (.ref a), .val (.int (0 : Int32)), .val (.int (0 : Int32))], X5, e5, N5, fun t kont => ?_⟩
  · show Steps p.tables e below (T.setTop (mkF m 50 #[.val (.int p1), .val (.int p2), .val (.int p3), .val (.int p4), .val (.int p5), .val (.int z), .val (.int ch0), .val (.int ch1), .val (.int ch2), .val (.int ch3), .unset, .unset, .unset] [(.ref a)])) _
    refine XS.astore X0.here hx rfl (hb hby at_50) rfl rfl (l' := #[.val (.int p1), .val (.int p2), .val (.int p3), .val (.int p4), .val (.int p5), .val (.int z), .val (.int ch0), .val (.int ch1), .val (.int ch2), .val (.int ch3), .val (.ref a), .unset, .unset]) rfl ?_
    refine XS.iload X0.here hx rfl (hb hby at_52) rfl ?_
    show Steps p.tables e below (T.setTop (mkF m 54 #[.val (.int p1), .val (.int p2), .val (.int p3), .val (.int p4), .val (.int p5), .val (.int z), .val (.int ch0), .val (.int ch1), .val (.int ch2), .val (.int ch3), .val (.ref a), .unset, .unset] [(.int z)])) _
    refine XS.iconst X0.here hx rfl (hb hby at_54) ?_
    show Steps p.tables e below (T.setTop (mkF m 55 #[.val (.int p1), .val (.int p2), .val (.int p3), .val (.int p4), .val (.int p5), .val (.int z), .val (.int ch0), .val (.int ch1), .val (.int ch2), .val (.int ch3), .val (.ref a), .unset, .unset] [(.int (1 : Int32)), (.int z)])) _
    refine XS.icmpNo X0.here hx rfl (hb hby at_55) rfl (flt (hn0 : ¬ (z < (1 : Int32)))).1 ?_
    show Steps p.tables e below (T.setTop (mkF m 58 #[.val (.int p1), .val (.int p2), .val (.int p3), .val (.int p4), .val (.int p5), .val (.int z), .val (.int ch0), .val (.int ch1), .val (.int ch2), .val (.int ch3), .val (.ref a), .unset, .unset] [])) _
    refine XS.iload X0.here hx rfl (hb hby at_58) rfl ?_
    show Steps p.tables e below (T.setTop (mkF m 60 #[.val (.int p1), .val (.int p2), .val (.int p3), .val (.int p4), .val (.int p5), .val (.int z), .val (.int ch0), .val (.int ch1), .val (.int ch2), .val (.int ch3), .val (.ref a), .unset, .unset] [(.int ch0)])) _
    refine st1 _ ?_
    show Steps p.tables e below (T1.setTop (mkF m 63 #[.val (.int p1), .val (.int p2), .val (.int p3), .val (.int p4), .val (.int p5), .val (.int z), .val (.int ch0), .val (.int ch1), .val (.int ch2), .val (.int ch3), .val (.ref a), .unset, .unset] [(.int (own_r ch0))])) _
    refine XS.ifNo X1.here hx rfl (hb hby at_63) rfl ((if0 _ _).trans (feq (gd0 : ¬ ((own_r ch0) = (0 : Int32)))).1) ?_
    show Steps p.tables e below (T1.setTop (mkF m 66 #[.val (.int p1), .val (.int p2), .val (.int p3), .val (.int p4), .val (.int p5), .val (.int z), .val (.int ch0), .val (.int ch1), .val (.int ch2), .val (.int ch3), .val (.ref a), .unset, .unset] [])) _
    refine XS.iload X1.here hx rfl (hb hby at_66) rfl ?_
    refine XS.iconst X1.here hx rfl (hb hby at_68) ?_
    show Steps p.tables e below (T1.setTop (mkF m 69 #[.val (.int p1), .val (.int p2), .val (.int p3), .val (.int p4), .val (.int p5), .val (.int z), .val (.int ch0), .val (.int ch1), .val (.int ch2), .val (.int ch3), .val (.ref a), .unset, .unset] [(.int (2 : Int32)), (.int z)])) _
    refine XS.icmpNo X1.here hx rfl (hb hby at_69) rfl (flt (hn1 : ¬ (z < (2 : Int32)))).1 ?_
    show Steps p.tables e below (T1.setTop (mkF m 72 #[.val (.int p1), .val (.int p2), .val (.int p3), .val (.int p4), .val (.int p5), .val (.int z), .val (.int ch0), .val (.int ch1), .val (.int ch2), .val (.int ch3), .val (.ref a), .unset, .unset] [])) _
    refine XS.iload X1.here hx rfl (hb hby at_72) rfl ?_
    show Steps p.tables e below (T1.setTop (mkF m 74 #[.val (.int p1), .val (.int p2), .val (.int p3), .val (.int p4), .val (.int p5), .val (.int z), .val (.int ch0), .val (.int ch1), .val (.int ch2), .val (.int ch3), .val (.ref a), .unset, .unset] [(.int ch1)])) _
    refine st2 _ ?_
    show Steps p.tables e below (T2.setTop (mkF m 77 #[.val (.int p1), .val (.int p2), .val (.int p3), .val (.int p4), .val (.int p5), .val (.int z), .val (.int ch0), .val (.int ch1), .val (.int ch2), .val (.int ch3), .val (.ref a), .unset, .unset] [(.int (own_r ch1))])) _
    refine XS.ifNo X2.here hx rfl (hb hby at_77) rfl ((if0 _ _).trans (feq (gd1 : ¬ ((own_r ch1) = (0 : Int32)))).1) ?_
    show Steps p.tables e below (T2.setTop (mkF m 80 #[.val (.int p1), .val (.int p2), .val (.int p3), .val (.int p4), .val (.int p5), .val (.int z), .val (.int ch0), .val (.int ch1), .val (.int ch2), .val (.int ch3), .val (.ref a), .unset, .unset] [])) _
    refine XS.iload X2.here hx rfl (hb hby at_80) rfl ?_
    refine XS.iconst X2.here hx rfl (hb hby at_82) ?_
    show Steps p.tables e below (T2.setTop (mkF m 83 #[.val (.int p1), .val (.int p2), .val (.int p3), .val (.int p4), .val (.int p5), .val (.int z), .val (.int ch0), .val (.int ch1), .val (.int ch2), .val (.int ch3), .val (.ref a), .unset, .unset] [(.int (3 : Int32)), (.int z)])) _
    refine XS.icmpNo X2.here hx rfl (hb hby at_83) rfl (flt (hn2 : ¬ (z < (3 : Int32)))).1 ?_
    show Steps p.tables e below (T2.setTop (mkF m 86 #[.val (.int p1), .val (.int p2), .val (.int p3), .val (.int p4), .val (.int p5), .val (.int z), .val (.int ch0), .val (.int ch1), .val (.int ch2), .val (.int ch3), .val (.ref a), .unset, .unset] [])) _
    refine XS.iload X2.here hx rfl (hb hby at_86) rfl ?_
    show Steps p.tables e below (T2.setTop (mkF m 88 #[.val (.int p1), .val (.int p2), .val (.int p3), .val (.int p4), .val (.int p5), .val (.int z), .val (.int ch0), .val (.int ch1), .val (.int ch2), .val (.int ch3), .val (.ref a), .unset, .unset] [(.int ch2)])) _
    refine st3 _ ?_
    show Steps p.tables e below (T3.setTop (mkF m 91 #[.val (.int p1), .val (.int p2), .val (.int p3), .val (.int p4), .val (.int p5), .val (.int z), .val (.int ch0), .val (.int ch1), .val (.int ch2), .val (.int ch3), .val (.ref a), .unset, .unset] [(.int (own_r ch2))])) _
    refine XS.ifNo X3.here hx rfl (hb hby at_91) rfl ((if0 _ _).trans (feq (gd2 : ¬ ((own_r ch2) = (0 : Int32)))).1) ?_
    show Steps p.tables e below (T3.setTop (mkF m 94 #[.val (.int p1), .val (.int p2), .val (.int p3), .val (.int p4), .val (.int p5), .val (.int z), .val (.int ch0), .val (.int ch1), .val (.int ch2), .val (.int ch3), .val (.ref a), .unset, .unset] [])) _
    refine XS.iload X3.here hx rfl (hb hby at_94) rfl ?_
    refine XS.iconst X3.here hx rfl (hb hby at_96) ?_
    show Steps p.tables e below (T3.setTop (mkF m 97 #[.val (.int p1), .val (.int p2), .val (.int p3), .val (.int p4), .val (.int p5), .val (.int z), .val (.int ch0), .val (.int ch1), .val (.int ch2), .val (.int ch3), .val (.ref a), .unset, .unset] [(.int (4 : Int32)), (.int z)])) _
    refine XS.icmpNo X3.here hx rfl (hb hby at_97) rfl (flt (hn3 : ¬ (z < (4 : Int32)))).1 ?_
    show Steps p.tables e below (T3.setTop (mkF m 100 #[.val (.int p1), .val (.int p2), .val (.int p3), .val (.int p4), .val (.int p5), .val (.int z), .val (.int ch0), .val (.int ch1), .val (.int ch2), .val (.int ch3), .val (.ref a), .unset, .unset] [])) _
    refine XS.iload X3.here hx rfl (hb hby at_100) rfl ?_
    show Steps p.tables e below (T3.setTop (mkF m 102 #[.val (.int p1), .val (.int p2), .val (.int p3), .val (.int p4), .val (.int p5), .val (.int z), .val (.int ch0), .val (.int ch1), .val (.int ch2), .val (.int ch3), .val (.ref a), .unset, .unset] [(.int ch3)])) _
    refine st4 _ ?_
    show Steps p.tables e below (T4.setTop (mkF m 105 #[.val (.int p1), .val (.int p2), .val (.int p3), .val (.int p4), .val (.int p5), .val (.int z), .val (.int ch0), .val (.int ch1), .val (.int ch2), .val (.int ch3), .val (.ref a), .unset, .unset] [(.int (own_r ch3))])) _
    refine XS.ifYes X4.here hx rfl (pc0 := 105) (pc' := 112) rfl (hb hby at_105) rfl ((if0 _ _).trans (teq (bad : (own_r ch3) = (0 : Int32))).1) (by decide) (by decide) ?_
    show Steps p.tables e below (T4.setTop (mkF m 112 #[.val (.int p1), .val (.int p2), .val (.int p3), .val (.int p4), .val (.int p5), .val (.int z), .val (.int ch0), .val (.int ch1), .val (.int ch2), .val (.int ch3), .val (.ref a), .unset, .unset] [])) _
    refine XS.iconst X4.here hx rfl (hb hby at_112) ?_
    refine XS.istore X4.here hx rfl (hb hby at_113) rfl (l' := #[.val (.int p1), .val (.int p2), .val (.int p3), .val (.int p4), .val (.int p5), .val (.int z), .val (.int ch0), .val (.int ch1), .val (.int ch2), .val (.int ch3), .val (.ref a), .val (.int (0 : Int32)), .unset]) rfl ?_
    show Steps p.tables e below (T4.setTop (mkF m 115 #[.val (.int p1), .val (.int p2), .val (.int p3), .val (.int p4), .val (.int p5), .val (.int z), .val (.int ch0), .val (.int ch1), .val (.int ch2), .val (.int ch3), .val (.ref a), .val (.int (0 : Int32)), .unset] [])) _
    refine XS.aload X4.here hx rfl (hb hby at_115) rfl rfl ?_
    show Steps p.tables e below (T4.setTop (mkF m 117 #[.val (.int p1), .val (.int p2), .val (.int p3), .val (.int p4), .val (.int p5), .val (.int z), .val (.int ch0), .val (.int ch1), .val (.int ch2), .val (.int ch3), .val (.ref a), .val (.int (0 : Int32)), .unset] [(.ref a)])) _
    refine st5 _ ?_
    show Steps p.tables e below (T5.setTop (mkF m 120 #[.val (.int p1), .val (.int p2), .val (.int p3), .val (.int p4), .val (.int p5), .val (.int z), .val (.int ch0), .val (.int ch1), .val (.int ch2), .val (.int ch3), .val (.ref a), .val (.int (0 : Int32)), .unset] [(.int (0 : Int32))])) _
    refine XS.istore X5.here hx rfl (hb hby at_120) rfl (l' := #[.val (.int p1), .val (.int p2), .val (.int p3), .val (.int p4), .val (.int p5), .val (.int z), .val (.int ch0), .val (.int ch1), .val (.int ch2), .val (.int ch3), .val (.ref a), .val (.int (0 : Int32)), .val (.int (0 : Int32))]) rfl ?_
    refine XS.iload X5.here hx rfl (hb hby at_122) rfl ?_
    show Steps p.tables e below (T5.setTop (mkF m 124 #[.val (.int p1), .val (.int p2), .val (.int p3), .val (.int p4), .val (.int p5), .val (.int z), .val (.int ch0), .val (.int ch1), .val (.int ch2), .val (.int ch3), .val (.ref a), .val (.int (0 : Int32)), .val (.int (0 : Int32))] [(.int (0 : Int32))])) _
    refine XS.iload X5.here hx rfl (hb hby at_124) rfl ?_
    show Steps p.tables e below (T5.setTop (mkF m 126 #[.val (.int p1), .val (.int p2), .val (.int p3), .val (.int p4), .val (.int p5), .val (.int z), .val (.int ch0), .val (.int ch1), .val (.int ch2), .val (.int ch3), .val (.ref a), .val (.int (0 : Int32)), .val (.int (0 : Int32))] [(.int (0 : Int32)), (.int (0 : Int32))])) _
    refine XS.icmpNo X5.here hx rfl (hb hby at_126) rfl (teq (by decide : (0 : Int32) = (0 : Int32))).2 ?_
    show Steps p.tables e below (T5.setTop (mkF m 129 #[.val (.int p1), .val (.int p2), .val (.int p3), .val (.int p4), .val (.int p5), .val (.int z), .val (.int ch0), .val (.int ch1), .val (.int ch2), .val (.int ch3), .val (.ref a), .val (.int (0 : Int32)), .val (.int (0 : Int32))] [])) _
    refine XS.iconst X5.here hx rfl (hb hby at_129) ?_
    refine XS.goto X5.here hx rfl (pc0 := 130) (pc' := 134) rfl (hb hby at_130) (by decide) (by decide) ?_
    exact kont
set_option maxRecDepth 65536 in
set_option maxHeartbeats 40000000 in
theorem seg3 {p : Program} {l : Launch} {e : Env} {s : State} {m : MethodId} {args : Array Value} {below : List Frame} {meth : Method} {c : Code} {Z : State} {a0 : Array Value} (hw : ∀ d ∈ tables_1, d.before a0 Z = true) (hx : p.tables.exec = Jvm.exec) (hby : c.code = code) (hml : c.maxLocals = 13) (hZ : Z.Warmed39 s.vm) (hown : s.vm.findClass "com/example/grantline/grantline/authz/UnreservedMatchesPinLaw" = some m.cls) {T : State} {locs : List Loc} (X0 : Stand p l e room_1 s m args below meth c T locs 8 64) {h0 : Heap} (e0 : T.heap = h0) {n0 : Nat} (Z0 : n0 ≤ h0.size) (N0 : Fr n0 locs) (a : Addr) (p1 p2 p3 p4 p5 z ch0 ch1 ch2 ch3 wcs : Int32) (rg : Value) (E_a : Exa Z h0 a "java/lang/String") (tx : TX Z h0 a z (own_g ch0 ch1 ch2 ch3)) (S_CS : Sta Z h0 "java/lang/String" "COMPACT_STRINGS" "Z" (.int wcs)) (ncs : ¬ (wcs = (0 : Int32))) (S_SI : Sta Z h0 "jdk/internal/util/Preconditions" "SIOOBE_FORMATTER" "Ljava/util/function/BiFunction;" rg) (r_rg : rg.isRef = true) (S_AD : Sta Z h0 "java/lang/StringUTF16" "$assertionsDisabled" "Z" (.int (1 : Int32))) (S_HI : Sta Z h0 "java/lang/StringUTF16" "HI_BYTE_SHIFT" "I" (.int (0 : Int32))) (S_LO : Sta Z h0 "java/lang/StringUTF16" "LO_BYTE_SHIFT" "I" (.int (8 : Int32))) (hz : z = 0 ∨ z = 1 ∨ z = 2 ∨ z = 3 ∨ z = 4) :
    ∃ (T' : State) (locs' : List Loc) (Ls : Array Slot), Stand p l e room_1 s m args below meth c T' locs' 8 64 ∧ T'.heap = h0 ∧ Fr n0 locs' ∧ ∀ t, Steps p.tables e below (T'.setTop (mkF m 134 Ls [(.int (1 : Int32))])) t → Steps p.tables e below (T.setTop (mkF m 50 #[.val (.int p1), .val (.int p2), .val (.int p3), .val (.int p4), .val (.int p5), .val (.int z), .val (.int ch0), .val (.int ch1), .val (.int ch2), .val (.int ch3), .unset, .unset, .unset] [(.ref a)])) t := by
  rcases hz with rfl | rfl | rfl | rfl | rfl
  · exact seg3g_0 hw hx hby hml hZ hown X0 e0 Z0 N0 a p1 p2 p3 p4 p5 ch0 ch1 ch2 ch3 wcs rg E_a tx S_CS ncs S_SI r_rg S_AD S_HI S_LO 
  · by_cases gd0 : own_r ch0 = (0 : Int32)
    · exact seg3b_0 hw hx hby hml hZ hown X0 e0 Z0 N0 a p1 p2 p3 p4 p5 (1 : Int32) ch0 ch1 ch2 ch3 wcs rg E_a tx S_CS ncs S_SI r_rg S_AD S_HI S_LO (by decide) (by decide)  gd0
    exact seg3g_1 hw hx hby hml hZ hown X0 e0 Z0 N0 a p1 p2 p3 p4 p5 ch0 ch1 ch2 ch3 wcs rg E_a tx S_CS ncs S_SI r_rg S_AD S_HI S_LO gd0
  · by_cases gd0 : own_r ch0 = (0 : Int32)
    · exact seg3b_0 hw hx hby hml hZ hown X0 e0 Z0 N0 a p1 p2 p3 p4 p5 (2 : Int32) ch0 ch1 ch2 ch3 wcs rg E_a tx S_CS ncs S_SI r_rg S_AD S_HI S_LO (by decide) (by decide)  gd0
    by_cases gd1 : own_r ch1 = (0 : Int32)
    · exact seg3b_1 hw hx hby hml hZ hown X0 e0 Z0 N0 a p1 p2 p3 p4 p5 (2 : Int32) ch0 ch1 ch2 ch3 wcs rg E_a tx S_CS ncs S_SI r_rg S_AD S_HI S_LO (by decide) (by decide) (by decide) (by decide) gd0 gd1
    exact seg3g_2 hw hx hby hml hZ hown X0 e0 Z0 N0 a p1 p2 p3 p4 p5 ch0 ch1 ch2 ch3 wcs rg E_a tx S_CS ncs S_SI r_rg S_AD S_HI S_LO gd0 gd1
  · by_cases gd0 : own_r ch0 = (0 : Int32)
    · exact seg3b_0 hw hx hby hml hZ hown X0 e0 Z0 N0 a p1 p2 p3 p4 p5 (3 : Int32) ch0 ch1 ch2 ch3 wcs rg E_a tx S_CS ncs S_SI r_rg S_AD S_HI S_LO (by decide) (by decide)  gd0
    by_cases gd1 : own_r ch1 = (0 : Int32)
    · exact seg3b_1 hw hx hby hml hZ hown X0 e0 Z0 N0 a p1 p2 p3 p4 p5 (3 : Int32) ch0 ch1 ch2 ch3 wcs rg E_a tx S_CS ncs S_SI r_rg S_AD S_HI S_LO (by decide) (by decide) (by decide) (by decide) gd0 gd1
    by_cases gd2 : own_r ch2 = (0 : Int32)
    · exact seg3b_2 hw hx hby hml hZ hown X0 e0 Z0 N0 a p1 p2 p3 p4 p5 (3 : Int32) ch0 ch1 ch2 ch3 wcs rg E_a tx S_CS ncs S_SI r_rg S_AD S_HI S_LO (by decide) (by decide) (by decide) (by decide) (by decide) (by decide) gd0 gd1 gd2
    exact seg3g_3 hw hx hby hml hZ hown X0 e0 Z0 N0 a p1 p2 p3 p4 p5 ch0 ch1 ch2 ch3 wcs rg E_a tx S_CS ncs S_SI r_rg S_AD S_HI S_LO gd0 gd1 gd2
  · by_cases gd0 : own_r ch0 = (0 : Int32)
    · exact seg3b_0 hw hx hby hml hZ hown X0 e0 Z0 N0 a p1 p2 p3 p4 p5 (4 : Int32) ch0 ch1 ch2 ch3 wcs rg E_a tx S_CS ncs S_SI r_rg S_AD S_HI S_LO (by decide) (by decide)  gd0
    by_cases gd1 : own_r ch1 = (0 : Int32)
    · exact seg3b_1 hw hx hby hml hZ hown X0 e0 Z0 N0 a p1 p2 p3 p4 p5 (4 : Int32) ch0 ch1 ch2 ch3 wcs rg E_a tx S_CS ncs S_SI r_rg S_AD S_HI S_LO (by decide) (by decide) (by decide) (by decide) gd0 gd1
    by_cases gd2 : own_r ch2 = (0 : Int32)
    · exact seg3b_2 hw hx hby hml hZ hown X0 e0 Z0 N0 a p1 p2 p3 p4 p5 (4 : Int32) ch0 ch1 ch2 ch3 wcs rg E_a tx S_CS ncs S_SI r_rg S_AD S_HI S_LO (by decide) (by decide) (by decide) (by decide) (by decide) (by decide) gd0 gd1 gd2
    by_cases gd3 : own_r ch3 = (0 : Int32)
    · exact seg3b_3 hw hx hby hml hZ hown X0 e0 Z0 N0 a p1 p2 p3 p4 p5 (4 : Int32) ch0 ch1 ch2 ch3 wcs rg E_a tx S_CS ncs S_SI r_rg S_AD S_HI S_LO (by decide) (by decide) (by decide) (by decide) (by decide) (by decide) (by decide) (by decide) gd0 gd1 gd2 gd3
    exact seg3g_4 hw hx hby hml hZ hown X0 e0 Z0 N0 a p1 p2 p3 p4 p5 ch0 ch1 ch2 ch3 wcs rg E_a tx S_CS ncs S_SI r_rg S_AD S_HI S_LO gd0 gd1 gd2 gd3
theorem ef_0 (m : MethodId) (x0 x1 x2 x3 x4 : Int32) : entryFrame m #[(.int x0), (.int x1), (.int x2), (.int x3), (.int x4)] maxLocals = (mkF m 0 #[.val (.int x0), .val (.int x1), .val (.int x2), .val (.int x3), .val (.int x4), .unset, .unset, .unset, .unset, .unset, .unset, .unset, .unset] []) := by first | (simp [entryFrame, mkF, argsToLocals, Value.category, maxLocals]; done) | rfl
set_option maxRecDepth 65536 in
set_option maxHeartbeats 40000000 in
theorem own_law (l : Launch) (Z : State) (a0 : Array Value) (hw : ∀ d ∈ tables_1, d.before a0 Z = true) (ws : List Jvm.Cond) (p1 p2 p3 p4 p5 wcs : Int32) (rg : Value) (h0 : Heap) (n0 : Nat) (Z0 : n0 ≤ h0.size) (S_CS : Sta Z h0 "java/lang/String" "COMPACT_STRINGS" "Z" (.int wcs)) (ncs : ¬ (wcs = (0 : Int32))) (S_SI : Sta Z h0 "jdk/internal/util/Preconditions" "SIOOBE_FORMATTER" "Ljava/util/function/BiFunction;" rg) (r_rg : rg.isRef = true) (S_AD : Sta Z h0 "java/lang/StringUTF16" "$assertionsDisabled" "Z" (.int (1 : Int32))) (S_HI : Sta Z h0 "java/lang/StringUTF16" "HI_BYTE_SHIFT" "I" (.int (0 : Int32))) (S_LO : Sta Z h0 "java/lang/StringUTF16" "LO_BYTE_SHIFT" "I" (.int (8 : Int32))) (hEL : EW Z a0 [("java/lang/String", 7)]) :
    MetFree l x (head1 (Jvm.Cond.code x code maxLocals ret :: ws) room_1) (fun ar_ U => ar_ = #[(.int p1), (.int p2), (.int p3), (.int p4), (.int p5)] ∧ Z.Warmed39 U.vm ∧ U.heap = h0 ∧ CHv Z [("java/lang/String", 7)] U.vm h0) (fun _ _ _ _ _ => True) (fun _ U o U' => ∃ v L, o = .returned v ∧ (v = some (.int (1 : Int32)) ∧ Fr n0 L) ∧ ReturnedEndW U o U' L 24 1152) := by
  refine MetFree.of_bodySF (plainFor_of_name pnx_com_example_grantline_grantline_authz_UnreservedMatchesPinLaw) hisR ?_
  intro p e s m args below meth c s₁ Bd hml0 hP hK
  obtain ⟨rfl, hZ, hh, HC⟩ := hP
  have hx := Bd.exec
  have hby := Bd.bytes
  have hml : c.maxLocals = 13 := hml0
  have hown : s.vm.findClass "com/example/grantline/grantline/authz/UnreservedMatchesPinLaw" = some m.cls := findClass_of_methodNamed Bd.named
  have X0 : Stand p l e room_1 s m #[(.int p1), (.int p2), (.int p3), (.int p4), (.int p5)] below meth c s₁ [] 0 0 := Stand.of_body Bd
  have e0 : s₁.heap = h0 := by rw [← hh, Bd.state]; rfl
  have N0 := Fr.nil n0
  have pre0 : ∀ t, Steps p.tables e below (s₁.setTop (mkF m 0 #[.val (.int p1), .val (.int p2), .val (.int p3), .val (.int p4), .val (.int p5), .unset, .unset, .unset, .unset, .unset, .unset, .unset, .unset] [])) t → Steps p.tables e below (s₁.setTop (entryFrame m #[(.int p1), (.int p2), (.int p3), (.int p4), (.int p5)] maxLocals)) t := fun t k => castTop (ef_0 m p1 p2 p3 p4 p5) k
  have s1 := seg1 hw hx hby hml hZ hown X0 p1 p2 p3 p4 p5
  have hz := own_five p5
  obtain ⟨vmA, TA, hA, locsA, a, XA, eA, KA, NA, SA, hZA, hownA, E_a, tx, s2⟩ := seg2 hw hx hby hml hZ hown X0 e0 Z0 N0 p1 p2 p3 p4 p5 ((p5 &&& (2147483647 : Int32)) % (5 : Int32)) ((p1 &&& (65535 : Int32)).toUInt32.toUInt16.toUInt32.toInt32) ((p2 &&& (65535 : Int32)).toUInt32.toUInt16.toUInt32.toInt32) ((p3 &&& (65535 : Int32)).toUInt32.toUInt16.toUInt32.toInt32) ((p4 &&& (65535 : Int32)).toUInt32.toUInt16.toUInt32.toInt32) wcs S_CS ncs S_AD S_HI S_LO hEL HC hz
  rw [own_i2c_nar ((p1 &&& (65535 : Int32))), own_i2c_nar ((p2 &&& (65535 : Int32))), own_i2c_nar ((p3 &&& (65535 : Int32))), own_i2c_nar ((p4 &&& (65535 : Int32)))] at tx
  obtain ⟨TD, locsD, Ls, XD, eD, ND, s3⟩ := seg3 hw hx hby hml hZA hownA XA eA (Nat.le_trans Z0 KA.1) NA a p1 p2 p3 p4 p5 ((p5 &&& (2147483647 : Int32)) % (5 : Int32)) ((p1 &&& (65535 : Int32)).toUInt32.toUInt16.toUInt32.toInt32) ((p2 &&& (65535 : Int32)).toUInt32.toUInt16.toUInt32.toInt32) ((p3 &&& (65535 : Int32)).toUInt32.toUInt16.toUInt32.toInt32) ((p4 &&& (65535 : Int32)).toUInt32.toUInt16.toUInt32.toInt32) wcs rg E_a tx (own_staK S_CS KA ns0) ncs (own_staK S_SI KA ns0) r_rg (own_staK S_AD KA ns0) (own_staK S_HI KA ns0) (own_staK S_LO KA ns0) hz
  obtain ⟨fs, hr, hrun, hended, hWW⟩ := leaveW (s := s) XD SA (Nat.le_of_eq (by rw [eD])) (v := some (.int (1 : Int32))) (fun h => by rw [Bd.returns] at h; cases h)
  refine ⟨_, _, pre0 _ (s1 _ (s2 _ (s3 _ ?_))), hrun, hended, _, _, rfl, ⟨rfl, ND⟩, ⟨hWW.1, hWW.2.1, hWW.2.2.1, hWW.2.2.2.mono (nle rfl) (nle rfl)⟩⟩
  exact retN XD hx (t := .boolean) Bd.returns (by simp) (hb hby at_134) hr
set_option maxRecDepth 65536 in
set_option maxHeartbeats 40000000 in
theorem comes_1 {Post : Tables → Env → Array Value → State → Outcome → State → Prop} (hpost : ∀ tb e args s v u, (limb_1_1.after args s (.returned v) u = true ∧ limb_1_2.after args s (.returned v) u = true ∧ True) → FramedW s (.returned v) u (Jvm.fieldLocs frame_1_writes args s ++ Jvm.arrayLocs frame_1_arrays args s ++ Jvm.staticLocs frame_1_statics s) 24 1152 → Post tb e args s (.returned v) u) :
    ArmFor flags0 classFile x code maxLocals ret World_1 tables_1 room_1 Calls_1 rest_1 Pre_1 Post := by
  intro l hfl _ _ p e ha hc hk s m args below hf hA hF happ hP
  obtain ⟨hcalls, hrest, hpre⟩ := hP
  obtain ⟨-, -, -, hnamed, -, -, -, hat⟩ := (Spec.applies_iff hf).mp happ
  obtain ⟨hg, hn⟩ := and_e (Cond.before_iff.mp (show (Jvm.Cond.and given_1 narrow_1).before args s = true from hpre))
  obtain ⟨g0, hg⟩ := and_e hg
  obtain ⟨w0, w1, w2, w3, w4, rfl⟩ : ∃ w0 w1 w2 w3 w4 : Value, args = #[w0, w1, w2, w3, w4] := by
    have hs : args.size = 5 := by simpa [Cond.value] using g0
    obtain ⟨L⟩ := args
    match L, hs with
    | [w0, w1, w2, w3, w4], _ => exact ⟨w0, w1, w2, w3, w4, rfl⟩
  have hw := fun d (hd : d ∈ tables_1) => atoms_spec (ws := Jvm.Cond.code x code maxLocals ret :: tables_1) hat d (List.mem_cons_of_mem _ hd)
  obtain ⟨hsets, hown0⟩ := atoms_of _ (rest_1_c_eq ▸ (show rest_1_c.before _ s = true from hrest))
  obtain ⟨g1, hg⟩ := and_e hg
  obtain ⟨g2, hg⟩ := and_e hg
  obtain ⟨g3, hg⟩ := and_e hg
  obtain ⟨g4, g5⟩ := and_e hg
  obtain ⟨i0, ei0⟩ := is_v g1
  obtain rfl : w0 = (.int i0) := Option.some.inj ei0
  obtain ⟨i1, ei1⟩ := is_v g2
  obtain rfl : w1 = (.int i1) := Option.some.inj ei1
  obtain ⟨i2, ei2⟩ := is_v g3
  obtain rfl : w2 = (.int i2) := Option.some.inj ei2
  obtain ⟨i3, ei3⟩ := is_v g4
  obtain rfl : w3 = (.int i3) := Option.some.inj ei3
  obtain ⟨i4, ei4⟩ := is_v g5
  obtain rfl : w4 = (.int i4) := Option.some.inj ei4
  obtain ⟨wcs, vcs⟩ := is_v (Cond.before_iff.mp (hsets _ (List.mem_of_getElem? (i := 1) rfl)))
  have S_CS := Sta.start vcs (Or.inl (hsets _ (List.mem_of_getElem? (i := 0) rfl)))
  have ncs : ¬ wcs = (0 : Int32) := gotF (Cond.eq_ints vcs (Term.int_eval 0)) (not_v (Cond.before_iff.mp (hsets _ (List.mem_of_getElem? (i := 2) rfl))))
  obtain ⟨rg, vrg, r_rg⟩ := isR_v (Cond.before_iff.mp (hsets _ (List.mem_of_getElem? (i := 8) rfl)))
  have S_SI := Sta.start vrg (Or.inl (hsets _ (List.mem_of_getElem? (i := 7) rfl)))
  have S_AD := Sta.start (Cond.eq_int (hsets _ (List.mem_of_getElem? (i := 12) rfl)) (Term.int_eval 1)) (Or.inl (hsets _ (List.mem_of_getElem? (i := 11) rfl)))
  have S_HI := Sta.start (Cond.eq_int (hsets _ (List.mem_of_getElem? (i := 15) rfl)) (Term.int_eval 0)) (Or.inl (hsets _ (List.mem_of_getElem? (i := 14) rfl)))
  have S_LO := Sta.start (Cond.eq_int (hsets _ (List.mem_of_getElem? (i := 18) rfl)) (Term.int_eval 8)) (Or.inl (hsets _ (List.mem_of_getElem? (i := 17) rfl)))
  have hEL : EW s _ [("java/lang/String", 7)] := EW.cons (wk hw 20 rfl) (by decide) EW.nil
  have HC : CHv s [("java/lang/String", 7)] s.vm s.heap := CHv.start hEL hcalls.1 (hsets _ (List.mem_of_getElem? (i := 2) rfl)) (wk hw 21 rfl) (wk hw 7 rfl)
  obtain ⟨n, o, h1, h2, h3, _, L, rfl, ⟨rfl, N⟩, hq⟩ := own_law l s _ hw tables_1 i0 i1 i2 i3 i4 wcs rg s.heap s.heap.size (Nat.le_refl _) S_CS ncs S_SI r_rg S_AD S_HI S_LO hEL p e ha hc hk s m _ below hf ((Spec.applies_iff_loose hf).mp happ).1 ⟨rfl, State.Warmed39.refl s, rfl, HC⟩ trivial
  refine ⟨n, _, h1, h2, h3, hpost _ _ _ _ _ _ ⟨Cond.after_iff.mpr rfl, Cond.after_iff.mpr (eq_i res_at (Term.int_eval (1)) rfl), trivial⟩ ⟨hq.1, hq.2.1, hq.2.2.1, (hq.2.2.2.sift fun y hy => Or.inr (N y hy)).mono (by decide) (by decide)⟩⟩
theorem main_1_1 : Claimed_1_1 := comes_1 fun _ _ _ _ _ _ h hF => ⟨h.1, hF⟩
theorem main_1_2 : Claimed_1_2 := comes_1 fun _ _ _ _ _ _ h hF => ⟨h.2.1, hF⟩
end Jvm.Pilot.@@N@@
namespace Jvm.Pilot.@@N@@
open Jvm Jvm.ClassFile Sem Op Lib Jvm.Free Jvm.Stand Jvm.Pilot.@@N@@.Jvm.D
/-! MADE BY PROGRAM (witnessworld.py) out of the Statement's table words and the real class files: 20 classes; the members and pool entries that the words name. The judged class is class 1, her method 3. -/
namespace start1
open Jvm.ClassFile
def u (s : String) : CpInfo := .utf8 (stringToUtf16 s)
/-- a pool by its gaps: so many unusable entries, then the entry; so many at the end -/
def gap : Nat → List CpInfo → List CpInfo
  | 0, r => r
  | n + 1, r => .unusable :: gap n r
def poolList (es : List (Nat × CpInfo)) (last : Nat) : List CpInfo := es.foldr (fun e r => gap e.1 (e.2 :: r)) (gap last [])
def pool (es : List (Nat × CpInfo)) (last : Nat) : Array CpInfo := ⟨poolList es last⟩
def fileOf (pool : Array CpInfo) (this : Nat) (attrs : Array Attribute := #[]) (ms : Array MethodInfo := #[]) (fl : Nat := 33) (sup : Nat := 0) (ifs : Array Nat := #[]) (fds : Array FieldInfo := #[]) : ClassFile where
  minorVersion := 0
  majorVersion := 65
  constantPool := pool
  accessFlags := fl
  thisClass := this
  superClass := sup
  interfaces := ifs
  fields := fds
  methods := ms
  attributes := attrs
def plain (name : String) (sup : Option ClassId) : Class where
  name := name
  kind := .ordinary
  loader := none
  accessFlags := 33
  super := sup
  interfaces := #[]
  cf := none
  fields := #[]
  methods := #[]
  instanceTypes := #[]
  staticTypes := #[]
  resolved := #[]
  callSites := []
  init := .initialized
  statics := none
  mirror := none

def pool0 : Array CpInfo := pool [(5, u "<init>"), (0, u "()V"), (1, .class_ 10), (1, u "java/lang/Object")] 113

def k0c0 : Code := { maxStack := 0, maxLocals := 1, code := object_method_1_code, exceptionTable := #[], attributes := #[] }
def k0m0 : Method := { name := "<init>", desc := "()V", sig := { parameters := [], returnType := none }, accessFlags := 1, code := some k0c0 }
/-- java/lang/Object -/
def k0 : Class := { plain "java/lang/Object" none with
  accessFlags := 33
  interfaces := #[]
  cf := some (fileOf pool0 8 #[] #[{ accessFlags := 1, nameIndex := 5, descriptorIndex := 6, attributes := #[] }] 33 0 #[] #[])
  fields := #[]
  methods := #[k0m0]
  instanceTypes := #[]
  staticTypes := #[]
  resolved := Array.replicate 124 none
  statics := none }

def pool1 : Array CpInfo := pool [(2, .class_ 4), (1, u "java/lang/Object"), (0, u "<init>"), (0, u "()V"), (0, .class_ 8), (0, u "java/lang/String"), (0, .methodref 7 10), (0, .nameAndType 5 11), (0, u "([C)V"), (0, .integer 2147483647), (0, .integer 65535), (0, .methodref 15 16), (0, .class_ 17), (0, .nameAndType 18 19), (0, u "com/example/grantline/grantline/authz/UnreservedMatchesPinLaw"), (0, u "build"), (0, u "(ICCCC)Ljava/lang/String;"), (0, .methodref 15 21), (0, .nameAndType 22 23), (0, u "ok"), (0, u "(C)Z"), (0, .methodref 25 26), (0, .class_ 27), (0, .nameAndType 28 29), (0, u "com/example/grantline/grantline/authz/Unreserved"), (0, u "matches"), (0, u "(Ljava/lang/String;)Z"), (3, u "law"), (0, u "(IIIII)Z")] 2

def k1m0 : Method := { name := "<init>", desc := "()V", sig := { parameters := [], returnType := none }, accessFlags := 1, code := none }
def k1c1 : Code := { maxStack := 2, maxLocals := 2, code := method_2_code, exceptionTable := #[], attributes := #[] }
def k1m1 : Method := { name := "ok", desc := "(C)Z", sig := { parameters := [.char], returnType := some .boolean }, accessFlags := 10, code := some k1c1 }
def k1c2 : Code := { maxStack := 6, maxLocals := 5, code := method_3_code, exceptionTable := #[], attributes := #[] }
def k1m2 : Method := { name := "build", desc := "(ICCCC)Ljava/lang/String;", sig := { parameters := [.int, .char, .char, .char, .char], returnType := some (.object "java/lang/String") }, accessFlags := 10, code := some k1c2 }
def k1c3 : Code := { maxStack := 5, maxLocals := 13, code := code, exceptionTable := #[], attributes := #[] }
def k1m3 : Method := { name := "law", desc := "(IIIII)Z", sig := { parameters := [.int, .int, .int, .int, .int], returnType := some .boolean }, accessFlags := 9, code := some k1c3 }
/-- com/example/grantline/grantline/authz/UnreservedMatchesPinLaw -/
def k1 : Class := { plain "com/example/grantline/grantline/authz/UnreservedMatchesPinLaw" (some 0) with
  accessFlags := 49
  interfaces := #[]
  cf := some (fileOf pool1 15 #[] #[{ accessFlags := 1, nameIndex := 5, descriptorIndex := 6, attributes := #[] }, { accessFlags := 10, nameIndex := 22, descriptorIndex := 23, attributes := #[] }, { accessFlags := 10, nameIndex := 18, descriptorIndex := 19, attributes := #[] }, { accessFlags := 9, nameIndex := 33, descriptorIndex := 34, attributes := #[] }] 49 2 #[] #[])
  fields := #[]
  methods := #[k1m0, k1m1, k1m2, k1m3]
  instanceTypes := #[]
  staticTypes := #[]
  resolved := Array.replicate 37 none
  statics := none }

def pool2 : Array CpInfo := pool [(1, .class_ 2), (0, u "java/io/Serializable"), (0, .class_ 4), (0, u "java/lang/Object")] 2

/-- java/io/Serializable -/
def k2 : Class := { plain "java/io/Serializable" (some 0) with
  accessFlags := 1537
  interfaces := #[]
  cf := some (fileOf pool2 1 #[] #[] 1537 3 #[] #[])
  fields := #[]
  methods := #[]
  instanceTypes := #[]
  staticTypes := #[]
  resolved := Array.replicate 7 none
  statics := none }

def pool3 : Array CpInfo := pool [(1, .class_ 2), (0, u "java/lang/Comparable"), (0, .class_ 4), (0, u "java/lang/Object")] 7

/-- java/lang/Comparable -/
def k3 : Class := { plain "java/lang/Comparable" (some 0) with
  accessFlags := 1537
  interfaces := #[]
  cf := some (fileOf pool3 1 #[] #[] 1537 3 #[] #[])
  fields := #[]
  methods := #[]
  instanceTypes := #[]
  staticTypes := #[]
  resolved := Array.replicate 12 none
  statics := none }

def pool4 : Array CpInfo := pool [(2, .class_ 4), (1, u "java/lang/CharSequence"), (42, .class_ 48), (0, u "java/lang/CharSequence$1CodePointIterator"), (10, .class_ 60), (0, u "java/lang/CharSequence$1CharIterator"), (5, .class_ 67), (0, u "java/lang/Object")] 63

/-- java/lang/CharSequence -/
def k4 : Class := { plain "java/lang/CharSequence" (some 0) with
  accessFlags := 1537
  interfaces := #[]
  cf := some (fileOf pool4 2 #[.nestMembers #[47, 59]] #[] 1537 66 #[] #[])
  fields := #[]
  methods := #[]
  instanceTypes := #[]
  staticTypes := #[]
  resolved := Array.replicate 131 none
  statics := none }

def pool5 : Array CpInfo := pool [(1, .class_ 2), (0, u "java/lang/constant/Constable"), (0, .class_ 4), (0, u "java/lang/Object")] 6

/-- java/lang/constant/Constable -/
def k5 : Class := { plain "java/lang/constant/Constable" (some 0) with
  accessFlags := 1537
  interfaces := #[]
  cf := some (fileOf pool5 1 #[] #[] 1537 3 #[] #[])
  fields := #[]
  methods := #[]
  instanceTypes := #[]
  staticTypes := #[]
  resolved := Array.replicate 11 none
  statics := none }

def pool6 : Array CpInfo := pool [(1, .class_ 2), (0, u "java/lang/constant/ConstantDesc"), (0, .class_ 4), (0, u "java/lang/Object")] 32

/-- java/lang/constant/ConstantDesc -/
def k6 : Class := { plain "java/lang/constant/ConstantDesc" (some 0) with
  accessFlags := 1537
  interfaces := #[]
  cf := some (fileOf pool6 1 #[] #[] 1537 3 #[] #[])
  fields := #[]
  methods := #[]
  instanceTypes := #[]
  staticTypes := #[]
  resolved := Array.replicate 37 none
  statics := none }

def pool7 : Array CpInfo := pool [(1, .methodref 2 3), (0, .class_ 4), (0, .nameAndType 5 6), (0, u "java/lang/Object"), (0, u "<init>"), (0, u "()V"), (0, .string 8), (0, u ""), (0, .fieldref 10 11), (0, .class_ 12), (0, .nameAndType 13 14), (0, u "java/lang/String"), (0, u "value"), (0, u "[B"), (0, .fieldref 10 16), (0, .nameAndType 17 18), (0, u "coder"), (0, u "B"), (2, u "hash"), (0, u "I"), (2, u "hashIsZero"), (0, u "Z"), (0, .methodref 10 28), (0, .nameAndType 5 29), (0, u "([CIILjava/lang/Void;)V"), (8, .fieldref 10 39), (0, .nameAndType 40 26), (0, u "COMPACT_STRINGS"), (1, .class_ 44), (1, u "java/lang/StringUTF16"), (0, u "compress"), (1, .methodref 42 48), (0, .nameAndType 49 50), (0, u "coderFromArrayLen"), (0, u "([BI)B"), (56, .class_ 109), (1, u "java/lang/StringLatin1"), (32, u "()Z"), (34, .methodref 42 178), (0, .nameAndType 45 179), (0, u "([CII)[B"), (154, u "()I"), (0, .methodref 10 336), (0, .nameAndType 17 337), (0, u "()B"), (25, u "([BI)C"), (27, u "(II)V"), (35, u "(I)C"), (64, .methodref 10 493), (0, .nameAndType 494 142), (0, u "isLatin1"), (0, .methodref 107 496), (0, .nameAndType 497 363), (0, u "charAt"), (0, .methodref 42 496), (2, u "checkIndex"), (5, u "length"), (67, .class_ 576), (0, u "java/lang/CharSequence"), (22, u "CASE_INSENSITIVE_ORDER"), (0, u "Ljava/util/Comparator;"), (409, u "([C)V"), (42, .fieldref 1054 1055), (0, .class_ 1056), (0, .nameAndType 1057 1058), (0, u "jdk/internal/util/Preconditions"), (0, u "SIOOBE_FORMATTER"), (0, u "Ljava/util/function/BiFunction;"), (0, .methodref 1054 1060), (0, .nameAndType 501 1061), (0, u "(IILjava/util/function/BiFunction;)I"), (39, u "serialPersistentFields"), (0, u "[Ljava/io/ObjectStreamField;"), (0, .class_ 1104), (0, u "java/lang/String$CaseInsensitiveComparator"), (1, .class_ 1107), (0, u "java/io/Serializable"), (0, .class_ 1109), (0, u "java/lang/Comparable"), (0, .class_ 1111), (0, u "java/lang/constant/Constable"), (0, .class_ 1113), (0, u "java/lang/constant/ConstantDesc"), (2, u "serialVersionUID"), (0, u "J"), (3, u "REPL"), (0, u "C"), (2, u "LATIN1"), (1, u "UTF16")] 323

def k7m0 : Method := { name := "<init>", desc := "()V", sig := { parameters := [], returnType := none }, accessFlags := 1, code := none }
def k7c1 : Code := { maxStack := 5, maxLocals := 2, code := jdk_42_method_3_code, exceptionTable := #[], attributes := #[] }
def k7m1 : Method := { name := "<init>", desc := "([C)V", sig := { parameters := [(.array .char)], returnType := none }, accessFlags := 1, code := some k7c1 }
def k7c2 : Code := { maxStack := 2, maxLocals := 1, code := jdk_42_method_54_code, exceptionTable := #[], attributes := #[] }
def k7m2 : Method := { name := "length", desc := "()I", sig := { parameters := [], returnType := some .int }, accessFlags := 1, code := some k7c2 }
def k7c3 : Code := { maxStack := 2, maxLocals := 2, code := jdk_42_method_56_code, exceptionTable := #[], attributes := #[] }
def k7m3 : Method := { name := "charAt", desc := "(I)C", sig := { parameters := [.int], returnType := some .char }, accessFlags := 1, code := some k7c3 }
def k7c4 : Code := { maxStack := 4, maxLocals := 6, code := jdk_42_method_149_code, exceptionTable := #[], attributes := #[] }
def k7m4 : Method := { name := "<init>", desc := "([CIILjava/lang/Void;)V", sig := { parameters := [(.array .char), .int, .int, (.object "java/lang/Void")], returnType := none }, accessFlags := 2, code := some k7c4 }
def k7c5 : Code := { maxStack := 1, maxLocals := 1, code := jdk_42_method_152_code, exceptionTable := #[], attributes := #[] }
def k7m5 : Method := { name := "coder", desc := "()B", sig := { parameters := [], returnType := some .byte }, accessFlags := 0, code := some k7c5 }
def k7c6 : Code := { maxStack := 1, maxLocals := 1, code := jdk_42_method_154_code, exceptionTable := #[], attributes := #[] }
def k7m6 : Method := { name := "isLatin1", desc := "()Z", sig := { parameters := [], returnType := some .boolean }, accessFlags := 0, code := some k7c6 }
def k7c7 : Code := { maxStack := 3, maxLocals := 2, code := jdk_42_method_155_code, exceptionTable := #[], attributes := #[] }
def k7m7 : Method := { name := "checkIndex", desc := "(II)V", sig := { parameters := [.int, .int], returnType := none }, accessFlags := 8, code := some k7c7 }
/-- java/lang/String -/
def k7 : Class := { plain "java/lang/String" (some 0) with
  accessFlags := 49
  interfaces := #[2, 3, 4, 5, 6]
  cf := some (fileOf pool7 10 #[.nestMembers #[1103]] #[{ accessFlags := 1, nameIndex := 5, descriptorIndex := 6, attributes := #[] }, { accessFlags := 1, nameIndex := 5, descriptorIndex := 1010, attributes := #[] }, { accessFlags := 1, nameIndex := 507, descriptorIndex := 334, attributes := #[] }, { accessFlags := 1, nameIndex := 497, descriptorIndex := 427, attributes := #[] }, { accessFlags := 2, nameIndex := 5, descriptorIndex := 29, attributes := #[] }, { accessFlags := 0, nameIndex := 17, descriptorIndex := 337, attributes := #[] }, { accessFlags := 0, nameIndex := 494, descriptorIndex := 142, attributes := #[] }, { accessFlags := 8, nameIndex := 501, descriptorIndex := 391, attributes := #[] }] 49 2 #[1106, 1108, 575, 1110, 1112] #[{ accessFlags := 18, nameIndex := 13, descriptorIndex := 14, attributes := #[] }, { accessFlags := 18, nameIndex := 17, descriptorIndex := 18, attributes := #[] }, { accessFlags := 2, nameIndex := 21, descriptorIndex := 22, attributes := #[] }, { accessFlags := 2, nameIndex := 25, descriptorIndex := 26, attributes := #[] }, { accessFlags := 26, nameIndex := 1116, descriptorIndex := 1117, attributes := #[] }, { accessFlags := 24, nameIndex := 40, descriptorIndex := 26, attributes := #[] }, { accessFlags := 26, nameIndex := 1101, descriptorIndex := 1102, attributes := #[] }, { accessFlags := 26, nameIndex := 1121, descriptorIndex := 1122, attributes := #[] }, { accessFlags := 25, nameIndex := 599, descriptorIndex := 600, attributes := #[] }, { accessFlags := 24, nameIndex := 1125, descriptorIndex := 18, attributes := #[] }, { accessFlags := 24, nameIndex := 1127, descriptorIndex := 18, attributes := #[] }])
  fields := #[{ name := "value", type := (.array .byte), accessFlags := 18, slot := 0, constantValue := 0 }, { name := "coder", type := .byte, accessFlags := 18, slot := 1, constantValue := 0 }, { name := "hash", type := .int, accessFlags := 2, slot := 2, constantValue := 0 }, { name := "hashIsZero", type := .boolean, accessFlags := 2, slot := 3, constantValue := 0 }, { name := "serialVersionUID", type := .long, accessFlags := 26, slot := 0, constantValue := 0 }, { name := "COMPACT_STRINGS", type := .boolean, accessFlags := 24, slot := 1, constantValue := 0 }, { name := "serialPersistentFields", type := (.array (.object "java/io/ObjectStreamField")), accessFlags := 26, slot := 2, constantValue := 0 }, { name := "REPL", type := .char, accessFlags := 26, slot := 3, constantValue := 0 }, { name := "CASE_INSENSITIVE_ORDER", type := (.object "java/util/Comparator"), accessFlags := 25, slot := 4, constantValue := 0 }, { name := "LATIN1", type := .byte, accessFlags := 24, slot := 5, constantValue := 0 }, { name := "UTF16", type := .byte, accessFlags := 24, slot := 6, constantValue := 0 }]
  methods := #[k7m0, k7m1, k7m2, k7m3, k7m4, k7m5, k7m6, k7m7]
  instanceTypes := #[(.array .byte), .byte, .int, .boolean]
  staticTypes := #[.long, .boolean, (.array (.object "java/io/ObjectStreamField")), .char, (.object "java/util/Comparator"), .byte, .byte]
  resolved := Array.replicate 1451 none
  statics := some 0 }

def pool8 : Array CpInfo := pool [(2, .class_ 4), (1, u "java/lang/Object"), (0, u "<init>"), (0, u "()V"), (0, .methodref 8 9), (0, .class_ 10), (0, .nameAndType 11 12), (0, u "java/lang/String"), (0, u "length"), (0, u "()I"), (0, .methodref 8 14), (0, .nameAndType 15 16), (0, u "charAt"), (0, u "(I)C"), (0, .class_ 18), (0, u "com/example/grantline/grantline/authz/Unreserved"), (2, u "matches"), (0, u "(Ljava/lang/String;)Z")] 3

def k8m0 : Method := { name := "<init>", desc := "()V", sig := { parameters := [], returnType := none }, accessFlags := 2, code := none }
def k8c1 : Code := { maxStack := 2, maxLocals := 4, code := prog_88_method_2_code, exceptionTable := #[], attributes := #[] }
def k8m1 : Method := { name := "matches", desc := "(Ljava/lang/String;)Z", sig := { parameters := [(.object "java/lang/String")], returnType := some .boolean }, accessFlags := 8, code := some k8c1 }
/-- com/example/grantline/grantline/authz/Unreserved -/
def k8 : Class := { plain "com/example/grantline/grantline/authz/Unreserved" (some 0) with
  accessFlags := 48
  interfaces := #[]
  cf := some (fileOf pool8 17 #[] #[{ accessFlags := 2, nameIndex := 5, descriptorIndex := 6, attributes := #[] }, { accessFlags := 8, nameIndex := 21, descriptorIndex := 22, attributes := #[] }] 48 2 #[] #[])
  fields := #[]
  methods := #[k8m0, k8m1]
  instanceTypes := #[]
  staticTypes := #[]
  resolved := Array.replicate 26 none
  statics := none }

def pool9 : Array CpInfo := pool [(3, .class_ 4), (0, u "java/lang/String"), (1, .class_ 8), (1, u "java/lang/Object"), (0, u "<init>"), (0, u "()V"), (0, .methodref 12 13), (0, .class_ 14), (0, .nameAndType 15 16), (0, u "java/lang/StringUTF16"), (0, u "newBytesLength"), (0, u "(I)I"), (3, .integer 1073741823), (23, .fieldref 12 45), (0, .nameAndType 46 47), (0, u "$assertionsDisabled"), (0, u "Z"), (0, .methodref 12 49), (0, .nameAndType 50 51), (0, u "length"), (0, u "([B)I"), (7, .fieldref 12 60), (0, .nameAndType 61 62), (0, u "HI_BYTE_SHIFT"), (0, u "I"), (0, .fieldref 12 64), (0, .nameAndType 65 62), (0, u "LO_BYTE_SHIFT"), (1, .methodref 12 68), (0, .nameAndType 69 70), (0, u "checkIndex"), (0, u "(I[B)V"), (0, .methodref 12 72), (0, .nameAndType 73 74), (0, u "getChar"), (0, u "([BI)C"), (32, .methodref 12 108), (0, .nameAndType 109 110), (0, u "newBytesFor"), (0, u "(I)[B"), (0, .methodref 12 112), (0, .nameAndType 113 114), (0, u "putChar"), (0, u "([BII)V"), (0, .methodref 12 116), (0, .nameAndType 117 118), (0, u "compress"), (0, u "([CI[BII)I"), (0, .methodref 12 120), (0, .nameAndType 121 122), (0, u "toBytes"), (0, u "([CII)[B"), (138, u "coderFromArrayLen"), (0, u "([BI)B"), (106, .class_ 371), (1, u "java/lang/StringUTF16$LinesSpliterator"), (20, u "charAt"), (21, .methodref 3 415), (0, .nameAndType 69 416), (0, u "(II)V"), (13, u "MAX_LENGTH"), (196, .class_ 628), (0, u "java/lang/StringUTF16$CodePointsSpliterator"), (0, .class_ 630), (0, u "java/lang/StringUTF16$CharsSpliterator")] 4

def k9m0 : Method := { name := "<init>", desc := "()V", sig := { parameters := [], returnType := none }, accessFlags := 0, code := none }
def k9c1 : Code := { maxStack := 1, maxLocals := 1, code := jdk_52_method_2_code, exceptionTable := #[], attributes := #[] }
def k9m1 : Method := { name := "newBytesFor", desc := "(I)[B", sig := { parameters := [.int], returnType := some (.array .byte) }, accessFlags := 9, code := some k9c1 }
def k9c2 : Code := { maxStack := 4, maxLocals := 1, code := jdk_52_method_3_code, exceptionTable := #[], attributes := #[] }
def k9m2 : Method := { name := "newBytesLength", desc := "(I)I", sig := { parameters := [.int], returnType := some .int }, accessFlags := 9, code := some k9c2 }
def k9c3 : Code := { maxStack := 4, maxLocals := 3, code := jdk_52_method_4_code, exceptionTable := #[], attributes := #[] }
def k9m3 : Method := { name := "putChar", desc := "([BII)V", sig := { parameters := [(.array .byte), .int, .int], returnType := none }, accessFlags := 8, code := some k9c3 }
def k9c4 : Code := { maxStack := 3, maxLocals := 2, code := jdk_52_method_5_code, exceptionTable := #[], attributes := #[] }
def k9m4 : Method := { name := "getChar", desc := "([BI)C", sig := { parameters := [(.array .byte), .int], returnType := some .char }, accessFlags := 8, code := some k9c4 }
def k9c5 : Code := { maxStack := 2, maxLocals := 1, code := jdk_52_method_6_code, exceptionTable := #[], attributes := #[] }
def k9m5 : Method := { name := "length", desc := "([B)I", sig := { parameters := [(.array .byte)], returnType := some .int }, accessFlags := 9, code := some k9c5 }
def k9c6 : Code := { maxStack := 4, maxLocals := 5, code := jdk_52_method_14_code, exceptionTable := #[], attributes := #[] }
def k9m6 : Method := { name := "toBytes", desc := "([CII)[B", sig := { parameters := [(.array .char), .int, .int], returnType := some (.array .byte) }, accessFlags := 9, code := some k9c6 }
def k9c7 : Code := { maxStack := 2, maxLocals := 2, code := jdk_52_method_15_code, exceptionTable := #[], attributes := #[] }
def k9m7 : Method := { name := "coderFromArrayLen", desc := "([BI)B", sig := { parameters := [(.array .byte), .int], returnType := some .byte }, accessFlags := 8, code := some k9c7 }
def k9c8 : Code := { maxStack := 5, maxLocals := 6, code := jdk_52_method_16_code, exceptionTable := #[], attributes := #[] }
def k9m8 : Method := { name := "compress", desc := "([CII)[B", sig := { parameters := [(.array .char), .int, .int], returnType := some (.array .byte) }, accessFlags := 9, code := some k9c8 }
def k9c9 : Code := { maxStack := 3, maxLocals := 7, code := jdk_52_method_21_code, exceptionTable := #[], attributes := #[] }
def k9m9 : Method := { name := "compress", desc := "([CI[BII)I", sig := { parameters := [(.array .char), .int, (.array .byte), .int, .int], returnType := some .int }, accessFlags := 9, code := some k9c9 }
def k9c10 : Code := { maxStack := 2, maxLocals := 2, code := jdk_52_method_83_code, exceptionTable := #[], attributes := #[] }
def k9m10 : Method := { name := "charAt", desc := "([BI)C", sig := { parameters := [(.array .byte), .int], returnType := some .char }, accessFlags := 9, code := some k9c10 }
def k9c11 : Code := { maxStack := 2, maxLocals := 2, code := jdk_52_method_91_code, exceptionTable := #[], attributes := #[] }
def k9m11 : Method := { name := "checkIndex", desc := "(I[B)V", sig := { parameters := [.int, (.array .byte)], returnType := none }, accessFlags := 9, code := some k9c11 }
/-- java/lang/StringUTF16 -/
def k9 : Class := { plain "java/lang/StringUTF16" (some 0) with
  accessFlags := 48
  interfaces := #[]
  cf := some (fileOf pool9 12 #[.nestMembers #[627, 629, 369]] #[{ accessFlags := 0, nameIndex := 9, descriptorIndex := 10, attributes := #[] }, { accessFlags := 9, nameIndex := 109, descriptorIndex := 110, attributes := #[] }, { accessFlags := 9, nameIndex := 15, descriptorIndex := 16, attributes := #[] }, { accessFlags := 8, nameIndex := 113, descriptorIndex := 114, attributes := #[] }, { accessFlags := 8, nameIndex := 73, descriptorIndex := 74, attributes := #[] }, { accessFlags := 9, nameIndex := 50, descriptorIndex := 51, attributes := #[] }, { accessFlags := 9, nameIndex := 121, descriptorIndex := 122, attributes := #[] }, { accessFlags := 8, nameIndex := 261, descriptorIndex := 262, attributes := #[] }, { accessFlags := 9, nameIndex := 117, descriptorIndex := 122, attributes := #[] }, { accessFlags := 9, nameIndex := 117, descriptorIndex := 118, attributes := #[] }, { accessFlags := 9, nameIndex := 392, descriptorIndex := 74, attributes := #[] }, { accessFlags := 9, nameIndex := 69, descriptorIndex := 70, attributes := #[] }] 48 6 #[] #[{ accessFlags := 26, nameIndex := 61, descriptorIndex := 62, attributes := #[] }, { accessFlags := 26, nameIndex := 65, descriptorIndex := 62, attributes := #[] }, { accessFlags := 24, nameIndex := 430, descriptorIndex := 62, attributes := #[] }, { accessFlags := 4120, nameIndex := 46, descriptorIndex := 47, attributes := #[] }])
  fields := #[{ name := "HI_BYTE_SHIFT", type := .int, accessFlags := 26, slot := 0, constantValue := 0 }, { name := "LO_BYTE_SHIFT", type := .int, accessFlags := 26, slot := 1, constantValue := 0 }, { name := "MAX_LENGTH", type := .int, accessFlags := 24, slot := 2, constantValue := 0 }, { name := "$assertionsDisabled", type := .boolean, accessFlags := 4120, slot := 3, constantValue := 0 }]
  methods := #[k9m0, k9m1, k9m2, k9m3, k9m4, k9m5, k9m6, k9m7, k9m8, k9m9, k9m10, k9m11]
  instanceTypes := #[]
  staticTypes := #[.int, .int, .int, .boolean]
  resolved := Array.replicate 635 none
  statics := some 1 }

def pool10 : Array CpInfo := pool [(1, .class_ 2), (0, u "java/lang/String"), (1, .class_ 6), (1, u "java/lang/Object"), (0, u "<init>"), (0, u "()V"), (0, .methodref 1 10), (0, .nameAndType 11 12), (0, u "checkIndex"), (0, u "(II)V"), (1, .class_ 16), (1, u "java/lang/StringLatin1"), (36, u "([BI)C"), (67, u "$assertionsDisabled"), (0, u "Z"), (98, .class_ 223), (1, u "java/lang/StringLatin1$LinesSpliterator"), (28, u "charAt"), (137, .class_ 391), (0, u "java/lang/StringLatin1$CharsSpliterator")] 3

def k10m0 : Method := { name := "<init>", desc := "()V", sig := { parameters := [], returnType := none }, accessFlags := 0, code := none }
def k10c1 : Code := { maxStack := 2, maxLocals := 2, code := jdk_43_method_2_code, exceptionTable := #[], attributes := #[] }
def k10m1 : Method := { name := "charAt", desc := "([BI)C", sig := { parameters := [(.array .byte), .int], returnType := some .char }, accessFlags := 9, code := some k10c1 }
/-- java/lang/StringLatin1 -/
def k10 : Class := { plain "java/lang/StringLatin1" (some 0) with
  accessFlags := 48
  interfaces := #[]
  cf := some (fileOf pool10 14 #[.nestMembers #[390, 221]] #[{ accessFlags := 0, nameIndex := 7, descriptorIndex := 8, attributes := #[] }, { accessFlags := 9, nameIndex := 252, descriptorIndex := 53, attributes := #[] }] 48 4 #[] #[{ accessFlags := 4120, nameIndex := 121, descriptorIndex := 122, attributes := #[] }])
  fields := #[{ name := "$assertionsDisabled", type := .boolean, accessFlags := 4120, slot := 0, constantValue := 0 }]
  methods := #[k10m0, k10m1]
  instanceTypes := #[]
  staticTypes := #[.boolean]
  resolved := Array.replicate 395 none
  statics := none }

def pool11 : Array CpInfo := pool [(2, .class_ 4), (1, u "java/lang/Object"), (0, u "<init>"), (0, u "()V"), (17, .class_ 26), (1, u "jdk/internal/util/Preconditions"), (6, u "checkIndex"), (21, .class_ 56), (0, u "jdk/internal/util/Preconditions$4"), (57, .class_ 115), (0, u "jdk/internal/util/Preconditions$1"), (7, u "SIOOBE_FORMATTER"), (0, u "Ljava/util/function/BiFunction;"), (0, .class_ 126), (0, u "jdk/internal/util/Preconditions$2"), (3, u "AIOOBE_FORMATTER"), (0, .class_ 132), (0, u "jdk/internal/util/Preconditions$3"), (3, u "IOOBE_FORMATTER"), (41, u "(IILjava/util/function/BiFunction;)I")] 15

def k11m0 : Method := { name := "<init>", desc := "()V", sig := { parameters := [], returnType := none }, accessFlags := 1, code := none }
def k11c1 : Code := { maxStack := 3, maxLocals := 3, code := jdk_41_method_11_code, exceptionTable := #[], attributes := #[] }
def k11m1 : Method := { name := "checkIndex", desc := "(IILjava/util/function/BiFunction;)I", sig := { parameters := [.int, .int, (.object "java/util/function/BiFunction")], returnType := some .int }, accessFlags := 9, code := some k11c1 }
/-- jdk/internal/util/Preconditions -/
def k11 : Class := { plain "jdk/internal/util/Preconditions" (some 0) with
  accessFlags := 33
  interfaces := #[]
  cf := some (fileOf pool11 24 #[.nestMembers #[55, 131, 125, 114]] #[{ accessFlags := 1, nameIndex := 5, descriptorIndex := 6, attributes := #[] }, { accessFlags := 9, nameIndex := 33, descriptorIndex := 178, attributes := #[] }] 33 2 #[] #[{ accessFlags := 25, nameIndex := 123, descriptorIndex := 124, attributes := #[] }, { accessFlags := 25, nameIndex := 130, descriptorIndex := 124, attributes := #[] }, { accessFlags := 25, nameIndex := 136, descriptorIndex := 124, attributes := #[] }])
  fields := #[{ name := "SIOOBE_FORMATTER", type := (.object "java/util/function/BiFunction"), accessFlags := 25, slot := 0, constantValue := 0 }, { name := "AIOOBE_FORMATTER", type := (.object "java/util/function/BiFunction"), accessFlags := 25, slot := 1, constantValue := 0 }, { name := "IOOBE_FORMATTER", type := (.object "java/util/function/BiFunction"), accessFlags := 25, slot := 2, constantValue := 0 }]
  methods := #[k11m0, k11m1]
  instanceTypes := #[]
  staticTypes := #[(.object "java/util/function/BiFunction"), (.object "java/util/function/BiFunction"), (.object "java/util/function/BiFunction")]
  resolved := Array.replicate 194 none
  statics := some 2 }

def pool12 : Array CpInfo := pool [(9, u "<init>"), (6, .class_ 18), (1, u "java/lang/Object"), (0, u "()V"), (1, .class_ 23), (1, u "jdk/internal/util/ArraysSupport"), (0, u "LOG2_ARRAY_LONG_INDEX_SCALE"), (0, u "I"), (2, u "U"), (0, u "Ljdk/internal/misc/Unsafe;"), (8, u "BIG_ENDIAN"), (0, u "Z"), (8, u "LOG2_BYTE_BIT_SIZE"), (4, u "LOG2_ARRAY_INT_INDEX_SCALE"), (54, u "JLA"), (0, u "Ljdk/internal/access/JavaLangAccess;"), (11, u "LOG2_ARRAY_BOOLEAN_INDEX_SCALE"), (9, u "LOG2_ARRAY_BYTE_INDEX_SCALE"), (5, u "LOG2_ARRAY_CHAR_INDEX_SCALE"), (5, u "LOG2_ARRAY_SHORT_INDEX_SCALE"), (18, u "LOG2_ARRAY_FLOAT_INDEX_SCALE"), (24, u "LOG2_ARRAY_DOUBLE_INDEX_SCALE"), (89, u "T_BOOLEAN"), (2, u "T_CHAR"), (1, u "T_FLOAT"), (1, u "T_DOUBLE"), (1, u "T_BYTE"), (1, u "T_SHORT"), (1, u "T_INT"), (1, u "T_LONG"), (1, u "SOFT_MAX_ARRAY_LENGTH")] 83

def k12m0 : Method := { name := "<init>", desc := "()V", sig := { parameters := [], returnType := none }, accessFlags := 2, code := none }
/-- jdk/internal/util/ArraysSupport -/
def k12 : Class := { plain "jdk/internal/util/ArraysSupport" (some 0) with
  accessFlags := 33
  interfaces := #[]
  cf := some (fileOf pool12 21 #[] #[{ accessFlags := 2, nameIndex := 9, descriptorIndex := 19, attributes := #[] }] 33 16 #[] #[{ accessFlags := 24, nameIndex := 28, descriptorIndex := 29, attributes := #[] }, { accessFlags := 26, nameIndex := 38, descriptorIndex := 39, attributes := #[] }, { accessFlags := 25, nameIndex := 121, descriptorIndex := 25, attributes := #[] }, { accessFlags := 25, nameIndex := 131, descriptorIndex := 25, attributes := #[] }, { accessFlags := 25, nameIndex := 137, descriptorIndex := 25, attributes := #[] }, { accessFlags := 25, nameIndex := 143, descriptorIndex := 25, attributes := #[] }, { accessFlags := 25, nameIndex := 53, descriptorIndex := 25, attributes := #[] }, { accessFlags := 25, nameIndex := 24, descriptorIndex := 25, attributes := #[] }, { accessFlags := 25, nameIndex := 162, descriptorIndex := 25, attributes := #[] }, { accessFlags := 25, nameIndex := 187, descriptorIndex := 25, attributes := #[] }, { accessFlags := 26, nameIndex := 48, descriptorIndex := 25, attributes := #[] }, { accessFlags := 25, nameIndex := 277, descriptorIndex := 25, attributes := #[] }, { accessFlags := 25, nameIndex := 280, descriptorIndex := 25, attributes := #[] }, { accessFlags := 25, nameIndex := 282, descriptorIndex := 25, attributes := #[] }, { accessFlags := 25, nameIndex := 284, descriptorIndex := 25, attributes := #[] }, { accessFlags := 25, nameIndex := 286, descriptorIndex := 25, attributes := #[] }, { accessFlags := 25, nameIndex := 288, descriptorIndex := 25, attributes := #[] }, { accessFlags := 25, nameIndex := 290, descriptorIndex := 25, attributes := #[] }, { accessFlags := 25, nameIndex := 292, descriptorIndex := 25, attributes := #[] }, { accessFlags := 26, nameIndex := 108, descriptorIndex := 109, attributes := #[] }, { accessFlags := 25, nameIndex := 294, descriptorIndex := 25, attributes := #[] }])
  fields := #[{ name := "U", type := (.object "jdk/internal/misc/Unsafe"), accessFlags := 24, slot := 0, constantValue := 0 }, { name := "BIG_ENDIAN", type := .boolean, accessFlags := 26, slot := 1, constantValue := 0 }, { name := "LOG2_ARRAY_BOOLEAN_INDEX_SCALE", type := .int, accessFlags := 25, slot := 2, constantValue := 0 }, { name := "LOG2_ARRAY_BYTE_INDEX_SCALE", type := .int, accessFlags := 25, slot := 3, constantValue := 0 }, { name := "LOG2_ARRAY_CHAR_INDEX_SCALE", type := .int, accessFlags := 25, slot := 4, constantValue := 0 }, { name := "LOG2_ARRAY_SHORT_INDEX_SCALE", type := .int, accessFlags := 25, slot := 5, constantValue := 0 }, { name := "LOG2_ARRAY_INT_INDEX_SCALE", type := .int, accessFlags := 25, slot := 6, constantValue := 0 }, { name := "LOG2_ARRAY_LONG_INDEX_SCALE", type := .int, accessFlags := 25, slot := 7, constantValue := 0 }, { name := "LOG2_ARRAY_FLOAT_INDEX_SCALE", type := .int, accessFlags := 25, slot := 8, constantValue := 0 }, { name := "LOG2_ARRAY_DOUBLE_INDEX_SCALE", type := .int, accessFlags := 25, slot := 9, constantValue := 0 }, { name := "LOG2_BYTE_BIT_SIZE", type := .int, accessFlags := 26, slot := 10, constantValue := 0 }, { name := "T_BOOLEAN", type := .int, accessFlags := 25, slot := 11, constantValue := 0 }, { name := "T_CHAR", type := .int, accessFlags := 25, slot := 12, constantValue := 0 }, { name := "T_FLOAT", type := .int, accessFlags := 25, slot := 13, constantValue := 0 }, { name := "T_DOUBLE", type := .int, accessFlags := 25, slot := 14, constantValue := 0 }, { name := "T_BYTE", type := .int, accessFlags := 25, slot := 15, constantValue := 0 }, { name := "T_SHORT", type := .int, accessFlags := 25, slot := 16, constantValue := 0 }, { name := "T_INT", type := .int, accessFlags := 25, slot := 17, constantValue := 0 }, { name := "T_LONG", type := .int, accessFlags := 25, slot := 18, constantValue := 0 }, { name := "JLA", type := (.object "jdk/internal/access/JavaLangAccess"), accessFlags := 26, slot := 19, constantValue := 0 }, { name := "SOFT_MAX_ARRAY_LENGTH", type := .int, accessFlags := 25, slot := 20, constantValue := 0 }]
  methods := #[k12m0]
  instanceTypes := #[]
  staticTypes := #[(.object "jdk/internal/misc/Unsafe"), .boolean, .int, .int, .int, .int, .int, .int, .int, .int, .int, .int, .int, .int, .int, .int, .int, .int, .int, (.object "jdk/internal/access/JavaLangAccess"), .int]
  resolved := Array.replicate 378 none
  statics := none }

def pool13 : Array CpInfo := pool [(1, u "java/lang/Cloneable"), (0, .class_ 1), (0, u "java/lang/Object"), (0, .class_ 3)] 3

/-- java/lang/Cloneable -/
def k13 : Class := { plain "java/lang/Cloneable" (some 0) with
  accessFlags := 1537
  interfaces := #[]
  cf := some (fileOf pool13 2 #[] #[] 1537 4 #[] #[])
  fields := #[]
  methods := #[]
  instanceTypes := #[]
  staticTypes := #[]
  resolved := Array.replicate 8 none
  statics := none }

/-- the primitive byte -/
def k14 : Class := { plain "byte" none with kind := .primitive 'B', accessFlags := 0x411 }
/-- [B -/
def k15 : Class := { plain "[B" (some 0) with kind := .array 14 .byte, interfaces := #[13, 2], accessFlags := 1041 }

/-- the primitive char -/
def k16 : Class := { plain "char" none with kind := .primitive 'C', accessFlags := 0x411 }
/-- [C -/
def k17 : Class := { plain "[C" (some 0) with kind := .array 16 .char, interfaces := #[13, 2], accessFlags := 1041 }

/-- the primitive int -/
def k18 : Class := { plain "int" none with kind := .primitive 'I', accessFlags := 0x411 }
/-- [I -/
def k19 : Class := { plain "[I" (some 0) with kind := .array 18 .int, interfaces := #[13, 2], accessFlags := 1041 }

def heap : Heap := #[{ cls := 7, slots := #[.long 0, .int 1, .null, .int 0, .null, .int 0, .int 0], vm := .statics 7 },
  { cls := 9, slots := #[.int 0, .int 8, .int 0, .int 1], vm := .statics 9 },
  { cls := 11, slots := #[.null, .null, .null], vm := .statics 11 }]
def classes : Array Class := #[k0, k1, k2, k3, k4, k5, k6, k7, k8, k9, k10, k11, k12, k13, k14, k15, k16, k17, k18, k19]
def interned : List (Array UInt16 × Addr) := []
def slotsUsed : Nat := 14
def theMethod : MethodId := ⟨1, 3⟩
def args0 : Array Value := #[.int 5, .int 6, .int 7, .int 8, .int 4]
def aboutOver (below : List Frame) : State where
  vm := { classes := classes, interned := interned.toArray }
  heap := heap
  slotsUsed := slotsUsed
  threads := #[{ frames := .invoking theMethod args0 :: below }]
def below0 : List Frame := [.native { method := ⟨0, 0⟩, args := #[] }]
def about1 : State := aboutOver below0
def p0 : Program := .bare "" "" ""
def e0 : Env := launch0.env 0 0 0
theorem w_frames : about1.frames = Frame.invoking theMethod args0 :: below0 := rfl
set_option maxRecDepth 65536 in
theorem w_args : argsFit about1.vm theMethod args0 = true := by decide +kernel
set_option maxRecDepth 65536 in
theorem w_heap : heapFits about1 = true := by decide +kernel
set_option maxRecDepth 65536 in
theorem w_runnable : about1.curStatus? = some .runnable := by decide +kernel
set_option maxRecDepth 65536 in
theorem w_alone : about1.alone = true := by decide +kernel
set_option maxRecDepth 65536 in
theorem w_named : about1.methodNamed? x = some theMethod := by decide +kernel
set_option maxRecDepth 65536 in
theorem w_hears : about1.hears theMethod below0 = true := by decide +kernel
set_option maxRecDepth 65536 in
theorem w_ripe : about1.ripe theMethod args0 below0 = true := by decide +kernel
theorem w_running : about1.status = .running := rfl
set_option maxRecDepth 65536 in
theorem w_room : about1.hasRoom e0.platform room_1 = true :=
  launch0.hasRoom_least _ room_1 (by decide +kernel) (by decide +kernel) (by decide +kernel) (by decide +kernel) (by decide +kernel) (by decide +kernel)
theorem allAtoms_all (ts : List Jvm.Cond) (a : Array Jvm.Value) (st : Jvm.State) : (allAtoms ts).before a st = ts.all (fun c => c.before a st) := by
  induction ts with
  | nil => rfl
  | cons c t ih =>
    show (Jvm.Cond.and c (allAtoms t)).before a st = _
    rw [Jvm.Cond.before_and, ih, List.all_cons]
def words1 : List Jvm.Cond := Jvm.Cond.code x code maxLocals ret :: tables_1
/-- a 'code' word, met by the world's own term for the bytes: nothing is compared byte by byte -/
theorem code_word {y : MethodName} {bytes : ByteArray} {mx : Nat} {rt : Option FieldType} {a : Array Value} {s : State} {m : MethodId} {meth : Method} {c : Code} (h1 : s.methodNamed? y = some m) (h2 : s.vm.method? m = some meth) (h3 : meth.code = some c) (h4 : c.code = bytes)
    (h5 : (c.maxLocals == mx && c.exceptionTable.isEmpty && decide (c.maxStack ≤ mostOperands) && decide (meth.sig.returnType = rt) && !meth.locks && decide (parseMethodDescriptor y.desc = some meth.sig)) = true) : (Jvm.Cond.code y bytes mx rt).before a s = true := by
  simp only [Bool.and_eq_true, beq_iff_eq, Bool.not_eq_true', decide_eq_true_eq] at h5
  obtain ⟨⟨⟨⟨⟨g1, g2⟩, g3⟩, g4⟩, g5⟩, g6⟩ := h5
  simp [Cond.before, Cond.holds, Cond.value, h1, h2, h3, h4, g1, g2, g3, g4, g5, g6]
def isCode : Jvm.Cond → Bool
  | .code _ _ _ _ => true
  | _ => false
theorem all_split {L : List Jvm.Cond} {P : Jvm.Cond → Bool} (h1 : L.all (fun c => isCode c || P c) = true) (h2 : ∀ c ∈ L.filter isCode, P c = true) : L.all P = true := by
  refine List.all_eq_true.mpr fun c hc => ?_
  have h := List.all_eq_true.mp h1 c hc
  rcases Bool.eq_false_or_eq_true (isCode c) with hi | hi
  · exact h2 c (List.mem_filter.mpr ⟨hc, hi⟩)
  · simpa [hi] using h
set_option maxRecDepth 65536 in
theorem w_c0 : (Jvm.Cond.code x code maxLocals ret).before args0 about1 = true := code_word (m := ⟨1, 3⟩) (meth := k1m3) (c := k1c3) (by decide +kernel) rfl rfl rfl (by decide +kernel)
set_option maxRecDepth 65536 in
theorem w_c1 : (Jvm.Cond.code ({ cls := "com/example/grantline/grantline/authz/UnreservedMatchesPinLaw", name := "build", desc := "(ICCCC)Ljava/lang/String;" } : Jvm.MethodName) method_3_code (5 : Nat) (Option.some (Jvm.ClassFile.FieldType.object "java/lang/String"))).before args0 about1 = true := code_word (m := ⟨1, 2⟩) (meth := k1m2) (c := k1c2) (by decide +kernel) rfl rfl rfl (by decide +kernel)
set_option maxRecDepth 65536 in
theorem w_c2 : (Jvm.Cond.code ({ cls := "java/lang/String", name := "<init>", desc := "([C)V" } : Jvm.MethodName) jdk_42_method_3_code (2 : Nat) (Option.none : Option Jvm.ClassFile.FieldType)).before args0 about1 = true := code_word (m := ⟨7, 1⟩) (meth := k7m1) (c := k7c1) (by decide +kernel) rfl rfl rfl (by decide +kernel)
set_option maxRecDepth 65536 in
theorem w_c3 : (Jvm.Cond.code ({ cls := "java/lang/String", name := "<init>", desc := "([CIILjava/lang/Void;)V" } : Jvm.MethodName) jdk_42_method_149_code (6 : Nat) (Option.none : Option Jvm.ClassFile.FieldType)).before args0 about1 = true := code_word (m := ⟨7, 4⟩) (meth := k7m4) (c := k7c4) (by decide +kernel) rfl rfl rfl (by decide +kernel)
set_option maxRecDepth 65536 in
theorem w_c4 : (Jvm.Cond.code ({ cls := "java/lang/Object", name := "<init>", desc := "()V" } : Jvm.MethodName) object_method_1_code (1 : Nat) (Option.none : Option Jvm.ClassFile.FieldType)).before args0 about1 = true := code_word (m := ⟨0, 0⟩) (meth := k0m0) (c := k0c0) (by decide +kernel) rfl rfl rfl (by decide +kernel)
set_option maxRecDepth 65536 in
theorem w_c5 : (Jvm.Cond.code ({ cls := "com/example/grantline/grantline/authz/Unreserved", name := "matches", desc := "(Ljava/lang/String;)Z" } : Jvm.MethodName) prog_88_method_2_code (4 : Nat) (Option.some Jvm.ClassFile.FieldType.boolean)).before args0 about1 = true := code_word (m := ⟨8, 1⟩) (meth := k8m1) (c := k8c1) (by decide +kernel) rfl rfl rfl (by decide +kernel)
set_option maxRecDepth 65536 in
theorem w_c6 : (Jvm.Cond.code ({ cls := "java/lang/String", name := "length", desc := "()I" } : Jvm.MethodName) jdk_42_method_54_code (1 : Nat) (Option.some Jvm.ClassFile.FieldType.int)).before args0 about1 = true := code_word (m := ⟨7, 2⟩) (meth := k7m2) (c := k7c2) (by decide +kernel) rfl rfl rfl (by decide +kernel)
set_option maxRecDepth 65536 in
theorem w_c7 : (Jvm.Cond.code ({ cls := "java/lang/String", name := "coder", desc := "()B" } : Jvm.MethodName) jdk_42_method_152_code (1 : Nat) (Option.some Jvm.ClassFile.FieldType.byte)).before args0 about1 = true := code_word (m := ⟨7, 5⟩) (meth := k7m5) (c := k7c5) (by decide +kernel) rfl rfl rfl (by decide +kernel)
set_option maxRecDepth 65536 in
theorem w_c8 : (Jvm.Cond.code ({ cls := "java/lang/StringUTF16", name := "compress", desc := "([CII)[B" } : Jvm.MethodName) jdk_52_method_16_code (6 : Nat) (Option.some (Jvm.ClassFile.FieldType.array Jvm.ClassFile.FieldType.byte))).before args0 about1 = true := code_word (m := ⟨9, 8⟩) (meth := k9m8) (c := k9c8) (by decide +kernel) rfl rfl rfl (by decide +kernel)
set_option maxRecDepth 65536 in
theorem w_c9 : (Jvm.Cond.code ({ cls := "java/lang/StringUTF16", name := "compress", desc := "([CI[BII)I" } : Jvm.MethodName) jdk_52_method_21_code (7 : Nat) (Option.some Jvm.ClassFile.FieldType.int)).before args0 about1 = true := code_word (m := ⟨9, 9⟩) (meth := k9m9) (c := k9c9) (by decide +kernel) rfl rfl rfl (by decide +kernel)
set_option maxRecDepth 65536 in
theorem w_c10 : (Jvm.Cond.code ({ cls := "java/lang/StringUTF16", name := "coderFromArrayLen", desc := "([BI)B" } : Jvm.MethodName) jdk_52_method_15_code (2 : Nat) (Option.some Jvm.ClassFile.FieldType.byte)).before args0 about1 = true := code_word (m := ⟨9, 7⟩) (meth := k9m7) (c := k9c7) (by decide +kernel) rfl rfl rfl (by decide +kernel)
set_option maxRecDepth 65536 in
theorem w_c11 : (Jvm.Cond.code ({ cls := "com/example/grantline/grantline/authz/UnreservedMatchesPinLaw", name := "ok", desc := "(C)Z" } : Jvm.MethodName) method_2_code (2 : Nat) (Option.some Jvm.ClassFile.FieldType.boolean)).before args0 about1 = true := code_word (m := ⟨1, 1⟩) (meth := k1m1) (c := k1c1) (by decide +kernel) rfl rfl rfl (by decide +kernel)
set_option maxRecDepth 65536 in
theorem w_c12 : (Jvm.Cond.code ({ cls := "java/lang/String", name := "charAt", desc := "(I)C" } : Jvm.MethodName) jdk_42_method_56_code (2 : Nat) (Option.some Jvm.ClassFile.FieldType.char)).before args0 about1 = true := code_word (m := ⟨7, 3⟩) (meth := k7m3) (c := k7c3) (by decide +kernel) rfl rfl rfl (by decide +kernel)
set_option maxRecDepth 65536 in
theorem w_c13 : (Jvm.Cond.code ({ cls := "java/lang/String", name := "isLatin1", desc := "()Z" } : Jvm.MethodName) jdk_42_method_154_code (1 : Nat) (Option.some Jvm.ClassFile.FieldType.boolean)).before args0 about1 = true := code_word (m := ⟨7, 6⟩) (meth := k7m6) (c := k7c6) (by decide +kernel) rfl rfl rfl (by decide +kernel)
set_option maxRecDepth 65536 in
theorem w_c14 : (Jvm.Cond.code ({ cls := "java/lang/StringLatin1", name := "charAt", desc := "([BI)C" } : Jvm.MethodName) jdk_43_method_2_code (2 : Nat) (Option.some Jvm.ClassFile.FieldType.char)).before args0 about1 = true := code_word (m := ⟨10, 1⟩) (meth := k10m1) (c := k10c1) (by decide +kernel) rfl rfl rfl (by decide +kernel)
set_option maxRecDepth 65536 in
theorem w_c15 : (Jvm.Cond.code ({ cls := "java/lang/String", name := "checkIndex", desc := "(II)V" } : Jvm.MethodName) jdk_42_method_155_code (2 : Nat) (Option.none : Option Jvm.ClassFile.FieldType)).before args0 about1 = true := code_word (m := ⟨7, 7⟩) (meth := k7m7) (c := k7c7) (by decide +kernel) rfl rfl rfl (by decide +kernel)
set_option maxRecDepth 65536 in
theorem w_c16 : (Jvm.Cond.code ({ cls := "jdk/internal/util/Preconditions", name := "checkIndex", desc := "(IILjava/util/function/BiFunction;)I" } : Jvm.MethodName) jdk_41_method_11_code (3 : Nat) (Option.some Jvm.ClassFile.FieldType.int)).before args0 about1 = true := code_word (m := ⟨11, 1⟩) (meth := k11m1) (c := k11c1) (by decide +kernel) rfl rfl rfl (by decide +kernel)
set_option maxRecDepth 65536 in
theorem w_c17 : (Jvm.Cond.code ({ cls := "java/lang/StringUTF16", name := "toBytes", desc := "([CII)[B" } : Jvm.MethodName) jdk_52_method_14_code (5 : Nat) (Option.some (Jvm.ClassFile.FieldType.array Jvm.ClassFile.FieldType.byte))).before args0 about1 = true := code_word (m := ⟨9, 6⟩) (meth := k9m6) (c := k9c6) (by decide +kernel) rfl rfl rfl (by decide +kernel)
set_option maxRecDepth 65536 in
theorem w_c18 : (Jvm.Cond.code ({ cls := "java/lang/StringUTF16", name := "newBytesFor", desc := "(I)[B" } : Jvm.MethodName) jdk_52_method_2_code (1 : Nat) (Option.some (Jvm.ClassFile.FieldType.array Jvm.ClassFile.FieldType.byte))).before args0 about1 = true := code_word (m := ⟨9, 1⟩) (meth := k9m1) (c := k9c1) (by decide +kernel) rfl rfl rfl (by decide +kernel)
set_option maxRecDepth 65536 in
theorem w_c19 : (Jvm.Cond.code ({ cls := "java/lang/StringUTF16", name := "newBytesLength", desc := "(I)I" } : Jvm.MethodName) jdk_52_method_3_code (1 : Nat) (Option.some Jvm.ClassFile.FieldType.int)).before args0 about1 = true := code_word (m := ⟨9, 2⟩) (meth := k9m2) (c := k9c2) (by decide +kernel) rfl rfl rfl (by decide +kernel)
set_option maxRecDepth 65536 in
theorem w_c20 : (Jvm.Cond.code ({ cls := "java/lang/StringUTF16", name := "putChar", desc := "([BII)V" } : Jvm.MethodName) jdk_52_method_4_code (3 : Nat) (Option.none : Option Jvm.ClassFile.FieldType)).before args0 about1 = true := code_word (m := ⟨9, 3⟩) (meth := k9m3) (c := k9c3) (by decide +kernel) rfl rfl rfl (by decide +kernel)
set_option maxRecDepth 65536 in
theorem w_c21 : (Jvm.Cond.code ({ cls := "java/lang/StringUTF16", name := "getChar", desc := "([BI)C" } : Jvm.MethodName) jdk_52_method_5_code (2 : Nat) (Option.some Jvm.ClassFile.FieldType.char)).before args0 about1 = true := code_word (m := ⟨9, 4⟩) (meth := k9m4) (c := k9c4) (by decide +kernel) rfl rfl rfl (by decide +kernel)
set_option maxRecDepth 65536 in
theorem w_c22 : (Jvm.Cond.code ({ cls := "java/lang/StringUTF16", name := "charAt", desc := "([BI)C" } : Jvm.MethodName) jdk_52_method_83_code (2 : Nat) (Option.some Jvm.ClassFile.FieldType.char)).before args0 about1 = true := code_word (m := ⟨9, 10⟩) (meth := k9m10) (c := k9c10) (by decide +kernel) rfl rfl rfl (by decide +kernel)
set_option maxRecDepth 65536 in
theorem w_c23 : (Jvm.Cond.code ({ cls := "java/lang/StringUTF16", name := "checkIndex", desc := "(I[B)V" } : Jvm.MethodName) jdk_52_method_91_code (2 : Nat) (Option.none : Option Jvm.ClassFile.FieldType)).before args0 about1 = true := code_word (m := ⟨9, 11⟩) (meth := k9m11) (c := k9c11) (by decide +kernel) rfl rfl rfl (by decide +kernel)
set_option maxRecDepth 65536 in
theorem w_c24 : (Jvm.Cond.code ({ cls := "java/lang/StringUTF16", name := "length", desc := "([B)I" } : Jvm.MethodName) jdk_52_method_6_code (1 : Nat) (Option.some Jvm.ClassFile.FieldType.int)).before args0 about1 = true := code_word (m := ⟨9, 5⟩) (meth := k9m5) (c := k9c5) (by decide +kernel) rfl rfl rfl (by decide +kernel)
def codes1 : List Jvm.Cond := [Jvm.Cond.code x code maxLocals ret, Jvm.Cond.code ({ cls := "com/example/grantline/grantline/authz/UnreservedMatchesPinLaw", name := "build", desc := "(ICCCC)Ljava/lang/String;" } : Jvm.MethodName) method_3_code (5 : Nat) (Option.some (Jvm.ClassFile.FieldType.object "java/lang/String")), Jvm.Cond.code ({ cls := "java/lang/String", name := "<init>", desc := "([C)V" } : Jvm.MethodName) jdk_42_method_3_code (2 : Nat) (Option.none : Option Jvm.ClassFile.FieldType), Jvm.Cond.code ({ cls := "java/lang/String", name := "<init>", desc := "([CIILjava/lang/Void;)V" } : Jvm.MethodName) jdk_42_method_149_code (6 : Nat) (Option.none : Option Jvm.ClassFile.FieldType), Jvm.Cond.code ({ cls := "java/lang/Object", name := "<init>", desc := "()V" } : Jvm.MethodName) object_method_1_code (1 : Nat) (Option.none : Option Jvm.ClassFile.FieldType), Jvm.Cond.code ({ cls := "com/example/grantline/grantline/authz/Unreserved", name := "matches", desc := "(Ljava/lang/String;)Z" } : Jvm.MethodName) prog_88_method_2_code (4 : Nat) (Option.some Jvm.ClassFile.FieldType.boolean), Jvm.Cond.code ({ cls := "java/lang/String", name := "length", desc := "()I" } : Jvm.MethodName) jdk_42_method_54_code (1 : Nat) (Option.some Jvm.ClassFile.FieldType.int), Jvm.Cond.code ({ cls := "java/lang/String", name := "coder", desc := "()B" } : Jvm.MethodName) jdk_42_method_152_code (1 : Nat) (Option.some Jvm.ClassFile.FieldType.byte), Jvm.Cond.code ({ cls := "java/lang/StringUTF16", name := "compress", desc := "([CII)[B" } : Jvm.MethodName) jdk_52_method_16_code (6 : Nat) (Option.some (Jvm.ClassFile.FieldType.array Jvm.ClassFile.FieldType.byte)), Jvm.Cond.code ({ cls := "java/lang/StringUTF16", name := "compress", desc := "([CI[BII)I" } : Jvm.MethodName) jdk_52_method_21_code (7 : Nat) (Option.some Jvm.ClassFile.FieldType.int), Jvm.Cond.code ({ cls := "java/lang/StringUTF16", name := "coderFromArrayLen", desc := "([BI)B" } : Jvm.MethodName) jdk_52_method_15_code (2 : Nat) (Option.some Jvm.ClassFile.FieldType.byte), Jvm.Cond.code ({ cls := "com/example/grantline/grantline/authz/UnreservedMatchesPinLaw", name := "ok", desc := "(C)Z" } : Jvm.MethodName) method_2_code (2 : Nat) (Option.some Jvm.ClassFile.FieldType.boolean), Jvm.Cond.code ({ cls := "java/lang/String", name := "charAt", desc := "(I)C" } : Jvm.MethodName) jdk_42_method_56_code (2 : Nat) (Option.some Jvm.ClassFile.FieldType.char), Jvm.Cond.code ({ cls := "java/lang/String", name := "isLatin1", desc := "()Z" } : Jvm.MethodName) jdk_42_method_154_code (1 : Nat) (Option.some Jvm.ClassFile.FieldType.boolean), Jvm.Cond.code ({ cls := "java/lang/StringLatin1", name := "charAt", desc := "([BI)C" } : Jvm.MethodName) jdk_43_method_2_code (2 : Nat) (Option.some Jvm.ClassFile.FieldType.char), Jvm.Cond.code ({ cls := "java/lang/String", name := "checkIndex", desc := "(II)V" } : Jvm.MethodName) jdk_42_method_155_code (2 : Nat) (Option.none : Option Jvm.ClassFile.FieldType), Jvm.Cond.code ({ cls := "jdk/internal/util/Preconditions", name := "checkIndex", desc := "(IILjava/util/function/BiFunction;)I" } : Jvm.MethodName) jdk_41_method_11_code (3 : Nat) (Option.some Jvm.ClassFile.FieldType.int), Jvm.Cond.code ({ cls := "java/lang/StringUTF16", name := "toBytes", desc := "([CII)[B" } : Jvm.MethodName) jdk_52_method_14_code (5 : Nat) (Option.some (Jvm.ClassFile.FieldType.array Jvm.ClassFile.FieldType.byte)), Jvm.Cond.code ({ cls := "java/lang/StringUTF16", name := "newBytesFor", desc := "(I)[B" } : Jvm.MethodName) jdk_52_method_2_code (1 : Nat) (Option.some (Jvm.ClassFile.FieldType.array Jvm.ClassFile.FieldType.byte)), Jvm.Cond.code ({ cls := "java/lang/StringUTF16", name := "newBytesLength", desc := "(I)I" } : Jvm.MethodName) jdk_52_method_3_code (1 : Nat) (Option.some Jvm.ClassFile.FieldType.int), Jvm.Cond.code ({ cls := "java/lang/StringUTF16", name := "putChar", desc := "([BII)V" } : Jvm.MethodName) jdk_52_method_4_code (3 : Nat) (Option.none : Option Jvm.ClassFile.FieldType), Jvm.Cond.code ({ cls := "java/lang/StringUTF16", name := "getChar", desc := "([BI)C" } : Jvm.MethodName) jdk_52_method_5_code (2 : Nat) (Option.some Jvm.ClassFile.FieldType.char), Jvm.Cond.code ({ cls := "java/lang/StringUTF16", name := "charAt", desc := "([BI)C" } : Jvm.MethodName) jdk_52_method_83_code (2 : Nat) (Option.some Jvm.ClassFile.FieldType.char), Jvm.Cond.code ({ cls := "java/lang/StringUTF16", name := "checkIndex", desc := "(I[B)V" } : Jvm.MethodName) jdk_52_method_91_code (2 : Nat) (Option.none : Option Jvm.ClassFile.FieldType), Jvm.Cond.code ({ cls := "java/lang/StringUTF16", name := "length", desc := "([B)I" } : Jvm.MethodName) jdk_52_method_6_code (1 : Nat) (Option.some Jvm.ClassFile.FieldType.int)]
set_option maxRecDepth 65536 in
theorem codes_eq : words1.filter isCode = codes1 := rfl
theorem w_codes : ∀ c ∈ words1.filter isCode, c.before args0 about1 = true := by
  rw [codes_eq]
  intro c hc
  simp only [codes1, List.mem_cons, List.not_mem_nil, or_false] at hc
  rcases hc with rfl | rfl | rfl | rfl | rfl | rfl | rfl | rfl | rfl | rfl | rfl | rfl | rfl | rfl | rfl | rfl | rfl | rfl | rfl | rfl | rfl | rfl | rfl | rfl | rfl
  · exact w_c0
  · exact w_c1
  · exact w_c2
  · exact w_c3
  · exact w_c4
  · exact w_c5
  · exact w_c6
  · exact w_c7
  · exact w_c8
  · exact w_c9
  · exact w_c10
  · exact w_c11
  · exact w_c12
  · exact w_c13
  · exact w_c14
  · exact w_c15
  · exact w_c16
  · exact w_c17
  · exact w_c18
  · exact w_c19
  · exact w_c20
  · exact w_c21
  · exact w_c22
  · exact w_c23
  · exact w_c24
set_option maxRecDepth 65536 in
theorem w_t1 : (words1.take 24).all (fun c => isCode c || c.before args0 about1) = true := by decide +kernel
set_option maxRecDepth 65536 in
theorem w_t2 : ((words1.drop 24).take 24).all (fun c => isCode c || c.before args0 about1) = true := by decide +kernel
set_option maxRecDepth 65536 in
theorem w_t3 : (((words1.drop 24).drop 24).take 24).all (fun c => isCode c || c.before args0 about1) = true := by decide +kernel
set_option maxRecDepth 65536 in
theorem w_t4 : ((((words1.drop 24).drop 24).drop 24).take 24).all (fun c => isCode c || c.before args0 about1) = true := by decide +kernel
set_option maxRecDepth 65536 in
theorem w_t5 : ((((words1.drop 24).drop 24).drop 24).drop 24).all (fun c => isCode c || c.before args0 about1) = true := by decide +kernel
theorem w_tables : (allAtoms (Jvm.Cond.code x code maxLocals ret :: tables_1)).before args0 about1 = true := by
  rw [allAtoms_all]
  show words1.all (fun c => c.before args0 about1) = true
  refine all_split ?_ w_codes
  rw [← List.take_append_drop 24 words1, List.all_append, w_t1, ← List.take_append_drop 24 (words1.drop 24), List.all_append, w_t2, ← List.take_append_drop 24 ((words1.drop 24).drop 24), List.all_append, w_t3, ← List.take_append_drop 24 (((words1.drop 24).drop 24).drop 24), List.all_append, w_t4, w_t5]
  rfl
set_option maxRecDepth 65536 in
theorem w_rest : rest_1_c.before args0 about1 = true := by decide +kernel
set_option maxRecDepth 65536 in
theorem w_case : (Jvm.Cond.and given_1 narrow_1).before args0 about1 = true := by decide +kernel
set_option maxRecDepth 65536 in
theorem w_consts : constsHeld consts_1 about1 := Jvm.Lit.constsHeldB_iff.mp (by decide +kernel)
theorem w_applies : (headSpec (Jvm.Cond.code x code maxLocals ret :: tables_1) room_1).applies x e0.platform about1 = true :=
  (Spec.applies_iff w_frames).mpr ⟨w_running, w_runnable, w_alone, w_named, w_hears, w_ripe, w_room, w_tables⟩
theorem atStart : AtStart classFile x code maxLocals ret World_1 tables_1 room_1 Calls_1 rest_1 Pre_1 launch0 p0 e0 about1 theMethod args0 below0 :=
  ⟨lists_1, trivial, launch0.admits_env _ _ _, launch0.least_env, fairChoices_fair.cas, fairChoices_fair.clock, w_frames, w_args, w_heap, w_applies, ⟨w_consts, trivial⟩, w_rest, w_case⟩
end start1
theorem witness_1 : WitnessClaimed_1 := ⟨start1.p0, start1.e0, start1.about1, start1.theMethod, start1.args0, start1.below0, start1.atStart⟩
end Jvm.Pilot.@@N@@
