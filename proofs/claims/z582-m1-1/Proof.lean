import JvmDerived
import JvmDerived.Pilot.@@N@@Statement
import JvmDerived.Pilot.@@N@@Code
set_option linter.unusedVariables false
set_option linter.unusedSimpArgs false
namespace Jvm.RoadKit
open Sem ClassFile Op Lib Jvm.Stand Jvm.Free Jvm.LawKit
section New
variable {p : Program} {l : Launch} {e : Env} {R : Room} {s : State} {m : MethodId} {args : Array Value} {below : List Frame} {meth : Method} {c : Code} {T : State} {locs : List Loc} {cells slots : Nat}
theorem retI (X : Stand p l e R s m args below meth c T locs cells slots) (hx : p.tables.exec = Jvm.exec) {pc : Nat} {Ls : Array Slot} {z : Int32} {rest : List Value} (hret : meth.sig.returnType = some .int) (hd : decode c.code pc = .ok (.ireturn, 1)) {fs : List Frame}
    (hl : ∀ (f : JFrame) (acts : List Action), f.method = m → f.locked = none → f.entered = [] → (doReturn e (T.setTop f) acts (some (.int z))).1 = T.setFrames fs) : Steps p.tables e below (T.setTop (mkF m pc Ls (.int z :: rest))) (T.setFrames fs) :=
  retOut X hx hret rfl (Or.inl ⟨rfl, Or.inl rfl, z, rfl⟩) hd hl
end New
end Jvm.RoadKit
/- laws to paste: Road.backV, Road.eqW, Road.codOf (cut by pick.py; bodies as the Statement names them) -/
namespace Jvm.Pilot.@@N@@
namespace StrChars
open Jvm Sem ClassFile Op Lib Jvm.Stand Jvm.Free.XT Jvm.Free.ALB Jvm.Free.JM Jvm.Free
open Jvm.Lib.Cold (StaticIs)
/-- a char array whose places are chars -/
def Ch (a : Addr) (A : Cell) (U : State) : Prop := Arr .char a A U ∧ Typed .char A
theorem Ch.mv {a : Addr} {A : Cell} {U U' : State} (h : Ch a A U) (hal : U.vm.Alike U'.vm) (hh : U'.heap = U.heap) : Ch a A U' := ⟨h.1.mv hal hh, h.2⟩
theorem Ch.keep {a : Addr} {A : Cell} {U U' : State} (h : Ch a A U) (hal : U.vm.Alike U'.vm) (hk : U'.heap[a]? = some A) : Ch a A U' := ⟨h.1.keep hal hk, h.2⟩
/-- what place i of a char[]'s cell holds -/
def cv (A : Cell) (i : Nat) : Int32 := match A.slots[i]? with | some (.int x) => x | _ => 0
theorem Ch.get {a : Addr} {A : Cell} {U : State} (h : Ch a A U) {i : Nat} (hi : i < A.slots.size) : A.slots[i]? = some (.int (cv A i)) := by
  have e := Array.getElem?_eq_getElem hi
  have f := h.2 i _ e
  unfold cv; rw [e]
  generalize A.slots[i] = v at f
  cases v <;> simp [fits] at f ⊢
/-- the byte that i2b leaves of a char -/
def lo8 (x : Int32) : Int32 := x.toInt8.toInt32
theorem fits_lo8 (y : Int32) : fits .byte (.int (lo8 y)) = true := by
  have h1 := y.toInt8.le_toInt
  have h2 := y.toInt8.toInt_lt
  simp only [lo8, fits, Bool.and_eq_true, decide_eq_true_eq, Int32.le_iff_toInt_le, Int8.toInt_toInt32, show (-128 : Int32).toInt = -128 from by decide, show (127 : Int32).toInt = 127 from by decide]
  omega
/-- A' is A but that each place j of lo .. hi - 1 holds f j -/
def Laid (A A' : Cell) (lo hi : Nat) (f : Nat → Value) : Prop := A'.cls = A.cls ∧ A'.vm = A.vm ∧ A'.slots.size = A.slots.size ∧ ∀ i, A'.slots[i]? = if lo ≤ i ∧ i < hi then some (f i) else A.slots[i]?
theorem Laid.zero (A : Cell) (lo : Nat) (f : Nat → Value) : Laid A A lo (lo + 0) f := ⟨rfl, rfl, rfl, fun i => by rw [if_neg (by omega)]⟩
theorem Laid.step {A Ak : Cell} {lo k : Nat} {f : Nat → Value} {v : Value} (h : Laid A Ak lo k f) (hlo : lo ≤ k) (hk : k < Ak.slots.size) (hv : v = f k) : Laid A (Ak.setSlot k v) lo (k + 1) f := by
  refine ⟨h.1, h.2.1, by simpa [Cell.setSlot] using h.2.2.1, fun i => ?_⟩
  by_cases e : k = i
  · subst e; rw [Cell.slots_setSlot_self v hk, if_pos (by omega), hv]
  · rw [Cell.slots_setSlot_ne v e, h.2.2.2 i]
    by_cases q : lo ≤ i ∧ i < k
    · rw [if_pos q, if_pos (by omega)]
    · rw [if_neg q, if_neg (by omega)]
def U16 : String := "java/lang/StringUTF16"
namespace Cmp5
def yN : MethodName := ⟨"java/lang/StringUTF16", "compress", "([CI[BII)I"⟩
abbrev yB : ByteArray := jdk_52_method_21_code
theorem d0 : decode yB 0 = .ok (.iconst 0, 1) := by decide +kernel
theorem d1 : decode yB 1 = .ok (.istore 5, 2) := by decide +kernel
theorem d3 : decode yB 3 = .ok (.iload 5, 2) := by decide +kernel
theorem d5 : decode yB 5 = .ok (.iload 4, 2) := by decide +kernel
theorem d7 : decode yB 7 = .ok (.if_icmp (.ge) 37, 3) := by decide +kernel
theorem d10 : decode yB 10 = .ok (.aload_n 0, 1) := by decide +kernel
theorem d11 : decode yB 11 = .ok (.iload_n 1, 1) := by decide +kernel
theorem d12 : decode yB 12 = .ok (.caload, 1) := by decide +kernel
theorem d13 : decode yB 13 = .ok (.istore 6, 2) := by decide +kernel
theorem d15 : decode yB 15 = .ok (.iload 6, 2) := by decide +kernel
theorem d17 : decode yB 17 = .ok (.sipush 255, 3) := by decide +kernel
theorem d20 : decode yB 20 = .ok (.if_icmp (.le) 6, 3) := by decide +kernel
theorem d26 : decode yB 26 = .ok (.aload_n 2, 1) := by decide +kernel
theorem d27 : decode yB 27 = .ok (.iload_n 3, 1) := by decide +kernel
theorem d28 : decode yB 28 = .ok (.iload 6, 2) := by decide +kernel
theorem d30 : decode yB 30 = .ok (.i2b, 1) := by decide +kernel
theorem d31 : decode yB 31 = .ok (.bastore, 1) := by decide +kernel
theorem d32 : decode yB 32 = .ok (.iinc 1 1, 3) := by decide +kernel
theorem d35 : decode yB 35 = .ok (.iinc 3 1, 3) := by decide +kernel
theorem d38 : decode yB 38 = .ok (.iinc 5 1, 3) := by decide +kernel
theorem d41 : decode yB 41 = .ok (.goto (-38), 3) := by decide +kernel
theorem d44 : decode yB 44 = .ok (.iload 4, 2) := by decide +kernel
theorem d46 : decode yB 46 = .ok (.ireturn, 1) := by decide +kernel
def site : List Cond := []
def tab : Cond := tabOf yN yB 7 (some .int) site
def P (b : Addr) (A : Cell) (d : Addr) (B : Cell) (o q len : Nat) (args : Array Value) (s : State) : Prop := args = #[.ref b, .int (Int32.ofNat o), .ref d, .int (Int32.ofNat q), .int (Int32.ofNat len)] ∧ Ch b A s ∧ Arr .byte d B s ∧ b ≠ d ∧ o + len ≤ A.slots.size ∧ q + len ≤ B.slots.size ∧ ∀ i, i < len → ¬ 255 < cv A (o + i)
def E (b : Addr) (A : Cell) (d : Addr) (B : Cell) (o q len : Nat) (r : Option Value) (s u : State) : Prop := r = some (.int (Int32.ofNat len)) ∧ ∃ B', Put d B' s u ∧ Laid B B' q (q + len) (fun j => Value.int (lo8 (cv A (o + (j - q)))))
/-- no char of the range above 255: len; the places written hold each char's low byte -/
theorem law (l : Launch) (b : Addr) (A : Cell) (d : Addr) (B : Cell) (o q len : Nat) : Law l yN 5 5 0 0 yB 7 (some .int) site (P b A d B o q len) (E b A d B o q len) (copyLocs d q len) 0 0 := by
  refine Law.of_walk (plainFor_of_name (by decide +kernel)) (by decide +kernel) (by decide +kernel) (by decide) (fun _ _ h => by rw [h.1]; rfl) (fun _ U U' hal hh h => ⟨h.1, h.2.1.mv hal hh, h.2.2.1.mv hal hh, h.2.2.2⟩) (fun r U U' V V' h1 hal h2 h => ⟨h.1, h.2.elim fun B' q => ⟨B', q.1.mv h1 h2, q.2⟩⟩) ?_
  intro p e s m args below meth c s₁ X0 hexec hbytes hml hret hlk hnm hown hh0 W hP
  obtain ⟨rfl, hA, hB, hne, l1, l2, hp⟩ := hP
  have c1 : Steps p.tables e below (s₁.setTop (entryFrame m #[.ref b, .int (Int32.ofNat o), .ref d, .int (Int32.ofNat q), .int (Int32.ofNat len)] 7)) (s₁.setTop (mkF m 0 #[.val (.ref b), .val (.int (Int32.ofNat o)), .val (.ref d), .val (.int (Int32.ofNat q)), .val (.int (Int32.ofNat len)), .unset, .unset] [])) := entry rfl
  have hA0 := hA.1.mv X0.warmed.alike hh0
  have hB0 := hB.mv X0.warmed.alike hh0
  have a31 := hA.1.2.2.2
  have c2 : Steps p.tables e below (s₁.setTop (entryFrame m #[.ref b, .int (Int32.ofNat o), .ref d, .int (Int32.ofNat q), .int (Int32.ofNat len)] 7)) (s₁.setTop (mkF m 3 #[.val (.ref b), .val (.int (Int32.ofNat o)), .val (.ref d), .val (.int (Int32.ofNat q)), .val (.int (Int32.ofNat len)), .val (.int 0), .unset] [])) := c1.trans (by
    refine iconstV X0.here hexec rfl 0 (hb hbytes d0) (by decide) ?_
    refine XS.istore X0.here hexec rfl (hb hbytes d1) rfl rfl ?_
    exact Steps.refl _)
  have loop : ∀ (r i : Nat), i + r = len → ∀ (z : Slot), (z = .unset ∨ ∃ w, z = .val w ∧ w.category = 1) → ∀ (Tl : State) (Bk : Cell), Stand p l e { frames := 0, locals := 0, cells := 0, slots := 0 } s m #[.ref b, .int (Int32.ofNat o), .ref d, .int (Int32.ofNat q), .int (Int32.ofNat len)] below meth c Tl ([] ++ copyLocs d q i) 0 0 → Put d Bk s₁ Tl → Laid B Bk q (q + i) (fun j => Value.int (lo8 (cv A (o + (j - q))))) →
      Steps p.tables e below (s₁.setTop (entryFrame m #[.ref b, .int (Int32.ofNat o), .ref d, .int (Int32.ofNat q), .int (Int32.ofNat len)] 7)) (Tl.setTop (mkF m 3 #[.val (.ref b), .val (.int (Int32.ofNat (o + i))), .val (.ref d), .val (.int (Int32.ofNat (q + i))), .val (.int (Int32.ofNat len)), .val (.int (Int32.ofNat i)), z] [])) → ∃ (T' : State) (B' : Cell) (z' : Slot), Stand p l e { frames := 0, locals := 0, cells := 0, slots := 0 } s m #[.ref b, .int (Int32.ofNat o), .ref d, .int (Int32.ofNat q), .int (Int32.ofNat len)] below meth c T' ([] ++ copyLocs d q len) 0 0 ∧ Put d B' s₁ T' ∧ Laid B B' q (q + len) (fun j => Value.int (lo8 (cv A (o + (j - q))))) ∧
      Steps p.tables e below (s₁.setTop (entryFrame m #[.ref b, .int (Int32.ofNat o), .ref d, .int (Int32.ofNat q), .int (Int32.ofNat len)] 7)) (T'.setTop (mkF m 3 #[.val (.ref b), .val (.int (Int32.ofNat (o + len))), .val (.ref d), .val (.int (Int32.ofNat (q + len))), .val (.int (Int32.ofNat len)), .val (.int (Int32.ofNat len)), z'] [])) := by
    intro r
    induction r with
    | zero =>
      intro i hi z hz Tl Bk Xl pl fl cl
      have hil : i = len := by omega
      rw [hil] at Xl fl cl
      exact ⟨Tl, Bk, z, Xl, pl, fl, cl⟩
    | succ r ih =>
      intro i hi z hz Tl Bk Xl pl fl cl
      have all := X0.warmed.alike.symm.trans Xl.warmed.alike
      have hAl := hA0.keep all (pl.other hne hA0.1)
      have hBk := hB0.like all pl.1 fl.1 fl.2.1 fl.2.2.1
      have hlt : q + i < Bk.slots.size := by rw [fl.2.2.1]; omega
      have c3 : Steps p.tables e below (s₁.setTop (entryFrame m #[.ref b, .int (Int32.ofNat o), .ref d, .int (Int32.ofNat q), .int (Int32.ofNat len)] 7)) (Tl.setTop (mkF m 12 #[.val (.ref b), .val (.int (Int32.ofNat (o + i))), .val (.ref d), .val (.int (Int32.ofNat (q + i))), .val (.int (Int32.ofNat len)), .val (.int (Int32.ofNat i)), z] [.int (Int32.ofNat (o + i)), .ref b])) := cl.trans (by
        refine XS.iload Xl.here hexec rfl (hb hbytes d3) rfl ?_
        refine XS.iload Xl.here hexec rfl (hb hbytes d5) rfl ?_
        refine XS.icmpNo Xl.here hexec rfl (hb hbytes d7) rfl (ii_ge_f (lt32 (by omega) (by omega))) ?_
        refine XS.aloadN Xl.here hexec rfl (hb hbytes d10) rfl rfl ?_
        refine XS.iloadN Xl.here hexec rfl (hb hbytes d11) rfl ?_
        exact Steps.refl _)
      have c4 : Steps p.tables e below (s₁.setTop (entryFrame m #[.ref b, .int (Int32.ofNat o), .ref d, .int (Int32.ofNat q), .int (Int32.ofNat len)] 7)) (Tl.setTop (mkF m 13 #[.val (.ref b), .val (.int (Int32.ofNat (o + i))), .val (.ref d), .val (.int (Int32.ofNat (q + i))), .val (.int (Int32.ofNat len)), .val (.int (Int32.ofNat i)), z] [.int (cv A (o + i))])) := c3.trans (by
        refine Xl.aget hexec hAl rfl (hA.get (i := o + i) (by omega)) rfl rfl (hb hbytes d12) ?_
        exact Steps.refl _)
      have c5 : Steps p.tables e below (s₁.setTop (entryFrame m #[.ref b, .int (Int32.ofNat o), .ref d, .int (Int32.ofNat q), .int (Int32.ofNat len)] 7)) (Tl.setTop (mkF m 15 #[.val (.ref b), .val (.int (Int32.ofNat (o + i))), .val (.ref d), .val (.int (Int32.ofNat (q + i))), .val (.int (Int32.ofNat len)), .val (.int (Int32.ofNat i)), .val (.int (cv A (o + i)))] [])) := c4.trans (by
        refine XS.istoreS Xl.here hexec rfl (hb hbytes d13) rfl rfl hz ?_
        exact Steps.refl _)
      have c6 : Steps p.tables e below (s₁.setTop (entryFrame m #[.ref b, .int (Int32.ofNat o), .ref d, .int (Int32.ofNat q), .int (Int32.ofNat len)] 7)) (Tl.setTop (mkF m 31 #[.val (.ref b), .val (.int (Int32.ofNat (o + i))), .val (.ref d), .val (.int (Int32.ofNat (q + i))), .val (.int (Int32.ofNat len)), .val (.int (Int32.ofNat i)), .val (.int (cv A (o + i)))] [.int (lo8 (cv A (o + i))), .int (Int32.ofNat (q + i)), .ref d])) := c5.trans (by
        refine XS.iload Xl.here hexec rfl (hb hbytes d15) rfl ?_
        refine sipushV Xl.here hexec rfl 255 (hb hbytes d17) (by decide) ?_
        refine XS.icmpYes Xl.here hexec rfl (pc0 := 20) rfl (hb hbytes d20) rfl (ii_le_t (hp i (by omega))) (by decide) rfl ?_
        refine XS.aloadN Xl.here hexec rfl (hb hbytes d26) rfl rfl ?_
        refine XS.iloadN Xl.here hexec rfl (hb hbytes d27) rfl ?_
        refine XS.iload Xl.here hexec rfl (hb hbytes d28) rfl ?_
        refine i2b Xl.here hexec rfl (hb hbytes d30) rfl ?_
        exact Steps.refl _)
      obtain ⟨T7, X7, p7, st7⟩ := Xl.aput hexec hBk rfl hlt rfl (fits_lo8 (cv A (o + i))) (g := (mkF m 31 #[.val (.ref b), .val (.int (Int32.ofNat (o + i))), .val (.ref d), .val (.int (Int32.ofNat (q + i))), .val (.int (Int32.ofNat len)), .val (.int (Int32.ofNat i)), .val (.int (cv A (o + i)))] [.int (lo8 (cv A (o + i))), .int (Int32.ofNat (q + i)), .ref d])) rfl (rest := []) rfl (hb hbytes d31)
      have c8 : Steps p.tables e below (s₁.setTop (entryFrame m #[.ref b, .int (Int32.ofNat o), .ref d, .int (Int32.ofNat q), .int (Int32.ofNat len)] 7)) (T7.setTop (mkF m 32 #[.val (.ref b), .val (.int (Int32.ofNat (o + i))), .val (.ref d), .val (.int (Int32.ofNat (q + i))), .val (.int (Int32.ofNat len)), .val (.int (Int32.ofNat i)), .val (.int (cv A (o + i)))] [])) := c6.trans (st7 _ (Steps.refl _))
      have c9 : Steps p.tables e below (s₁.setTop (entryFrame m #[.ref b, .int (Int32.ofNat o), .ref d, .int (Int32.ofNat q), .int (Int32.ofNat len)] 7)) (T7.setTop (mkF m 3 #[.val (.ref b), .val (.int (Int32.ofNat (o + i) + 1)), .val (.ref d), .val (.int (Int32.ofNat (q + i) + 1)), .val (.int (Int32.ofNat len)), .val (.int (Int32.ofNat i + 1)), .val (.int (cv A (o + i)))] [])) := c8.trans (by
        refine iincV X7.here hexec rfl 1 (hb hbytes d32) (by decide) rfl rfl ?_
        refine iincV X7.here hexec rfl 1 (hb hbytes d35) (by decide) rfl rfl ?_
        refine iincV X7.here hexec rfl 1 (hb hbytes d38) (by decide) rfl rfl ?_
        refine XS.goto X7.here hexec rfl (pc0 := 41) rfl (hb hbytes d41) (by decide) rfl ?_
        exact Steps.refl _)
      have c10 : Steps p.tables e below (s₁.setTop (entryFrame m #[.ref b, .int (Int32.ofNat o), .ref d, .int (Int32.ofNat q), .int (Int32.ofNat len)] 7)) (T7.setTop (mkF m 3 #[.val (.ref b), .val (.int (Int32.ofNat (o + (i + 1)))), .val (.ref d), .val (.int (Int32.ofNat (q + (i + 1)))), .val (.int (Int32.ofNat len)), .val (.int (Int32.ofNat (i + 1))), .val (.int (cv A (o + i)))] [])) := by
        have := c9
        rw [succ32, succ32, succ32] at this
        exact this
      exact ih (i + 1) (by omega) _ (Or.inr ⟨_, rfl, rfl⟩) T7 _ (by rw [copyLocs_step, ← List.append_assoc]; exact X7) (pl.trans p7) (fl.step (by omega) hlt (by simp)) c10
  obtain ⟨T9, B9, z9, X9, p9, f9, g9⟩ := loop len 0 (by omega) .unset (Or.inl rfl) s₁ B (by simpa [copyLocs] using X0) ⟨hB0.1, fun _ _ => rfl, rfl⟩ (Laid.zero _ _ _) c2
  have c11 : Steps p.tables e below (s₁.setTop (entryFrame m #[.ref b, .int (Int32.ofNat o), .ref d, .int (Int32.ofNat q), .int (Int32.ofNat len)] 7)) (T9.setTop (mkF m 46 #[.val (.ref b), .val (.int (Int32.ofNat (o + len))), .val (.ref d), .val (.int (Int32.ofNat (q + len))), .val (.int (Int32.ofNat len)), .val (.int (Int32.ofNat len)), z9] [.int (Int32.ofNat len)])) := g9.trans (by
    refine XS.iload X9.here hexec rfl (hb hbytes d3) rfl ?_
    refine XS.iload X9.here hexec rfl (hb hbytes d5) rfl ?_
    refine XS.icmpYes X9.here hexec rfl (pc0 := 7) rfl (hb hbytes d7) rfl (ii_ge_t (nlt32 (by omega) (Nat.le_refl _))) (by decide) rfl ?_
    refine XS.iload X9.here hexec rfl (hb hbytes d44) rfl ?_
    exact Steps.refl _)
  exact ⟨T9, some (.int (Int32.ofNat len)), _, _, _, X9, by simp, rfl, rfl, (fun h => by cases h), ⟨rfl, B9, p9.from hh0, f9⟩, fun fs hl => c11.trans (X9.ireturnOut hexec hret rfl (Or.inl rfl) (hb hbytes d46) hl)⟩
end Cmp5
namespace Cmp3
def yN : MethodName := ⟨"java/lang/StringUTF16", "compress", "([CII)[B"⟩
abbrev yB : ByteArray := jdk_52_method_16_code
theorem d0 : decode yB 0 = .ok (.iload_n 2, 1) := by decide +kernel
theorem d1 : decode yB 1 = .ok (.newarray .byte, 2) := by decide +kernel
theorem d3 : decode yB 3 = .ok (.astore_n 3, 1) := by decide +kernel
theorem d4 : decode yB 4 = .ok (.aload_n 0, 1) := by decide +kernel
theorem d5 : decode yB 5 = .ok (.iload_n 1, 1) := by decide +kernel
theorem d6 : decode yB 6 = .ok (.aload_n 3, 1) := by decide +kernel
theorem d7 : decode yB 7 = .ok (.iconst 0, 1) := by decide +kernel
theorem d8 : decode yB 8 = .ok (.iload_n 2, 1) := by decide +kernel
theorem d9 : decode yB 9 = .ok (.invokestatic 115, 3) := by decide +kernel
theorem d12 : decode yB 12 = .ok (.istore 4, 2) := by decide +kernel
theorem d14 : decode yB 14 = .ok (.iload 4, 2) := by decide +kernel
theorem d16 : decode yB 16 = .ok (.iload_n 2, 1) := by decide +kernel
theorem d17 : decode yB 17 = .ok (.if_icmp (.eq) 40, 3) := by decide +kernel
theorem d57 : decode yB 57 = .ok (.aload_n 3, 1) := by decide +kernel
theorem d58 : decode yB 58 = .ok (.areturn, 1) := by decide +kernel
def site : List Cond := [.arrayClass .byte, Cmp5.tab] ++ staticW U16 115 Cmp5.yN
def tab : Cond := tabOf yN yB 6 (some (.array .byte)) site
def P (b : Addr) (A : Cell) (o len : Nat) (args : Array Value) (s : State) : Prop := args = #[.ref b, .int (Int32.ofNat o), .int (Int32.ofNat len)] ∧ Ch b A s ∧ o + len ≤ A.slots.size ∧ len ≤ 536870912 ∧ ∀ i, i < len → ¬ 255 < cv A (o + i)
def E (b : Addr) (A : Cell) (o len : Nat) (r : Option Value) (s u : State) : Prop := NewArr .byte "[B" len (fun j => .int (lo8 (cv A (o + j)))) r s u ∧ u.heap.size = s.heap.size + 1
/-- no char of the range above 255: a new byte[] of their low bytes -/
theorem law (l : Launch) (b : Addr) (A : Cell) (o len : Nat) : Law l yN 3 3 1 18 yB 6 (some (.array .byte)) site (P b A o len) (E b A o len) [] 1 len := by
  refine Law.of_walk (plainFor_of_name (by decide +kernel)) (by decide +kernel) (by decide +kernel) (by decide) (fun _ _ h => by rw [h.1]; rfl) (fun _ U U' hal hh h => ⟨h.1, h.2.1.mv hal hh, h.2.2⟩) (fun r U U' V V' h1 hal h2 h => ⟨NewArr.mv r U U' V V' h1 hal h2 h.1, by rw [h1, h2]; exact h.2⟩) ?_
  intro p e s m args below meth c s₁ X0 hexec hbytes hml hret hlk hnm hown hh0 W hP
  obtain ⟨rfl, hA, l1, l2, hp⟩ := hP
  have a31 := hA.1.2.2.2
  have c1 : Steps p.tables e below (s₁.setTop (entryFrame m #[.ref b, .int (Int32.ofNat o), .int (Int32.ofNat len)] 6)) (s₁.setTop (mkF m 0 #[.val (.ref b), .val (.int (Int32.ofNat o)), .val (.int (Int32.ofNat len)), .unset, .unset, .unset] [])) := entry rfl
  have c2 : Steps p.tables e below (s₁.setTop (entryFrame m #[.ref b, .int (Int32.ofNat o), .int (Int32.ofNat len)] 6)) (s₁.setTop (mkF m 1 #[.val (.ref b), .val (.int (Int32.ofNat o)), .val (.int (Int32.ofNat len)), .unset, .unset, .unset] [.int (Int32.ofNat len)])) := c1.trans (by
    refine XS.iloadN X0.here hexec rfl (hb hbytes d0) rfl ?_
    exact Steps.refl _)
  obtain ⟨T3, B3, X3, ba3, bs3, bv3, bh3, bf3, st3⟩ := X0.anew hexec (atype := .byte) (wk W (.arrayClass .byte)) rfl (by show len * 1 ≤ _; omega) (by omega) (g := (mkF m 1 #[.val (.ref b), .val (.int (Int32.ofNat o)), .val (.int (Int32.ofNat len)), .unset, .unset, .unset] [.int (Int32.ofNat len)])) rfl (hb hbytes d1) (rest := []) rfl (Nat.le_refl _) (by show 0 + len ≤ len; omega)
  rw [hh0] at ba3 st3
  have kp3 : XT.Kept s T3 := (XT.Kept.of_eq hh0).push bh3
  have hA3 := hA.keep X3.warmed.alike (kp3 _ _ hA.1.1)
  have hne : b ≠ s.heap.size := hA.1.ne
  have c4 : Steps p.tables e below (s₁.setTop (entryFrame m #[.ref b, .int (Int32.ofNat o), .int (Int32.ofNat len)] 6)) (T3.setTop (mkF m 3 #[.val (.ref b), .val (.int (Int32.ofNat o)), .val (.int (Int32.ofNat len)), .unset, .unset, .unset] [.ref s.heap.size])) := c2.trans (st3 _ (Steps.refl _))
  have c5 : Steps p.tables e below (s₁.setTop (entryFrame m #[.ref b, .int (Int32.ofNat o), .int (Int32.ofNat len)] 6)) (T3.setTop (mkF m 9 #[.val (.ref b), .val (.int (Int32.ofNat o)), .val (.int (Int32.ofNat len)), .val (.ref s.heap.size), .unset, .unset] [.int (Int32.ofNat len), .int 0, .ref s.heap.size, .int (Int32.ofNat o), .ref b])) := c4.trans (by
    refine XS.astoreN X3.here hexec rfl (hb hbytes d3) rfl rfl rfl ?_
    refine XS.aloadN X3.here hexec rfl (hb hbytes d4) rfl rfl ?_
    refine XS.iloadN X3.here hexec rfl (hb hbytes d5) rfl ?_
    refine XS.aloadN X3.here hexec rfl (hb hbytes d6) rfl rfl ?_
    refine iconstV X3.here hexec rfl 0 (hb hbytes d7) (by decide) ?_
    refine XS.iloadN X3.here hexec rfl (hb hbytes d8) rfl ?_
    exact Steps.refl _)
  obtain ⟨v6, T6, X6, E6, g6⟩ := X3.callS hexec (Cmp5.law l b A s.heap.size B3 o 0 len) hown (wks W (staticW U16 115 Cmp5.yN)) (wk W Cmp5.tab) (W := 0) (Nat.le_of_ble_eq_true rfl) (Nat.le_of_ble_eq_true rfl) (Nat.le_refl _) (by show 0 + len + 0 ≤ len; omega) (g := (mkF m 9 #[.val (.ref b), .val (.int (Int32.ofNat o)), .val (.int (Int32.ofNat len)), .val (.ref s.heap.size), .unset, .unset] [.int (Int32.ofNat len), .int (Int32.ofNat 0), .ref s.heap.size, .int (Int32.ofNat o), .ref b])) rfl (by rw [hml]; rfl) c5 (argsL := [.ref b, .int (Int32.ofNat o), .ref s.heap.size, .int (Int32.ofNat 0), .int (Int32.ofNat len)]) (rest := []) rfl rfl (by show 2 * 0 + 0 ≤ _; decide) (hb hbytes d9) (⟨rfl, hA3, ba3, hne, l1, by rw [bs3]; simp, hp⟩)
  obtain ⟨rfl, B6, p6, f6⟩ := E6
  have c7 : Steps p.tables e below (s₁.setTop (entryFrame m #[.ref b, .int (Int32.ofNat o), .int (Int32.ofNat len)] 6)) (T6.setTop (mkF m 12 #[.val (.ref b), .val (.int (Int32.ofNat o)), .val (.int (Int32.ofNat len)), .val (.ref s.heap.size), .unset, .unset] [.int (Int32.ofNat len)])) := g6
  have c8 : Steps p.tables e below (s₁.setTop (entryFrame m #[.ref b, .int (Int32.ofNat o), .int (Int32.ofNat len)] 6)) (T6.setTop (mkF m 58 #[.val (.ref b), .val (.int (Int32.ofNat o)), .val (.int (Int32.ofNat len)), .val (.ref s.heap.size), .val (.int (Int32.ofNat len)), .unset] [.ref s.heap.size])) := c7.trans (by
    refine XS.istore X6.here hexec rfl (hb hbytes d12) rfl rfl ?_
    refine XS.iload X6.here hexec rfl (hb hbytes d14) rfl ?_
    refine XS.iloadN X6.here hexec rfl (hb hbytes d16) rfl ?_
    refine XS.icmpYes X6.here hexec rfl (pc0 := 17) rfl (hb hbytes d17) rfl (ii_eq_t rfl) (by decide) rfl ?_
    refine XS.aloadN X6.here hexec rfl (hb hbytes d57) rfl rfl ?_
    exact Steps.refl _)
  have X8 := X6.wide (L' := []) (cells' := 1) (slots' := len) (fun x hx hlt => by
    simp only [List.nil_append, copyLocs, List.mem_map, List.mem_range] at hx
    obtain ⟨i, -, rfl⟩ := hx
    exact absurd hlt (Nat.lt_irrefl _)) (Nat.le_refl _) (by omega)
  exact ⟨T6, some (.ref s.heap.size), _, _, _, X8, rfl, rfl, rfl, (fun h => by cases h), ⟨⟨rfl, B6, ba3.like (X3.warmed.alike.symm.trans X6.warmed.alike) p6.1 f6.1 f6.2.1 f6.2.2.1, f6.2.1.trans bv3, by rw [X6.warmed.alike.findClass, f6.1]; exact bf3, by rw [f6.2.2.1, bs3]; simp, fun j hj => by rw [f6.2.2.2 j, if_pos (by omega)]; rfl, kp3.put p6 (Nat.le_refl _)⟩, by rw [p6.2.2, bh3, hh0]; simp⟩, fun fs hl => c8.trans (X8.areturnOut hexec rfl hret rfl (hb hbytes d58) hl)⟩
end Cmp3
namespace CodL
def yN : MethodName := ⟨"java/lang/StringUTF16", "coderFromArrayLen", "([BI)B"⟩
abbrev yB : ByteArray := jdk_52_method_15_code
theorem d0 : decode yB 0 = .ok (.iload_n 1, 1) := by decide +kernel
theorem d1 : decode yB 1 = .ok (.aload_n 0, 1) := by decide +kernel
theorem d2 : decode yB 2 = .ok (.arraylength, 1) := by decide +kernel
theorem d3 : decode yB 3 = .ok (.isub, 1) := by decide +kernel
theorem d4 : decode yB 4 = .ok (.bipush 31, 2) := by decide +kernel
theorem d6 : decode yB 6 = .ok (.iushr, 1) := by decide +kernel
theorem d7 : decode yB 7 = .ok (.i2b, 1) := by decide +kernel
theorem d8 : decode yB 8 = .ok (.ireturn, 1) := by decide +kernel
def site : List Cond := []
def tab : Cond := tabOf yN yB 2 (some .byte) site
def P (d : Addr) (B : Cell) (args : Array Value) (s : State) : Prop := args = #[.ref d, .int (Int32.ofNat B.slots.size)] ∧ Arr .byte d B s
def E (r : Option Value) (s u : State) : Prop := XT.PureE (some (.int 0)) r s u
/-- an array as long as the number of chars: LATIN1 -/
theorem law (l : Launch) (d : Addr) (B : Cell) : Law l yN 2 2 0 0 yB 2 (some .byte) site (P d B) E [] 0 0 := by
  refine Law.of_walk (plainFor_of_name (by decide +kernel)) (by decide +kernel) (by decide +kernel) (by decide) (fun _ _ h => by rw [h.1]; rfl) (fun _ U U' hal hh h => ⟨h.1, h.2.mv hal hh⟩) (fun r U U' V V' h1 hal h2 h => XT.PureE.mv r U U' V V' h1 hal h2 h) ?_
  intro p e s m args below meth c s₁ X0 hexec hbytes hml hret hlk hnm hown hh0 W hP
  obtain ⟨rfl, hB⟩ := hP
  have hB0 := hB.mv X0.warmed.alike hh0
  have c1 : Steps p.tables e below (s₁.setTop (entryFrame m #[.ref d, .int (Int32.ofNat B.slots.size)] 2)) (s₁.setTop (mkF m 0 #[.val (.ref d), .val (.int (Int32.ofNat B.slots.size))] [])) := entry rfl
  have c2 : Steps p.tables e below (s₁.setTop (entryFrame m #[.ref d, .int (Int32.ofNat B.slots.size)] 2)) (s₁.setTop (mkF m 2 #[.val (.ref d), .val (.int (Int32.ofNat B.slots.size))] [.ref d, .int (Int32.ofNat B.slots.size)])) := c1.trans (by
    refine XS.iloadN X0.here hexec rfl (hb hbytes d0) rfl ?_
    refine XS.aloadN X0.here hexec rfl (hb hbytes d1) rfl rfl ?_
    exact Steps.refl _)
  have c3 : Steps p.tables e below (s₁.setTop (entryFrame m #[.ref d, .int (Int32.ofNat B.slots.size)] 2)) (s₁.setTop (mkF m 8 #[.val (.ref d), .val (.int (Int32.ofNat B.slots.size))] [.int (lo8 (ushr (Int32.ofNat B.slots.size - Int32.ofNat B.slots.size) 31))])) := c2.trans (by
    refine X0.alen hexec hB0 rfl rfl (hb hbytes d2) ?_
    refine XS.isub X0.here hexec rfl (hb hbytes d3) rfl ?_
    refine bipushV X0.here hexec rfl 31 (hb hbytes d4) (by decide) ?_
    refine iushr X0.here hexec rfl (hb hbytes d6) rfl ?_
    refine i2b X0.here hexec rfl (hb hbytes d7) rfl ?_
    exact Steps.refl _)
  have e0 : lo8 (ushr (Int32.ofNat B.slots.size - Int32.ofNat B.slots.size) 31) = 0 := by rw [Int32.sub_self]; decide
  rw [e0] at c3
  exact ⟨s₁, some (.int 0), _, _, _, X0, rfl, rfl, rfl, (fun h => by cases h), ⟨rfl, hh0⟩, fun fs hl => c3.trans (X0.ireturnOut hexec hret rfl (Or.inr (Or.inr (Or.inl rfl))) (hb hbytes d8) hl)⟩
end CodL
/-- the String at a is Latin-1 over a new byte[] (the heap's one new cell): the low bytes of the len chars of A from o on; every cell but a is kept -/
def Got (a : Addr) (D : Cell) (fV fC : Field) (A : Cell) (o len : Nat) (r : Option Value) (s u : State) : Prop := r = none ∧ ∃ D' V : Cell, Blank "java/lang/String" a D' u ∧ Same D D' [fV.slot, fC.slot] ∧ D'.slots[fV.slot]? = some (.ref s.heap.size) ∧ D'.slots[fC.slot]? = some (.int 0) ∧ Arr .byte s.heap.size V u ∧ V.vm = .none ∧ u.vm.findClass "[B" = some V.cls ∧ V.slots.size = len ∧ (∀ j, j < len → V.slots[j]? = some (.int (lo8 (cv A (o + j))))) ∧ (∀ (y : Addr) (c : Cell), y ≠ a → s.heap[y]? = some c → u.heap[y]? = some c) ∧ u.heap.size = s.heap.size + 1
theorem Got.mv {a : Addr} {D A : Cell} {fV fC : Field} {o len : Nat} : ∀ r (U U' V V' : State), U'.heap = U.heap → V.vm.Alike V'.vm → V'.heap = V.heap → Got a D fV fC A o len r U V → Got a D fV fC A o len r U' V' :=
  fun r U U' V V' h1 hal h2 ⟨e0, D', X, a1, a2, a3, a4, a5, a6, a7, a8, a9, a10, a11⟩ => ⟨e0, D', X, a1.mv hal h2, a2, by rw [h1]; exact a3, a4, by rw [h1]; exact a5.mv hal h2, a6, by rw [hal.findClass]; exact a7, a8, a9, by rw [h1, h2]; exact a10, by rw [h1, h2]; exact a11⟩
namespace New4
def yN : MethodName := ⟨"java/lang/String", "<init>", "([CIILjava/lang/Void;)V"⟩
abbrev yB : ByteArray := jdk_42_method_149_code
theorem d0 : decode yB 0 = .ok (.aload_n 0, 1) := by decide +kernel
theorem d1 : decode yB 1 = .ok (.invokespecial 1, 3) := by decide +kernel
theorem d4 : decode yB 4 = .ok (.iload_n 3, 1) := by decide +kernel
theorem d5 : decode yB 5 = .ok (.ifCond (.ne) 22, 3) := by decide +kernel
theorem d27 : decode yB 27 = .ok (.getstatic 38, 3) := by decide +kernel
theorem d30 : decode yB 30 = .ok (.ifCond (.eq) 28, 3) := by decide +kernel
theorem d33 : decode yB 33 = .ok (.aload_n 1, 1) := by decide +kernel
theorem d34 : decode yB 34 = .ok (.iload_n 2, 1) := by decide +kernel
theorem d35 : decode yB 35 = .ok (.iload_n 3, 1) := by decide +kernel
theorem d36 : decode yB 36 = .ok (.invokestatic 177, 3) := by decide +kernel
theorem d39 : decode yB 39 = .ok (.astore 5, 2) := by decide +kernel
theorem d41 : decode yB 41 = .ok (.aload_n 0, 1) := by decide +kernel
theorem d42 : decode yB 42 = .ok (.aload 5, 2) := by decide +kernel
theorem d44 : decode yB 44 = .ok (.iload_n 3, 1) := by decide +kernel
theorem d45 : decode yB 45 = .ok (.invokestatic 47, 3) := by decide +kernel
theorem d48 : decode yB 48 = .ok (.putfield 15, 3) := by decide +kernel
theorem d51 : decode yB 51 = .ok (.aload_n 0, 1) := by decide +kernel
theorem d52 : decode yB 52 = .ok (.aload 5, 2) := by decide +kernel
theorem d54 : decode yB 54 = .ok (.putfield 9, 3) := by decide +kernel
theorem d57 : decode yB 57 = .ok (.return_, 1) := by decide +kernel
def site : List Cond := [.fieldLink "java/lang/String" 38 "java/lang/String" "COMPACT_STRINGS" "Z", Cmp3.tab, CodL.tab, .laysFinal "java/lang/String" "java/lang/String" "value" "[B", .fieldLink "java/lang/String" 9 "java/lang/String" "value" "[B", .laysFinal "java/lang/String" "java/lang/String" "coder" "B", .fieldLink "java/lang/String" 15 "java/lang/String" "coder" "B"] ++ objW "java/lang/String" 1 ++ staticW "java/lang/String" 177 Cmp3.yN ++ staticW "java/lang/String" 47 CodL.yN
def tab : Cond := tabOf yN yB 6 none site
def P (a : Addr) (D : Cell) (fV fC : Field) (b : Addr) (A : Cell) (z : Int32) (o len : Nat) (args : Array Value) (s : State) : Prop := args = #[.ref a, .ref b, .int (Int32.ofNat o), .int (Int32.ofNat len), .null] ∧ Blank "java/lang/String" a D s ∧ Found "java/lang/String" "value" "[B" fV s ∧ Found "java/lang/String" "coder" "B" fC s ∧ Ch b A s ∧ StaticIs s "java/lang/String" "COMPACT_STRINGS" "Z" (.int z) ∧ ¬ z = 0 ∧ 0 < len ∧ o + len ≤ A.slots.size ∧ len ≤ 536870912 ∧ ∀ i, i < len → ¬ 255 < cv A (o + i)
def E (a : Addr) (D : Cell) (fV fC : Field) (A : Cell) (o len : Nat) (r : Option Value) (s u : State) : Prop := Got a D fV fC A o len r s u
/-- len > 0, no char of the range above 255: a Latin-1 String of their low bytes -/
theorem law (l : Launch) (a : Addr) (D : Cell) (fV fC : Field) (b : Addr) (A : Cell) (z : Int32) (o len : Nat) : Law l yN 5 4 2 35 yB 6 none site (P a D fV fC b A z o len) (E a D fV fC A o len) [⟨a, fC.slot⟩, ⟨a, fV.slot⟩] 1 len := by
  refine Law.of_walk (plainFor_of_name (by decide +kernel)) (by decide +kernel) (by decide +kernel) (by decide) (fun _ _ h => by rw [h.1]; rfl) (fun _ U U' hal hh h => ⟨h.1, h.2.1.mv hal hh, h.2.2.1.al hal, h.2.2.2.1.al hal, h.2.2.2.2.1.mv hal hh, h.2.2.2.2.2.1.there hal hh, h.2.2.2.2.2.2⟩) (fun r U U' V V' h1 hal h2 h => Got.mv r U U' V V' h1 hal h2 h) ?_
  intro p e s m args below meth c s₁ X0 hexec hbytes hml hret hlk hnm hown hh0 W hP
  obtain ⟨rfl, hB, f1, f2, hA, s1, hz, l0, l1, l2, hp⟩ := hP
  have a31 := hA.1.2.2.2
  have c1 : Steps p.tables e below (s₁.setTop (entryFrame m #[.ref a, .ref b, .int (Int32.ofNat o), .int (Int32.ofNat len), .null] 6)) (s₁.setTop (mkF m 0 #[.val (.ref a), .val (.ref b), .val (.int (Int32.ofNat o)), .val (.int (Int32.ofNat len)), .val .null, .unset] [])) := entry rfl
  have c2 : Steps p.tables e below (s₁.setTop (entryFrame m #[.ref a, .ref b, .int (Int32.ofNat o), .int (Int32.ofNat len), .null] 6)) (s₁.setTop (mkF m 1 #[.val (.ref a), .val (.ref b), .val (.int (Int32.ofNat o)), .val (.int (Int32.ofNat len)), .val .null, .unset] [.ref a])) := c1.trans (by
    refine XS.aloadN X0.here hexec rfl (hb hbytes d0) rfl rfl ?_
    exact Steps.refl _)
  obtain ⟨T3, X3, q3, st3⟩ := X0.oinit hexec hown (wks W (objW "java/lang/String" 1)) (g := (mkF m 1 #[.val (.ref a), .val (.ref b), .val (.int (Int32.ofNat o)), .val (.int (Int32.ofNat len)), .val .null, .unset] [.ref a])) rfl (by rw [hml]; rfl) (rest := []) rfl (hb hbytes d1) (W := 0) (by show 2 * 0 + 0 ≤ _; decide) (Nat.le_of_ble_eq_true rfl) (Nat.le_of_ble_eq_true rfl)
  have hh3 := q3.trans hh0
  have c4 : Steps p.tables e below (s₁.setTop (entryFrame m #[.ref a, .ref b, .int (Int32.ofNat o), .int (Int32.ofNat len), .null] 6)) (T3.setTop (mkF m 27 #[.val (.ref a), .val (.ref b), .val (.int (Int32.ofNat o)), .val (.int (Int32.ofNat len)), .val .null, .unset] [])) := (c2.trans (st3 _ (Steps.refl _))).trans (by
    refine XS.iloadN X3.here hexec rfl (hb hbytes d4) rfl ?_
    refine XS.ifYes X3.here hexec rfl (pc0 := 5) rfl (hb hbytes d5) rfl (i0_ne_t (nz32 (by omega) l0)) (by decide) rfl ?_
    exact Steps.refl _)
  obtain ⟨T5, X5, q5, st5⟩ := X3.sget hexec hown (wk W (.fieldLink "java/lang/String" 38 "java/lang/String" "COMPACT_STRINGS" "Z")) s1 (fun _ _ h => by rw [hh3]; exact h) (g := (mkF m 27 #[.val (.ref a), .val (.ref b), .val (.int (Int32.ofNat o)), .val (.int (Int32.ofNat len)), .val .null, .unset] [])) rfl (hb hbytes d27)
  have hh5 := q5.trans hh3
  have c6 : Steps p.tables e below (s₁.setTop (entryFrame m #[.ref a, .ref b, .int (Int32.ofNat o), .int (Int32.ofNat len), .null] 6)) (T5.setTop (mkF m 30 #[.val (.ref a), .val (.ref b), .val (.int (Int32.ofNat o)), .val (.int (Int32.ofNat len)), .val .null, .unset] [.int z])) := c4.trans (st5 _ (Steps.refl _))
  have c7 : Steps p.tables e below (s₁.setTop (entryFrame m #[.ref a, .ref b, .int (Int32.ofNat o), .int (Int32.ofNat len), .null] 6)) (T5.setTop (mkF m 36 #[.val (.ref a), .val (.ref b), .val (.int (Int32.ofNat o)), .val (.int (Int32.ofNat len)), .val .null, .unset] [.int (Int32.ofNat len), .int (Int32.ofNat o), .ref b])) := c6.trans (by
    refine XS.ifNo X5.here hexec rfl (hb hbytes d30) rfl (i0_eq_f hz) ?_
    refine XS.aloadN X5.here hexec rfl (hb hbytes d33) rfl rfl ?_
    refine XS.iloadN X5.here hexec rfl (hb hbytes d34) rfl ?_
    refine XS.iloadN X5.here hexec rfl (hb hbytes d35) rfl ?_
    exact Steps.refl _)
  obtain ⟨v8, T8, X8, E8, g8⟩ := X5.callS hexec (Cmp3.law l b A o len) hown (wks W (staticW "java/lang/String" 177 Cmp3.yN)) (wk W Cmp3.tab) (W := 0) (Nat.le_of_ble_eq_true rfl) (Nat.le_of_ble_eq_true rfl) (Nat.le_refl _) (by show 0 + len ≤ len; omega) (g := (mkF m 36 #[.val (.ref a), .val (.ref b), .val (.int (Int32.ofNat o)), .val (.int (Int32.ofNat len)), .val .null, .unset] [.int (Int32.ofNat len), .int (Int32.ofNat o), .ref b])) rfl (by rw [hml]; rfl) c7 (argsL := [.ref b, .int (Int32.ofNat o), .int (Int32.ofNat len)]) (rest := []) rfl rfl (by show 2 * 0 + 0 ≤ _; decide) (hb hbytes d36) (⟨rfl, hA.mv X5.warmed.alike hh5, l1, l2, hp⟩)
  obtain ⟨e8, z8⟩ := E8
  obtain ⟨rfl, N, n1, n2, n3, n4, n5, n6⟩ := NewArr.mv _ T5 s _ _ hh5.symm (Vm.Alike.refl _) rfl e8
  rw [hh5] at z8
  have hB1 := hB.keep X8.warmed.alike (n6 _ _ hB.1)
  have hne : s.heap.size ≠ a := (Nat.ne_of_lt (Array.getElem?_eq_some_iff.mp hB.1).1).symm
  have c9 : Steps p.tables e below (s₁.setTop (entryFrame m #[.ref a, .ref b, .int (Int32.ofNat o), .int (Int32.ofNat len), .null] 6)) (T8.setTop (mkF m 39 #[.val (.ref a), .val (.ref b), .val (.int (Int32.ofNat o)), .val (.int (Int32.ofNat len)), .val .null, .unset] [.ref s.heap.size])) := g8
  have c10 : Steps p.tables e below (s₁.setTop (entryFrame m #[.ref a, .ref b, .int (Int32.ofNat o), .int (Int32.ofNat len), .null] 6)) (T8.setTop (mkF m 45 #[.val (.ref a), .val (.ref b), .val (.int (Int32.ofNat o)), .val (.int (Int32.ofNat len)), .val .null, .val (.ref s.heap.size)] [.int (Int32.ofNat N.slots.size), .ref s.heap.size, .ref a])) := by
    have hc : Steps p.tables e below (s₁.setTop (entryFrame m #[.ref a, .ref b, .int (Int32.ofNat o), .int (Int32.ofNat len), .null] 6)) (T8.setTop (mkF m 45 #[.val (.ref a), .val (.ref b), .val (.int (Int32.ofNat o)), .val (.int (Int32.ofNat len)), .val .null, .val (.ref s.heap.size)] [.int (Int32.ofNat len), .ref s.heap.size, .ref a])) := c9.trans (by
      refine XS.astore X8.here hexec rfl (hb hbytes d39) rfl rfl rfl ?_
      refine XS.aloadN X8.here hexec rfl (hb hbytes d41) rfl rfl ?_
      refine XS.aload X8.here hexec rfl (hb hbytes d42) rfl rfl ?_
      refine XS.iloadN X8.here hexec rfl (hb hbytes d44) rfl ?_
      exact Steps.refl _)
    rw [n4]; exact hc
  obtain ⟨v11, T11, X11, E11, g11⟩ := X8.callS hexec (CodL.law l s.heap.size N) hown (wks W (staticW "java/lang/String" 47 CodL.yN)) (wk W CodL.tab) (W := 1) (Nat.le_of_ble_eq_true rfl) (Nat.le_of_ble_eq_true rfl) (Nat.le_refl _) (by show 0 + len + 0 ≤ len; omega) (g := (mkF m 45 #[.val (.ref a), .val (.ref b), .val (.int (Int32.ofNat o)), .val (.int (Int32.ofNat len)), .val .null, .val (.ref s.heap.size)] [.int (Int32.ofNat N.slots.size), .ref s.heap.size, .ref a])) rfl (by rw [hml]; rfl) c10 (argsL := [.ref s.heap.size, .int (Int32.ofNat N.slots.size)]) (rest := [.ref a]) rfl rfl (by show 2 * 0 + (1 + 0) ≤ _; decide) (hb hbytes d45) (⟨rfl, n1⟩)
  obtain ⟨rfl, q11⟩ := E11
  have hB11 := hB1.mv (X8.warmed.alike.symm.trans X11.warmed.alike) q11
  have c12 : Steps p.tables e below (s₁.setTop (entryFrame m #[.ref a, .ref b, .int (Int32.ofNat o), .int (Int32.ofNat len), .null] 6)) (T11.setTop (mkF m 48 #[.val (.ref a), .val (.ref b), .val (.int (Int32.ofNat o)), .val (.int (Int32.ofNat len)), .val .null, .val (.ref s.heap.size)] [.int 0, .ref a])) := g11
  obtain ⟨T13, X13, p13, bl13, sl13, st13⟩ := X11.finit hexec hown (wk W (.fieldLink "java/lang/String" 15 "java/lang/String" "coder" "B")) (Or.inr ⟨_, (wk W (.laysFinal "java/lang/String" "java/lang/String" "coder" "B"))⟩) (Or.inl ⟨rfl, hnm⟩) f2 (Or.inl rfl) hB11 (t := .byte) (by decide +kernel) rfl (g := (mkF m 48 #[.val (.ref a), .val (.ref b), .val (.int (Int32.ofNat o)), .val (.int (Int32.ofNat len)), .val .null, .val (.ref s.heap.size)] [.int 0, .ref a])) rfl (rest := []) rfl (hb hbytes d48)
  have c14 : Steps p.tables e below (s₁.setTop (entryFrame m #[.ref a, .ref b, .int (Int32.ofNat o), .int (Int32.ofNat len), .null] 6)) (T13.setTop (mkF m 54 #[.val (.ref a), .val (.ref b), .val (.int (Int32.ofNat o)), .val (.int (Int32.ofNat len)), .val .null, .val (.ref s.heap.size)] [.ref s.heap.size, .ref a])) := (c12.trans (st13 _ (Steps.refl _))).trans (by
    refine XS.aloadN X13.here hexec rfl (hb hbytes d51) rfl rfl ?_
    refine XS.aload X13.here hexec rfl (hb hbytes d52) rfl rfl ?_
    exact Steps.refl _)
  obtain ⟨T15, X15, p15, bl15, sl15, st15⟩ := X13.finit hexec hown (wk W (.fieldLink "java/lang/String" 9 "java/lang/String" "value" "[B")) (Or.inr ⟨_, (wk W (.laysFinal "java/lang/String" "java/lang/String" "value" "[B"))⟩) (Or.inl ⟨rfl, hnm⟩) f1 (Or.inl rfl) bl13 (t := (.array .byte)) (by decide +kernel) rfl (g := (mkF m 54 #[.val (.ref a), .val (.ref b), .val (.int (Int32.ofNat o)), .val (.int (Int32.ofNat len)), .val .null, .val (.ref s.heap.size)] [.ref s.heap.size, .ref a])) rfl (rest := []) rfl (hb hbytes d54)
  have c16 : Steps p.tables e below (s₁.setTop (entryFrame m #[.ref a, .ref b, .int (Int32.ofNat o), .int (Int32.ofNat len), .null] 6)) (T15.setTop (mkF m 57 #[.val (.ref a), .val (.ref b), .val (.int (Int32.ofNat o)), .val (.int (Int32.ofNat len)), .val .null, .val (.ref s.heap.size)] [])) := c14.trans (st15 _ (Steps.refl _))
  have ap := apart (Or.inr ⟨_, (wk W (.laysFinal "java/lang/String" "java/lang/String" "value" "[B"))⟩) (Or.inr ⟨_, (wk W (.laysFinal "java/lang/String" "java/lang/String" "coder" "B"))⟩) f1 f2 (t₁ := .array .byte) (t₂ := .byte) (by decide +kernel) (by decide +kernel) (by decide)
  have al := X8.warmed.alike.symm.trans X15.warmed.alike
  have n7 : T11.heap[s.heap.size]? = some N := by rw [q11]; exact n1.1
  exact ⟨T15, none, _, _, _, X15, by simp, rfl, by omega, (fun _ => rfl), ⟨rfl, _, N, bl15, ((Same.refl D _).set _ (by simp)).set _ (by simp), sl15, (Cell.slots_setSlot_ne _ ap).trans sl13, n1.keep al (p15.other hne (p13.other hne n7)), n2, by rw [al.findClass]; exact n3, n4, n5, fun y c h1 h2 => p15.other h1 (p13.other h1 (by rw [q11]; exact n6 y c h2)), by rw [p15.2.2, p13.2.2, q11]; exact z8⟩, fun fs hl => c16.trans (X15.returnOut hexec hret (hb hbytes d57) hl)⟩
end New4
namespace New1
def yN : MethodName := ⟨"java/lang/String", "<init>", "([C)V"⟩
abbrev yB : ByteArray := jdk_42_method_3_code
theorem d0 : decode yB 0 = .ok (.aload_n 0, 1) := by decide +kernel
theorem d1 : decode yB 1 = .ok (.aload_n 1, 1) := by decide +kernel
theorem d2 : decode yB 2 = .ok (.iconst 0, 1) := by decide +kernel
theorem d3 : decode yB 3 = .ok (.aload_n 1, 1) := by decide +kernel
theorem d4 : decode yB 4 = .ok (.arraylength, 1) := by decide +kernel
theorem d5 : decode yB 5 = .ok (.aconst_null, 1) := by decide +kernel
theorem d6 : decode yB 6 = .ok (.invokespecial 27, 3) := by decide +kernel
theorem d9 : decode yB 9 = .ok (.return_, 1) := by decide +kernel
def site : List Cond := [New4.tab] ++ initW "java/lang/String" 27 New4.yN
def tab : Cond := tabOf yN yB 2 none site
def P (a : Addr) (D : Cell) (fV fC : Field) (b : Addr) (A : Cell) (z : Int32) (args : Array Value) (s : State) : Prop := args = #[.ref a, .ref b] ∧ Blank "java/lang/String" a D s ∧ Found "java/lang/String" "value" "[B" fV s ∧ Found "java/lang/String" "coder" "B" fC s ∧ Ch b A s ∧ StaticIs s "java/lang/String" "COMPACT_STRINGS" "Z" (.int z) ∧ ¬ z = 0 ∧ 0 < A.slots.size ∧ A.slots.size ≤ 536870912 ∧ ∀ i, i < A.slots.size → ¬ 255 < cv A i
def E (a : Addr) (D : Cell) (fV fC : Field) (A : Cell) (r : Option Value) (s u : State) : Prop := Got a D fV fC A 0 A.slots.size r s u
/-- new String(chars), not empty, no char above 255: a Latin-1 String of their low bytes -/
theorem law (l : Launch) (a : Addr) (D : Cell) (fV fC : Field) (b : Addr) (A : Cell) (z : Int32) : Law l yN 2 1 3 52 yB 2 none site (P a D fV fC b A z) (E a D fV fC A) [⟨a, fC.slot⟩, ⟨a, fV.slot⟩] 1 A.slots.size := by
  refine Law.of_walk (plainFor_of_name (by decide +kernel)) (by decide +kernel) (by decide +kernel) (by decide) (fun _ _ h => by rw [h.1]; rfl) (fun _ U U' hal hh h => ⟨h.1, h.2.1.mv hal hh, h.2.2.1.al hal, h.2.2.2.1.al hal, h.2.2.2.2.1.mv hal hh, h.2.2.2.2.2.1.there hal hh, h.2.2.2.2.2.2⟩) (fun r U U' V V' h1 hal h2 h => Got.mv r U U' V V' h1 hal h2 h) ?_
  intro p e s m args below meth c s₁ X0 hexec hbytes hml hret hlk hnm hown hh0 W hP
  obtain ⟨rfl, hB, f1, f2, hA, s1, hz, l0, l2, hp⟩ := hP
  have c1 : Steps p.tables e below (s₁.setTop (entryFrame m #[.ref a, .ref b] 2)) (s₁.setTop (mkF m 0 #[.val (.ref a), .val (.ref b)] [])) := entry rfl
  have c2 : Steps p.tables e below (s₁.setTop (entryFrame m #[.ref a, .ref b] 2)) (s₁.setTop (mkF m 6 #[.val (.ref a), .val (.ref b)] [.null, .int (Int32.ofNat A.slots.size), .int 0, .ref b, .ref a])) := c1.trans (by
    refine XS.aloadN X0.here hexec rfl (hb hbytes d0) rfl rfl ?_
    refine XS.aloadN X0.here hexec rfl (hb hbytes d1) rfl rfl ?_
    refine iconstV X0.here hexec rfl 0 (hb hbytes d2) (by decide) ?_
    refine XS.aloadN X0.here hexec rfl (hb hbytes d3) rfl rfl ?_
    refine X0.alen hexec (hA.1.mv X0.warmed.alike hh0) rfl rfl (hb hbytes d4) ?_
    refine XS.aconstNull X0.here hexec rfl (hb hbytes d5) ?_
    exact Steps.refl _)
  obtain ⟨v3, T3, X3, E3, g3⟩ := X0.callN hexec (New4.law l a D fV fC b A z 0 A.slots.size) rfl hown (wks W (initW "java/lang/String" 27 New4.yN)) (W New4.tab (by simp only [site, List.mem_cons, List.mem_append, true_or, or_true])) (W := 0) (Nat.le_of_ble_eq_true rfl) (Nat.le_of_ble_eq_true rfl) (Nat.le_refl _) (by show 0 + A.slots.size ≤ A.slots.size; omega) (g := (mkF m 6 #[.val (.ref a), .val (.ref b)] [.null, .int (Int32.ofNat A.slots.size), .int (Int32.ofNat 0), .ref b, .ref a])) rfl (by rw [hml]; rfl) c2 (argsL := [.ref b, .int (Int32.ofNat 0), .int (Int32.ofNat A.slots.size), .null]) (rest := []) rfl rfl (by show 2 * 0 + 0 ≤ _; decide) (hb hbytes d6) (⟨rfl, hB.mv X0.warmed.alike hh0, f1.al X0.warmed.alike, f2.al X0.warmed.alike, hA.mv X0.warmed.alike hh0, s1.there X0.warmed.alike hh0, hz, l0, by omega, l2, fun i hi => by rw [Nat.zero_add]; exact hp i hi⟩)
  have e0 := Got.mv _ s₁ s _ _ hh0.symm (Vm.Alike.refl _) rfl E3
  obtain rfl := e0.1
  have c4 : Steps p.tables e below (s₁.setTop (entryFrame m #[.ref a, .ref b] 2)) (T3.setTop (mkF m 9 #[.val (.ref a), .val (.ref b)] [])) := g3
  exact ⟨T3, none, _, _, _, X3, by simp, rfl, by omega, (fun _ => rfl), e0, fun fs hl => c4.trans (X3.returnOut hexec hret (hb hbytes d9) hl)⟩
theorem pays {l : Launch} {R : Room} {p : Program} {e : Env} {below : List Frame} {s : State} {sargs : Array Value} {len W : Nat} (a : Addr) (D : Cell) (fV fC : Field) (b : Addr) (A : Cell) (z : Int32) (htab : tab.before sargs s = true) (hfr : 4 ≤ R.frames) (hlo : W + 65 ≤ R.locals) :
    Back l R p e below s sargs yN len W (fun A₁ a₁ => A₁.cells + 1 ≤ R.cells ∧ A₁.slots + A.slots.size ≤ R.slots ∧ P a D fV fC b A z a₁ A₁.U) (fun A₁ _ v₁ B₁ => E a D fV fC A v₁ A₁.U B₁.U ∧ B₁.locs = A₁.locs ++ [⟨a, fC.slot⟩, ⟨a, fV.slot⟩] ∧ B₁.cells = A₁.cells + 1 ∧ B₁.slots = A₁.slots + A.slots.size) :=
  (law l a D fV fC b A z).pays htab hfr (by omega)
end New1
/-- the byte, read back as charAt reads it, is the char -/
theorem lo8_mask {x : Int32} (h0 : ¬ x < 0) (h1 : ¬ 255 < x) : lo8 x &&& 255 = x := by
  have t : ∀ k : Fin 256, lo8 (Int32.ofNat k.val) &&& 255 = Int32.ofNat k.val := by decide +kernel
  rw [Int32.lt_iff_toInt_lt] at h0 h1
  have e0 : (0 : Int32).toInt = 0 := rfl
  have e1 : (255 : Int32).toInt = 255 := rfl
  obtain ⟨k, hk⟩ : ∃ k : Nat, x.toInt = k := ⟨x.toInt.toNat, by omega⟩
  have hx : x = Int32.ofNat k := Int32.toInt_inj.mp (by rw [hk, Int32.toInt_ofNat_small (by omega)])
  rw [hx]
  exact t ⟨k, by omega⟩
end StrChars
namespace StrChars.Road
open Jvm Sem ClassFile Op Lib Jvm.Stand Jvm.Free Jvm.Free.XT
open Jvm.Lib.Cold (StaticIs)
abbrev ST : String := "java/lang/String"
/-- every table word that New1's law asks, flat -/
abbrev words : List Jvm.Cond := [.code New1.yN New1.yB 2 none, .initialized ST, .methodLink ST 27 New4.yN, .instanceMethod New4.yN,
  .code New4.yN New4.yB 6 none, .fieldLink ST 38 ST "COMPACT_STRINGS" "Z", .laysFinal ST ST "value" "[B", .fieldLink ST 9 ST "value" "[B", .laysFinal ST ST "coder" "B", .fieldLink ST 15 ST "coder" "B",
  .methodLink ST 1 Lib.objectInit, .instanceMethod Lib.objectInit, .code Lib.objectInit ⟨#[0xb1]⟩ 1 none, .methodLink ST 177 Cmp3.yN, .static Cmp3.yN, .methodLink ST 47 CodL.yN, .static CodL.yN,
  .code Cmp3.yN Cmp3.yB 6 (some (.array .byte)), .initialized U16, .arrayClass .byte, .methodLink U16 115 Cmp5.yN, .static Cmp5.yN, .code Cmp5.yN Cmp5.yB 7 (some .int), .code CodL.yN CodL.yB 2 (some .byte)]
theorem tab_of {a : Array Value} {s : State} (h : ∀ w ∈ words, w.before a s = true) : New1.tab.before a s = true := by
  have h5 : Cmp5.tab.before a s = true := unparts (wk h (.code Cmp5.yN Cmp5.yB 7 (some .int))) (wks h (.initialized Cmp5.yN.cls :: Cmp5.site))
  have hc : CodL.tab.before a s = true := unparts (wk h (.code CodL.yN CodL.yB 2 (some .byte))) (wks h (.initialized CodL.yN.cls :: CodL.site))
  have q5 : ∀ w ∈ Cmp5.tab :: words, w.before a s = true := fun w hw => (List.mem_cons.mp hw).elim (fun e => e ▸ h5) (h w)
  have h3 : Cmp3.tab.before a s = true := unparts (wk q5 (.code Cmp3.yN Cmp3.yB 6 (some (.array .byte)))) (wks q5 (.initialized Cmp3.yN.cls :: Cmp3.site))
  have q3 : ∀ w ∈ Cmp3.tab :: CodL.tab :: words, w.before a s = true := fun w hw => (List.mem_cons.mp hw).elim (fun e => e ▸ h3) fun hw => (List.mem_cons.mp hw).elim (fun e => e ▸ hc) (h w)
  have h4 : New4.tab.before a s = true := unparts (wk q3 (.code New4.yN New4.yB 6 none)) (wks q3 (.initialized New4.yN.cls :: New4.site))
  have q4 : ∀ w ∈ New4.tab :: words, w.before a s = true := fun w hw => (List.mem_cons.mp hw).elim (fun e => e ▸ h4) (h w)
  exact unparts (wk q4 (.code New1.yN New1.yB 2 none)) (wks q4 (.initialized New1.yN.cls :: New1.site))
/-- the words ride from the start Z to the walk's own state -/
theorem moved {Z s : State} {a0 args : Array Value} (hZ : Z.Warmed39 s.vm) (hw : ∀ d ∈ words, d.before a0 Z = true) : ∀ d ∈ words, d.before args s = true := fun d hd => by
  have q := hw d hd
  have t : ∀ d ∈ words, d = .arrayClass .byte ∨ (d.onTables && d.keepsFace) = true := by decide +kernel
  rcases t d hd with rfl | t
  · exact RoadKit.mvA hZ q
  · exact RoadKit.mv hZ q t
/-- WHAT COMES BACK, over the tables of the start Z: h the heap at the call, h' behind it -/
def Q (Z : State) (x : Addr) (A : Cell) (h : Heap) (v : Option Value) (h' : Heap) (L : List Loc) : Prop := v = none ∧ (∀ y ∈ L, y.base = x) ∧ RoadKit.Keep h h' [x] ∧ h'.size = h.size + 1 ∧ RoadKit.Exa Z h' x ST ∧ RoadKit.Fld Z h' x ST "value" "[B" (.ref h.size) ∧ RoadKit.Fld Z h' x ST "coder" "B" (.int 0) ∧
  (∃ V : Cell, RoadKit.Arr Z h' h.size V .byte ∧ V.vm = .none ∧ Z.vm.findClass "[B" = some V.cls ∧ V.slots.size = A.slots.size ∧ ∀ j, j < A.slots.size → V.slots[j]? = some (.int (lo8 (cv A j)))) ∧
  ∀ (O n d : String) (w : Value), RoadKit.Fld Z h x O n d w → RoadKit.slotOf Z O n d ≠ RoadKit.slotOf Z ST "value" "[B" → RoadKit.slotOf Z O n d ≠ RoadKit.slotOf Z ST "coder" "B" → RoadKit.Fld Z h' x O n d w
/-- **new String(chars) AT A CALL, IN THE ROAD'S FORM**: for specialBack behind newO: x the fresh String, b the char[] with the cell A -/
theorem back {p : Program} {l : Launch} {e : Env} {R : Room} {s : State} {args : Array Value} {below : List Frame} {len W : Nat} {Z : State} {a0 : Array Value} {h : Heap} (hZ : Z.Warmed39 s.vm) (hw : ∀ d ∈ words, d.before a0 Z = true) {kI : Nat} (wi : (Jvm.Cond.instantiable ST kI).before a0 Z = true)
    {x b : Addr} {A : Cell} {z : Int32} {v0 c0 : Value} (E : RoadKit.Exa Z h x ST) (V : RoadKit.Fld Z h x ST "value" "[B" v0) (C : RoadKit.Fld Z h x ST "coder" "B" c0) (K : RoadKit.Arr Z h b A .char) (hty : Typed .char A) (S : RoadKit.Sta Z h ST "COMPACT_STRINGS" "Z" (.int z)) (hz : ¬ z = 0)
    (l0 : 0 < A.slots.size) (l2 : A.slots.size ≤ 536870912) (hp : ∀ i, i < A.slots.size → ¬ 255 < cv A i) (hfr : 4 ≤ R.frames) (hlo : W + 65 ≤ R.locals) :
    Back l R p e below s args New1.yN len W (fun P a => a = #[.ref x, .ref b] ∧ P.U.heap = h ∧ P.cells + 1 ≤ R.cells ∧ P.slots + A.slots.size ≤ R.slots)
      (fun P _ v B => ∃ L, Q Z x A h v B.U.heap L ∧ B.locs = P.locs ++ L ∧ B.cells = P.cells + 1 ∧ B.slots = P.slots + A.slots.size) := by
  intro m meth c P g ig mk a X hg hsize hdg hW hn hp'
  obtain ⟨rfl, rfl, r1, r2⟩ := hp'
  have al : Z.vm.Alike P.U.vm := hZ.alike.trans X.warmed.alike
  obtain ⟨D, cfV, kV, iV, fV, hD, gV, stV, knV, obV, asV, slV⟩ := id V
  obtain ⟨D', cfC, kC, iC, fC, hD', gC, stC, -, -, asC, slC⟩ := id C
  cases hD.symm.trans hD'
  obtain ⟨D2, kD, e1, e2, e3, e4, e5⟩ := id E
  cases hD.symm.trans e1
  obtain ⟨c2, k2, i1, i2, i3, -⟩ := Cond.instantiable_spec wi
  cases e2.symm.trans i1
  cases e3.symm.trans i2
  obtain ⟨kU, u1, u2⟩ := al.2.2 _ _ e3
  have hB : Blank ST x D P.U := ⟨hD, ⟨knV, fun q hq => by rw [hq] at obV; cases obV⟩, by rw [al.findClass]; exact e2, kU, u1, by rw [u2]; exact i3, by rw [u2]; exact e5 i3⟩
  have F1 : Found ST "value" "[B" fV P.U := ⟨SBG.found_only al ⟨cfV, kV, iV, gV⟩, stV⟩
  have F2 : Found ST "coder" "B" fC P.U := ⟨SBG.found_only al ⟨cfC, kC, iC, gC⟩, stC⟩
  have hA : Ch b A P.U := ⟨⟨K.1, State.isArrayOf_alike al K.2.1, K.2.2, by omega⟩, hty⟩
  have hS : StaticIs P.U ST "COMPACT_STRINGS" "Z" (.int z) := by
    obtain ⟨cfS, iS, kS, fS, st, cS, t1, t2, t3, t4, t5, t6, t7⟩ := S
    exact StaticIs.there (s := { Z with heap := P.U.heap }) ⟨cfS, iS, kS, fS, st, cS, t1, t2, t3, t4, t5, (fun q => by rw [q] at t6; cases t6), t7⟩ al rfl
  obtain ⟨v, B, X', ⟨⟨hv, E', V', q1, q2, q3, q4, q5, q6, q7, q8, q9, q10, q11⟩, hl, hc, hs⟩, st⟩ := New1.pays x D fV fC b A z (tab_of (moved hZ hw)) hfr hlo m meth c P g ig mk _ X hg hsize hdg hW hn ⟨r1, r2, rfl, hB, F1, F2, hA, hS, hz, l0, l2, hp⟩
  have al' : Z.vm.Alike B.U.vm := hZ.alike.trans X'.warmed.alike
  have hsz : E'.slots.size = D.slots.size := by
    obtain ⟨-, -, -, kB, w1, w2, w3⟩ := q1
    obtain ⟨kB', y1, y2⟩ := al'.2.2 _ _ e3
    rw [q2.2.1] at w1
    cases w1.symm.trans y1
    rw [w3, e5 i3, y2]
  refine ⟨v, B, X', ⟨_, ⟨hv, ?_, ⟨by omega, fun y cy hy hn' => q10 y cy (by simpa using hn') hy, fun y cy hy => ?_⟩, q11, ⟨E', _, q1.1, by rw [q2.2.1]; exact e2, by rw [q2.2.1]; exact e3, by rw [q2.1]; exact obV, fun _ => by rw [hsz]; exact e5 i3⟩,
    ⟨E', cfV, kV, iV, fV, q1.1, gV, stV, by rw [q2.1]; exact knV, by rw [q2.1]; exact obV, by rw [q2.2.1]; exact asV, q3⟩, ⟨E', cfC, kC, iC, fC, q1.1, gC, stC, by rw [q2.1]; exact knV, by rw [q2.1]; exact obV, by rw [q2.2.1]; exact asC, q4⟩,
    ⟨V', ⟨q5.1, State.isArrayOf_alike al'.symm q5.2.1, q5.2.2.1⟩, q6, by rw [← al'.findClass]; exact q7, q8, fun j hj => by have := q9 j hj; rwa [Nat.zero_add] at this⟩, fun O n d w F n1 n2 => ?_⟩, hl, hc, hs⟩, st⟩
  · intro y hy
    simp only [List.mem_cons, List.not_mem_nil, or_false] at hy
    rcases hy with rfl | rfl <;> rfl
  · by_cases q : y = x
    · subst q
      cases hD.symm.trans hy
      exact ⟨E', q1.1, q2.2.1, q2.1, hsz⟩
    · exact ⟨cy, q10 y cy q hy, rfl, rfl, rfl⟩
  · obtain ⟨D3, cf, k, i, f, g1, g2, g3, g4, g5, g6, g7⟩ := F
    cases hD.symm.trans g1
    simp only [RoadKit.slotOf, g2, gV, gC, Option.map_some, Option.getD_some] at n1 n2
    exact ⟨E', cf, k, i, f, q1.1, g2, g3, by rw [q2.1]; exact g4, by rw [q2.1]; exact g5, by rw [q2.2.1]; exact g6, by rw [q2.2.2 f.slot (by simp [n1, n2])]; exact g7⟩
end StrChars.Road
namespace StrChars.Road
open Jvm Sem ClassFile Op Lib Jvm.Stand Jvm.Free Jvm.Free.XT
/-- WHAT COMES BACK, the byte[] as a list of values -/
def QA (Z : State) (x : Addr) (zn : Int32) (cs : List Int32) (h : Heap) (v : Option Value) (h' : Heap) (L : List Loc) : Prop := v = none ∧ (∀ y ∈ L, y.base = x) ∧ RoadKit.Keep h h' [x] ∧ h'.size = h.size + 1 ∧ RoadKit.Exa Z h' x ST ∧ RoadKit.Fld Z h' x ST "value" "[B" (.ref h.size) ∧ RoadKit.Fld Z h' x ST "coder" "B" (.int 0) ∧
  (∃ kb, Z.vm.findClass "[B" = some kb ∧ RoadKit.Arv Z h' h.size kb .byte zn (cs.map fun c => .int (lo8 c)) (.int 0)) ∧
  ∀ (O n d : String) (w : Value), RoadKit.Fld Z h x O n d w → RoadKit.slotOf Z O n d ≠ RoadKit.slotOf Z ST "value" "[B" → RoadKit.slotOf Z O n d ≠ RoadKit.slotOf Z ST "coder" "B" → RoadKit.Fld Z h' x O n d w
/-- **new String(chars) AT A CALL, THE ARRAYS AS LISTS**: the char[] at b holds cs, not empty, no char above 255 -/
theorem backArv {p : Program} {l : Launch} {e : Env} {R : Room} {s : State} {args : Array Value} {below : List Frame} {len W : Nat} {Z : State} {a0 : Array Value} {h : Heap} (hZ : Z.Warmed39 s.vm) (hw : ∀ d ∈ words, d.before a0 Z = true) {kI : Nat} (wi : (Jvm.Cond.instantiable ST kI).before a0 Z = true)
    {x b : Addr} {k : ClassId} {zn z : Int32} {cs : List Int32} {dv v0 c0 : Value} (E : RoadKit.Exa Z h x ST) (V : RoadKit.Fld Z h x ST "value" "[B" v0) (C : RoadKit.Fld Z h x ST "coder" "B" c0) (K : RoadKit.Arv Z h b k .char zn (cs.map Value.int) dv) (S : RoadKit.Sta Z h ST "COMPACT_STRINGS" "Z" (.int z)) (hz : ¬ z = 0)
    (hlen : zn.toNatClampNeg = cs.length) (h0 : 0 < cs.length) (hbig : cs.length ≤ 536870912) (hall : ∀ c ∈ cs, ¬ 255 < c) (hfr : 4 ≤ R.frames) (hlo : W + 65 ≤ R.locals) :
    Back l R p e below s args New1.yN len W (fun P a => a = #[.ref x, .ref b] ∧ P.U.heap = h ∧ P.cells + 1 ≤ R.cells ∧ P.slots + cs.length ≤ R.slots)
      (fun P _ v B => ∃ L, QA Z x zn cs h v B.U.heap L ∧ B.locs = P.locs ++ L ∧ B.cells = P.cells + 1 ∧ B.slots = P.slots + cs.length) := by
  obtain ⟨A, K1, K2, K3, K4, K5, K6⟩ := K
  have e : A.slots.size = cs.length := K3.trans hlen
  have hat : ∀ (i : Nat) (hi : i < cs.length), A.slots[i]? = some (.int cs[i]) := fun i hi => by rw [K5 i (by omega)]; simp [List.getD_eq_getElem?_getD, hi]
  have hcv : ∀ (i : Nat) (hi : i < cs.length), cv A i = cs[i] := fun i hi => by unfold cv; rw [hat i hi]
  have hty : Typed .char A := fun i v hv => by
    have hi : i < A.slots.size := (Array.getElem?_eq_some_iff.mp hv).1
    have q := K5 i hi
    rw [hv] at q
    rw [Option.some.inj q]
    exact K6 i hi
  refine Back.mono (back hZ hw wi E V C K1 hty S hz (by omega) (by omega) (fun i hi => by rw [hcv i (by omega)]; exact hall _ (List.getElem_mem _)) hfr hlo) (fun P a hp => ⟨hp.1, hp.2.1, hp.2.2.1, by rw [e]; exact hp.2.2.2⟩) (fun P a v B hp hq => ?_)
  obtain ⟨L, ⟨q1, q2, q3, q4, q5, q6, q7, ⟨V', v1, v2, v3, v4, v5⟩, q9⟩, hl, hc, hs⟩ := hq
  refine ⟨L, ⟨q1, q2, q3, q4, q5, q6, q7, ⟨V'.cls, v3, V', v1, rfl, by rw [v4, e, hlen], K4, fun i hi => ?_, fun i hi => ?_⟩, q9⟩, hl, hc, by rw [hs, e]⟩
  · have hi' : i < cs.length := by omega
    rw [v5 i (by omega), hcv i hi']; simp [List.getD_eq_getElem?_getD, hi']
  · have hi' : i < cs.length := by omega
    simp only [List.getD_eq_getElem?_getD, List.getElem?_map, List.getElem?_eq_getElem hi', Option.map_some, Option.getD_some]
    exact fits_lo8 _
end StrChars.Road
namespace StrChars.Road
open Jvm Sem ClassFile Op Lib Jvm.Stand Jvm.Free Jvm.Free.XT
/-- WHAT COMES BACK, in the writer's own shape -/
def QV (Z : State) (x : Addr) (N : Int32) (bs : List Int32) (h : Heap) (n0 : Nat) (v : Option Value) (h' : Heap) (L : List Loc) : Prop := v = none ∧ RoadKit.Fr n0 L ∧ RoadKit.Keep h h' [x] ∧ RoadKit.Exa Z h' x ST ∧ RoadKit.Fld Z h' x ST "coder" "B" (.int 0) ∧
  ∃ (t : Addr) (kb : ClassId), n0 ≤ t ∧ h.size ≤ t ∧ ¬ t = x ∧ RoadKit.Fld Z h' x ST "value" "[B" (.ref t) ∧ RoadKit.Arv Z h' t kb .byte N (bs.map Value.int) (.int 0)
/-- **new String(chars) AT A CALL, FOR THE WRITER**: a char[] of n known ints, each 0 to 255 -/
theorem backV {p : Program} {l : Launch} {e : Env} {R : Room} {s : State} {args : Array Value} {below : List Frame} {len W : Nat} {Z : State} {a0 : Array Value} {h : Heap} (hZ : Z.Warmed39 s.vm) (hw : ∀ d ∈ words, d.before a0 Z = true) {kI : Nat} (wi : (Jvm.Cond.instantiable ST kI).before a0 Z = true)
    {x b : Addr} {kC : ClassId} {cs bs : List Int32} {d v0 c0 : Value} {z N : Int32} {n n0 : Nat} (hx0 : n0 ≤ x) (hh0 : n0 ≤ h.size) (E : RoadKit.Exa Z h x ST) (V : RoadKit.Fld Z h x ST "value" "[B" v0) (C : RoadKit.Fld Z h x ST "coder" "B" c0) (K : RoadKit.Arv Z h b kC .char N (cs.map Value.int) d) (S : RoadKit.Sta Z h ST "COMPACT_STRINGS" "Z" (.int z)) (hz : ¬ z = 0)
    (hn : cs.length = n) (hN : N = Int32.ofNat n) (l0 : 0 < n) (l2 : n ≤ 4000) (hp : ∀ c ∈ cs, ¬ c < 0 ∧ ¬ (255 : Int32) < c) (hb : bs = cs.map (fun c => c.toInt8.toInt32)) (hfr : 4 ≤ R.frames) (hlo : W + 65 ≤ R.locals) :
    Back l R p e below s args (⟨"java/lang/String", "<init>", "([C)V"⟩ : MethodName) len W (fun P a => a = #[.ref x, .ref b] ∧ P.U.heap = h ∧ P.cells + 1 ≤ R.cells ∧ P.slots + n ≤ R.slots)
      (fun P _ v B => ∃ L, QV Z x N bs h n0 v B.U.heap L ∧ B.locs = P.locs ++ L ∧ B.cells = P.cells + 1 ∧ B.slots = P.slots + n) := by
  subst hn hN hb
  refine Back.mono (backArv hZ hw wi E V C K S hz (n32 (by omega)) l0 (by omega) (fun c hc => (hp c hc).2) hfr hlo) (fun P a hp => hp) (fun P a v B hp hq => ?_)
  obtain ⟨L, ⟨q1, q2, q3, q4, q5, q6, q7, ⟨kb, v1, v2⟩, q9⟩, hl, hc, hs⟩ := hq
  exact ⟨L, ⟨q1, fun y hy => by rw [q2 y hy]; exact hx0, q3, q5, q7, h.size, kb, hh0, Nat.le_refl _, Nat.ne_of_gt E.lt, q6, by rw [List.map_map]; exact v2⟩, hl, hc, hs⟩
end StrChars.Road
namespace StrChars
open Jvm Sem ClassFile Op Lib Jvm.Stand Jvm.Free.XT Jvm.Free.ALB Jvm.Free.JM Jvm.Free
open Jvm.Lib.Cold (StaticIs)
def hi8 (x : Int32) : Int32 := lo8 (x >>> ((8 : Int32) &&& 31))
/-- what StringUTF16.getChar makes of two bytes -/
def pairCh (u v : Int32) : Int32 := (((u &&& 255) <<< ((0 : Int32) &&& 31)) ||| ((v &&& 255) <<< ((8 : Int32) &&& 31))).toUInt32.toUInt16.toUInt32.toInt32
theorem lo8_and (x : Int32) : (lo8 x &&& 255).toBitVec.toNat = x.toBitVec.toNat % 256 := by
  have h : (lo8 x).toBitVec = (x.toBitVec.signExtend 8).signExtend 32 := by rw [lo8, Int8.toBitVec_toInt32, Int32.toBitVec_toInt8]
  rw [Int32.toBitVec_and, BitVec.toNat_and, h]
  have e : ((x.toBitVec.signExtend 8).signExtend 32).toNat % 256 = x.toBitVec.toNat % 256 := by
    rw [BitVec.toNat_signExtend]
    have hlt := x.toBitVec.isLt
    simp only [BitVec.toNat_setWidth, BitVec.toNat_signExtend]
    split <;> split <;> omega
  rw [← e]
  exact Nat.and_two_pow_sub_one_eq_mod _ 8
theorem pair_says {c : Int32} (h0 : ¬ c < 0) (h1 : ¬ 65535 < c) : pairCh (lo8 c) (hi8 c) = c := by
  rw [Int32.lt_iff_toInt_lt] at h0 h1
  have e0 : (0 : Int32).toInt = 0 := rfl
  have e1 : (65535 : Int32).toInt = 65535 := rfl
  have hc : c.toInt = c.toBitVec.toNat := by
    have := c.toBitVec.isLt
    have e : c.toInt = c.toBitVec.toInt := rfl
    rw [e] at h0 h1
    rw [e]
    rw [BitVec.toInt_eq_toNat_cond] at h0 h1 ⊢
    split at h0 <;> split <;> omega
  have hn : c.toBitVec.toNat < 65536 := by omega
  have a1 := lo8_and c
  have a2 : (hi8 c &&& 255).toBitVec.toNat = c.toBitVec.toNat / 256 := by
    rw [hi8, lo8_and]
    have e : ((8 : Int32) &&& 31) = 8 := by decide
    rw [e, Int32.toBitVec_shiftRight]
    have e2 : ((8 : Int32).toBitVec.smod 32) = 8#32 := by decide
    rw [e2, BitVec.sshiftRight_eq', BitVec.toNat_sshiftRight_of_msb_false (by rw [BitVec.msb_eq_false_iff_two_mul_lt]; omega)]
    show c.toBitVec.toNat >>> 8 % 256 = _
    rw [Nat.shiftRight_eq_div_pow]
    omega
  unfold pairCh
  apply Int32.toBitVec_inj.mp
  apply BitVec.eq_of_toNat_eq
  have f0 : ((0 : Int32) &&& 31) = 0 := by decide
  have f8 : ((8 : Int32) &&& 31) = 8 := by decide
  rw [f0, f8]
  have g : (((lo8 c &&& 255) <<< (0 : Int32)) ||| ((hi8 c &&& 255) <<< (8 : Int32))).toBitVec.toNat = c.toBitVec.toNat := by
    rw [Int32.toBitVec_or, Int32.toBitVec_shiftLeft, Int32.toBitVec_shiftLeft]
    have s0 : ((0 : Int32).toBitVec.smod 32) = 0#32 := by decide
    have s8 : ((8 : Int32).toBitVec.smod 32) = 8#32 := by decide
    rw [s0, s8, BitVec.toNat_or]
    simp only [BitVec.shiftLeft_eq', BitVec.toNat_shiftLeft, a1, a2]
    show (c.toBitVec.toNat % 256) <<< 0 % 2 ^ 32 ||| (c.toBitVec.toNat / 256) <<< 8 % 2 ^ 32 = _
    rw [Nat.shiftLeft_zero, Nat.mod_eq_of_lt (show c.toBitVec.toNat % 256 < 2 ^ 32 by omega), Nat.mod_eq_of_lt (show (c.toBitVec.toNat / 256) <<< 8 < 2 ^ 32 by rw [Nat.shiftLeft_eq]; omega), Nat.or_comm, ← Nat.shiftLeft_add_eq_or_of_lt (by omega), Nat.shiftLeft_eq]
    omega
  show BitVec.toNat (((((lo8 c &&& 255) <<< (0 : Int32)) ||| ((hi8 c &&& 255) <<< (8 : Int32))).toBitVec.setWidth 16).setWidth 32) = _
  rw [BitVec.toNat_setWidth, BitVec.toNat_setWidth, g]
  omega
end StrChars
namespace StrChars
open Jvm Sem ClassFile Op Lib Jvm.Stand Jvm.Free.XT Jvm.Free.ALB Jvm.Free.JM Jvm.Free
open Jvm.Lib.Cold (StaticIs)
/-- the array's cell V codes the n chars f 0 .. f (n - 1) by the coder cd, as the JDK does: coder 1 just where some char is above 255 -/
def Cod (cd : Int32) (n : Nat) (f : Nat → Int32) (V : Cell) : Prop := (cd = 0 ∧ V.slots.size = n ∧ ∀ j, j < n → V.slots[j]? = some (.int (lo8 (f j))) ∧ ¬ 255 < f j) ∨ (cd = 1 ∧ V.slots.size = 2 * n ∧ (∀ j, j < n → V.slots[2 * j]? = some (.int (lo8 (f j))) ∧ V.slots[2 * j + 1]? = some (.int (hi8 (f j)))) ∧ ∃ j, j < n ∧ 255 < f j)
/-- **x is a String of the n chars f 0 .. f (n - 1)**, Latin-1 or UTF-16; its array at t has the cell V -/
def Txt (x t : Addr) (V : Cell) (cd : Int32) (n : Nat) (f : Nat → Int32) (U : State) : Prop := Exact "java/lang/String" x U ∧ Has x "java/lang/String" "value" "[B" (.ref t) U ∧ Has x "java/lang/String" "coder" "B" (.int cd) U ∧ XT.Arr .byte t V U ∧ Cod cd n f V ∧ ∀ j, j < n → ¬ f j < 0 ∧ ¬ 65535 < f j
theorem Txt.mv {x t : Addr} {V : Cell} {cd : Int32} {n : Nat} {f : Nat → Int32} {U U' : State} (h : Txt x t V cd n f U) (hal : U.vm.Alike U'.vm) (hh : U'.heap = U.heap) : Txt x t V cd n f U' := ⟨h.1.mv hal hh, h.2.1.mv hal hh, h.2.2.1.mv hal hh, h.2.2.2.1.mv hal hh, h.2.2.2.2⟩
end StrChars
namespace StrChars.Road
open Jvm Sem ClassFile Op Lib Jvm.Stand Jvm.Free Jvm.Free.XT
open Jvm.Lib.Cold (StaticIs)
theorem consq {a : Array Value} {s : State} {c : Jvm.Cond} {L : List Jvm.Cond} (h0 : c.before a s = true) (h : ∀ w ∈ L, w.before a s = true) : ∀ w ∈ c :: L, w.before a s = true := fun w hw => (List.mem_cons.mp hw).elim (fun e => e ▸ h0) (h w)
/-- the bytes of the chars cs, low before high -/
def wideBytes : List Int32 → List Value
  | [] => []
  | c :: cs => .int (lo8 c) :: .int (hi8 c) :: wideBytes cs
theorem wide_lo (d : Value) : ∀ (cs : List Int32) (j : Nat), j < cs.length → (wideBytes cs).getD (2 * j) d = .int (lo8 (cs.getD j 0))
  | [], j, h => absurd h (Nat.not_lt_zero j)
  | c :: cs, 0, _ => rfl
  | c :: cs, j + 1, h => by
    have q := wide_lo d cs j (by simpa using h)
    rw [show 2 * (j + 1) = 2 * j + 1 + 1 from by omega]
    simpa [wideBytes] using q
theorem wide_hi (d : Value) : ∀ (cs : List Int32) (j : Nat), j < cs.length → (wideBytes cs).getD (2 * j + 1) d = .int (hi8 (cs.getD j 0))
  | [], j, h => absurd h (Nat.not_lt_zero j)
  | c :: cs, 0, _ => rfl
  | c :: cs, j + 1, h => by
    have q := wide_hi d cs j (by simpa using h)
    rw [show 2 * (j + 1) + 1 = 2 * j + 1 + 1 + 1 from by omega]
    simpa [wideBytes] using q
theorem low_at (d : Value) (cs : List Int32) (j : Nat) (h : j < cs.length) : (cs.map fun c => Value.int (lo8 c)).getD j d = .int (lo8 (cs.getD j 0)) := by
  simp [List.getD_eq_getElem?_getD, h]
/-- an array of N2 bytes vs codes the chars cs by the coder cd -/
def CodA (cs : List Int32) (cd N2 : Int32) (vs : List Value) : Prop := (cd = 0 ∧ N2 = Int32.ofNat cs.length ∧ vs = (cs.map fun c => Value.int (lo8 c)) ∧ ∀ c ∈ cs, ¬ 255 < c) ∨ (cd = 1 ∧ N2 = Int32.ofNat (2 * cs.length) ∧ vs = wideBytes cs ∧ ∃ c ∈ cs, 255 < c)
theorem CodA.cod {cs : List Int32} {cd N2 : Int32} {vs : List Value} {V : Cell} (h : CodA cs cd N2 vs) (hn : 2 * cs.length < 2 ^ 31) (hs : V.slots.size = N2.toNatClampNeg) (hv : RoadKit.Has V vs (.int 0)) : Cod cd cs.length (fun j => cs.getD j 0) V := by
  rcases h with ⟨rfl, rfl, rfl, h⟩ | ⟨rfl, rfl, rfl, c, hc, hw⟩
  · rw [n32 (by omega)] at hs
    exact Or.inl ⟨rfl, hs, fun j hj => ⟨by rw [hv j (by omega), low_at _ _ _ hj], by
      have e : cs.getD j 0 = cs[j] := by simp [List.getD_eq_getElem?_getD, hj]
      show ¬ 255 < cs.getD j 0
      rw [e]; exact h _ (List.getElem_mem _)⟩⟩
  · rw [n32 (by omega)] at hs
    obtain ⟨j, hj, rfl⟩ := List.getElem_of_mem hc
    exact Or.inr ⟨rfl, hs, fun j hj => ⟨by rw [hv _ (by omega), wide_lo _ _ _ hj], by rw [hv _ (by omega), wide_hi _ _ _ hj]⟩, j, hj, by
      have e : cs.getD j 0 = cs[j] := by simp [List.getD_eq_getElem?_getD, hj]
      show 255 < cs.getD j 0
      rw [e]; exact hw⟩
/-- an object of exactly java/lang/String, its two fields found: as the laws ask it -/
theorem strObj {Z U : State} {a0 : Array Value} {kI : Nat} (wi : (Jvm.Cond.instantiable ST kI).before a0 Z = true) (al : Z.vm.Alike U.vm) {x : Addr} {v0 c0 : Value} (E : RoadKit.Exa Z U.heap x ST) (V : RoadKit.Fld Z U.heap x ST "value" "[B" v0) (C : RoadKit.Fld Z U.heap x ST "coder" "B" c0) :
    ∃ (D : Cell) (fV fC : Field), Blank ST x D U ∧ Found ST "value" "[B" fV U ∧ Found ST "coder" "B" fC U ∧ D.slots[fV.slot]? = some v0 ∧ D.slots[fC.slot]? = some c0 ∧ RoadKit.slotOf Z ST "value" "[B" = fV.slot ∧ RoadKit.slotOf Z ST "coder" "B" = fC.slot := by
  obtain ⟨D, cfV, kV, iV, fV, hD, gV, stV, knV, obV, asV, slV⟩ := V
  obtain ⟨D', cfC, kC, iC, fC, hD', gC, stC, -, -, asC, slC⟩ := C
  cases hD.symm.trans hD'
  obtain ⟨D2, kD, e1, e2, e3, e4, e5⟩ := E
  cases hD.symm.trans e1
  obtain ⟨c2, k2, i1, i2, i3, -⟩ := Cond.instantiable_spec wi
  cases e2.symm.trans i1
  cases e3.symm.trans i2
  obtain ⟨kU, u1, u2⟩ := al.2.2 _ _ e3
  exact ⟨D, fV, fC, ⟨hD, ⟨knV, fun q hq => by rw [hq] at obV; cases obV⟩, by rw [al.findClass]; exact e2, kU, u1, by rw [u2]; exact i3, by rw [u2]; exact e5 i3⟩, ⟨SBG.found_only al ⟨cfV, kV, iV, gV⟩, stV⟩, ⟨SBG.found_only al ⟨cfC, kC, iC, gC⟩, stC⟩, slV, slC, by simp [RoadKit.slotOf, gV], by simp [RoadKit.slotOf, gC]⟩
theorem sta_is {Z U : State} (al : Z.vm.Alike U.vm) {C n d : String} {v : Value} (S : RoadKit.Sta Z U.heap C n d v) : StaticIs U C n d v := by
  obtain ⟨cfS, iS, kS, fS, st, cS, t1, t2, t3, t4, t5, t6, t7⟩ := S
  exact StaticIs.there (s := { Z with heap := U.heap }) ⟨cfS, iS, kS, fS, st, cS, t1, t2, t3, t4, t5, (fun q => by rw [q] at t6; cases t6), t7⟩ al rfl
end StrChars.Road
namespace StrChars
open Jvm Sem ClassFile Op Lib Jvm.Stand Jvm.Free.XT Jvm.Free.ALB Jvm.Free.JM Jvm.Free
open Jvm.Lib.Cold (StaticIs)
/-- what place i of a byte[]'s cell holds -/
def yv (A : Cell) (i : Nat) : Int32 := match A.slots[i]? with | some (.int x) => x | _ => 0
theorem yv_get {a : Addr} {A : Cell} {U : State} (h : XT.Arr .byte a A U) (ht : Typed .byte A) {i : Nat} (hi : i < A.slots.size) : A.slots[i]? = some (.int (yv A i)) := by
  have e := Array.getElem?_eq_getElem hi
  have f := ht i _ e
  unfold yv; rw [e]
  generalize A.slots[i] = v at f
  cases v <;> simp [fits] at f ⊢
/-- the two arrays are equal, place for place -/
def EqC (A B : Cell) : Prop := A.slots.size = B.slots.size ∧ ∀ i, i < A.slots.size → yv A i = yv B i
/-- a boolean that says whether p -/
def Says01 (q : Prop) (r : Option Value) (s u : State) : Prop := ∃ v : Int32, r = some (.int v) ∧ u.heap = s.heap ∧ ((v = 1 ∧ q) ∨ (v = 0 ∧ ¬ q))
theorem Says01.mv {q : Prop} : ∀ r (U U' V V' : State), U'.heap = U.heap → V.vm.Alike V'.vm → V'.heap = V.heap → Says01 q r U V → Says01 q r U' V' :=
  fun r U U' V V' h1 _ h2 ⟨v, a, b, c⟩ => ⟨v, a, by rw [h1, h2]; exact b, c⟩
namespace LEq
def yN : MethodName := ⟨"java/lang/StringLatin1", "equals", "([B[B)Z"⟩
abbrev yB : ByteArray := jdk_43_method_13_code
theorem d0 : decode yB 0 = .ok (.aload_n 0, 1) := by decide +kernel
theorem d1 : decode yB 1 = .ok (.arraylength, 1) := by decide +kernel
theorem d2 : decode yB 2 = .ok (.aload_n 1, 1) := by decide +kernel
theorem d3 : decode yB 3 = .ok (.arraylength, 1) := by decide +kernel
theorem d4 : decode yB 4 = .ok (.if_icmp (.ne) 30, 3) := by decide +kernel
theorem d7 : decode yB 7 = .ok (.iconst 0, 1) := by decide +kernel
theorem d8 : decode yB 8 = .ok (.istore_n 2, 1) := by decide +kernel
theorem d9 : decode yB 9 = .ok (.iload_n 2, 1) := by decide +kernel
theorem d10 : decode yB 10 = .ok (.aload_n 0, 1) := by decide +kernel
theorem d11 : decode yB 11 = .ok (.arraylength, 1) := by decide +kernel
theorem d12 : decode yB 12 = .ok (.if_icmp (.ge) 20, 3) := by decide +kernel
theorem d15 : decode yB 15 = .ok (.aload_n 0, 1) := by decide +kernel
theorem d16 : decode yB 16 = .ok (.iload_n 2, 1) := by decide +kernel
theorem d17 : decode yB 17 = .ok (.baload, 1) := by decide +kernel
theorem d18 : decode yB 18 = .ok (.aload_n 1, 1) := by decide +kernel
theorem d19 : decode yB 19 = .ok (.iload_n 2, 1) := by decide +kernel
theorem d20 : decode yB 20 = .ok (.baload, 1) := by decide +kernel
theorem d21 : decode yB 21 = .ok (.if_icmp (.eq) 5, 3) := by decide +kernel
theorem d24 : decode yB 24 = .ok (.iconst 0, 1) := by decide +kernel
theorem d25 : decode yB 25 = .ok (.ireturn, 1) := by decide +kernel
theorem d26 : decode yB 26 = .ok (.iinc 2 1, 3) := by decide +kernel
theorem d29 : decode yB 29 = .ok (.goto (-20), 3) := by decide +kernel
theorem d32 : decode yB 32 = .ok (.iconst 1, 1) := by decide +kernel
theorem d33 : decode yB 33 = .ok (.ireturn, 1) := by decide +kernel
theorem d34 : decode yB 34 = .ok (.iconst 0, 1) := by decide +kernel
theorem d35 : decode yB 35 = .ok (.ireturn, 1) := by decide +kernel
def site : List Cond := []
def tab : Cond := tabOf yN yB 3 (some .boolean) site
def P (a : Addr) (A : Cell) (b : Addr) (B : Cell) (args : Array Value) (s : State) : Prop := args = #[.ref a, .ref b] ∧ XT.Arr .byte a A s ∧ Typed .byte A ∧ XT.Arr .byte b B s ∧ Typed .byte B
/-- whether two byte[] are equal, place for place -/
theorem law (l : Launch) (a : Addr) (A : Cell) (b : Addr) (B : Cell) : Law l yN 2 2 0 0 yB 3 (some .boolean) site (P a A b B) (Says01 (EqC A B)) [] 0 0 := by
  refine Law.of_walk (plainFor_of_name (by decide +kernel)) (by decide +kernel) (by decide +kernel) (by decide) (fun _ _ h => by rw [h.1]; rfl) (fun _ U U' hal hh h => ⟨h.1, h.2.1.mv hal hh, h.2.2.1, h.2.2.2.1.mv hal hh, h.2.2.2.2⟩) (fun r U U' V V' h1 hal h2 h => Says01.mv r U U' V V' h1 hal h2 h) ?_
  intro p e s m args below meth c s₁ X0 hexec hbytes hml hret hlk hnm hown hh0 W hP
  obtain ⟨rfl, hA, tA, hB, tB⟩ := hP
  have a31 := hA.2.2.2
  have b31 := hB.2.2.2
  have hA0 := hA.mv X0.warmed.alike hh0
  have hB0 := hB.mv X0.warmed.alike hh0
  have c1 : Steps p.tables e below (s₁.setTop (entryFrame m #[.ref a, .ref b] 3)) (s₁.setTop (mkF m 0 #[.val (.ref a), .val (.ref b), .unset] [])) := entry rfl
  have c2 : Steps p.tables e below (s₁.setTop (entryFrame m #[.ref a, .ref b] 3)) (s₁.setTop (mkF m 4 #[.val (.ref a), .val (.ref b), .unset] [.int (Int32.ofNat B.slots.size), .int (Int32.ofNat A.slots.size)])) := c1.trans (by
    refine XS.aloadN X0.here hexec rfl (hb hbytes d0) rfl rfl ?_
    refine X0.alen hexec hA0 rfl rfl (hb hbytes d1) ?_
    refine XS.aloadN X0.here hexec rfl (hb hbytes d2) rfl rfl ?_
    refine X0.alen hexec hB0 rfl rfl (hb hbytes d3) ?_
    exact Steps.refl _)
  by_cases hs : A.slots.size = B.slots.size
  · have c3 : Steps p.tables e below (s₁.setTop (entryFrame m #[.ref a, .ref b] 3)) (s₁.setTop (mkF m 9 #[.val (.ref a), .val (.ref b), .val (.int 0)] [])) := c2.trans (by
      refine XS.icmpNo X0.here hexec rfl (hb hbytes d4) rfl (ii_ne_f (by rw [hs])) ?_
      refine iconstV X0.here hexec rfl 0 (hb hbytes d7) (by decide) ?_
      refine XS.istoreN X0.here hexec rfl (hb hbytes d8) rfl rfl ?_
      exact Steps.refl _)
    have loop : ∀ (r i : Nat), i + r = A.slots.size → (∀ j, j < i → yv A j = yv B j) → Steps p.tables e below (s₁.setTop (entryFrame m #[.ref a, .ref b] 3)) (s₁.setTop (mkF m 9 #[.val (.ref a), .val (.ref b), .val (.int (Int32.ofNat i))] [])) → ∃ (pc : Nat) (Ls : Array Slot) (v : Int32), (pc = 25 ∨ pc = 33) ∧ ((v = 1 ∧ EqC A B) ∨ (v = 0 ∧ ¬ EqC A B)) ∧ Steps p.tables e below (s₁.setTop (entryFrame m #[.ref a, .ref b] 3)) (s₁.setTop (mkF m pc Ls [.int v])) := by
      intro r
      induction r with
      | zero =>
        intro i hi he cl
        exact ⟨33, _, 1, Or.inr rfl, Or.inl ⟨rfl, hs, fun j hj => he j (by omega)⟩, cl.trans (by
          refine XS.iloadN X0.here hexec rfl (hb hbytes d9) rfl ?_
          refine XS.aloadN X0.here hexec rfl (hb hbytes d10) rfl rfl ?_
          refine X0.alen hexec hA0 rfl rfl (hb hbytes d11) ?_
          refine XS.icmpYes X0.here hexec rfl (pc0 := 12) rfl (hb hbytes d12) rfl (ii_ge_t (nlt32 (by omega) (by omega))) (by decide) rfl ?_
          refine iconstV X0.here hexec rfl 1 (hb hbytes d32) (by decide) ?_
          exact Steps.refl _)⟩
      | succ r ih =>
        intro i hi he cl
        have c4 : Steps p.tables e below (s₁.setTop (entryFrame m #[.ref a, .ref b] 3)) (s₁.setTop (mkF m 21 #[.val (.ref a), .val (.ref b), .val (.int (Int32.ofNat i))] [.int (yv B i), .int (yv A i)])) := cl.trans (by
          refine XS.iloadN X0.here hexec rfl (hb hbytes d9) rfl ?_
          refine XS.aloadN X0.here hexec rfl (hb hbytes d10) rfl rfl ?_
          refine X0.alen hexec hA0 rfl rfl (hb hbytes d11) ?_
          refine XS.icmpNo X0.here hexec rfl (hb hbytes d12) rfl (ii_ge_f (lt32 (by omega) (by omega))) ?_
          refine XS.aloadN X0.here hexec rfl (hb hbytes d15) rfl rfl ?_
          refine XS.iloadN X0.here hexec rfl (hb hbytes d16) rfl ?_
          refine X0.aget hexec hA0 rfl (yv_get hA tA (i := i) (by omega)) rfl rfl (hb hbytes d17) ?_
          refine XS.aloadN X0.here hexec rfl (hb hbytes d18) rfl rfl ?_
          refine XS.iloadN X0.here hexec rfl (hb hbytes d19) rfl ?_
          refine X0.aget hexec hB0 rfl (yv_get hB tB (i := i) (by omega)) rfl rfl (hb hbytes d20) ?_
          exact Steps.refl _)
        by_cases hv : yv A i = yv B i
        · have c5 : Steps p.tables e below (s₁.setTop (entryFrame m #[.ref a, .ref b] 3)) (s₁.setTop (mkF m 9 #[.val (.ref a), .val (.ref b), .val (.int (Int32.ofNat i + 1))] [])) := c4.trans (by
            refine XS.icmpYes X0.here hexec rfl (pc0 := 21) rfl (hb hbytes d21) rfl (ii_eq_t hv) (by decide) rfl ?_
            refine iincV X0.here hexec rfl 1 (hb hbytes d26) (by decide) rfl rfl ?_
            refine XS.goto X0.here hexec rfl (pc0 := 29) rfl (hb hbytes d29) (by decide) rfl ?_
            exact Steps.refl _)
          rw [succ32] at c5
          exact ih (i + 1) (by omega) (fun j hj => by
            by_cases e : j = i
            · rw [e]; exact hv
            · exact he j (by omega)) c5
        · exact ⟨25, _, 0, Or.inl rfl, Or.inr ⟨rfl, fun q => hv (q.2 i (by omega))⟩, c4.trans (by
            refine XS.icmpNo X0.here hexec rfl (hb hbytes d21) rfl (ii_eq_f hv) ?_
            refine iconstV X0.here hexec rfl 0 (hb hbytes d24) (by decide) ?_
            exact Steps.refl _)⟩
    obtain ⟨pc, Ls, v, hpc, hv, cz⟩ := loop A.slots.size 0 (by omega) (fun j hj => absurd hj (Nat.not_lt_zero j)) c3
    have nv : narrow .boolean (.int v) = .int v := by rcases hv with ⟨rfl, -⟩ | ⟨rfl, -⟩ <;> rfl
    rcases hpc with rfl | rfl
    · exact ⟨s₁, some (.int v), _, _, _, X0, rfl, rfl, rfl, (fun h => by cases h), ⟨v, rfl, hh0, hv⟩, fun fs hl => cz.trans (X0.ireturnOut hexec hret nv (Or.inr (Or.inl rfl)) (hb hbytes d25) hl)⟩
    · exact ⟨s₁, some (.int v), _, _, _, X0, rfl, rfl, rfl, (fun h => by cases h), ⟨v, rfl, hh0, hv⟩, fun fs hl => cz.trans (X0.ireturnOut hexec hret nv (Or.inr (Or.inl rfl)) (hb hbytes d33) hl)⟩
  · have c3 : Steps p.tables e below (s₁.setTop (entryFrame m #[.ref a, .ref b] 3)) (s₁.setTop (mkF m 35 #[.val (.ref a), .val (.ref b), .unset] [.int 0])) := c2.trans (by
      refine XS.icmpYes X0.here hexec rfl (pc0 := 4) rfl (hb hbytes d4) rfl (ii_ne_t (ne32 a31 b31 hs)) (by decide) rfl ?_
      refine iconstV X0.here hexec rfl 0 (hb hbytes d34) (by decide) ?_
      exact Steps.refl _)
    exact ⟨s₁, some (.int 0), _, _, _, X0, rfl, rfl, rfl, (fun h => by cases h), ⟨0, rfl, hh0, Or.inr ⟨rfl, fun q => hs q.1⟩⟩, fun fs hl => c3.trans (X0.ireturnOut hexec hret rfl (Or.inr (Or.inl rfl)) (hb hbytes d35) hl)⟩
end LEq
theorem Cod.ty {cd : Int32} {n : Nat} {f : Nat → Int32} {V : Cell} (h : Cod cd n f V) : Typed .byte V := fun i v hv => by
  have hi : i < V.slots.size := (Array.getElem?_eq_some_iff.mp hv).1
  rcases h with ⟨-, k1, k2⟩ | ⟨-, k1, k2, -⟩
  · rw [(k2 i (by omega)).1] at hv; cases hv; exact fits_lo8 _
  · rcases Nat.mod_two_eq_zero_or_one i with e | e
    · obtain ⟨j, rfl⟩ : ∃ j, i = 2 * j := ⟨i / 2, by omega⟩
      rw [(k2 j (by omega)).1] at hv; cases hv; exact fits_lo8 _
    · obtain ⟨j, rfl⟩ : ∃ j, i = 2 * j + 1 := ⟨i / 2, by omega⟩
      rw [(k2 j (by omega)).2] at hv; cases hv; exact fits_lo8 _
/-- the same text -/
def SameT (n : Nat) (f : Nat → Int32) (k : Nat) (g : Nat → Int32) : Prop := n = k ∧ ∀ j, j < n → f j = g j
theorem lo8_inj {x y : Int32} (h0 : ¬ x < 0) (h1 : ¬ 255 < x) (k0 : ¬ y < 0) (k1 : ¬ 255 < y) (h : lo8 x = lo8 y) : x = y := by
  rw [← lo8_mask h0 h1, ← lo8_mask k0 k1, h]
/-- arrays coded by one coder are equal just where the texts are -/
theorem Cod.eqv {cd : Int32} {n k : Nat} {f g : Nat → Int32} {V V' : Cell} (h : Cod cd n f V) (h' : Cod cd k g V') (hf : ∀ j, j < n → ¬ f j < 0 ∧ ¬ 65535 < f j) (hg : ∀ j, j < k → ¬ g j < 0 ∧ ¬ 65535 < g j) : EqC V V' ↔ SameT n f k g := by
  have yvv : ∀ {W : Cell} {i : Nat} {x : Int32}, W.slots[i]? = some (.int x) → yv W i = x := fun q => by unfold yv; rw [q]
  rcases h with ⟨rfl, k1, k2⟩ | ⟨rfl, k1, k2, -⟩
  · rcases h' with ⟨-, m1, m2⟩ | ⟨e, -⟩
    · constructor
      · rintro ⟨e1, e2⟩
        refine ⟨by omega, fun j hj => ?_⟩
        have q := e2 j (by omega)
        rw [yvv (k2 j hj).1, yvv (m2 j (by omega)).1] at q
        exact lo8_inj (hf j hj).1 (k2 j hj).2 (hg j (by omega)).1 (m2 j (by omega)).2 q
      · rintro ⟨rfl, e2⟩
        refine ⟨by omega, fun j hj => ?_⟩
        rw [yvv (k2 j (by omega)).1, yvv (m2 j (by omega)).1, e2 j (by omega)]
    · exact absurd e (by decide)
  · rcases h' with ⟨e, -⟩ | ⟨-, m1, m2, -⟩
    · exact absurd e (by decide)
    · constructor
      · rintro ⟨e1, e2⟩
        refine ⟨by omega, fun j hj => ?_⟩
        have q1 := e2 (2 * j) (by omega)
        have q2 := e2 (2 * j + 1) (by omega)
        rw [yvv (k2 j hj).1, yvv (m2 j (by omega)).1] at q1
        rw [yvv (k2 j hj).2, yvv (m2 j (by omega)).2] at q2
        rw [← pair_says (hf j hj).1 (hf j hj).2, ← pair_says (hg j (by omega)).1 (hg j (by omega)).2, q1, q2]
      · rintro ⟨rfl, e2⟩
        refine ⟨by omega, fun i hi => ?_⟩
        rcases Nat.mod_two_eq_zero_or_one i with e | e
        · obtain ⟨j, rfl⟩ : ∃ j, i = 2 * j := ⟨i / 2, by omega⟩
          rw [yvv (k2 j (by omega)).1, yvv (m2 j (by omega)).1, e2 j (by omega)]
        · obtain ⟨j, rfl⟩ : ∃ j, i = 2 * j + 1 := ⟨i / 2, by omega⟩
          rw [yvv (k2 j (by omega)).2, yvv (m2 j (by omega)).2, e2 j (by omega)]
/-- two codings differ: so do the texts -/
theorem Cod.dif {cd cd' : Int32} {n k : Nat} {f g : Nat → Int32} {V V' : Cell} (h : Cod cd n f V) (h' : Cod cd' k g V') (hne : ¬ cd = cd') : ¬ SameT n f k g := by
  rintro ⟨rfl, e⟩
  rcases h with ⟨rfl, -, k2⟩ | ⟨rfl, -, -, j, hj, hw⟩
  · rcases h' with ⟨rfl, -⟩ | ⟨-, -, -, j, hj, hw⟩
    · exact hne rfl
    · exact (k2 j hj).2 (by rw [e j hj]; exact hw)
  · rcases h' with ⟨-, -, m2⟩ | ⟨rfl, -⟩
    · exact (m2 j hj).2 (by rw [← e j hj]; exact hw)
    · exact hne rfl
/-- an object of exactly C is an instance of C -/
theorem cinst {p : Program} {l : Launch} {e : Env} {R : Room} {s : State} {m : MethodId} {args : Array Value} {below : List Frame} {meth : Method} {c : Code} {T : State} {locs : List Loc} {cells slots : Nat} (X : Stand p l e R s m args below meth c T locs cells slots) (hexec : p.tables.exec = Jvm.exec) {own C : String} {index : Nat} (hown : s.vm.findClass own = some m.cls) (hlink : (Cond.classLink own index C).before args s = true) {a : Addr} (hE : Exact C a T)
    {g : JFrame} (hg : g.method = m) {rest : List Value} (hstack : g.stack = .ref a :: rest) (hdg : decode c.code g.pc = .ok (.instanceof index, 3)) :
    ∃ T', Stand p l e R s m args below meth c T' locs cells slots ∧ T'.heap = T.heap ∧ ∀ target, Steps p.tables e below (T'.setTop { g with pc := g.pc + 3, stack := .int 1 :: rest }) target → Steps p.tables e below (T.setTop g) target := by
  obtain ⟨cB, h1, D, h2, h3, h4⟩ := hE
  have h1' : s.vm.findClass C = some cB := by rw [← X.warmed.alike.findClass]; exact h1
  obtain ⟨vm', X', st⟩ := X.instanceofYes hexec hown hlink h2 h4 h1' (by rw [h3]; exact Jvm.Free.SB.assignable_self _ _) hg hstack hdg
  exact ⟨_, X', rfl, st⟩
theorem cself {p : Program} {l : Launch} {e : Env} {R : Room} {s : State} {m : MethodId} {args : Array Value} {below : List Frame} {meth : Method} {c : Code} {T : State} {locs : List Loc} {cells slots : Nat} (X : Stand p l e R s m args below meth c T locs cells slots) (hexec : p.tables.exec = Jvm.exec) {own C : String} {index : Nat} (hown : s.vm.findClass own = some m.cls) (hlink : (Cond.classLink own index C).before args s = true) {a : Addr} (hE : Exact C a T)
    {g : JFrame} (hg : g.method = m) {rest : List Value} (hstack : g.stack = .ref a :: rest) (hdg : decode c.code g.pc = .ok (.checkcast index, 3)) :
    ∃ T', Stand p l e R s m args below meth c T' locs cells slots ∧ T'.heap = T.heap ∧ ∀ target, Steps p.tables e below (T'.setTop { g with pc := g.pc + 3, stack := .ref a :: rest }) target → Steps p.tables e below (T.setTop g) target := by
  obtain ⟨cB, h1, D, h2, h3, h4⟩ := hE
  have h1' : s.vm.findClass C = some cB := by rw [← X.warmed.alike.findClass]; exact h1
  obtain ⟨vm', X', st⟩ := X.checkcastYes hexec hown hlink h2 h4 h1' (by rw [h3]; exact Jvm.Free.SB.assignable_self _ _) hg hstack hdg
  exact ⟨_, X', rfl, fun t h => st t (by rw [← hstack] at h; exact h)⟩
namespace SEq
def yN : MethodName := ⟨"java/lang/String", "equals", "(Ljava/lang/Object;)Z"⟩
abbrev yB : ByteArray := jdk_42_method_66_code
theorem d0 : decode yB 0 = .ok (.aload_n 0, 1) := by decide +kernel
theorem d1 : decode yB 1 = .ok (.aload_n 1, 1) := by decide +kernel
theorem d2 : decode yB 2 = .ok (.if_acmp (.ne) 5, 3) := by decide +kernel
theorem d5 : decode yB 5 = .ok (.iconst 1, 1) := by decide +kernel
theorem d6 : decode yB 6 = .ok (.ireturn, 1) := by decide +kernel
theorem d7 : decode yB 7 = .ok (.aload_n 1, 1) := by decide +kernel
theorem d8 : decode yB 8 = .ok (.instanceof 10, 3) := by decide +kernel
theorem d11 : decode yB 11 = .ok (.ifCond (.eq) 43, 3) := by decide +kernel
theorem d14 : decode yB 14 = .ok (.aload_n 1, 1) := by decide +kernel
theorem d15 : decode yB 15 = .ok (.checkcast 10, 3) := by decide +kernel
theorem d18 : decode yB 18 = .ok (.astore_n 2, 1) := by decide +kernel
theorem d19 : decode yB 19 = .ok (.getstatic 38, 3) := by decide +kernel
theorem d22 : decode yB 22 = .ok (.ifCond (.eq) 14, 3) := by decide +kernel
theorem d25 : decode yB 25 = .ok (.aload_n 0, 1) := by decide +kernel
theorem d26 : decode yB 26 = .ok (.getfield 15, 3) := by decide +kernel
theorem d29 : decode yB 29 = .ok (.aload_n 2, 1) := by decide +kernel
theorem d30 : decode yB 30 = .ok (.getfield 15, 3) := by decide +kernel
theorem d33 : decode yB 33 = .ok (.if_icmp (.ne) 21, 3) := by decide +kernel
theorem d36 : decode yB 36 = .ok (.aload_n 0, 1) := by decide +kernel
theorem d37 : decode yB 37 = .ok (.getfield 9, 3) := by decide +kernel
theorem d40 : decode yB 40 = .ok (.aload_n 2, 1) := by decide +kernel
theorem d41 : decode yB 41 = .ok (.getfield 9, 3) := by decide +kernel
theorem d44 : decode yB 44 = .ok (.invokestatic 541, 3) := by decide +kernel
theorem d47 : decode yB 47 = .ok (.ifCond (.eq) 7, 3) := by decide +kernel
theorem d50 : decode yB 50 = .ok (.iconst 1, 1) := by decide +kernel
theorem d51 : decode yB 51 = .ok (.goto 4, 3) := by decide +kernel
theorem d54 : decode yB 54 = .ok (.iconst 0, 1) := by decide +kernel
theorem d55 : decode yB 55 = .ok (.ireturn, 1) := by decide +kernel
def site : List Cond := [.classLink "java/lang/String" 10 "java/lang/String", .fieldLink "java/lang/String" 38 "java/lang/String" "COMPACT_STRINGS" "Z", .fieldLink "java/lang/String" 15 "java/lang/String" "coder" "B", .fieldLink "java/lang/String" 9 "java/lang/String" "value" "[B", LEq.tab] ++ staticW "java/lang/String" 541 LEq.yN
def tab : Cond := tabOf yN yB 3 (some .boolean) site
def P (x t : Addr) (V : Cell) (cd : Int32) (n : Nat) (f : Nat → Int32) (y t' : Addr) (V' : Cell) (cd' : Int32) (k : Nat) (g : Nat → Int32) (z : Int32) (args : Array Value) (s : State) : Prop := args = #[.ref x, .ref y] ∧ Txt x t V cd n f s ∧ Txt y t' V' cd' k g s ∧ StaticIs s "java/lang/String" "COMPACT_STRINGS" "Z" (.int z) ∧ ¬ z = 0
/-- equals(Object) of two Strings: whether the texts are the same -/
theorem law (l : Launch) (x t : Addr) (V : Cell) (cd : Int32) (n : Nat) (f : Nat → Int32) (y t' : Addr) (V' : Cell) (cd' : Int32) (k : Nat) (g : Nat → Int32) (z : Int32) : Law l yN 2 1 1 14 yB 3 (some .boolean) site (P x t V cd n f y t' V' cd' k g z) (Says01 (SameT n f k g)) [] 0 0 := by
  refine Law.of_walk (plainFor_of_name (by decide +kernel)) (by decide +kernel) (by decide +kernel) (by decide) (fun _ _ h => by rw [h.1]; rfl) (fun _ U U' hal hh h => ⟨h.1, h.2.1.mv hal hh, h.2.2.1.mv hal hh, h.2.2.2.1.there hal hh, h.2.2.2.2⟩) (fun r U U' V V' h1 hal h2 h => Says01.mv r U U' V V' h1 hal h2 h) ?_
  intro p e s m args below meth c s₁ X0 hexec hbytes hml hret hlk hnm hown hh0 W hP
  obtain ⟨rfl, hx, hy, s1, hz⟩ := hP
  have c1 : Steps p.tables e below (s₁.setTop (entryFrame m #[.ref x, .ref y] 3)) (s₁.setTop (mkF m 2 #[.val (.ref x), .val (.ref y), .unset] [.ref y, .ref x])) := Steps.trans (entry rfl) (by
    show Steps p.tables e below (s₁.setTop (mkF m 0 #[.val (.ref x), .val (.ref y), .unset] [])) _
    refine XS.aloadN X0.here hexec rfl (hb hbytes d0) rfl rfl ?_
    refine XS.aloadN X0.here hexec rfl (hb hbytes d1) rfl rfl ?_
    exact Steps.refl _)
  by_cases hxy : x = y
  · have c2 : Steps p.tables e below (s₁.setTop (entryFrame m #[.ref x, .ref y] 3)) (s₁.setTop (mkF m 6 #[.val (.ref x), .val (.ref y), .unset] [.int 1])) := c1.trans (by
      refine acmpNo X0.here hexec rfl (hb hbytes d2) rfl rfl rfl (by simp [acmp, hxy]) ?_
      refine iconstV X0.here hexec rfl 1 (hb hbytes d5) (by decide) ?_
      exact Steps.refl _)
    subst hxy
    have ec : cd = cd' := by
      obtain ⟨D, fd, a1, a2, a3⟩ := hx.2.2.1
      obtain ⟨D', fd', b1, b2, b3⟩ := hy.2.2.1
      cases a1.symm.trans b1
      obtain ⟨q1, q2, q3, q4⟩ := a2.1
      obtain ⟨r1, r2, r3, r4⟩ := b2.1
      cases q4.symm.trans r4
      cases a3.symm.trans b3; rfl
    have et : t = t' := by
      obtain ⟨D, fd, a1, a2, a3⟩ := hx.2.1
      obtain ⟨D', fd', b1, b2, b3⟩ := hy.2.1
      cases a1.symm.trans b1
      obtain ⟨q1, q2, q3, q4⟩ := a2.1
      obtain ⟨r1, r2, r3, r4⟩ := b2.1
      cases q4.symm.trans r4
      cases a3.symm.trans b3; rfl
    subst ec et
    have ev : V = V' := by cases hx.2.2.2.1.1.symm.trans hy.2.2.2.1.1; rfl
    subst ev
    have hs : SameT n f k g := (Cod.eqv hx.2.2.2.2.1 hy.2.2.2.2.1 hx.2.2.2.2.2 hy.2.2.2.2.2).mp ⟨rfl, fun _ _ => rfl⟩
    exact ⟨s₁, some (.int 1), _, _, _, X0, rfl, rfl, rfl, (fun h => by cases h), ⟨1, rfl, hh0, Or.inl ⟨rfl, hs⟩⟩, fun fs hl => c2.trans (X0.ireturnOut hexec hret rfl (Or.inr (Or.inl rfl)) (hb hbytes d6) hl)⟩
  · have c2 : Steps p.tables e below (s₁.setTop (entryFrame m #[.ref x, .ref y] 3)) (s₁.setTop (mkF m 8 #[.val (.ref x), .val (.ref y), .unset] [.ref y])) := c1.trans (by
      refine acmpYes X0.here hexec rfl (pc0 := 2) rfl (hb hbytes d2) rfl rfl rfl (by simp [acmp, hxy]) (by decide) rfl ?_
      refine XS.aloadN X0.here hexec rfl (hb hbytes d7) rfl rfl ?_
      exact Steps.refl _)
    obtain ⟨T3, X3, q3, st3⟩ := cinst X0 hexec hown (wk W (.classLink "java/lang/String" 10 "java/lang/String")) (hy.mv X0.warmed.alike hh0).1 (g := (mkF m 8 #[.val (.ref x), .val (.ref y), .unset] [.ref y])) rfl (rest := []) rfl (hb hbytes d8)
    have hh3 := q3.trans hh0
    have c4 : Steps p.tables e below (s₁.setTop (entryFrame m #[.ref x, .ref y] 3)) (T3.setTop (mkF m 15 #[.val (.ref x), .val (.ref y), .unset] [.ref y])) := (c2.trans (st3 _ (Steps.refl _))).trans (by
      refine XS.ifNo X3.here hexec rfl (hb hbytes d11) rfl (i0_eq_f (by decide)) ?_
      refine XS.aloadN X3.here hexec rfl (hb hbytes d14) rfl rfl ?_
      exact Steps.refl _)
    obtain ⟨T5, X5, q5, st5⟩ := cself X3 hexec hown (wk W (.classLink "java/lang/String" 10 "java/lang/String")) (hy.mv X3.warmed.alike hh3).1 (g := (mkF m 15 #[.val (.ref x), .val (.ref y), .unset] [.ref y])) rfl (rest := []) rfl (hb hbytes d15)
    have hh5 := q5.trans hh3
    have c6 : Steps p.tables e below (s₁.setTop (entryFrame m #[.ref x, .ref y] 3)) (T5.setTop (mkF m 19 #[.val (.ref x), .val (.ref y), .val (.ref y)] [])) := (c4.trans (st5 _ (Steps.refl _))).trans (by
      refine XS.astoreN X5.here hexec rfl (hb hbytes d18) rfl rfl rfl ?_
      exact Steps.refl _)
    obtain ⟨T7, X7, q7, st7⟩ := X5.sget hexec hown (wk W (.fieldLink "java/lang/String" 38 "java/lang/String" "COMPACT_STRINGS" "Z")) s1 (fun _ _ h => by rw [hh5]; exact h) (g := (mkF m 19 #[.val (.ref x), .val (.ref y), .val (.ref y)] [])) rfl (hb hbytes d19)
    have hh7 := q7.trans hh5
    have c8 : Steps p.tables e below (s₁.setTop (entryFrame m #[.ref x, .ref y] 3)) (T7.setTop (mkF m 26 #[.val (.ref x), .val (.ref y), .val (.ref y)] [.ref x])) := (c6.trans (st7 _ (Steps.refl _))).trans (by
      refine XS.ifNo X7.here hexec rfl (hb hbytes d22) rfl (i0_eq_f hz) ?_
      refine XS.aloadN X7.here hexec rfl (hb hbytes d25) rfl rfl ?_
      exact Steps.refl _)
    obtain ⟨T9, X9, q9, st9⟩ := X7.hget hexec hown (wk W (.fieldLink "java/lang/String" 15 "java/lang/String" "coder" "B")) (hx.mv X7.warmed.alike hh7).2.2.1 (g := (mkF m 26 #[.val (.ref x), .val (.ref y), .val (.ref y)] [.ref x])) rfl (rest := []) rfl (hb hbytes d26)
    have hh9 := q9.trans hh7
    have c10 : Steps p.tables e below (s₁.setTop (entryFrame m #[.ref x, .ref y] 3)) (T9.setTop (mkF m 30 #[.val (.ref x), .val (.ref y), .val (.ref y)] [.ref y, .int cd])) := (c8.trans (st9 _ (Steps.refl _))).trans (by
      refine XS.aloadN X9.here hexec rfl (hb hbytes d29) rfl rfl ?_
      exact Steps.refl _)
    obtain ⟨T11, X11, q11, st11⟩ := X9.hget hexec hown (wk W (.fieldLink "java/lang/String" 15 "java/lang/String" "coder" "B")) (hy.mv X9.warmed.alike hh9).2.2.1 (g := (mkF m 30 #[.val (.ref x), .val (.ref y), .val (.ref y)] [.ref y, .int cd])) rfl (rest := [.int cd]) rfl (hb hbytes d30)
    have hh11 := q11.trans hh9
    have c12 : Steps p.tables e below (s₁.setTop (entryFrame m #[.ref x, .ref y] 3)) (T11.setTop (mkF m 33 #[.val (.ref x), .val (.ref y), .val (.ref y)] [.int cd', .int cd])) := c10.trans (st11 _ (Steps.refl _))
    by_cases hcd : cd = cd'
    · subst hcd
      have c13 : Steps p.tables e below (s₁.setTop (entryFrame m #[.ref x, .ref y] 3)) (T11.setTop (mkF m 37 #[.val (.ref x), .val (.ref y), .val (.ref y)] [.ref x])) := c12.trans (by
        refine XS.icmpNo X11.here hexec rfl (hb hbytes d33) rfl (ii_ne_f rfl) ?_
        refine XS.aloadN X11.here hexec rfl (hb hbytes d36) rfl rfl ?_
        exact Steps.refl _)
      obtain ⟨T14, X14, q14, st14⟩ := X11.hget hexec hown (wk W (.fieldLink "java/lang/String" 9 "java/lang/String" "value" "[B")) (hx.mv X11.warmed.alike hh11).2.1 (g := (mkF m 37 #[.val (.ref x), .val (.ref y), .val (.ref y)] [.ref x])) rfl (rest := []) rfl (hb hbytes d37)
      have hh14 := q14.trans hh11
      have c15 : Steps p.tables e below (s₁.setTop (entryFrame m #[.ref x, .ref y] 3)) (T14.setTop (mkF m 41 #[.val (.ref x), .val (.ref y), .val (.ref y)] [.ref y, .ref t])) := (c13.trans (st14 _ (Steps.refl _))).trans (by
        refine XS.aloadN X14.here hexec rfl (hb hbytes d40) rfl rfl ?_
        exact Steps.refl _)
      obtain ⟨T16, X16, q16, st16⟩ := X14.hget hexec hown (wk W (.fieldLink "java/lang/String" 9 "java/lang/String" "value" "[B")) (hy.mv X14.warmed.alike hh14).2.1 (g := (mkF m 41 #[.val (.ref x), .val (.ref y), .val (.ref y)] [.ref y, .ref t])) rfl (rest := [.ref t]) rfl (hb hbytes d41)
      have hh16 := q16.trans hh14
      have c17 : Steps p.tables e below (s₁.setTop (entryFrame m #[.ref x, .ref y] 3)) (T16.setTop (mkF m 44 #[.val (.ref x), .val (.ref y), .val (.ref y)] [.ref t', .ref t])) := c15.trans (st16 _ (Steps.refl _))
      obtain ⟨v18, T18, X18, E18, g18⟩ := X16.callS hexec (LEq.law l t V t' V') hown (wks W (staticW "java/lang/String" 541 LEq.yN)) (wk W LEq.tab) (W := 0) (Nat.le_of_ble_eq_true rfl) (Nat.le_of_ble_eq_true rfl) (Nat.le_refl _) (Nat.le_refl _) (g := (mkF m 44 #[.val (.ref x), .val (.ref y), .val (.ref y)] [.ref t', .ref t])) rfl (by rw [hml]; rfl) c17 (argsL := [.ref t, .ref t']) (rest := []) rfl rfl (by show 2 * 0 + 0 ≤ _; decide) (hb hbytes d44) (⟨rfl, hx.2.2.2.1.mv X16.warmed.alike hh16, hx.2.2.2.2.1.ty, hy.2.2.2.1.mv X16.warmed.alike hh16, hy.2.2.2.2.1.ty⟩)
      obtain ⟨v, rfl, q18, hv⟩ := E18
      have iff := Cod.eqv hx.2.2.2.2.1 hy.2.2.2.2.1 hx.2.2.2.2.2 hy.2.2.2.2.2
      rcases hv with ⟨rfl, he⟩ | ⟨rfl, he⟩
      · have c19 : Steps p.tables e below (s₁.setTop (entryFrame m #[.ref x, .ref y] 3)) (T18.setTop (mkF m 55 #[.val (.ref x), .val (.ref y), .val (.ref y)] [.int 1])) := Steps.trans g18 (by
          refine XS.ifNo X18.here hexec rfl (hb hbytes d47) rfl (i0_eq_f (by decide)) ?_
          refine iconstV X18.here hexec rfl 1 (hb hbytes d50) (by decide) ?_
          refine XS.goto X18.here hexec rfl (pc0 := 51) rfl (hb hbytes d51) (by decide) rfl ?_
          exact Steps.refl _)
        exact ⟨T18, some (.int 1), _, _, _, X18, rfl, rfl, rfl, (fun h => by cases h), ⟨1, rfl, q18.trans hh16, Or.inl ⟨rfl, iff.mp he⟩⟩, fun fs hl => c19.trans (X18.ireturnOut hexec hret rfl (Or.inr (Or.inl rfl)) (hb hbytes d55) hl)⟩
      · have c19 : Steps p.tables e below (s₁.setTop (entryFrame m #[.ref x, .ref y] 3)) (T18.setTop (mkF m 55 #[.val (.ref x), .val (.ref y), .val (.ref y)] [.int 0])) := Steps.trans g18 (by
          refine XS.ifYes X18.here hexec rfl (pc0 := 47) rfl (hb hbytes d47) rfl (i0_eq_t rfl) (by decide) rfl ?_
          refine iconstV X18.here hexec rfl 0 (hb hbytes d54) (by decide) ?_
          exact Steps.refl _)
        exact ⟨T18, some (.int 0), _, _, _, X18, rfl, rfl, rfl, (fun h => by cases h), ⟨0, rfl, q18.trans hh16, Or.inr ⟨rfl, fun q => he (iff.mpr q)⟩⟩, fun fs hl => c19.trans (X18.ireturnOut hexec hret rfl (Or.inr (Or.inl rfl)) (hb hbytes d55) hl)⟩
    · have c13 : Steps p.tables e below (s₁.setTop (entryFrame m #[.ref x, .ref y] 3)) (T11.setTop (mkF m 55 #[.val (.ref x), .val (.ref y), .val (.ref y)] [.int 0])) := c12.trans (by
        refine XS.icmpYes X11.here hexec rfl (pc0 := 33) rfl (hb hbytes d33) rfl (ii_ne_t hcd) (by decide) rfl ?_
        refine iconstV X11.here hexec rfl 0 (hb hbytes d54) (by decide) ?_
        exact Steps.refl _)
      exact ⟨T11, some (.int 0), _, _, _, X11, rfl, rfl, rfl, (fun h => by cases h), ⟨0, rfl, hh11, Or.inr ⟨rfl, Cod.dif hx.2.2.2.2.1 hy.2.2.2.2.1 hcd⟩⟩, fun fs hl => c13.trans (X11.ireturnOut hexec hret rfl (Or.inr (Or.inl rfl)) (hb hbytes d55) hl)⟩
theorem pays {l : Launch} {R : Room} {p : Program} {e : Env} {below : List Frame} {s : State} {sargs : Array Value} {len W : Nat} (x t : Addr) (V : Cell) (cd : Int32) (n : Nat) (f : Nat → Int32) (y t' : Addr) (V' : Cell) (cd' : Int32) (k : Nat) (g : Nat → Int32) (z : Int32) (htab : tab.before sargs s = true) (hfr : 2 ≤ R.frames) (hlo : W + 28 ≤ R.locals) :
    Back l R p e below s sargs yN len W (fun A₁ a₁ => A₁.cells + 0 ≤ R.cells ∧ A₁.slots + 0 ≤ R.slots ∧ P x t V cd n f y t' V' cd' k g z a₁ A₁.U) (fun A₁ _ v₁ B₁ => Says01 (SameT n f k g) v₁ A₁.U B₁.U ∧ B₁.locs = A₁.locs ++ [] ∧ B₁.cells = A₁.cells + 0 ∧ B₁.slots = A₁.slots + 0) :=
  (law l x t V cd n f y t' V' cd' k g z).pays htab hfr (by omega)
end SEq
end StrChars
namespace StrChars.Road
open Jvm Sem ClassFile Op Lib Jvm.Stand Jvm.Free Jvm.Free.XT
open Jvm.Lib.Cold (StaticIs)
/-- the words of String.equals(Object) -/
abbrev wordsEq : List Jvm.Cond := [.code SEq.yN SEq.yB 3 (some .boolean), .initialized ST, .classLink ST 10 ST, .fieldLink ST 38 ST "COMPACT_STRINGS" "Z", .fieldLink ST 15 ST "coder" "B", .fieldLink ST 9 ST "value" "[B", .methodLink ST 541 LEq.yN, .static LEq.yN, .code LEq.yN LEq.yB 3 (some .boolean), .initialized "java/lang/StringLatin1"]
theorem tabEq_of {a : Array Value} {s : State} (h : ∀ w ∈ wordsEq, w.before a s = true) : SEq.tab.before a s = true := by
  have hl : LEq.tab.before a s = true := unparts (wk h (.code LEq.yN LEq.yB 3 (some .boolean))) (wks h (.initialized LEq.yN.cls :: LEq.site))
  have q := consq hl h
  exact unparts (wk q (.code SEq.yN SEq.yB 3 (some .boolean))) (wks q (.initialized SEq.yN.cls :: SEq.site))
theorem movedEq {Z s : State} {a0 args : Array Value} (hZ : Z.Warmed39 s.vm) (hw : ∀ d ∈ wordsEq, d.before a0 Z = true) : ∀ d ∈ wordsEq, d.before args s = true := fun d hd => by
  have t : ∀ d ∈ wordsEq, (d.onTables && d.keepsFace) = true := by decide +kernel
  exact RoadKit.mv hZ (hw d hd) (t d hd)
/-- the road's facts of a String, as the laws ask it -/
theorem txt_of {Z U : State} {a0 : Array Value} {kI : Nat} (wi : (Jvm.Cond.instantiable ST kI).before a0 Z = true) (al : Z.vm.Alike U.vm) {x t : Addr} {kb : ClassId} {cs : List Int32} {cd N2 : Int32} {vs : List Value} (E : RoadKit.Exa Z U.heap x ST) (V : RoadKit.Fld Z U.heap x ST "value" "[B" (.ref t)) (C : RoadKit.Fld Z U.heap x ST "coder" "B" (.int cd)) (K : RoadKit.Arv Z U.heap t kb .byte N2 vs (.int 0)) (hc : CodA cs cd N2 vs) (hb : ∀ c ∈ cs, ¬ c < 0 ∧ ¬ (65535 : Int32) < c) (l2 : cs.length ≤ 4000) :
    ∃ A, Txt x t A cd cs.length (fun j => cs.getD j 0) U := by
  obtain ⟨A, K1, K2, K3, K4, K5, K6⟩ := K
  have hcod := hc.cod (by omega) K3 K5
  obtain ⟨D, fV, fC, hB, F1, F2, g1, g2, -, -⟩ := strObj wi al E V C
  exact ⟨A, ⟨_, hB.2.2.1, D, hB.1, rfl, by cases q : D.vm <;> first | rfl | exact absurd q (hB.2.1.2 _)⟩, Has.of hB F1 g1, Has.of hB F2 g2, ⟨K1.1, State.isArrayOf_alike al K1.2.1, K1.2.2, by rcases hcod with ⟨-, q, -⟩ | ⟨-, q, -⟩ <;> omega⟩, hcod, fun j hj => by
    have e : cs.getD j 0 = cs[j] := by simp [List.getD_eq_getElem?_getD, hj]
    show ¬ cs.getD j 0 < 0 ∧ ¬ 65535 < cs.getD j 0
    rw [e]; exact hb _ (List.getElem_mem _)⟩
theorem same_list (cs ds : List Int32) : SameT cs.length (fun j => cs.getD j 0) ds.length (fun j => ds.getD j 0) ↔ cs = ds := by
  constructor
  · rintro ⟨e, q⟩
    refine List.ext_getElem e fun j h1 h2 => ?_
    have := q j h1
    simpa [List.getD_eq_getElem?_getD, h1, h2] using this
  · rintro rfl
    exact ⟨rfl, fun _ _ => rfl⟩
/-- **equals(Object) OF TWO SUCH STRINGS**: 1 just where the chars are the same -/
theorem eqW {p : Program} {l : Launch} {e : Env} {R : Room} {s : State} {args : Array Value} {below : List Frame} {len W : Nat} {Z : State} {a0 : Array Value} {h : Heap} (hZ : Z.Warmed39 s.vm) (hw : ∀ d ∈ wordsEq, d.before a0 Z = true) {kI : Nat} (wi : (Jvm.Cond.instantiable ST kI).before a0 Z = true)
    {x t : Addr} {kb : ClassId} {cs : List Int32} {cd N2 : Int32} {vs : List Value} (E : RoadKit.Exa Z h x ST) (V : RoadKit.Fld Z h x ST "value" "[B" (.ref t)) (C : RoadKit.Fld Z h x ST "coder" "B" (.int cd)) (K : RoadKit.Arv Z h t kb .byte N2 vs (.int 0)) (hc : CodA cs cd N2 vs) (hb : ∀ c ∈ cs, ¬ c < 0 ∧ ¬ (65535 : Int32) < c) (l2 : cs.length ≤ 4000)
    {y t' : Addr} {kb' : ClassId} {ds : List Int32} {cd' N2' : Int32} {vs' : List Value} (E' : RoadKit.Exa Z h y ST) (V' : RoadKit.Fld Z h y ST "value" "[B" (.ref t')) (C' : RoadKit.Fld Z h y ST "coder" "B" (.int cd')) (K' : RoadKit.Arv Z h t' kb' .byte N2' vs' (.int 0)) (hc' : CodA ds cd' N2' vs') (hb' : ∀ c ∈ ds, ¬ c < 0 ∧ ¬ (65535 : Int32) < c) (l2' : ds.length ≤ 4000)
    {z : Int32} (S : RoadKit.Sta Z h ST "COMPACT_STRINGS" "Z" (.int z)) (hz : ¬ z = 0) (hfr : 2 ≤ R.frames) (hlo : W + 28 ≤ R.locals) :
    Back l R p e below s args (⟨"java/lang/String", "equals", "(Ljava/lang/Object;)Z"⟩ : MethodName) len W (fun P a => a = #[.ref x, .ref y] ∧ P.U.heap = h ∧ P.cells + 0 ≤ R.cells ∧ P.slots + 0 ≤ R.slots)
      (fun P _ v B => ∃ L, (((v = some (.int 1) ∧ cs = ds) ∨ (v = some (.int 0) ∧ ¬ cs = ds)) ∧ L = [] ∧ B.U.heap = h) ∧ B.locs = P.locs ++ L ∧ B.cells = P.cells + 0 ∧ B.slots = P.slots + 0) := by
  intro m meth c P g ig mk a X hg hsize hdg hW hn hp'
  obtain ⟨rfl, rfl, r1, r2⟩ := hp'
  have al : Z.vm.Alike P.U.vm := hZ.alike.trans X.warmed.alike
  obtain ⟨A, hx⟩ := txt_of wi al E V C K hc hb l2
  obtain ⟨A', hy⟩ := txt_of wi al E' V' C' K' hc' hb' l2'
  obtain ⟨v, B, X', ⟨⟨w, hv, hh, hq⟩, hl, hk, hs⟩, st⟩ := SEq.pays x t A cd cs.length (fun j => cs.getD j 0) y t' A' cd' ds.length (fun j => ds.getD j 0) z (tabEq_of (movedEq hZ hw)) hfr hlo m meth c P g ig mk _ X hg hsize hdg hW hn ⟨r1, r2, rfl, hx, hy, sta_is al S, hz⟩
  refine ⟨v, B, X', ⟨[], ⟨?_, rfl, hh⟩, hl, hk, hs⟩, st⟩
  rcases hq with ⟨rfl, q⟩ | ⟨rfl, q⟩
  · exact Or.inl ⟨hv, (same_list cs ds).mp q⟩
  · exact Or.inr ⟨hv, fun e => q ((same_list cs ds).mpr e)⟩
end StrChars.Road
namespace StrChars.Road
open Jvm Sem ClassFile Op Lib Jvm.Stand Jvm.Free Jvm.Free.XT
open Jvm.Lib.Cold (StaticIs)
/-- what backV says of its String, as the contracts of this text ask it: cs's low bytes, coder 0 -/
theorem codOf {cs : List Int32} {n : Nat} (hn : cs.length = n) (hb : ∀ c ∈ cs, ¬ 255 < c) : CodA cs 0 (Int32.ofNat n) ((cs.map lo8).map Value.int) := Or.inl ⟨rfl, by rw [hn], by simp [List.map_map, Function.comp_def], hb⟩
end StrChars.Road
end Jvm.Pilot.@@N@@

namespace Jvm.Pilot.@@N@@
open Jvm Jvm.ClassFile Sem Op Lib Jvm.Free Jvm.Stand Jvm.LawKit Jvm.RoadKit Bundle Jvm.Pilot.@@N@@.Jvm.D
theorem own_and255 (x : Int32) : ∃ k : Fin 256, x &&& 255 = Int32.ofNat k.val := by
  have h : (x &&& 255).toBitVec.toNat < 256 := by
    simp only [Int32.toBitVec_and, BitVec.toNat_and]
    exact Nat.lt_succ_of_le Nat.and_le_right
  refine ⟨⟨_, h⟩, ?_⟩
  apply Int32.toBitVec_inj.mp
  show _ = BitVec.ofNat 32 _
  rw [BitVec.ofNat_toNat]; simp
theorem own_lat (x : Int32) : ¬ (((x &&& (255 : Int32))).toUInt32.toUInt16.toUInt32.toInt32) < 0 ∧ ¬ (255 : Int32) < (((x &&& (255 : Int32))).toUInt32.toUInt16.toUInt32.toInt32) := by
  obtain ⟨k, e⟩ := own_and255 x
  have t : ∀ k : Fin 256, ¬ ((Int32.ofNat k.val).toUInt32.toUInt16.toUInt32.toInt32) < 0 ∧ ¬ (255 : Int32) < ((Int32.ofNat k.val).toUInt32.toUInt16.toUInt32.toInt32) := by decide +kernel
  rw [e]; exact t k
theorem own_lat7 (x : Int32) : ¬ (((x &&& (127 : Int32))).toUInt32.toUInt16.toUInt32.toInt32) < 0 ∧ ¬ (255 : Int32) < (((x &&& (127 : Int32))).toUInt32.toUInt16.toUInt32.toInt32) := by
  have e : x &&& (127 : Int32) = (x &&& (127 : Int32)) &&& 255 := by rw [Int32.and_assoc]; rfl
  rw [e]; exact own_lat _
theorem own_nar_i2c (x : Int32) : nar .char (x.toUInt32.toUInt16.toUInt32.toInt32) = x.toUInt32.toUInt16.toUInt32.toInt32 := by simp only [nar, UInt32.toUInt32_toInt32, UInt16.toUInt16_toUInt32]
theorem own_nar_i2b (x : Int32) : nar .byte (x.toInt8.toInt32) = x.toInt8.toInt32 := by simp [nar]
theorem own_nar_lat {x : Int32} (h : ¬ x < 0 ∧ ¬ (255 : Int32) < x) : nar .char x = x := by
  have e0 : (0 : Int32).toInt = 0 := rfl
  have e1 : (255 : Int32).toInt = 255 := rfl
  have h1 := h.1
  have h2 := h.2
  rw [Int32.lt_iff_toInt_lt, e0] at h1
  rw [Int32.lt_iff_toInt_lt, e1] at h2
  have e : x = Int32.ofNat x.toInt.toNat := by
    apply Int32.toInt_inj.mp
    rw [Int32.toInt_ofNat_small (by omega)]; omega
  have t : ∀ k : Fin 256, nar .char (Int32.ofNat k.val) = Int32.ofNat k.val := by decide +kernel
  rw [e]; exact t ⟨x.toInt.toNat, by omega⟩
theorem own_up (cs : List Int32) (h : ∀ c ∈ cs, ¬ c < 0 ∧ ¬ (255 : Int32) < c) : ∀ c ∈ cs, ¬ c < 0 ∧ ¬ (65535 : Int32) < c := fun c hc => ⟨(h c hc).1, fun q => (h c hc).2 (by rw [Int32.lt_iff_toInt_lt] at q ⊢; have e1 : (65535 : Int32).toInt = 65535 := rfl; have e2 : (255 : Int32).toInt = 255 := rfl; omega)⟩
theorem own_and3 (x : Int32) : x &&& (3 : Int32) = 0 ∨ x &&& (3 : Int32) = 1 ∨ x &&& (3 : Int32) = 2 ∨ x &&& (3 : Int32) = 3 := by
  have h : (x &&& 3).toBitVec.toNat < 4 := by
    simp only [Int32.toBitVec_and, BitVec.toNat_and]
    exact Nat.lt_succ_of_le Nat.and_le_right
  have e : x &&& 3 = Int32.ofNat (x &&& 3).toBitVec.toNat := by
    apply Int32.toBitVec_inj.mp
    show _ = BitVec.ofNat 32 _
    rw [BitVec.ofNat_toNat]; simp
  rw [e]
  generalize (x &&& 3).toBitVec.toNat = n at h
  have : n = 0 ∨ n = 1 ∨ n = 2 ∨ n = 3 := by omega
  rcases this with rfl | rfl | rfl | rfl <;> simp
theorem own_three3 {x : Int32} (h0 : ¬ (x &&& (3 : Int32)) = (0 : Int32)) (h1 : ¬ (x &&& (3 : Int32)) = (1 : Int32)) (h2 : ¬ (x &&& (3 : Int32)) = (2 : Int32)) : (x &&& (3 : Int32)) = (3 : Int32) := by
  rcases own_and3 x with h | h | h | h
  · exact absurd h h0
  · exact absurd h h1
  · exact absurd h h2
  · exact h
theorem own_nf {s : State} {args : Array Value} {y x z : MethodName} {C : String} (h : (Cond.selects C x z).before args s = true) (e : z.cls = y.cls) : NotFace s y := fun r0 h0 => by
  obtain ⟨c2, r2, m2, q1, q2, q3, q4, kP, hkP, hkPi⟩ := Cond.selects_spec h
  have h1 := findClass_of_methodNamed q3
  have h2 := findClass_of_methodNamed h0
  rw [e] at h1
  have e2 : m2.cls = r0.cls := Option.some.inj (h1.symm.trans h2)
  exact ⟨kP, e2 ▸ hkP, hkPi⟩
theorem own_same {s : State} {args : Array Value} {y x z : MethodName} {C : String} (hi : (Cond.instanceMethod y).before args s = true) (h : (Cond.selects C x z).before args s = true) (e : z.cls = y.cls) (hy : y.cls ≠ "java/lang/invoke/MethodHandle" ∧ y.cls ≠ "java/lang/invoke/VarHandle") : (Cond.sameMethod y.cls y.cls y.name y.desc).before args s = true := by
  obtain ⟨mk, methM, hnamed, hmethM, -, -⟩ := Cond.instanceMethod_spec hi
  have hfound : s.methodFound? y.cls y.name y.desc = some mk := State.methodFound?_of_named hnamed hy
  obtain ⟨kr, k1, k2⟩ := own_nf (y := y) h e mk hnamed
  have hc := findClass_of_methodNamed hnamed
  have hn : s.methodNamed? ⟨y.cls, y.name, y.desc⟩ = some mk := hnamed
  simp [Cond.before, Cond.holds, Cond.value, hc, hfound, hn, k1, k2]
theorem own_ws {a0 : Array Value} {Z : State} (hw : ∀ d ∈ tables_1, d.before a0 Z = true) : ∀ d ∈ StrChars.Road.words, d.before a0 Z = true := fun d hd => hw d ((by decide +kernel : ∀ d ∈ StrChars.Road.words, d ∈ tables_1) d hd)
theorem own_wq {a0 : Array Value} {Z : State} (hw : ∀ d ∈ tables_1, d.before a0 Z = true) : ∀ d ∈ StrChars.Road.wordsEq, d.before a0 Z = true := fun d hd => hw d ((by decide +kernel : ∀ d ∈ StrChars.Road.wordsEq, d ∈ tables_1) d hd)
def own_HasE (args : Array Value) (s : State) (t : Term) : Nat → List Value → Prop
  | _, [] => True
  | i, v :: r => (Term.elem t (.int (Int32.ofNat i))).eval args s none [] s = some v ∧ own_HasE args s t (i + 1) r
theorem own_eqv_r {s : State} {args : Array Value} {X F : Term} {a : Addr} (hF : F.eval args s none [] s = some (.ref a)) (h : (Cond.eq X F).value args s none s [] = some true) : X.eval args s none [] s = some (.ref a) := by
  obtain ⟨x, y', e1, e2, k1, k2⟩ := cmp_v (Or.inl h)
  cases hF.symm.trans e2
  have hx : x.isRef = true := k2.2
  exact e1.trans (congrArg some (gotT (eq_R e1 e2 hx rfl) h))
theorem own_hasL {args : Array Value} {s : State} {t : Term} {a : Addr} {c : Cell} (ev : t.eval args s none [] s = some (.ref a)) (hc : s.heap[a]? = some c) : ∀ (vs : List Value) (i : Nat), i + vs.length < 2 ^ 31 → own_HasE args s t i vs → HasL c i vs
  | [], _, _, _ => trivial
  | v :: r, i, hi, ⟨h1, h2⟩ => by
    have hi' : i < 2 ^ 31 := by simp only [List.length_cons] at hi; omega
    have e1 : (Int32.ofNat i).toNatClampNeg = i := by
      have := Int32.toInt_ofNat_small (n := i) (by omega)
      simp only [Int32.toNatClampNeg]; omega
    have q := (elem_in h1 ev rfl hc).2
    rw [e1] at q
    exact ⟨q, own_hasL ev hc r (i + 1) (by simp only [List.length_cons] at hi; omega) h2⟩
theorem own_arr {s : State} {args : Array Value} (hf : Fit s) {t : Term} {a : Addr} {ty : FieldType} {n : Int32} {vs : List Value} {dv : Value} (ev : t.eval args s none [] s = some (.ref a)) (h1 : (Cond.arrayOf t ty).value args s none s [] = some true)
    (h2 : (Term.length t).eval args s none [] s = some (.int n)) (hn : ¬ n < 0) (hl : n.toNatClampNeg = vs.length) (he : own_HasE args s t 0 vs) : ∃ k, Arv s s.heap a k ty n vs dv := by
  obtain ⟨c, A⟩ := Arr.start ev h1
  have ha := A.fin (Vm.Alike.refl _)
  obtain ⟨a', c', e1, e2, e3⟩ := Term.length_spec h2
  cases ev.symm.trans e1
  cases ha.symm.trans e2
  have hsz : c.slots.size < 2 ^ 31 := by
    refine Nat.lt_of_not_le fun q => ?_
    simp [Term.eval, ev, ha, Nat.not_lt.mpr q] at h2
  have hb := (back32 hn).2
  exact ⟨_, Arv.start hf A hsz (Value.int.inj e3).symm hn hl (own_hasL ev A.1 vs 0 (by omega) he)⟩
def OwnEN (Z : State) (g_REF : Addr) (g__VALUES : Addr) (g_BYTYPE : Addr) (g_GUICE : Addr) (g_REF_label : Addr) (g_BYTYPE_label : Addr) (g_GUICE_label : Addr) (g_REF_label_value : Addr) (g_BYTYPE_label_value : Addr) (g_GUICE_label_value : Addr) (k__VALUES : ClassId) (k_REF_label_value : ClassId) (k_BYTYPE_label_value : ClassId) (k_GUICE_label_value : ClassId) : Prop := Sta Z Z.heap "dev/bindery/benchmark/Variant" "REF" "Ldev/bindery/benchmark/Variant;" (.ref g_REF) ∧ Exa Z Z.heap g_REF "dev/bindery/benchmark/Variant" ∧ Sta Z Z.heap "dev/bindery/benchmark/Variant" "$VALUES" "[Ldev/bindery/benchmark/Variant;" (.ref g__VALUES) ∧ Exa Z Z.heap g__VALUES "[Ldev/bindery/benchmark/Variant;" ∧ Sta Z Z.heap "dev/bindery/benchmark/Variant" "BYTYPE" "Ldev/bindery/benchmark/Variant;" (.ref g_BYTYPE) ∧ Exa Z Z.heap g_BYTYPE "dev/bindery/benchmark/Variant" ∧ Sta Z Z.heap "dev/bindery/benchmark/Variant" "GUICE" "Ldev/bindery/benchmark/Variant;" (.ref g_GUICE) ∧ Exa Z Z.heap g_GUICE "dev/bindery/benchmark/Variant" ∧ Fld Z Z.heap g_REF "dev/bindery/benchmark/Variant" "label" "Ljava/lang/String;" (.ref g_REF_label) ∧ Exa Z Z.heap g_REF_label "java/lang/String" ∧ Fld Z Z.heap g_BYTYPE "dev/bindery/benchmark/Variant" "label" "Ljava/lang/String;" (.ref g_BYTYPE_label) ∧ Exa Z Z.heap g_BYTYPE_label "java/lang/String" ∧ Fld Z Z.heap g_GUICE "dev/bindery/benchmark/Variant" "label" "Ljava/lang/String;" (.ref g_GUICE_label) ∧ Exa Z Z.heap g_GUICE_label "java/lang/String" ∧ Fld Z Z.heap g_REF_label "java/lang/String" "value" "[B" (.ref g_REF_label_value) ∧ Fld Z Z.heap g_BYTYPE_label "java/lang/String" "value" "[B" (.ref g_BYTYPE_label_value) ∧ Fld Z Z.heap g_GUICE_label "java/lang/String" "value" "[B" (.ref g_GUICE_label_value) ∧ Fld Z Z.heap g_REF_label "java/lang/String" "coder" "B" (.int (0 : Int32)) ∧ Fld Z Z.heap g_BYTYPE_label "java/lang/String" "coder" "B" (.int (0 : Int32)) ∧ Fld Z Z.heap g_GUICE_label "java/lang/String" "coder" "B" (.int (0 : Int32)) ∧ Arv Z Z.heap g__VALUES k__VALUES (.object "dev/bindery/benchmark/Variant") (3 : Int32) [(.ref g_REF), (.ref g_BYTYPE), (.ref g_GUICE)] .null ∧ Arv Z Z.heap g_REF_label_value k_REF_label_value .byte (3 : Int32) [(.int (114 : Int32)), (.int (101 : Int32)), (.int (102 : Int32))] (.int 0) ∧ Arv Z Z.heap g_BYTYPE_label_value k_BYTYPE_label_value .byte (6 : Int32) [(.int (98 : Int32)), (.int (121 : Int32)), (.int (116 : Int32)), (.int (121 : Int32)), (.int (112 : Int32)), (.int (101 : Int32))] (.int 0) ∧ Arv Z Z.heap g_GUICE_label_value k_GUICE_label_value .byte (5 : Int32) [(.int (103 : Int32)), (.int (117 : Int32)), (.int (105 : Int32)), (.int (99 : Int32)), (.int (101 : Int32))] (.int 0)
theorem ef0 (m : MethodId) (x0 : Int32) : entryFrame m #[(.int x0)] maxLocals = mkF m 0 #[.val (.int x0), .unset, .unset, .unset, .unset, .unset] [] := by first | (simp [entryFrame, mkF, argsToLocals, Value.category, maxLocals]; done) | rfl
theorem pn0 : plainName "dev/bindery/benchmark/VariantOfPinLaw" = true := by first | (simp [plainName, overriddenIn]; done) | decide +kernel
theorem pd0 : parseMethodDescriptor "([C)V" = some ⟨[(.array .char)], none⟩ := by decide +kernel
theorem ef1 (m : MethodId) (x0 : Addr) : entryFrame m #[(.ref x0)] 5 = mkF m 0 #[.val (.ref x0), .unset, .unset, .unset, .unset] [] := by first | (simp [entryFrame, mkF, argsToLocals, Value.category]; done) | rfl
theorem pn1 : plainName "dev/bindery/benchmark/Variant" = true := by first | (simp [plainName, overriddenIn]; done) | decide +kernel
theorem d0_0 : decode prog_4_method_5_code 0 = .ok (.invokestatic 36, 3) := by decide +kernel
theorem ef2 (m : MethodId)  : entryFrame m #[] 0 = mkF m 0 #[] [] := by first | (simp [entryFrame, mkF, argsToLocals, Value.category]; done) | rfl
theorem d1_0 : decode prog_4_method_1_code 0 = .ok (.getstatic 13, 3) := by decide +kernel
theorem d1_3 : decode prog_4_method_1_code 3 = .ok (.invokevirtual 17, 3) := by decide +kernel
theorem d1_6 : decode prog_4_method_1_code 6 = .ok (.checkcast 18, 3) := by decide +kernel
theorem d1_9 : decode prog_4_method_1_code 9 = .ok (.areturn, 1) := by decide +kernel
-- dev/bindery/benchmark/Variant.values()[Ldev/bindery/benchmark/Variant;
def Q1 (Z : State) (g_REF : Addr) (g__VALUES : Addr) (g_BYTYPE : Addr) (g_GUICE : Addr) (g_REF_label : Addr) (g_BYTYPE_label : Addr) (g_GUICE_label : Addr) (g_REF_label_value : Addr) (g_BYTYPE_label_value : Addr) (g_GUICE_label_value : Addr) (k__VALUES : ClassId) (k_REF_label_value : ClassId) (k_BYTYPE_label_value : ClassId) (k_GUICE_label_value : ClassId) (h0 : Heap) (n0 : Nat) (v : Option Value) (h : Heap) (L : List Loc) : Prop := ∃ b2 : Addr, ∃ k__VALUES : ClassId, v = some (.ref b2) ∧ Fr n0 L ∧ Keep h0 h [] ∧ h0.size ≤ b2 ∧ Exa Z h b2 "[Ldev/bindery/benchmark/Variant;" ∧ Arv Z h b2 k__VALUES (.object "dev/bindery/benchmark/Variant") (3 : Int32) [(.ref g_REF), (.ref g_BYTYPE), (.ref g_GUICE)] .null
set_option maxRecDepth 65536 in
set_option maxHeartbeats 40000000 in
theorem rm1 (l : Launch) (Z : State) (a0 : Array Value) (hw : ∀ d ∈ tables_1, d.before a0 Z = true) (ws : List Jvm.Cond) (g_REF : Addr) (g__VALUES : Addr) (g_BYTYPE : Addr) (g_GUICE : Addr) (g_REF_label : Addr) (g_BYTYPE_label : Addr) (g_GUICE_label : Addr) (g_REF_label_value : Addr) (g_BYTYPE_label_value : Addr) (g_GUICE_label_value : Addr) (k__VALUES : ClassId) (k_REF_label_value : ClassId) (k_BYTYPE_label_value : ClassId) (k_GUICE_label_value : ClassId) (h0 : Heap) (n0 : Nat) (X00 : Old Z n0 h0) (hEN : OwnEN Z g_REF g__VALUES g_BYTYPE g_GUICE g_REF_label g_BYTYPE_label g_GUICE_label g_REF_label_value g_BYTYPE_label_value g_GUICE_label_value k__VALUES k_REF_label_value k_BYTYPE_label_value k_GUICE_label_value) :
    MetFree l (⟨"dev/bindery/benchmark/Variant", "values", "()[Ldev/bindery/benchmark/Variant;"⟩ : MethodName) (head1 (Jvm.Cond.code (⟨"dev/bindery/benchmark/Variant", "values", "()[Ldev/bindery/benchmark/Variant;"⟩ : MethodName) prog_4_method_1_code 0 (some (.array (.object "dev/bindery/benchmark/Variant"))) :: ws) ({ frames := 1, cells := 1, slots := 3, locals := 14 } : Room)) (fun a U => a = #[] ∧ Z.Warmed39 U.vm ∧ U.heap = h0) (fun _ _ _ _ _ => True) (fun _ U o U' => ∃ v L, o = .returned v ∧ Q1 Z g_REF g__VALUES g_BYTYPE g_GUICE g_REF_label g_BYTYPE_label g_GUICE_label g_REF_label_value g_BYTYPE_label_value g_GUICE_label_value k__VALUES k_REF_label_value k_BYTYPE_label_value k_GUICE_label_value h0 n0 v U'.heap L ∧ FrameEnd U o U' L ({ frames := 1, cells := 1, slots := 3, locals := 14 } : Room).cells ({ frames := 1, cells := 1, slots := 3, locals := 14 } : Room).slots) := by
  refine MetFree.of_bodySF (plainFor_of_name pn1) hisR ?_
  intro p e s m args below meth c s₁ Bd hml0 hP hK
  obtain ⟨rfl, hZ, hh⟩ := hP
  have hx := Bd.exec
  have hby := Bd.bytes
  have hml : c.maxLocals = 0 := hml0
  have hown : s.vm.findClass "dev/bindery/benchmark/Variant" = some m.cls := findClass_of_methodNamed Bd.named
  have hnm := (name_of_methodNamed Bd.named Bd.method).1
  have X0 : Stand p l e ({ frames := 1, cells := 1, slots := 3, locals := 14 } : Room) s m #[] below meth c s₁ [] 0 0 := Stand.of_body Bd
  have e0 : s₁.heap = h0 := by rw [← hh, Bd.state]; rfl
  have N0 := Fr.nil n0
  have pre0 : ∀ t, Steps p.tables e below (s₁.setTop (mkF m 0 #[] [])) t → Steps p.tables e below (s₁.setTop (entryFrame m #[] 0)) t := fun t k => castTop (ef2 m ) k
  obtain ⟨T1, X1, e1, st1⟩ := getS2 X0 hx hZ hown (host := "") (Or.inl (hw _ (List.mem_of_getElem? (i := 40) rfl))) Via.refl e0 (hEN.2.2.1.ext X00.2) (g := (mkF m 0 #[] [])) rfl (hb hby d1_0)
  obtain ⟨T2, h2, X2, e2, E2, A2, Ex2, st2⟩ := cloneH X1 hx hZ hown (hw _ (List.mem_of_getElem? (i := 42) rfl)) (hw _ (List.mem_of_getElem? (i := 43) rfl)) (hw _ (List.mem_of_getElem? (i := 47) rfl)) (hw _ (List.mem_of_getElem? (i := 45) rfl)) (hw _ (List.mem_of_getElem? (i := 46) rfl)) (hw _ (List.mem_of_getElem? (i := 48) rfl)) e1 (Arv.arh (hEN.2.2.2.2.2.2.2.2.2.2.2.2.2.2.2.2.2.2.2.2.1.ext X00.2)) (hEN.2.2.2.1.ext X00.2) (g := (mkF m 3 #[] [(.ref g__VALUES)])) rfl (by rw [hml]; rfl) rfl (hb hby d1_3) (by decide) (W := 0) (cap := 3) (by show 2 * 0 + _ ≤ _; exact Nat.le_of_eq rfl) (by decide) (by decide) (by decide) (by decide)
  obtain ⟨b2, g2⟩ : ∃ z, z = h0.size := ⟨_, rfl⟩
  rw [← g2] at A2 Ex2 st2
  have K3 : Keep h0 h2 [] := (Keep.refl h0 []).ext E2
  have A4_ : Arv Z h2 b2 k__VALUES (.object "dev/bindery/benchmark/Variant") (3 : Int32) [(.ref g_REF), (.ref g_BYTYPE), (.ref g_GUICE)] .null := A2
  obtain ⟨T5, X5, e5, st5⟩ := castY X2 hx hZ hown (hw _ (List.mem_of_getElem? (i := 52) rfl)) e2 (Ins.self Ex2) (g := (mkF m 6 #[] [(.ref b2)])) rfl rfl (hb hby d1_6)
  have sz_b2 : h0.size ≤ b2 := (Nat.le_of_eq g2.symm)
  obtain ⟨fs, hr, hrun, hended, hW, hsame⟩ := X5.leave (v := (some (.ref b2))) (fun h => by rw [Bd.returns] at h; cases h)
  refine ⟨_, _, pre0 _ ?_, hrun, hended, _, _, rfl, ?_, ⟨_, rfl⟩, hW, hsame.mono (by decide) (by decide)⟩
  · show Steps p.tables e below (s₁.setTop (mkF m 0 #[] [])) _
    refine st1 _ ?_
    show Steps p.tables e below (T1.setTop (mkF m 3 #[] [(.ref g__VALUES)])) _
    refine st2 _ ?_
    show Steps p.tables e below (T2.setTop (mkF m 6 #[] [(.ref b2)])) _
    refine st5 _ ?_
    show Steps p.tables e below (T5.setTop (mkF m 9 #[] [(.ref b2)])) _
    exact retOut X5 hx Bd.returns rfl (Or.inr (Or.inr (Or.inr (Or.inr ⟨rfl, rfl, rfl⟩)))) (hb hby d1_9) hr
  · show Q1 Z g_REF g__VALUES g_BYTYPE g_GUICE g_REF_label g_BYTYPE_label g_GUICE_label g_REF_label_value g_BYTYPE_label_value g_GUICE_label_value k__VALUES k_REF_label_value k_BYTYPE_label_value k_GUICE_label_value h0 n0 _ T5.heap _
    rw [show T5.heap = h2 from e5]
    exact ⟨b2, k__VALUES, rfl, N0, K3, sz_b2, Ex2, A4_⟩
theorem pd1 : parseMethodDescriptor "()[Ldev/bindery/benchmark/Variant;" = some ⟨[], some (.array (.object "dev/bindery/benchmark/Variant"))⟩ := by decide +kernel
theorem d0_3 : decode prog_4_method_5_code 3 = .ok (.astore_n 1, 1) := by decide +kernel
theorem d0_4 : decode prog_4_method_5_code 4 = .ok (.aload_n 1, 1) := by decide +kernel
theorem d0_5 : decode prog_4_method_5_code 5 = .ok (.arraylength, 1) := by decide +kernel
theorem d0_6 : decode prog_4_method_5_code 6 = .ok (.istore_n 2, 1) := by decide +kernel
theorem d0_7 : decode prog_4_method_5_code 7 = .ok (.iconst 0, 1) := by decide +kernel
theorem d0_8 : decode prog_4_method_5_code 8 = .ok (.istore_n 3, 1) := by decide +kernel
theorem d0_9 : decode prog_4_method_5_code 9 = .ok (.iload_n 3, 1) := by decide +kernel
theorem d0_10 : decode prog_4_method_5_code 10 = .ok (.iload_n 2, 1) := by decide +kernel
theorem d0_11 : decode prog_4_method_5_code 11 = .ok (.if_icmp .ge 29, 3) := by decide +kernel
theorem d0_14 : decode prog_4_method_5_code 14 = .ok (.aload_n 1, 1) := by decide +kernel
theorem d0_15 : decode prog_4_method_5_code 15 = .ok (.iload_n 3, 1) := by decide +kernel
theorem d0_16 : decode prog_4_method_5_code 16 = .ok (.aaload, 1) := by decide +kernel
theorem d0_17 : decode prog_4_method_5_code 17 = .ok (.astore 4, 2) := by decide +kernel
theorem d0_19 : decode prog_4_method_5_code 19 = .ok (.aload 4, 2) := by decide +kernel
theorem d0_21 : decode prog_4_method_5_code 21 = .ok (.getfield 32, 3) := by decide +kernel
theorem d0_24 : decode prog_4_method_5_code 24 = .ok (.aload_n 0, 1) := by decide +kernel
theorem d0_25 : decode prog_4_method_5_code 25 = .ok (.invokevirtual 40, 3) := by decide +kernel
theorem pd2 : parseMethodDescriptor "(Ljava/lang/Object;)Z" = some ⟨[(.object "java/lang/Object")], some .boolean⟩ := by decide +kernel
theorem d0_28 : decode prog_4_method_5_code 28 = .ok (.ifCond .eq 6, 3) := by decide +kernel
theorem d0_31 : decode prog_4_method_5_code 31 = .ok (.aload 4, 2) := by decide +kernel
theorem d0_33 : decode prog_4_method_5_code 33 = .ok (.areturn, 1) := by decide +kernel
-- dev/bindery/benchmark/Variant.of(Ljava/lang/String;)Ldev/bindery/benchmark/Variant;
def Q2 (Z : State) (g_REF : Addr) (g__VALUES : Addr) (g_BYTYPE : Addr) (g_GUICE : Addr) (g_REF_label : Addr) (g_BYTYPE_label : Addr) (g_GUICE_label : Addr) (g_REF_label_value : Addr) (g_BYTYPE_label_value : Addr) (g_GUICE_label_value : Addr) (k__VALUES : ClassId) (k_REF_label_value : ClassId) (k_BYTYPE_label_value : ClassId) (k_GUICE_label_value : ClassId) (G1 : Int32) (qa1 : Addr) (qa2 : Addr) (qk3 : ClassId) (h0 : Heap) (n0 : Nat) (v : Option Value) (h : Heap) (L : List Loc) : Prop := v = some (.ref g_REF) ∧ Fr n0 L ∧ Keep h0 h []
set_option maxRecDepth 65536 in
set_option maxHeartbeats 40000000 in
theorem rm2 (l : Launch) (Z : State) (a0 : Array Value) (hw : ∀ d ∈ tables_1, d.before a0 Z = true) (ws : List Jvm.Cond) (g_REF : Addr) (g__VALUES : Addr) (g_BYTYPE : Addr) (g_GUICE : Addr) (g_REF_label : Addr) (g_BYTYPE_label : Addr) (g_GUICE_label : Addr) (g_REF_label_value : Addr) (g_BYTYPE_label_value : Addr) (g_GUICE_label_value : Addr) (k__VALUES : ClassId) (k_REF_label_value : ClassId) (k_BYTYPE_label_value : ClassId) (k_GUICE_label_value : ClassId) (G1 : Int32) (qa1 : Addr) (qa2 : Addr) (qk3 : ClassId) (h0 : Heap) (n0 : Nat) (X00 : Old Z n0 h0) (hEN : OwnEN Z g_REF g__VALUES g_BYTYPE g_GUICE g_REF_label g_BYTYPE_label g_GUICE_label g_REF_label_value g_BYTYPE_label_value g_GUICE_label_value k__VALUES k_REF_label_value k_BYTYPE_label_value k_GUICE_label_value) (O2 : Sta Z Z.heap "java/lang/String" "COMPACT_STRINGS" "Z" (.int G1)) (P5 : ¬ (G1 = (0 : Int32))) (F_qa1_value : Fld Z h0 qa1 "java/lang/String" "value" "[B" (.ref qa2)) (hp_qa1 : ∀ c ∈ ([(114 : Int32), (101 : Int32), (102 : Int32)] : List Int32), ¬ c < 0 ∧ ¬ (255 : Int32) < c) (E_qa1 : Exa Z h0 qa1 "java/lang/String") (F_qa1_coder : Fld Z h0 qa1 "java/lang/String" "coder" "B" (.int (0 : Int32))) (A_qa2 : Arv Z h0 qa2 qk3 .byte (3 : Int32) ((([(114 : Int32), (101 : Int32), (102 : Int32)] : List Int32).map (fun c => c.toInt8.toInt32)).map Value.int) (.int 0)) :
    MetFree l (⟨"dev/bindery/benchmark/Variant", "of", "(Ljava/lang/String;)Ldev/bindery/benchmark/Variant;"⟩ : MethodName) (head1 (Jvm.Cond.code (⟨"dev/bindery/benchmark/Variant", "of", "(Ljava/lang/String;)Ldev/bindery/benchmark/Variant;"⟩ : MethodName) prog_4_method_5_code 5 (some (.object "dev/bindery/benchmark/Variant")) :: ws) ({ frames := 2, cells := 1, slots := 3, locals := 28 } : Room)) (fun a U => a = #[(.ref qa1)] ∧ Z.Warmed39 U.vm ∧ U.heap = h0) (fun _ _ _ _ _ => True) (fun _ U o U' => ∃ v L, o = .returned v ∧ Q2 Z g_REF g__VALUES g_BYTYPE g_GUICE g_REF_label g_BYTYPE_label g_GUICE_label g_REF_label_value g_BYTYPE_label_value g_GUICE_label_value k__VALUES k_REF_label_value k_BYTYPE_label_value k_GUICE_label_value G1 qa1 qa2 qk3 h0 n0 v U'.heap L ∧ FrameEnd U o U' L ({ frames := 2, cells := 1, slots := 3, locals := 28 } : Room).cells ({ frames := 2, cells := 1, slots := 3, locals := 28 } : Room).slots) := by
  refine MetFree.of_bodySF (plainFor_of_name pn1) hisR ?_
  intro p e s m args below meth c s₁ Bd hml0 hP hK
  obtain ⟨rfl, hZ, hh⟩ := hP
  have hx := Bd.exec
  have hby := Bd.bytes
  have hml : c.maxLocals = 5 := hml0
  have hown : s.vm.findClass "dev/bindery/benchmark/Variant" = some m.cls := findClass_of_methodNamed Bd.named
  have hnm := (name_of_methodNamed Bd.named Bd.method).1
  have X0 : Stand p l e ({ frames := 2, cells := 1, slots := 3, locals := 28 } : Room) s m #[(.ref qa1)] below meth c s₁ [] 0 0 := Stand.of_body Bd
  have e0 : s₁.heap = h0 := by rw [← hh, Bd.state]; rfl
  have N0 := Fr.nil n0
  have pre0 : ∀ t, Steps p.tables e below (s₁.setTop (mkF m 0 #[.val (.ref qa1), .unset, .unset, .unset, .unset] [])) t → Steps p.tables e below (s₁.setTop (entryFrame m #[(.ref qa1)] 5)) t := fun t k => castTop (ef1 m qa1) k
  obtain ⟨_, _, ⟨T1, L1, k1, n1⟩, -, X1, ⟨Lc1, hQ1, l1, y1, z1⟩, st1⟩ := Jvm.LawKit.callS X0 hx (y := (⟨"dev/bindery/benchmark/Variant", "values", "()[Ldev/bindery/benchmark/Variant;"⟩ : MethodName)) hown (mvT hZ (hw _ (List.mem_of_getElem? (i := 37) rfl))) (mvT hZ (hw _ (List.mem_of_getElem? (i := 38) rfl))) (mvT hZ (hw _ (List.mem_of_getElem? (i := 3) rfl))) (mvT hZ (hw _ (List.mem_of_getElem? (i := 39) rfl))) (by decide) (backOf (W := 0) (rm1 l Z a0 hw [] g_REF g__VALUES g_BYTYPE g_GUICE g_REF_label g_BYTYPE_label g_GUICE_label g_REF_label_value g_BYTYPE_label_value g_GUICE_label_value k__VALUES k_REF_label_value k_BYTYPE_label_value k_GUICE_label_value  h0 n0 X00 hEN) hZ (hw _ (List.mem_of_getElem? (i := 39) rfl)) (hw _ (List.mem_of_getElem? (i := 3) rfl)) (by decide) (by decide)) (g := (mkF m 0 #[.val (.ref qa1), .unset, .unset, .unset, .unset] [])) rfl (by rw [hml]; rfl) (argsL := []) (rest := []) (lenOf pd1 rfl) rfl (by show 2 * 0 + _ ≤ _; exact Nat.le_of_eq rfl) (hb hby d0_0) (fun _ _ => ⟨rfl, e0, (by decide : 0 + 1 ≤ _), (by decide : 0 + 3 ≤ _)⟩)
  dsimp only [Pt.U, Pt.locs, Pt.cells, Pt.slots] at X1 l1 y1 z1 st1 hQ1
  subst l1 y1 z1
  obtain ⟨b2, c3_, rfl, N1q, K1q, w4, w5, w6⟩ := hQ1
  have N1 := Fr.app N0 N1q
  have K7 : Keep h0 T1.heap [] := (Keep.refl h0 []).trans K1q (fun x q => nomatch q)
  have av8 := w6
  obtain ⟨cl8, Ar8, q8, S8, N8, H8, G8⟩ := av8
  have av9 := w6
  obtain ⟨cl9, Ar9, q9, S9, N9, H9, G9⟩ := av9
  have hin10 : ¬ ((0 : Int32) < 0 ∨ cl9.slots.size ≤ ((0 : Int32) : Int32).toNatClampNeg) := inb_of S9 (by decide)
  have hat10 : cl9.slots[((0 : Int32) : Int32).toNatClampNeg]? = some (.ref g_REF) := Has.at H9 hin10 rfl
  have O12 : Old Z n0 T1.heap := X00.keep K1q all0
  obtain ⟨T11, X11, e11, st11⟩ := getF X1 hx hZ hown (host := "") (Or.inl (hw _ (List.mem_of_getElem? (i := 54) rfl))) Via.refl rfl (hEN.2.2.2.2.2.2.2.2.1.ext O12.2) (g := (mkF m 21 #[.val (.ref qa1), .val (.ref b2), .val (.int (3 : Int32)), .val (.int (0 : Int32)), .val (.ref g_REF)] [(.ref g_REF)])) rfl rfl (hb hby d0_21)
  have hp14 : ∀ c ∈ ([(114 : Int32), (101 : Int32), (102 : Int32)] : List Int32), ¬ c < 0 ∧ ¬ (255 : Int32) < c := (List.forall_mem_cons.mpr ⟨(by decide), (List.forall_mem_cons.mpr ⟨(by decide), (List.forall_mem_cons.mpr ⟨(by decide), (fun _ q => nomatch q)⟩)⟩)⟩)
  have hcd15 : StrChars.Road.CodA ([(114 : Int32), (101 : Int32), (102 : Int32)] : List Int32) 0 (3 : Int32) [(.int (114 : Int32)), (.int (101 : Int32)), (.int (102 : Int32))] := StrChars.Road.codOf (n := 3) rfl (fun x hx => (hp14 x hx).2)
  have hbd15 : ∀ x ∈ ([(114 : Int32), (101 : Int32), (102 : Int32)] : List Int32), ¬ x < 0 ∧ ¬ (65535 : Int32) < x := own_up _ hp14
  have E16_ : Exa Z T1.heap qa1 "java/lang/String" := E_qa1.keep K1q
  have F17_ : Fld Z T1.heap qa1 "java/lang/String" "value" "[B" (.ref qa2) := F_qa1_value.keep K1q nin0
  have F18_ : Fld Z T1.heap qa1 "java/lang/String" "coder" "B" (.int (0 : Int32)) := F_qa1_coder.keep K1q nin0
  have A19_ : Arv Z T1.heap qa2 qk3 .byte (3 : Int32) ((([(114 : Int32), (101 : Int32), (102 : Int32)] : List Int32).map (fun c => c.toInt8.toInt32)).map Value.int) (.int 0) := A_qa2.keep K1q nin0
  have hcd20 : StrChars.Road.CodA ([(114 : Int32), (101 : Int32), (102 : Int32)] : List Int32) 0 (3 : Int32) ((([(114 : Int32), (101 : Int32), (102 : Int32)] : List Int32).map (fun c => c.toInt8.toInt32)).map Value.int) := StrChars.Road.codOf (n := 3) rfl (fun x hx => (hp_qa1 x hx).2)
  have hbd20 : ∀ x ∈ ([(114 : Int32), (101 : Int32), (102 : Int32)] : List Int32), ¬ x < 0 ∧ ¬ (65535 : Int32) < x := own_up _ hp_qa1
  obtain ⟨cq13, kq13, q13a, q13b, q13c⟩ := isOf hZ e11 (hEN.2.2.2.2.2.2.2.2.2.1.ext O12.2)
  obtain ⟨_, _, ⟨T13, L13, k13, n13⟩, -, X13, ⟨Lc13, hQ13, l13, y13, z13⟩, st13⟩ := X11.virtualBack hx (y := (⟨"java/lang/String", "equals", "(Ljava/lang/Object;)Z"⟩ : MethodName)) (z := (⟨"java/lang/String", "equals", "(Ljava/lang/Object;)Z"⟩ : MethodName)) hown (mvT hZ (hw _ (List.mem_of_getElem? (i := 56) rfl))) (mvT hZ (hw _ (List.mem_of_getElem? (i := 57) rfl))) (notFace_of_selects (args := #[]) (mvT hZ (hw _ (List.mem_of_getElem? (i := 59) rfl)))) (mvT hZ (hw _ (List.mem_of_getElem? (i := 59) rfl))) (mvT hZ (hw _ (List.mem_of_getElem? (i := 58) rfl))) (by decide) (StrChars.Road.eqW (W := 0) hZ (own_wq hw) (kI := 4) (hw _ (List.mem_of_getElem? (i := 6) rfl)) (hEN.2.2.2.2.2.2.2.2.2.1.ext O12.2) (hEN.2.2.2.2.2.2.2.2.2.2.2.2.2.2.1.ext O12.2) (hEN.2.2.2.2.2.2.2.2.2.2.2.2.2.2.2.2.2.1.ext O12.2) (hEN.2.2.2.2.2.2.2.2.2.2.2.2.2.2.2.2.2.2.2.2.2.1.ext O12.2) hcd15 hbd15 (Nat.le_of_ble_eq_true rfl) E16_ F17_ F18_ A19_ hcd20 hbd20 (Nat.le_of_ble_eq_true rfl) (O2.ext O12.2) P5 (by decide) (by decide)) q13a q13c (g := (mkF m 25 #[.val (.ref qa1), .val (.ref b2), .val (.int (3 : Int32)), .val (.int (0 : Int32)), .val (.ref g_REF)] [(.ref qa1), (.ref g_REF_label)])) rfl (by rw [hml]; rfl) (Steps.refl _) (argsL := [(.ref qa1)]) (rest := []) (lenOf pd2 rfl) rfl (by show 2 * 0 + _ ≤ _; exact Nat.le_of_eq rfl) (hb hby d0_25) (fun _ _ => ⟨rfl, e11, (by decide : 1 + 0 ≤ _), (by decide : 3 + 0 ≤ _)⟩)
  dsimp only [Pt.U, Pt.locs, Pt.cells, Pt.slots] at X13 l13 y13 z13 st13 hQ13
  subst l13 y13 z13
  obtain ⟨hv13, rfl, e13q⟩ := hQ13
  rcases hv13 with ⟨rfl, -⟩ | ⟨-, hq13⟩
  rotate_left
  exact absurd (rfl : ([(114 : Int32), (101 : Int32), (102 : Int32)] : List Int32) = ([(114 : Int32), (101 : Int32), (102 : Int32)] : List Int32)) hq13
  have N13 := Fr.app N1 (Fr.nil n0)
  obtain ⟨fs, hr, hrun, hended, hW, hsame⟩ := X13.leave (v := (some (.ref g_REF))) (fun h => by rw [Bd.returns] at h; cases h)
  refine ⟨_, _, pre0 _ ?_, hrun, hended, _, _, rfl, ?_, ⟨_, rfl⟩, hW, hsame.mono (by decide) (by decide)⟩
  · show Steps p.tables e below (s₁.setTop (mkF m 0 #[.val (.ref qa1), .unset, .unset, .unset, .unset] [])) _
    refine st1 _ ?_
    show Steps p.tables e below (T1.setTop (mkF m 3 #[.val (.ref qa1), .unset, .unset, .unset, .unset] [(.ref b2)])) _
    refine XS.astoreN X1.here hx rfl (hb hby d0_3) rfl rfl (l' := #[.val (.ref qa1), .val (.ref b2), .unset, .unset, .unset]) rfl ?_
    show Steps p.tables e below (T1.setTop (mkF m 4 #[.val (.ref qa1), .val (.ref b2), .unset, .unset, .unset] [])) _
    refine XS.aloadN X1.here hx rfl (hb hby d0_4) rfl rfl ?_
    show Steps p.tables e below (T1.setTop (mkF m 5 #[.val (.ref qa1), .val (.ref b2), .unset, .unset, .unset] [(.ref b2)])) _
    refine X1.arraylength hx Ar8.1 (State.isArrayOf_alike hZ.alike Ar8.2.1) (g := (mkF m 5 #[.val (.ref qa1), .val (.ref b2), .unset, .unset, .unset] [(.ref b2)])) rfl rfl (hb hby d0_5) _ ?_
    rw [len_of S8 N8]
    show Steps p.tables e below (T1.setTop (mkF m 6 #[.val (.ref qa1), .val (.ref b2), .unset, .unset, .unset] [(.int (3 : Int32))])) _
    refine XS.istoreN X1.here hx rfl (hb hby d0_6) rfl (l' := #[.val (.ref qa1), .val (.ref b2), .val (.int (3 : Int32)), .unset, .unset]) rfl ?_
    show Steps p.tables e below (T1.setTop (mkF m 7 #[.val (.ref qa1), .val (.ref b2), .val (.int (3 : Int32)), .unset, .unset] [])) _
    refine XS.iconst X1.here hx rfl (hb hby d0_7) ?_
    show Steps p.tables e below (T1.setTop (mkF m 8 #[.val (.ref qa1), .val (.ref b2), .val (.int (3 : Int32)), .unset, .unset] [(.int (0 : Int32))])) _
    refine XS.istoreN X1.here hx rfl (hb hby d0_8) rfl (l' := #[.val (.ref qa1), .val (.ref b2), .val (.int (3 : Int32)), .val (.int (0 : Int32)), .unset]) rfl ?_
    show Steps p.tables e below (T1.setTop (mkF m 9 #[.val (.ref qa1), .val (.ref b2), .val (.int (3 : Int32)), .val (.int (0 : Int32)), .unset] [])) _
    refine XS.iloadN X1.here hx rfl (hb hby d0_9) rfl ?_
    show Steps p.tables e below (T1.setTop (mkF m 10 #[.val (.ref qa1), .val (.ref b2), .val (.int (3 : Int32)), .val (.int (0 : Int32)), .unset] [(.int (0 : Int32))])) _
    refine XS.iloadN X1.here hx rfl (hb hby d0_10) rfl ?_
    show Steps p.tables e below (T1.setTop (mkF m 11 #[.val (.ref qa1), .val (.ref b2), .val (.int (3 : Int32)), .val (.int (0 : Int32)), .unset] [(.int (3 : Int32)), (.int (0 : Int32))])) _
    refine XS.icmpNo X1.here hx rfl (hb hby d0_11) rfl (XT.ii_ge_f ((by decide) : (0 : Int32) < (3 : Int32))) ?_
    show Steps p.tables e below (T1.setTop (mkF m 14 #[.val (.ref qa1), .val (.ref b2), .val (.int (3 : Int32)), .val (.int (0 : Int32)), .unset] [])) _
    refine XS.aloadN X1.here hx rfl (hb hby d0_14) rfl rfl ?_
    show Steps p.tables e below (T1.setTop (mkF m 15 #[.val (.ref qa1), .val (.ref b2), .val (.int (3 : Int32)), .val (.int (0 : Int32)), .unset] [(.ref b2)])) _
    refine XS.iloadN X1.here hx rfl (hb hby d0_15) rfl ?_
    show Steps p.tables e below (T1.setTop (mkF m 16 #[.val (.ref qa1), .val (.ref b2), .val (.int (3 : Int32)), .val (.int (0 : Int32)), .unset] [(.int (0 : Int32)), (.ref b2)])) _
    refine X1.aaload hx (j := (0 : Int32)) (v := (.ref g_REF)) Ar9.1 (State.isArrayOf_alike hZ.alike Ar9.2.1) rfl Ar9.2.2 hin10 hat10 (g := (mkF m 16 #[.val (.ref qa1), .val (.ref b2), .val (.int (3 : Int32)), .val (.int (0 : Int32)), .unset] [(.int (0 : Int32)), (.ref b2)])) rfl rfl (hb hby d0_16) _ ?_
    show Steps p.tables e below (T1.setTop (mkF m 17 #[.val (.ref qa1), .val (.ref b2), .val (.int (3 : Int32)), .val (.int (0 : Int32)), .unset] [(.ref g_REF)])) _
    refine XS.astore X1.here hx rfl (hb hby d0_17) rfl rfl (l' := #[.val (.ref qa1), .val (.ref b2), .val (.int (3 : Int32)), .val (.int (0 : Int32)), .val (.ref g_REF)]) rfl ?_
    show Steps p.tables e below (T1.setTop (mkF m 19 #[.val (.ref qa1), .val (.ref b2), .val (.int (3 : Int32)), .val (.int (0 : Int32)), .val (.ref g_REF)] [])) _
    refine XS.aload X1.here hx rfl (hb hby d0_19) rfl rfl ?_
    show Steps p.tables e below (T1.setTop (mkF m 21 #[.val (.ref qa1), .val (.ref b2), .val (.int (3 : Int32)), .val (.int (0 : Int32)), .val (.ref g_REF)] [(.ref g_REF)])) _
    refine st11 _ ?_
    show Steps p.tables e below (T11.setTop (mkF m 24 #[.val (.ref qa1), .val (.ref b2), .val (.int (3 : Int32)), .val (.int (0 : Int32)), .val (.ref g_REF)] [(.ref g_REF_label)])) _
    refine XS.aloadN X11.here hx rfl (hb hby d0_24) rfl rfl ?_
    show Steps p.tables e below (T11.setTop (mkF m 25 #[.val (.ref qa1), .val (.ref b2), .val (.int (3 : Int32)), .val (.int (0 : Int32)), .val (.ref g_REF)] [(.ref qa1), (.ref g_REF_label)])) _
    refine st13.trans ?_
    show Steps p.tables e below (T13.setTop (mkF m 28 #[.val (.ref qa1), .val (.ref b2), .val (.int (3 : Int32)), .val (.int (0 : Int32)), .val (.ref g_REF)] [(.int (1 : Int32))])) _
    refine XS.ifNo X13.here hx rfl (hb hby d0_28) rfl (XT.i0_eq_f ((by decide) : ¬ ((1 : Int32) = (0 : Int32)))) ?_
    show Steps p.tables e below (T13.setTop (mkF m 31 #[.val (.ref qa1), .val (.ref b2), .val (.int (3 : Int32)), .val (.int (0 : Int32)), .val (.ref g_REF)] [])) _
    refine XS.aload X13.here hx rfl (hb hby d0_31) rfl rfl ?_
    show Steps p.tables e below (T13.setTop (mkF m 33 #[.val (.ref qa1), .val (.ref b2), .val (.int (3 : Int32)), .val (.int (0 : Int32)), .val (.ref g_REF)] [(.ref g_REF)])) _
    exact retOut X13 hx Bd.returns rfl (Or.inr (Or.inr (Or.inr (Or.inr ⟨rfl, rfl, rfl⟩)))) (hb hby d0_33) hr
  · show Q2 Z g_REF g__VALUES g_BYTYPE g_GUICE g_REF_label g_BYTYPE_label g_GUICE_label g_REF_label_value g_BYTYPE_label_value g_GUICE_label_value k__VALUES k_REF_label_value k_BYTYPE_label_value k_GUICE_label_value G1 qa1 qa2 qk3 h0 n0 _ T13.heap _
    rw [show T13.heap = T1.heap from e13q]
    exact ⟨rfl, N13, K7⟩
theorem pd3 : parseMethodDescriptor "(Ljava/lang/String;)Ldev/bindery/benchmark/Variant;" = some ⟨[(.object "java/lang/String")], some (.object "dev/bindery/benchmark/Variant")⟩ := by decide +kernel
theorem ef3 (m : MethodId) (x0 : Addr) : entryFrame m #[(.ref x0)] 1 = mkF m 0 #[.val (.ref x0)] [] := by first | (simp [entryFrame, mkF, argsToLocals, Value.category]; done) | rfl
theorem d2_0 : decode prog_4_method_4_code 0 = .ok (.aload_n 0, 1) := by decide +kernel
theorem d2_1 : decode prog_4_method_4_code 1 = .ok (.getfield 32, 3) := by decide +kernel
theorem d2_4 : decode prog_4_method_4_code 4 = .ok (.areturn, 1) := by decide +kernel
-- dev/bindery/benchmark/Variant.label()Ljava/lang/String;
def Q3 (Z : State) (g_REF : Addr) (g__VALUES : Addr) (g_BYTYPE : Addr) (g_GUICE : Addr) (g_REF_label : Addr) (g_BYTYPE_label : Addr) (g_GUICE_label : Addr) (g_REF_label_value : Addr) (g_BYTYPE_label_value : Addr) (g_GUICE_label_value : Addr) (k__VALUES : ClassId) (k_REF_label_value : ClassId) (k_BYTYPE_label_value : ClassId) (k_GUICE_label_value : ClassId) (h0 : Heap) (n0 : Nat) (v : Option Value) (h : Heap) (L : List Loc) : Prop := v = some (.ref g_REF_label) ∧ Fr n0 L ∧ h = h0
set_option maxRecDepth 65536 in
set_option maxHeartbeats 40000000 in
theorem rm3 (l : Launch) (Z : State) (a0 : Array Value) (hw : ∀ d ∈ tables_1, d.before a0 Z = true) (ws : List Jvm.Cond) (g_REF : Addr) (g__VALUES : Addr) (g_BYTYPE : Addr) (g_GUICE : Addr) (g_REF_label : Addr) (g_BYTYPE_label : Addr) (g_GUICE_label : Addr) (g_REF_label_value : Addr) (g_BYTYPE_label_value : Addr) (g_GUICE_label_value : Addr) (k__VALUES : ClassId) (k_REF_label_value : ClassId) (k_BYTYPE_label_value : ClassId) (k_GUICE_label_value : ClassId) (h0 : Heap) (n0 : Nat) (X00 : Old Z n0 h0) (hEN : OwnEN Z g_REF g__VALUES g_BYTYPE g_GUICE g_REF_label g_BYTYPE_label g_GUICE_label g_REF_label_value g_BYTYPE_label_value g_GUICE_label_value k__VALUES k_REF_label_value k_BYTYPE_label_value k_GUICE_label_value) :
    MetFree l (⟨"dev/bindery/benchmark/Variant", "label", "()Ljava/lang/String;"⟩ : MethodName) (head1 (Jvm.Cond.code (⟨"dev/bindery/benchmark/Variant", "label", "()Ljava/lang/String;"⟩ : MethodName) prog_4_method_4_code 1 (some (.object "java/lang/String")) :: ws) ({ frames := 0, cells := 0, slots := 0, locals := 0 } : Room)) (fun a U => a = #[(.ref g_REF)] ∧ Z.Warmed39 U.vm ∧ U.heap = h0) (fun _ _ _ _ _ => True) (fun _ U o U' => ∃ v L, o = .returned v ∧ Q3 Z g_REF g__VALUES g_BYTYPE g_GUICE g_REF_label g_BYTYPE_label g_GUICE_label g_REF_label_value g_BYTYPE_label_value g_GUICE_label_value k__VALUES k_REF_label_value k_BYTYPE_label_value k_GUICE_label_value h0 n0 v U'.heap L ∧ FrameEnd U o U' L ({ frames := 0, cells := 0, slots := 0, locals := 0 } : Room).cells ({ frames := 0, cells := 0, slots := 0, locals := 0 } : Room).slots) := by
  refine MetFree.of_bodySF (plainFor_of_name pn1) hisR ?_
  intro p e s m args below meth c s₁ Bd hml0 hP hK
  obtain ⟨rfl, hZ, hh⟩ := hP
  have hx := Bd.exec
  have hby := Bd.bytes
  have hml : c.maxLocals = 1 := hml0
  have hown : s.vm.findClass "dev/bindery/benchmark/Variant" = some m.cls := findClass_of_methodNamed Bd.named
  have hnm := (name_of_methodNamed Bd.named Bd.method).1
  have X0 : Stand p l e ({ frames := 0, cells := 0, slots := 0, locals := 0 } : Room) s m #[(.ref g_REF)] below meth c s₁ [] 0 0 := Stand.of_body Bd
  have e0 : s₁.heap = h0 := by rw [← hh, Bd.state]; rfl
  have N0 := Fr.nil n0
  have pre0 : ∀ t, Steps p.tables e below (s₁.setTop (mkF m 0 #[.val (.ref g_REF)] [])) t → Steps p.tables e below (s₁.setTop (entryFrame m #[(.ref g_REF)] 1)) t := fun t k => castTop (ef3 m g_REF) k
  obtain ⟨T1, X1, e1, st1⟩ := getF X0 hx hZ hown (host := "") (Or.inl (hw _ (List.mem_of_getElem? (i := 54) rfl))) Via.refl e0 (hEN.2.2.2.2.2.2.2.2.1.ext X00.2) (g := (mkF m 1 #[.val (.ref g_REF)] [(.ref g_REF)])) rfl rfl (hb hby d2_1)
  obtain ⟨fs, hr, hrun, hended, hW, hsame⟩ := X1.leave (v := (some (.ref g_REF_label))) (fun h => by rw [Bd.returns] at h; cases h)
  refine ⟨_, _, pre0 _ ?_, hrun, hended, _, _, rfl, ?_, ⟨_, rfl⟩, hW, hsame.mono (by decide) (by decide)⟩
  · show Steps p.tables e below (s₁.setTop (mkF m 0 #[.val (.ref g_REF)] [])) _
    refine XS.aloadN X0.here hx rfl (hb hby d2_0) rfl rfl ?_
    show Steps p.tables e below (s₁.setTop (mkF m 1 #[.val (.ref g_REF)] [(.ref g_REF)])) _
    refine st1 _ ?_
    show Steps p.tables e below (T1.setTop (mkF m 4 #[.val (.ref g_REF)] [(.ref g_REF_label)])) _
    exact retOut X1 hx Bd.returns rfl (Or.inr (Or.inr (Or.inr (Or.inr ⟨rfl, rfl, rfl⟩)))) (hb hby d2_4) hr
  · show Q3 Z g_REF g__VALUES g_BYTYPE g_GUICE g_REF_label g_BYTYPE_label g_GUICE_label g_REF_label_value g_BYTYPE_label_value g_GUICE_label_value k__VALUES k_REF_label_value k_BYTYPE_label_value k_GUICE_label_value h0 n0 _ T1.heap _
    rw [show T1.heap = h0 from e1]
    exact ⟨rfl, N0, rfl⟩
theorem pd4 : parseMethodDescriptor "()Ljava/lang/String;" = some ⟨[], some (.object "java/lang/String")⟩ := by decide +kernel
theorem d0_34 : decode prog_4_method_5_code 34 = .ok (.iinc 3 1, 3) := by decide +kernel
theorem d0_37 : decode prog_4_method_5_code 37 = .ok (.goto (-28), 3) := by decide +kernel
-- dev/bindery/benchmark/Variant.of(Ljava/lang/String;)Ldev/bindery/benchmark/Variant;
def Q4 (Z : State) (g_REF : Addr) (g__VALUES : Addr) (g_BYTYPE : Addr) (g_GUICE : Addr) (g_REF_label : Addr) (g_BYTYPE_label : Addr) (g_GUICE_label : Addr) (g_REF_label_value : Addr) (g_BYTYPE_label_value : Addr) (g_GUICE_label_value : Addr) (k__VALUES : ClassId) (k_REF_label_value : ClassId) (k_BYTYPE_label_value : ClassId) (k_GUICE_label_value : ClassId) (G1 : Int32) (qa1 : Addr) (qa2 : Addr) (qk3 : ClassId) (h0 : Heap) (n0 : Nat) (v : Option Value) (h : Heap) (L : List Loc) : Prop := v = some (.ref g_BYTYPE) ∧ Fr n0 L ∧ Keep h0 h []
set_option maxRecDepth 65536 in
set_option maxHeartbeats 40000000 in
theorem rm4 (l : Launch) (Z : State) (a0 : Array Value) (hw : ∀ d ∈ tables_1, d.before a0 Z = true) (ws : List Jvm.Cond) (g_REF : Addr) (g__VALUES : Addr) (g_BYTYPE : Addr) (g_GUICE : Addr) (g_REF_label : Addr) (g_BYTYPE_label : Addr) (g_GUICE_label : Addr) (g_REF_label_value : Addr) (g_BYTYPE_label_value : Addr) (g_GUICE_label_value : Addr) (k__VALUES : ClassId) (k_REF_label_value : ClassId) (k_BYTYPE_label_value : ClassId) (k_GUICE_label_value : ClassId) (G1 : Int32) (qa1 : Addr) (qa2 : Addr) (qk3 : ClassId) (h0 : Heap) (n0 : Nat) (X00 : Old Z n0 h0) (hEN : OwnEN Z g_REF g__VALUES g_BYTYPE g_GUICE g_REF_label g_BYTYPE_label g_GUICE_label g_REF_label_value g_BYTYPE_label_value g_GUICE_label_value k__VALUES k_REF_label_value k_BYTYPE_label_value k_GUICE_label_value) (O2 : Sta Z Z.heap "java/lang/String" "COMPACT_STRINGS" "Z" (.int G1)) (P5 : ¬ (G1 = (0 : Int32))) (F_qa1_value : Fld Z h0 qa1 "java/lang/String" "value" "[B" (.ref qa2)) (hp_qa1 : ∀ c ∈ ([(98 : Int32), (121 : Int32), (116 : Int32), (121 : Int32), (112 : Int32), (101 : Int32)] : List Int32), ¬ c < 0 ∧ ¬ (255 : Int32) < c) (E_qa1 : Exa Z h0 qa1 "java/lang/String") (F_qa1_coder : Fld Z h0 qa1 "java/lang/String" "coder" "B" (.int (0 : Int32))) (A_qa2 : Arv Z h0 qa2 qk3 .byte (6 : Int32) ((([(98 : Int32), (121 : Int32), (116 : Int32), (121 : Int32), (112 : Int32), (101 : Int32)] : List Int32).map (fun c => c.toInt8.toInt32)).map Value.int) (.int 0)) :
    MetFree l (⟨"dev/bindery/benchmark/Variant", "of", "(Ljava/lang/String;)Ldev/bindery/benchmark/Variant;"⟩ : MethodName) (head1 (Jvm.Cond.code (⟨"dev/bindery/benchmark/Variant", "of", "(Ljava/lang/String;)Ldev/bindery/benchmark/Variant;"⟩ : MethodName) prog_4_method_5_code 5 (some (.object "dev/bindery/benchmark/Variant")) :: ws) ({ frames := 2, cells := 1, slots := 3, locals := 28 } : Room)) (fun a U => a = #[(.ref qa1)] ∧ Z.Warmed39 U.vm ∧ U.heap = h0) (fun _ _ _ _ _ => True) (fun _ U o U' => ∃ v L, o = .returned v ∧ Q4 Z g_REF g__VALUES g_BYTYPE g_GUICE g_REF_label g_BYTYPE_label g_GUICE_label g_REF_label_value g_BYTYPE_label_value g_GUICE_label_value k__VALUES k_REF_label_value k_BYTYPE_label_value k_GUICE_label_value G1 qa1 qa2 qk3 h0 n0 v U'.heap L ∧ FrameEnd U o U' L ({ frames := 2, cells := 1, slots := 3, locals := 28 } : Room).cells ({ frames := 2, cells := 1, slots := 3, locals := 28 } : Room).slots) := by
  refine MetFree.of_bodySF (plainFor_of_name pn1) hisR ?_
  intro p e s m args below meth c s₁ Bd hml0 hP hK
  obtain ⟨rfl, hZ, hh⟩ := hP
  have hx := Bd.exec
  have hby := Bd.bytes
  have hml : c.maxLocals = 5 := hml0
  have hown : s.vm.findClass "dev/bindery/benchmark/Variant" = some m.cls := findClass_of_methodNamed Bd.named
  have hnm := (name_of_methodNamed Bd.named Bd.method).1
  have X0 : Stand p l e ({ frames := 2, cells := 1, slots := 3, locals := 28 } : Room) s m #[(.ref qa1)] below meth c s₁ [] 0 0 := Stand.of_body Bd
  have e0 : s₁.heap = h0 := by rw [← hh, Bd.state]; rfl
  have N0 := Fr.nil n0
  have pre0 : ∀ t, Steps p.tables e below (s₁.setTop (mkF m 0 #[.val (.ref qa1), .unset, .unset, .unset, .unset] [])) t → Steps p.tables e below (s₁.setTop (entryFrame m #[(.ref qa1)] 5)) t := fun t k => castTop (ef1 m qa1) k
  obtain ⟨_, _, ⟨T1, L1, k1, n1⟩, -, X1, ⟨Lc1, hQ1, l1, y1, z1⟩, st1⟩ := Jvm.LawKit.callS X0 hx (y := (⟨"dev/bindery/benchmark/Variant", "values", "()[Ldev/bindery/benchmark/Variant;"⟩ : MethodName)) hown (mvT hZ (hw _ (List.mem_of_getElem? (i := 37) rfl))) (mvT hZ (hw _ (List.mem_of_getElem? (i := 38) rfl))) (mvT hZ (hw _ (List.mem_of_getElem? (i := 3) rfl))) (mvT hZ (hw _ (List.mem_of_getElem? (i := 39) rfl))) (by decide) (backOf (W := 0) (rm1 l Z a0 hw [] g_REF g__VALUES g_BYTYPE g_GUICE g_REF_label g_BYTYPE_label g_GUICE_label g_REF_label_value g_BYTYPE_label_value g_GUICE_label_value k__VALUES k_REF_label_value k_BYTYPE_label_value k_GUICE_label_value  h0 n0 X00 hEN) hZ (hw _ (List.mem_of_getElem? (i := 39) rfl)) (hw _ (List.mem_of_getElem? (i := 3) rfl)) (by decide) (by decide)) (g := (mkF m 0 #[.val (.ref qa1), .unset, .unset, .unset, .unset] [])) rfl (by rw [hml]; rfl) (argsL := []) (rest := []) (lenOf pd1 rfl) rfl (by show 2 * 0 + _ ≤ _; exact Nat.le_of_eq rfl) (hb hby d0_0) (fun _ _ => ⟨rfl, e0, (by decide : 0 + 1 ≤ _), (by decide : 0 + 3 ≤ _)⟩)
  dsimp only [Pt.U, Pt.locs, Pt.cells, Pt.slots] at X1 l1 y1 z1 st1 hQ1
  subst l1 y1 z1
  obtain ⟨b2, c3_, rfl, N1q, K1q, w4, w5, w6⟩ := hQ1
  have N1 := Fr.app N0 N1q
  have K7 : Keep h0 T1.heap [] := (Keep.refl h0 []).trans K1q (fun x q => nomatch q)
  have av8 := w6
  obtain ⟨cl8, Ar8, q8, S8, N8, H8, G8⟩ := av8
  have av9 := w6
  obtain ⟨cl9, Ar9, q9, S9, N9, H9, G9⟩ := av9
  have hin10 : ¬ ((0 : Int32) < 0 ∨ cl9.slots.size ≤ ((0 : Int32) : Int32).toNatClampNeg) := inb_of S9 (by decide)
  have hat10 : cl9.slots[((0 : Int32) : Int32).toNatClampNeg]? = some (.ref g_REF) := Has.at H9 hin10 rfl
  have O12 : Old Z n0 T1.heap := X00.keep K1q all0
  obtain ⟨T11, X11, e11, st11⟩ := getF X1 hx hZ hown (host := "") (Or.inl (hw _ (List.mem_of_getElem? (i := 54) rfl))) Via.refl rfl (hEN.2.2.2.2.2.2.2.2.1.ext O12.2) (g := (mkF m 21 #[.val (.ref qa1), .val (.ref b2), .val (.int (3 : Int32)), .val (.int (0 : Int32)), .val (.ref g_REF)] [(.ref g_REF)])) rfl rfl (hb hby d0_21)
  have hp14 : ∀ c ∈ ([(114 : Int32), (101 : Int32), (102 : Int32)] : List Int32), ¬ c < 0 ∧ ¬ (255 : Int32) < c := (List.forall_mem_cons.mpr ⟨(by decide), (List.forall_mem_cons.mpr ⟨(by decide), (List.forall_mem_cons.mpr ⟨(by decide), (fun _ q => nomatch q)⟩)⟩)⟩)
  have hcd15 : StrChars.Road.CodA ([(114 : Int32), (101 : Int32), (102 : Int32)] : List Int32) 0 (3 : Int32) [(.int (114 : Int32)), (.int (101 : Int32)), (.int (102 : Int32))] := StrChars.Road.codOf (n := 3) rfl (fun x hx => (hp14 x hx).2)
  have hbd15 : ∀ x ∈ ([(114 : Int32), (101 : Int32), (102 : Int32)] : List Int32), ¬ x < 0 ∧ ¬ (65535 : Int32) < x := own_up _ hp14
  have E16_ : Exa Z T1.heap qa1 "java/lang/String" := E_qa1.keep K1q
  have F17_ : Fld Z T1.heap qa1 "java/lang/String" "value" "[B" (.ref qa2) := F_qa1_value.keep K1q nin0
  have F18_ : Fld Z T1.heap qa1 "java/lang/String" "coder" "B" (.int (0 : Int32)) := F_qa1_coder.keep K1q nin0
  have A19_ : Arv Z T1.heap qa2 qk3 .byte (6 : Int32) ((([(98 : Int32), (121 : Int32), (116 : Int32), (121 : Int32), (112 : Int32), (101 : Int32)] : List Int32).map (fun c => c.toInt8.toInt32)).map Value.int) (.int 0) := A_qa2.keep K1q nin0
  have hcd20 : StrChars.Road.CodA ([(98 : Int32), (121 : Int32), (116 : Int32), (121 : Int32), (112 : Int32), (101 : Int32)] : List Int32) 0 (6 : Int32) ((([(98 : Int32), (121 : Int32), (116 : Int32), (121 : Int32), (112 : Int32), (101 : Int32)] : List Int32).map (fun c => c.toInt8.toInt32)).map Value.int) := StrChars.Road.codOf (n := 6) rfl (fun x hx => (hp_qa1 x hx).2)
  have hbd20 : ∀ x ∈ ([(98 : Int32), (121 : Int32), (116 : Int32), (121 : Int32), (112 : Int32), (101 : Int32)] : List Int32), ¬ x < 0 ∧ ¬ (65535 : Int32) < x := own_up _ hp_qa1
  obtain ⟨cq13, kq13, q13a, q13b, q13c⟩ := isOf hZ e11 (hEN.2.2.2.2.2.2.2.2.2.1.ext O12.2)
  obtain ⟨_, _, ⟨T13, L13, k13, n13⟩, -, X13, ⟨Lc13, hQ13, l13, y13, z13⟩, st13⟩ := X11.virtualBack hx (y := (⟨"java/lang/String", "equals", "(Ljava/lang/Object;)Z"⟩ : MethodName)) (z := (⟨"java/lang/String", "equals", "(Ljava/lang/Object;)Z"⟩ : MethodName)) hown (mvT hZ (hw _ (List.mem_of_getElem? (i := 56) rfl))) (mvT hZ (hw _ (List.mem_of_getElem? (i := 57) rfl))) (notFace_of_selects (args := #[]) (mvT hZ (hw _ (List.mem_of_getElem? (i := 59) rfl)))) (mvT hZ (hw _ (List.mem_of_getElem? (i := 59) rfl))) (mvT hZ (hw _ (List.mem_of_getElem? (i := 58) rfl))) (by decide) (StrChars.Road.eqW (W := 0) hZ (own_wq hw) (kI := 4) (hw _ (List.mem_of_getElem? (i := 6) rfl)) (hEN.2.2.2.2.2.2.2.2.2.1.ext O12.2) (hEN.2.2.2.2.2.2.2.2.2.2.2.2.2.2.1.ext O12.2) (hEN.2.2.2.2.2.2.2.2.2.2.2.2.2.2.2.2.2.1.ext O12.2) (hEN.2.2.2.2.2.2.2.2.2.2.2.2.2.2.2.2.2.2.2.2.2.1.ext O12.2) hcd15 hbd15 (Nat.le_of_ble_eq_true rfl) E16_ F17_ F18_ A19_ hcd20 hbd20 (Nat.le_of_ble_eq_true rfl) (O2.ext O12.2) P5 (by decide) (by decide)) q13a q13c (g := (mkF m 25 #[.val (.ref qa1), .val (.ref b2), .val (.int (3 : Int32)), .val (.int (0 : Int32)), .val (.ref g_REF)] [(.ref qa1), (.ref g_REF_label)])) rfl (by rw [hml]; rfl) (Steps.refl _) (argsL := [(.ref qa1)]) (rest := []) (lenOf pd2 rfl) rfl (by show 2 * 0 + _ ≤ _; exact Nat.le_of_eq rfl) (hb hby d0_25) (fun _ _ => ⟨rfl, e11, (by decide : 1 + 0 ≤ _), (by decide : 3 + 0 ≤ _)⟩)
  dsimp only [Pt.U, Pt.locs, Pt.cells, Pt.slots] at X13 l13 y13 z13 st13 hQ13
  subst l13 y13 z13
  obtain ⟨hv13, rfl, e13q⟩ := hQ13
  rcases hv13 with ⟨-, hq13⟩ | ⟨rfl, -⟩
  exact absurd hq13 ((fun q => absurd (congrArg List.length q) (by decide)) : ¬ (([(114 : Int32), (101 : Int32), (102 : Int32)] : List Int32) = ([(98 : Int32), (121 : Int32), (116 : Int32), (121 : Int32), (112 : Int32), (101 : Int32)] : List Int32)))
  have N13 := Fr.app N1 (Fr.nil n0)
  have av21 := w6
  obtain ⟨cl21, Ar21, q21, S21, N21, H21, G21⟩ := av21
  have hin22 : ¬ ((1 : Int32) < 0 ∨ cl21.slots.size ≤ ((1 : Int32) : Int32).toNatClampNeg) := inb_of S21 (by decide)
  have hat22 : cl21.slots[((1 : Int32) : Int32).toNatClampNeg]? = some (.ref g_BYTYPE) := Has.at H21 hin22 rfl
  obtain ⟨T23, X23, e23, st23⟩ := getF X13 hx hZ hown (host := "") (Or.inl (hw _ (List.mem_of_getElem? (i := 54) rfl))) Via.refl e13q (hEN.2.2.2.2.2.2.2.2.2.2.1.ext O12.2) (g := (mkF m 21 #[.val (.ref qa1), .val (.ref b2), .val (.int (3 : Int32)), .val (.int (1 : Int32)), .val (.ref g_BYTYPE)] [(.ref g_BYTYPE)])) rfl rfl (hb hby d0_21)
  have hp25 : ∀ c ∈ ([(98 : Int32), (121 : Int32), (116 : Int32), (121 : Int32), (112 : Int32), (101 : Int32)] : List Int32), ¬ c < 0 ∧ ¬ (255 : Int32) < c := (List.forall_mem_cons.mpr ⟨(by decide), (List.forall_mem_cons.mpr ⟨(by decide), (List.forall_mem_cons.mpr ⟨(by decide), (List.forall_mem_cons.mpr ⟨(by decide), (List.forall_mem_cons.mpr ⟨(by decide), (List.forall_mem_cons.mpr ⟨(by decide), (fun _ q => nomatch q)⟩)⟩)⟩)⟩)⟩)⟩)
  have hcd26 : StrChars.Road.CodA ([(98 : Int32), (121 : Int32), (116 : Int32), (121 : Int32), (112 : Int32), (101 : Int32)] : List Int32) 0 (6 : Int32) [(.int (98 : Int32)), (.int (121 : Int32)), (.int (116 : Int32)), (.int (121 : Int32)), (.int (112 : Int32)), (.int (101 : Int32))] := StrChars.Road.codOf (n := 6) rfl (fun x hx => (hp25 x hx).2)
  have hbd26 : ∀ x ∈ ([(98 : Int32), (121 : Int32), (116 : Int32), (121 : Int32), (112 : Int32), (101 : Int32)] : List Int32), ¬ x < 0 ∧ ¬ (65535 : Int32) < x := own_up _ hp25
  obtain ⟨cq24, kq24, q24a, q24b, q24c⟩ := isOf hZ e23 (hEN.2.2.2.2.2.2.2.2.2.2.2.1.ext O12.2)
  obtain ⟨_, _, ⟨T24, L24, k24, n24⟩, -, X24, ⟨Lc24, hQ24, l24, y24, z24⟩, st24⟩ := X23.virtualBack hx (y := (⟨"java/lang/String", "equals", "(Ljava/lang/Object;)Z"⟩ : MethodName)) (z := (⟨"java/lang/String", "equals", "(Ljava/lang/Object;)Z"⟩ : MethodName)) hown (mvT hZ (hw _ (List.mem_of_getElem? (i := 56) rfl))) (mvT hZ (hw _ (List.mem_of_getElem? (i := 57) rfl))) (notFace_of_selects (args := #[]) (mvT hZ (hw _ (List.mem_of_getElem? (i := 59) rfl)))) (mvT hZ (hw _ (List.mem_of_getElem? (i := 59) rfl))) (mvT hZ (hw _ (List.mem_of_getElem? (i := 58) rfl))) (by decide) (StrChars.Road.eqW (W := 0) hZ (own_wq hw) (kI := 4) (hw _ (List.mem_of_getElem? (i := 6) rfl)) (hEN.2.2.2.2.2.2.2.2.2.2.2.1.ext O12.2) (hEN.2.2.2.2.2.2.2.2.2.2.2.2.2.2.2.1.ext O12.2) (hEN.2.2.2.2.2.2.2.2.2.2.2.2.2.2.2.2.2.2.1.ext O12.2) (hEN.2.2.2.2.2.2.2.2.2.2.2.2.2.2.2.2.2.2.2.2.2.2.1.ext O12.2) hcd26 hbd26 (Nat.le_of_ble_eq_true rfl) E16_ F17_ F18_ A19_ hcd20 hbd20 (Nat.le_of_ble_eq_true rfl) (O2.ext O12.2) P5 (by decide) (by decide)) q24a q24c (g := (mkF m 25 #[.val (.ref qa1), .val (.ref b2), .val (.int (3 : Int32)), .val (.int (1 : Int32)), .val (.ref g_BYTYPE)] [(.ref qa1), (.ref g_BYTYPE_label)])) rfl (by rw [hml]; rfl) (Steps.refl _) (argsL := [(.ref qa1)]) (rest := []) (lenOf pd2 rfl) rfl (by show 2 * 0 + _ ≤ _; exact Nat.le_of_eq rfl) (hb hby d0_25) (fun _ _ => ⟨rfl, e23, (by decide : 1 + 0 ≤ _), (by decide : 3 + 0 ≤ _)⟩)
  dsimp only [Pt.U, Pt.locs, Pt.cells, Pt.slots] at X24 l24 y24 z24 st24 hQ24
  subst l24 y24 z24
  obtain ⟨hv24, rfl, e24q⟩ := hQ24
  rcases hv24 with ⟨rfl, -⟩ | ⟨-, hq24⟩
  rotate_left
  exact absurd (rfl : ([(98 : Int32), (121 : Int32), (116 : Int32), (121 : Int32), (112 : Int32), (101 : Int32)] : List Int32) = ([(98 : Int32), (121 : Int32), (116 : Int32), (121 : Int32), (112 : Int32), (101 : Int32)] : List Int32)) hq24
  have N24 := Fr.app N13 (Fr.nil n0)
  obtain ⟨fs, hr, hrun, hended, hW, hsame⟩ := X24.leave (v := (some (.ref g_BYTYPE))) (fun h => by rw [Bd.returns] at h; cases h)
  refine ⟨_, _, pre0 _ ?_, hrun, hended, _, _, rfl, ?_, ⟨_, rfl⟩, hW, hsame.mono (by decide) (by decide)⟩
  · show Steps p.tables e below (s₁.setTop (mkF m 0 #[.val (.ref qa1), .unset, .unset, .unset, .unset] [])) _
    refine st1 _ ?_
    show Steps p.tables e below (T1.setTop (mkF m 3 #[.val (.ref qa1), .unset, .unset, .unset, .unset] [(.ref b2)])) _
    refine XS.astoreN X1.here hx rfl (hb hby d0_3) rfl rfl (l' := #[.val (.ref qa1), .val (.ref b2), .unset, .unset, .unset]) rfl ?_
    show Steps p.tables e below (T1.setTop (mkF m 4 #[.val (.ref qa1), .val (.ref b2), .unset, .unset, .unset] [])) _
    refine XS.aloadN X1.here hx rfl (hb hby d0_4) rfl rfl ?_
    show Steps p.tables e below (T1.setTop (mkF m 5 #[.val (.ref qa1), .val (.ref b2), .unset, .unset, .unset] [(.ref b2)])) _
    refine X1.arraylength hx Ar8.1 (State.isArrayOf_alike hZ.alike Ar8.2.1) (g := (mkF m 5 #[.val (.ref qa1), .val (.ref b2), .unset, .unset, .unset] [(.ref b2)])) rfl rfl (hb hby d0_5) _ ?_
    rw [len_of S8 N8]
    show Steps p.tables e below (T1.setTop (mkF m 6 #[.val (.ref qa1), .val (.ref b2), .unset, .unset, .unset] [(.int (3 : Int32))])) _
    refine XS.istoreN X1.here hx rfl (hb hby d0_6) rfl (l' := #[.val (.ref qa1), .val (.ref b2), .val (.int (3 : Int32)), .unset, .unset]) rfl ?_
    show Steps p.tables e below (T1.setTop (mkF m 7 #[.val (.ref qa1), .val (.ref b2), .val (.int (3 : Int32)), .unset, .unset] [])) _
    refine XS.iconst X1.here hx rfl (hb hby d0_7) ?_
    show Steps p.tables e below (T1.setTop (mkF m 8 #[.val (.ref qa1), .val (.ref b2), .val (.int (3 : Int32)), .unset, .unset] [(.int (0 : Int32))])) _
    refine XS.istoreN X1.here hx rfl (hb hby d0_8) rfl (l' := #[.val (.ref qa1), .val (.ref b2), .val (.int (3 : Int32)), .val (.int (0 : Int32)), .unset]) rfl ?_
    show Steps p.tables e below (T1.setTop (mkF m 9 #[.val (.ref qa1), .val (.ref b2), .val (.int (3 : Int32)), .val (.int (0 : Int32)), .unset] [])) _
    refine XS.iloadN X1.here hx rfl (hb hby d0_9) rfl ?_
    show Steps p.tables e below (T1.setTop (mkF m 10 #[.val (.ref qa1), .val (.ref b2), .val (.int (3 : Int32)), .val (.int (0 : Int32)), .unset] [(.int (0 : Int32))])) _
    refine XS.iloadN X1.here hx rfl (hb hby d0_10) rfl ?_
    show Steps p.tables e below (T1.setTop (mkF m 11 #[.val (.ref qa1), .val (.ref b2), .val (.int (3 : Int32)), .val (.int (0 : Int32)), .unset] [(.int (3 : Int32)), (.int (0 : Int32))])) _
    refine XS.icmpNo X1.here hx rfl (hb hby d0_11) rfl (XT.ii_ge_f ((by decide) : (0 : Int32) < (3 : Int32))) ?_
    show Steps p.tables e below (T1.setTop (mkF m 14 #[.val (.ref qa1), .val (.ref b2), .val (.int (3 : Int32)), .val (.int (0 : Int32)), .unset] [])) _
    refine XS.aloadN X1.here hx rfl (hb hby d0_14) rfl rfl ?_
    show Steps p.tables e below (T1.setTop (mkF m 15 #[.val (.ref qa1), .val (.ref b2), .val (.int (3 : Int32)), .val (.int (0 : Int32)), .unset] [(.ref b2)])) _
    refine XS.iloadN X1.here hx rfl (hb hby d0_15) rfl ?_
    show Steps p.tables e below (T1.setTop (mkF m 16 #[.val (.ref qa1), .val (.ref b2), .val (.int (3 : Int32)), .val (.int (0 : Int32)), .unset] [(.int (0 : Int32)), (.ref b2)])) _
    refine X1.aaload hx (j := (0 : Int32)) (v := (.ref g_REF)) Ar9.1 (State.isArrayOf_alike hZ.alike Ar9.2.1) rfl Ar9.2.2 hin10 hat10 (g := (mkF m 16 #[.val (.ref qa1), .val (.ref b2), .val (.int (3 : Int32)), .val (.int (0 : Int32)), .unset] [(.int (0 : Int32)), (.ref b2)])) rfl rfl (hb hby d0_16) _ ?_
    show Steps p.tables e below (T1.setTop (mkF m 17 #[.val (.ref qa1), .val (.ref b2), .val (.int (3 : Int32)), .val (.int (0 : Int32)), .unset] [(.ref g_REF)])) _
    refine XS.astore X1.here hx rfl (hb hby d0_17) rfl rfl (l' := #[.val (.ref qa1), .val (.ref b2), .val (.int (3 : Int32)), .val (.int (0 : Int32)), .val (.ref g_REF)]) rfl ?_
    show Steps p.tables e below (T1.setTop (mkF m 19 #[.val (.ref qa1), .val (.ref b2), .val (.int (3 : Int32)), .val (.int (0 : Int32)), .val (.ref g_REF)] [])) _
    refine XS.aload X1.here hx rfl (hb hby d0_19) rfl rfl ?_
    show Steps p.tables e below (T1.setTop (mkF m 21 #[.val (.ref qa1), .val (.ref b2), .val (.int (3 : Int32)), .val (.int (0 : Int32)), .val (.ref g_REF)] [(.ref g_REF)])) _
    refine st11 _ ?_
    show Steps p.tables e below (T11.setTop (mkF m 24 #[.val (.ref qa1), .val (.ref b2), .val (.int (3 : Int32)), .val (.int (0 : Int32)), .val (.ref g_REF)] [(.ref g_REF_label)])) _
    refine XS.aloadN X11.here hx rfl (hb hby d0_24) rfl rfl ?_
    show Steps p.tables e below (T11.setTop (mkF m 25 #[.val (.ref qa1), .val (.ref b2), .val (.int (3 : Int32)), .val (.int (0 : Int32)), .val (.ref g_REF)] [(.ref qa1), (.ref g_REF_label)])) _
    refine st13.trans ?_
    show Steps p.tables e below (T13.setTop (mkF m 28 #[.val (.ref qa1), .val (.ref b2), .val (.int (3 : Int32)), .val (.int (0 : Int32)), .val (.ref g_REF)] [(.int (0 : Int32))])) _
    refine XS.ifYes X13.here hx rfl (pc0 := 28) (pc' := 34) rfl (hb hby d0_28) rfl (XT.i0_eq_t ((by decide) : (0 : Int32) = (0 : Int32))) (by decide) (by decide) ?_
    show Steps p.tables e below (T13.setTop (mkF m 34 #[.val (.ref qa1), .val (.ref b2), .val (.int (3 : Int32)), .val (.int (0 : Int32)), .val (.ref g_REF)] [])) _
    refine XS.iinc X13.here hx rfl (hb hby d0_34) rfl (l' := #[.val (.ref qa1), .val (.ref b2), .val (.int (3 : Int32)), .val (.int (1 : Int32)), .val (.ref g_REF)]) rfl ?_
    show Steps p.tables e below (T13.setTop (mkF m 37 #[.val (.ref qa1), .val (.ref b2), .val (.int (3 : Int32)), .val (.int (1 : Int32)), .val (.ref g_REF)] [])) _
    refine XS.goto X13.here hx rfl (pc0 := 37) (pc' := 9) rfl (hb hby d0_37) (by decide) (by decide) ?_
    show Steps p.tables e below (T13.setTop (mkF m 9 #[.val (.ref qa1), .val (.ref b2), .val (.int (3 : Int32)), .val (.int (1 : Int32)), .val (.ref g_REF)] [])) _
    refine XS.iloadN X13.here hx rfl (hb hby d0_9) rfl ?_
    show Steps p.tables e below (T13.setTop (mkF m 10 #[.val (.ref qa1), .val (.ref b2), .val (.int (3 : Int32)), .val (.int (1 : Int32)), .val (.ref g_REF)] [(.int (1 : Int32))])) _
    refine XS.iloadN X13.here hx rfl (hb hby d0_10) rfl ?_
    show Steps p.tables e below (T13.setTop (mkF m 11 #[.val (.ref qa1), .val (.ref b2), .val (.int (3 : Int32)), .val (.int (1 : Int32)), .val (.ref g_REF)] [(.int (3 : Int32)), (.int (1 : Int32))])) _
    refine XS.icmpNo X13.here hx rfl (hb hby d0_11) rfl (XT.ii_ge_f ((by decide) : (1 : Int32) < (3 : Int32))) ?_
    show Steps p.tables e below (T13.setTop (mkF m 14 #[.val (.ref qa1), .val (.ref b2), .val (.int (3 : Int32)), .val (.int (1 : Int32)), .val (.ref g_REF)] [])) _
    refine XS.aloadN X13.here hx rfl (hb hby d0_14) rfl rfl ?_
    show Steps p.tables e below (T13.setTop (mkF m 15 #[.val (.ref qa1), .val (.ref b2), .val (.int (3 : Int32)), .val (.int (1 : Int32)), .val (.ref g_REF)] [(.ref b2)])) _
    refine XS.iloadN X13.here hx rfl (hb hby d0_15) rfl ?_
    show Steps p.tables e below (T13.setTop (mkF m 16 #[.val (.ref qa1), .val (.ref b2), .val (.int (3 : Int32)), .val (.int (1 : Int32)), .val (.ref g_REF)] [(.int (1 : Int32)), (.ref b2)])) _
    refine X13.aaload hx (j := (1 : Int32)) (v := (.ref g_BYTYPE)) (by rw [e13q]; exact Ar21.1) (State.isArrayOf_alike hZ.alike Ar21.2.1) rfl Ar21.2.2 hin22 hat22 (g := (mkF m 16 #[.val (.ref qa1), .val (.ref b2), .val (.int (3 : Int32)), .val (.int (1 : Int32)), .val (.ref g_REF)] [(.int (1 : Int32)), (.ref b2)])) rfl rfl (hb hby d0_16) _ ?_
    show Steps p.tables e below (T13.setTop (mkF m 17 #[.val (.ref qa1), .val (.ref b2), .val (.int (3 : Int32)), .val (.int (1 : Int32)), .val (.ref g_REF)] [(.ref g_BYTYPE)])) _
    refine XS.astore X13.here hx rfl (hb hby d0_17) rfl rfl (l' := #[.val (.ref qa1), .val (.ref b2), .val (.int (3 : Int32)), .val (.int (1 : Int32)), .val (.ref g_BYTYPE)]) rfl ?_
    show Steps p.tables e below (T13.setTop (mkF m 19 #[.val (.ref qa1), .val (.ref b2), .val (.int (3 : Int32)), .val (.int (1 : Int32)), .val (.ref g_BYTYPE)] [])) _
    refine XS.aload X13.here hx rfl (hb hby d0_19) rfl rfl ?_
    show Steps p.tables e below (T13.setTop (mkF m 21 #[.val (.ref qa1), .val (.ref b2), .val (.int (3 : Int32)), .val (.int (1 : Int32)), .val (.ref g_BYTYPE)] [(.ref g_BYTYPE)])) _
    refine st23 _ ?_
    show Steps p.tables e below (T23.setTop (mkF m 24 #[.val (.ref qa1), .val (.ref b2), .val (.int (3 : Int32)), .val (.int (1 : Int32)), .val (.ref g_BYTYPE)] [(.ref g_BYTYPE_label)])) _
    refine XS.aloadN X23.here hx rfl (hb hby d0_24) rfl rfl ?_
    show Steps p.tables e below (T23.setTop (mkF m 25 #[.val (.ref qa1), .val (.ref b2), .val (.int (3 : Int32)), .val (.int (1 : Int32)), .val (.ref g_BYTYPE)] [(.ref qa1), (.ref g_BYTYPE_label)])) _
    refine st24.trans ?_
    show Steps p.tables e below (T24.setTop (mkF m 28 #[.val (.ref qa1), .val (.ref b2), .val (.int (3 : Int32)), .val (.int (1 : Int32)), .val (.ref g_BYTYPE)] [(.int (1 : Int32))])) _
    refine XS.ifNo X24.here hx rfl (hb hby d0_28) rfl (XT.i0_eq_f ((by decide) : ¬ ((1 : Int32) = (0 : Int32)))) ?_
    show Steps p.tables e below (T24.setTop (mkF m 31 #[.val (.ref qa1), .val (.ref b2), .val (.int (3 : Int32)), .val (.int (1 : Int32)), .val (.ref g_BYTYPE)] [])) _
    refine XS.aload X24.here hx rfl (hb hby d0_31) rfl rfl ?_
    show Steps p.tables e below (T24.setTop (mkF m 33 #[.val (.ref qa1), .val (.ref b2), .val (.int (3 : Int32)), .val (.int (1 : Int32)), .val (.ref g_BYTYPE)] [(.ref g_BYTYPE)])) _
    exact retOut X24 hx Bd.returns rfl (Or.inr (Or.inr (Or.inr (Or.inr ⟨rfl, rfl, rfl⟩)))) (hb hby d0_33) hr
  · show Q4 Z g_REF g__VALUES g_BYTYPE g_GUICE g_REF_label g_BYTYPE_label g_GUICE_label g_REF_label_value g_BYTYPE_label_value g_GUICE_label_value k__VALUES k_REF_label_value k_BYTYPE_label_value k_GUICE_label_value G1 qa1 qa2 qk3 h0 n0 _ T24.heap _
    rw [show T24.heap = T1.heap from e24q]
    exact ⟨rfl, N24, K7⟩
-- dev/bindery/benchmark/Variant.label()Ljava/lang/String;
def Q5 (Z : State) (g_REF : Addr) (g__VALUES : Addr) (g_BYTYPE : Addr) (g_GUICE : Addr) (g_REF_label : Addr) (g_BYTYPE_label : Addr) (g_GUICE_label : Addr) (g_REF_label_value : Addr) (g_BYTYPE_label_value : Addr) (g_GUICE_label_value : Addr) (k__VALUES : ClassId) (k_REF_label_value : ClassId) (k_BYTYPE_label_value : ClassId) (k_GUICE_label_value : ClassId) (h0 : Heap) (n0 : Nat) (v : Option Value) (h : Heap) (L : List Loc) : Prop := v = some (.ref g_BYTYPE_label) ∧ Fr n0 L ∧ h = h0
set_option maxRecDepth 65536 in
set_option maxHeartbeats 40000000 in
theorem rm5 (l : Launch) (Z : State) (a0 : Array Value) (hw : ∀ d ∈ tables_1, d.before a0 Z = true) (ws : List Jvm.Cond) (g_REF : Addr) (g__VALUES : Addr) (g_BYTYPE : Addr) (g_GUICE : Addr) (g_REF_label : Addr) (g_BYTYPE_label : Addr) (g_GUICE_label : Addr) (g_REF_label_value : Addr) (g_BYTYPE_label_value : Addr) (g_GUICE_label_value : Addr) (k__VALUES : ClassId) (k_REF_label_value : ClassId) (k_BYTYPE_label_value : ClassId) (k_GUICE_label_value : ClassId) (h0 : Heap) (n0 : Nat) (X00 : Old Z n0 h0) (hEN : OwnEN Z g_REF g__VALUES g_BYTYPE g_GUICE g_REF_label g_BYTYPE_label g_GUICE_label g_REF_label_value g_BYTYPE_label_value g_GUICE_label_value k__VALUES k_REF_label_value k_BYTYPE_label_value k_GUICE_label_value) :
    MetFree l (⟨"dev/bindery/benchmark/Variant", "label", "()Ljava/lang/String;"⟩ : MethodName) (head1 (Jvm.Cond.code (⟨"dev/bindery/benchmark/Variant", "label", "()Ljava/lang/String;"⟩ : MethodName) prog_4_method_4_code 1 (some (.object "java/lang/String")) :: ws) ({ frames := 0, cells := 0, slots := 0, locals := 0 } : Room)) (fun a U => a = #[(.ref g_BYTYPE)] ∧ Z.Warmed39 U.vm ∧ U.heap = h0) (fun _ _ _ _ _ => True) (fun _ U o U' => ∃ v L, o = .returned v ∧ Q5 Z g_REF g__VALUES g_BYTYPE g_GUICE g_REF_label g_BYTYPE_label g_GUICE_label g_REF_label_value g_BYTYPE_label_value g_GUICE_label_value k__VALUES k_REF_label_value k_BYTYPE_label_value k_GUICE_label_value h0 n0 v U'.heap L ∧ FrameEnd U o U' L ({ frames := 0, cells := 0, slots := 0, locals := 0 } : Room).cells ({ frames := 0, cells := 0, slots := 0, locals := 0 } : Room).slots) := by
  refine MetFree.of_bodySF (plainFor_of_name pn1) hisR ?_
  intro p e s m args below meth c s₁ Bd hml0 hP hK
  obtain ⟨rfl, hZ, hh⟩ := hP
  have hx := Bd.exec
  have hby := Bd.bytes
  have hml : c.maxLocals = 1 := hml0
  have hown : s.vm.findClass "dev/bindery/benchmark/Variant" = some m.cls := findClass_of_methodNamed Bd.named
  have hnm := (name_of_methodNamed Bd.named Bd.method).1
  have X0 : Stand p l e ({ frames := 0, cells := 0, slots := 0, locals := 0 } : Room) s m #[(.ref g_BYTYPE)] below meth c s₁ [] 0 0 := Stand.of_body Bd
  have e0 : s₁.heap = h0 := by rw [← hh, Bd.state]; rfl
  have N0 := Fr.nil n0
  have pre0 : ∀ t, Steps p.tables e below (s₁.setTop (mkF m 0 #[.val (.ref g_BYTYPE)] [])) t → Steps p.tables e below (s₁.setTop (entryFrame m #[(.ref g_BYTYPE)] 1)) t := fun t k => castTop (ef3 m g_BYTYPE) k
  obtain ⟨T1, X1, e1, st1⟩ := getF X0 hx hZ hown (host := "") (Or.inl (hw _ (List.mem_of_getElem? (i := 54) rfl))) Via.refl e0 (hEN.2.2.2.2.2.2.2.2.2.2.1.ext X00.2) (g := (mkF m 1 #[.val (.ref g_BYTYPE)] [(.ref g_BYTYPE)])) rfl rfl (hb hby d2_1)
  obtain ⟨fs, hr, hrun, hended, hW, hsame⟩ := X1.leave (v := (some (.ref g_BYTYPE_label))) (fun h => by rw [Bd.returns] at h; cases h)
  refine ⟨_, _, pre0 _ ?_, hrun, hended, _, _, rfl, ?_, ⟨_, rfl⟩, hW, hsame.mono (by decide) (by decide)⟩
  · show Steps p.tables e below (s₁.setTop (mkF m 0 #[.val (.ref g_BYTYPE)] [])) _
    refine XS.aloadN X0.here hx rfl (hb hby d2_0) rfl rfl ?_
    show Steps p.tables e below (s₁.setTop (mkF m 1 #[.val (.ref g_BYTYPE)] [(.ref g_BYTYPE)])) _
    refine st1 _ ?_
    show Steps p.tables e below (T1.setTop (mkF m 4 #[.val (.ref g_BYTYPE)] [(.ref g_BYTYPE_label)])) _
    exact retOut X1 hx Bd.returns rfl (Or.inr (Or.inr (Or.inr (Or.inr ⟨rfl, rfl, rfl⟩)))) (hb hby d2_4) hr
  · show Q5 Z g_REF g__VALUES g_BYTYPE g_GUICE g_REF_label g_BYTYPE_label g_GUICE_label g_REF_label_value g_BYTYPE_label_value g_GUICE_label_value k__VALUES k_REF_label_value k_BYTYPE_label_value k_GUICE_label_value h0 n0 _ T1.heap _
    rw [show T1.heap = h0 from e1]
    exact ⟨rfl, N0, rfl⟩
-- dev/bindery/benchmark/Variant.of(Ljava/lang/String;)Ldev/bindery/benchmark/Variant;
def Q6 (Z : State) (g_REF : Addr) (g__VALUES : Addr) (g_BYTYPE : Addr) (g_GUICE : Addr) (g_REF_label : Addr) (g_BYTYPE_label : Addr) (g_GUICE_label : Addr) (g_REF_label_value : Addr) (g_BYTYPE_label_value : Addr) (g_GUICE_label_value : Addr) (k__VALUES : ClassId) (k_REF_label_value : ClassId) (k_BYTYPE_label_value : ClassId) (k_GUICE_label_value : ClassId) (G1 : Int32) (qa1 : Addr) (qa2 : Addr) (qk3 : ClassId) (h0 : Heap) (n0 : Nat) (v : Option Value) (h : Heap) (L : List Loc) : Prop := v = some (.ref g_GUICE) ∧ Fr n0 L ∧ Keep h0 h []
set_option maxRecDepth 65536 in
set_option maxHeartbeats 40000000 in
theorem rm6 (l : Launch) (Z : State) (a0 : Array Value) (hw : ∀ d ∈ tables_1, d.before a0 Z = true) (ws : List Jvm.Cond) (g_REF : Addr) (g__VALUES : Addr) (g_BYTYPE : Addr) (g_GUICE : Addr) (g_REF_label : Addr) (g_BYTYPE_label : Addr) (g_GUICE_label : Addr) (g_REF_label_value : Addr) (g_BYTYPE_label_value : Addr) (g_GUICE_label_value : Addr) (k__VALUES : ClassId) (k_REF_label_value : ClassId) (k_BYTYPE_label_value : ClassId) (k_GUICE_label_value : ClassId) (G1 : Int32) (qa1 : Addr) (qa2 : Addr) (qk3 : ClassId) (h0 : Heap) (n0 : Nat) (X00 : Old Z n0 h0) (hEN : OwnEN Z g_REF g__VALUES g_BYTYPE g_GUICE g_REF_label g_BYTYPE_label g_GUICE_label g_REF_label_value g_BYTYPE_label_value g_GUICE_label_value k__VALUES k_REF_label_value k_BYTYPE_label_value k_GUICE_label_value) (O2 : Sta Z Z.heap "java/lang/String" "COMPACT_STRINGS" "Z" (.int G1)) (P5 : ¬ (G1 = (0 : Int32))) (F_qa1_value : Fld Z h0 qa1 "java/lang/String" "value" "[B" (.ref qa2)) (hp_qa1 : ∀ c ∈ ([(103 : Int32), (117 : Int32), (105 : Int32), (99 : Int32), (101 : Int32)] : List Int32), ¬ c < 0 ∧ ¬ (255 : Int32) < c) (E_qa1 : Exa Z h0 qa1 "java/lang/String") (F_qa1_coder : Fld Z h0 qa1 "java/lang/String" "coder" "B" (.int (0 : Int32))) (A_qa2 : Arv Z h0 qa2 qk3 .byte (5 : Int32) ((([(103 : Int32), (117 : Int32), (105 : Int32), (99 : Int32), (101 : Int32)] : List Int32).map (fun c => c.toInt8.toInt32)).map Value.int) (.int 0)) :
    MetFree l (⟨"dev/bindery/benchmark/Variant", "of", "(Ljava/lang/String;)Ldev/bindery/benchmark/Variant;"⟩ : MethodName) (head1 (Jvm.Cond.code (⟨"dev/bindery/benchmark/Variant", "of", "(Ljava/lang/String;)Ldev/bindery/benchmark/Variant;"⟩ : MethodName) prog_4_method_5_code 5 (some (.object "dev/bindery/benchmark/Variant")) :: ws) ({ frames := 2, cells := 1, slots := 3, locals := 28 } : Room)) (fun a U => a = #[(.ref qa1)] ∧ Z.Warmed39 U.vm ∧ U.heap = h0) (fun _ _ _ _ _ => True) (fun _ U o U' => ∃ v L, o = .returned v ∧ Q6 Z g_REF g__VALUES g_BYTYPE g_GUICE g_REF_label g_BYTYPE_label g_GUICE_label g_REF_label_value g_BYTYPE_label_value g_GUICE_label_value k__VALUES k_REF_label_value k_BYTYPE_label_value k_GUICE_label_value G1 qa1 qa2 qk3 h0 n0 v U'.heap L ∧ FrameEnd U o U' L ({ frames := 2, cells := 1, slots := 3, locals := 28 } : Room).cells ({ frames := 2, cells := 1, slots := 3, locals := 28 } : Room).slots) := by
  refine MetFree.of_bodySF (plainFor_of_name pn1) hisR ?_
  intro p e s m args below meth c s₁ Bd hml0 hP hK
  obtain ⟨rfl, hZ, hh⟩ := hP
  have hx := Bd.exec
  have hby := Bd.bytes
  have hml : c.maxLocals = 5 := hml0
  have hown : s.vm.findClass "dev/bindery/benchmark/Variant" = some m.cls := findClass_of_methodNamed Bd.named
  have hnm := (name_of_methodNamed Bd.named Bd.method).1
  have X0 : Stand p l e ({ frames := 2, cells := 1, slots := 3, locals := 28 } : Room) s m #[(.ref qa1)] below meth c s₁ [] 0 0 := Stand.of_body Bd
  have e0 : s₁.heap = h0 := by rw [← hh, Bd.state]; rfl
  have N0 := Fr.nil n0
  have pre0 : ∀ t, Steps p.tables e below (s₁.setTop (mkF m 0 #[.val (.ref qa1), .unset, .unset, .unset, .unset] [])) t → Steps p.tables e below (s₁.setTop (entryFrame m #[(.ref qa1)] 5)) t := fun t k => castTop (ef1 m qa1) k
  obtain ⟨_, _, ⟨T1, L1, k1, n1⟩, -, X1, ⟨Lc1, hQ1, l1, y1, z1⟩, st1⟩ := Jvm.LawKit.callS X0 hx (y := (⟨"dev/bindery/benchmark/Variant", "values", "()[Ldev/bindery/benchmark/Variant;"⟩ : MethodName)) hown (mvT hZ (hw _ (List.mem_of_getElem? (i := 37) rfl))) (mvT hZ (hw _ (List.mem_of_getElem? (i := 38) rfl))) (mvT hZ (hw _ (List.mem_of_getElem? (i := 3) rfl))) (mvT hZ (hw _ (List.mem_of_getElem? (i := 39) rfl))) (by decide) (backOf (W := 0) (rm1 l Z a0 hw [] g_REF g__VALUES g_BYTYPE g_GUICE g_REF_label g_BYTYPE_label g_GUICE_label g_REF_label_value g_BYTYPE_label_value g_GUICE_label_value k__VALUES k_REF_label_value k_BYTYPE_label_value k_GUICE_label_value  h0 n0 X00 hEN) hZ (hw _ (List.mem_of_getElem? (i := 39) rfl)) (hw _ (List.mem_of_getElem? (i := 3) rfl)) (by decide) (by decide)) (g := (mkF m 0 #[.val (.ref qa1), .unset, .unset, .unset, .unset] [])) rfl (by rw [hml]; rfl) (argsL := []) (rest := []) (lenOf pd1 rfl) rfl (by show 2 * 0 + _ ≤ _; exact Nat.le_of_eq rfl) (hb hby d0_0) (fun _ _ => ⟨rfl, e0, (by decide : 0 + 1 ≤ _), (by decide : 0 + 3 ≤ _)⟩)
  dsimp only [Pt.U, Pt.locs, Pt.cells, Pt.slots] at X1 l1 y1 z1 st1 hQ1
  subst l1 y1 z1
  obtain ⟨b2, c3_, rfl, N1q, K1q, w4, w5, w6⟩ := hQ1
  have N1 := Fr.app N0 N1q
  have K7 : Keep h0 T1.heap [] := (Keep.refl h0 []).trans K1q (fun x q => nomatch q)
  have av8 := w6
  obtain ⟨cl8, Ar8, q8, S8, N8, H8, G8⟩ := av8
  have av9 := w6
  obtain ⟨cl9, Ar9, q9, S9, N9, H9, G9⟩ := av9
  have hin10 : ¬ ((0 : Int32) < 0 ∨ cl9.slots.size ≤ ((0 : Int32) : Int32).toNatClampNeg) := inb_of S9 (by decide)
  have hat10 : cl9.slots[((0 : Int32) : Int32).toNatClampNeg]? = some (.ref g_REF) := Has.at H9 hin10 rfl
  have O12 : Old Z n0 T1.heap := X00.keep K1q all0
  obtain ⟨T11, X11, e11, st11⟩ := getF X1 hx hZ hown (host := "") (Or.inl (hw _ (List.mem_of_getElem? (i := 54) rfl))) Via.refl rfl (hEN.2.2.2.2.2.2.2.2.1.ext O12.2) (g := (mkF m 21 #[.val (.ref qa1), .val (.ref b2), .val (.int (3 : Int32)), .val (.int (0 : Int32)), .val (.ref g_REF)] [(.ref g_REF)])) rfl rfl (hb hby d0_21)
  have hp14 : ∀ c ∈ ([(114 : Int32), (101 : Int32), (102 : Int32)] : List Int32), ¬ c < 0 ∧ ¬ (255 : Int32) < c := (List.forall_mem_cons.mpr ⟨(by decide), (List.forall_mem_cons.mpr ⟨(by decide), (List.forall_mem_cons.mpr ⟨(by decide), (fun _ q => nomatch q)⟩)⟩)⟩)
  have hcd15 : StrChars.Road.CodA ([(114 : Int32), (101 : Int32), (102 : Int32)] : List Int32) 0 (3 : Int32) [(.int (114 : Int32)), (.int (101 : Int32)), (.int (102 : Int32))] := StrChars.Road.codOf (n := 3) rfl (fun x hx => (hp14 x hx).2)
  have hbd15 : ∀ x ∈ ([(114 : Int32), (101 : Int32), (102 : Int32)] : List Int32), ¬ x < 0 ∧ ¬ (65535 : Int32) < x := own_up _ hp14
  have E16_ : Exa Z T1.heap qa1 "java/lang/String" := E_qa1.keep K1q
  have F17_ : Fld Z T1.heap qa1 "java/lang/String" "value" "[B" (.ref qa2) := F_qa1_value.keep K1q nin0
  have F18_ : Fld Z T1.heap qa1 "java/lang/String" "coder" "B" (.int (0 : Int32)) := F_qa1_coder.keep K1q nin0
  have A19_ : Arv Z T1.heap qa2 qk3 .byte (5 : Int32) ((([(103 : Int32), (117 : Int32), (105 : Int32), (99 : Int32), (101 : Int32)] : List Int32).map (fun c => c.toInt8.toInt32)).map Value.int) (.int 0) := A_qa2.keep K1q nin0
  have hcd20 : StrChars.Road.CodA ([(103 : Int32), (117 : Int32), (105 : Int32), (99 : Int32), (101 : Int32)] : List Int32) 0 (5 : Int32) ((([(103 : Int32), (117 : Int32), (105 : Int32), (99 : Int32), (101 : Int32)] : List Int32).map (fun c => c.toInt8.toInt32)).map Value.int) := StrChars.Road.codOf (n := 5) rfl (fun x hx => (hp_qa1 x hx).2)
  have hbd20 : ∀ x ∈ ([(103 : Int32), (117 : Int32), (105 : Int32), (99 : Int32), (101 : Int32)] : List Int32), ¬ x < 0 ∧ ¬ (65535 : Int32) < x := own_up _ hp_qa1
  obtain ⟨cq13, kq13, q13a, q13b, q13c⟩ := isOf hZ e11 (hEN.2.2.2.2.2.2.2.2.2.1.ext O12.2)
  obtain ⟨_, _, ⟨T13, L13, k13, n13⟩, -, X13, ⟨Lc13, hQ13, l13, y13, z13⟩, st13⟩ := X11.virtualBack hx (y := (⟨"java/lang/String", "equals", "(Ljava/lang/Object;)Z"⟩ : MethodName)) (z := (⟨"java/lang/String", "equals", "(Ljava/lang/Object;)Z"⟩ : MethodName)) hown (mvT hZ (hw _ (List.mem_of_getElem? (i := 56) rfl))) (mvT hZ (hw _ (List.mem_of_getElem? (i := 57) rfl))) (notFace_of_selects (args := #[]) (mvT hZ (hw _ (List.mem_of_getElem? (i := 59) rfl)))) (mvT hZ (hw _ (List.mem_of_getElem? (i := 59) rfl))) (mvT hZ (hw _ (List.mem_of_getElem? (i := 58) rfl))) (by decide) (StrChars.Road.eqW (W := 0) hZ (own_wq hw) (kI := 4) (hw _ (List.mem_of_getElem? (i := 6) rfl)) (hEN.2.2.2.2.2.2.2.2.2.1.ext O12.2) (hEN.2.2.2.2.2.2.2.2.2.2.2.2.2.2.1.ext O12.2) (hEN.2.2.2.2.2.2.2.2.2.2.2.2.2.2.2.2.2.1.ext O12.2) (hEN.2.2.2.2.2.2.2.2.2.2.2.2.2.2.2.2.2.2.2.2.2.1.ext O12.2) hcd15 hbd15 (Nat.le_of_ble_eq_true rfl) E16_ F17_ F18_ A19_ hcd20 hbd20 (Nat.le_of_ble_eq_true rfl) (O2.ext O12.2) P5 (by decide) (by decide)) q13a q13c (g := (mkF m 25 #[.val (.ref qa1), .val (.ref b2), .val (.int (3 : Int32)), .val (.int (0 : Int32)), .val (.ref g_REF)] [(.ref qa1), (.ref g_REF_label)])) rfl (by rw [hml]; rfl) (Steps.refl _) (argsL := [(.ref qa1)]) (rest := []) (lenOf pd2 rfl) rfl (by show 2 * 0 + _ ≤ _; exact Nat.le_of_eq rfl) (hb hby d0_25) (fun _ _ => ⟨rfl, e11, (by decide : 1 + 0 ≤ _), (by decide : 3 + 0 ≤ _)⟩)
  dsimp only [Pt.U, Pt.locs, Pt.cells, Pt.slots] at X13 l13 y13 z13 st13 hQ13
  subst l13 y13 z13
  obtain ⟨hv13, rfl, e13q⟩ := hQ13
  rcases hv13 with ⟨-, hq13⟩ | ⟨rfl, -⟩
  exact absurd hq13 ((fun q => absurd (congrArg List.length q) (by decide)) : ¬ (([(114 : Int32), (101 : Int32), (102 : Int32)] : List Int32) = ([(103 : Int32), (117 : Int32), (105 : Int32), (99 : Int32), (101 : Int32)] : List Int32)))
  have N13 := Fr.app N1 (Fr.nil n0)
  have av21 := w6
  obtain ⟨cl21, Ar21, q21, S21, N21, H21, G21⟩ := av21
  have hin22 : ¬ ((1 : Int32) < 0 ∨ cl21.slots.size ≤ ((1 : Int32) : Int32).toNatClampNeg) := inb_of S21 (by decide)
  have hat22 : cl21.slots[((1 : Int32) : Int32).toNatClampNeg]? = some (.ref g_BYTYPE) := Has.at H21 hin22 rfl
  obtain ⟨T23, X23, e23, st23⟩ := getF X13 hx hZ hown (host := "") (Or.inl (hw _ (List.mem_of_getElem? (i := 54) rfl))) Via.refl e13q (hEN.2.2.2.2.2.2.2.2.2.2.1.ext O12.2) (g := (mkF m 21 #[.val (.ref qa1), .val (.ref b2), .val (.int (3 : Int32)), .val (.int (1 : Int32)), .val (.ref g_BYTYPE)] [(.ref g_BYTYPE)])) rfl rfl (hb hby d0_21)
  have hp25 : ∀ c ∈ ([(98 : Int32), (121 : Int32), (116 : Int32), (121 : Int32), (112 : Int32), (101 : Int32)] : List Int32), ¬ c < 0 ∧ ¬ (255 : Int32) < c := (List.forall_mem_cons.mpr ⟨(by decide), (List.forall_mem_cons.mpr ⟨(by decide), (List.forall_mem_cons.mpr ⟨(by decide), (List.forall_mem_cons.mpr ⟨(by decide), (List.forall_mem_cons.mpr ⟨(by decide), (List.forall_mem_cons.mpr ⟨(by decide), (fun _ q => nomatch q)⟩)⟩)⟩)⟩)⟩)⟩)
  have hcd26 : StrChars.Road.CodA ([(98 : Int32), (121 : Int32), (116 : Int32), (121 : Int32), (112 : Int32), (101 : Int32)] : List Int32) 0 (6 : Int32) [(.int (98 : Int32)), (.int (121 : Int32)), (.int (116 : Int32)), (.int (121 : Int32)), (.int (112 : Int32)), (.int (101 : Int32))] := StrChars.Road.codOf (n := 6) rfl (fun x hx => (hp25 x hx).2)
  have hbd26 : ∀ x ∈ ([(98 : Int32), (121 : Int32), (116 : Int32), (121 : Int32), (112 : Int32), (101 : Int32)] : List Int32), ¬ x < 0 ∧ ¬ (65535 : Int32) < x := own_up _ hp25
  obtain ⟨cq24, kq24, q24a, q24b, q24c⟩ := isOf hZ e23 (hEN.2.2.2.2.2.2.2.2.2.2.2.1.ext O12.2)
  obtain ⟨_, _, ⟨T24, L24, k24, n24⟩, -, X24, ⟨Lc24, hQ24, l24, y24, z24⟩, st24⟩ := X23.virtualBack hx (y := (⟨"java/lang/String", "equals", "(Ljava/lang/Object;)Z"⟩ : MethodName)) (z := (⟨"java/lang/String", "equals", "(Ljava/lang/Object;)Z"⟩ : MethodName)) hown (mvT hZ (hw _ (List.mem_of_getElem? (i := 56) rfl))) (mvT hZ (hw _ (List.mem_of_getElem? (i := 57) rfl))) (notFace_of_selects (args := #[]) (mvT hZ (hw _ (List.mem_of_getElem? (i := 59) rfl)))) (mvT hZ (hw _ (List.mem_of_getElem? (i := 59) rfl))) (mvT hZ (hw _ (List.mem_of_getElem? (i := 58) rfl))) (by decide) (StrChars.Road.eqW (W := 0) hZ (own_wq hw) (kI := 4) (hw _ (List.mem_of_getElem? (i := 6) rfl)) (hEN.2.2.2.2.2.2.2.2.2.2.2.1.ext O12.2) (hEN.2.2.2.2.2.2.2.2.2.2.2.2.2.2.2.1.ext O12.2) (hEN.2.2.2.2.2.2.2.2.2.2.2.2.2.2.2.2.2.2.1.ext O12.2) (hEN.2.2.2.2.2.2.2.2.2.2.2.2.2.2.2.2.2.2.2.2.2.2.1.ext O12.2) hcd26 hbd26 (Nat.le_of_ble_eq_true rfl) E16_ F17_ F18_ A19_ hcd20 hbd20 (Nat.le_of_ble_eq_true rfl) (O2.ext O12.2) P5 (by decide) (by decide)) q24a q24c (g := (mkF m 25 #[.val (.ref qa1), .val (.ref b2), .val (.int (3 : Int32)), .val (.int (1 : Int32)), .val (.ref g_BYTYPE)] [(.ref qa1), (.ref g_BYTYPE_label)])) rfl (by rw [hml]; rfl) (Steps.refl _) (argsL := [(.ref qa1)]) (rest := []) (lenOf pd2 rfl) rfl (by show 2 * 0 + _ ≤ _; exact Nat.le_of_eq rfl) (hb hby d0_25) (fun _ _ => ⟨rfl, e23, (by decide : 1 + 0 ≤ _), (by decide : 3 + 0 ≤ _)⟩)
  dsimp only [Pt.U, Pt.locs, Pt.cells, Pt.slots] at X24 l24 y24 z24 st24 hQ24
  subst l24 y24 z24
  obtain ⟨hv24, rfl, e24q⟩ := hQ24
  rcases hv24 with ⟨-, hq24⟩ | ⟨rfl, -⟩
  exact absurd hq24 ((fun q => absurd (congrArg List.length q) (by decide)) : ¬ (([(98 : Int32), (121 : Int32), (116 : Int32), (121 : Int32), (112 : Int32), (101 : Int32)] : List Int32) = ([(103 : Int32), (117 : Int32), (105 : Int32), (99 : Int32), (101 : Int32)] : List Int32)))
  have N24 := Fr.app N13 (Fr.nil n0)
  have av27 := w6
  obtain ⟨cl27, Ar27, q27, S27, N27, H27, G27⟩ := av27
  have hin28 : ¬ ((2 : Int32) < 0 ∨ cl27.slots.size ≤ ((2 : Int32) : Int32).toNatClampNeg) := inb_of S27 (by decide)
  have hat28 : cl27.slots[((2 : Int32) : Int32).toNatClampNeg]? = some (.ref g_GUICE) := Has.at H27 hin28 rfl
  obtain ⟨T29, X29, e29, st29⟩ := getF X24 hx hZ hown (host := "") (Or.inl (hw _ (List.mem_of_getElem? (i := 54) rfl))) Via.refl e24q (hEN.2.2.2.2.2.2.2.2.2.2.2.2.1.ext O12.2) (g := (mkF m 21 #[.val (.ref qa1), .val (.ref b2), .val (.int (3 : Int32)), .val (.int (2 : Int32)), .val (.ref g_GUICE)] [(.ref g_GUICE)])) rfl rfl (hb hby d0_21)
  have hp31 : ∀ c ∈ ([(103 : Int32), (117 : Int32), (105 : Int32), (99 : Int32), (101 : Int32)] : List Int32), ¬ c < 0 ∧ ¬ (255 : Int32) < c := (List.forall_mem_cons.mpr ⟨(by decide), (List.forall_mem_cons.mpr ⟨(by decide), (List.forall_mem_cons.mpr ⟨(by decide), (List.forall_mem_cons.mpr ⟨(by decide), (List.forall_mem_cons.mpr ⟨(by decide), (fun _ q => nomatch q)⟩)⟩)⟩)⟩)⟩)
  have hcd32 : StrChars.Road.CodA ([(103 : Int32), (117 : Int32), (105 : Int32), (99 : Int32), (101 : Int32)] : List Int32) 0 (5 : Int32) [(.int (103 : Int32)), (.int (117 : Int32)), (.int (105 : Int32)), (.int (99 : Int32)), (.int (101 : Int32))] := StrChars.Road.codOf (n := 5) rfl (fun x hx => (hp31 x hx).2)
  have hbd32 : ∀ x ∈ ([(103 : Int32), (117 : Int32), (105 : Int32), (99 : Int32), (101 : Int32)] : List Int32), ¬ x < 0 ∧ ¬ (65535 : Int32) < x := own_up _ hp31
  obtain ⟨cq30, kq30, q30a, q30b, q30c⟩ := isOf hZ e29 (hEN.2.2.2.2.2.2.2.2.2.2.2.2.2.1.ext O12.2)
  obtain ⟨_, _, ⟨T30, L30, k30, n30⟩, -, X30, ⟨Lc30, hQ30, l30, y30, z30⟩, st30⟩ := X29.virtualBack hx (y := (⟨"java/lang/String", "equals", "(Ljava/lang/Object;)Z"⟩ : MethodName)) (z := (⟨"java/lang/String", "equals", "(Ljava/lang/Object;)Z"⟩ : MethodName)) hown (mvT hZ (hw _ (List.mem_of_getElem? (i := 56) rfl))) (mvT hZ (hw _ (List.mem_of_getElem? (i := 57) rfl))) (notFace_of_selects (args := #[]) (mvT hZ (hw _ (List.mem_of_getElem? (i := 59) rfl)))) (mvT hZ (hw _ (List.mem_of_getElem? (i := 59) rfl))) (mvT hZ (hw _ (List.mem_of_getElem? (i := 58) rfl))) (by decide) (StrChars.Road.eqW (W := 0) hZ (own_wq hw) (kI := 4) (hw _ (List.mem_of_getElem? (i := 6) rfl)) (hEN.2.2.2.2.2.2.2.2.2.2.2.2.2.1.ext O12.2) (hEN.2.2.2.2.2.2.2.2.2.2.2.2.2.2.2.2.1.ext O12.2) (hEN.2.2.2.2.2.2.2.2.2.2.2.2.2.2.2.2.2.2.2.1.ext O12.2) (hEN.2.2.2.2.2.2.2.2.2.2.2.2.2.2.2.2.2.2.2.2.2.2.2.ext O12.2) hcd32 hbd32 (Nat.le_of_ble_eq_true rfl) E16_ F17_ F18_ A19_ hcd20 hbd20 (Nat.le_of_ble_eq_true rfl) (O2.ext O12.2) P5 (by decide) (by decide)) q30a q30c (g := (mkF m 25 #[.val (.ref qa1), .val (.ref b2), .val (.int (3 : Int32)), .val (.int (2 : Int32)), .val (.ref g_GUICE)] [(.ref qa1), (.ref g_GUICE_label)])) rfl (by rw [hml]; rfl) (Steps.refl _) (argsL := [(.ref qa1)]) (rest := []) (lenOf pd2 rfl) rfl (by show 2 * 0 + _ ≤ _; exact Nat.le_of_eq rfl) (hb hby d0_25) (fun _ _ => ⟨rfl, e29, (by decide : 1 + 0 ≤ _), (by decide : 3 + 0 ≤ _)⟩)
  dsimp only [Pt.U, Pt.locs, Pt.cells, Pt.slots] at X30 l30 y30 z30 st30 hQ30
  subst l30 y30 z30
  obtain ⟨hv30, rfl, e30q⟩ := hQ30
  rcases hv30 with ⟨rfl, -⟩ | ⟨-, hq30⟩
  rotate_left
  exact absurd (rfl : ([(103 : Int32), (117 : Int32), (105 : Int32), (99 : Int32), (101 : Int32)] : List Int32) = ([(103 : Int32), (117 : Int32), (105 : Int32), (99 : Int32), (101 : Int32)] : List Int32)) hq30
  have N30 := Fr.app N24 (Fr.nil n0)
  obtain ⟨fs, hr, hrun, hended, hW, hsame⟩ := X30.leave (v := (some (.ref g_GUICE))) (fun h => by rw [Bd.returns] at h; cases h)
  refine ⟨_, _, pre0 _ ?_, hrun, hended, _, _, rfl, ?_, ⟨_, rfl⟩, hW, hsame.mono (by decide) (by decide)⟩
  · show Steps p.tables e below (s₁.setTop (mkF m 0 #[.val (.ref qa1), .unset, .unset, .unset, .unset] [])) _
    refine st1 _ ?_
    show Steps p.tables e below (T1.setTop (mkF m 3 #[.val (.ref qa1), .unset, .unset, .unset, .unset] [(.ref b2)])) _
    refine XS.astoreN X1.here hx rfl (hb hby d0_3) rfl rfl (l' := #[.val (.ref qa1), .val (.ref b2), .unset, .unset, .unset]) rfl ?_
    show Steps p.tables e below (T1.setTop (mkF m 4 #[.val (.ref qa1), .val (.ref b2), .unset, .unset, .unset] [])) _
    refine XS.aloadN X1.here hx rfl (hb hby d0_4) rfl rfl ?_
    show Steps p.tables e below (T1.setTop (mkF m 5 #[.val (.ref qa1), .val (.ref b2), .unset, .unset, .unset] [(.ref b2)])) _
    refine X1.arraylength hx Ar8.1 (State.isArrayOf_alike hZ.alike Ar8.2.1) (g := (mkF m 5 #[.val (.ref qa1), .val (.ref b2), .unset, .unset, .unset] [(.ref b2)])) rfl rfl (hb hby d0_5) _ ?_
    rw [len_of S8 N8]
    show Steps p.tables e below (T1.setTop (mkF m 6 #[.val (.ref qa1), .val (.ref b2), .unset, .unset, .unset] [(.int (3 : Int32))])) _
    refine XS.istoreN X1.here hx rfl (hb hby d0_6) rfl (l' := #[.val (.ref qa1), .val (.ref b2), .val (.int (3 : Int32)), .unset, .unset]) rfl ?_
    show Steps p.tables e below (T1.setTop (mkF m 7 #[.val (.ref qa1), .val (.ref b2), .val (.int (3 : Int32)), .unset, .unset] [])) _
    refine XS.iconst X1.here hx rfl (hb hby d0_7) ?_
    show Steps p.tables e below (T1.setTop (mkF m 8 #[.val (.ref qa1), .val (.ref b2), .val (.int (3 : Int32)), .unset, .unset] [(.int (0 : Int32))])) _
    refine XS.istoreN X1.here hx rfl (hb hby d0_8) rfl (l' := #[.val (.ref qa1), .val (.ref b2), .val (.int (3 : Int32)), .val (.int (0 : Int32)), .unset]) rfl ?_
    show Steps p.tables e below (T1.setTop (mkF m 9 #[.val (.ref qa1), .val (.ref b2), .val (.int (3 : Int32)), .val (.int (0 : Int32)), .unset] [])) _
    refine XS.iloadN X1.here hx rfl (hb hby d0_9) rfl ?_
    show Steps p.tables e below (T1.setTop (mkF m 10 #[.val (.ref qa1), .val (.ref b2), .val (.int (3 : Int32)), .val (.int (0 : Int32)), .unset] [(.int (0 : Int32))])) _
    refine XS.iloadN X1.here hx rfl (hb hby d0_10) rfl ?_
    show Steps p.tables e below (T1.setTop (mkF m 11 #[.val (.ref qa1), .val (.ref b2), .val (.int (3 : Int32)), .val (.int (0 : Int32)), .unset] [(.int (3 : Int32)), (.int (0 : Int32))])) _
    refine XS.icmpNo X1.here hx rfl (hb hby d0_11) rfl (XT.ii_ge_f ((by decide) : (0 : Int32) < (3 : Int32))) ?_
    show Steps p.tables e below (T1.setTop (mkF m 14 #[.val (.ref qa1), .val (.ref b2), .val (.int (3 : Int32)), .val (.int (0 : Int32)), .unset] [])) _
    refine XS.aloadN X1.here hx rfl (hb hby d0_14) rfl rfl ?_
    show Steps p.tables e below (T1.setTop (mkF m 15 #[.val (.ref qa1), .val (.ref b2), .val (.int (3 : Int32)), .val (.int (0 : Int32)), .unset] [(.ref b2)])) _
    refine XS.iloadN X1.here hx rfl (hb hby d0_15) rfl ?_
    show Steps p.tables e below (T1.setTop (mkF m 16 #[.val (.ref qa1), .val (.ref b2), .val (.int (3 : Int32)), .val (.int (0 : Int32)), .unset] [(.int (0 : Int32)), (.ref b2)])) _
    refine X1.aaload hx (j := (0 : Int32)) (v := (.ref g_REF)) Ar9.1 (State.isArrayOf_alike hZ.alike Ar9.2.1) rfl Ar9.2.2 hin10 hat10 (g := (mkF m 16 #[.val (.ref qa1), .val (.ref b2), .val (.int (3 : Int32)), .val (.int (0 : Int32)), .unset] [(.int (0 : Int32)), (.ref b2)])) rfl rfl (hb hby d0_16) _ ?_
    show Steps p.tables e below (T1.setTop (mkF m 17 #[.val (.ref qa1), .val (.ref b2), .val (.int (3 : Int32)), .val (.int (0 : Int32)), .unset] [(.ref g_REF)])) _
    refine XS.astore X1.here hx rfl (hb hby d0_17) rfl rfl (l' := #[.val (.ref qa1), .val (.ref b2), .val (.int (3 : Int32)), .val (.int (0 : Int32)), .val (.ref g_REF)]) rfl ?_
    show Steps p.tables e below (T1.setTop (mkF m 19 #[.val (.ref qa1), .val (.ref b2), .val (.int (3 : Int32)), .val (.int (0 : Int32)), .val (.ref g_REF)] [])) _
    refine XS.aload X1.here hx rfl (hb hby d0_19) rfl rfl ?_
    show Steps p.tables e below (T1.setTop (mkF m 21 #[.val (.ref qa1), .val (.ref b2), .val (.int (3 : Int32)), .val (.int (0 : Int32)), .val (.ref g_REF)] [(.ref g_REF)])) _
    refine st11 _ ?_
    show Steps p.tables e below (T11.setTop (mkF m 24 #[.val (.ref qa1), .val (.ref b2), .val (.int (3 : Int32)), .val (.int (0 : Int32)), .val (.ref g_REF)] [(.ref g_REF_label)])) _
    refine XS.aloadN X11.here hx rfl (hb hby d0_24) rfl rfl ?_
    show Steps p.tables e below (T11.setTop (mkF m 25 #[.val (.ref qa1), .val (.ref b2), .val (.int (3 : Int32)), .val (.int (0 : Int32)), .val (.ref g_REF)] [(.ref qa1), (.ref g_REF_label)])) _
    refine st13.trans ?_
    show Steps p.tables e below (T13.setTop (mkF m 28 #[.val (.ref qa1), .val (.ref b2), .val (.int (3 : Int32)), .val (.int (0 : Int32)), .val (.ref g_REF)] [(.int (0 : Int32))])) _
    refine XS.ifYes X13.here hx rfl (pc0 := 28) (pc' := 34) rfl (hb hby d0_28) rfl (XT.i0_eq_t ((by decide) : (0 : Int32) = (0 : Int32))) (by decide) (by decide) ?_
    show Steps p.tables e below (T13.setTop (mkF m 34 #[.val (.ref qa1), .val (.ref b2), .val (.int (3 : Int32)), .val (.int (0 : Int32)), .val (.ref g_REF)] [])) _
    refine XS.iinc X13.here hx rfl (hb hby d0_34) rfl (l' := #[.val (.ref qa1), .val (.ref b2), .val (.int (3 : Int32)), .val (.int (1 : Int32)), .val (.ref g_REF)]) rfl ?_
    show Steps p.tables e below (T13.setTop (mkF m 37 #[.val (.ref qa1), .val (.ref b2), .val (.int (3 : Int32)), .val (.int (1 : Int32)), .val (.ref g_REF)] [])) _
    refine XS.goto X13.here hx rfl (pc0 := 37) (pc' := 9) rfl (hb hby d0_37) (by decide) (by decide) ?_
    show Steps p.tables e below (T13.setTop (mkF m 9 #[.val (.ref qa1), .val (.ref b2), .val (.int (3 : Int32)), .val (.int (1 : Int32)), .val (.ref g_REF)] [])) _
    refine XS.iloadN X13.here hx rfl (hb hby d0_9) rfl ?_
    show Steps p.tables e below (T13.setTop (mkF m 10 #[.val (.ref qa1), .val (.ref b2), .val (.int (3 : Int32)), .val (.int (1 : Int32)), .val (.ref g_REF)] [(.int (1 : Int32))])) _
    refine XS.iloadN X13.here hx rfl (hb hby d0_10) rfl ?_
    show Steps p.tables e below (T13.setTop (mkF m 11 #[.val (.ref qa1), .val (.ref b2), .val (.int (3 : Int32)), .val (.int (1 : Int32)), .val (.ref g_REF)] [(.int (3 : Int32)), (.int (1 : Int32))])) _
    refine XS.icmpNo X13.here hx rfl (hb hby d0_11) rfl (XT.ii_ge_f ((by decide) : (1 : Int32) < (3 : Int32))) ?_
    show Steps p.tables e below (T13.setTop (mkF m 14 #[.val (.ref qa1), .val (.ref b2), .val (.int (3 : Int32)), .val (.int (1 : Int32)), .val (.ref g_REF)] [])) _
    refine XS.aloadN X13.here hx rfl (hb hby d0_14) rfl rfl ?_
    show Steps p.tables e below (T13.setTop (mkF m 15 #[.val (.ref qa1), .val (.ref b2), .val (.int (3 : Int32)), .val (.int (1 : Int32)), .val (.ref g_REF)] [(.ref b2)])) _
    refine XS.iloadN X13.here hx rfl (hb hby d0_15) rfl ?_
    show Steps p.tables e below (T13.setTop (mkF m 16 #[.val (.ref qa1), .val (.ref b2), .val (.int (3 : Int32)), .val (.int (1 : Int32)), .val (.ref g_REF)] [(.int (1 : Int32)), (.ref b2)])) _
    refine X13.aaload hx (j := (1 : Int32)) (v := (.ref g_BYTYPE)) (by rw [e13q]; exact Ar21.1) (State.isArrayOf_alike hZ.alike Ar21.2.1) rfl Ar21.2.2 hin22 hat22 (g := (mkF m 16 #[.val (.ref qa1), .val (.ref b2), .val (.int (3 : Int32)), .val (.int (1 : Int32)), .val (.ref g_REF)] [(.int (1 : Int32)), (.ref b2)])) rfl rfl (hb hby d0_16) _ ?_
    show Steps p.tables e below (T13.setTop (mkF m 17 #[.val (.ref qa1), .val (.ref b2), .val (.int (3 : Int32)), .val (.int (1 : Int32)), .val (.ref g_REF)] [(.ref g_BYTYPE)])) _
    refine XS.astore X13.here hx rfl (hb hby d0_17) rfl rfl (l' := #[.val (.ref qa1), .val (.ref b2), .val (.int (3 : Int32)), .val (.int (1 : Int32)), .val (.ref g_BYTYPE)]) rfl ?_
    show Steps p.tables e below (T13.setTop (mkF m 19 #[.val (.ref qa1), .val (.ref b2), .val (.int (3 : Int32)), .val (.int (1 : Int32)), .val (.ref g_BYTYPE)] [])) _
    refine XS.aload X13.here hx rfl (hb hby d0_19) rfl rfl ?_
    show Steps p.tables e below (T13.setTop (mkF m 21 #[.val (.ref qa1), .val (.ref b2), .val (.int (3 : Int32)), .val (.int (1 : Int32)), .val (.ref g_BYTYPE)] [(.ref g_BYTYPE)])) _
    refine st23 _ ?_
    show Steps p.tables e below (T23.setTop (mkF m 24 #[.val (.ref qa1), .val (.ref b2), .val (.int (3 : Int32)), .val (.int (1 : Int32)), .val (.ref g_BYTYPE)] [(.ref g_BYTYPE_label)])) _
    refine XS.aloadN X23.here hx rfl (hb hby d0_24) rfl rfl ?_
    show Steps p.tables e below (T23.setTop (mkF m 25 #[.val (.ref qa1), .val (.ref b2), .val (.int (3 : Int32)), .val (.int (1 : Int32)), .val (.ref g_BYTYPE)] [(.ref qa1), (.ref g_BYTYPE_label)])) _
    refine st24.trans ?_
    show Steps p.tables e below (T24.setTop (mkF m 28 #[.val (.ref qa1), .val (.ref b2), .val (.int (3 : Int32)), .val (.int (1 : Int32)), .val (.ref g_BYTYPE)] [(.int (0 : Int32))])) _
    refine XS.ifYes X24.here hx rfl (pc0 := 28) (pc' := 34) rfl (hb hby d0_28) rfl (XT.i0_eq_t ((by decide) : (0 : Int32) = (0 : Int32))) (by decide) (by decide) ?_
    show Steps p.tables e below (T24.setTop (mkF m 34 #[.val (.ref qa1), .val (.ref b2), .val (.int (3 : Int32)), .val (.int (1 : Int32)), .val (.ref g_BYTYPE)] [])) _
    refine XS.iinc X24.here hx rfl (hb hby d0_34) rfl (l' := #[.val (.ref qa1), .val (.ref b2), .val (.int (3 : Int32)), .val (.int (2 : Int32)), .val (.ref g_BYTYPE)]) rfl ?_
    show Steps p.tables e below (T24.setTop (mkF m 37 #[.val (.ref qa1), .val (.ref b2), .val (.int (3 : Int32)), .val (.int (2 : Int32)), .val (.ref g_BYTYPE)] [])) _
    refine XS.goto X24.here hx rfl (pc0 := 37) (pc' := 9) rfl (hb hby d0_37) (by decide) (by decide) ?_
    show Steps p.tables e below (T24.setTop (mkF m 9 #[.val (.ref qa1), .val (.ref b2), .val (.int (3 : Int32)), .val (.int (2 : Int32)), .val (.ref g_BYTYPE)] [])) _
    refine XS.iloadN X24.here hx rfl (hb hby d0_9) rfl ?_
    show Steps p.tables e below (T24.setTop (mkF m 10 #[.val (.ref qa1), .val (.ref b2), .val (.int (3 : Int32)), .val (.int (2 : Int32)), .val (.ref g_BYTYPE)] [(.int (2 : Int32))])) _
    refine XS.iloadN X24.here hx rfl (hb hby d0_10) rfl ?_
    show Steps p.tables e below (T24.setTop (mkF m 11 #[.val (.ref qa1), .val (.ref b2), .val (.int (3 : Int32)), .val (.int (2 : Int32)), .val (.ref g_BYTYPE)] [(.int (3 : Int32)), (.int (2 : Int32))])) _
    refine XS.icmpNo X24.here hx rfl (hb hby d0_11) rfl (XT.ii_ge_f ((by decide) : (2 : Int32) < (3 : Int32))) ?_
    show Steps p.tables e below (T24.setTop (mkF m 14 #[.val (.ref qa1), .val (.ref b2), .val (.int (3 : Int32)), .val (.int (2 : Int32)), .val (.ref g_BYTYPE)] [])) _
    refine XS.aloadN X24.here hx rfl (hb hby d0_14) rfl rfl ?_
    show Steps p.tables e below (T24.setTop (mkF m 15 #[.val (.ref qa1), .val (.ref b2), .val (.int (3 : Int32)), .val (.int (2 : Int32)), .val (.ref g_BYTYPE)] [(.ref b2)])) _
    refine XS.iloadN X24.here hx rfl (hb hby d0_15) rfl ?_
    show Steps p.tables e below (T24.setTop (mkF m 16 #[.val (.ref qa1), .val (.ref b2), .val (.int (3 : Int32)), .val (.int (2 : Int32)), .val (.ref g_BYTYPE)] [(.int (2 : Int32)), (.ref b2)])) _
    refine X24.aaload hx (j := (2 : Int32)) (v := (.ref g_GUICE)) (by rw [e24q]; exact Ar27.1) (State.isArrayOf_alike hZ.alike Ar27.2.1) rfl Ar27.2.2 hin28 hat28 (g := (mkF m 16 #[.val (.ref qa1), .val (.ref b2), .val (.int (3 : Int32)), .val (.int (2 : Int32)), .val (.ref g_BYTYPE)] [(.int (2 : Int32)), (.ref b2)])) rfl rfl (hb hby d0_16) _ ?_
    show Steps p.tables e below (T24.setTop (mkF m 17 #[.val (.ref qa1), .val (.ref b2), .val (.int (3 : Int32)), .val (.int (2 : Int32)), .val (.ref g_BYTYPE)] [(.ref g_GUICE)])) _
    refine XS.astore X24.here hx rfl (hb hby d0_17) rfl rfl (l' := #[.val (.ref qa1), .val (.ref b2), .val (.int (3 : Int32)), .val (.int (2 : Int32)), .val (.ref g_GUICE)]) rfl ?_
    show Steps p.tables e below (T24.setTop (mkF m 19 #[.val (.ref qa1), .val (.ref b2), .val (.int (3 : Int32)), .val (.int (2 : Int32)), .val (.ref g_GUICE)] [])) _
    refine XS.aload X24.here hx rfl (hb hby d0_19) rfl rfl ?_
    show Steps p.tables e below (T24.setTop (mkF m 21 #[.val (.ref qa1), .val (.ref b2), .val (.int (3 : Int32)), .val (.int (2 : Int32)), .val (.ref g_GUICE)] [(.ref g_GUICE)])) _
    refine st29 _ ?_
    show Steps p.tables e below (T29.setTop (mkF m 24 #[.val (.ref qa1), .val (.ref b2), .val (.int (3 : Int32)), .val (.int (2 : Int32)), .val (.ref g_GUICE)] [(.ref g_GUICE_label)])) _
    refine XS.aloadN X29.here hx rfl (hb hby d0_24) rfl rfl ?_
    show Steps p.tables e below (T29.setTop (mkF m 25 #[.val (.ref qa1), .val (.ref b2), .val (.int (3 : Int32)), .val (.int (2 : Int32)), .val (.ref g_GUICE)] [(.ref qa1), (.ref g_GUICE_label)])) _
    refine st30.trans ?_
    show Steps p.tables e below (T30.setTop (mkF m 28 #[.val (.ref qa1), .val (.ref b2), .val (.int (3 : Int32)), .val (.int (2 : Int32)), .val (.ref g_GUICE)] [(.int (1 : Int32))])) _
    refine XS.ifNo X30.here hx rfl (hb hby d0_28) rfl (XT.i0_eq_f ((by decide) : ¬ ((1 : Int32) = (0 : Int32)))) ?_
    show Steps p.tables e below (T30.setTop (mkF m 31 #[.val (.ref qa1), .val (.ref b2), .val (.int (3 : Int32)), .val (.int (2 : Int32)), .val (.ref g_GUICE)] [])) _
    refine XS.aload X30.here hx rfl (hb hby d0_31) rfl rfl ?_
    show Steps p.tables e below (T30.setTop (mkF m 33 #[.val (.ref qa1), .val (.ref b2), .val (.int (3 : Int32)), .val (.int (2 : Int32)), .val (.ref g_GUICE)] [(.ref g_GUICE)])) _
    exact retOut X30 hx Bd.returns rfl (Or.inr (Or.inr (Or.inr (Or.inr ⟨rfl, rfl, rfl⟩)))) (hb hby d0_33) hr
  · show Q6 Z g_REF g__VALUES g_BYTYPE g_GUICE g_REF_label g_BYTYPE_label g_GUICE_label g_REF_label_value g_BYTYPE_label_value g_GUICE_label_value k__VALUES k_REF_label_value k_BYTYPE_label_value k_GUICE_label_value G1 qa1 qa2 qk3 h0 n0 _ T30.heap _
    rw [show T30.heap = T1.heap from e30q]
    exact ⟨rfl, N30, K7⟩
-- dev/bindery/benchmark/Variant.label()Ljava/lang/String;
def Q7 (Z : State) (g_REF : Addr) (g__VALUES : Addr) (g_BYTYPE : Addr) (g_GUICE : Addr) (g_REF_label : Addr) (g_BYTYPE_label : Addr) (g_GUICE_label : Addr) (g_REF_label_value : Addr) (g_BYTYPE_label_value : Addr) (g_GUICE_label_value : Addr) (k__VALUES : ClassId) (k_REF_label_value : ClassId) (k_BYTYPE_label_value : ClassId) (k_GUICE_label_value : ClassId) (h0 : Heap) (n0 : Nat) (v : Option Value) (h : Heap) (L : List Loc) : Prop := v = some (.ref g_GUICE_label) ∧ Fr n0 L ∧ h = h0
set_option maxRecDepth 65536 in
set_option maxHeartbeats 40000000 in
theorem rm7 (l : Launch) (Z : State) (a0 : Array Value) (hw : ∀ d ∈ tables_1, d.before a0 Z = true) (ws : List Jvm.Cond) (g_REF : Addr) (g__VALUES : Addr) (g_BYTYPE : Addr) (g_GUICE : Addr) (g_REF_label : Addr) (g_BYTYPE_label : Addr) (g_GUICE_label : Addr) (g_REF_label_value : Addr) (g_BYTYPE_label_value : Addr) (g_GUICE_label_value : Addr) (k__VALUES : ClassId) (k_REF_label_value : ClassId) (k_BYTYPE_label_value : ClassId) (k_GUICE_label_value : ClassId) (h0 : Heap) (n0 : Nat) (X00 : Old Z n0 h0) (hEN : OwnEN Z g_REF g__VALUES g_BYTYPE g_GUICE g_REF_label g_BYTYPE_label g_GUICE_label g_REF_label_value g_BYTYPE_label_value g_GUICE_label_value k__VALUES k_REF_label_value k_BYTYPE_label_value k_GUICE_label_value) :
    MetFree l (⟨"dev/bindery/benchmark/Variant", "label", "()Ljava/lang/String;"⟩ : MethodName) (head1 (Jvm.Cond.code (⟨"dev/bindery/benchmark/Variant", "label", "()Ljava/lang/String;"⟩ : MethodName) prog_4_method_4_code 1 (some (.object "java/lang/String")) :: ws) ({ frames := 0, cells := 0, slots := 0, locals := 0 } : Room)) (fun a U => a = #[(.ref g_GUICE)] ∧ Z.Warmed39 U.vm ∧ U.heap = h0) (fun _ _ _ _ _ => True) (fun _ U o U' => ∃ v L, o = .returned v ∧ Q7 Z g_REF g__VALUES g_BYTYPE g_GUICE g_REF_label g_BYTYPE_label g_GUICE_label g_REF_label_value g_BYTYPE_label_value g_GUICE_label_value k__VALUES k_REF_label_value k_BYTYPE_label_value k_GUICE_label_value h0 n0 v U'.heap L ∧ FrameEnd U o U' L ({ frames := 0, cells := 0, slots := 0, locals := 0 } : Room).cells ({ frames := 0, cells := 0, slots := 0, locals := 0 } : Room).slots) := by
  refine MetFree.of_bodySF (plainFor_of_name pn1) hisR ?_
  intro p e s m args below meth c s₁ Bd hml0 hP hK
  obtain ⟨rfl, hZ, hh⟩ := hP
  have hx := Bd.exec
  have hby := Bd.bytes
  have hml : c.maxLocals = 1 := hml0
  have hown : s.vm.findClass "dev/bindery/benchmark/Variant" = some m.cls := findClass_of_methodNamed Bd.named
  have hnm := (name_of_methodNamed Bd.named Bd.method).1
  have X0 : Stand p l e ({ frames := 0, cells := 0, slots := 0, locals := 0 } : Room) s m #[(.ref g_GUICE)] below meth c s₁ [] 0 0 := Stand.of_body Bd
  have e0 : s₁.heap = h0 := by rw [← hh, Bd.state]; rfl
  have N0 := Fr.nil n0
  have pre0 : ∀ t, Steps p.tables e below (s₁.setTop (mkF m 0 #[.val (.ref g_GUICE)] [])) t → Steps p.tables e below (s₁.setTop (entryFrame m #[(.ref g_GUICE)] 1)) t := fun t k => castTop (ef3 m g_GUICE) k
  obtain ⟨T1, X1, e1, st1⟩ := getF X0 hx hZ hown (host := "") (Or.inl (hw _ (List.mem_of_getElem? (i := 54) rfl))) Via.refl e0 (hEN.2.2.2.2.2.2.2.2.2.2.2.2.1.ext X00.2) (g := (mkF m 1 #[.val (.ref g_GUICE)] [(.ref g_GUICE)])) rfl rfl (hb hby d2_1)
  obtain ⟨fs, hr, hrun, hended, hW, hsame⟩ := X1.leave (v := (some (.ref g_GUICE_label))) (fun h => by rw [Bd.returns] at h; cases h)
  refine ⟨_, _, pre0 _ ?_, hrun, hended, _, _, rfl, ?_, ⟨_, rfl⟩, hW, hsame.mono (by decide) (by decide)⟩
  · show Steps p.tables e below (s₁.setTop (mkF m 0 #[.val (.ref g_GUICE)] [])) _
    refine XS.aloadN X0.here hx rfl (hb hby d2_0) rfl rfl ?_
    show Steps p.tables e below (s₁.setTop (mkF m 1 #[.val (.ref g_GUICE)] [(.ref g_GUICE)])) _
    refine st1 _ ?_
    show Steps p.tables e below (T1.setTop (mkF m 4 #[.val (.ref g_GUICE)] [(.ref g_GUICE_label)])) _
    exact retOut X1 hx Bd.returns rfl (Or.inr (Or.inr (Or.inr (Or.inr ⟨rfl, rfl, rfl⟩)))) (hb hby d2_4) hr
  · show Q7 Z g_REF g__VALUES g_BYTYPE g_GUICE g_REF_label g_BYTYPE_label g_GUICE_label g_REF_label_value g_BYTYPE_label_value g_GUICE_label_value k__VALUES k_REF_label_value k_BYTYPE_label_value k_GUICE_label_value h0 n0 _ T1.heap _
    rw [show T1.heap = h0 from e1]
    exact ⟨rfl, N0, rfl⟩
def Q0 (n0 : Nat) (v : Option Value) (h : Heap) (L : List Loc) : Prop := v = some (.int 1) ∧ Fr n0 L
set_option maxRecDepth 65536 in
set_option maxHeartbeats 40000000 in
theorem rm0 (l : Launch) (Z : State) (a0 : Array Value) (hw : ∀ d ∈ tables_1, d.before a0 Z = true) (ws : List Jvm.Cond) (g_REF : Addr) (g__VALUES : Addr) (g_BYTYPE : Addr) (g_GUICE : Addr) (g_REF_label : Addr) (g_BYTYPE_label : Addr) (g_GUICE_label : Addr) (g_REF_label_value : Addr) (g_BYTYPE_label_value : Addr) (g_GUICE_label_value : Addr) (k__VALUES : ClassId) (k_REF_label_value : ClassId) (k_BYTYPE_label_value : ClassId) (k_GUICE_label_value : ClassId) (G1 : Int32) (p1 : Int32) (h0 : Heap) (n0 : Nat) (X00 : Old Z n0 h0) (hEN : OwnEN Z g_REF g__VALUES g_BYTYPE g_GUICE g_REF_label g_BYTYPE_label g_GUICE_label g_REF_label_value g_BYTYPE_label_value g_GUICE_label_value k__VALUES k_REF_label_value k_BYTYPE_label_value k_GUICE_label_value) (O2 : Sta Z Z.heap "java/lang/String" "COMPACT_STRINGS" "Z" (.int G1)) (P5 : ¬ (G1 = (0 : Int32))) :
    MetFree l x (head1 (Jvm.Cond.code x code maxLocals ret :: ws) room_1) (fun a U => a = #[(.int p1)] ∧ Z.Warmed39 U.vm ∧ U.heap = h0) (fun _ _ _ _ _ => True) (fun _ U o U' => ∃ v L, o = .returned v ∧ Q0 n0 v U'.heap L ∧ FrameEnd U o U' L room_1.cells room_1.slots) := by
  refine MetFree.of_bodySF (plainFor_of_name pn0) hisR ?_
  intro p e s m args below meth c s₁ Bd hml0 hP hK
  obtain ⟨rfl, hZ, hh⟩ := hP
  have hx := Bd.exec
  have hby := Bd.bytes
  have hml : c.maxLocals = 6 := hml0
  have hown : s.vm.findClass "dev/bindery/benchmark/VariantOfPinLaw" = some m.cls := findClass_of_methodNamed Bd.named
  have hnm := (name_of_methodNamed Bd.named Bd.method).1
  have X0 : Stand p l e room_1 s m #[(.int p1)] below meth c s₁ [] 0 0 := Stand.of_body Bd
  have e0 : s₁.heap = h0 := by rw [← hh, Bd.state]; rfl
  have N0 := Fr.nil n0
  have pre0 : ∀ t, Steps p.tables e below (s₁.setTop (mkF m 0 #[.val (.int p1), .unset, .unset, .unset, .unset, .unset] [])) t → Steps p.tables e below (s₁.setTop (entryFrame m #[(.int p1)] maxLocals)) t := fun t k => castTop (ef0 m p1) k
  have pr1 : ∀ t, Steps p.tables e below (s₁.setTop (mkF m 8 #[.val (.int p1), .val (.int ((p1 &&& (2147483647 : Int32)) % (3 : Int32))), .unset, .unset, .unset, .unset] [(.int ((p1 &&& (2147483647 : Int32)) % (3 : Int32)))])) t → Steps p.tables e below (s₁.setTop (entryFrame m #[(.int p1)] maxLocals)) t := fun t k => pre0 t (by
    show Steps p.tables e below (s₁.setTop (mkF m 0 #[.val (.int p1), .unset, .unset, .unset, .unset, .unset] [])) _
    refine XS.iloadN X0.here hx rfl (hb hby at_0) rfl ?_
    show Steps p.tables e below (s₁.setTop (mkF m 1 #[.val (.int p1), .unset, .unset, .unset, .unset, .unset] [(.int p1)])) _
    refine X0.ldcInt hx hown (mvT hZ (hw _ (List.mem_of_getElem? (i := 0) rfl))) (g := (mkF m 1 #[.val (.int p1), .unset, .unset, .unset, .unset, .unset] [(.int p1)])) rfl (hb hby at_1) _ ?_
    show Steps p.tables e below (s₁.setTop (mkF m 3 #[.val (.int p1), .unset, .unset, .unset, .unset, .unset] [(.int (2147483647 : Int32)), (.int p1)])) _
    refine XS.iand X0.here hx rfl (hb hby at_3) rfl ?_
    show Steps p.tables e below (s₁.setTop (mkF m 4 #[.val (.int p1), .unset, .unset, .unset, .unset, .unset] [(.int (p1 &&& (2147483647 : Int32)))])) _
    refine XS.iconst X0.here hx rfl (hb hby at_4) ?_
    show Steps p.tables e below (s₁.setTop (mkF m 5 #[.val (.int p1), .unset, .unset, .unset, .unset, .unset] [(.int (3 : Int32)), (.int (p1 &&& (2147483647 : Int32)))])) _
    refine iremM X0 hx (g := (mkF m 5 #[.val (.int p1), .unset, .unset, .unset, .unset, .unset] [(.int (3 : Int32)), (.int (p1 &&& (2147483647 : Int32)))])) rfl (hb hby at_5) rfl (by decide) ?_
    show Steps p.tables e below (s₁.setTop (mkF m 6 #[.val (.int p1), .unset, .unset, .unset, .unset, .unset] [(.int ((p1 &&& (2147483647 : Int32)) % (3 : Int32)))])) _
    refine XS.istoreN X0.here hx rfl (hb hby at_6) rfl (l' := #[.val (.int p1), .val (.int ((p1 &&& (2147483647 : Int32)) % (3 : Int32))), .unset, .unset, .unset, .unset]) rfl ?_
    show Steps p.tables e below (s₁.setTop (mkF m 7 #[.val (.int p1), .val (.int ((p1 &&& (2147483647 : Int32)) % (3 : Int32))), .unset, .unset, .unset, .unset] [])) _
    refine XS.iloadN X0.here hx rfl (hb hby at_7) rfl ?_
    exact k)
  by_cases hc2 : ((p1 &&& (2147483647 : Int32)) % (3 : Int32)) = (0 : Int32)
  ·
    skip
    obtain ⟨T3, h3, c3, X3, e3, E3, A3, st3⟩ := newP X0 hx hZ (hw _ (List.mem_of_getElem? (i := 1) rfl)) e0 (g := (mkF m 12 #[.val (.int p1), .val (.int ((p1 &&& (2147483647 : Int32)) % (3 : Int32))), .unset, .unset, .unset, .unset] [(.int (3 : Int32))])) rfl (hb hby at_12) rfl (by decide) (cap := 3) (by decide) (by decide) (by decide) (by decide)
    obtain ⟨b3, g3⟩ : ∃ z, z = h0.size := ⟨_, rfl⟩
    rw [← g3] at A3 st3
    have K4 : Keep h0 h3 [] := (Keep.refl h0 []).ext E3
    have A5_ : Arv Z h3 b3 c3 .char (3 : Int32) [(.int (0 : Int32)), (.int (0 : Int32)), (.int (0 : Int32))] (.int (0 : Int32)) := (Arv.new A3 (by decide)).pad (pad_rep [] (.int (0 : Int32)) 3)
    have av6 := A5_
    obtain ⟨cl6, Ar6, q6, S6, N6, H6, G6⟩ := av6
    have hin7 : ¬ ((0 : Int32) < 0 ∨ cl6.slots.size ≤ ((0 : Int32) : Int32).toNatClampNeg) := inb_of S6 (by decide)
    obtain ⟨T7, h7, X7, e7, W7, st7⟩ := stC X3 hx hZ e3 Ar6 (j := (0 : Int32)) hin7 (g := (mkF m 18 #[.val (.int p1), .val (.int ((p1 &&& (2147483647 : Int32)) % (3 : Int32))), .unset, .unset, .unset, .unset] [(.int (114 : Int32)), (.int (0 : Int32)), (.ref b3), (.ref b3)])) rfl rfl (hb hby at_18)
    have g_b3 : n0 ≤ b3 := Nat.le_trans (Nat.le_trans (Nat.le_of_eq X00.1.symm) X00.2.1) (Nat.le_of_eq g3.symm)
    have N7_ := Fr.snoc X7 N0 g_b3
    have sz_b3 : h0.size ≤ b3 := (Nat.le_of_eq g3.symm)
    have K8 : Keep h0 h7 [] := K4.wr W7 (Or.inr sz_b3)
    have A9_ : Arv Z h7 b3 c3 .char (3 : Int32) [(.int (114 : Int32)), (.int (0 : Int32)), (.int (0 : Int32))] (.int (0 : Int32)) := Arv.set Ar6 q6 S6 N6 H6 G6 (fits_nar_char _) W7 0 (by decide) (Nat.le_of_ble_eq_true rfl)
    have av10 := A9_
    obtain ⟨cl10, Ar10, q10, S10, N10, H10, G10⟩ := av10
    have hin11 : ¬ ((1 : Int32) < 0 ∨ cl10.slots.size ≤ ((1 : Int32) : Int32).toNatClampNeg) := inb_of S10 (by decide)
    obtain ⟨T11, h11, X11, e11, W11, st11⟩ := stC X7 hx hZ e7 Ar10 (j := (1 : Int32)) hin11 (g := (mkF m 23 #[.val (.int p1), .val (.int ((p1 &&& (2147483647 : Int32)) % (3 : Int32))), .unset, .unset, .unset, .unset] [(.int (101 : Int32)), (.int (1 : Int32)), (.ref b3), (.ref b3)])) rfl rfl (hb hby at_23)
    have N11_ := Fr.snoc X11 N7_ g_b3
    have K12 : Keep h0 h11 [] := K8.wr W11 (Or.inr sz_b3)
    have A13_ : Arv Z h11 b3 c3 .char (3 : Int32) [(.int (114 : Int32)), (.int (101 : Int32)), (.int (0 : Int32))] (.int (0 : Int32)) := Arv.set Ar10 q10 S10 N10 H10 G10 (fits_nar_char _) W11 1 (by decide) (Nat.le_of_ble_eq_true rfl)
    have av14 := A13_
    obtain ⟨cl14, Ar14, q14, S14, N14, H14, G14⟩ := av14
    have hin15 : ¬ ((2 : Int32) < 0 ∨ cl14.slots.size ≤ ((2 : Int32) : Int32).toNatClampNeg) := inb_of S14 (by decide)
    obtain ⟨T15, h15, X15, e15, W15, st15⟩ := stC X11 hx hZ e11 Ar14 (j := (2 : Int32)) hin15 (g := (mkF m 28 #[.val (.int p1), .val (.int ((p1 &&& (2147483647 : Int32)) % (3 : Int32))), .unset, .unset, .unset, .unset] [(.int (102 : Int32)), (.int (2 : Int32)), (.ref b3), (.ref b3)])) rfl rfl (hb hby at_28)
    have N15_ := Fr.snoc X15 N11_ g_b3
    have K16 : Keep h0 h15 [] := K12.wr W15 (Or.inr sz_b3)
    have A17_ : Arv Z h15 b3 c3 .char (3 : Int32) [(.int (114 : Int32)), (.int (101 : Int32)), (.int (102 : Int32))] (.int (0 : Int32)) := Arv.set Ar14 q14 S14 N14 H14 G14 (fits_nar_char _) W15 2 (by decide) (Nat.le_of_ble_eq_true rfl)
    have O19 : Old Z n0 h3 := X00.ext E3
    have O20 : Old Z n0 h7 := O19.wr W7 g_b3
    have O21 : Old Z n0 h11 := O20.wr W11 g_b3
    have O22 : Old Z n0 h15 := O21.wr W15 g_b3
    obtain ⟨T18, X18, e18, st18⟩ := getS2 X15 hx hZ hown (host := "") (Or.inl (hw _ (List.mem_of_getElem? (i := 2) rfl))) Via.refl e15 (hEN.1.ext O22.2) (g := (mkF m 30 #[.val (.int p1), .val (.int ((p1 &&& (2147483647 : Int32)) % (3 : Int32))), .val (.ref b3), .unset, .unset, .unset] [])) rfl (hb hby at_30)
    obtain ⟨T23, h23, X23, e23, E23, A23, D23, -, st23⟩ := newO X18 hx hZ hown (hw _ (List.mem_of_getElem? (i := 5) rfl)) (hw _ (List.mem_of_getElem? (i := 6) rfl)) (hw _ (List.mem_of_getElem? (i := 7) rfl)) e18 (g := (mkF m 117 #[.val (.int p1), .val (.int ((p1 &&& (2147483647 : Int32)) % (3 : Int32))), .val (.ref b3), .val (.ref g_REF), .unset, .unset] [])) rfl (hb hby at_117) (by decide) (by decide)
    obtain ⟨b23, g23⟩ : ∃ z, z = h15.size := ⟨_, rfl⟩
    rw [← g23] at A23 D23 st23
    have K24 : Keep h0 h23 [] := K16.ext E23
    have F25_ : Fld Z h23 b23 "java/lang/String" "coder" "B" (.int (0 : Int32)) := D23 (Or.inr (hw _ (List.mem_of_getElem? (i := 31) rfl))) (ty := .byte) (by decide)
    have F26_ : Fld Z h23 b23 "java/lang/String" "value" "[B" .null := D23 (Or.inr (hw _ (List.mem_of_getElem? (i := 33) rfl))) (ty := (.array .byte)) (by decide)
    have hp28 : ∀ c ∈ ([(114 : Int32), (101 : Int32), (102 : Int32)] : List Int32), ¬ c < 0 ∧ ¬ (255 : Int32) < c := (List.forall_mem_cons.mpr ⟨(by decide), (List.forall_mem_cons.mpr ⟨(by decide), (List.forall_mem_cons.mpr ⟨(by decide), (fun _ q => nomatch q)⟩)⟩)⟩)
    have g_b23 : n0 ≤ b23 := Nat.le_trans (Nat.le_trans (Nat.le_of_eq O22.1.symm) O22.2.1) (Nat.le_of_eq g23.symm)
    have O29 : Old Z n0 h23 := O22.ext E23
    have A30_ : Arv Z h23 b3 c3 .char (3 : Int32) [(.int (114 : Int32)), (.int (101 : Int32)), (.int (102 : Int32))] (.int (0 : Int32)) := A17_.ext E23
    obtain ⟨_, _, ⟨T27, L27, k27, n27⟩, -, X27, ⟨Lc27, hQ27, l27, y27, z27⟩, st27⟩ := X23.specialBack hx (y := (⟨"java/lang/String", "<init>", "([C)V"⟩ : MethodName)) rfl hown (mvT hZ (hw _ (List.mem_of_getElem? (i := 8) rfl))) (mvT hZ (hw _ (List.mem_of_getElem? (i := 9) rfl))) (mvT hZ (hw _ (List.mem_of_getElem? (i := 10) rfl))) (by decide) (StrChars.Road.backV (W := 1) hZ (own_ws hw) (kI := 4) (hw _ (List.mem_of_getElem? (i := 6) rfl)) (cs := ([(114 : Int32), (101 : Int32), (102 : Int32)] : List Int32)) (bs := ([(114 : Int32), (101 : Int32), (102 : Int32)] : List Int32).map (fun c => c.toInt8.toInt32)) (n := 3) g_b23 (Nat.le_trans (Nat.le_of_eq O29.1.symm) O29.2.1) A23 F26_ F25_ A30_ (O2.ext O29.2) P5 rfl rfl (by decide) (by decide) hp28 rfl (by decide) (by decide)) (g := (mkF m 122 #[.val (.int p1), .val (.int ((p1 &&& (2147483647 : Int32)) % (3 : Int32))), .val (.ref b3), .val (.ref g_REF), .unset, .unset] [(.ref b3), (.ref b23), (.ref b23)])) rfl (by rw [hml]; rfl) (Steps.refl _) (a := b23) (argsL := [(.ref b3)]) (rest := [(.ref b23)]) (lenOf pd0 rfl) rfl (by show 2 * 0 + _ ≤ _; exact Nat.le_of_eq rfl) (hb hby at_122) (fun _ _ => ⟨rfl, e23, (by decide : 2 + 1 ≤ _), (by decide : 7 + 3 ≤ _)⟩)
    dsimp only [Pt.U, Pt.locs, Pt.cells, Pt.slots] at X27 l27 y27 z27 st27 hQ27
    subst l27 y27 z27
    obtain ⟨rfl, N27q, K27q, E27q, C27q, b31, c31_, u31, g31, ne31, V31_, A31_⟩ := hQ27
    have N27 := Fr.app N15_ N27q
    have sz_b23 : h0.size ≤ b23 := Nat.le_trans K16.1 (Nat.le_of_eq g23.symm)
    have K32 : Keep h0 T27.heap [] := K24.trans K27q (allS (Or.inr sz_b23) all0)
    have E34_ : Exa Z T27.heap b23 "java/lang/String" := A23.keep K27q
    have O35 : Old Z n0 T27.heap := O29.keep K27q (allS g_b23 all0)
    obtain ⟨_, _, ⟨T33, L33, k33, n33⟩, -, X33, ⟨Lc33, hQ33, l33, y33, z33⟩, st33⟩ := Jvm.LawKit.callS X27 hx (y := (⟨"dev/bindery/benchmark/Variant", "of", "(Ljava/lang/String;)Ldev/bindery/benchmark/Variant;"⟩ : MethodName)) hown (mvT hZ (hw _ (List.mem_of_getElem? (i := 34) rfl))) (mvT hZ (hw _ (List.mem_of_getElem? (i := 35) rfl))) (mvT hZ (hw _ (List.mem_of_getElem? (i := 3) rfl))) (mvT hZ (hw _ (List.mem_of_getElem? (i := 36) rfl))) (by decide) (backOf (W := 0) (rm2 l Z a0 hw [] g_REF g__VALUES g_BYTYPE g_GUICE g_REF_label g_BYTYPE_label g_GUICE_label g_REF_label_value g_BYTYPE_label_value g_GUICE_label_value k__VALUES k_REF_label_value k_BYTYPE_label_value k_GUICE_label_value G1 b23 b31 c31_ T27.heap n0 O35 hEN O2 P5 V31_ hp28 E34_ C27q A31_) hZ (hw _ (List.mem_of_getElem? (i := 36) rfl)) (hw _ (List.mem_of_getElem? (i := 3) rfl)) (by decide) (by decide)) (g := (mkF m 129 #[.val (.int p1), .val (.int ((p1 &&& (2147483647 : Int32)) % (3 : Int32))), .val (.ref b3), .val (.ref g_REF), .val (.ref b23), .unset] [(.ref b23)])) rfl (by rw [hml]; rfl) (argsL := [(.ref b23)]) (rest := []) (lenOf pd3 rfl) rfl (by show 2 * 0 + _ ≤ _; exact Nat.le_of_eq rfl) (hb hby at_129) (fun _ _ => ⟨rfl, rfl, (by decide : 3 + 1 ≤ _), (by decide : 10 + 3 ≤ _)⟩)
    dsimp only [Pt.U, Pt.locs, Pt.cells, Pt.slots] at X33 l33 y33 z33 st33 hQ33
    subst l33 y33 z33
    obtain ⟨rfl, N33q, K33q⟩ := hQ33
    have N33 := Fr.app N27 N33q
    have K36 : Keep h0 T33.heap [] := K32.trans K33q (fun x q => nomatch q)
    have O38 : Old Z n0 T33.heap := O35.keep K33q all0
    obtain ⟨cq37, kq37, q37a, q37b, q37c⟩ := isOf hZ rfl (hEN.2.1.ext O38.2)
    obtain ⟨_, _, ⟨T37, L37, k37, n37⟩, -, X37, ⟨Lc37, hQ37, l37, y37, z37⟩, st37⟩ := X33.virtualBack hx (y := (⟨"dev/bindery/benchmark/Variant", "label", "()Ljava/lang/String;"⟩ : MethodName)) (z := (⟨"dev/bindery/benchmark/Variant", "label", "()Ljava/lang/String;"⟩ : MethodName)) hown (mvT hZ (hw _ (List.mem_of_getElem? (i := 66) rfl))) (mvT hZ (hw _ (List.mem_of_getElem? (i := 67) rfl))) (notFace_of_selects (args := #[]) (mvT hZ (hw _ (List.mem_of_getElem? (i := 69) rfl)))) (mvT hZ (hw _ (List.mem_of_getElem? (i := 69) rfl))) (mvT hZ (hw _ (List.mem_of_getElem? (i := 68) rfl))) (by decide) (backOf (W := 0) (rm3 l Z a0 hw [] g_REF g__VALUES g_BYTYPE g_GUICE g_REF_label g_BYTYPE_label g_GUICE_label g_REF_label_value g_BYTYPE_label_value g_GUICE_label_value k__VALUES k_REF_label_value k_BYTYPE_label_value k_GUICE_label_value  T33.heap n0 O38 hEN) hZ (hw _ (List.mem_of_getElem? (i := 70) rfl)) (hw _ (List.mem_of_getElem? (i := 3) rfl)) (by decide) (by decide)) q37a q37c (g := (mkF m 142 #[.val (.int p1), .val (.int ((p1 &&& (2147483647 : Int32)) % (3 : Int32))), .val (.ref b3), .val (.ref g_REF), .val (.ref b23), .val (.ref g_REF)] [(.ref g_REF)])) rfl (by rw [hml]; rfl) (Steps.refl _) (argsL := []) (rest := []) (lenOf pd4 rfl) rfl (by show 2 * 0 + _ ≤ _; exact Nat.le_of_eq rfl) (hb hby at_142) (fun _ _ => ⟨rfl, rfl, (by decide : 4 + 0 ≤ _), (by decide : 13 + 0 ≤ _)⟩)
    dsimp only [Pt.U, Pt.locs, Pt.cells, Pt.slots] at X37 l37 y37 z37 st37 hQ37
    subst l37 y37 z37
    obtain ⟨rfl, N37q, e37q⟩ := hQ37
    have N37 := Fr.app N33 N37q
    have hp40 : ∀ c ∈ ([(114 : Int32), (101 : Int32), (102 : Int32)] : List Int32), ¬ c < 0 ∧ ¬ (255 : Int32) < c := (List.forall_mem_cons.mpr ⟨(by decide), (List.forall_mem_cons.mpr ⟨(by decide), (List.forall_mem_cons.mpr ⟨(by decide), (fun _ q => nomatch q)⟩)⟩)⟩)
    have hcd41 : StrChars.Road.CodA ([(114 : Int32), (101 : Int32), (102 : Int32)] : List Int32) 0 (3 : Int32) [(.int (114 : Int32)), (.int (101 : Int32)), (.int (102 : Int32))] := StrChars.Road.codOf (n := 3) rfl (fun x hx => (hp40 x hx).2)
    have hbd41 : ∀ x ∈ ([(114 : Int32), (101 : Int32), (102 : Int32)] : List Int32), ¬ x < 0 ∧ ¬ (65535 : Int32) < x := own_up _ hp40
    have E42_ : Exa Z T33.heap b23 "java/lang/String" := E34_.keep K33q
    have F43_ : Fld Z T33.heap b23 "java/lang/String" "value" "[B" (.ref b31) := V31_.keep K33q nin0
    have F44_ : Fld Z T33.heap b23 "java/lang/String" "coder" "B" (.int (0 : Int32)) := C27q.keep K33q nin0
    have A45_ : Arv Z T33.heap b31 c31_ .byte (3 : Int32) ((([(114 : Int32), (101 : Int32), (102 : Int32)] : List Int32).map (fun c => c.toInt8.toInt32)).map Value.int) (.int 0) := A31_.keep K33q nin0
    have hcd46 : StrChars.Road.CodA ([(114 : Int32), (101 : Int32), (102 : Int32)] : List Int32) 0 (3 : Int32) ((([(114 : Int32), (101 : Int32), (102 : Int32)] : List Int32).map (fun c => c.toInt8.toInt32)).map Value.int) := StrChars.Road.codOf (n := 3) rfl (fun x hx => (hp28 x hx).2)
    have hbd46 : ∀ x ∈ ([(114 : Int32), (101 : Int32), (102 : Int32)] : List Int32), ¬ x < 0 ∧ ¬ (65535 : Int32) < x := own_up _ hp28
    obtain ⟨cq39, kq39, q39a, q39b, q39c⟩ := isOf hZ e37q (hEN.2.2.2.2.2.2.2.2.2.1.ext O38.2)
    obtain ⟨_, _, ⟨T39, L39, k39, n39⟩, -, X39, ⟨Lc39, hQ39, l39, y39, z39⟩, st39⟩ := X37.virtualBack hx (y := (⟨"java/lang/String", "equals", "(Ljava/lang/Object;)Z"⟩ : MethodName)) (z := (⟨"java/lang/String", "equals", "(Ljava/lang/Object;)Z"⟩ : MethodName)) hown (mvT hZ (hw _ (List.mem_of_getElem? (i := 71) rfl))) (mvT hZ (hw _ (List.mem_of_getElem? (i := 57) rfl))) (notFace_of_selects (args := #[]) (mvT hZ (hw _ (List.mem_of_getElem? (i := 59) rfl)))) (mvT hZ (hw _ (List.mem_of_getElem? (i := 59) rfl))) (mvT hZ (hw _ (List.mem_of_getElem? (i := 58) rfl))) (by decide) (StrChars.Road.eqW (W := 0) hZ (own_wq hw) (kI := 4) (hw _ (List.mem_of_getElem? (i := 6) rfl)) (hEN.2.2.2.2.2.2.2.2.2.1.ext O38.2) (hEN.2.2.2.2.2.2.2.2.2.2.2.2.2.2.1.ext O38.2) (hEN.2.2.2.2.2.2.2.2.2.2.2.2.2.2.2.2.2.1.ext O38.2) (hEN.2.2.2.2.2.2.2.2.2.2.2.2.2.2.2.2.2.2.2.2.2.1.ext O38.2) hcd41 hbd41 (Nat.le_of_ble_eq_true rfl) E42_ F43_ F44_ A45_ hcd46 hbd46 (Nat.le_of_ble_eq_true rfl) (O2.ext O38.2) P5 (by decide) (by decide)) q39a q39c (g := (mkF m 147 #[.val (.int p1), .val (.int ((p1 &&& (2147483647 : Int32)) % (3 : Int32))), .val (.ref b3), .val (.ref g_REF), .val (.ref b23), .val (.ref g_REF)] [(.ref b23), (.ref g_REF_label)])) rfl (by rw [hml]; rfl) (Steps.refl _) (argsL := [(.ref b23)]) (rest := []) (lenOf pd2 rfl) rfl (by show 2 * 0 + _ ≤ _; exact Nat.le_of_eq rfl) (hb hby at_147) (fun _ _ => ⟨rfl, e37q, (by decide : 4 + 0 ≤ _), (by decide : 13 + 0 ≤ _)⟩)
    dsimp only [Pt.U, Pt.locs, Pt.cells, Pt.slots] at X39 l39 y39 z39 st39 hQ39
    subst l39 y39 z39
    obtain ⟨hv39, rfl, e39q⟩ := hQ39
    rcases hv39 with ⟨rfl, -⟩ | ⟨-, hq39⟩
    rotate_left
    exact absurd (rfl : ([(114 : Int32), (101 : Int32), (102 : Int32)] : List Int32) = ([(114 : Int32), (101 : Int32), (102 : Int32)] : List Int32)) hq39
    have N39 := Fr.app N37 (Fr.nil n0)
    obtain ⟨fs, hr, hrun, hended, hW, hsame⟩ := X39.leave (v := (some (.int (1 : Int32)))) (fun h => by rw [Bd.returns] at h; cases h)
    refine ⟨_, _, pr1 _ ?_, hrun, hended, _, _, rfl, ?_, ⟨_, rfl⟩, hW, hsame.mono (by decide) (by decide)⟩
    · show Steps p.tables e below (s₁.setTop (mkF m 8 #[.val (.int p1), .val (.int ((p1 &&& (2147483647 : Int32)) % (3 : Int32))), .unset, .unset, .unset, .unset] [(.int ((p1 &&& (2147483647 : Int32)) % (3 : Int32)))])) _
      refine XS.ifNo X0.here hx rfl (hb hby at_8) rfl (XT.i0_ne_f (hc2 : ((p1 &&& (2147483647 : Int32)) % (3 : Int32)) = (0 : Int32))) ?_
      show Steps p.tables e below (s₁.setTop (mkF m 11 #[.val (.int p1), .val (.int ((p1 &&& (2147483647 : Int32)) % (3 : Int32))), .unset, .unset, .unset, .unset] [])) _
      refine XS.iconst X0.here hx rfl (hb hby at_11) ?_
      show Steps p.tables e below (s₁.setTop (mkF m 12 #[.val (.int p1), .val (.int ((p1 &&& (2147483647 : Int32)) % (3 : Int32))), .unset, .unset, .unset, .unset] [(.int (3 : Int32))])) _
      refine st3 _ ?_
      show Steps p.tables e below (T3.setTop (mkF m 14 #[.val (.int p1), .val (.int ((p1 &&& (2147483647 : Int32)) % (3 : Int32))), .unset, .unset, .unset, .unset] [(.ref b3)])) _
      refine XS.dup X3.here hx rfl (hb hby at_14) rfl rfl ?_
      show Steps p.tables e below (T3.setTop (mkF m 15 #[.val (.int p1), .val (.int ((p1 &&& (2147483647 : Int32)) % (3 : Int32))), .unset, .unset, .unset, .unset] [(.ref b3), (.ref b3)])) _
      refine XS.iconst X3.here hx rfl (hb hby at_15) ?_
      show Steps p.tables e below (T3.setTop (mkF m 16 #[.val (.int p1), .val (.int ((p1 &&& (2147483647 : Int32)) % (3 : Int32))), .unset, .unset, .unset, .unset] [(.int (0 : Int32)), (.ref b3), (.ref b3)])) _
      refine XS.bipush X3.here hx rfl (hb hby at_16) ?_
      show Steps p.tables e below (T3.setTop (mkF m 18 #[.val (.int p1), .val (.int ((p1 &&& (2147483647 : Int32)) % (3 : Int32))), .unset, .unset, .unset, .unset] [(.int (114 : Int32)), (.int (0 : Int32)), (.ref b3), (.ref b3)])) _
      refine st7 _ ?_
      show Steps p.tables e below (T7.setTop (mkF m 19 #[.val (.int p1), .val (.int ((p1 &&& (2147483647 : Int32)) % (3 : Int32))), .unset, .unset, .unset, .unset] [(.ref b3)])) _
      refine XS.dup X7.here hx rfl (hb hby at_19) rfl rfl ?_
      show Steps p.tables e below (T7.setTop (mkF m 20 #[.val (.int p1), .val (.int ((p1 &&& (2147483647 : Int32)) % (3 : Int32))), .unset, .unset, .unset, .unset] [(.ref b3), (.ref b3)])) _
      refine XS.iconst X7.here hx rfl (hb hby at_20) ?_
      show Steps p.tables e below (T7.setTop (mkF m 21 #[.val (.int p1), .val (.int ((p1 &&& (2147483647 : Int32)) % (3 : Int32))), .unset, .unset, .unset, .unset] [(.int (1 : Int32)), (.ref b3), (.ref b3)])) _
      refine XS.bipush X7.here hx rfl (hb hby at_21) ?_
      show Steps p.tables e below (T7.setTop (mkF m 23 #[.val (.int p1), .val (.int ((p1 &&& (2147483647 : Int32)) % (3 : Int32))), .unset, .unset, .unset, .unset] [(.int (101 : Int32)), (.int (1 : Int32)), (.ref b3), (.ref b3)])) _
      refine st11 _ ?_
      show Steps p.tables e below (T11.setTop (mkF m 24 #[.val (.int p1), .val (.int ((p1 &&& (2147483647 : Int32)) % (3 : Int32))), .unset, .unset, .unset, .unset] [(.ref b3)])) _
      refine XS.dup X11.here hx rfl (hb hby at_24) rfl rfl ?_
      show Steps p.tables e below (T11.setTop (mkF m 25 #[.val (.int p1), .val (.int ((p1 &&& (2147483647 : Int32)) % (3 : Int32))), .unset, .unset, .unset, .unset] [(.ref b3), (.ref b3)])) _
      refine XS.iconst X11.here hx rfl (hb hby at_25) ?_
      show Steps p.tables e below (T11.setTop (mkF m 26 #[.val (.int p1), .val (.int ((p1 &&& (2147483647 : Int32)) % (3 : Int32))), .unset, .unset, .unset, .unset] [(.int (2 : Int32)), (.ref b3), (.ref b3)])) _
      refine XS.bipush X11.here hx rfl (hb hby at_26) ?_
      show Steps p.tables e below (T11.setTop (mkF m 28 #[.val (.int p1), .val (.int ((p1 &&& (2147483647 : Int32)) % (3 : Int32))), .unset, .unset, .unset, .unset] [(.int (102 : Int32)), (.int (2 : Int32)), (.ref b3), (.ref b3)])) _
      refine st15 _ ?_
      show Steps p.tables e below (T15.setTop (mkF m 29 #[.val (.int p1), .val (.int ((p1 &&& (2147483647 : Int32)) % (3 : Int32))), .unset, .unset, .unset, .unset] [(.ref b3)])) _
      refine XS.astoreN X15.here hx rfl (hb hby at_29) rfl rfl (l' := #[.val (.int p1), .val (.int ((p1 &&& (2147483647 : Int32)) % (3 : Int32))), .val (.ref b3), .unset, .unset, .unset]) rfl ?_
      show Steps p.tables e below (T15.setTop (mkF m 30 #[.val (.int p1), .val (.int ((p1 &&& (2147483647 : Int32)) % (3 : Int32))), .val (.ref b3), .unset, .unset, .unset] [])) _
      refine st18 _ ?_
      show Steps p.tables e below (T18.setTop (mkF m 33 #[.val (.int p1), .val (.int ((p1 &&& (2147483647 : Int32)) % (3 : Int32))), .val (.ref b3), .unset, .unset, .unset] [(.ref g_REF)])) _
      refine XS.astoreN X18.here hx rfl (hb hby at_33) rfl rfl (l' := #[.val (.int p1), .val (.int ((p1 &&& (2147483647 : Int32)) % (3 : Int32))), .val (.ref b3), .val (.ref g_REF), .unset, .unset]) rfl ?_
      show Steps p.tables e below (T18.setTop (mkF m 34 #[.val (.int p1), .val (.int ((p1 &&& (2147483647 : Int32)) % (3 : Int32))), .val (.ref b3), .val (.ref g_REF), .unset, .unset] [])) _
      refine XS.goto X18.here hx rfl (pc0 := 34) (pc' := 117) rfl (hb hby at_34) (by decide) (by decide) ?_
      show Steps p.tables e below (T18.setTop (mkF m 117 #[.val (.int p1), .val (.int ((p1 &&& (2147483647 : Int32)) % (3 : Int32))), .val (.ref b3), .val (.ref g_REF), .unset, .unset] [])) _
      refine st23 _ ?_
      show Steps p.tables e below (T23.setTop (mkF m 120 #[.val (.int p1), .val (.int ((p1 &&& (2147483647 : Int32)) % (3 : Int32))), .val (.ref b3), .val (.ref g_REF), .unset, .unset] [(.ref b23)])) _
      refine XS.dup X23.here hx rfl (hb hby at_120) rfl rfl ?_
      show Steps p.tables e below (T23.setTop (mkF m 121 #[.val (.int p1), .val (.int ((p1 &&& (2147483647 : Int32)) % (3 : Int32))), .val (.ref b3), .val (.ref g_REF), .unset, .unset] [(.ref b23), (.ref b23)])) _
      refine XS.aloadN X23.here hx rfl (hb hby at_121) rfl rfl ?_
      show Steps p.tables e below (T23.setTop (mkF m 122 #[.val (.int p1), .val (.int ((p1 &&& (2147483647 : Int32)) % (3 : Int32))), .val (.ref b3), .val (.ref g_REF), .unset, .unset] [(.ref b3), (.ref b23), (.ref b23)])) _
      refine st27.trans ?_
      show Steps p.tables e below (T27.setTop (mkF m 125 #[.val (.int p1), .val (.int ((p1 &&& (2147483647 : Int32)) % (3 : Int32))), .val (.ref b3), .val (.ref g_REF), .unset, .unset] [(.ref b23)])) _
      refine XS.astore X27.here hx rfl (hb hby at_125) rfl rfl (l' := #[.val (.int p1), .val (.int ((p1 &&& (2147483647 : Int32)) % (3 : Int32))), .val (.ref b3), .val (.ref g_REF), .val (.ref b23), .unset]) rfl ?_
      show Steps p.tables e below (T27.setTop (mkF m 127 #[.val (.int p1), .val (.int ((p1 &&& (2147483647 : Int32)) % (3 : Int32))), .val (.ref b3), .val (.ref g_REF), .val (.ref b23), .unset] [])) _
      refine XS.aload X27.here hx rfl (hb hby at_127) rfl rfl ?_
      show Steps p.tables e below (T27.setTop (mkF m 129 #[.val (.int p1), .val (.int ((p1 &&& (2147483647 : Int32)) % (3 : Int32))), .val (.ref b3), .val (.ref g_REF), .val (.ref b23), .unset] [(.ref b23)])) _
      refine st33 _ ?_
      show Steps p.tables e below (T33.setTop (mkF m 132 #[.val (.int p1), .val (.int ((p1 &&& (2147483647 : Int32)) % (3 : Int32))), .val (.ref b3), .val (.ref g_REF), .val (.ref b23), .unset] [(.ref g_REF)])) _
      refine XS.astore X33.here hx rfl (hb hby at_132) rfl rfl (l' := #[.val (.int p1), .val (.int ((p1 &&& (2147483647 : Int32)) % (3 : Int32))), .val (.ref b3), .val (.ref g_REF), .val (.ref b23), .val (.ref g_REF)]) rfl ?_
      show Steps p.tables e below (T33.setTop (mkF m 134 #[.val (.int p1), .val (.int ((p1 &&& (2147483647 : Int32)) % (3 : Int32))), .val (.ref b3), .val (.ref g_REF), .val (.ref b23), .val (.ref g_REF)] [])) _
      refine XS.aload X33.here hx rfl (hb hby at_134) rfl rfl ?_
      show Steps p.tables e below (T33.setTop (mkF m 136 #[.val (.int p1), .val (.int ((p1 &&& (2147483647 : Int32)) % (3 : Int32))), .val (.ref b3), .val (.ref g_REF), .val (.ref b23), .val (.ref g_REF)] [(.ref g_REF)])) _
      refine XS.aloadN X33.here hx rfl (hb hby at_136) rfl rfl ?_
      show Steps p.tables e below (T33.setTop (mkF m 137 #[.val (.int p1), .val (.int ((p1 &&& (2147483647 : Int32)) % (3 : Int32))), .val (.ref b3), .val (.ref g_REF), .val (.ref b23), .val (.ref g_REF)] [(.ref g_REF), (.ref g_REF)])) _
      refine Jvm.RoadKit.acmp (g := (mkF m 137 #[.val (.int p1), .val (.int ((p1 &&& (2147483647 : Int32)) % (3 : Int32))), .val (.ref b3), .val (.ref g_REF), .val (.ref b23), .val (.ref g_REF)] [(.ref g_REF), (.ref g_REF)])) X33 hx rfl rfl rfl (pc0 := 137) (pc' := 140) (same := true) rfl (hb hby at_137) rfl (decide_eq_true rfl) (by decide) (by decide) ?_
      show Steps p.tables e below (T33.setTop (mkF m 140 #[.val (.int p1), .val (.int ((p1 &&& (2147483647 : Int32)) % (3 : Int32))), .val (.ref b3), .val (.ref g_REF), .val (.ref b23), .val (.ref g_REF)] [])) _
      refine XS.aload X33.here hx rfl (hb hby at_140) rfl rfl ?_
      show Steps p.tables e below (T33.setTop (mkF m 142 #[.val (.int p1), .val (.int ((p1 &&& (2147483647 : Int32)) % (3 : Int32))), .val (.ref b3), .val (.ref g_REF), .val (.ref b23), .val (.ref g_REF)] [(.ref g_REF)])) _
      refine st37.trans ?_
      show Steps p.tables e below (T37.setTop (mkF m 145 #[.val (.int p1), .val (.int ((p1 &&& (2147483647 : Int32)) % (3 : Int32))), .val (.ref b3), .val (.ref g_REF), .val (.ref b23), .val (.ref g_REF)] [(.ref g_REF_label)])) _
      refine XS.aload X37.here hx rfl (hb hby at_145) rfl rfl ?_
      show Steps p.tables e below (T37.setTop (mkF m 147 #[.val (.int p1), .val (.int ((p1 &&& (2147483647 : Int32)) % (3 : Int32))), .val (.ref b3), .val (.ref g_REF), .val (.ref b23), .val (.ref g_REF)] [(.ref b23), (.ref g_REF_label)])) _
      refine st39.trans ?_
      show Steps p.tables e below (T39.setTop (mkF m 150 #[.val (.int p1), .val (.int ((p1 &&& (2147483647 : Int32)) % (3 : Int32))), .val (.ref b3), .val (.ref g_REF), .val (.ref b23), .val (.ref g_REF)] [(.int (1 : Int32))])) _
      refine XS.ifNo X39.here hx rfl (hb hby at_150) rfl (XT.i0_eq_f ((by decide) : ¬ ((1 : Int32) = (0 : Int32)))) ?_
      show Steps p.tables e below (T39.setTop (mkF m 153 #[.val (.int p1), .val (.int ((p1 &&& (2147483647 : Int32)) % (3 : Int32))), .val (.ref b3), .val (.ref g_REF), .val (.ref b23), .val (.ref g_REF)] [])) _
      refine XS.iconst X39.here hx rfl (hb hby at_153) ?_
      show Steps p.tables e below (T39.setTop (mkF m 154 #[.val (.int p1), .val (.int ((p1 &&& (2147483647 : Int32)) % (3 : Int32))), .val (.ref b3), .val (.ref g_REF), .val (.ref b23), .val (.ref g_REF)] [(.int (1 : Int32))])) _
      refine XS.goto X39.here hx rfl (pc0 := 154) (pc' := 158) rfl (hb hby at_154) (by decide) (by decide) ?_
      show Steps p.tables e below (T39.setTop (mkF m 158 #[.val (.int p1), .val (.int ((p1 &&& (2147483647 : Int32)) % (3 : Int32))), .val (.ref b3), .val (.ref g_REF), .val (.ref b23), .val (.ref g_REF)] [(.int (1 : Int32))])) _
      exact retN X39 hx (t := .boolean) Bd.returns (by simp) (hb hby at_158) hr
    · show Q0 n0 _ T39.heap _
      rw [show T39.heap = T33.heap from e39q]
      exact ⟨rfl, N39⟩
  ·
    skip
    have pr47 : ∀ t, Steps p.tables e below (s₁.setTop (mkF m 39 #[.val (.int p1), .val (.int ((p1 &&& (2147483647 : Int32)) % (3 : Int32))), .unset, .unset, .unset, .unset] [(.int (1 : Int32)), (.int ((p1 &&& (2147483647 : Int32)) % (3 : Int32)))])) t → Steps p.tables e below (s₁.setTop (entryFrame m #[(.int p1)] maxLocals)) t := fun t k => pr1 t (by
      show Steps p.tables e below (s₁.setTop (mkF m 8 #[.val (.int p1), .val (.int ((p1 &&& (2147483647 : Int32)) % (3 : Int32))), .unset, .unset, .unset, .unset] [(.int ((p1 &&& (2147483647 : Int32)) % (3 : Int32)))])) _
      refine XS.ifYes X0.here hx rfl (pc0 := 8) (pc' := 37) rfl (hb hby at_8) rfl (XT.i0_ne_t (hc2 : ¬ (((p1 &&& (2147483647 : Int32)) % (3 : Int32)) = (0 : Int32)))) (by decide) (by decide) ?_
      show Steps p.tables e below (s₁.setTop (mkF m 37 #[.val (.int p1), .val (.int ((p1 &&& (2147483647 : Int32)) % (3 : Int32))), .unset, .unset, .unset, .unset] [])) _
      refine XS.iloadN X0.here hx rfl (hb hby at_37) rfl ?_
      show Steps p.tables e below (s₁.setTop (mkF m 38 #[.val (.int p1), .val (.int ((p1 &&& (2147483647 : Int32)) % (3 : Int32))), .unset, .unset, .unset, .unset] [(.int ((p1 &&& (2147483647 : Int32)) % (3 : Int32)))])) _
      refine XS.iconst X0.here hx rfl (hb hby at_38) ?_
      exact k)
    by_cases hc48 : ((p1 &&& (2147483647 : Int32)) % (3 : Int32)) = (1 : Int32)
    ·
      skip
      obtain ⟨T49, h49, c49, X49, e49, E49, A49, st49⟩ := newP X0 hx hZ (hw _ (List.mem_of_getElem? (i := 1) rfl)) e0 (g := (mkF m 44 #[.val (.int p1), .val (.int ((p1 &&& (2147483647 : Int32)) % (3 : Int32))), .unset, .unset, .unset, .unset] [(.int (6 : Int32))])) rfl (hb hby at_44) rfl (by decide) (cap := 6) (by decide) (by decide) (by decide) (by decide)
      obtain ⟨b49, g49⟩ : ∃ z, z = h0.size := ⟨_, rfl⟩
      rw [← g49] at A49 st49
      have K50 : Keep h0 h49 [] := (Keep.refl h0 []).ext E49
      have A51_ : Arv Z h49 b49 c49 .char (6 : Int32) [(.int (0 : Int32)), (.int (0 : Int32)), (.int (0 : Int32)), (.int (0 : Int32)), (.int (0 : Int32)), (.int (0 : Int32))] (.int (0 : Int32)) := (Arv.new A49 (by decide)).pad (pad_rep [] (.int (0 : Int32)) 6)
      have av52 := A51_
      obtain ⟨cl52, Ar52, q52, S52, N52, H52, G52⟩ := av52
      have hin53 : ¬ ((0 : Int32) < 0 ∨ cl52.slots.size ≤ ((0 : Int32) : Int32).toNatClampNeg) := inb_of S52 (by decide)
      obtain ⟨T53, h53, X53, e53, W53, st53⟩ := stC X49 hx hZ e49 Ar52 (j := (0 : Int32)) hin53 (g := (mkF m 50 #[.val (.int p1), .val (.int ((p1 &&& (2147483647 : Int32)) % (3 : Int32))), .unset, .unset, .unset, .unset] [(.int (98 : Int32)), (.int (0 : Int32)), (.ref b49), (.ref b49)])) rfl rfl (hb hby at_50)
      have g_b49 : n0 ≤ b49 := Nat.le_trans (Nat.le_trans (Nat.le_of_eq X00.1.symm) X00.2.1) (Nat.le_of_eq g49.symm)
      have N53_ := Fr.snoc X53 N0 g_b49
      have sz_b49 : h0.size ≤ b49 := (Nat.le_of_eq g49.symm)
      have K54 : Keep h0 h53 [] := K50.wr W53 (Or.inr sz_b49)
      have A55_ : Arv Z h53 b49 c49 .char (6 : Int32) [(.int (98 : Int32)), (.int (0 : Int32)), (.int (0 : Int32)), (.int (0 : Int32)), (.int (0 : Int32)), (.int (0 : Int32))] (.int (0 : Int32)) := Arv.set Ar52 q52 S52 N52 H52 G52 (fits_nar_char _) W53 0 (by decide) (Nat.le_of_ble_eq_true rfl)
      have av56 := A55_
      obtain ⟨cl56, Ar56, q56, S56, N56, H56, G56⟩ := av56
      have hin57 : ¬ ((1 : Int32) < 0 ∨ cl56.slots.size ≤ ((1 : Int32) : Int32).toNatClampNeg) := inb_of S56 (by decide)
      obtain ⟨T57, h57, X57, e57, W57, st57⟩ := stC X53 hx hZ e53 Ar56 (j := (1 : Int32)) hin57 (g := (mkF m 55 #[.val (.int p1), .val (.int ((p1 &&& (2147483647 : Int32)) % (3 : Int32))), .unset, .unset, .unset, .unset] [(.int (121 : Int32)), (.int (1 : Int32)), (.ref b49), (.ref b49)])) rfl rfl (hb hby at_55)
      have N57_ := Fr.snoc X57 N53_ g_b49
      have K58 : Keep h0 h57 [] := K54.wr W57 (Or.inr sz_b49)
      have A59_ : Arv Z h57 b49 c49 .char (6 : Int32) [(.int (98 : Int32)), (.int (121 : Int32)), (.int (0 : Int32)), (.int (0 : Int32)), (.int (0 : Int32)), (.int (0 : Int32))] (.int (0 : Int32)) := Arv.set Ar56 q56 S56 N56 H56 G56 (fits_nar_char _) W57 1 (by decide) (Nat.le_of_ble_eq_true rfl)
      have av60 := A59_
      obtain ⟨cl60, Ar60, q60, S60, N60, H60, G60⟩ := av60
      have hin61 : ¬ ((2 : Int32) < 0 ∨ cl60.slots.size ≤ ((2 : Int32) : Int32).toNatClampNeg) := inb_of S60 (by decide)
      obtain ⟨T61, h61, X61, e61, W61, st61⟩ := stC X57 hx hZ e57 Ar60 (j := (2 : Int32)) hin61 (g := (mkF m 60 #[.val (.int p1), .val (.int ((p1 &&& (2147483647 : Int32)) % (3 : Int32))), .unset, .unset, .unset, .unset] [(.int (116 : Int32)), (.int (2 : Int32)), (.ref b49), (.ref b49)])) rfl rfl (hb hby at_60)
      have N61_ := Fr.snoc X61 N57_ g_b49
      have K62 : Keep h0 h61 [] := K58.wr W61 (Or.inr sz_b49)
      have A63_ : Arv Z h61 b49 c49 .char (6 : Int32) [(.int (98 : Int32)), (.int (121 : Int32)), (.int (116 : Int32)), (.int (0 : Int32)), (.int (0 : Int32)), (.int (0 : Int32))] (.int (0 : Int32)) := Arv.set Ar60 q60 S60 N60 H60 G60 (fits_nar_char _) W61 2 (by decide) (Nat.le_of_ble_eq_true rfl)
      have av64 := A63_
      obtain ⟨cl64, Ar64, q64, S64, N64, H64, G64⟩ := av64
      have hin65 : ¬ ((3 : Int32) < 0 ∨ cl64.slots.size ≤ ((3 : Int32) : Int32).toNatClampNeg) := inb_of S64 (by decide)
      obtain ⟨T65, h65, X65, e65, W65, st65⟩ := stC X61 hx hZ e61 Ar64 (j := (3 : Int32)) hin65 (g := (mkF m 65 #[.val (.int p1), .val (.int ((p1 &&& (2147483647 : Int32)) % (3 : Int32))), .unset, .unset, .unset, .unset] [(.int (121 : Int32)), (.int (3 : Int32)), (.ref b49), (.ref b49)])) rfl rfl (hb hby at_65)
      have N65_ := Fr.snoc X65 N61_ g_b49
      have K66 : Keep h0 h65 [] := K62.wr W65 (Or.inr sz_b49)
      have A67_ : Arv Z h65 b49 c49 .char (6 : Int32) [(.int (98 : Int32)), (.int (121 : Int32)), (.int (116 : Int32)), (.int (121 : Int32)), (.int (0 : Int32)), (.int (0 : Int32))] (.int (0 : Int32)) := Arv.set Ar64 q64 S64 N64 H64 G64 (fits_nar_char _) W65 3 (by decide) (Nat.le_of_ble_eq_true rfl)
      have av68 := A67_
      obtain ⟨cl68, Ar68, q68, S68, N68, H68, G68⟩ := av68
      have hin69 : ¬ ((4 : Int32) < 0 ∨ cl68.slots.size ≤ ((4 : Int32) : Int32).toNatClampNeg) := inb_of S68 (by decide)
      obtain ⟨T69, h69, X69, e69, W69, st69⟩ := stC X65 hx hZ e65 Ar68 (j := (4 : Int32)) hin69 (g := (mkF m 70 #[.val (.int p1), .val (.int ((p1 &&& (2147483647 : Int32)) % (3 : Int32))), .unset, .unset, .unset, .unset] [(.int (112 : Int32)), (.int (4 : Int32)), (.ref b49), (.ref b49)])) rfl rfl (hb hby at_70)
      have N69_ := Fr.snoc X69 N65_ g_b49
      have K70 : Keep h0 h69 [] := K66.wr W69 (Or.inr sz_b49)
      have A71_ : Arv Z h69 b49 c49 .char (6 : Int32) [(.int (98 : Int32)), (.int (121 : Int32)), (.int (116 : Int32)), (.int (121 : Int32)), (.int (112 : Int32)), (.int (0 : Int32))] (.int (0 : Int32)) := Arv.set Ar68 q68 S68 N68 H68 G68 (fits_nar_char _) W69 4 (by decide) (Nat.le_of_ble_eq_true rfl)
      have av72 := A71_
      obtain ⟨cl72, Ar72, q72, S72, N72, H72, G72⟩ := av72
      have hin73 : ¬ ((5 : Int32) < 0 ∨ cl72.slots.size ≤ ((5 : Int32) : Int32).toNatClampNeg) := inb_of S72 (by decide)
      obtain ⟨T73, h73, X73, e73, W73, st73⟩ := stC X69 hx hZ e69 Ar72 (j := (5 : Int32)) hin73 (g := (mkF m 75 #[.val (.int p1), .val (.int ((p1 &&& (2147483647 : Int32)) % (3 : Int32))), .unset, .unset, .unset, .unset] [(.int (101 : Int32)), (.int (5 : Int32)), (.ref b49), (.ref b49)])) rfl rfl (hb hby at_75)
      have N73_ := Fr.snoc X73 N69_ g_b49
      have K74 : Keep h0 h73 [] := K70.wr W73 (Or.inr sz_b49)
      have A75_ : Arv Z h73 b49 c49 .char (6 : Int32) [(.int (98 : Int32)), (.int (121 : Int32)), (.int (116 : Int32)), (.int (121 : Int32)), (.int (112 : Int32)), (.int (101 : Int32))] (.int (0 : Int32)) := Arv.set Ar72 q72 S72 N72 H72 G72 (fits_nar_char _) W73 5 (by decide) (Nat.le_of_ble_eq_true rfl)
      have O77 : Old Z n0 h49 := X00.ext E49
      have O78 : Old Z n0 h53 := O77.wr W53 g_b49
      have O79 : Old Z n0 h57 := O78.wr W57 g_b49
      have O80 : Old Z n0 h61 := O79.wr W61 g_b49
      have O81 : Old Z n0 h65 := O80.wr W65 g_b49
      have O82 : Old Z n0 h69 := O81.wr W69 g_b49
      have O83 : Old Z n0 h73 := O82.wr W73 g_b49
      obtain ⟨T76, X76, e76, st76⟩ := getS2 X73 hx hZ hown (host := "") (Or.inl (hw _ (List.mem_of_getElem? (i := 73) rfl))) Via.refl e73 (hEN.2.2.2.2.1.ext O83.2) (g := (mkF m 77 #[.val (.int p1), .val (.int ((p1 &&& (2147483647 : Int32)) % (3 : Int32))), .val (.ref b49), .unset, .unset, .unset] [])) rfl (hb hby at_77)
      obtain ⟨T84, h84, X84, e84, E84, A84, D84, -, st84⟩ := newO X76 hx hZ hown (hw _ (List.mem_of_getElem? (i := 5) rfl)) (hw _ (List.mem_of_getElem? (i := 6) rfl)) (hw _ (List.mem_of_getElem? (i := 7) rfl)) e76 (g := (mkF m 117 #[.val (.int p1), .val (.int ((p1 &&& (2147483647 : Int32)) % (3 : Int32))), .val (.ref b49), .val (.ref g_BYTYPE), .unset, .unset] [])) rfl (hb hby at_117) (by decide) (by decide)
      obtain ⟨b84, g84⟩ : ∃ z, z = h73.size := ⟨_, rfl⟩
      rw [← g84] at A84 D84 st84
      have K85 : Keep h0 h84 [] := K74.ext E84
      have F86_ : Fld Z h84 b84 "java/lang/String" "coder" "B" (.int (0 : Int32)) := D84 (Or.inr (hw _ (List.mem_of_getElem? (i := 31) rfl))) (ty := .byte) (by decide)
      have F87_ : Fld Z h84 b84 "java/lang/String" "value" "[B" .null := D84 (Or.inr (hw _ (List.mem_of_getElem? (i := 33) rfl))) (ty := (.array .byte)) (by decide)
      have hp89 : ∀ c ∈ ([(98 : Int32), (121 : Int32), (116 : Int32), (121 : Int32), (112 : Int32), (101 : Int32)] : List Int32), ¬ c < 0 ∧ ¬ (255 : Int32) < c := (List.forall_mem_cons.mpr ⟨(by decide), (List.forall_mem_cons.mpr ⟨(by decide), (List.forall_mem_cons.mpr ⟨(by decide), (List.forall_mem_cons.mpr ⟨(by decide), (List.forall_mem_cons.mpr ⟨(by decide), (List.forall_mem_cons.mpr ⟨(by decide), (fun _ q => nomatch q)⟩)⟩)⟩)⟩)⟩)⟩)
      have g_b84 : n0 ≤ b84 := Nat.le_trans (Nat.le_trans (Nat.le_of_eq O83.1.symm) O83.2.1) (Nat.le_of_eq g84.symm)
      have O90 : Old Z n0 h84 := O83.ext E84
      have A91_ : Arv Z h84 b49 c49 .char (6 : Int32) [(.int (98 : Int32)), (.int (121 : Int32)), (.int (116 : Int32)), (.int (121 : Int32)), (.int (112 : Int32)), (.int (101 : Int32))] (.int (0 : Int32)) := A75_.ext E84
      obtain ⟨_, _, ⟨T88, L88, k88, n88⟩, -, X88, ⟨Lc88, hQ88, l88, y88, z88⟩, st88⟩ := X84.specialBack hx (y := (⟨"java/lang/String", "<init>", "([C)V"⟩ : MethodName)) rfl hown (mvT hZ (hw _ (List.mem_of_getElem? (i := 8) rfl))) (mvT hZ (hw _ (List.mem_of_getElem? (i := 9) rfl))) (mvT hZ (hw _ (List.mem_of_getElem? (i := 10) rfl))) (by decide) (StrChars.Road.backV (W := 1) hZ (own_ws hw) (kI := 4) (hw _ (List.mem_of_getElem? (i := 6) rfl)) (cs := ([(98 : Int32), (121 : Int32), (116 : Int32), (121 : Int32), (112 : Int32), (101 : Int32)] : List Int32)) (bs := ([(98 : Int32), (121 : Int32), (116 : Int32), (121 : Int32), (112 : Int32), (101 : Int32)] : List Int32).map (fun c => c.toInt8.toInt32)) (n := 6) g_b84 (Nat.le_trans (Nat.le_of_eq O90.1.symm) O90.2.1) A84 F87_ F86_ A91_ (O2.ext O90.2) P5 rfl rfl (by decide) (by decide) hp89 rfl (by decide) (by decide)) (g := (mkF m 122 #[.val (.int p1), .val (.int ((p1 &&& (2147483647 : Int32)) % (3 : Int32))), .val (.ref b49), .val (.ref g_BYTYPE), .unset, .unset] [(.ref b49), (.ref b84), (.ref b84)])) rfl (by rw [hml]; rfl) (Steps.refl _) (a := b84) (argsL := [(.ref b49)]) (rest := [(.ref b84)]) (lenOf pd0 rfl) rfl (by show 2 * 0 + _ ≤ _; exact Nat.le_of_eq rfl) (hb hby at_122) (fun _ _ => ⟨rfl, e84, (by decide : 2 + 1 ≤ _), (by decide : 10 + 6 ≤ _)⟩)
      dsimp only [Pt.U, Pt.locs, Pt.cells, Pt.slots] at X88 l88 y88 z88 st88 hQ88
      subst l88 y88 z88
      obtain ⟨rfl, N88q, K88q, E88q, C88q, b92, c92_, u92, g92, ne92, V92_, A92_⟩ := hQ88
      have N88 := Fr.app N73_ N88q
      have sz_b84 : h0.size ≤ b84 := Nat.le_trans K74.1 (Nat.le_of_eq g84.symm)
      have K93 : Keep h0 T88.heap [] := K85.trans K88q (allS (Or.inr sz_b84) all0)
      have E95_ : Exa Z T88.heap b84 "java/lang/String" := A84.keep K88q
      have O96 : Old Z n0 T88.heap := O90.keep K88q (allS g_b84 all0)
      obtain ⟨_, _, ⟨T94, L94, k94, n94⟩, -, X94, ⟨Lc94, hQ94, l94, y94, z94⟩, st94⟩ := Jvm.LawKit.callS X88 hx (y := (⟨"dev/bindery/benchmark/Variant", "of", "(Ljava/lang/String;)Ldev/bindery/benchmark/Variant;"⟩ : MethodName)) hown (mvT hZ (hw _ (List.mem_of_getElem? (i := 34) rfl))) (mvT hZ (hw _ (List.mem_of_getElem? (i := 35) rfl))) (mvT hZ (hw _ (List.mem_of_getElem? (i := 3) rfl))) (mvT hZ (hw _ (List.mem_of_getElem? (i := 36) rfl))) (by decide) (backOf (W := 0) (rm4 l Z a0 hw [] g_REF g__VALUES g_BYTYPE g_GUICE g_REF_label g_BYTYPE_label g_GUICE_label g_REF_label_value g_BYTYPE_label_value g_GUICE_label_value k__VALUES k_REF_label_value k_BYTYPE_label_value k_GUICE_label_value G1 b84 b92 c92_ T88.heap n0 O96 hEN O2 P5 V92_ hp89 E95_ C88q A92_) hZ (hw _ (List.mem_of_getElem? (i := 36) rfl)) (hw _ (List.mem_of_getElem? (i := 3) rfl)) (by decide) (by decide)) (g := (mkF m 129 #[.val (.int p1), .val (.int ((p1 &&& (2147483647 : Int32)) % (3 : Int32))), .val (.ref b49), .val (.ref g_BYTYPE), .val (.ref b84), .unset] [(.ref b84)])) rfl (by rw [hml]; rfl) (argsL := [(.ref b84)]) (rest := []) (lenOf pd3 rfl) rfl (by show 2 * 0 + _ ≤ _; exact Nat.le_of_eq rfl) (hb hby at_129) (fun _ _ => ⟨rfl, rfl, (by decide : 3 + 1 ≤ _), (by decide : 16 + 3 ≤ _)⟩)
      dsimp only [Pt.U, Pt.locs, Pt.cells, Pt.slots] at X94 l94 y94 z94 st94 hQ94
      subst l94 y94 z94
      obtain ⟨rfl, N94q, K94q⟩ := hQ94
      have N94 := Fr.app N88 N94q
      have K97 : Keep h0 T94.heap [] := K93.trans K94q (fun x q => nomatch q)
      have O99 : Old Z n0 T94.heap := O96.keep K94q all0
      obtain ⟨cq98, kq98, q98a, q98b, q98c⟩ := isOf hZ rfl (hEN.2.2.2.2.2.1.ext O99.2)
      obtain ⟨_, _, ⟨T98, L98, k98, n98⟩, -, X98, ⟨Lc98, hQ98, l98, y98, z98⟩, st98⟩ := X94.virtualBack hx (y := (⟨"dev/bindery/benchmark/Variant", "label", "()Ljava/lang/String;"⟩ : MethodName)) (z := (⟨"dev/bindery/benchmark/Variant", "label", "()Ljava/lang/String;"⟩ : MethodName)) hown (mvT hZ (hw _ (List.mem_of_getElem? (i := 66) rfl))) (mvT hZ (hw _ (List.mem_of_getElem? (i := 67) rfl))) (notFace_of_selects (args := #[]) (mvT hZ (hw _ (List.mem_of_getElem? (i := 69) rfl)))) (mvT hZ (hw _ (List.mem_of_getElem? (i := 69) rfl))) (mvT hZ (hw _ (List.mem_of_getElem? (i := 68) rfl))) (by decide) (backOf (W := 0) (rm5 l Z a0 hw [] g_REF g__VALUES g_BYTYPE g_GUICE g_REF_label g_BYTYPE_label g_GUICE_label g_REF_label_value g_BYTYPE_label_value g_GUICE_label_value k__VALUES k_REF_label_value k_BYTYPE_label_value k_GUICE_label_value  T94.heap n0 O99 hEN) hZ (hw _ (List.mem_of_getElem? (i := 70) rfl)) (hw _ (List.mem_of_getElem? (i := 3) rfl)) (by decide) (by decide)) q98a q98c (g := (mkF m 142 #[.val (.int p1), .val (.int ((p1 &&& (2147483647 : Int32)) % (3 : Int32))), .val (.ref b49), .val (.ref g_BYTYPE), .val (.ref b84), .val (.ref g_BYTYPE)] [(.ref g_BYTYPE)])) rfl (by rw [hml]; rfl) (Steps.refl _) (argsL := []) (rest := []) (lenOf pd4 rfl) rfl (by show 2 * 0 + _ ≤ _; exact Nat.le_of_eq rfl) (hb hby at_142) (fun _ _ => ⟨rfl, rfl, (by decide : 4 + 0 ≤ _), (by decide : 19 + 0 ≤ _)⟩)
      dsimp only [Pt.U, Pt.locs, Pt.cells, Pt.slots] at X98 l98 y98 z98 st98 hQ98
      subst l98 y98 z98
      obtain ⟨rfl, N98q, e98q⟩ := hQ98
      have N98 := Fr.app N94 N98q
      have hp101 : ∀ c ∈ ([(98 : Int32), (121 : Int32), (116 : Int32), (121 : Int32), (112 : Int32), (101 : Int32)] : List Int32), ¬ c < 0 ∧ ¬ (255 : Int32) < c := (List.forall_mem_cons.mpr ⟨(by decide), (List.forall_mem_cons.mpr ⟨(by decide), (List.forall_mem_cons.mpr ⟨(by decide), (List.forall_mem_cons.mpr ⟨(by decide), (List.forall_mem_cons.mpr ⟨(by decide), (List.forall_mem_cons.mpr ⟨(by decide), (fun _ q => nomatch q)⟩)⟩)⟩)⟩)⟩)⟩)
      have hcd102 : StrChars.Road.CodA ([(98 : Int32), (121 : Int32), (116 : Int32), (121 : Int32), (112 : Int32), (101 : Int32)] : List Int32) 0 (6 : Int32) [(.int (98 : Int32)), (.int (121 : Int32)), (.int (116 : Int32)), (.int (121 : Int32)), (.int (112 : Int32)), (.int (101 : Int32))] := StrChars.Road.codOf (n := 6) rfl (fun x hx => (hp101 x hx).2)
      have hbd102 : ∀ x ∈ ([(98 : Int32), (121 : Int32), (116 : Int32), (121 : Int32), (112 : Int32), (101 : Int32)] : List Int32), ¬ x < 0 ∧ ¬ (65535 : Int32) < x := own_up _ hp101
      have E103_ : Exa Z T94.heap b84 "java/lang/String" := E95_.keep K94q
      have F104_ : Fld Z T94.heap b84 "java/lang/String" "value" "[B" (.ref b92) := V92_.keep K94q nin0
      have F105_ : Fld Z T94.heap b84 "java/lang/String" "coder" "B" (.int (0 : Int32)) := C88q.keep K94q nin0
      have A106_ : Arv Z T94.heap b92 c92_ .byte (6 : Int32) ((([(98 : Int32), (121 : Int32), (116 : Int32), (121 : Int32), (112 : Int32), (101 : Int32)] : List Int32).map (fun c => c.toInt8.toInt32)).map Value.int) (.int 0) := A92_.keep K94q nin0
      have hcd107 : StrChars.Road.CodA ([(98 : Int32), (121 : Int32), (116 : Int32), (121 : Int32), (112 : Int32), (101 : Int32)] : List Int32) 0 (6 : Int32) ((([(98 : Int32), (121 : Int32), (116 : Int32), (121 : Int32), (112 : Int32), (101 : Int32)] : List Int32).map (fun c => c.toInt8.toInt32)).map Value.int) := StrChars.Road.codOf (n := 6) rfl (fun x hx => (hp89 x hx).2)
      have hbd107 : ∀ x ∈ ([(98 : Int32), (121 : Int32), (116 : Int32), (121 : Int32), (112 : Int32), (101 : Int32)] : List Int32), ¬ x < 0 ∧ ¬ (65535 : Int32) < x := own_up _ hp89
      obtain ⟨cq100, kq100, q100a, q100b, q100c⟩ := isOf hZ e98q (hEN.2.2.2.2.2.2.2.2.2.2.2.1.ext O99.2)
      obtain ⟨_, _, ⟨T100, L100, k100, n100⟩, -, X100, ⟨Lc100, hQ100, l100, y100, z100⟩, st100⟩ := X98.virtualBack hx (y := (⟨"java/lang/String", "equals", "(Ljava/lang/Object;)Z"⟩ : MethodName)) (z := (⟨"java/lang/String", "equals", "(Ljava/lang/Object;)Z"⟩ : MethodName)) hown (mvT hZ (hw _ (List.mem_of_getElem? (i := 71) rfl))) (mvT hZ (hw _ (List.mem_of_getElem? (i := 57) rfl))) (notFace_of_selects (args := #[]) (mvT hZ (hw _ (List.mem_of_getElem? (i := 59) rfl)))) (mvT hZ (hw _ (List.mem_of_getElem? (i := 59) rfl))) (mvT hZ (hw _ (List.mem_of_getElem? (i := 58) rfl))) (by decide) (StrChars.Road.eqW (W := 0) hZ (own_wq hw) (kI := 4) (hw _ (List.mem_of_getElem? (i := 6) rfl)) (hEN.2.2.2.2.2.2.2.2.2.2.2.1.ext O99.2) (hEN.2.2.2.2.2.2.2.2.2.2.2.2.2.2.2.1.ext O99.2) (hEN.2.2.2.2.2.2.2.2.2.2.2.2.2.2.2.2.2.2.1.ext O99.2) (hEN.2.2.2.2.2.2.2.2.2.2.2.2.2.2.2.2.2.2.2.2.2.2.1.ext O99.2) hcd102 hbd102 (Nat.le_of_ble_eq_true rfl) E103_ F104_ F105_ A106_ hcd107 hbd107 (Nat.le_of_ble_eq_true rfl) (O2.ext O99.2) P5 (by decide) (by decide)) q100a q100c (g := (mkF m 147 #[.val (.int p1), .val (.int ((p1 &&& (2147483647 : Int32)) % (3 : Int32))), .val (.ref b49), .val (.ref g_BYTYPE), .val (.ref b84), .val (.ref g_BYTYPE)] [(.ref b84), (.ref g_BYTYPE_label)])) rfl (by rw [hml]; rfl) (Steps.refl _) (argsL := [(.ref b84)]) (rest := []) (lenOf pd2 rfl) rfl (by show 2 * 0 + _ ≤ _; exact Nat.le_of_eq rfl) (hb hby at_147) (fun _ _ => ⟨rfl, e98q, (by decide : 4 + 0 ≤ _), (by decide : 19 + 0 ≤ _)⟩)
      dsimp only [Pt.U, Pt.locs, Pt.cells, Pt.slots] at X100 l100 y100 z100 st100 hQ100
      subst l100 y100 z100
      obtain ⟨hv100, rfl, e100q⟩ := hQ100
      rcases hv100 with ⟨rfl, -⟩ | ⟨-, hq100⟩
      rotate_left
      exact absurd (rfl : ([(98 : Int32), (121 : Int32), (116 : Int32), (121 : Int32), (112 : Int32), (101 : Int32)] : List Int32) = ([(98 : Int32), (121 : Int32), (116 : Int32), (121 : Int32), (112 : Int32), (101 : Int32)] : List Int32)) hq100
      have N100 := Fr.app N98 (Fr.nil n0)
      obtain ⟨fs, hr, hrun, hended, hW, hsame⟩ := X100.leave (v := (some (.int (1 : Int32)))) (fun h => by rw [Bd.returns] at h; cases h)
      refine ⟨_, _, pr47 _ ?_, hrun, hended, _, _, rfl, ?_, ⟨_, rfl⟩, hW, hsame.mono (by decide) (by decide)⟩
      · show Steps p.tables e below (s₁.setTop (mkF m 39 #[.val (.int p1), .val (.int ((p1 &&& (2147483647 : Int32)) % (3 : Int32))), .unset, .unset, .unset, .unset] [(.int (1 : Int32)), (.int ((p1 &&& (2147483647 : Int32)) % (3 : Int32)))])) _
        refine XS.icmpNo X0.here hx rfl (hb hby at_39) rfl (XT.ii_ne_f (hc48 : ((p1 &&& (2147483647 : Int32)) % (3 : Int32)) = (1 : Int32))) ?_
        show Steps p.tables e below (s₁.setTop (mkF m 42 #[.val (.int p1), .val (.int ((p1 &&& (2147483647 : Int32)) % (3 : Int32))), .unset, .unset, .unset, .unset] [])) _
        refine XS.bipush X0.here hx rfl (hb hby at_42) ?_
        show Steps p.tables e below (s₁.setTop (mkF m 44 #[.val (.int p1), .val (.int ((p1 &&& (2147483647 : Int32)) % (3 : Int32))), .unset, .unset, .unset, .unset] [(.int (6 : Int32))])) _
        refine st49 _ ?_
        show Steps p.tables e below (T49.setTop (mkF m 46 #[.val (.int p1), .val (.int ((p1 &&& (2147483647 : Int32)) % (3 : Int32))), .unset, .unset, .unset, .unset] [(.ref b49)])) _
        refine XS.dup X49.here hx rfl (hb hby at_46) rfl rfl ?_
        show Steps p.tables e below (T49.setTop (mkF m 47 #[.val (.int p1), .val (.int ((p1 &&& (2147483647 : Int32)) % (3 : Int32))), .unset, .unset, .unset, .unset] [(.ref b49), (.ref b49)])) _
        refine XS.iconst X49.here hx rfl (hb hby at_47) ?_
        show Steps p.tables e below (T49.setTop (mkF m 48 #[.val (.int p1), .val (.int ((p1 &&& (2147483647 : Int32)) % (3 : Int32))), .unset, .unset, .unset, .unset] [(.int (0 : Int32)), (.ref b49), (.ref b49)])) _
        refine XS.bipush X49.here hx rfl (hb hby at_48) ?_
        show Steps p.tables e below (T49.setTop (mkF m 50 #[.val (.int p1), .val (.int ((p1 &&& (2147483647 : Int32)) % (3 : Int32))), .unset, .unset, .unset, .unset] [(.int (98 : Int32)), (.int (0 : Int32)), (.ref b49), (.ref b49)])) _
        refine st53 _ ?_
        show Steps p.tables e below (T53.setTop (mkF m 51 #[.val (.int p1), .val (.int ((p1 &&& (2147483647 : Int32)) % (3 : Int32))), .unset, .unset, .unset, .unset] [(.ref b49)])) _
        refine XS.dup X53.here hx rfl (hb hby at_51) rfl rfl ?_
        show Steps p.tables e below (T53.setTop (mkF m 52 #[.val (.int p1), .val (.int ((p1 &&& (2147483647 : Int32)) % (3 : Int32))), .unset, .unset, .unset, .unset] [(.ref b49), (.ref b49)])) _
        refine XS.iconst X53.here hx rfl (hb hby at_52) ?_
        show Steps p.tables e below (T53.setTop (mkF m 53 #[.val (.int p1), .val (.int ((p1 &&& (2147483647 : Int32)) % (3 : Int32))), .unset, .unset, .unset, .unset] [(.int (1 : Int32)), (.ref b49), (.ref b49)])) _
        refine XS.bipush X53.here hx rfl (hb hby at_53) ?_
        show Steps p.tables e below (T53.setTop (mkF m 55 #[.val (.int p1), .val (.int ((p1 &&& (2147483647 : Int32)) % (3 : Int32))), .unset, .unset, .unset, .unset] [(.int (121 : Int32)), (.int (1 : Int32)), (.ref b49), (.ref b49)])) _
        refine st57 _ ?_
        show Steps p.tables e below (T57.setTop (mkF m 56 #[.val (.int p1), .val (.int ((p1 &&& (2147483647 : Int32)) % (3 : Int32))), .unset, .unset, .unset, .unset] [(.ref b49)])) _
        refine XS.dup X57.here hx rfl (hb hby at_56) rfl rfl ?_
        show Steps p.tables e below (T57.setTop (mkF m 57 #[.val (.int p1), .val (.int ((p1 &&& (2147483647 : Int32)) % (3 : Int32))), .unset, .unset, .unset, .unset] [(.ref b49), (.ref b49)])) _
        refine XS.iconst X57.here hx rfl (hb hby at_57) ?_
        show Steps p.tables e below (T57.setTop (mkF m 58 #[.val (.int p1), .val (.int ((p1 &&& (2147483647 : Int32)) % (3 : Int32))), .unset, .unset, .unset, .unset] [(.int (2 : Int32)), (.ref b49), (.ref b49)])) _
        refine XS.bipush X57.here hx rfl (hb hby at_58) ?_
        show Steps p.tables e below (T57.setTop (mkF m 60 #[.val (.int p1), .val (.int ((p1 &&& (2147483647 : Int32)) % (3 : Int32))), .unset, .unset, .unset, .unset] [(.int (116 : Int32)), (.int (2 : Int32)), (.ref b49), (.ref b49)])) _
        refine st61 _ ?_
        show Steps p.tables e below (T61.setTop (mkF m 61 #[.val (.int p1), .val (.int ((p1 &&& (2147483647 : Int32)) % (3 : Int32))), .unset, .unset, .unset, .unset] [(.ref b49)])) _
        refine XS.dup X61.here hx rfl (hb hby at_61) rfl rfl ?_
        show Steps p.tables e below (T61.setTop (mkF m 62 #[.val (.int p1), .val (.int ((p1 &&& (2147483647 : Int32)) % (3 : Int32))), .unset, .unset, .unset, .unset] [(.ref b49), (.ref b49)])) _
        refine XS.iconst X61.here hx rfl (hb hby at_62) ?_
        show Steps p.tables e below (T61.setTop (mkF m 63 #[.val (.int p1), .val (.int ((p1 &&& (2147483647 : Int32)) % (3 : Int32))), .unset, .unset, .unset, .unset] [(.int (3 : Int32)), (.ref b49), (.ref b49)])) _
        refine XS.bipush X61.here hx rfl (hb hby at_63) ?_
        show Steps p.tables e below (T61.setTop (mkF m 65 #[.val (.int p1), .val (.int ((p1 &&& (2147483647 : Int32)) % (3 : Int32))), .unset, .unset, .unset, .unset] [(.int (121 : Int32)), (.int (3 : Int32)), (.ref b49), (.ref b49)])) _
        refine st65 _ ?_
        show Steps p.tables e below (T65.setTop (mkF m 66 #[.val (.int p1), .val (.int ((p1 &&& (2147483647 : Int32)) % (3 : Int32))), .unset, .unset, .unset, .unset] [(.ref b49)])) _
        refine XS.dup X65.here hx rfl (hb hby at_66) rfl rfl ?_
        show Steps p.tables e below (T65.setTop (mkF m 67 #[.val (.int p1), .val (.int ((p1 &&& (2147483647 : Int32)) % (3 : Int32))), .unset, .unset, .unset, .unset] [(.ref b49), (.ref b49)])) _
        refine XS.iconst X65.here hx rfl (hb hby at_67) ?_
        show Steps p.tables e below (T65.setTop (mkF m 68 #[.val (.int p1), .val (.int ((p1 &&& (2147483647 : Int32)) % (3 : Int32))), .unset, .unset, .unset, .unset] [(.int (4 : Int32)), (.ref b49), (.ref b49)])) _
        refine XS.bipush X65.here hx rfl (hb hby at_68) ?_
        show Steps p.tables e below (T65.setTop (mkF m 70 #[.val (.int p1), .val (.int ((p1 &&& (2147483647 : Int32)) % (3 : Int32))), .unset, .unset, .unset, .unset] [(.int (112 : Int32)), (.int (4 : Int32)), (.ref b49), (.ref b49)])) _
        refine st69 _ ?_
        show Steps p.tables e below (T69.setTop (mkF m 71 #[.val (.int p1), .val (.int ((p1 &&& (2147483647 : Int32)) % (3 : Int32))), .unset, .unset, .unset, .unset] [(.ref b49)])) _
        refine XS.dup X69.here hx rfl (hb hby at_71) rfl rfl ?_
        show Steps p.tables e below (T69.setTop (mkF m 72 #[.val (.int p1), .val (.int ((p1 &&& (2147483647 : Int32)) % (3 : Int32))), .unset, .unset, .unset, .unset] [(.ref b49), (.ref b49)])) _
        refine XS.iconst X69.here hx rfl (hb hby at_72) ?_
        show Steps p.tables e below (T69.setTop (mkF m 73 #[.val (.int p1), .val (.int ((p1 &&& (2147483647 : Int32)) % (3 : Int32))), .unset, .unset, .unset, .unset] [(.int (5 : Int32)), (.ref b49), (.ref b49)])) _
        refine XS.bipush X69.here hx rfl (hb hby at_73) ?_
        show Steps p.tables e below (T69.setTop (mkF m 75 #[.val (.int p1), .val (.int ((p1 &&& (2147483647 : Int32)) % (3 : Int32))), .unset, .unset, .unset, .unset] [(.int (101 : Int32)), (.int (5 : Int32)), (.ref b49), (.ref b49)])) _
        refine st73 _ ?_
        show Steps p.tables e below (T73.setTop (mkF m 76 #[.val (.int p1), .val (.int ((p1 &&& (2147483647 : Int32)) % (3 : Int32))), .unset, .unset, .unset, .unset] [(.ref b49)])) _
        refine XS.astoreN X73.here hx rfl (hb hby at_76) rfl rfl (l' := #[.val (.int p1), .val (.int ((p1 &&& (2147483647 : Int32)) % (3 : Int32))), .val (.ref b49), .unset, .unset, .unset]) rfl ?_
        show Steps p.tables e below (T73.setTop (mkF m 77 #[.val (.int p1), .val (.int ((p1 &&& (2147483647 : Int32)) % (3 : Int32))), .val (.ref b49), .unset, .unset, .unset] [])) _
        refine st76 _ ?_
        show Steps p.tables e below (T76.setTop (mkF m 80 #[.val (.int p1), .val (.int ((p1 &&& (2147483647 : Int32)) % (3 : Int32))), .val (.ref b49), .unset, .unset, .unset] [(.ref g_BYTYPE)])) _
        refine XS.astoreN X76.here hx rfl (hb hby at_80) rfl rfl (l' := #[.val (.int p1), .val (.int ((p1 &&& (2147483647 : Int32)) % (3 : Int32))), .val (.ref b49), .val (.ref g_BYTYPE), .unset, .unset]) rfl ?_
        show Steps p.tables e below (T76.setTop (mkF m 81 #[.val (.int p1), .val (.int ((p1 &&& (2147483647 : Int32)) % (3 : Int32))), .val (.ref b49), .val (.ref g_BYTYPE), .unset, .unset] [])) _
        refine XS.goto X76.here hx rfl (pc0 := 81) (pc' := 117) rfl (hb hby at_81) (by decide) (by decide) ?_
        show Steps p.tables e below (T76.setTop (mkF m 117 #[.val (.int p1), .val (.int ((p1 &&& (2147483647 : Int32)) % (3 : Int32))), .val (.ref b49), .val (.ref g_BYTYPE), .unset, .unset] [])) _
        refine st84 _ ?_
        show Steps p.tables e below (T84.setTop (mkF m 120 #[.val (.int p1), .val (.int ((p1 &&& (2147483647 : Int32)) % (3 : Int32))), .val (.ref b49), .val (.ref g_BYTYPE), .unset, .unset] [(.ref b84)])) _
        refine XS.dup X84.here hx rfl (hb hby at_120) rfl rfl ?_
        show Steps p.tables e below (T84.setTop (mkF m 121 #[.val (.int p1), .val (.int ((p1 &&& (2147483647 : Int32)) % (3 : Int32))), .val (.ref b49), .val (.ref g_BYTYPE), .unset, .unset] [(.ref b84), (.ref b84)])) _
        refine XS.aloadN X84.here hx rfl (hb hby at_121) rfl rfl ?_
        show Steps p.tables e below (T84.setTop (mkF m 122 #[.val (.int p1), .val (.int ((p1 &&& (2147483647 : Int32)) % (3 : Int32))), .val (.ref b49), .val (.ref g_BYTYPE), .unset, .unset] [(.ref b49), (.ref b84), (.ref b84)])) _
        refine st88.trans ?_
        show Steps p.tables e below (T88.setTop (mkF m 125 #[.val (.int p1), .val (.int ((p1 &&& (2147483647 : Int32)) % (3 : Int32))), .val (.ref b49), .val (.ref g_BYTYPE), .unset, .unset] [(.ref b84)])) _
        refine XS.astore X88.here hx rfl (hb hby at_125) rfl rfl (l' := #[.val (.int p1), .val (.int ((p1 &&& (2147483647 : Int32)) % (3 : Int32))), .val (.ref b49), .val (.ref g_BYTYPE), .val (.ref b84), .unset]) rfl ?_
        show Steps p.tables e below (T88.setTop (mkF m 127 #[.val (.int p1), .val (.int ((p1 &&& (2147483647 : Int32)) % (3 : Int32))), .val (.ref b49), .val (.ref g_BYTYPE), .val (.ref b84), .unset] [])) _
        refine XS.aload X88.here hx rfl (hb hby at_127) rfl rfl ?_
        show Steps p.tables e below (T88.setTop (mkF m 129 #[.val (.int p1), .val (.int ((p1 &&& (2147483647 : Int32)) % (3 : Int32))), .val (.ref b49), .val (.ref g_BYTYPE), .val (.ref b84), .unset] [(.ref b84)])) _
        refine st94 _ ?_
        show Steps p.tables e below (T94.setTop (mkF m 132 #[.val (.int p1), .val (.int ((p1 &&& (2147483647 : Int32)) % (3 : Int32))), .val (.ref b49), .val (.ref g_BYTYPE), .val (.ref b84), .unset] [(.ref g_BYTYPE)])) _
        refine XS.astore X94.here hx rfl (hb hby at_132) rfl rfl (l' := #[.val (.int p1), .val (.int ((p1 &&& (2147483647 : Int32)) % (3 : Int32))), .val (.ref b49), .val (.ref g_BYTYPE), .val (.ref b84), .val (.ref g_BYTYPE)]) rfl ?_
        show Steps p.tables e below (T94.setTop (mkF m 134 #[.val (.int p1), .val (.int ((p1 &&& (2147483647 : Int32)) % (3 : Int32))), .val (.ref b49), .val (.ref g_BYTYPE), .val (.ref b84), .val (.ref g_BYTYPE)] [])) _
        refine XS.aload X94.here hx rfl (hb hby at_134) rfl rfl ?_
        show Steps p.tables e below (T94.setTop (mkF m 136 #[.val (.int p1), .val (.int ((p1 &&& (2147483647 : Int32)) % (3 : Int32))), .val (.ref b49), .val (.ref g_BYTYPE), .val (.ref b84), .val (.ref g_BYTYPE)] [(.ref g_BYTYPE)])) _
        refine XS.aloadN X94.here hx rfl (hb hby at_136) rfl rfl ?_
        show Steps p.tables e below (T94.setTop (mkF m 137 #[.val (.int p1), .val (.int ((p1 &&& (2147483647 : Int32)) % (3 : Int32))), .val (.ref b49), .val (.ref g_BYTYPE), .val (.ref b84), .val (.ref g_BYTYPE)] [(.ref g_BYTYPE), (.ref g_BYTYPE)])) _
        refine Jvm.RoadKit.acmp (g := (mkF m 137 #[.val (.int p1), .val (.int ((p1 &&& (2147483647 : Int32)) % (3 : Int32))), .val (.ref b49), .val (.ref g_BYTYPE), .val (.ref b84), .val (.ref g_BYTYPE)] [(.ref g_BYTYPE), (.ref g_BYTYPE)])) X94 hx rfl rfl rfl (pc0 := 137) (pc' := 140) (same := true) rfl (hb hby at_137) rfl (decide_eq_true rfl) (by decide) (by decide) ?_
        show Steps p.tables e below (T94.setTop (mkF m 140 #[.val (.int p1), .val (.int ((p1 &&& (2147483647 : Int32)) % (3 : Int32))), .val (.ref b49), .val (.ref g_BYTYPE), .val (.ref b84), .val (.ref g_BYTYPE)] [])) _
        refine XS.aload X94.here hx rfl (hb hby at_140) rfl rfl ?_
        show Steps p.tables e below (T94.setTop (mkF m 142 #[.val (.int p1), .val (.int ((p1 &&& (2147483647 : Int32)) % (3 : Int32))), .val (.ref b49), .val (.ref g_BYTYPE), .val (.ref b84), .val (.ref g_BYTYPE)] [(.ref g_BYTYPE)])) _
        refine st98.trans ?_
        show Steps p.tables e below (T98.setTop (mkF m 145 #[.val (.int p1), .val (.int ((p1 &&& (2147483647 : Int32)) % (3 : Int32))), .val (.ref b49), .val (.ref g_BYTYPE), .val (.ref b84), .val (.ref g_BYTYPE)] [(.ref g_BYTYPE_label)])) _
        refine XS.aload X98.here hx rfl (hb hby at_145) rfl rfl ?_
        show Steps p.tables e below (T98.setTop (mkF m 147 #[.val (.int p1), .val (.int ((p1 &&& (2147483647 : Int32)) % (3 : Int32))), .val (.ref b49), .val (.ref g_BYTYPE), .val (.ref b84), .val (.ref g_BYTYPE)] [(.ref b84), (.ref g_BYTYPE_label)])) _
        refine st100.trans ?_
        show Steps p.tables e below (T100.setTop (mkF m 150 #[.val (.int p1), .val (.int ((p1 &&& (2147483647 : Int32)) % (3 : Int32))), .val (.ref b49), .val (.ref g_BYTYPE), .val (.ref b84), .val (.ref g_BYTYPE)] [(.int (1 : Int32))])) _
        refine XS.ifNo X100.here hx rfl (hb hby at_150) rfl (XT.i0_eq_f ((by decide) : ¬ ((1 : Int32) = (0 : Int32)))) ?_
        show Steps p.tables e below (T100.setTop (mkF m 153 #[.val (.int p1), .val (.int ((p1 &&& (2147483647 : Int32)) % (3 : Int32))), .val (.ref b49), .val (.ref g_BYTYPE), .val (.ref b84), .val (.ref g_BYTYPE)] [])) _
        refine XS.iconst X100.here hx rfl (hb hby at_153) ?_
        show Steps p.tables e below (T100.setTop (mkF m 154 #[.val (.int p1), .val (.int ((p1 &&& (2147483647 : Int32)) % (3 : Int32))), .val (.ref b49), .val (.ref g_BYTYPE), .val (.ref b84), .val (.ref g_BYTYPE)] [(.int (1 : Int32))])) _
        refine XS.goto X100.here hx rfl (pc0 := 154) (pc' := 158) rfl (hb hby at_154) (by decide) (by decide) ?_
        show Steps p.tables e below (T100.setTop (mkF m 158 #[.val (.int p1), .val (.int ((p1 &&& (2147483647 : Int32)) % (3 : Int32))), .val (.ref b49), .val (.ref g_BYTYPE), .val (.ref b84), .val (.ref g_BYTYPE)] [(.int (1 : Int32))])) _
        exact retN X100 hx (t := .boolean) Bd.returns (by simp) (hb hby at_158) hr
      · show Q0 n0 _ T100.heap _
        rw [show T100.heap = T94.heap from e100q]
        exact ⟨rfl, N100⟩
    ·
      skip
      obtain ⟨T108, h108, c108, X108, e108, E108, A108, st108⟩ := newP X0 hx hZ (hw _ (List.mem_of_getElem? (i := 1) rfl)) e0 (g := (mkF m 85 #[.val (.int p1), .val (.int ((p1 &&& (2147483647 : Int32)) % (3 : Int32))), .unset, .unset, .unset, .unset] [(.int (5 : Int32))])) rfl (hb hby at_85) rfl (by decide) (cap := 5) (by decide) (by decide) (by decide) (by decide)
      obtain ⟨b108, g108⟩ : ∃ z, z = h0.size := ⟨_, rfl⟩
      rw [← g108] at A108 st108
      have K109 : Keep h0 h108 [] := (Keep.refl h0 []).ext E108
      have A110_ : Arv Z h108 b108 c108 .char (5 : Int32) [(.int (0 : Int32)), (.int (0 : Int32)), (.int (0 : Int32)), (.int (0 : Int32)), (.int (0 : Int32))] (.int (0 : Int32)) := (Arv.new A108 (by decide)).pad (pad_rep [] (.int (0 : Int32)) 5)
      have av111 := A110_
      obtain ⟨cl111, Ar111, q111, S111, N111, H111, G111⟩ := av111
      have hin112 : ¬ ((0 : Int32) < 0 ∨ cl111.slots.size ≤ ((0 : Int32) : Int32).toNatClampNeg) := inb_of S111 (by decide)
      obtain ⟨T112, h112, X112, e112, W112, st112⟩ := stC X108 hx hZ e108 Ar111 (j := (0 : Int32)) hin112 (g := (mkF m 91 #[.val (.int p1), .val (.int ((p1 &&& (2147483647 : Int32)) % (3 : Int32))), .unset, .unset, .unset, .unset] [(.int (103 : Int32)), (.int (0 : Int32)), (.ref b108), (.ref b108)])) rfl rfl (hb hby at_91)
      have g_b108 : n0 ≤ b108 := Nat.le_trans (Nat.le_trans (Nat.le_of_eq X00.1.symm) X00.2.1) (Nat.le_of_eq g108.symm)
      have N112_ := Fr.snoc X112 N0 g_b108
      have sz_b108 : h0.size ≤ b108 := (Nat.le_of_eq g108.symm)
      have K113 : Keep h0 h112 [] := K109.wr W112 (Or.inr sz_b108)
      have A114_ : Arv Z h112 b108 c108 .char (5 : Int32) [(.int (103 : Int32)), (.int (0 : Int32)), (.int (0 : Int32)), (.int (0 : Int32)), (.int (0 : Int32))] (.int (0 : Int32)) := Arv.set Ar111 q111 S111 N111 H111 G111 (fits_nar_char _) W112 0 (by decide) (Nat.le_of_ble_eq_true rfl)
      have av115 := A114_
      obtain ⟨cl115, Ar115, q115, S115, N115, H115, G115⟩ := av115
      have hin116 : ¬ ((1 : Int32) < 0 ∨ cl115.slots.size ≤ ((1 : Int32) : Int32).toNatClampNeg) := inb_of S115 (by decide)
      obtain ⟨T116, h116, X116, e116, W116, st116⟩ := stC X112 hx hZ e112 Ar115 (j := (1 : Int32)) hin116 (g := (mkF m 96 #[.val (.int p1), .val (.int ((p1 &&& (2147483647 : Int32)) % (3 : Int32))), .unset, .unset, .unset, .unset] [(.int (117 : Int32)), (.int (1 : Int32)), (.ref b108), (.ref b108)])) rfl rfl (hb hby at_96)
      have N116_ := Fr.snoc X116 N112_ g_b108
      have K117 : Keep h0 h116 [] := K113.wr W116 (Or.inr sz_b108)
      have A118_ : Arv Z h116 b108 c108 .char (5 : Int32) [(.int (103 : Int32)), (.int (117 : Int32)), (.int (0 : Int32)), (.int (0 : Int32)), (.int (0 : Int32))] (.int (0 : Int32)) := Arv.set Ar115 q115 S115 N115 H115 G115 (fits_nar_char _) W116 1 (by decide) (Nat.le_of_ble_eq_true rfl)
      have av119 := A118_
      obtain ⟨cl119, Ar119, q119, S119, N119, H119, G119⟩ := av119
      have hin120 : ¬ ((2 : Int32) < 0 ∨ cl119.slots.size ≤ ((2 : Int32) : Int32).toNatClampNeg) := inb_of S119 (by decide)
      obtain ⟨T120, h120, X120, e120, W120, st120⟩ := stC X116 hx hZ e116 Ar119 (j := (2 : Int32)) hin120 (g := (mkF m 101 #[.val (.int p1), .val (.int ((p1 &&& (2147483647 : Int32)) % (3 : Int32))), .unset, .unset, .unset, .unset] [(.int (105 : Int32)), (.int (2 : Int32)), (.ref b108), (.ref b108)])) rfl rfl (hb hby at_101)
      have N120_ := Fr.snoc X120 N116_ g_b108
      have K121 : Keep h0 h120 [] := K117.wr W120 (Or.inr sz_b108)
      have A122_ : Arv Z h120 b108 c108 .char (5 : Int32) [(.int (103 : Int32)), (.int (117 : Int32)), (.int (105 : Int32)), (.int (0 : Int32)), (.int (0 : Int32))] (.int (0 : Int32)) := Arv.set Ar119 q119 S119 N119 H119 G119 (fits_nar_char _) W120 2 (by decide) (Nat.le_of_ble_eq_true rfl)
      have av123 := A122_
      obtain ⟨cl123, Ar123, q123, S123, N123, H123, G123⟩ := av123
      have hin124 : ¬ ((3 : Int32) < 0 ∨ cl123.slots.size ≤ ((3 : Int32) : Int32).toNatClampNeg) := inb_of S123 (by decide)
      obtain ⟨T124, h124, X124, e124, W124, st124⟩ := stC X120 hx hZ e120 Ar123 (j := (3 : Int32)) hin124 (g := (mkF m 106 #[.val (.int p1), .val (.int ((p1 &&& (2147483647 : Int32)) % (3 : Int32))), .unset, .unset, .unset, .unset] [(.int (99 : Int32)), (.int (3 : Int32)), (.ref b108), (.ref b108)])) rfl rfl (hb hby at_106)
      have N124_ := Fr.snoc X124 N120_ g_b108
      have K125 : Keep h0 h124 [] := K121.wr W124 (Or.inr sz_b108)
      have A126_ : Arv Z h124 b108 c108 .char (5 : Int32) [(.int (103 : Int32)), (.int (117 : Int32)), (.int (105 : Int32)), (.int (99 : Int32)), (.int (0 : Int32))] (.int (0 : Int32)) := Arv.set Ar123 q123 S123 N123 H123 G123 (fits_nar_char _) W124 3 (by decide) (Nat.le_of_ble_eq_true rfl)
      have av127 := A126_
      obtain ⟨cl127, Ar127, q127, S127, N127, H127, G127⟩ := av127
      have hin128 : ¬ ((4 : Int32) < 0 ∨ cl127.slots.size ≤ ((4 : Int32) : Int32).toNatClampNeg) := inb_of S127 (by decide)
      obtain ⟨T128, h128, X128, e128, W128, st128⟩ := stC X124 hx hZ e124 Ar127 (j := (4 : Int32)) hin128 (g := (mkF m 111 #[.val (.int p1), .val (.int ((p1 &&& (2147483647 : Int32)) % (3 : Int32))), .unset, .unset, .unset, .unset] [(.int (101 : Int32)), (.int (4 : Int32)), (.ref b108), (.ref b108)])) rfl rfl (hb hby at_111)
      have N128_ := Fr.snoc X128 N124_ g_b108
      have K129 : Keep h0 h128 [] := K125.wr W128 (Or.inr sz_b108)
      have A130_ : Arv Z h128 b108 c108 .char (5 : Int32) [(.int (103 : Int32)), (.int (117 : Int32)), (.int (105 : Int32)), (.int (99 : Int32)), (.int (101 : Int32))] (.int (0 : Int32)) := Arv.set Ar127 q127 S127 N127 H127 G127 (fits_nar_char _) W128 4 (by decide) (Nat.le_of_ble_eq_true rfl)
      have O132 : Old Z n0 h108 := X00.ext E108
      have O133 : Old Z n0 h112 := O132.wr W112 g_b108
      have O134 : Old Z n0 h116 := O133.wr W116 g_b108
      have O135 : Old Z n0 h120 := O134.wr W120 g_b108
      have O136 : Old Z n0 h124 := O135.wr W124 g_b108
      have O137 : Old Z n0 h128 := O136.wr W128 g_b108
      obtain ⟨T131, X131, e131, st131⟩ := getS2 X128 hx hZ hown (host := "") (Or.inl (hw _ (List.mem_of_getElem? (i := 72) rfl))) Via.refl e128 (hEN.2.2.2.2.2.2.1.ext O137.2) (g := (mkF m 113 #[.val (.int p1), .val (.int ((p1 &&& (2147483647 : Int32)) % (3 : Int32))), .val (.ref b108), .unset, .unset, .unset] [])) rfl (hb hby at_113)
      obtain ⟨T138, h138, X138, e138, E138, A138, D138, -, st138⟩ := newO X131 hx hZ hown (hw _ (List.mem_of_getElem? (i := 5) rfl)) (hw _ (List.mem_of_getElem? (i := 6) rfl)) (hw _ (List.mem_of_getElem? (i := 7) rfl)) e131 (g := (mkF m 117 #[.val (.int p1), .val (.int ((p1 &&& (2147483647 : Int32)) % (3 : Int32))), .val (.ref b108), .val (.ref g_GUICE), .unset, .unset] [])) rfl (hb hby at_117) (by decide) (by decide)
      obtain ⟨b138, g138⟩ : ∃ z, z = h128.size := ⟨_, rfl⟩
      rw [← g138] at A138 D138 st138
      have K139 : Keep h0 h138 [] := K129.ext E138
      have F140_ : Fld Z h138 b138 "java/lang/String" "coder" "B" (.int (0 : Int32)) := D138 (Or.inr (hw _ (List.mem_of_getElem? (i := 31) rfl))) (ty := .byte) (by decide)
      have F141_ : Fld Z h138 b138 "java/lang/String" "value" "[B" .null := D138 (Or.inr (hw _ (List.mem_of_getElem? (i := 33) rfl))) (ty := (.array .byte)) (by decide)
      have hp143 : ∀ c ∈ ([(103 : Int32), (117 : Int32), (105 : Int32), (99 : Int32), (101 : Int32)] : List Int32), ¬ c < 0 ∧ ¬ (255 : Int32) < c := (List.forall_mem_cons.mpr ⟨(by decide), (List.forall_mem_cons.mpr ⟨(by decide), (List.forall_mem_cons.mpr ⟨(by decide), (List.forall_mem_cons.mpr ⟨(by decide), (List.forall_mem_cons.mpr ⟨(by decide), (fun _ q => nomatch q)⟩)⟩)⟩)⟩)⟩)
      have g_b138 : n0 ≤ b138 := Nat.le_trans (Nat.le_trans (Nat.le_of_eq O137.1.symm) O137.2.1) (Nat.le_of_eq g138.symm)
      have O144 : Old Z n0 h138 := O137.ext E138
      have A145_ : Arv Z h138 b108 c108 .char (5 : Int32) [(.int (103 : Int32)), (.int (117 : Int32)), (.int (105 : Int32)), (.int (99 : Int32)), (.int (101 : Int32))] (.int (0 : Int32)) := A130_.ext E138
      obtain ⟨_, _, ⟨T142, L142, k142, n142⟩, -, X142, ⟨Lc142, hQ142, l142, y142, z142⟩, st142⟩ := X138.specialBack hx (y := (⟨"java/lang/String", "<init>", "([C)V"⟩ : MethodName)) rfl hown (mvT hZ (hw _ (List.mem_of_getElem? (i := 8) rfl))) (mvT hZ (hw _ (List.mem_of_getElem? (i := 9) rfl))) (mvT hZ (hw _ (List.mem_of_getElem? (i := 10) rfl))) (by decide) (StrChars.Road.backV (W := 1) hZ (own_ws hw) (kI := 4) (hw _ (List.mem_of_getElem? (i := 6) rfl)) (cs := ([(103 : Int32), (117 : Int32), (105 : Int32), (99 : Int32), (101 : Int32)] : List Int32)) (bs := ([(103 : Int32), (117 : Int32), (105 : Int32), (99 : Int32), (101 : Int32)] : List Int32).map (fun c => c.toInt8.toInt32)) (n := 5) g_b138 (Nat.le_trans (Nat.le_of_eq O144.1.symm) O144.2.1) A138 F141_ F140_ A145_ (O2.ext O144.2) P5 rfl rfl (by decide) (by decide) hp143 rfl (by decide) (by decide)) (g := (mkF m 122 #[.val (.int p1), .val (.int ((p1 &&& (2147483647 : Int32)) % (3 : Int32))), .val (.ref b108), .val (.ref g_GUICE), .unset, .unset] [(.ref b108), (.ref b138), (.ref b138)])) rfl (by rw [hml]; rfl) (Steps.refl _) (a := b138) (argsL := [(.ref b108)]) (rest := [(.ref b138)]) (lenOf pd0 rfl) rfl (by show 2 * 0 + _ ≤ _; exact Nat.le_of_eq rfl) (hb hby at_122) (fun _ _ => ⟨rfl, e138, (by decide : 2 + 1 ≤ _), (by decide : 9 + 5 ≤ _)⟩)
      dsimp only [Pt.U, Pt.locs, Pt.cells, Pt.slots] at X142 l142 y142 z142 st142 hQ142
      subst l142 y142 z142
      obtain ⟨rfl, N142q, K142q, E142q, C142q, b146, c146_, u146, g146, ne146, V146_, A146_⟩ := hQ142
      have N142 := Fr.app N128_ N142q
      have sz_b138 : h0.size ≤ b138 := Nat.le_trans K129.1 (Nat.le_of_eq g138.symm)
      have K147 : Keep h0 T142.heap [] := K139.trans K142q (allS (Or.inr sz_b138) all0)
      have E149_ : Exa Z T142.heap b138 "java/lang/String" := A138.keep K142q
      have O150 : Old Z n0 T142.heap := O144.keep K142q (allS g_b138 all0)
      obtain ⟨_, _, ⟨T148, L148, k148, n148⟩, -, X148, ⟨Lc148, hQ148, l148, y148, z148⟩, st148⟩ := Jvm.LawKit.callS X142 hx (y := (⟨"dev/bindery/benchmark/Variant", "of", "(Ljava/lang/String;)Ldev/bindery/benchmark/Variant;"⟩ : MethodName)) hown (mvT hZ (hw _ (List.mem_of_getElem? (i := 34) rfl))) (mvT hZ (hw _ (List.mem_of_getElem? (i := 35) rfl))) (mvT hZ (hw _ (List.mem_of_getElem? (i := 3) rfl))) (mvT hZ (hw _ (List.mem_of_getElem? (i := 36) rfl))) (by decide) (backOf (W := 0) (rm6 l Z a0 hw [] g_REF g__VALUES g_BYTYPE g_GUICE g_REF_label g_BYTYPE_label g_GUICE_label g_REF_label_value g_BYTYPE_label_value g_GUICE_label_value k__VALUES k_REF_label_value k_BYTYPE_label_value k_GUICE_label_value G1 b138 b146 c146_ T142.heap n0 O150 hEN O2 P5 V146_ hp143 E149_ C142q A146_) hZ (hw _ (List.mem_of_getElem? (i := 36) rfl)) (hw _ (List.mem_of_getElem? (i := 3) rfl)) (by decide) (by decide)) (g := (mkF m 129 #[.val (.int p1), .val (.int ((p1 &&& (2147483647 : Int32)) % (3 : Int32))), .val (.ref b108), .val (.ref g_GUICE), .val (.ref b138), .unset] [(.ref b138)])) rfl (by rw [hml]; rfl) (argsL := [(.ref b138)]) (rest := []) (lenOf pd3 rfl) rfl (by show 2 * 0 + _ ≤ _; exact Nat.le_of_eq rfl) (hb hby at_129) (fun _ _ => ⟨rfl, rfl, (by decide : 3 + 1 ≤ _), (by decide : 14 + 3 ≤ _)⟩)
      dsimp only [Pt.U, Pt.locs, Pt.cells, Pt.slots] at X148 l148 y148 z148 st148 hQ148
      subst l148 y148 z148
      obtain ⟨rfl, N148q, K148q⟩ := hQ148
      have N148 := Fr.app N142 N148q
      have K151 : Keep h0 T148.heap [] := K147.trans K148q (fun x q => nomatch q)
      have O153 : Old Z n0 T148.heap := O150.keep K148q all0
      obtain ⟨cq152, kq152, q152a, q152b, q152c⟩ := isOf hZ rfl (hEN.2.2.2.2.2.2.2.1.ext O153.2)
      obtain ⟨_, _, ⟨T152, L152, k152, n152⟩, -, X152, ⟨Lc152, hQ152, l152, y152, z152⟩, st152⟩ := X148.virtualBack hx (y := (⟨"dev/bindery/benchmark/Variant", "label", "()Ljava/lang/String;"⟩ : MethodName)) (z := (⟨"dev/bindery/benchmark/Variant", "label", "()Ljava/lang/String;"⟩ : MethodName)) hown (mvT hZ (hw _ (List.mem_of_getElem? (i := 66) rfl))) (mvT hZ (hw _ (List.mem_of_getElem? (i := 67) rfl))) (notFace_of_selects (args := #[]) (mvT hZ (hw _ (List.mem_of_getElem? (i := 69) rfl)))) (mvT hZ (hw _ (List.mem_of_getElem? (i := 69) rfl))) (mvT hZ (hw _ (List.mem_of_getElem? (i := 68) rfl))) (by decide) (backOf (W := 0) (rm7 l Z a0 hw [] g_REF g__VALUES g_BYTYPE g_GUICE g_REF_label g_BYTYPE_label g_GUICE_label g_REF_label_value g_BYTYPE_label_value g_GUICE_label_value k__VALUES k_REF_label_value k_BYTYPE_label_value k_GUICE_label_value  T148.heap n0 O153 hEN) hZ (hw _ (List.mem_of_getElem? (i := 70) rfl)) (hw _ (List.mem_of_getElem? (i := 3) rfl)) (by decide) (by decide)) q152a q152c (g := (mkF m 142 #[.val (.int p1), .val (.int ((p1 &&& (2147483647 : Int32)) % (3 : Int32))), .val (.ref b108), .val (.ref g_GUICE), .val (.ref b138), .val (.ref g_GUICE)] [(.ref g_GUICE)])) rfl (by rw [hml]; rfl) (Steps.refl _) (argsL := []) (rest := []) (lenOf pd4 rfl) rfl (by show 2 * 0 + _ ≤ _; exact Nat.le_of_eq rfl) (hb hby at_142) (fun _ _ => ⟨rfl, rfl, (by decide : 4 + 0 ≤ _), (by decide : 17 + 0 ≤ _)⟩)
      dsimp only [Pt.U, Pt.locs, Pt.cells, Pt.slots] at X152 l152 y152 z152 st152 hQ152
      subst l152 y152 z152
      obtain ⟨rfl, N152q, e152q⟩ := hQ152
      have N152 := Fr.app N148 N152q
      have hp155 : ∀ c ∈ ([(103 : Int32), (117 : Int32), (105 : Int32), (99 : Int32), (101 : Int32)] : List Int32), ¬ c < 0 ∧ ¬ (255 : Int32) < c := (List.forall_mem_cons.mpr ⟨(by decide), (List.forall_mem_cons.mpr ⟨(by decide), (List.forall_mem_cons.mpr ⟨(by decide), (List.forall_mem_cons.mpr ⟨(by decide), (List.forall_mem_cons.mpr ⟨(by decide), (fun _ q => nomatch q)⟩)⟩)⟩)⟩)⟩)
      have hcd156 : StrChars.Road.CodA ([(103 : Int32), (117 : Int32), (105 : Int32), (99 : Int32), (101 : Int32)] : List Int32) 0 (5 : Int32) [(.int (103 : Int32)), (.int (117 : Int32)), (.int (105 : Int32)), (.int (99 : Int32)), (.int (101 : Int32))] := StrChars.Road.codOf (n := 5) rfl (fun x hx => (hp155 x hx).2)
      have hbd156 : ∀ x ∈ ([(103 : Int32), (117 : Int32), (105 : Int32), (99 : Int32), (101 : Int32)] : List Int32), ¬ x < 0 ∧ ¬ (65535 : Int32) < x := own_up _ hp155
      have E157_ : Exa Z T148.heap b138 "java/lang/String" := E149_.keep K148q
      have F158_ : Fld Z T148.heap b138 "java/lang/String" "value" "[B" (.ref b146) := V146_.keep K148q nin0
      have F159_ : Fld Z T148.heap b138 "java/lang/String" "coder" "B" (.int (0 : Int32)) := C142q.keep K148q nin0
      have A160_ : Arv Z T148.heap b146 c146_ .byte (5 : Int32) ((([(103 : Int32), (117 : Int32), (105 : Int32), (99 : Int32), (101 : Int32)] : List Int32).map (fun c => c.toInt8.toInt32)).map Value.int) (.int 0) := A146_.keep K148q nin0
      have hcd161 : StrChars.Road.CodA ([(103 : Int32), (117 : Int32), (105 : Int32), (99 : Int32), (101 : Int32)] : List Int32) 0 (5 : Int32) ((([(103 : Int32), (117 : Int32), (105 : Int32), (99 : Int32), (101 : Int32)] : List Int32).map (fun c => c.toInt8.toInt32)).map Value.int) := StrChars.Road.codOf (n := 5) rfl (fun x hx => (hp143 x hx).2)
      have hbd161 : ∀ x ∈ ([(103 : Int32), (117 : Int32), (105 : Int32), (99 : Int32), (101 : Int32)] : List Int32), ¬ x < 0 ∧ ¬ (65535 : Int32) < x := own_up _ hp143
      obtain ⟨cq154, kq154, q154a, q154b, q154c⟩ := isOf hZ e152q (hEN.2.2.2.2.2.2.2.2.2.2.2.2.2.1.ext O153.2)
      obtain ⟨_, _, ⟨T154, L154, k154, n154⟩, -, X154, ⟨Lc154, hQ154, l154, y154, z154⟩, st154⟩ := X152.virtualBack hx (y := (⟨"java/lang/String", "equals", "(Ljava/lang/Object;)Z"⟩ : MethodName)) (z := (⟨"java/lang/String", "equals", "(Ljava/lang/Object;)Z"⟩ : MethodName)) hown (mvT hZ (hw _ (List.mem_of_getElem? (i := 71) rfl))) (mvT hZ (hw _ (List.mem_of_getElem? (i := 57) rfl))) (notFace_of_selects (args := #[]) (mvT hZ (hw _ (List.mem_of_getElem? (i := 59) rfl)))) (mvT hZ (hw _ (List.mem_of_getElem? (i := 59) rfl))) (mvT hZ (hw _ (List.mem_of_getElem? (i := 58) rfl))) (by decide) (StrChars.Road.eqW (W := 0) hZ (own_wq hw) (kI := 4) (hw _ (List.mem_of_getElem? (i := 6) rfl)) (hEN.2.2.2.2.2.2.2.2.2.2.2.2.2.1.ext O153.2) (hEN.2.2.2.2.2.2.2.2.2.2.2.2.2.2.2.2.1.ext O153.2) (hEN.2.2.2.2.2.2.2.2.2.2.2.2.2.2.2.2.2.2.2.1.ext O153.2) (hEN.2.2.2.2.2.2.2.2.2.2.2.2.2.2.2.2.2.2.2.2.2.2.2.ext O153.2) hcd156 hbd156 (Nat.le_of_ble_eq_true rfl) E157_ F158_ F159_ A160_ hcd161 hbd161 (Nat.le_of_ble_eq_true rfl) (O2.ext O153.2) P5 (by decide) (by decide)) q154a q154c (g := (mkF m 147 #[.val (.int p1), .val (.int ((p1 &&& (2147483647 : Int32)) % (3 : Int32))), .val (.ref b108), .val (.ref g_GUICE), .val (.ref b138), .val (.ref g_GUICE)] [(.ref b138), (.ref g_GUICE_label)])) rfl (by rw [hml]; rfl) (Steps.refl _) (argsL := [(.ref b138)]) (rest := []) (lenOf pd2 rfl) rfl (by show 2 * 0 + _ ≤ _; exact Nat.le_of_eq rfl) (hb hby at_147) (fun _ _ => ⟨rfl, e152q, (by decide : 4 + 0 ≤ _), (by decide : 17 + 0 ≤ _)⟩)
      dsimp only [Pt.U, Pt.locs, Pt.cells, Pt.slots] at X154 l154 y154 z154 st154 hQ154
      subst l154 y154 z154
      obtain ⟨hv154, rfl, e154q⟩ := hQ154
      rcases hv154 with ⟨rfl, -⟩ | ⟨-, hq154⟩
      rotate_left
      exact absurd (rfl : ([(103 : Int32), (117 : Int32), (105 : Int32), (99 : Int32), (101 : Int32)] : List Int32) = ([(103 : Int32), (117 : Int32), (105 : Int32), (99 : Int32), (101 : Int32)] : List Int32)) hq154
      have N154 := Fr.app N152 (Fr.nil n0)
      obtain ⟨fs, hr, hrun, hended, hW, hsame⟩ := X154.leave (v := (some (.int (1 : Int32)))) (fun h => by rw [Bd.returns] at h; cases h)
      refine ⟨_, _, pr47 _ ?_, hrun, hended, _, _, rfl, ?_, ⟨_, rfl⟩, hW, hsame.mono (by decide) (by decide)⟩
      · show Steps p.tables e below (s₁.setTop (mkF m 39 #[.val (.int p1), .val (.int ((p1 &&& (2147483647 : Int32)) % (3 : Int32))), .unset, .unset, .unset, .unset] [(.int (1 : Int32)), (.int ((p1 &&& (2147483647 : Int32)) % (3 : Int32)))])) _
        refine XS.icmpYes X0.here hx rfl (pc0 := 39) (pc' := 84) rfl (hb hby at_39) rfl (XT.ii_ne_t (hc48 : ¬ (((p1 &&& (2147483647 : Int32)) % (3 : Int32)) = (1 : Int32)))) (by decide) (by decide) ?_
        show Steps p.tables e below (s₁.setTop (mkF m 84 #[.val (.int p1), .val (.int ((p1 &&& (2147483647 : Int32)) % (3 : Int32))), .unset, .unset, .unset, .unset] [])) _
        refine XS.iconst X0.here hx rfl (hb hby at_84) ?_
        show Steps p.tables e below (s₁.setTop (mkF m 85 #[.val (.int p1), .val (.int ((p1 &&& (2147483647 : Int32)) % (3 : Int32))), .unset, .unset, .unset, .unset] [(.int (5 : Int32))])) _
        refine st108 _ ?_
        show Steps p.tables e below (T108.setTop (mkF m 87 #[.val (.int p1), .val (.int ((p1 &&& (2147483647 : Int32)) % (3 : Int32))), .unset, .unset, .unset, .unset] [(.ref b108)])) _
        refine XS.dup X108.here hx rfl (hb hby at_87) rfl rfl ?_
        show Steps p.tables e below (T108.setTop (mkF m 88 #[.val (.int p1), .val (.int ((p1 &&& (2147483647 : Int32)) % (3 : Int32))), .unset, .unset, .unset, .unset] [(.ref b108), (.ref b108)])) _
        refine XS.iconst X108.here hx rfl (hb hby at_88) ?_
        show Steps p.tables e below (T108.setTop (mkF m 89 #[.val (.int p1), .val (.int ((p1 &&& (2147483647 : Int32)) % (3 : Int32))), .unset, .unset, .unset, .unset] [(.int (0 : Int32)), (.ref b108), (.ref b108)])) _
        refine XS.bipush X108.here hx rfl (hb hby at_89) ?_
        show Steps p.tables e below (T108.setTop (mkF m 91 #[.val (.int p1), .val (.int ((p1 &&& (2147483647 : Int32)) % (3 : Int32))), .unset, .unset, .unset, .unset] [(.int (103 : Int32)), (.int (0 : Int32)), (.ref b108), (.ref b108)])) _
        refine st112 _ ?_
        show Steps p.tables e below (T112.setTop (mkF m 92 #[.val (.int p1), .val (.int ((p1 &&& (2147483647 : Int32)) % (3 : Int32))), .unset, .unset, .unset, .unset] [(.ref b108)])) _
        refine XS.dup X112.here hx rfl (hb hby at_92) rfl rfl ?_
        show Steps p.tables e below (T112.setTop (mkF m 93 #[.val (.int p1), .val (.int ((p1 &&& (2147483647 : Int32)) % (3 : Int32))), .unset, .unset, .unset, .unset] [(.ref b108), (.ref b108)])) _
        refine XS.iconst X112.here hx rfl (hb hby at_93) ?_
        show Steps p.tables e below (T112.setTop (mkF m 94 #[.val (.int p1), .val (.int ((p1 &&& (2147483647 : Int32)) % (3 : Int32))), .unset, .unset, .unset, .unset] [(.int (1 : Int32)), (.ref b108), (.ref b108)])) _
        refine XS.bipush X112.here hx rfl (hb hby at_94) ?_
        show Steps p.tables e below (T112.setTop (mkF m 96 #[.val (.int p1), .val (.int ((p1 &&& (2147483647 : Int32)) % (3 : Int32))), .unset, .unset, .unset, .unset] [(.int (117 : Int32)), (.int (1 : Int32)), (.ref b108), (.ref b108)])) _
        refine st116 _ ?_
        show Steps p.tables e below (T116.setTop (mkF m 97 #[.val (.int p1), .val (.int ((p1 &&& (2147483647 : Int32)) % (3 : Int32))), .unset, .unset, .unset, .unset] [(.ref b108)])) _
        refine XS.dup X116.here hx rfl (hb hby at_97) rfl rfl ?_
        show Steps p.tables e below (T116.setTop (mkF m 98 #[.val (.int p1), .val (.int ((p1 &&& (2147483647 : Int32)) % (3 : Int32))), .unset, .unset, .unset, .unset] [(.ref b108), (.ref b108)])) _
        refine XS.iconst X116.here hx rfl (hb hby at_98) ?_
        show Steps p.tables e below (T116.setTop (mkF m 99 #[.val (.int p1), .val (.int ((p1 &&& (2147483647 : Int32)) % (3 : Int32))), .unset, .unset, .unset, .unset] [(.int (2 : Int32)), (.ref b108), (.ref b108)])) _
        refine XS.bipush X116.here hx rfl (hb hby at_99) ?_
        show Steps p.tables e below (T116.setTop (mkF m 101 #[.val (.int p1), .val (.int ((p1 &&& (2147483647 : Int32)) % (3 : Int32))), .unset, .unset, .unset, .unset] [(.int (105 : Int32)), (.int (2 : Int32)), (.ref b108), (.ref b108)])) _
        refine st120 _ ?_
        show Steps p.tables e below (T120.setTop (mkF m 102 #[.val (.int p1), .val (.int ((p1 &&& (2147483647 : Int32)) % (3 : Int32))), .unset, .unset, .unset, .unset] [(.ref b108)])) _
        refine XS.dup X120.here hx rfl (hb hby at_102) rfl rfl ?_
        show Steps p.tables e below (T120.setTop (mkF m 103 #[.val (.int p1), .val (.int ((p1 &&& (2147483647 : Int32)) % (3 : Int32))), .unset, .unset, .unset, .unset] [(.ref b108), (.ref b108)])) _
        refine XS.iconst X120.here hx rfl (hb hby at_103) ?_
        show Steps p.tables e below (T120.setTop (mkF m 104 #[.val (.int p1), .val (.int ((p1 &&& (2147483647 : Int32)) % (3 : Int32))), .unset, .unset, .unset, .unset] [(.int (3 : Int32)), (.ref b108), (.ref b108)])) _
        refine XS.bipush X120.here hx rfl (hb hby at_104) ?_
        show Steps p.tables e below (T120.setTop (mkF m 106 #[.val (.int p1), .val (.int ((p1 &&& (2147483647 : Int32)) % (3 : Int32))), .unset, .unset, .unset, .unset] [(.int (99 : Int32)), (.int (3 : Int32)), (.ref b108), (.ref b108)])) _
        refine st124 _ ?_
        show Steps p.tables e below (T124.setTop (mkF m 107 #[.val (.int p1), .val (.int ((p1 &&& (2147483647 : Int32)) % (3 : Int32))), .unset, .unset, .unset, .unset] [(.ref b108)])) _
        refine XS.dup X124.here hx rfl (hb hby at_107) rfl rfl ?_
        show Steps p.tables e below (T124.setTop (mkF m 108 #[.val (.int p1), .val (.int ((p1 &&& (2147483647 : Int32)) % (3 : Int32))), .unset, .unset, .unset, .unset] [(.ref b108), (.ref b108)])) _
        refine XS.iconst X124.here hx rfl (hb hby at_108) ?_
        show Steps p.tables e below (T124.setTop (mkF m 109 #[.val (.int p1), .val (.int ((p1 &&& (2147483647 : Int32)) % (3 : Int32))), .unset, .unset, .unset, .unset] [(.int (4 : Int32)), (.ref b108), (.ref b108)])) _
        refine XS.bipush X124.here hx rfl (hb hby at_109) ?_
        show Steps p.tables e below (T124.setTop (mkF m 111 #[.val (.int p1), .val (.int ((p1 &&& (2147483647 : Int32)) % (3 : Int32))), .unset, .unset, .unset, .unset] [(.int (101 : Int32)), (.int (4 : Int32)), (.ref b108), (.ref b108)])) _
        refine st128 _ ?_
        show Steps p.tables e below (T128.setTop (mkF m 112 #[.val (.int p1), .val (.int ((p1 &&& (2147483647 : Int32)) % (3 : Int32))), .unset, .unset, .unset, .unset] [(.ref b108)])) _
        refine XS.astoreN X128.here hx rfl (hb hby at_112) rfl rfl (l' := #[.val (.int p1), .val (.int ((p1 &&& (2147483647 : Int32)) % (3 : Int32))), .val (.ref b108), .unset, .unset, .unset]) rfl ?_
        show Steps p.tables e below (T128.setTop (mkF m 113 #[.val (.int p1), .val (.int ((p1 &&& (2147483647 : Int32)) % (3 : Int32))), .val (.ref b108), .unset, .unset, .unset] [])) _
        refine st131 _ ?_
        show Steps p.tables e below (T131.setTop (mkF m 116 #[.val (.int p1), .val (.int ((p1 &&& (2147483647 : Int32)) % (3 : Int32))), .val (.ref b108), .unset, .unset, .unset] [(.ref g_GUICE)])) _
        refine XS.astoreN X131.here hx rfl (hb hby at_116) rfl rfl (l' := #[.val (.int p1), .val (.int ((p1 &&& (2147483647 : Int32)) % (3 : Int32))), .val (.ref b108), .val (.ref g_GUICE), .unset, .unset]) rfl ?_
        show Steps p.tables e below (T131.setTop (mkF m 117 #[.val (.int p1), .val (.int ((p1 &&& (2147483647 : Int32)) % (3 : Int32))), .val (.ref b108), .val (.ref g_GUICE), .unset, .unset] [])) _
        refine st138 _ ?_
        show Steps p.tables e below (T138.setTop (mkF m 120 #[.val (.int p1), .val (.int ((p1 &&& (2147483647 : Int32)) % (3 : Int32))), .val (.ref b108), .val (.ref g_GUICE), .unset, .unset] [(.ref b138)])) _
        refine XS.dup X138.here hx rfl (hb hby at_120) rfl rfl ?_
        show Steps p.tables e below (T138.setTop (mkF m 121 #[.val (.int p1), .val (.int ((p1 &&& (2147483647 : Int32)) % (3 : Int32))), .val (.ref b108), .val (.ref g_GUICE), .unset, .unset] [(.ref b138), (.ref b138)])) _
        refine XS.aloadN X138.here hx rfl (hb hby at_121) rfl rfl ?_
        show Steps p.tables e below (T138.setTop (mkF m 122 #[.val (.int p1), .val (.int ((p1 &&& (2147483647 : Int32)) % (3 : Int32))), .val (.ref b108), .val (.ref g_GUICE), .unset, .unset] [(.ref b108), (.ref b138), (.ref b138)])) _
        refine st142.trans ?_
        show Steps p.tables e below (T142.setTop (mkF m 125 #[.val (.int p1), .val (.int ((p1 &&& (2147483647 : Int32)) % (3 : Int32))), .val (.ref b108), .val (.ref g_GUICE), .unset, .unset] [(.ref b138)])) _
        refine XS.astore X142.here hx rfl (hb hby at_125) rfl rfl (l' := #[.val (.int p1), .val (.int ((p1 &&& (2147483647 : Int32)) % (3 : Int32))), .val (.ref b108), .val (.ref g_GUICE), .val (.ref b138), .unset]) rfl ?_
        show Steps p.tables e below (T142.setTop (mkF m 127 #[.val (.int p1), .val (.int ((p1 &&& (2147483647 : Int32)) % (3 : Int32))), .val (.ref b108), .val (.ref g_GUICE), .val (.ref b138), .unset] [])) _
        refine XS.aload X142.here hx rfl (hb hby at_127) rfl rfl ?_
        show Steps p.tables e below (T142.setTop (mkF m 129 #[.val (.int p1), .val (.int ((p1 &&& (2147483647 : Int32)) % (3 : Int32))), .val (.ref b108), .val (.ref g_GUICE), .val (.ref b138), .unset] [(.ref b138)])) _
        refine st148 _ ?_
        show Steps p.tables e below (T148.setTop (mkF m 132 #[.val (.int p1), .val (.int ((p1 &&& (2147483647 : Int32)) % (3 : Int32))), .val (.ref b108), .val (.ref g_GUICE), .val (.ref b138), .unset] [(.ref g_GUICE)])) _
        refine XS.astore X148.here hx rfl (hb hby at_132) rfl rfl (l' := #[.val (.int p1), .val (.int ((p1 &&& (2147483647 : Int32)) % (3 : Int32))), .val (.ref b108), .val (.ref g_GUICE), .val (.ref b138), .val (.ref g_GUICE)]) rfl ?_
        show Steps p.tables e below (T148.setTop (mkF m 134 #[.val (.int p1), .val (.int ((p1 &&& (2147483647 : Int32)) % (3 : Int32))), .val (.ref b108), .val (.ref g_GUICE), .val (.ref b138), .val (.ref g_GUICE)] [])) _
        refine XS.aload X148.here hx rfl (hb hby at_134) rfl rfl ?_
        show Steps p.tables e below (T148.setTop (mkF m 136 #[.val (.int p1), .val (.int ((p1 &&& (2147483647 : Int32)) % (3 : Int32))), .val (.ref b108), .val (.ref g_GUICE), .val (.ref b138), .val (.ref g_GUICE)] [(.ref g_GUICE)])) _
        refine XS.aloadN X148.here hx rfl (hb hby at_136) rfl rfl ?_
        show Steps p.tables e below (T148.setTop (mkF m 137 #[.val (.int p1), .val (.int ((p1 &&& (2147483647 : Int32)) % (3 : Int32))), .val (.ref b108), .val (.ref g_GUICE), .val (.ref b138), .val (.ref g_GUICE)] [(.ref g_GUICE), (.ref g_GUICE)])) _
        refine Jvm.RoadKit.acmp (g := (mkF m 137 #[.val (.int p1), .val (.int ((p1 &&& (2147483647 : Int32)) % (3 : Int32))), .val (.ref b108), .val (.ref g_GUICE), .val (.ref b138), .val (.ref g_GUICE)] [(.ref g_GUICE), (.ref g_GUICE)])) X148 hx rfl rfl rfl (pc0 := 137) (pc' := 140) (same := true) rfl (hb hby at_137) rfl (decide_eq_true rfl) (by decide) (by decide) ?_
        show Steps p.tables e below (T148.setTop (mkF m 140 #[.val (.int p1), .val (.int ((p1 &&& (2147483647 : Int32)) % (3 : Int32))), .val (.ref b108), .val (.ref g_GUICE), .val (.ref b138), .val (.ref g_GUICE)] [])) _
        refine XS.aload X148.here hx rfl (hb hby at_140) rfl rfl ?_
        show Steps p.tables e below (T148.setTop (mkF m 142 #[.val (.int p1), .val (.int ((p1 &&& (2147483647 : Int32)) % (3 : Int32))), .val (.ref b108), .val (.ref g_GUICE), .val (.ref b138), .val (.ref g_GUICE)] [(.ref g_GUICE)])) _
        refine st152.trans ?_
        show Steps p.tables e below (T152.setTop (mkF m 145 #[.val (.int p1), .val (.int ((p1 &&& (2147483647 : Int32)) % (3 : Int32))), .val (.ref b108), .val (.ref g_GUICE), .val (.ref b138), .val (.ref g_GUICE)] [(.ref g_GUICE_label)])) _
        refine XS.aload X152.here hx rfl (hb hby at_145) rfl rfl ?_
        show Steps p.tables e below (T152.setTop (mkF m 147 #[.val (.int p1), .val (.int ((p1 &&& (2147483647 : Int32)) % (3 : Int32))), .val (.ref b108), .val (.ref g_GUICE), .val (.ref b138), .val (.ref g_GUICE)] [(.ref b138), (.ref g_GUICE_label)])) _
        refine st154.trans ?_
        show Steps p.tables e below (T154.setTop (mkF m 150 #[.val (.int p1), .val (.int ((p1 &&& (2147483647 : Int32)) % (3 : Int32))), .val (.ref b108), .val (.ref g_GUICE), .val (.ref b138), .val (.ref g_GUICE)] [(.int (1 : Int32))])) _
        refine XS.ifNo X154.here hx rfl (hb hby at_150) rfl (XT.i0_eq_f ((by decide) : ¬ ((1 : Int32) = (0 : Int32)))) ?_
        show Steps p.tables e below (T154.setTop (mkF m 153 #[.val (.int p1), .val (.int ((p1 &&& (2147483647 : Int32)) % (3 : Int32))), .val (.ref b108), .val (.ref g_GUICE), .val (.ref b138), .val (.ref g_GUICE)] [])) _
        refine XS.iconst X154.here hx rfl (hb hby at_153) ?_
        show Steps p.tables e below (T154.setTop (mkF m 154 #[.val (.int p1), .val (.int ((p1 &&& (2147483647 : Int32)) % (3 : Int32))), .val (.ref b108), .val (.ref g_GUICE), .val (.ref b138), .val (.ref g_GUICE)] [(.int (1 : Int32))])) _
        refine XS.goto X154.here hx rfl (pc0 := 154) (pc' := 158) rfl (hb hby at_154) (by decide) (by decide) ?_
        show Steps p.tables e below (T154.setTop (mkF m 158 #[.val (.int p1), .val (.int ((p1 &&& (2147483647 : Int32)) % (3 : Int32))), .val (.ref b108), .val (.ref g_GUICE), .val (.ref b138), .val (.ref g_GUICE)] [(.int (1 : Int32))])) _
        exact retN X154 hx (t := .boolean) Bd.returns (by simp) (hb hby at_158) hr
      · show Q0 n0 _ T154.heap _
        rw [show T154.heap = T148.heap from e154q]
        exact ⟨rfl, N154⟩
set_option maxRecDepth 65536 in
set_option maxHeartbeats 40000000 in
theorem comes_1 {Post : Tables → Env → Array Value → State → Outcome → State → Prop} (hpost : ∀ tb e args s v u, (limb_1_1.after args s (.returned v) u = true ∧ limb_1_2.after args s (.returned v) u = true ∧ True) → FrameEnd s (.returned v) u (Jvm.fieldLocs frame_1_writes args s ++ Jvm.arrayLocs frame_1_arrays args s ++ Jvm.staticLocs frame_1_statics s) 16 128 → Post tb e args s (.returned v) u) :
    ArmFor flags0 classFile x code maxLocals ret World_1 tables_1 room_1 Calls_1 rest_1 Pre_1 Post := by
  intro l hfl _ _ p e ha hc hk s m args below hf hA hF happ hP
  obtain ⟨hcalls, hrest, hpre⟩ := hP
  obtain ⟨-, -, -, hnamed, -, -, -, hat⟩ := (Spec.applies_iff hf).mp happ
  obtain ⟨hg, hn⟩ := and_e (Cond.before_iff.mp (show (Jvm.Cond.and given_1 narrow_1).before args s = true from hpre))
  obtain ⟨hg0, hg1⟩ := and_e hg
  obtain ⟨w1, rfl⟩ : ∃ w1 : Value, args = #[w1] := by
    have hs : args.size = 1 := by simpa [Cond.value, given_1] using hg0
    obtain ⟨L⟩ := args
    match L, hs with
    | [w1], _ => exact ⟨w1, rfl⟩
  have hw := fun d (hd : d ∈ tables_1) => atoms_spec (ws := Jvm.Cond.code x code maxLocals ret :: tables_1) hat d (List.mem_cons_of_mem _ hd)
  obtain ⟨hsets, hown0⟩ := atoms_of _ (rest_1_c_eq ▸ (show rest_1_c.before _ s = true from hrest))
  have hfit : Fit s := fun {y c} hc i hi => by
    obtain ⟨ha, rfl⟩ := Array.getElem?_eq_some_iff.mp hc
    have q := List.all_eq_true.mp ((Array.all_eq_true_iff_forall_mem.mp hF) _ (Array.getElem_mem ha)) i (List.mem_range.mpr hi)
    simpa [Array.getElem?_eq_getElem hi] using q
  obtain ⟨i1, ei1⟩ := is_v hg1
  obtain rfl : w1 = (.int i1) := Option.some.inj ei1
  obtain ⟨hna, hnb⟩ := and_e hn
  obtain ⟨hnba, hnbb⟩ := and_e hnb
  obtain ⟨hnbba, hnbbb⟩ := and_e hnbb
  obtain ⟨hnbbba, hnbbbb⟩ := and_e hnbbb
  obtain ⟨hnbbbba, hnbbbbb⟩ := and_e hnbbbb
  obtain ⟨hnbbbbba, hnbbbbbb⟩ := and_e hnbbbbb
  obtain ⟨hnbbbbbba, hnbbbbbbb⟩ := and_e hnbbbbbb
  obtain ⟨hnbbbbbbba, hnbbbbbbbb⟩ := and_e hnbbbbbbb
  obtain ⟨hnbbbbbbbba, hnbbbbbbbbb⟩ := and_e hnbbbbbbbb
  obtain ⟨hnbbbbbbbbba, hnbbbbbbbbbb⟩ := and_e hnbbbbbbbbb
  obtain ⟨hnbbbbbbbbbba, hnbbbbbbbbbbb⟩ := and_e hnbbbbbbbbbb
  obtain ⟨hnbbbbbbbbbbba, hnbbbbbbbbbbbb⟩ := and_e hnbbbbbbbbbbb
  obtain ⟨hnbbbbbbbbbbbba, hnbbbbbbbbbbbbb⟩ := and_e hnbbbbbbbbbbbb
  obtain ⟨hnbbbbbbbbbbbbba, hnbbbbbbbbbbbbbb⟩ := and_e hnbbbbbbbbbbbbb
  obtain ⟨hnbbbbbbbbbbbbbba, hnbbbbbbbbbbbbbbb⟩ := and_e hnbbbbbbbbbbbbbb
  obtain ⟨hnbbbbbbbbbbbbbbba, hnbbbbbbbbbbbbbbbb⟩ := and_e hnbbbbbbbbbbbbbbb
  obtain ⟨hnbbbbbbbbbbbbbbbba, hnbbbbbbbbbbbbbbbbb⟩ := and_e hnbbbbbbbbbbbbbbbb
  obtain ⟨hnbbbbbbbbbbbbbbbbba, hnbbbbbbbbbbbbbbbbbb⟩ := and_e hnbbbbbbbbbbbbbbbbb
  obtain ⟨hnbbbbbbbbbbbbbbbbbba, hnbbbbbbbbbbbbbbbbbbb⟩ := and_e hnbbbbbbbbbbbbbbbbbb
  obtain ⟨hnbbbbbbbbbbbbbbbbbbba, hnbbbbbbbbbbbbbbbbbbbb⟩ := and_e hnbbbbbbbbbbbbbbbbbbb
  obtain ⟨hnbbbbbbbbbbbbbbbbbbbba, hnbbbbbbbbbbbbbbbbbbbbb⟩ := and_e hnbbbbbbbbbbbbbbbbbbbb
  obtain ⟨hnbbbbbbbbbbbbbbbbbbbbba, hnbbbbbbbbbbbbbbbbbbbbbb⟩ := and_e hnbbbbbbbbbbbbbbbbbbbbb
  obtain ⟨hnbbbbbbbbbbbbbbbbbbbbbba, hnbbbbbbbbbbbbbbbbbbbbbbb⟩ := and_e hnbbbbbbbbbbbbbbbbbbbbbb
  obtain ⟨hnbbbbbbbbbbbbbbbbbbbbbbba, hnbbbbbbbbbbbbbbbbbbbbbbbb⟩ := and_e hnbbbbbbbbbbbbbbbbbbbbbbb
  obtain ⟨hnbbbbbbbbbbbbbbbbbbbbbbbba, hnbbbbbbbbbbbbbbbbbbbbbbbbb⟩ := and_e hnbbbbbbbbbbbbbbbbbbbbbbbb
  obtain ⟨hnbbbbbbbbbbbbbbbbbbbbbbbbba, hnbbbbbbbbbbbbbbbbbbbbbbbbbb⟩ := and_e hnbbbbbbbbbbbbbbbbbbbbbbbbb
  obtain ⟨hnbbbbbbbbbbbbbbbbbbbbbbbbbba, hnbbbbbbbbbbbbbbbbbbbbbbbbbbb⟩ := and_e hnbbbbbbbbbbbbbbbbbbbbbbbbbb
  obtain ⟨hnbbbbbbbbbbbbbbbbbbbbbbbbbbba, hnbbbbbbbbbbbbbbbbbbbbbbbbbbbb⟩ := and_e hnbbbbbbbbbbbbbbbbbbbbbbbbbbb
  obtain ⟨hnbbbbbbbbbbbbbbbbbbbbbbbbbbbba, hnbbbbbbbbbbbbbbbbbbbbbbbbbbbbb⟩ := and_e hnbbbbbbbbbbbbbbbbbbbbbbbbbbbb
  obtain ⟨hnbbbbbbbbbbbbbbbbbbbbbbbbbbbbba, hnbbbbbbbbbbbbbbbbbbbbbbbbbbbbbb⟩ := and_e hnbbbbbbbbbbbbbbbbbbbbbbbbbbbbb
  obtain ⟨hnbbbbbbbbbbbbbbbbbbbbbbbbbbbbbba, hnbbbbbbbbbbbbbbbbbbbbbbbbbbbbbbb⟩ := and_e hnbbbbbbbbbbbbbbbbbbbbbbbbbbbbbb
  obtain ⟨hnbbbbbbbbbbbbbbbbbbbbbbbbbbbbbbba, hnbbbbbbbbbbbbbbbbbbbbbbbbbbbbbbbb⟩ := and_e hnbbbbbbbbbbbbbbbbbbbbbbbbbbbbbbb
  obtain ⟨hnbbbbbbbbbbbbbbbbbbbbbbbbbbbbbbbba, hnbbbbbbbbbbbbbbbbbbbbbbbbbbbbbbbbb⟩ := and_e hnbbbbbbbbbbbbbbbbbbbbbbbbbbbbbbbb
  obtain ⟨hnbbbbbbbbbbbbbbbbbbbbbbbbbbbbbbbbba, hnbbbbbbbbbbbbbbbbbbbbbbbbbbbbbbbbbb⟩ := and_e hnbbbbbbbbbbbbbbbbbbbbbbbbbbbbbbbbb
  obtain ⟨g_REF, ev_g_REF⟩ := exa_v hna
  obtain ⟨g__VALUES, ev_g__VALUES⟩ := exa_v hnbba
  obtain ⟨g_BYTYPE, ev_g_BYTYPE⟩ := exa_v hnbbbbba
  obtain ⟨g_GUICE, ev_g_GUICE⟩ := exa_v hnbbbbbbba
  obtain ⟨g_REF_label, ev_g_REF_label⟩ := exa_v hnbbbbbbbbba
  obtain ⟨g_BYTYPE_label, ev_g_BYTYPE_label⟩ := exa_v hnbbbbbbbbbbbbbbbba
  obtain ⟨g_GUICE_label, ev_g_GUICE_label⟩ := exa_v hnbbbbbbbbbbbbbbbbbbbba
  obtain ⟨g_REF_label_value, ev_g_REF_label_value⟩ := arr_v hnbbbbbbbbbbba
  obtain ⟨g_BYTYPE_label_value, ev_g_BYTYPE_label_value⟩ := arr_v hnbbbbbbbbbbbbbbbbbba
  obtain ⟨g_GUICE_label_value, ev_g_GUICE_label_value⟩ := arr_v hnbbbbbbbbbbbbbbbbbbbbbba
  obtain ⟨k__VALUES, av_g__VALUES⟩ := own_arr (dv := .null) (n := (3 : Int32)) (vs := [(.ref g_REF), (.ref g_BYTYPE), (.ref g_GUICE)]) hfit ev_g__VALUES hnba (eqv_i (Term.int_eval _) hnbbba) (by decide) rfl ⟨own_eqv_r ev_g_REF hnbbbba, ⟨own_eqv_r ev_g_BYTYPE hnbbbbbba, ⟨own_eqv_r ev_g_GUICE hnbbbbbbbba, trivial⟩⟩⟩
  obtain ⟨k_REF_label_value, av_g_REF_label_value⟩ := own_arr (dv := (.int 0)) (n := (3 : Int32)) (vs := [(.int (114 : Int32)), (.int (101 : Int32)), (.int (102 : Int32))]) hfit ev_g_REF_label_value hnbbbbbbbbbbba (eqv_i (Term.int_eval _) hnbbbbbbbbbbbba) (by decide) rfl ⟨eqv_i (Term.int_eval _) hnbbbbbbbbbbbbba, ⟨eqv_i (Term.int_eval _) hnbbbbbbbbbbbbbba, ⟨eqv_i (Term.int_eval _) hnbbbbbbbbbbbbbbba, trivial⟩⟩⟩
  obtain ⟨k_BYTYPE_label_value, av_g_BYTYPE_label_value⟩ := own_arr (dv := (.int 0)) (n := (6 : Int32)) (vs := [(.int (98 : Int32)), (.int (121 : Int32)), (.int (116 : Int32)), (.int (121 : Int32)), (.int (112 : Int32)), (.int (101 : Int32))]) hfit ev_g_BYTYPE_label_value hnbbbbbbbbbbbbbbbbbba (eqv_i (Term.int_eval _) hnbbbbbbbbbbbbbbbbbbba) (by decide) rfl ⟨eqv_i (Term.int_eval _) hnbbbbbbbbbbbbbbbbbbbbbbbba, ⟨eqv_i (Term.int_eval _) hnbbbbbbbbbbbbbbbbbbbbbbbbba, ⟨eqv_i (Term.int_eval _) hnbbbbbbbbbbbbbbbbbbbbbbbbbba, ⟨eqv_i (Term.int_eval _) hnbbbbbbbbbbbbbbbbbbbbbbbbbbba, ⟨eqv_i (Term.int_eval _) hnbbbbbbbbbbbbbbbbbbbbbbbbbbbba, ⟨eqv_i (Term.int_eval _) hnbbbbbbbbbbbbbbbbbbbbbbbbbbbbba, trivial⟩⟩⟩⟩⟩⟩
  obtain ⟨k_GUICE_label_value, av_g_GUICE_label_value⟩ := own_arr (dv := (.int 0)) (n := (5 : Int32)) (vs := [(.int (103 : Int32)), (.int (117 : Int32)), (.int (105 : Int32)), (.int (99 : Int32)), (.int (101 : Int32))]) hfit ev_g_GUICE_label_value hnbbbbbbbbbbbbbbbbbbbbbba (eqv_i (Term.int_eval _) hnbbbbbbbbbbbbbbbbbbbbbbba) (by decide) rfl ⟨eqv_i (Term.int_eval _) hnbbbbbbbbbbbbbbbbbbbbbbbbbbbbbba, ⟨eqv_i (Term.int_eval _) hnbbbbbbbbbbbbbbbbbbbbbbbbbbbbbbba, ⟨eqv_i (Term.int_eval _) hnbbbbbbbbbbbbbbbbbbbbbbbbbbbbbbbba, ⟨eqv_i (Term.int_eval _) hnbbbbbbbbbbbbbbbbbbbbbbbbbbbbbbbbba, ⟨eqv_i (Term.int_eval _) hnbbbbbbbbbbbbbbbbbbbbbbbbbbbbbbbbbb, trivial⟩⟩⟩⟩⟩
  have hEN : OwnEN s g_REF g__VALUES g_BYTYPE g_GUICE g_REF_label g_BYTYPE_label g_GUICE_label g_REF_label_value g_BYTYPE_label_value g_GUICE_label_value k__VALUES k_REF_label_value k_BYTYPE_label_value k_GUICE_label_value := ⟨Sta.start ev_g_REF (Or.inr ⟨(hw _ (List.mem_of_getElem? (i := 3) rfl)), (hw _ (List.mem_of_getElem? (i := 4) rfl))⟩), Exa.start ev_g_REF hna, Sta.start ev_g__VALUES (Or.inl (hw _ (List.mem_of_getElem? (i := 51) rfl))), Exa.start ev_g__VALUES hnbba, Sta.start ev_g_BYTYPE (Or.inr ⟨(hw _ (List.mem_of_getElem? (i := 3) rfl)), (hw _ (List.mem_of_getElem? (i := 49) rfl))⟩), Exa.start ev_g_BYTYPE hnbbbbba, Sta.start ev_g_GUICE (Or.inr ⟨(hw _ (List.mem_of_getElem? (i := 3) rfl)), (hw _ (List.mem_of_getElem? (i := 50) rfl))⟩), Exa.start ev_g_GUICE hnbbbbbbba, Fld.start ((fld_at ev_g_REF).symm.trans ev_g_REF_label), Exa.start ev_g_REF_label hnbbbbbbbbba, Fld.start ((fld_at ev_g_BYTYPE).symm.trans ev_g_BYTYPE_label), Exa.start ev_g_BYTYPE_label hnbbbbbbbbbbbbbbbba, Fld.start ((fld_at ev_g_GUICE).symm.trans ev_g_GUICE_label), Exa.start ev_g_GUICE_label hnbbbbbbbbbbbbbbbbbbbba, Fld.start ((fld_at ev_g_REF_label).symm.trans ev_g_REF_label_value), Fld.start ((fld_at ev_g_BYTYPE_label).symm.trans ev_g_BYTYPE_label_value), Fld.start ((fld_at ev_g_GUICE_label).symm.trans ev_g_GUICE_label_value), Fld.start ((fld_at ev_g_REF_label).symm.trans (eqv_i (Term.int_eval _) hnbbbbbbbbbba)), Fld.start ((fld_at ev_g_BYTYPE_label).symm.trans (eqv_i (Term.int_eval _) hnbbbbbbbbbbbbbbbbba)), Fld.start ((fld_at ev_g_GUICE_label).symm.trans (eqv_i (Term.int_eval _) hnbbbbbbbbbbbbbbbbbbbbba)), av_g__VALUES, av_g_REF_label_value, av_g_BYTYPE_label_value, av_g_GUICE_label_value⟩
  have nCS := not_v (Cond.before_iff.mp (hsets _ (List.mem_of_getElem? (i := 2) rfl)))
  obtain ⟨G1, eCS⟩ := is_v (Cond.before_iff.mp (hsets _ (List.mem_of_getElem? (i := 1) rfl)))
  have O2 : Sta s s.heap "java/lang/String" "COMPACT_STRINGS" "Z" (.int G1) := Sta.start eCS (Or.inl (hsets _ (List.mem_of_getElem? (i := 0) rfl)))
  have P5 : ¬ (G1 = (0 : Int32)) := gotF (Cond.eq_ints eCS (Term.int_eval (0))) nCS
  obtain ⟨n, o, h1, h2, h3, _, L, rfl, ⟨rfl, N⟩, hq⟩ := rm0 l s _ hw tables_1 g_REF g__VALUES g_BYTYPE g_GUICE g_REF_label g_BYTYPE_label g_GUICE_label g_REF_label_value g_BYTYPE_label_value g_GUICE_label_value k__VALUES k_REF_label_value k_BYTYPE_label_value k_GUICE_label_value G1 i1 s.heap s.heap.size (Old.start s) hEN O2 P5 p e ha hc hk s m _ below hf ((Spec.applies_iff_loose hf).mp happ).1 ⟨rfl, State.Warmed39.refl s, rfl⟩ trivial
  refine ⟨n, _, h1, h2, h3, hpost _ _ _ _ _ _ ⟨Cond.after_iff.mpr rfl, Cond.after_iff.mpr (eq_i res_at (Term.int_eval (1)) rfl), trivial⟩ ⟨hq.1, hq.2.1, (hq.2.2.sift fun y hy => Or.inr (N y hy)).mono (by decide) (by decide)⟩⟩
theorem main_1_1 : Claimed_1_1 := comes_1 fun _ _ _ _ _ _ h hF => ⟨h.1, hF⟩
theorem main_1_2 : Claimed_1_2 := comes_1 fun _ _ _ _ _ _ h hF => ⟨h.2.1, hF⟩
end Jvm.Pilot.@@N@@
namespace Jvm.Pilot.@@N@@
open Jvm Jvm.ClassFile Sem Op Lib Jvm.Free Jvm.Stand Jvm.Pilot.@@N@@.Jvm.D
/-! MADE BY PROGRAM (witnessworld.py) out of the Statement's table words and the real class files: 22 classes; the members and pool entries that the words name. The judged class is class 1, her method 1. -/
namespace start1
open Jvm.ClassFile
def u (s : String) : CpInfo := .utf8 (stringToUtf16 s)
/-- a pool by its gaps: so many unusable entries, then the entry; so many at the end -/
def gap : Nat → List CpInfo → List CpInfo
  | 0, r => r
  | n + 1, r => .unusable :: gap n r
def poolList (es : List (Nat × CpInfo)) (last : Nat) : List CpInfo := es.foldr (fun e r => gap e.1 (e.2 :: r)) (gap last [])
def pool (es : List (Nat × CpInfo)) (last : Nat) : Array CpInfo := ⟨poolList es last⟩
def fileOf (pool : Array CpInfo) (this : Nat) (attrs : Array Attribute := #[]) (ms : Array MethodInfo := #[]) (fl : Nat := 33) (sup : Nat := 0) (ifs : Array Nat := #[]) (fds : Array FieldInfo := #[]) : ClassFile where
  minorVersion := 0
  majorVersion := 65
  constantPool := pool
  accessFlags := fl
  thisClass := this
  superClass := sup
  interfaces := ifs
  fields := fds
  methods := ms
  attributes := attrs
def plain (name : String) (sup : Option ClassId) : Class where
  name := name
  kind := .ordinary
  loader := none
  accessFlags := 33
  super := sup
  interfaces := #[]
  cf := none
  fields := #[]
  methods := #[]
  instanceTypes := #[]
  staticTypes := #[]
  resolved := #[]
  callSites := []
  init := .initialized
  statics := none
  mirror := none

def pool0 : Array CpInfo := pool [(5, u "<init>"), (0, u "()V"), (1, .class_ 10), (1, u "java/lang/Object"), (85, u "clone"), (0, u "()Ljava/lang/Object;")] 26

def k0c0 : Code := { maxStack := 0, maxLocals := 1, code := object_method_1_code, exceptionTable := #[], attributes := #[] }
def k0m0 : Method := { name := "<init>", desc := "()V", sig := { parameters := [], returnType := none }, accessFlags := 1, code := some k0c0 }
def k0m1 : Method := { name := "clone", desc := "()Ljava/lang/Object;", sig := { parameters := [], returnType := some (.object "java/lang/Object") }, accessFlags := 260, code := none }
/-- java/lang/Object -/
def k0 : Class := { plain "java/lang/Object" none with
  accessFlags := 33
  interfaces := #[]
  cf := some (fileOf pool0 8 #[] #[{ accessFlags := 1, nameIndex := 5, descriptorIndex := 6, attributes := #[] }, { accessFlags := 260, nameIndex := 96, descriptorIndex := 97, attributes := #[] }] 33 0 #[] #[])
  fields := #[]
  methods := #[k0m0, k0m1]
  instanceTypes := #[]
  staticTypes := #[]
  resolved := Array.replicate 124 none
  statics := none }

def pool1 : Array CpInfo := pool [(2, .class_ 4), (1, u "java/lang/Object"), (0, u "<init>"), (0, u "()V"), (0, .integer 2147483647), (0, .fieldref 9 10), (0, .class_ 11), (0, .nameAndType 12 13), (0, u "dev/bindery/benchmark/Variant"), (0, u "REF"), (0, u "Ldev/bindery/benchmark/Variant;"), (0, .fieldref 9 15), (0, .nameAndType 16 13), (0, u "BYTYPE"), (0, .fieldref 9 18), (0, .nameAndType 19 13), (0, u "GUICE"), (0, .class_ 21), (0, u "java/lang/String"), (0, .methodref 20 23), (0, .nameAndType 5 24), (0, u "([C)V"), (0, .methodref 9 26), (0, .nameAndType 27 28), (0, u "of"), (0, u "(Ljava/lang/String;)Ldev/bindery/benchmark/Variant;"), (0, .methodref 9 30), (0, .nameAndType 31 32), (0, u "label"), (0, u "()Ljava/lang/String;"), (0, .methodref 20 34), (0, .nameAndType 35 36), (0, u "equals"), (0, u "(Ljava/lang/Object;)Z"), (0, .class_ 38), (0, u "dev/bindery/benchmark/VariantOfPinLaw"), (2, u "law"), (0, u "(I)Z")] 5

def k1m0 : Method := { name := "<init>", desc := "()V", sig := { parameters := [], returnType := none }, accessFlags := 1, code := none }
def k1c1 : Code := { maxStack := 4, maxLocals := 6, code := code, exceptionTable := #[], attributes := #[] }
def k1m1 : Method := { name := "law", desc := "(I)Z", sig := { parameters := [.int], returnType := some .boolean }, accessFlags := 9, code := some k1c1 }
/-- dev/bindery/benchmark/VariantOfPinLaw -/
def k1 : Class := { plain "dev/bindery/benchmark/VariantOfPinLaw" (some 0) with
  accessFlags := 49
  interfaces := #[]
  cf := some (fileOf pool1 37 #[] #[{ accessFlags := 1, nameIndex := 5, descriptorIndex := 6, attributes := #[] }, { accessFlags := 9, nameIndex := 41, descriptorIndex := 42, attributes := #[] }] 49 2 #[] #[])
  fields := #[]
  methods := #[k1m0, k1m1]
  instanceTypes := #[]
  staticTypes := #[]
  resolved := Array.replicate 48 none
  statics := none }

def pool2 : Array CpInfo := pool [(1, .class_ 2), (0, u "java/lang/constant/Constable"), (0, .class_ 4), (0, u "java/lang/Object")] 6

/-- java/lang/constant/Constable -/
def k2 : Class := { plain "java/lang/constant/Constable" (some 0) with
  accessFlags := 1537
  interfaces := #[]
  cf := some (fileOf pool2 1 #[] #[] 1537 3 #[] #[])
  fields := #[]
  methods := #[]
  instanceTypes := #[]
  staticTypes := #[]
  resolved := Array.replicate 11 none
  statics := none }

def pool3 : Array CpInfo := pool [(1, .class_ 2), (0, u "java/lang/Comparable"), (0, .class_ 4), (0, u "java/lang/Object")] 7

/-- java/lang/Comparable -/
def k3 : Class := { plain "java/lang/Comparable" (some 0) with
  accessFlags := 1537
  interfaces := #[]
  cf := some (fileOf pool3 1 #[] #[] 1537 3 #[] #[])
  fields := #[]
  methods := #[]
  instanceTypes := #[]
  staticTypes := #[]
  resolved := Array.replicate 12 none
  statics := none }

def pool4 : Array CpInfo := pool [(1, .class_ 2), (0, u "java/io/Serializable"), (0, .class_ 4), (0, u "java/lang/Object")] 2

/-- java/io/Serializable -/
def k4 : Class := { plain "java/io/Serializable" (some 0) with
  accessFlags := 1537
  interfaces := #[]
  cf := some (fileOf pool4 1 #[] #[] 1537 3 #[] #[])
  fields := #[]
  methods := #[]
  instanceTypes := #[]
  staticTypes := #[]
  resolved := Array.replicate 7 none
  statics := none }

def pool5 : Array CpInfo := pool [(2, .class_ 4), (1, u "java/lang/Enum"), (0, u "name"), (0, u "Ljava/lang/String;"), (2, u "ordinal"), (0, u "I"), (1, .class_ 14), (1, u "java/lang/Object"), (4, u "hash"), (86, .class_ 108), (1, u "java/lang/Enum$EnumDesc"), (2, .class_ 112), (0, u "java/lang/constant/Constable"), (0, .class_ 114), (0, u "java/lang/Comparable"), (0, .class_ 116), (0, u "java/io/Serializable")] 87

/-- java/lang/Enum -/
def k5 : Class := { plain "java/lang/Enum" (some 0) with
  accessFlags := 1057
  interfaces := #[2, 3, 4]
  cf := some (fileOf pool5 2 #[.nestMembers #[106]] #[] 1057 12 #[111, 113, 115] #[{ accessFlags := 18, nameIndex := 5, descriptorIndex := 6, attributes := #[] }, { accessFlags := 18, nameIndex := 9, descriptorIndex := 10, attributes := #[] }, { accessFlags := 2, nameIndex := 19, descriptorIndex := 10, attributes := #[] }])
  fields := #[{ name := "name", type := (.object "java/lang/String"), accessFlags := 18, slot := 0, constantValue := 0 }, { name := "ordinal", type := .int, accessFlags := 18, slot := 1, constantValue := 0 }, { name := "hash", type := .int, accessFlags := 2, slot := 2, constantValue := 0 }]
  methods := #[]
  instanceTypes := #[(.object "java/lang/String"), .int, .int]
  staticTypes := #[]
  resolved := Array.replicate 204 none
  statics := none }

def pool6 : Array CpInfo := pool [(1, .class_ 2), (0, u "dev/bindery/benchmark/Variant"), (2, u "REF"), (0, u "Ldev/bindery/benchmark/Variant;"), (2, u "BYTYPE"), (2, u "GUICE"), (0, .fieldref 1 14), (0, .nameAndType 15 16), (0, u "$VALUES"), (0, u "[Ldev/bindery/benchmark/Variant;"), (0, .methodref 18 19), (0, .class_ 16), (0, .nameAndType 20 21), (0, u "clone"), (0, u "()Ljava/lang/Object;"), (1, .class_ 25), (1, u "java/lang/Enum"), (6, .fieldref 1 33), (0, .nameAndType 34 35), (0, u "label"), (0, u "Ljava/lang/String;"), (0, .methodref 1 37), (0, .nameAndType 38 39), (0, u "values"), (0, u "()[Ldev/bindery/benchmark/Variant;"), (0, .methodref 41 42), (0, .class_ 43), (0, .nameAndType 44 45), (0, u "java/lang/String"), (0, u "equals"), (0, u "(Ljava/lang/Object;)Z"), (26, u "(Ljava/lang/String;)Ldev/bindery/benchmark/Variant;"), (2, u "()Ljava/lang/String;"), (0, u "of")] 21

def k6c0 : Code := { maxStack := 1, maxLocals := 0, code := prog_4_method_1_code, exceptionTable := #[], attributes := #[] }
def k6m0 : Method := { name := "values", desc := "()[Ldev/bindery/benchmark/Variant;", sig := { parameters := [], returnType := some (.array (.object "dev/bindery/benchmark/Variant")) }, accessFlags := 9, code := some k6c0 }
def k6c1 : Code := { maxStack := 1, maxLocals := 1, code := prog_4_method_4_code, exceptionTable := #[], attributes := #[] }
def k6m1 : Method := { name := "label", desc := "()Ljava/lang/String;", sig := { parameters := [], returnType := some (.object "java/lang/String") }, accessFlags := 0, code := some k6c1 }
def k6c2 : Code := { maxStack := 3, maxLocals := 5, code := prog_4_method_5_code, exceptionTable := #[], attributes := #[] }
def k6m2 : Method := { name := "of", desc := "(Ljava/lang/String;)Ldev/bindery/benchmark/Variant;", sig := { parameters := [(.object "java/lang/String")], returnType := some (.object "dev/bindery/benchmark/Variant") }, accessFlags := 8, code := some k6c2 }
/-- dev/bindery/benchmark/Variant -/
def k6 : Class := { plain "dev/bindery/benchmark/Variant" (some 5) with
  accessFlags := 16432
  interfaces := #[]
  cf := some (fileOf pool6 1 #[] #[{ accessFlags := 9, nameIndex := 38, descriptorIndex := 39, attributes := #[] }, { accessFlags := 0, nameIndex := 34, descriptorIndex := 75, attributes := #[] }, { accessFlags := 8, nameIndex := 76, descriptorIndex := 72, attributes := #[] }] 16432 23 #[] #[{ accessFlags := 16409, nameIndex := 5, descriptorIndex := 6, attributes := #[] }, { accessFlags := 16409, nameIndex := 9, descriptorIndex := 6, attributes := #[] }, { accessFlags := 16409, nameIndex := 12, descriptorIndex := 6, attributes := #[] }, { accessFlags := 18, nameIndex := 34, descriptorIndex := 35, attributes := #[] }, { accessFlags := 4122, nameIndex := 15, descriptorIndex := 16, attributes := #[] }])
  fields := #[{ name := "REF", type := (.object "dev/bindery/benchmark/Variant"), accessFlags := 16409, slot := 0, constantValue := 0 }, { name := "BYTYPE", type := (.object "dev/bindery/benchmark/Variant"), accessFlags := 16409, slot := 1, constantValue := 0 }, { name := "GUICE", type := (.object "dev/bindery/benchmark/Variant"), accessFlags := 16409, slot := 2, constantValue := 0 }, { name := "label", type := (.object "java/lang/String"), accessFlags := 18, slot := 3, constantValue := 0 }, { name := "$VALUES", type := (.array (.object "dev/bindery/benchmark/Variant")), accessFlags := 4122, slot := 3, constantValue := 0 }]
  methods := #[k6m0, k6m1, k6m2]
  instanceTypes := #[(.object "java/lang/String"), .int, .int, (.object "java/lang/String")]
  staticTypes := #[(.object "dev/bindery/benchmark/Variant"), (.object "dev/bindery/benchmark/Variant"), (.object "dev/bindery/benchmark/Variant"), (.array (.object "dev/bindery/benchmark/Variant"))]
  resolved := Array.replicate 98 none
  statics := some 0 }

def pool7 : Array CpInfo := pool [(2, .class_ 4), (1, u "java/lang/CharSequence"), (42, .class_ 48), (0, u "java/lang/CharSequence$1CodePointIterator"), (10, .class_ 60), (0, u "java/lang/CharSequence$1CharIterator"), (5, .class_ 67), (0, u "java/lang/Object")] 63

/-- java/lang/CharSequence -/
def k7 : Class := { plain "java/lang/CharSequence" (some 0) with
  accessFlags := 1537
  interfaces := #[]
  cf := some (fileOf pool7 2 #[.nestMembers #[47, 59]] #[] 1537 66 #[] #[])
  fields := #[]
  methods := #[]
  instanceTypes := #[]
  staticTypes := #[]
  resolved := Array.replicate 131 none
  statics := none }

def pool8 : Array CpInfo := pool [(1, .class_ 2), (0, u "java/lang/constant/ConstantDesc"), (0, .class_ 4), (0, u "java/lang/Object")] 32

/-- java/lang/constant/ConstantDesc -/
def k8 : Class := { plain "java/lang/constant/ConstantDesc" (some 0) with
  accessFlags := 1537
  interfaces := #[]
  cf := some (fileOf pool8 1 #[] #[] 1537 3 #[] #[])
  fields := #[]
  methods := #[]
  instanceTypes := #[]
  staticTypes := #[]
  resolved := Array.replicate 37 none
  statics := none }

def pool9 : Array CpInfo := pool [(1, .methodref 2 3), (0, .class_ 4), (0, .nameAndType 5 6), (0, u "java/lang/Object"), (0, u "<init>"), (0, u "()V"), (2, .fieldref 10 11), (0, .class_ 12), (0, .nameAndType 13 14), (0, u "java/lang/String"), (0, u "value"), (0, u "[B"), (0, .fieldref 10 16), (0, .nameAndType 17 18), (0, u "coder"), (0, u "B"), (2, u "hash"), (0, u "I"), (2, u "hashIsZero"), (0, u "Z"), (0, .methodref 10 28), (0, .nameAndType 5 29), (0, u "([CIILjava/lang/Void;)V"), (8, .fieldref 10 39), (0, .nameAndType 40 26), (0, u "COMPACT_STRINGS"), (1, .class_ 44), (1, u "java/lang/StringUTF16"), (0, u "compress"), (1, .methodref 42 48), (0, .nameAndType 49 50), (0, u "coderFromArrayLen"), (0, u "([BI)B"), (56, .class_ 109), (1, u "java/lang/StringLatin1"), (67, .methodref 42 178), (0, .nameAndType 45 179), (0, u "([CII)[B"), (361, .methodref 107 542), (0, .nameAndType 543 544), (0, u "equals"), (0, u "([B[B)Z"), (28, u "(Ljava/lang/Object;)Z"), (1, .class_ 576), (0, u "java/lang/CharSequence"), (22, u "CASE_INSENSITIVE_ORDER"), (0, u "Ljava/util/Comparator;"), (409, u "([C)V"), (90, u "serialPersistentFields"), (0, u "[Ljava/io/ObjectStreamField;"), (0, .class_ 1104), (0, u "java/lang/String$CaseInsensitiveComparator"), (1, .class_ 1107), (0, u "java/io/Serializable"), (0, .class_ 1109), (0, u "java/lang/Comparable"), (0, .class_ 1111), (0, u "java/lang/constant/Constable"), (0, .class_ 1113), (0, u "java/lang/constant/ConstantDesc"), (2, u "serialVersionUID"), (0, u "J"), (3, u "REPL"), (0, u "C"), (2, u "LATIN1"), (1, u "UTF16")] 323

def k9m0 : Method := { name := "<init>", desc := "()V", sig := { parameters := [], returnType := none }, accessFlags := 1, code := none }
def k9c1 : Code := { maxStack := 5, maxLocals := 2, code := jdk_42_method_3_code, exceptionTable := #[], attributes := #[] }
def k9m1 : Method := { name := "<init>", desc := "([C)V", sig := { parameters := [(.array .char)], returnType := none }, accessFlags := 1, code := some k9c1 }
def k9c2 : Code := { maxStack := 2, maxLocals := 3, code := jdk_42_method_66_code, exceptionTable := #[], attributes := #[] }
def k9m2 : Method := { name := "equals", desc := "(Ljava/lang/Object;)Z", sig := { parameters := [(.object "java/lang/Object")], returnType := some .boolean }, accessFlags := 1, code := some k9c2 }
def k9c3 : Code := { maxStack := 4, maxLocals := 6, code := jdk_42_method_149_code, exceptionTable := #[], attributes := #[] }
def k9m3 : Method := { name := "<init>", desc := "([CIILjava/lang/Void;)V", sig := { parameters := [(.array .char), .int, .int, (.object "java/lang/Void")], returnType := none }, accessFlags := 2, code := some k9c3 }
/-- java/lang/String -/
def k9 : Class := { plain "java/lang/String" (some 0) with
  accessFlags := 49
  interfaces := #[4, 3, 7, 2, 8]
  cf := some (fileOf pool9 10 #[.nestMembers #[1103]] #[{ accessFlags := 1, nameIndex := 5, descriptorIndex := 6, attributes := #[] }, { accessFlags := 1, nameIndex := 5, descriptorIndex := 1010, attributes := #[] }, { accessFlags := 1, nameIndex := 543, descriptorIndex := 573, attributes := #[] }, { accessFlags := 2, nameIndex := 5, descriptorIndex := 29, attributes := #[] }] 49 2 #[1106, 1108, 575, 1110, 1112] #[{ accessFlags := 18, nameIndex := 13, descriptorIndex := 14, attributes := #[] }, { accessFlags := 18, nameIndex := 17, descriptorIndex := 18, attributes := #[] }, { accessFlags := 2, nameIndex := 21, descriptorIndex := 22, attributes := #[] }, { accessFlags := 2, nameIndex := 25, descriptorIndex := 26, attributes := #[] }, { accessFlags := 26, nameIndex := 1116, descriptorIndex := 1117, attributes := #[] }, { accessFlags := 24, nameIndex := 40, descriptorIndex := 26, attributes := #[] }, { accessFlags := 26, nameIndex := 1101, descriptorIndex := 1102, attributes := #[] }, { accessFlags := 26, nameIndex := 1121, descriptorIndex := 1122, attributes := #[] }, { accessFlags := 25, nameIndex := 599, descriptorIndex := 600, attributes := #[] }, { accessFlags := 24, nameIndex := 1125, descriptorIndex := 18, attributes := #[] }, { accessFlags := 24, nameIndex := 1127, descriptorIndex := 18, attributes := #[] }])
  fields := #[{ name := "value", type := (.array .byte), accessFlags := 18, slot := 0, constantValue := 0 }, { name := "coder", type := .byte, accessFlags := 18, slot := 1, constantValue := 0 }, { name := "hash", type := .int, accessFlags := 2, slot := 2, constantValue := 0 }, { name := "hashIsZero", type := .boolean, accessFlags := 2, slot := 3, constantValue := 0 }, { name := "serialVersionUID", type := .long, accessFlags := 26, slot := 0, constantValue := 0 }, { name := "COMPACT_STRINGS", type := .boolean, accessFlags := 24, slot := 1, constantValue := 0 }, { name := "serialPersistentFields", type := (.array (.object "java/io/ObjectStreamField")), accessFlags := 26, slot := 2, constantValue := 0 }, { name := "REPL", type := .char, accessFlags := 26, slot := 3, constantValue := 0 }, { name := "CASE_INSENSITIVE_ORDER", type := (.object "java/util/Comparator"), accessFlags := 25, slot := 4, constantValue := 0 }, { name := "LATIN1", type := .byte, accessFlags := 24, slot := 5, constantValue := 0 }, { name := "UTF16", type := .byte, accessFlags := 24, slot := 6, constantValue := 0 }]
  methods := #[k9m0, k9m1, k9m2, k9m3]
  instanceTypes := #[(.array .byte), .byte, .int, .boolean]
  staticTypes := #[.long, .boolean, (.array (.object "java/io/ObjectStreamField")), .char, (.object "java/util/Comparator"), .byte, .byte]
  resolved := Array.replicate 1451 none
  statics := some 1 }

def pool10 : Array CpInfo := pool [(6, .class_ 8), (1, u "java/lang/Object"), (0, u "<init>"), (0, u "()V"), (1, .class_ 14), (1, u "java/lang/StringUTF16"), (31, u "$assertionsDisabled"), (0, u "Z"), (13, u "HI_BYTE_SHIFT"), (0, u "I"), (2, u "LO_BYTE_SHIFT"), (49, .methodref 12 116), (0, .nameAndType 117 118), (0, u "compress"), (0, u "([CI[BII)I"), (3, u "([CII)[B"), (138, u "coderFromArrayLen"), (0, u "([BI)B"), (106, .class_ 371), (1, u "java/lang/StringUTF16$LinesSpliterator"), (58, u "MAX_LENGTH"), (196, .class_ 628), (0, u "java/lang/StringUTF16$CodePointsSpliterator"), (0, .class_ 630), (0, u "java/lang/StringUTF16$CharsSpliterator")] 4

def k10m0 : Method := { name := "<init>", desc := "()V", sig := { parameters := [], returnType := none }, accessFlags := 0, code := none }
def k10c1 : Code := { maxStack := 2, maxLocals := 2, code := jdk_52_method_15_code, exceptionTable := #[], attributes := #[] }
def k10m1 : Method := { name := "coderFromArrayLen", desc := "([BI)B", sig := { parameters := [(.array .byte), .int], returnType := some .byte }, accessFlags := 8, code := some k10c1 }
def k10c2 : Code := { maxStack := 5, maxLocals := 6, code := jdk_52_method_16_code, exceptionTable := #[], attributes := #[] }
def k10m2 : Method := { name := "compress", desc := "([CII)[B", sig := { parameters := [(.array .char), .int, .int], returnType := some (.array .byte) }, accessFlags := 9, code := some k10c2 }
def k10c3 : Code := { maxStack := 3, maxLocals := 7, code := jdk_52_method_21_code, exceptionTable := #[], attributes := #[] }
def k10m3 : Method := { name := "compress", desc := "([CI[BII)I", sig := { parameters := [(.array .char), .int, (.array .byte), .int, .int], returnType := some .int }, accessFlags := 9, code := some k10c3 }
/-- java/lang/StringUTF16 -/
def k10 : Class := { plain "java/lang/StringUTF16" (some 0) with
  accessFlags := 48
  interfaces := #[]
  cf := some (fileOf pool10 12 #[.nestMembers #[627, 629, 369]] #[{ accessFlags := 0, nameIndex := 9, descriptorIndex := 10, attributes := #[] }, { accessFlags := 8, nameIndex := 261, descriptorIndex := 262, attributes := #[] }, { accessFlags := 9, nameIndex := 117, descriptorIndex := 122, attributes := #[] }, { accessFlags := 9, nameIndex := 117, descriptorIndex := 118, attributes := #[] }] 48 6 #[] #[{ accessFlags := 26, nameIndex := 61, descriptorIndex := 62, attributes := #[] }, { accessFlags := 26, nameIndex := 65, descriptorIndex := 62, attributes := #[] }, { accessFlags := 24, nameIndex := 430, descriptorIndex := 62, attributes := #[] }, { accessFlags := 4120, nameIndex := 46, descriptorIndex := 47, attributes := #[] }])
  fields := #[{ name := "HI_BYTE_SHIFT", type := .int, accessFlags := 26, slot := 0, constantValue := 0 }, { name := "LO_BYTE_SHIFT", type := .int, accessFlags := 26, slot := 1, constantValue := 0 }, { name := "MAX_LENGTH", type := .int, accessFlags := 24, slot := 2, constantValue := 0 }, { name := "$assertionsDisabled", type := .boolean, accessFlags := 4120, slot := 3, constantValue := 0 }]
  methods := #[k10m0, k10m1, k10m2, k10m3]
  instanceTypes := #[]
  staticTypes := #[.int, .int, .int, .boolean]
  resolved := Array.replicate 635 none
  statics := none }

def pool11 : Array CpInfo := pool [(1, .class_ 2), (0, u "java/lang/Cloneable"), (0, .class_ 4), (0, u "java/lang/Object")] 2

/-- java/lang/Cloneable -/
def k11 : Class := { plain "java/lang/Cloneable" (some 0) with
  accessFlags := 1537
  interfaces := #[]
  cf := some (fileOf pool11 1 #[] #[] 1537 3 #[] #[])
  fields := #[]
  methods := #[]
  instanceTypes := #[]
  staticTypes := #[]
  resolved := Array.replicate 7 none
  statics := none }

def pool12 : Array CpInfo := pool [(4, .class_ 6), (1, u "java/lang/Object"), (0, u "<init>"), (0, u "()V"), (5, .class_ 16), (1, u "java/lang/StringLatin1"), (104, u "$assertionsDisabled"), (0, u "Z"), (98, .class_ 223), (1, u "java/lang/StringLatin1$LinesSpliterator"), (57, u "equals"), (0, u "([B[B)Z"), (107, .class_ 391), (0, u "java/lang/StringLatin1$CharsSpliterator")] 3

def k12m0 : Method := { name := "<init>", desc := "()V", sig := { parameters := [], returnType := none }, accessFlags := 0, code := none }
def k12c1 : Code := { maxStack := 3, maxLocals := 3, code := jdk_43_method_13_code, exceptionTable := #[], attributes := #[] }
def k12m1 : Method := { name := "equals", desc := "([B[B)Z", sig := { parameters := [(.array .byte), (.array .byte)], returnType := some .boolean }, accessFlags := 9, code := some k12c1 }
/-- java/lang/StringLatin1 -/
def k12 : Class := { plain "java/lang/StringLatin1" (some 0) with
  accessFlags := 48
  interfaces := #[]
  cf := some (fileOf pool12 14 #[.nestMembers #[390, 221]] #[{ accessFlags := 0, nameIndex := 7, descriptorIndex := 8, attributes := #[] }, { accessFlags := 9, nameIndex := 281, descriptorIndex := 282, attributes := #[] }] 48 4 #[] #[{ accessFlags := 4120, nameIndex := 121, descriptorIndex := 122, attributes := #[] }])
  fields := #[{ name := "$assertionsDisabled", type := .boolean, accessFlags := 4120, slot := 0, constantValue := 0 }]
  methods := #[k12m0, k12m1]
  instanceTypes := #[]
  staticTypes := #[.boolean]
  resolved := Array.replicate 395 none
  statics := none }

def pool13 : Array CpInfo := pool [(2, .class_ 4), (1, u "java/lang/Object"), (0, u "<init>"), (0, u "()V"), (17, .class_ 26), (1, u "jdk/internal/util/Preconditions"), (28, .class_ 56), (0, u "jdk/internal/util/Preconditions$4"), (57, .class_ 115), (0, u "jdk/internal/util/Preconditions$1"), (7, u "SIOOBE_FORMATTER"), (0, u "Ljava/util/function/BiFunction;"), (0, .class_ 126), (0, u "jdk/internal/util/Preconditions$2"), (3, u "AIOOBE_FORMATTER"), (0, .class_ 132), (0, u "jdk/internal/util/Preconditions$3"), (3, u "IOOBE_FORMATTER")] 57

def k13m0 : Method := { name := "<init>", desc := "()V", sig := { parameters := [], returnType := none }, accessFlags := 1, code := none }
/-- jdk/internal/util/Preconditions -/
def k13 : Class := { plain "jdk/internal/util/Preconditions" (some 0) with
  accessFlags := 33
  interfaces := #[]
  cf := some (fileOf pool13 24 #[.nestMembers #[55, 131, 125, 114]] #[{ accessFlags := 1, nameIndex := 5, descriptorIndex := 6, attributes := #[] }] 33 2 #[] #[{ accessFlags := 25, nameIndex := 123, descriptorIndex := 124, attributes := #[] }, { accessFlags := 25, nameIndex := 130, descriptorIndex := 124, attributes := #[] }, { accessFlags := 25, nameIndex := 136, descriptorIndex := 124, attributes := #[] }])
  fields := #[{ name := "SIOOBE_FORMATTER", type := (.object "java/util/function/BiFunction"), accessFlags := 25, slot := 0, constantValue := 0 }, { name := "AIOOBE_FORMATTER", type := (.object "java/util/function/BiFunction"), accessFlags := 25, slot := 1, constantValue := 0 }, { name := "IOOBE_FORMATTER", type := (.object "java/util/function/BiFunction"), accessFlags := 25, slot := 2, constantValue := 0 }]
  methods := #[k13m0]
  instanceTypes := #[]
  staticTypes := #[(.object "java/util/function/BiFunction"), (.object "java/util/function/BiFunction"), (.object "java/util/function/BiFunction")]
  resolved := Array.replicate 194 none
  statics := some 2 }

def pool14 : Array CpInfo := pool [(9, u "<init>"), (6, .class_ 18), (1, u "java/lang/Object"), (0, u "()V"), (1, .class_ 23), (1, u "jdk/internal/util/ArraysSupport"), (0, u "LOG2_ARRAY_LONG_INDEX_SCALE"), (0, u "I"), (2, u "U"), (0, u "Ljdk/internal/misc/Unsafe;"), (8, u "BIG_ENDIAN"), (0, u "Z"), (8, u "LOG2_BYTE_BIT_SIZE"), (4, u "LOG2_ARRAY_INT_INDEX_SCALE"), (54, u "JLA"), (0, u "Ljdk/internal/access/JavaLangAccess;"), (11, u "LOG2_ARRAY_BOOLEAN_INDEX_SCALE"), (9, u "LOG2_ARRAY_BYTE_INDEX_SCALE"), (5, u "LOG2_ARRAY_CHAR_INDEX_SCALE"), (5, u "LOG2_ARRAY_SHORT_INDEX_SCALE"), (18, u "LOG2_ARRAY_FLOAT_INDEX_SCALE"), (24, u "LOG2_ARRAY_DOUBLE_INDEX_SCALE"), (89, u "T_BOOLEAN"), (2, u "T_CHAR"), (1, u "T_FLOAT"), (1, u "T_DOUBLE"), (1, u "T_BYTE"), (1, u "T_SHORT"), (1, u "T_INT"), (1, u "T_LONG"), (1, u "SOFT_MAX_ARRAY_LENGTH")] 83

def k14m0 : Method := { name := "<init>", desc := "()V", sig := { parameters := [], returnType := none }, accessFlags := 2, code := none }
/-- jdk/internal/util/ArraysSupport -/
def k14 : Class := { plain "jdk/internal/util/ArraysSupport" (some 0) with
  accessFlags := 33
  interfaces := #[]
  cf := some (fileOf pool14 21 #[] #[{ accessFlags := 2, nameIndex := 9, descriptorIndex := 19, attributes := #[] }] 33 16 #[] #[{ accessFlags := 24, nameIndex := 28, descriptorIndex := 29, attributes := #[] }, { accessFlags := 26, nameIndex := 38, descriptorIndex := 39, attributes := #[] }, { accessFlags := 25, nameIndex := 121, descriptorIndex := 25, attributes := #[] }, { accessFlags := 25, nameIndex := 131, descriptorIndex := 25, attributes := #[] }, { accessFlags := 25, nameIndex := 137, descriptorIndex := 25, attributes := #[] }, { accessFlags := 25, nameIndex := 143, descriptorIndex := 25, attributes := #[] }, { accessFlags := 25, nameIndex := 53, descriptorIndex := 25, attributes := #[] }, { accessFlags := 25, nameIndex := 24, descriptorIndex := 25, attributes := #[] }, { accessFlags := 25, nameIndex := 162, descriptorIndex := 25, attributes := #[] }, { accessFlags := 25, nameIndex := 187, descriptorIndex := 25, attributes := #[] }, { accessFlags := 26, nameIndex := 48, descriptorIndex := 25, attributes := #[] }, { accessFlags := 25, nameIndex := 277, descriptorIndex := 25, attributes := #[] }, { accessFlags := 25, nameIndex := 280, descriptorIndex := 25, attributes := #[] }, { accessFlags := 25, nameIndex := 282, descriptorIndex := 25, attributes := #[] }, { accessFlags := 25, nameIndex := 284, descriptorIndex := 25, attributes := #[] }, { accessFlags := 25, nameIndex := 286, descriptorIndex := 25, attributes := #[] }, { accessFlags := 25, nameIndex := 288, descriptorIndex := 25, attributes := #[] }, { accessFlags := 25, nameIndex := 290, descriptorIndex := 25, attributes := #[] }, { accessFlags := 25, nameIndex := 292, descriptorIndex := 25, attributes := #[] }, { accessFlags := 26, nameIndex := 108, descriptorIndex := 109, attributes := #[] }, { accessFlags := 25, nameIndex := 294, descriptorIndex := 25, attributes := #[] }])
  fields := #[{ name := "U", type := (.object "jdk/internal/misc/Unsafe"), accessFlags := 24, slot := 0, constantValue := 0 }, { name := "BIG_ENDIAN", type := .boolean, accessFlags := 26, slot := 1, constantValue := 0 }, { name := "LOG2_ARRAY_BOOLEAN_INDEX_SCALE", type := .int, accessFlags := 25, slot := 2, constantValue := 0 }, { name := "LOG2_ARRAY_BYTE_INDEX_SCALE", type := .int, accessFlags := 25, slot := 3, constantValue := 0 }, { name := "LOG2_ARRAY_CHAR_INDEX_SCALE", type := .int, accessFlags := 25, slot := 4, constantValue := 0 }, { name := "LOG2_ARRAY_SHORT_INDEX_SCALE", type := .int, accessFlags := 25, slot := 5, constantValue := 0 }, { name := "LOG2_ARRAY_INT_INDEX_SCALE", type := .int, accessFlags := 25, slot := 6, constantValue := 0 }, { name := "LOG2_ARRAY_LONG_INDEX_SCALE", type := .int, accessFlags := 25, slot := 7, constantValue := 0 }, { name := "LOG2_ARRAY_FLOAT_INDEX_SCALE", type := .int, accessFlags := 25, slot := 8, constantValue := 0 }, { name := "LOG2_ARRAY_DOUBLE_INDEX_SCALE", type := .int, accessFlags := 25, slot := 9, constantValue := 0 }, { name := "LOG2_BYTE_BIT_SIZE", type := .int, accessFlags := 26, slot := 10, constantValue := 0 }, { name := "T_BOOLEAN", type := .int, accessFlags := 25, slot := 11, constantValue := 0 }, { name := "T_CHAR", type := .int, accessFlags := 25, slot := 12, constantValue := 0 }, { name := "T_FLOAT", type := .int, accessFlags := 25, slot := 13, constantValue := 0 }, { name := "T_DOUBLE", type := .int, accessFlags := 25, slot := 14, constantValue := 0 }, { name := "T_BYTE", type := .int, accessFlags := 25, slot := 15, constantValue := 0 }, { name := "T_SHORT", type := .int, accessFlags := 25, slot := 16, constantValue := 0 }, { name := "T_INT", type := .int, accessFlags := 25, slot := 17, constantValue := 0 }, { name := "T_LONG", type := .int, accessFlags := 25, slot := 18, constantValue := 0 }, { name := "JLA", type := (.object "jdk/internal/access/JavaLangAccess"), accessFlags := 26, slot := 19, constantValue := 0 }, { name := "SOFT_MAX_ARRAY_LENGTH", type := .int, accessFlags := 25, slot := 20, constantValue := 0 }]
  methods := #[k14m0]
  instanceTypes := #[]
  staticTypes := #[(.object "jdk/internal/misc/Unsafe"), .boolean, .int, .int, .int, .int, .int, .int, .int, .int, .int, .int, .int, .int, .int, .int, .int, .int, .int, (.object "jdk/internal/access/JavaLangAccess"), .int]
  resolved := Array.replicate 378 none
  statics := none }

/-- the primitive byte -/
def k15 : Class := { plain "byte" none with kind := .primitive 'B', accessFlags := 0x411 }
/-- [B -/
def k16 : Class := { plain "[B" (some 0) with kind := .array 15 .byte, interfaces := #[11, 4], accessFlags := 1041 }

/-- the primitive char -/
def k17 : Class := { plain "char" none with kind := .primitive 'C', accessFlags := 0x411 }
/-- [C -/
def k18 : Class := { plain "[C" (some 0) with kind := .array 17 .char, interfaces := #[11, 4], accessFlags := 1041 }

/-- the primitive int -/
def k19 : Class := { plain "int" none with kind := .primitive 'I', accessFlags := 0x411 }
/-- [I -/
def k20 : Class := { plain "[I" (some 0) with kind := .array 19 .int, interfaces := #[11, 4], accessFlags := 1041 }

/-- [Ldev/bindery/benchmark/Variant; -/
def k21 : Class := { plain "[Ldev/bindery/benchmark/Variant;" (some 0) with kind := .array 6 (.object "dev/bindery/benchmark/Variant"), interfaces := #[11, 4], accessFlags := 1041 }

def heap : Heap := #[{ cls := 6, slots := #[.ref 4, .ref 5, .ref 6, .ref 3], vm := .statics 6 },
  { cls := 9, slots := #[.long 0, .int 1, .null, .int 0, .null, .int 0, .int 0], vm := .statics 9 },
  { cls := 13, slots := #[.null, .null, .null], vm := .statics 13 },
  { cls := 21, slots := #[.ref 4, .ref 5, .ref 6], vm := .none },
  { cls := 6, slots := #[.null, .int 0, .int 0, .ref 7], vm := .none },
  { cls := 6, slots := #[.null, .int 0, .int 0, .ref 8], vm := .none },
  { cls := 6, slots := #[.null, .int 0, .int 0, .ref 9], vm := .none },
  { cls := 9, slots := #[.ref 10, .int 0, .int 0, .int 0], vm := .none },
  { cls := 9, slots := #[.ref 11, .int 0, .int 0, .int 0], vm := .none },
  { cls := 9, slots := #[.ref 12, .int 0, .int 0, .int 0], vm := .none },
  { cls := 16, slots := #[.int 114, .int 101, .int 102], vm := .none },
  { cls := 16, slots := #[.int 98, .int 121, .int 116, .int 121, .int 112, .int 101], vm := .none },
  { cls := 16, slots := #[.int 103, .int 117, .int 105, .int 99, .int 101], vm := .none }]
def classes : Array Class := #[k0, k1, k2, k3, k4, k5, k6, k7, k8, k9, k10, k11, k12, k13, k14, k15, k16, k17, k18, k19, k20, k21]
def interned : List (Array UInt16 × Addr) := []
def slotsUsed : Nat := 55
def theMethod : MethodId := ⟨1, 1⟩
def args0 : Array Value := #[.int 5]
def aboutOver (below : List Frame) : State where
  vm := { classes := classes, interned := interned.toArray }
  heap := heap
  slotsUsed := slotsUsed
  threads := #[{ frames := .invoking theMethod args0 :: below }]
def below0 : List Frame := [.native { method := ⟨0, 0⟩, args := #[] }]
def about1 : State := aboutOver below0
def p0 : Program := .bare "" "" ""
def e0 : Env := launch0.env 0 0 0
theorem w_frames : about1.frames = Frame.invoking theMethod args0 :: below0 := rfl
set_option maxRecDepth 65536 in
theorem w_args : argsFit about1.vm theMethod args0 = true := by decide +kernel
set_option maxRecDepth 65536 in
theorem w_heap : heapFits about1 = true := by decide +kernel
set_option maxRecDepth 65536 in
theorem w_runnable : about1.curStatus? = some .runnable := by decide +kernel
set_option maxRecDepth 65536 in
theorem w_alone : about1.alone = true := by decide +kernel
set_option maxRecDepth 65536 in
theorem w_named : about1.methodNamed? x = some theMethod := by decide +kernel
set_option maxRecDepth 65536 in
theorem w_hears : about1.hears theMethod below0 = true := by decide +kernel
set_option maxRecDepth 65536 in
theorem w_ripe : about1.ripe theMethod args0 below0 = true := by decide +kernel
theorem w_running : about1.status = .running := rfl
set_option maxRecDepth 65536 in
theorem w_room : about1.hasRoom e0.platform room_1 = true :=
  launch0.hasRoom_least _ room_1 (by decide +kernel) (by decide +kernel) (by decide +kernel) (by decide +kernel) (by decide +kernel) (by decide +kernel)
theorem allAtoms_all (ts : List Jvm.Cond) (a : Array Jvm.Value) (st : Jvm.State) : (allAtoms ts).before a st = ts.all (fun c => c.before a st) := by
  induction ts with
  | nil => rfl
  | cons c t ih =>
    show (Jvm.Cond.and c (allAtoms t)).before a st = _
    rw [Jvm.Cond.before_and, ih, List.all_cons]
def words1 : List Jvm.Cond := Jvm.Cond.code x code maxLocals ret :: tables_1
/-- a 'code' word, met by the world's own term for the bytes: nothing is compared byte by byte -/
theorem code_word {y : MethodName} {bytes : ByteArray} {mx : Nat} {rt : Option FieldType} {a : Array Value} {s : State} {m : MethodId} {meth : Method} {c : Code} (h1 : s.methodNamed? y = some m) (h2 : s.vm.method? m = some meth) (h3 : meth.code = some c) (h4 : c.code = bytes)
    (h5 : (c.maxLocals == mx && c.exceptionTable.isEmpty && decide (c.maxStack ≤ mostOperands) && decide (meth.sig.returnType = rt) && !meth.locks && decide (parseMethodDescriptor y.desc = some meth.sig)) = true) : (Jvm.Cond.code y bytes mx rt).before a s = true := by
  simp only [Bool.and_eq_true, beq_iff_eq, Bool.not_eq_true', decide_eq_true_eq] at h5
  obtain ⟨⟨⟨⟨⟨g1, g2⟩, g3⟩, g4⟩, g5⟩, g6⟩ := h5
  simp [Cond.before, Cond.holds, Cond.value, h1, h2, h3, h4, g1, g2, g3, g4, g5, g6]
def isCode : Jvm.Cond → Bool
  | .code _ _ _ _ => true
  | _ => false
theorem all_split {L : List Jvm.Cond} {P : Jvm.Cond → Bool} (h1 : L.all (fun c => isCode c || P c) = true) (h2 : ∀ c ∈ L.filter isCode, P c = true) : L.all P = true := by
  refine List.all_eq_true.mpr fun c hc => ?_
  have h := List.all_eq_true.mp h1 c hc
  rcases Bool.eq_false_or_eq_true (isCode c) with hi | hi
  · exact h2 c (List.mem_filter.mpr ⟨hc, hi⟩)
  · simpa [hi] using h
set_option maxRecDepth 65536 in
theorem w_c0 : (Jvm.Cond.code x code maxLocals ret).before args0 about1 = true := code_word (m := ⟨1, 1⟩) (meth := k1m1) (c := k1c1) (by decide +kernel) rfl rfl rfl (by decide +kernel)
set_option maxRecDepth 65536 in
theorem w_c1 : (Jvm.Cond.code ({ cls := "java/lang/String", name := "<init>", desc := "([C)V" } : Jvm.MethodName) jdk_42_method_3_code (2 : Nat) (Option.none : Option Jvm.ClassFile.FieldType)).before args0 about1 = true := code_word (m := ⟨9, 1⟩) (meth := k9m1) (c := k9c1) (by decide +kernel) rfl rfl rfl (by decide +kernel)
set_option maxRecDepth 65536 in
theorem w_c2 : (Jvm.Cond.code ({ cls := "java/lang/String", name := "<init>", desc := "([CIILjava/lang/Void;)V" } : Jvm.MethodName) jdk_42_method_149_code (6 : Nat) (Option.none : Option Jvm.ClassFile.FieldType)).before args0 about1 = true := code_word (m := ⟨9, 3⟩) (meth := k9m3) (c := k9c3) (by decide +kernel) rfl rfl rfl (by decide +kernel)
set_option maxRecDepth 65536 in
theorem w_c3 : (Jvm.Cond.code ({ cls := "java/lang/Object", name := "<init>", desc := "()V" } : Jvm.MethodName) object_method_1_code (1 : Nat) (Option.none : Option Jvm.ClassFile.FieldType)).before args0 about1 = true := code_word (m := ⟨0, 0⟩) (meth := k0m0) (c := k0c0) (by decide +kernel) rfl rfl rfl (by decide +kernel)
set_option maxRecDepth 65536 in
theorem w_c4 : (Jvm.Cond.code ({ cls := "java/lang/StringUTF16", name := "compress", desc := "([CII)[B" } : Jvm.MethodName) jdk_52_method_16_code (6 : Nat) (Option.some (Jvm.ClassFile.FieldType.array Jvm.ClassFile.FieldType.byte))).before args0 about1 = true := code_word (m := ⟨10, 2⟩) (meth := k10m2) (c := k10c2) (by decide +kernel) rfl rfl rfl (by decide +kernel)
set_option maxRecDepth 65536 in
theorem w_c5 : (Jvm.Cond.code ({ cls := "java/lang/StringUTF16", name := "compress", desc := "([CI[BII)I" } : Jvm.MethodName) jdk_52_method_21_code (7 : Nat) (Option.some Jvm.ClassFile.FieldType.int)).before args0 about1 = true := code_word (m := ⟨10, 3⟩) (meth := k10m3) (c := k10c3) (by decide +kernel) rfl rfl rfl (by decide +kernel)
set_option maxRecDepth 65536 in
theorem w_c6 : (Jvm.Cond.code ({ cls := "java/lang/StringUTF16", name := "coderFromArrayLen", desc := "([BI)B" } : Jvm.MethodName) jdk_52_method_15_code (2 : Nat) (Option.some Jvm.ClassFile.FieldType.byte)).before args0 about1 = true := code_word (m := ⟨10, 1⟩) (meth := k10m1) (c := k10c1) (by decide +kernel) rfl rfl rfl (by decide +kernel)
set_option maxRecDepth 65536 in
theorem w_c7 : (Jvm.Cond.code ({ cls := "dev/bindery/benchmark/Variant", name := "of", desc := "(Ljava/lang/String;)Ldev/bindery/benchmark/Variant;" } : Jvm.MethodName) prog_4_method_5_code (5 : Nat) (Option.some (Jvm.ClassFile.FieldType.object "dev/bindery/benchmark/Variant"))).before args0 about1 = true := code_word (m := ⟨6, 2⟩) (meth := k6m2) (c := k6c2) (by decide +kernel) rfl rfl rfl (by decide +kernel)
set_option maxRecDepth 65536 in
theorem w_c8 : (Jvm.Cond.code ({ cls := "dev/bindery/benchmark/Variant", name := "values", desc := "()[Ldev/bindery/benchmark/Variant;" } : Jvm.MethodName) prog_4_method_1_code (0 : Nat) (Option.some (Jvm.ClassFile.FieldType.array (Jvm.ClassFile.FieldType.object "dev/bindery/benchmark/Variant")))).before args0 about1 = true := code_word (m := ⟨6, 0⟩) (meth := k6m0) (c := k6c0) (by decide +kernel) rfl rfl rfl (by decide +kernel)
set_option maxRecDepth 65536 in
theorem w_c9 : (Jvm.Cond.code ({ cls := "java/lang/String", name := "equals", desc := "(Ljava/lang/Object;)Z" } : Jvm.MethodName) jdk_42_method_66_code (3 : Nat) (Option.some Jvm.ClassFile.FieldType.boolean)).before args0 about1 = true := code_word (m := ⟨9, 2⟩) (meth := k9m2) (c := k9c2) (by decide +kernel) rfl rfl rfl (by decide +kernel)
set_option maxRecDepth 65536 in
theorem w_c10 : (Jvm.Cond.code ({ cls := "java/lang/StringLatin1", name := "equals", desc := "([B[B)Z" } : Jvm.MethodName) jdk_43_method_13_code (3 : Nat) (Option.some Jvm.ClassFile.FieldType.boolean)).before args0 about1 = true := code_word (m := ⟨12, 1⟩) (meth := k12m1) (c := k12c1) (by decide +kernel) rfl rfl rfl (by decide +kernel)
set_option maxRecDepth 65536 in
theorem w_c11 : (Jvm.Cond.code ({ cls := "dev/bindery/benchmark/Variant", name := "label", desc := "()Ljava/lang/String;" } : Jvm.MethodName) prog_4_method_4_code (1 : Nat) (Option.some (Jvm.ClassFile.FieldType.object "java/lang/String"))).before args0 about1 = true := code_word (m := ⟨6, 1⟩) (meth := k6m1) (c := k6c1) (by decide +kernel) rfl rfl rfl (by decide +kernel)
def codes1 : List Jvm.Cond := [Jvm.Cond.code x code maxLocals ret, Jvm.Cond.code ({ cls := "java/lang/String", name := "<init>", desc := "([C)V" } : Jvm.MethodName) jdk_42_method_3_code (2 : Nat) (Option.none : Option Jvm.ClassFile.FieldType), Jvm.Cond.code ({ cls := "java/lang/String", name := "<init>", desc := "([CIILjava/lang/Void;)V" } : Jvm.MethodName) jdk_42_method_149_code (6 : Nat) (Option.none : Option Jvm.ClassFile.FieldType), Jvm.Cond.code ({ cls := "java/lang/Object", name := "<init>", desc := "()V" } : Jvm.MethodName) object_method_1_code (1 : Nat) (Option.none : Option Jvm.ClassFile.FieldType), Jvm.Cond.code ({ cls := "java/lang/StringUTF16", name := "compress", desc := "([CII)[B" } : Jvm.MethodName) jdk_52_method_16_code (6 : Nat) (Option.some (Jvm.ClassFile.FieldType.array Jvm.ClassFile.FieldType.byte)), Jvm.Cond.code ({ cls := "java/lang/StringUTF16", name := "compress", desc := "([CI[BII)I" } : Jvm.MethodName) jdk_52_method_21_code (7 : Nat) (Option.some Jvm.ClassFile.FieldType.int), Jvm.Cond.code ({ cls := "java/lang/StringUTF16", name := "coderFromArrayLen", desc := "([BI)B" } : Jvm.MethodName) jdk_52_method_15_code (2 : Nat) (Option.some Jvm.ClassFile.FieldType.byte), Jvm.Cond.code ({ cls := "dev/bindery/benchmark/Variant", name := "of", desc := "(Ljava/lang/String;)Ldev/bindery/benchmark/Variant;" } : Jvm.MethodName) prog_4_method_5_code (5 : Nat) (Option.some (Jvm.ClassFile.FieldType.object "dev/bindery/benchmark/Variant")), Jvm.Cond.code ({ cls := "dev/bindery/benchmark/Variant", name := "values", desc := "()[Ldev/bindery/benchmark/Variant;" } : Jvm.MethodName) prog_4_method_1_code (0 : Nat) (Option.some (Jvm.ClassFile.FieldType.array (Jvm.ClassFile.FieldType.object "dev/bindery/benchmark/Variant"))), Jvm.Cond.code ({ cls := "java/lang/String", name := "equals", desc := "(Ljava/lang/Object;)Z" } : Jvm.MethodName) jdk_42_method_66_code (3 : Nat) (Option.some Jvm.ClassFile.FieldType.boolean), Jvm.Cond.code ({ cls := "java/lang/StringLatin1", name := "equals", desc := "([B[B)Z" } : Jvm.MethodName) jdk_43_method_13_code (3 : Nat) (Option.some Jvm.ClassFile.FieldType.boolean), Jvm.Cond.code ({ cls := "dev/bindery/benchmark/Variant", name := "label", desc := "()Ljava/lang/String;" } : Jvm.MethodName) prog_4_method_4_code (1 : Nat) (Option.some (Jvm.ClassFile.FieldType.object "java/lang/String"))]
set_option maxRecDepth 65536 in
theorem codes_eq : words1.filter isCode = codes1 := rfl
theorem w_codes : ∀ c ∈ words1.filter isCode, c.before args0 about1 = true := by
  rw [codes_eq]
  intro c hc
  simp only [codes1, List.mem_cons, List.not_mem_nil, or_false] at hc
  rcases hc with rfl | rfl | rfl | rfl | rfl | rfl | rfl | rfl | rfl | rfl | rfl | rfl
  · exact w_c0
  · exact w_c1
  · exact w_c2
  · exact w_c3
  · exact w_c4
  · exact w_c5
  · exact w_c6
  · exact w_c7
  · exact w_c8
  · exact w_c9
  · exact w_c10
  · exact w_c11
set_option maxRecDepth 65536 in
theorem w_t1 : (words1.take 24).all (fun c => isCode c || c.before args0 about1) = true := by decide +kernel
set_option maxRecDepth 65536 in
theorem w_t2 : ((words1.drop 24).take 24).all (fun c => isCode c || c.before args0 about1) = true := by decide +kernel
set_option maxRecDepth 65536 in
theorem w_t3 : (((words1.drop 24).drop 24).take 24).all (fun c => isCode c || c.before args0 about1) = true := by decide +kernel
set_option maxRecDepth 65536 in
theorem w_t4 : (((words1.drop 24).drop 24).drop 24).all (fun c => isCode c || c.before args0 about1) = true := by decide +kernel
theorem w_tables : (allAtoms (Jvm.Cond.code x code maxLocals ret :: tables_1)).before args0 about1 = true := by
  rw [allAtoms_all]
  show words1.all (fun c => c.before args0 about1) = true
  refine all_split ?_ w_codes
  rw [← List.take_append_drop 24 words1, List.all_append, w_t1, ← List.take_append_drop 24 (words1.drop 24), List.all_append, w_t2, ← List.take_append_drop 24 ((words1.drop 24).drop 24), List.all_append, w_t3, w_t4]
  rfl
set_option maxRecDepth 65536 in
theorem w_rest : rest_1_c.before args0 about1 = true := by decide +kernel
set_option maxRecDepth 65536 in
theorem w_case : (Jvm.Cond.and given_1 narrow_1).before args0 about1 = true := by decide +kernel
theorem w_applies : (headSpec (Jvm.Cond.code x code maxLocals ret :: tables_1) room_1).applies x e0.platform about1 = true :=
  (Spec.applies_iff w_frames).mpr ⟨w_running, w_runnable, w_alone, w_named, w_hears, w_ripe, w_room, w_tables⟩
theorem atStart : AtStart classFile x code maxLocals ret World_1 tables_1 room_1 Calls_1 rest_1 Pre_1 launch0 p0 e0 about1 theMethod args0 below0 :=
  ⟨lists_1, trivial, launch0.admits_env _ _ _, launch0.least_env, fairChoices_fair.cas, fairChoices_fair.clock, w_frames, w_args, w_heap, w_applies, trivial, w_rest, w_case⟩
end start1
theorem witness_1 : WitnessClaimed_1 := ⟨start1.p0, start1.e0, start1.about1, start1.theMethod, start1.args0, start1.below0, start1.atStart⟩
end Jvm.Pilot.@@N@@
