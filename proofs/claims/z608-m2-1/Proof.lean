import JvmDerived
import JvmDerived.Pilot.@@N@@Statement
import JvmDerived.Pilot.@@N@@Code
set_option linter.unusedVariables false
set_option linter.unusedSimpArgs false
namespace Jvm.RoadKit
open Sem ClassFile Op Lib Jvm.Stand Jvm.Free Jvm.LawKit
section New
variable {p : Program} {l : Launch} {e : Env} {R : Room} {s : State} {m : MethodId} {args : Array Value} {below : List Frame} {meth : Method} {c : Code} {T : State} {locs : List Loc} {cells slots : Nat}
theorem retI (X : Stand p l e R s m args below meth c T locs cells slots) (hx : p.tables.exec = Jvm.exec) {pc : Nat} {Ls : Array Slot} {z : Int32} {rest : List Value} (hret : meth.sig.returnType = some .int) (hd : decode c.code pc = .ok (.ireturn, 1)) {fs : List Frame}
    (hl : ∀ (f : JFrame) (acts : List Action), f.method = m → f.locked = none → f.entered = [] → (doReturn e (T.setTop f) acts (some (.int z))).1 = T.setFrames fs) : Steps p.tables e below (T.setTop (mkF m pc Ls (.int z :: rest))) (T.setFrames fs) :=
  retOut X hx hret rfl (Or.inl ⟨rfl, Or.inl rfl, z, rfl⟩) hd hl
end New
end Jvm.RoadKit
/- laws to paste: Road.backV, Road.eqW, Road.codOf (cut by pick.py; bodies as the Statement names them) -/
namespace Jvm.Pilot.@@N@@
namespace StrChars
open Jvm Sem ClassFile Op Lib Jvm.Stand Jvm.Free.XT Jvm.Free.ALB Jvm.Free.JM Jvm.Free
open Jvm.Lib.Cold (StaticIs)
/-- a char array whose places are chars -/
def Ch (a : Addr) (A : Cell) (U : State) : Prop := Arr .char a A U ∧ Typed .char A
theorem Ch.mv {a : Addr} {A : Cell} {U U' : State} (h : Ch a A U) (hal : U.vm.Alike U'.vm) (hh : U'.heap = U.heap) : Ch a A U' := ⟨h.1.mv hal hh, h.2⟩
theorem Ch.keep {a : Addr} {A : Cell} {U U' : State} (h : Ch a A U) (hal : U.vm.Alike U'.vm) (hk : U'.heap[a]? = some A) : Ch a A U' := ⟨h.1.keep hal hk, h.2⟩
/-- what place i of a char[]'s cell holds -/
def cv (A : Cell) (i : Nat) : Int32 := match A.slots[i]? with | some (.int x) => x | _ => 0
theorem Ch.get {a : Addr} {A : Cell} {U : State} (h : Ch a A U) {i : Nat} (hi : i < A.slots.size) : A.slots[i]? = some (.int (cv A i)) := by
  have e := Array.getElem?_eq_getElem hi
  have f := h.2 i _ e
  unfold cv; rw [e]
  generalize A.slots[i] = v at f
  cases v <;> simp [fits] at f ⊢
/-- the byte that i2b leaves of a char -/
def lo8 (x : Int32) : Int32 := x.toInt8.toInt32
theorem fits_lo8 (y : Int32) : fits .byte (.int (lo8 y)) = true := by
  have h1 := y.toInt8.le_toInt
  have h2 := y.toInt8.toInt_lt
  simp only [lo8, fits, Bool.and_eq_true, decide_eq_true_eq, Int32.le_iff_toInt_le, Int8.toInt_toInt32, show (-128 : Int32).toInt = -128 from by decide, show (127 : Int32).toInt = 127 from by decide]
  omega
/-- A' is A but that each place j of lo .. hi - 1 holds f j -/
def Laid (A A' : Cell) (lo hi : Nat) (f : Nat → Value) : Prop := A'.cls = A.cls ∧ A'.vm = A.vm ∧ A'.slots.size = A.slots.size ∧ ∀ i, A'.slots[i]? = if lo ≤ i ∧ i < hi then some (f i) else A.slots[i]?
theorem Laid.zero (A : Cell) (lo : Nat) (f : Nat → Value) : Laid A A lo (lo + 0) f := ⟨rfl, rfl, rfl, fun i => by rw [if_neg (by omega)]⟩
theorem Laid.step {A Ak : Cell} {lo k : Nat} {f : Nat → Value} {v : Value} (h : Laid A Ak lo k f) (hlo : lo ≤ k) (hk : k < Ak.slots.size) (hv : v = f k) : Laid A (Ak.setSlot k v) lo (k + 1) f := by
  refine ⟨h.1, h.2.1, by simpa [Cell.setSlot] using h.2.2.1, fun i => ?_⟩
  by_cases e : k = i
  · subst e; rw [Cell.slots_setSlot_self v hk, if_pos (by omega), hv]
  · rw [Cell.slots_setSlot_ne v e, h.2.2.2 i]
    by_cases q : lo ≤ i ∧ i < k
    · rw [if_pos q, if_pos (by omega)]
    · rw [if_neg q, if_neg (by omega)]
def U16 : String := "java/lang/StringUTF16"
namespace Cmp5
def yN : MethodName := ⟨"java/lang/StringUTF16", "compress", "([CI[BII)I"⟩
abbrev yB : ByteArray := jdk_52_method_21_code
theorem d0 : decode yB 0 = .ok (.iconst 0, 1) := by decide +kernel
theorem d1 : decode yB 1 = .ok (.istore 5, 2) := by decide +kernel
theorem d3 : decode yB 3 = .ok (.iload 5, 2) := by decide +kernel
theorem d5 : decode yB 5 = .ok (.iload 4, 2) := by decide +kernel
theorem d7 : decode yB 7 = .ok (.if_icmp (.ge) 37, 3) := by decide +kernel
theorem d10 : decode yB 10 = .ok (.aload_n 0, 1) := by decide +kernel
theorem d11 : decode yB 11 = .ok (.iload_n 1, 1) := by decide +kernel
theorem d12 : decode yB 12 = .ok (.caload, 1) := by decide +kernel
theorem d13 : decode yB 13 = .ok (.istore 6, 2) := by decide +kernel
theorem d15 : decode yB 15 = .ok (.iload 6, 2) := by decide +kernel
theorem d17 : decode yB 17 = .ok (.sipush 255, 3) := by decide +kernel
theorem d20 : decode yB 20 = .ok (.if_icmp (.le) 6, 3) := by decide +kernel
theorem d26 : decode yB 26 = .ok (.aload_n 2, 1) := by decide +kernel
theorem d27 : decode yB 27 = .ok (.iload_n 3, 1) := by decide +kernel
theorem d28 : decode yB 28 = .ok (.iload 6, 2) := by decide +kernel
theorem d30 : decode yB 30 = .ok (.i2b, 1) := by decide +kernel
theorem d31 : decode yB 31 = .ok (.bastore, 1) := by decide +kernel
theorem d32 : decode yB 32 = .ok (.iinc 1 1, 3) := by decide +kernel
theorem d35 : decode yB 35 = .ok (.iinc 3 1, 3) := by decide +kernel
theorem d38 : decode yB 38 = .ok (.iinc 5 1, 3) := by decide +kernel
theorem d41 : decode yB 41 = .ok (.goto (-38), 3) := by decide +kernel
theorem d44 : decode yB 44 = .ok (.iload 4, 2) := by decide +kernel
theorem d46 : decode yB 46 = .ok (.ireturn, 1) := by decide +kernel
def site : List Cond := []
def tab : Cond := tabOf yN yB 7 (some .int) site
def P (b : Addr) (A : Cell) (d : Addr) (B : Cell) (o q len : Nat) (args : Array Value) (s : State) : Prop := args = #[.ref b, .int (Int32.ofNat o), .ref d, .int (Int32.ofNat q), .int (Int32.ofNat len)] ∧ Ch b A s ∧ Arr .byte d B s ∧ b ≠ d ∧ o + len ≤ A.slots.size ∧ q + len ≤ B.slots.size ∧ ∀ i, i < len → ¬ 255 < cv A (o + i)
def E (b : Addr) (A : Cell) (d : Addr) (B : Cell) (o q len : Nat) (r : Option Value) (s u : State) : Prop := r = some (.int (Int32.ofNat len)) ∧ ∃ B', Put d B' s u ∧ Laid B B' q (q + len) (fun j => Value.int (lo8 (cv A (o + (j - q)))))
/-- no char of the range above 255: len; the places written hold each char's low byte -/
theorem law (l : Launch) (b : Addr) (A : Cell) (d : Addr) (B : Cell) (o q len : Nat) : Law l yN 5 5 0 0 yB 7 (some .int) site (P b A d B o q len) (E b A d B o q len) (copyLocs d q len) 0 0 := by
  refine Law.of_walk (plainFor_of_name (by decide +kernel)) (by decide +kernel) (by decide +kernel) (by decide) (fun _ _ h => by rw [h.1]; rfl) (fun _ U U' hal hh h => ⟨h.1, h.2.1.mv hal hh, h.2.2.1.mv hal hh, h.2.2.2⟩) (fun r U U' V V' h1 hal h2 h => ⟨h.1, h.2.elim fun B' q => ⟨B', q.1.mv h1 h2, q.2⟩⟩) ?_
  intro p e s m args below meth c s₁ X0 hexec hbytes hml hret hlk hnm hown hh0 W hP
  obtain ⟨rfl, hA, hB, hne, l1, l2, hp⟩ := hP
  have c1 : Steps p.tables e below (s₁.setTop (entryFrame m #[.ref b, .int (Int32.ofNat o), .ref d, .int (Int32.ofNat q), .int (Int32.ofNat len)] 7)) (s₁.setTop (mkF m 0 #[.val (.ref b), .val (.int (Int32.ofNat o)), .val (.ref d), .val (.int (Int32.ofNat q)), .val (.int (Int32.ofNat len)), .unset, .unset] [])) := entry rfl
  have hA0 := hA.1.mv X0.warmed.alike hh0
  have hB0 := hB.mv X0.warmed.alike hh0
  have a31 := hA.1.2.2.2
  have c2 : Steps p.tables e below (s₁.setTop (entryFrame m #[.ref b, .int (Int32.ofNat o), .ref d, .int (Int32.ofNat q), .int (Int32.ofNat len)] 7)) (s₁.setTop (mkF m 3 #[.val (.ref b), .val (.int (Int32.ofNat o)), .val (.ref d), .val (.int (Int32.ofNat q)), .val (.int (Int32.ofNat len)), .val (.int 0), .unset] [])) := c1.trans (by
    refine iconstV X0.here hexec rfl 0 (hb hbytes d0) (by decide) ?_
    refine XS.istore X0.here hexec rfl (hb hbytes d1) rfl rfl ?_
    exact Steps.refl _)
  have loop : ∀ (r i : Nat), i + r = len → ∀ (z : Slot), (z = .unset ∨ ∃ w, z = .val w ∧ w.category = 1) → ∀ (Tl : State) (Bk : Cell), Stand p l e { frames := 0, locals := 0, cells := 0, slots := 0 } s m #[.ref b, .int (Int32.ofNat o), .ref d, .int (Int32.ofNat q), .int (Int32.ofNat len)] below meth c Tl ([] ++ copyLocs d q i) 0 0 → Put d Bk s₁ Tl → Laid B Bk q (q + i) (fun j => Value.int (lo8 (cv A (o + (j - q))))) →
      Steps p.tables e below (s₁.setTop (entryFrame m #[.ref b, .int (Int32.ofNat o), .ref d, .int (Int32.ofNat q), .int (Int32.ofNat len)] 7)) (Tl.setTop (mkF m 3 #[.val (.ref b), .val (.int (Int32.ofNat (o + i))), .val (.ref d), .val (.int (Int32.ofNat (q + i))), .val (.int (Int32.ofNat len)), .val (.int (Int32.ofNat i)), z] [])) → ∃ (T' : State) (B' : Cell) (z' : Slot), Stand p l e { frames := 0, locals := 0, cells := 0, slots := 0 } s m #[.ref b, .int (Int32.ofNat o), .ref d, .int (Int32.ofNat q), .int (Int32.ofNat len)] below meth c T' ([] ++ copyLocs d q len) 0 0 ∧ Put d B' s₁ T' ∧ Laid B B' q (q + len) (fun j => Value.int (lo8 (cv A (o + (j - q))))) ∧
      Steps p.tables e below (s₁.setTop (entryFrame m #[.ref b, .int (Int32.ofNat o), .ref d, .int (Int32.ofNat q), .int (Int32.ofNat len)] 7)) (T'.setTop (mkF m 3 #[.val (.ref b), .val (.int (Int32.ofNat (o + len))), .val (.ref d), .val (.int (Int32.ofNat (q + len))), .val (.int (Int32.ofNat len)), .val (.int (Int32.ofNat len)), z'] [])) := by
    intro r
    induction r with
    | zero =>
      intro i hi z hz Tl Bk Xl pl fl cl
      have hil : i = len := by omega
      rw [hil] at Xl fl cl
      exact ⟨Tl, Bk, z, Xl, pl, fl, cl⟩
    | succ r ih =>
      intro i hi z hz Tl Bk Xl pl fl cl
      have all := X0.warmed.alike.symm.trans Xl.warmed.alike
      have hAl := hA0.keep all (pl.other hne hA0.1)
      have hBk := hB0.like all pl.1 fl.1 fl.2.1 fl.2.2.1
      have hlt : q + i < Bk.slots.size := by rw [fl.2.2.1]; omega
      have c3 : Steps p.tables e below (s₁.setTop (entryFrame m #[.ref b, .int (Int32.ofNat o), .ref d, .int (Int32.ofNat q), .int (Int32.ofNat len)] 7)) (Tl.setTop (mkF m 12 #[.val (.ref b), .val (.int (Int32.ofNat (o + i))), .val (.ref d), .val (.int (Int32.ofNat (q + i))), .val (.int (Int32.ofNat len)), .val (.int (Int32.ofNat i)), z] [.int (Int32.ofNat (o + i)), .ref b])) := cl.trans (by
        refine XS.iload Xl.here hexec rfl (hb hbytes d3) rfl ?_
        refine XS.iload Xl.here hexec rfl (hb hbytes d5) rfl ?_
        refine XS.icmpNo Xl.here hexec rfl (hb hbytes d7) rfl (ii_ge_f (lt32 (by omega) (by omega))) ?_
        refine XS.aloadN Xl.here hexec rfl (hb hbytes d10) rfl rfl ?_
        refine XS.iloadN Xl.here hexec rfl (hb hbytes d11) rfl ?_
        exact Steps.refl _)
      have c4 : Steps p.tables e below (s₁.setTop (entryFrame m #[.ref b, .int (Int32.ofNat o), .ref d, .int (Int32.ofNat q), .int (Int32.ofNat len)] 7)) (Tl.setTop (mkF m 13 #[.val (.ref b), .val (.int (Int32.ofNat (o + i))), .val (.ref d), .val (.int (Int32.ofNat (q + i))), .val (.int (Int32.ofNat len)), .val (.int (Int32.ofNat i)), z] [.int (cv A (o + i))])) := c3.trans (by
        refine Xl.aget hexec hAl rfl (hA.get (i := o + i) (by omega)) rfl rfl (hb hbytes d12) ?_
        exact Steps.refl _)
      have c5 : Steps p.tables e below (s₁.setTop (entryFrame m #[.ref b, .int (Int32.ofNat o), .ref d, .int (Int32.ofNat q), .int (Int32.ofNat len)] 7)) (Tl.setTop (mkF m 15 #[.val (.ref b), .val (.int (Int32.ofNat (o + i))), .val (.ref d), .val (.int (Int32.ofNat (q + i))), .val (.int (Int32.ofNat len)), .val (.int (Int32.ofNat i)), .val (.int (cv A (o + i)))] [])) := c4.trans (by
        refine XS.istoreS Xl.here hexec rfl (hb hbytes d13) rfl rfl hz ?_
        exact Steps.refl _)
      have c6 : Steps p.tables e below (s₁.setTop (entryFrame m #[.ref b, .int (Int32.ofNat o), .ref d, .int (Int32.ofNat q), .int (Int32.ofNat len)] 7)) (Tl.setTop (mkF m 31 #[.val (.ref b), .val (.int (Int32.ofNat (o + i))), .val (.ref d), .val (.int (Int32.ofNat (q + i))), .val (.int (Int32.ofNat len)), .val (.int (Int32.ofNat i)), .val (.int (cv A (o + i)))] [.int (lo8 (cv A (o + i))), .int (Int32.ofNat (q + i)), .ref d])) := c5.trans (by
        refine XS.iload Xl.here hexec rfl (hb hbytes d15) rfl ?_
        refine sipushV Xl.here hexec rfl 255 (hb hbytes d17) (by decide) ?_
        refine XS.icmpYes Xl.here hexec rfl (pc0 := 20) rfl (hb hbytes d20) rfl (ii_le_t (hp i (by omega))) (by decide) rfl ?_
        refine XS.aloadN Xl.here hexec rfl (hb hbytes d26) rfl rfl ?_
        refine XS.iloadN Xl.here hexec rfl (hb hbytes d27) rfl ?_
        refine XS.iload Xl.here hexec rfl (hb hbytes d28) rfl ?_
        refine i2b Xl.here hexec rfl (hb hbytes d30) rfl ?_
        exact Steps.refl _)
      obtain ⟨T7, X7, p7, st7⟩ := Xl.aput hexec hBk rfl hlt rfl (fits_lo8 (cv A (o + i))) (g := (mkF m 31 #[.val (.ref b), .val (.int (Int32.ofNat (o + i))), .val (.ref d), .val (.int (Int32.ofNat (q + i))), .val (.int (Int32.ofNat len)), .val (.int (Int32.ofNat i)), .val (.int (cv A (o + i)))] [.int (lo8 (cv A (o + i))), .int (Int32.ofNat (q + i)), .ref d])) rfl (rest := []) rfl (hb hbytes d31)
      have c8 : Steps p.tables e below (s₁.setTop (entryFrame m #[.ref b, .int (Int32.ofNat o), .ref d, .int (Int32.ofNat q), .int (Int32.ofNat len)] 7)) (T7.setTop (mkF m 32 #[.val (.ref b), .val (.int (Int32.ofNat (o + i))), .val (.ref d), .val (.int (Int32.ofNat (q + i))), .val (.int (Int32.ofNat len)), .val (.int (Int32.ofNat i)), .val (.int (cv A (o + i)))] [])) := c6.trans (st7 _ (Steps.refl _))
      have c9 : Steps p.tables e below (s₁.setTop (entryFrame m #[.ref b, .int (Int32.ofNat o), .ref d, .int (Int32.ofNat q), .int (Int32.ofNat len)] 7)) (T7.setTop (mkF m 3 #[.val (.ref b), .val (.int (Int32.ofNat (o + i) + 1)), .val (.ref d), .val (.int (Int32.ofNat (q + i) + 1)), .val (.int (Int32.ofNat len)), .val (.int (Int32.ofNat i + 1)), .val (.int (cv A (o + i)))] [])) := c8.trans (by
        refine iincV X7.here hexec rfl 1 (hb hbytes d32) (by decide) rfl rfl ?_
        refine iincV X7.here hexec rfl 1 (hb hbytes d35) (by decide) rfl rfl ?_
        refine iincV X7.here hexec rfl 1 (hb hbytes d38) (by decide) rfl rfl ?_
        refine XS.goto X7.here hexec rfl (pc0 := 41) rfl (hb hbytes d41) (by decide) rfl ?_
        exact Steps.refl _)
      have c10 : Steps p.tables e below (s₁.setTop (entryFrame m #[.ref b, .int (Int32.ofNat o), .ref d, .int (Int32.ofNat q), .int (Int32.ofNat len)] 7)) (T7.setTop (mkF m 3 #[.val (.ref b), .val (.int (Int32.ofNat (o + (i + 1)))), .val (.ref d), .val (.int (Int32.ofNat (q + (i + 1)))), .val (.int (Int32.ofNat len)), .val (.int (Int32.ofNat (i + 1))), .val (.int (cv A (o + i)))] [])) := by
        have := c9
        rw [succ32, succ32, succ32] at this
        exact this
      exact ih (i + 1) (by omega) _ (Or.inr ⟨_, rfl, rfl⟩) T7 _ (by rw [copyLocs_step, ← List.append_assoc]; exact X7) (pl.trans p7) (fl.step (by omega) hlt (by simp)) c10
  obtain ⟨T9, B9, z9, X9, p9, f9, g9⟩ := loop len 0 (by omega) .unset (Or.inl rfl) s₁ B (by simpa [copyLocs] using X0) ⟨hB0.1, fun _ _ => rfl, rfl⟩ (Laid.zero _ _ _) c2
  have c11 : Steps p.tables e below (s₁.setTop (entryFrame m #[.ref b, .int (Int32.ofNat o), .ref d, .int (Int32.ofNat q), .int (Int32.ofNat len)] 7)) (T9.setTop (mkF m 46 #[.val (.ref b), .val (.int (Int32.ofNat (o + len))), .val (.ref d), .val (.int (Int32.ofNat (q + len))), .val (.int (Int32.ofNat len)), .val (.int (Int32.ofNat len)), z9] [.int (Int32.ofNat len)])) := g9.trans (by
    refine XS.iload X9.here hexec rfl (hb hbytes d3) rfl ?_
    refine XS.iload X9.here hexec rfl (hb hbytes d5) rfl ?_
    refine XS.icmpYes X9.here hexec rfl (pc0 := 7) rfl (hb hbytes d7) rfl (ii_ge_t (nlt32 (by omega) (Nat.le_refl _))) (by decide) rfl ?_
    refine XS.iload X9.here hexec rfl (hb hbytes d44) rfl ?_
    exact Steps.refl _)
  exact ⟨T9, some (.int (Int32.ofNat len)), _, _, _, X9, by simp, rfl, rfl, (fun h => by cases h), ⟨rfl, B9, p9.from hh0, f9⟩, fun fs hl => c11.trans (X9.ireturnOut hexec hret rfl (Or.inl rfl) (hb hbytes d46) hl)⟩
end Cmp5
namespace Cmp3
def yN : MethodName := ⟨"java/lang/StringUTF16", "compress", "([CII)[B"⟩
abbrev yB : ByteArray := jdk_52_method_16_code
theorem d0 : decode yB 0 = .ok (.iload_n 2, 1) := by decide +kernel
theorem d1 : decode yB 1 = .ok (.newarray .byte, 2) := by decide +kernel
theorem d3 : decode yB 3 = .ok (.astore_n 3, 1) := by decide +kernel
theorem d4 : decode yB 4 = .ok (.aload_n 0, 1) := by decide +kernel
theorem d5 : decode yB 5 = .ok (.iload_n 1, 1) := by decide +kernel
theorem d6 : decode yB 6 = .ok (.aload_n 3, 1) := by decide +kernel
theorem d7 : decode yB 7 = .ok (.iconst 0, 1) := by decide +kernel
theorem d8 : decode yB 8 = .ok (.iload_n 2, 1) := by decide +kernel
theorem d9 : decode yB 9 = .ok (.invokestatic 115, 3) := by decide +kernel
theorem d12 : decode yB 12 = .ok (.istore 4, 2) := by decide +kernel
theorem d14 : decode yB 14 = .ok (.iload 4, 2) := by decide +kernel
theorem d16 : decode yB 16 = .ok (.iload_n 2, 1) := by decide +kernel
theorem d17 : decode yB 17 = .ok (.if_icmp (.eq) 40, 3) := by decide +kernel
theorem d57 : decode yB 57 = .ok (.aload_n 3, 1) := by decide +kernel
theorem d58 : decode yB 58 = .ok (.areturn, 1) := by decide +kernel
def site : List Cond := [.arrayClass .byte, Cmp5.tab] ++ staticW U16 115 Cmp5.yN
def tab : Cond := tabOf yN yB 6 (some (.array .byte)) site
def P (b : Addr) (A : Cell) (o len : Nat) (args : Array Value) (s : State) : Prop := args = #[.ref b, .int (Int32.ofNat o), .int (Int32.ofNat len)] ∧ Ch b A s ∧ o + len ≤ A.slots.size ∧ len ≤ 536870912 ∧ ∀ i, i < len → ¬ 255 < cv A (o + i)
def E (b : Addr) (A : Cell) (o len : Nat) (r : Option Value) (s u : State) : Prop := NewArr .byte "[B" len (fun j => .int (lo8 (cv A (o + j)))) r s u ∧ u.heap.size = s.heap.size + 1
/-- no char of the range above 255: a new byte[] of their low bytes -/
theorem law (l : Launch) (b : Addr) (A : Cell) (o len : Nat) : Law l yN 3 3 1 18 yB 6 (some (.array .byte)) site (P b A o len) (E b A o len) [] 1 len := by
  refine Law.of_walk (plainFor_of_name (by decide +kernel)) (by decide +kernel) (by decide +kernel) (by decide) (fun _ _ h => by rw [h.1]; rfl) (fun _ U U' hal hh h => ⟨h.1, h.2.1.mv hal hh, h.2.2⟩) (fun r U U' V V' h1 hal h2 h => ⟨NewArr.mv r U U' V V' h1 hal h2 h.1, by rw [h1, h2]; exact h.2⟩) ?_
  intro p e s m args below meth c s₁ X0 hexec hbytes hml hret hlk hnm hown hh0 W hP
  obtain ⟨rfl, hA, l1, l2, hp⟩ := hP
  have a31 := hA.1.2.2.2
  have c1 : Steps p.tables e below (s₁.setTop (entryFrame m #[.ref b, .int (Int32.ofNat o), .int (Int32.ofNat len)] 6)) (s₁.setTop (mkF m 0 #[.val (.ref b), .val (.int (Int32.ofNat o)), .val (.int (Int32.ofNat len)), .unset, .unset, .unset] [])) := entry rfl
  have c2 : Steps p.tables e below (s₁.setTop (entryFrame m #[.ref b, .int (Int32.ofNat o), .int (Int32.ofNat len)] 6)) (s₁.setTop (mkF m 1 #[.val (.ref b), .val (.int (Int32.ofNat o)), .val (.int (Int32.ofNat len)), .unset, .unset, .unset] [.int (Int32.ofNat len)])) := c1.trans (by
    refine XS.iloadN X0.here hexec rfl (hb hbytes d0) rfl ?_
    exact Steps.refl _)
  obtain ⟨T3, B3, X3, ba3, bs3, bv3, bh3, bf3, st3⟩ := X0.anew hexec (atype := .byte) (wk W (.arrayClass .byte)) rfl (by show len * 1 ≤ _; omega) (by omega) (g := (mkF m 1 #[.val (.ref b), .val (.int (Int32.ofNat o)), .val (.int (Int32.ofNat len)), .unset, .unset, .unset] [.int (Int32.ofNat len)])) rfl (hb hbytes d1) (rest := []) rfl (Nat.le_refl _) (by show 0 + len ≤ len; omega)
  rw [hh0] at ba3 st3
  have kp3 : XT.Kept s T3 := (XT.Kept.of_eq hh0).push bh3
  have hA3 := hA.keep X3.warmed.alike (kp3 _ _ hA.1.1)
  have hne : b ≠ s.heap.size := hA.1.ne
  have c4 : Steps p.tables e below (s₁.setTop (entryFrame m #[.ref b, .int (Int32.ofNat o), .int (Int32.ofNat len)] 6)) (T3.setTop (mkF m 3 #[.val (.ref b), .val (.int (Int32.ofNat o)), .val (.int (Int32.ofNat len)), .unset, .unset, .unset] [.ref s.heap.size])) := c2.trans (st3 _ (Steps.refl _))
  have c5 : Steps p.tables e below (s₁.setTop (entryFrame m #[.ref b, .int (Int32.ofNat o), .int (Int32.ofNat len)] 6)) (T3.setTop (mkF m 9 #[.val (.ref b), .val (.int (Int32.ofNat o)), .val (.int (Int32.ofNat len)), .val (.ref s.heap.size), .unset, .unset] [.int (Int32.ofNat len), .int 0, .ref s.heap.size, .int (Int32.ofNat o), .ref b])) := c4.trans (by
    refine XS.astoreN X3.here hexec rfl (hb hbytes d3) rfl rfl rfl ?_
    refine XS.aloadN X3.here hexec rfl (hb hbytes d4) rfl rfl ?_
    refine XS.iloadN X3.here hexec rfl (hb hbytes d5) rfl ?_
    refine XS.aloadN X3.here hexec rfl (hb hbytes d6) rfl rfl ?_
    refine iconstV X3.here hexec rfl 0 (hb hbytes d7) (by decide) ?_
    refine XS.iloadN X3.here hexec rfl (hb hbytes d8) rfl ?_
    exact Steps.refl _)
  obtain ⟨v6, T6, X6, E6, g6⟩ := X3.callS hexec (Cmp5.law l b A s.heap.size B3 o 0 len) hown (wks W (staticW U16 115 Cmp5.yN)) (wk W Cmp5.tab) (W := 0) (Nat.le_of_ble_eq_true rfl) (Nat.le_of_ble_eq_true rfl) (Nat.le_refl _) (by show 0 + len + 0 ≤ len; omega) (g := (mkF m 9 #[.val (.ref b), .val (.int (Int32.ofNat o)), .val (.int (Int32.ofNat len)), .val (.ref s.heap.size), .unset, .unset] [.int (Int32.ofNat len), .int (Int32.ofNat 0), .ref s.heap.size, .int (Int32.ofNat o), .ref b])) rfl (by rw [hml]; rfl) c5 (argsL := [.ref b, .int (Int32.ofNat o), .ref s.heap.size, .int (Int32.ofNat 0), .int (Int32.ofNat len)]) (rest := []) rfl rfl (by show 2 * 0 + 0 ≤ _; decide) (hb hbytes d9) (⟨rfl, hA3, ba3, hne, l1, by rw [bs3]; simp, hp⟩)
  obtain ⟨rfl, B6, p6, f6⟩ := E6
  have c7 : Steps p.tables e below (s₁.setTop (entryFrame m #[.ref b, .int (Int32.ofNat o), .int (Int32.ofNat len)] 6)) (T6.setTop (mkF m 12 #[.val (.ref b), .val (.int (Int32.ofNat o)), .val (.int (Int32.ofNat len)), .val (.ref s.heap.size), .unset, .unset] [.int (Int32.ofNat len)])) := g6
  have c8 : Steps p.tables e below (s₁.setTop (entryFrame m #[.ref b, .int (Int32.ofNat o), .int (Int32.ofNat len)] 6)) (T6.setTop (mkF m 58 #[.val (.ref b), .val (.int (Int32.ofNat o)), .val (.int (Int32.ofNat len)), .val (.ref s.heap.size), .val (.int (Int32.ofNat len)), .unset] [.ref s.heap.size])) := c7.trans (by
    refine XS.istore X6.here hexec rfl (hb hbytes d12) rfl rfl ?_
    refine XS.iload X6.here hexec rfl (hb hbytes d14) rfl ?_
    refine XS.iloadN X6.here hexec rfl (hb hbytes d16) rfl ?_
    refine XS.icmpYes X6.here hexec rfl (pc0 := 17) rfl (hb hbytes d17) rfl (ii_eq_t rfl) (by decide) rfl ?_
    refine XS.aloadN X6.here hexec rfl (hb hbytes d57) rfl rfl ?_
    exact Steps.refl _)
  have X8 := X6.wide (L' := []) (cells' := 1) (slots' := len) (fun x hx hlt => by
    simp only [List.nil_append, copyLocs, List.mem_map, List.mem_range] at hx
    obtain ⟨i, -, rfl⟩ := hx
    exact absurd hlt (Nat.lt_irrefl _)) (Nat.le_refl _) (by omega)
  exact ⟨T6, some (.ref s.heap.size), _, _, _, X8, rfl, rfl, rfl, (fun h => by cases h), ⟨⟨rfl, B6, ba3.like (X3.warmed.alike.symm.trans X6.warmed.alike) p6.1 f6.1 f6.2.1 f6.2.2.1, f6.2.1.trans bv3, by rw [X6.warmed.alike.findClass, f6.1]; exact bf3, by rw [f6.2.2.1, bs3]; simp, fun j hj => by rw [f6.2.2.2 j, if_pos (by omega)]; rfl, kp3.put p6 (Nat.le_refl _)⟩, by rw [p6.2.2, bh3, hh0]; simp⟩, fun fs hl => c8.trans (X8.areturnOut hexec rfl hret rfl (hb hbytes d58) hl)⟩
end Cmp3
namespace CodL
def yN : MethodName := ⟨"java/lang/StringUTF16", "coderFromArrayLen", "([BI)B"⟩
abbrev yB : ByteArray := jdk_52_method_15_code
theorem d0 : decode yB 0 = .ok (.iload_n 1, 1) := by decide +kernel
theorem d1 : decode yB 1 = .ok (.aload_n 0, 1) := by decide +kernel
theorem d2 : decode yB 2 = .ok (.arraylength, 1) := by decide +kernel
theorem d3 : decode yB 3 = .ok (.isub, 1) := by decide +kernel
theorem d4 : decode yB 4 = .ok (.bipush 31, 2) := by decide +kernel
theorem d6 : decode yB 6 = .ok (.iushr, 1) := by decide +kernel
theorem d7 : decode yB 7 = .ok (.i2b, 1) := by decide +kernel
theorem d8 : decode yB 8 = .ok (.ireturn, 1) := by decide +kernel
def site : List Cond := []
def tab : Cond := tabOf yN yB 2 (some .byte) site
def P (d : Addr) (B : Cell) (args : Array Value) (s : State) : Prop := args = #[.ref d, .int (Int32.ofNat B.slots.size)] ∧ Arr .byte d B s
def E (r : Option Value) (s u : State) : Prop := XT.PureE (some (.int 0)) r s u
/-- an array as long as the number of chars: LATIN1 -/
theorem law (l : Launch) (d : Addr) (B : Cell) : Law l yN 2 2 0 0 yB 2 (some .byte) site (P d B) E [] 0 0 := by
  refine Law.of_walk (plainFor_of_name (by decide +kernel)) (by decide +kernel) (by decide +kernel) (by decide) (fun _ _ h => by rw [h.1]; rfl) (fun _ U U' hal hh h => ⟨h.1, h.2.mv hal hh⟩) (fun r U U' V V' h1 hal h2 h => XT.PureE.mv r U U' V V' h1 hal h2 h) ?_
  intro p e s m args below meth c s₁ X0 hexec hbytes hml hret hlk hnm hown hh0 W hP
  obtain ⟨rfl, hB⟩ := hP
  have hB0 := hB.mv X0.warmed.alike hh0
  have c1 : Steps p.tables e below (s₁.setTop (entryFrame m #[.ref d, .int (Int32.ofNat B.slots.size)] 2)) (s₁.setTop (mkF m 0 #[.val (.ref d), .val (.int (Int32.ofNat B.slots.size))] [])) := entry rfl
  have c2 : Steps p.tables e below (s₁.setTop (entryFrame m #[.ref d, .int (Int32.ofNat B.slots.size)] 2)) (s₁.setTop (mkF m 2 #[.val (.ref d), .val (.int (Int32.ofNat B.slots.size))] [.ref d, .int (Int32.ofNat B.slots.size)])) := c1.trans (by
    refine XS.iloadN X0.here hexec rfl (hb hbytes d0) rfl ?_
    refine XS.aloadN X0.here hexec rfl (hb hbytes d1) rfl rfl ?_
    exact Steps.refl _)
  have c3 : Steps p.tables e below (s₁.setTop (entryFrame m #[.ref d, .int (Int32.ofNat B.slots.size)] 2)) (s₁.setTop (mkF m 8 #[.val (.ref d), .val (.int (Int32.ofNat B.slots.size))] [.int (lo8 (ushr (Int32.ofNat B.slots.size - Int32.ofNat B.slots.size) 31))])) := c2.trans (by
    refine X0.alen hexec hB0 rfl rfl (hb hbytes d2) ?_
    refine XS.isub X0.here hexec rfl (hb hbytes d3) rfl ?_
    refine bipushV X0.here hexec rfl 31 (hb hbytes d4) (by decide) ?_
    refine iushr X0.here hexec rfl (hb hbytes d6) rfl ?_
    refine i2b X0.here hexec rfl (hb hbytes d7) rfl ?_
    exact Steps.refl _)
  have e0 : lo8 (ushr (Int32.ofNat B.slots.size - Int32.ofNat B.slots.size) 31) = 0 := by rw [Int32.sub_self]; decide
  rw [e0] at c3
  exact ⟨s₁, some (.int 0), _, _, _, X0, rfl, rfl, rfl, (fun h => by cases h), ⟨rfl, hh0⟩, fun fs hl => c3.trans (X0.ireturnOut hexec hret rfl (Or.inr (Or.inr (Or.inl rfl))) (hb hbytes d8) hl)⟩
end CodL
/-- the String at a is Latin-1 over a new byte[] (the heap's one new cell): the low bytes of the len chars of A from o on; every cell but a is kept -/
def Got (a : Addr) (D : Cell) (fV fC : Field) (A : Cell) (o len : Nat) (r : Option Value) (s u : State) : Prop := r = none ∧ ∃ D' V : Cell, Blank "java/lang/String" a D' u ∧ Same D D' [fV.slot, fC.slot] ∧ D'.slots[fV.slot]? = some (.ref s.heap.size) ∧ D'.slots[fC.slot]? = some (.int 0) ∧ Arr .byte s.heap.size V u ∧ V.vm = .none ∧ u.vm.findClass "[B" = some V.cls ∧ V.slots.size = len ∧ (∀ j, j < len → V.slots[j]? = some (.int (lo8 (cv A (o + j))))) ∧ (∀ (y : Addr) (c : Cell), y ≠ a → s.heap[y]? = some c → u.heap[y]? = some c) ∧ u.heap.size = s.heap.size + 1
theorem Got.mv {a : Addr} {D A : Cell} {fV fC : Field} {o len : Nat} : ∀ r (U U' V V' : State), U'.heap = U.heap → V.vm.Alike V'.vm → V'.heap = V.heap → Got a D fV fC A o len r U V → Got a D fV fC A o len r U' V' :=
  fun r U U' V V' h1 hal h2 ⟨e0, D', X, a1, a2, a3, a4, a5, a6, a7, a8, a9, a10, a11⟩ => ⟨e0, D', X, a1.mv hal h2, a2, by rw [h1]; exact a3, a4, by rw [h1]; exact a5.mv hal h2, a6, by rw [hal.findClass]; exact a7, a8, a9, by rw [h1, h2]; exact a10, by rw [h1, h2]; exact a11⟩
namespace New4
def yN : MethodName := ⟨"java/lang/String", "<init>", "([CIILjava/lang/Void;)V"⟩
abbrev yB : ByteArray := jdk_42_method_149_code
theorem d0 : decode yB 0 = .ok (.aload_n 0, 1) := by decide +kernel
theorem d1 : decode yB 1 = .ok (.invokespecial 1, 3) := by decide +kernel
theorem d4 : decode yB 4 = .ok (.iload_n 3, 1) := by decide +kernel
theorem d5 : decode yB 5 = .ok (.ifCond (.ne) 22, 3) := by decide +kernel
theorem d27 : decode yB 27 = .ok (.getstatic 38, 3) := by decide +kernel
theorem d30 : decode yB 30 = .ok (.ifCond (.eq) 28, 3) := by decide +kernel
theorem d33 : decode yB 33 = .ok (.aload_n 1, 1) := by decide +kernel
theorem d34 : decode yB 34 = .ok (.iload_n 2, 1) := by decide +kernel
theorem d35 : decode yB 35 = .ok (.iload_n 3, 1) := by decide +kernel
theorem d36 : decode yB 36 = .ok (.invokestatic 177, 3) := by decide +kernel
theorem d39 : decode yB 39 = .ok (.astore 5, 2) := by decide +kernel
theorem d41 : decode yB 41 = .ok (.aload_n 0, 1) := by decide +kernel
theorem d42 : decode yB 42 = .ok (.aload 5, 2) := by decide +kernel
theorem d44 : decode yB 44 = .ok (.iload_n 3, 1) := by decide +kernel
theorem d45 : decode yB 45 = .ok (.invokestatic 47, 3) := by decide +kernel
theorem d48 : decode yB 48 = .ok (.putfield 15, 3) := by decide +kernel
theorem d51 : decode yB 51 = .ok (.aload_n 0, 1) := by decide +kernel
theorem d52 : decode yB 52 = .ok (.aload 5, 2) := by decide +kernel
theorem d54 : decode yB 54 = .ok (.putfield 9, 3) := by decide +kernel
theorem d57 : decode yB 57 = .ok (.return_, 1) := by decide +kernel
def site : List Cond := [.fieldLink "java/lang/String" 38 "java/lang/String" "COMPACT_STRINGS" "Z", Cmp3.tab, CodL.tab, .laysFinal "java/lang/String" "java/lang/String" "value" "[B", .fieldLink "java/lang/String" 9 "java/lang/String" "value" "[B", .laysFinal "java/lang/String" "java/lang/String" "coder" "B", .fieldLink "java/lang/String" 15 "java/lang/String" "coder" "B"] ++ objW "java/lang/String" 1 ++ staticW "java/lang/String" 177 Cmp3.yN ++ staticW "java/lang/String" 47 CodL.yN
def tab : Cond := tabOf yN yB 6 none site
def P (a : Addr) (D : Cell) (fV fC : Field) (b : Addr) (A : Cell) (z : Int32) (o len : Nat) (args : Array Value) (s : State) : Prop := args = #[.ref a, .ref b, .int (Int32.ofNat o), .int (Int32.ofNat len), .null] ∧ Blank "java/lang/String" a D s ∧ Found "java/lang/String" "value" "[B" fV s ∧ Found "java/lang/String" "coder" "B" fC s ∧ Ch b A s ∧ StaticIs s "java/lang/String" "COMPACT_STRINGS" "Z" (.int z) ∧ ¬ z = 0 ∧ 0 < len ∧ o + len ≤ A.slots.size ∧ len ≤ 536870912 ∧ ∀ i, i < len → ¬ 255 < cv A (o + i)
def E (a : Addr) (D : Cell) (fV fC : Field) (A : Cell) (o len : Nat) (r : Option Value) (s u : State) : Prop := Got a D fV fC A o len r s u
/-- len > 0, no char of the range above 255: a Latin-1 String of their low bytes -/
theorem law (l : Launch) (a : Addr) (D : Cell) (fV fC : Field) (b : Addr) (A : Cell) (z : Int32) (o len : Nat) : Law l yN 5 4 2 35 yB 6 none site (P a D fV fC b A z o len) (E a D fV fC A o len) [⟨a, fC.slot⟩, ⟨a, fV.slot⟩] 1 len := by
  refine Law.of_walk (plainFor_of_name (by decide +kernel)) (by decide +kernel) (by decide +kernel) (by decide) (fun _ _ h => by rw [h.1]; rfl) (fun _ U U' hal hh h => ⟨h.1, h.2.1.mv hal hh, h.2.2.1.al hal, h.2.2.2.1.al hal, h.2.2.2.2.1.mv hal hh, h.2.2.2.2.2.1.there hal hh, h.2.2.2.2.2.2⟩) (fun r U U' V V' h1 hal h2 h => Got.mv r U U' V V' h1 hal h2 h) ?_
  intro p e s m args below meth c s₁ X0 hexec hbytes hml hret hlk hnm hown hh0 W hP
  obtain ⟨rfl, hB, f1, f2, hA, s1, hz, l0, l1, l2, hp⟩ := hP
  have a31 := hA.1.2.2.2
  have c1 : Steps p.tables e below (s₁.setTop (entryFrame m #[.ref a, .ref b, .int (Int32.ofNat o), .int (Int32.ofNat len), .null] 6)) (s₁.setTop (mkF m 0 #[.val (.ref a), .val (.ref b), .val (.int (Int32.ofNat o)), .val (.int (Int32.ofNat len)), .val .null, .unset] [])) := entry rfl
  have c2 : Steps p.tables e below (s₁.setTop (entryFrame m #[.ref a, .ref b, .int (Int32.ofNat o), .int (Int32.ofNat len), .null] 6)) (s₁.setTop (mkF m 1 #[.val (.ref a), .val (.ref b), .val (.int (Int32.ofNat o)), .val (.int (Int32.ofNat len)), .val .null, .unset] [.ref a])) := c1.trans (by
    refine XS.aloadN X0.here hexec rfl (hb hbytes d0) rfl rfl ?_
    exact Steps.refl _)
  obtain ⟨T3, X3, q3, st3⟩ := X0.oinit hexec hown (wks W (objW "java/lang/String" 1)) (g := (mkF m 1 #[.val (.ref a), .val (.ref b), .val (.int (Int32.ofNat o)), .val (.int (Int32.ofNat len)), .val .null, .unset] [.ref a])) rfl (by rw [hml]; rfl) (rest := []) rfl (hb hbytes d1) (W := 0) (by show 2 * 0 + 0 ≤ _; decide) (Nat.le_of_ble_eq_true rfl) (Nat.le_of_ble_eq_true rfl)
  have hh3 := q3.trans hh0
  have c4 : Steps p.tables e below (s₁.setTop (entryFrame m #[.ref a, .ref b, .int (Int32.ofNat o), .int (Int32.ofNat len), .null] 6)) (T3.setTop (mkF m 27 #[.val (.ref a), .val (.ref b), .val (.int (Int32.ofNat o)), .val (.int (Int32.ofNat len)), .val .null, .unset] [])) := (c2.trans (st3 _ (Steps.refl _))).trans (by
    refine XS.iloadN X3.here hexec rfl (hb hbytes d4) rfl ?_
    refine XS.ifYes X3.here hexec rfl (pc0 := 5) rfl (hb hbytes d5) rfl (i0_ne_t (nz32 (by omega) l0)) (by decide) rfl ?_
    exact Steps.refl _)
  obtain ⟨T5, X5, q5, st5⟩ := X3.sget hexec hown (wk W (.fieldLink "java/lang/String" 38 "java/lang/String" "COMPACT_STRINGS" "Z")) s1 (fun _ _ h => by rw [hh3]; exact h) (g := (mkF m 27 #[.val (.ref a), .val (.ref b), .val (.int (Int32.ofNat o)), .val (.int (Int32.ofNat len)), .val .null, .unset] [])) rfl (hb hbytes d27)
  have hh5 := q5.trans hh3
  have c6 : Steps p.tables e below (s₁.setTop (entryFrame m #[.ref a, .ref b, .int (Int32.ofNat o), .int (Int32.ofNat len), .null] 6)) (T5.setTop (mkF m 30 #[.val (.ref a), .val (.ref b), .val (.int (Int32.ofNat o)), .val (.int (Int32.ofNat len)), .val .null, .unset] [.int z])) := c4.trans (st5 _ (Steps.refl _))
  have c7 : Steps p.tables e below (s₁.setTop (entryFrame m #[.ref a, .ref b, .int (Int32.ofNat o), .int (Int32.ofNat len), .null] 6)) (T5.setTop (mkF m 36 #[.val (.ref a), .val (.ref b), .val (.int (Int32.ofNat o)), .val (.int (Int32.ofNat len)), .val .null, .unset] [.int (Int32.ofNat len), .int (Int32.ofNat o), .ref b])) := c6.trans (by
    refine XS.ifNo X5.here hexec rfl (hb hbytes d30) rfl (i0_eq_f hz) ?_
    refine XS.aloadN X5.here hexec rfl (hb hbytes d33) rfl rfl ?_
    refine XS.iloadN X5.here hexec rfl (hb hbytes d34) rfl ?_
    refine XS.iloadN X5.here hexec rfl (hb hbytes d35) rfl ?_
    exact Steps.refl _)
  obtain ⟨v8, T8, X8, E8, g8⟩ := X5.callS hexec (Cmp3.law l b A o len) hown (wks W (staticW "java/lang/String" 177 Cmp3.yN)) (wk W Cmp3.tab) (W := 0) (Nat.le_of_ble_eq_true rfl) (Nat.le_of_ble_eq_true rfl) (Nat.le_refl _) (by show 0 + len ≤ len; omega) (g := (mkF m 36 #[.val (.ref a), .val (.ref b), .val (.int (Int32.ofNat o)), .val (.int (Int32.ofNat len)), .val .null, .unset] [.int (Int32.ofNat len), .int (Int32.ofNat o), .ref b])) rfl (by rw [hml]; rfl) c7 (argsL := [.ref b, .int (Int32.ofNat o), .int (Int32.ofNat len)]) (rest := []) rfl rfl (by show 2 * 0 + 0 ≤ _; decide) (hb hbytes d36) (⟨rfl, hA.mv X5.warmed.alike hh5, l1, l2, hp⟩)
  obtain ⟨e8, z8⟩ := E8
  obtain ⟨rfl, N, n1, n2, n3, n4, n5, n6⟩ := NewArr.mv _ T5 s _ _ hh5.symm (Vm.Alike.refl _) rfl e8
  rw [hh5] at z8
  have hB1 := hB.keep X8.warmed.alike (n6 _ _ hB.1)
  have hne : s.heap.size ≠ a := (Nat.ne_of_lt (Array.getElem?_eq_some_iff.mp hB.1).1).symm
  have c9 : Steps p.tables e below (s₁.setTop (entryFrame m #[.ref a, .ref b, .int (Int32.ofNat o), .int (Int32.ofNat len), .null] 6)) (T8.setTop (mkF m 39 #[.val (.ref a), .val (.ref b), .val (.int (Int32.ofNat o)), .val (.int (Int32.ofNat len)), .val .null, .unset] [.ref s.heap.size])) := g8
  have c10 : Steps p.tables e below (s₁.setTop (entryFrame m #[.ref a, .ref b, .int (Int32.ofNat o), .int (Int32.ofNat len), .null] 6)) (T8.setTop (mkF m 45 #[.val (.ref a), .val (.ref b), .val (.int (Int32.ofNat o)), .val (.int (Int32.ofNat len)), .val .null, .val (.ref s.heap.size)] [.int (Int32.ofNat N.slots.size), .ref s.heap.size, .ref a])) := by
    have hc : Steps p.tables e below (s₁.setTop (entryFrame m #[.ref a, .ref b, .int (Int32.ofNat o), .int (Int32.ofNat len), .null] 6)) (T8.setTop (mkF m 45 #[.val (.ref a), .val (.ref b), .val (.int (Int32.ofNat o)), .val (.int (Int32.ofNat len)), .val .null, .val (.ref s.heap.size)] [.int (Int32.ofNat len), .ref s.heap.size, .ref a])) := c9.trans (by
      refine XS.astore X8.here hexec rfl (hb hbytes d39) rfl rfl rfl ?_
      refine XS.aloadN X8.here hexec rfl (hb hbytes d41) rfl rfl ?_
      refine XS.aload X8.here hexec rfl (hb hbytes d42) rfl rfl ?_
      refine XS.iloadN X8.here hexec rfl (hb hbytes d44) rfl ?_
      exact Steps.refl _)
    rw [n4]; exact hc
  obtain ⟨v11, T11, X11, E11, g11⟩ := X8.callS hexec (CodL.law l s.heap.size N) hown (wks W (staticW "java/lang/String" 47 CodL.yN)) (wk W CodL.tab) (W := 1) (Nat.le_of_ble_eq_true rfl) (Nat.le_of_ble_eq_true rfl) (Nat.le_refl _) (by show 0 + len + 0 ≤ len; omega) (g := (mkF m 45 #[.val (.ref a), .val (.ref b), .val (.int (Int32.ofNat o)), .val (.int (Int32.ofNat len)), .val .null, .val (.ref s.heap.size)] [.int (Int32.ofNat N.slots.size), .ref s.heap.size, .ref a])) rfl (by rw [hml]; rfl) c10 (argsL := [.ref s.heap.size, .int (Int32.ofNat N.slots.size)]) (rest := [.ref a]) rfl rfl (by show 2 * 0 + (1 + 0) ≤ _; decide) (hb hbytes d45) (⟨rfl, n1⟩)
  obtain ⟨rfl, q11⟩ := E11
  have hB11 := hB1.mv (X8.warmed.alike.symm.trans X11.warmed.alike) q11
  have c12 : Steps p.tables e below (s₁.setTop (entryFrame m #[.ref a, .ref b, .int (Int32.ofNat o), .int (Int32.ofNat len), .null] 6)) (T11.setTop (mkF m 48 #[.val (.ref a), .val (.ref b), .val (.int (Int32.ofNat o)), .val (.int (Int32.ofNat len)), .val .null, .val (.ref s.heap.size)] [.int 0, .ref a])) := g11
  obtain ⟨T13, X13, p13, bl13, sl13, st13⟩ := X11.finit hexec hown (wk W (.fieldLink "java/lang/String" 15 "java/lang/String" "coder" "B")) (Or.inr ⟨_, (wk W (.laysFinal "java/lang/String" "java/lang/String" "coder" "B"))⟩) (Or.inl ⟨rfl, hnm⟩) f2 (Or.inl rfl) hB11 (t := .byte) (by decide +kernel) rfl (g := (mkF m 48 #[.val (.ref a), .val (.ref b), .val (.int (Int32.ofNat o)), .val (.int (Int32.ofNat len)), .val .null, .val (.ref s.heap.size)] [.int 0, .ref a])) rfl (rest := []) rfl (hb hbytes d48)
  have c14 : Steps p.tables e below (s₁.setTop (entryFrame m #[.ref a, .ref b, .int (Int32.ofNat o), .int (Int32.ofNat len), .null] 6)) (T13.setTop (mkF m 54 #[.val (.ref a), .val (.ref b), .val (.int (Int32.ofNat o)), .val (.int (Int32.ofNat len)), .val .null, .val (.ref s.heap.size)] [.ref s.heap.size, .ref a])) := (c12.trans (st13 _ (Steps.refl _))).trans (by
    refine XS.aloadN X13.here hexec rfl (hb hbytes d51) rfl rfl ?_
    refine XS.aload X13.here hexec rfl (hb hbytes d52) rfl rfl ?_
    exact Steps.refl _)
  obtain ⟨T15, X15, p15, bl15, sl15, st15⟩ := X13.finit hexec hown (wk W (.fieldLink "java/lang/String" 9 "java/lang/String" "value" "[B")) (Or.inr ⟨_, (wk W (.laysFinal "java/lang/String" "java/lang/String" "value" "[B"))⟩) (Or.inl ⟨rfl, hnm⟩) f1 (Or.inl rfl) bl13 (t := (.array .byte)) (by decide +kernel) rfl (g := (mkF m 54 #[.val (.ref a), .val (.ref b), .val (.int (Int32.ofNat o)), .val (.int (Int32.ofNat len)), .val .null, .val (.ref s.heap.size)] [.ref s.heap.size, .ref a])) rfl (rest := []) rfl (hb hbytes d54)
  have c16 : Steps p.tables e below (s₁.setTop (entryFrame m #[.ref a, .ref b, .int (Int32.ofNat o), .int (Int32.ofNat len), .null] 6)) (T15.setTop (mkF m 57 #[.val (.ref a), .val (.ref b), .val (.int (Int32.ofNat o)), .val (.int (Int32.ofNat len)), .val .null, .val (.ref s.heap.size)] [])) := c14.trans (st15 _ (Steps.refl _))
  have ap := apart (Or.inr ⟨_, (wk W (.laysFinal "java/lang/String" "java/lang/String" "value" "[B"))⟩) (Or.inr ⟨_, (wk W (.laysFinal "java/lang/String" "java/lang/String" "coder" "B"))⟩) f1 f2 (t₁ := .array .byte) (t₂ := .byte) (by decide +kernel) (by decide +kernel) (by decide)
  have al := X8.warmed.alike.symm.trans X15.warmed.alike
  have n7 : T11.heap[s.heap.size]? = some N := by rw [q11]; exact n1.1
  exact ⟨T15, none, _, _, _, X15, by simp, rfl, by omega, (fun _ => rfl), ⟨rfl, _, N, bl15, ((Same.refl D _).set _ (by simp)).set _ (by simp), sl15, (Cell.slots_setSlot_ne _ ap).trans sl13, n1.keep al (p15.other hne (p13.other hne n7)), n2, by rw [al.findClass]; exact n3, n4, n5, fun y c h1 h2 => p15.other h1 (p13.other h1 (by rw [q11]; exact n6 y c h2)), by rw [p15.2.2, p13.2.2, q11]; exact z8⟩, fun fs hl => c16.trans (X15.returnOut hexec hret (hb hbytes d57) hl)⟩
end New4
namespace New1
def yN : MethodName := ⟨"java/lang/String", "<init>", "([C)V"⟩
abbrev yB : ByteArray := jdk_42_method_3_code
theorem d0 : decode yB 0 = .ok (.aload_n 0, 1) := by decide +kernel
theorem d1 : decode yB 1 = .ok (.aload_n 1, 1) := by decide +kernel
theorem d2 : decode yB 2 = .ok (.iconst 0, 1) := by decide +kernel
theorem d3 : decode yB 3 = .ok (.aload_n 1, 1) := by decide +kernel
theorem d4 : decode yB 4 = .ok (.arraylength, 1) := by decide +kernel
theorem d5 : decode yB 5 = .ok (.aconst_null, 1) := by decide +kernel
theorem d6 : decode yB 6 = .ok (.invokespecial 27, 3) := by decide +kernel
theorem d9 : decode yB 9 = .ok (.return_, 1) := by decide +kernel
def site : List Cond := [New4.tab] ++ initW "java/lang/String" 27 New4.yN
def tab : Cond := tabOf yN yB 2 none site
def P (a : Addr) (D : Cell) (fV fC : Field) (b : Addr) (A : Cell) (z : Int32) (args : Array Value) (s : State) : Prop := args = #[.ref a, .ref b] ∧ Blank "java/lang/String" a D s ∧ Found "java/lang/String" "value" "[B" fV s ∧ Found "java/lang/String" "coder" "B" fC s ∧ Ch b A s ∧ StaticIs s "java/lang/String" "COMPACT_STRINGS" "Z" (.int z) ∧ ¬ z = 0 ∧ 0 < A.slots.size ∧ A.slots.size ≤ 536870912 ∧ ∀ i, i < A.slots.size → ¬ 255 < cv A i
def E (a : Addr) (D : Cell) (fV fC : Field) (A : Cell) (r : Option Value) (s u : State) : Prop := Got a D fV fC A 0 A.slots.size r s u
/-- new String(chars), not empty, no char above 255: a Latin-1 String of their low bytes -/
theorem law (l : Launch) (a : Addr) (D : Cell) (fV fC : Field) (b : Addr) (A : Cell) (z : Int32) : Law l yN 2 1 3 52 yB 2 none site (P a D fV fC b A z) (E a D fV fC A) [⟨a, fC.slot⟩, ⟨a, fV.slot⟩] 1 A.slots.size := by
  refine Law.of_walk (plainFor_of_name (by decide +kernel)) (by decide +kernel) (by decide +kernel) (by decide) (fun _ _ h => by rw [h.1]; rfl) (fun _ U U' hal hh h => ⟨h.1, h.2.1.mv hal hh, h.2.2.1.al hal, h.2.2.2.1.al hal, h.2.2.2.2.1.mv hal hh, h.2.2.2.2.2.1.there hal hh, h.2.2.2.2.2.2⟩) (fun r U U' V V' h1 hal h2 h => Got.mv r U U' V V' h1 hal h2 h) ?_
  intro p e s m args below meth c s₁ X0 hexec hbytes hml hret hlk hnm hown hh0 W hP
  obtain ⟨rfl, hB, f1, f2, hA, s1, hz, l0, l2, hp⟩ := hP
  have c1 : Steps p.tables e below (s₁.setTop (entryFrame m #[.ref a, .ref b] 2)) (s₁.setTop (mkF m 0 #[.val (.ref a), .val (.ref b)] [])) := entry rfl
  have c2 : Steps p.tables e below (s₁.setTop (entryFrame m #[.ref a, .ref b] 2)) (s₁.setTop (mkF m 6 #[.val (.ref a), .val (.ref b)] [.null, .int (Int32.ofNat A.slots.size), .int 0, .ref b, .ref a])) := c1.trans (by
    refine XS.aloadN X0.here hexec rfl (hb hbytes d0) rfl rfl ?_
    refine XS.aloadN X0.here hexec rfl (hb hbytes d1) rfl rfl ?_
    refine iconstV X0.here hexec rfl 0 (hb hbytes d2) (by decide) ?_
    refine XS.aloadN X0.here hexec rfl (hb hbytes d3) rfl rfl ?_
    refine X0.alen hexec (hA.1.mv X0.warmed.alike hh0) rfl rfl (hb hbytes d4) ?_
    refine XS.aconstNull X0.here hexec rfl (hb hbytes d5) ?_
    exact Steps.refl _)
  obtain ⟨v3, T3, X3, E3, g3⟩ := X0.callN hexec (New4.law l a D fV fC b A z 0 A.slots.size) rfl hown (wks W (initW "java/lang/String" 27 New4.yN)) (W New4.tab (by simp only [site, List.mem_cons, List.mem_append, true_or, or_true])) (W := 0) (Nat.le_of_ble_eq_true rfl) (Nat.le_of_ble_eq_true rfl) (Nat.le_refl _) (by show 0 + A.slots.size ≤ A.slots.size; omega) (g := (mkF m 6 #[.val (.ref a), .val (.ref b)] [.null, .int (Int32.ofNat A.slots.size), .int (Int32.ofNat 0), .ref b, .ref a])) rfl (by rw [hml]; rfl) c2 (argsL := [.ref b, .int (Int32.ofNat 0), .int (Int32.ofNat A.slots.size), .null]) (rest := []) rfl rfl (by show 2 * 0 + 0 ≤ _; decide) (hb hbytes d6) (⟨rfl, hB.mv X0.warmed.alike hh0, f1.al X0.warmed.alike, f2.al X0.warmed.alike, hA.mv X0.warmed.alike hh0, s1.there X0.warmed.alike hh0, hz, l0, by omega, l2, fun i hi => by rw [Nat.zero_add]; exact hp i hi⟩)
  have e0 := Got.mv _ s₁ s _ _ hh0.symm (Vm.Alike.refl _) rfl E3
  obtain rfl := e0.1
  have c4 : Steps p.tables e below (s₁.setTop (entryFrame m #[.ref a, .ref b] 2)) (T3.setTop (mkF m 9 #[.val (.ref a), .val (.ref b)] [])) := g3
  exact ⟨T3, none, _, _, _, X3, by simp, rfl, by omega, (fun _ => rfl), e0, fun fs hl => c4.trans (X3.returnOut hexec hret (hb hbytes d9) hl)⟩
theorem pays {l : Launch} {R : Room} {p : Program} {e : Env} {below : List Frame} {s : State} {sargs : Array Value} {len W : Nat} (a : Addr) (D : Cell) (fV fC : Field) (b : Addr) (A : Cell) (z : Int32) (htab : tab.before sargs s = true) (hfr : 4 ≤ R.frames) (hlo : W + 65 ≤ R.locals) :
    Back l R p e below s sargs yN len W (fun A₁ a₁ => A₁.cells + 1 ≤ R.cells ∧ A₁.slots + A.slots.size ≤ R.slots ∧ P a D fV fC b A z a₁ A₁.U) (fun A₁ _ v₁ B₁ => E a D fV fC A v₁ A₁.U B₁.U ∧ B₁.locs = A₁.locs ++ [⟨a, fC.slot⟩, ⟨a, fV.slot⟩] ∧ B₁.cells = A₁.cells + 1 ∧ B₁.slots = A₁.slots + A.slots.size) :=
  (law l a D fV fC b A z).pays htab hfr (by omega)
end New1
/-- the byte, read back as charAt reads it, is the char -/
theorem lo8_mask {x : Int32} (h0 : ¬ x < 0) (h1 : ¬ 255 < x) : lo8 x &&& 255 = x := by
  have t : ∀ k : Fin 256, lo8 (Int32.ofNat k.val) &&& 255 = Int32.ofNat k.val := by decide +kernel
  rw [Int32.lt_iff_toInt_lt] at h0 h1
  have e0 : (0 : Int32).toInt = 0 := rfl
  have e1 : (255 : Int32).toInt = 255 := rfl
  obtain ⟨k, hk⟩ : ∃ k : Nat, x.toInt = k := ⟨x.toInt.toNat, by omega⟩
  have hx : x = Int32.ofNat k := Int32.toInt_inj.mp (by rw [hk, Int32.toInt_ofNat_small (by omega)])
  rw [hx]
  exact t ⟨k, by omega⟩
end StrChars
namespace StrChars.Road
open Jvm Sem ClassFile Op Lib Jvm.Stand Jvm.Free Jvm.Free.XT
open Jvm.Lib.Cold (StaticIs)
abbrev ST : String := "java/lang/String"
/-- every table word that New1's law asks, flat -/
abbrev words : List Jvm.Cond := [.code New1.yN New1.yB 2 none, .initialized ST, .methodLink ST 27 New4.yN, .instanceMethod New4.yN,
  .code New4.yN New4.yB 6 none, .fieldLink ST 38 ST "COMPACT_STRINGS" "Z", .laysFinal ST ST "value" "[B", .fieldLink ST 9 ST "value" "[B", .laysFinal ST ST "coder" "B", .fieldLink ST 15 ST "coder" "B",
  .methodLink ST 1 Lib.objectInit, .instanceMethod Lib.objectInit, .code Lib.objectInit ⟨#[0xb1]⟩ 1 none, .methodLink ST 177 Cmp3.yN, .static Cmp3.yN, .methodLink ST 47 CodL.yN, .static CodL.yN,
  .code Cmp3.yN Cmp3.yB 6 (some (.array .byte)), .initialized U16, .arrayClass .byte, .methodLink U16 115 Cmp5.yN, .static Cmp5.yN, .code Cmp5.yN Cmp5.yB 7 (some .int), .code CodL.yN CodL.yB 2 (some .byte)]
theorem tab_of {a : Array Value} {s : State} (h : ∀ w ∈ words, w.before a s = true) : New1.tab.before a s = true := by
  have h5 : Cmp5.tab.before a s = true := unparts (wk h (.code Cmp5.yN Cmp5.yB 7 (some .int))) (wks h (.initialized Cmp5.yN.cls :: Cmp5.site))
  have hc : CodL.tab.before a s = true := unparts (wk h (.code CodL.yN CodL.yB 2 (some .byte))) (wks h (.initialized CodL.yN.cls :: CodL.site))
  have q5 : ∀ w ∈ Cmp5.tab :: words, w.before a s = true := fun w hw => (List.mem_cons.mp hw).elim (fun e => e ▸ h5) (h w)
  have h3 : Cmp3.tab.before a s = true := unparts (wk q5 (.code Cmp3.yN Cmp3.yB 6 (some (.array .byte)))) (wks q5 (.initialized Cmp3.yN.cls :: Cmp3.site))
  have q3 : ∀ w ∈ Cmp3.tab :: CodL.tab :: words, w.before a s = true := fun w hw => (List.mem_cons.mp hw).elim (fun e => e ▸ h3) fun hw => (List.mem_cons.mp hw).elim (fun e => e ▸ hc) (h w)
  have h4 : New4.tab.before a s = true := unparts (wk q3 (.code New4.yN New4.yB 6 none)) (wks q3 (.initialized New4.yN.cls :: New4.site))
  have q4 : ∀ w ∈ New4.tab :: words, w.before a s = true := fun w hw => (List.mem_cons.mp hw).elim (fun e => e ▸ h4) (h w)
  exact unparts (wk q4 (.code New1.yN New1.yB 2 none)) (wks q4 (.initialized New1.yN.cls :: New1.site))
/-- the words ride from the start Z to the walk's own state -/
theorem moved {Z s : State} {a0 args : Array Value} (hZ : Z.Warmed39 s.vm) (hw : ∀ d ∈ words, d.before a0 Z = true) : ∀ d ∈ words, d.before args s = true := fun d hd => by
  have q := hw d hd
  have t : ∀ d ∈ words, d = .arrayClass .byte ∨ (d.onTables && d.keepsFace) = true := by decide +kernel
  rcases t d hd with rfl | t
  · exact RoadKit.mvA hZ q
  · exact RoadKit.mv hZ q t
/-- WHAT COMES BACK, over the tables of the start Z: h the heap at the call, h' behind it -/
def Q (Z : State) (x : Addr) (A : Cell) (h : Heap) (v : Option Value) (h' : Heap) (L : List Loc) : Prop := v = none ∧ (∀ y ∈ L, y.base = x) ∧ RoadKit.Keep h h' [x] ∧ h'.size = h.size + 1 ∧ RoadKit.Exa Z h' x ST ∧ RoadKit.Fld Z h' x ST "value" "[B" (.ref h.size) ∧ RoadKit.Fld Z h' x ST "coder" "B" (.int 0) ∧
  (∃ V : Cell, RoadKit.Arr Z h' h.size V .byte ∧ V.vm = .none ∧ Z.vm.findClass "[B" = some V.cls ∧ V.slots.size = A.slots.size ∧ ∀ j, j < A.slots.size → V.slots[j]? = some (.int (lo8 (cv A j)))) ∧
  ∀ (O n d : String) (w : Value), RoadKit.Fld Z h x O n d w → RoadKit.slotOf Z O n d ≠ RoadKit.slotOf Z ST "value" "[B" → RoadKit.slotOf Z O n d ≠ RoadKit.slotOf Z ST "coder" "B" → RoadKit.Fld Z h' x O n d w
/-- **new String(chars) AT A CALL, IN THE ROAD'S FORM**: for specialBack behind newO: x the fresh String, b the char[] with the cell A -/
theorem back {p : Program} {l : Launch} {e : Env} {R : Room} {s : State} {args : Array Value} {below : List Frame} {len W : Nat} {Z : State} {a0 : Array Value} {h : Heap} (hZ : Z.Warmed39 s.vm) (hw : ∀ d ∈ words, d.before a0 Z = true) {kI : Nat} (wi : (Jvm.Cond.instantiable ST kI).before a0 Z = true)
    {x b : Addr} {A : Cell} {z : Int32} {v0 c0 : Value} (E : RoadKit.Exa Z h x ST) (V : RoadKit.Fld Z h x ST "value" "[B" v0) (C : RoadKit.Fld Z h x ST "coder" "B" c0) (K : RoadKit.Arr Z h b A .char) (hty : Typed .char A) (S : RoadKit.Sta Z h ST "COMPACT_STRINGS" "Z" (.int z)) (hz : ¬ z = 0)
    (l0 : 0 < A.slots.size) (l2 : A.slots.size ≤ 536870912) (hp : ∀ i, i < A.slots.size → ¬ 255 < cv A i) (hfr : 4 ≤ R.frames) (hlo : W + 65 ≤ R.locals) :
    Back l R p e below s args New1.yN len W (fun P a => a = #[.ref x, .ref b] ∧ P.U.heap = h ∧ P.cells + 1 ≤ R.cells ∧ P.slots + A.slots.size ≤ R.slots)
      (fun P _ v B => ∃ L, Q Z x A h v B.U.heap L ∧ B.locs = P.locs ++ L ∧ B.cells = P.cells + 1 ∧ B.slots = P.slots + A.slots.size) := by
  intro m meth c P g ig mk a X hg hsize hdg hW hn hp'
  obtain ⟨rfl, rfl, r1, r2⟩ := hp'
  have al : Z.vm.Alike P.U.vm := hZ.alike.trans X.warmed.alike
  obtain ⟨D, cfV, kV, iV, fV, hD, gV, stV, knV, obV, asV, slV⟩ := id V
  obtain ⟨D', cfC, kC, iC, fC, hD', gC, stC, -, -, asC, slC⟩ := id C
  cases hD.symm.trans hD'
  obtain ⟨D2, kD, e1, e2, e3, e4, e5⟩ := id E
  cases hD.symm.trans e1
  obtain ⟨c2, k2, i1, i2, i3, -⟩ := Cond.instantiable_spec wi
  cases e2.symm.trans i1
  cases e3.symm.trans i2
  obtain ⟨kU, u1, u2⟩ := al.2.2 _ _ e3
  have hB : Blank ST x D P.U := ⟨hD, ⟨knV, fun q hq => by rw [hq] at obV; cases obV⟩, by rw [al.findClass]; exact e2, kU, u1, by rw [u2]; exact i3, by rw [u2]; exact e5 i3⟩
  have F1 : Found ST "value" "[B" fV P.U := ⟨SBG.found_only al ⟨cfV, kV, iV, gV⟩, stV⟩
  have F2 : Found ST "coder" "B" fC P.U := ⟨SBG.found_only al ⟨cfC, kC, iC, gC⟩, stC⟩
  have hA : Ch b A P.U := ⟨⟨K.1, State.isArrayOf_alike al K.2.1, K.2.2, by omega⟩, hty⟩
  have hS : StaticIs P.U ST "COMPACT_STRINGS" "Z" (.int z) := by
    obtain ⟨cfS, iS, kS, fS, st, cS, t1, t2, t3, t4, t5, t6, t7⟩ := S
    exact StaticIs.there (s := { Z with heap := P.U.heap }) ⟨cfS, iS, kS, fS, st, cS, t1, t2, t3, t4, t5, (fun q => by rw [q] at t6; cases t6), t7⟩ al rfl
  obtain ⟨v, B, X', ⟨⟨hv, E', V', q1, q2, q3, q4, q5, q6, q7, q8, q9, q10, q11⟩, hl, hc, hs⟩, st⟩ := New1.pays x D fV fC b A z (tab_of (moved hZ hw)) hfr hlo m meth c P g ig mk _ X hg hsize hdg hW hn ⟨r1, r2, rfl, hB, F1, F2, hA, hS, hz, l0, l2, hp⟩
  have al' : Z.vm.Alike B.U.vm := hZ.alike.trans X'.warmed.alike
  have hsz : E'.slots.size = D.slots.size := by
    obtain ⟨-, -, -, kB, w1, w2, w3⟩ := q1
    obtain ⟨kB', y1, y2⟩ := al'.2.2 _ _ e3
    rw [q2.2.1] at w1
    cases w1.symm.trans y1
    rw [w3, e5 i3, y2]
  refine ⟨v, B, X', ⟨_, ⟨hv, ?_, ⟨by omega, fun y cy hy hn' => q10 y cy (by simpa using hn') hy, fun y cy hy => ?_⟩, q11, ⟨E', _, q1.1, by rw [q2.2.1]; exact e2, by rw [q2.2.1]; exact e3, by rw [q2.1]; exact obV, fun _ => by rw [hsz]; exact e5 i3⟩,
    ⟨E', cfV, kV, iV, fV, q1.1, gV, stV, by rw [q2.1]; exact knV, by rw [q2.1]; exact obV, by rw [q2.2.1]; exact asV, q3⟩, ⟨E', cfC, kC, iC, fC, q1.1, gC, stC, by rw [q2.1]; exact knV, by rw [q2.1]; exact obV, by rw [q2.2.1]; exact asC, q4⟩,
    ⟨V', ⟨q5.1, State.isArrayOf_alike al'.symm q5.2.1, q5.2.2.1⟩, q6, by rw [← al'.findClass]; exact q7, q8, fun j hj => by have := q9 j hj; rwa [Nat.zero_add] at this⟩, fun O n d w F n1 n2 => ?_⟩, hl, hc, hs⟩, st⟩
  · intro y hy
    simp only [List.mem_cons, List.not_mem_nil, or_false] at hy
    rcases hy with rfl | rfl <;> rfl
  · by_cases q : y = x
    · subst q
      cases hD.symm.trans hy
      exact ⟨E', q1.1, q2.2.1, q2.1, hsz⟩
    · exact ⟨cy, q10 y cy q hy, rfl, rfl, rfl⟩
  · obtain ⟨D3, cf, k, i, f, g1, g2, g3, g4, g5, g6, g7⟩ := F
    cases hD.symm.trans g1
    simp only [RoadKit.slotOf, g2, gV, gC, Option.map_some, Option.getD_some] at n1 n2
    exact ⟨E', cf, k, i, f, q1.1, g2, g3, by rw [q2.1]; exact g4, by rw [q2.1]; exact g5, by rw [q2.2.1]; exact g6, by rw [q2.2.2 f.slot (by simp [n1, n2])]; exact g7⟩
end StrChars.Road
namespace StrChars.Road
open Jvm Sem ClassFile Op Lib Jvm.Stand Jvm.Free Jvm.Free.XT
/-- WHAT COMES BACK, the byte[] as a list of values -/
def QA (Z : State) (x : Addr) (zn : Int32) (cs : List Int32) (h : Heap) (v : Option Value) (h' : Heap) (L : List Loc) : Prop := v = none ∧ (∀ y ∈ L, y.base = x) ∧ RoadKit.Keep h h' [x] ∧ h'.size = h.size + 1 ∧ RoadKit.Exa Z h' x ST ∧ RoadKit.Fld Z h' x ST "value" "[B" (.ref h.size) ∧ RoadKit.Fld Z h' x ST "coder" "B" (.int 0) ∧
  (∃ kb, Z.vm.findClass "[B" = some kb ∧ RoadKit.Arv Z h' h.size kb .byte zn (cs.map fun c => .int (lo8 c)) (.int 0)) ∧
  ∀ (O n d : String) (w : Value), RoadKit.Fld Z h x O n d w → RoadKit.slotOf Z O n d ≠ RoadKit.slotOf Z ST "value" "[B" → RoadKit.slotOf Z O n d ≠ RoadKit.slotOf Z ST "coder" "B" → RoadKit.Fld Z h' x O n d w
/-- **new String(chars) AT A CALL, THE ARRAYS AS LISTS**: the char[] at b holds cs, not empty, no char above 255 -/
theorem backArv {p : Program} {l : Launch} {e : Env} {R : Room} {s : State} {args : Array Value} {below : List Frame} {len W : Nat} {Z : State} {a0 : Array Value} {h : Heap} (hZ : Z.Warmed39 s.vm) (hw : ∀ d ∈ words, d.before a0 Z = true) {kI : Nat} (wi : (Jvm.Cond.instantiable ST kI).before a0 Z = true)
    {x b : Addr} {k : ClassId} {zn z : Int32} {cs : List Int32} {dv v0 c0 : Value} (E : RoadKit.Exa Z h x ST) (V : RoadKit.Fld Z h x ST "value" "[B" v0) (C : RoadKit.Fld Z h x ST "coder" "B" c0) (K : RoadKit.Arv Z h b k .char zn (cs.map Value.int) dv) (S : RoadKit.Sta Z h ST "COMPACT_STRINGS" "Z" (.int z)) (hz : ¬ z = 0)
    (hlen : zn.toNatClampNeg = cs.length) (h0 : 0 < cs.length) (hbig : cs.length ≤ 536870912) (hall : ∀ c ∈ cs, ¬ 255 < c) (hfr : 4 ≤ R.frames) (hlo : W + 65 ≤ R.locals) :
    Back l R p e below s args New1.yN len W (fun P a => a = #[.ref x, .ref b] ∧ P.U.heap = h ∧ P.cells + 1 ≤ R.cells ∧ P.slots + cs.length ≤ R.slots)
      (fun P _ v B => ∃ L, QA Z x zn cs h v B.U.heap L ∧ B.locs = P.locs ++ L ∧ B.cells = P.cells + 1 ∧ B.slots = P.slots + cs.length) := by
  obtain ⟨A, K1, K2, K3, K4, K5, K6⟩ := K
  have e : A.slots.size = cs.length := K3.trans hlen
  have hat : ∀ (i : Nat) (hi : i < cs.length), A.slots[i]? = some (.int cs[i]) := fun i hi => by rw [K5 i (by omega)]; simp [List.getD_eq_getElem?_getD, hi]
  have hcv : ∀ (i : Nat) (hi : i < cs.length), cv A i = cs[i] := fun i hi => by unfold cv; rw [hat i hi]
  have hty : Typed .char A := fun i v hv => by
    have hi : i < A.slots.size := (Array.getElem?_eq_some_iff.mp hv).1
    have q := K5 i hi
    rw [hv] at q
    rw [Option.some.inj q]
    exact K6 i hi
  refine Back.mono (back hZ hw wi E V C K1 hty S hz (by omega) (by omega) (fun i hi => by rw [hcv i (by omega)]; exact hall _ (List.getElem_mem _)) hfr hlo) (fun P a hp => ⟨hp.1, hp.2.1, hp.2.2.1, by rw [e]; exact hp.2.2.2⟩) (fun P a v B hp hq => ?_)
  obtain ⟨L, ⟨q1, q2, q3, q4, q5, q6, q7, ⟨V', v1, v2, v3, v4, v5⟩, q9⟩, hl, hc, hs⟩ := hq
  refine ⟨L, ⟨q1, q2, q3, q4, q5, q6, q7, ⟨V'.cls, v3, V', v1, rfl, by rw [v4, e, hlen], K4, fun i hi => ?_, fun i hi => ?_⟩, q9⟩, hl, hc, by rw [hs, e]⟩
  · have hi' : i < cs.length := by omega
    rw [v5 i (by omega), hcv i hi']; simp [List.getD_eq_getElem?_getD, hi']
  · have hi' : i < cs.length := by omega
    simp only [List.getD_eq_getElem?_getD, List.getElem?_map, List.getElem?_eq_getElem hi', Option.map_some, Option.getD_some]
    exact fits_lo8 _
end StrChars.Road
namespace StrChars.Road
open Jvm Sem ClassFile Op Lib Jvm.Stand Jvm.Free Jvm.Free.XT
/-- WHAT COMES BACK, in the writer's own shape -/
def QV (Z : State) (x : Addr) (N : Int32) (bs : List Int32) (h : Heap) (n0 : Nat) (v : Option Value) (h' : Heap) (L : List Loc) : Prop := v = none ∧ RoadKit.Fr n0 L ∧ RoadKit.Keep h h' [x] ∧ RoadKit.Exa Z h' x ST ∧ RoadKit.Fld Z h' x ST "coder" "B" (.int 0) ∧
  ∃ (t : Addr) (kb : ClassId), n0 ≤ t ∧ h.size ≤ t ∧ ¬ t = x ∧ RoadKit.Fld Z h' x ST "value" "[B" (.ref t) ∧ RoadKit.Arv Z h' t kb .byte N (bs.map Value.int) (.int 0)
/-- **new String(chars) AT A CALL, FOR THE WRITER**: a char[] of n known ints, each 0 to 255 -/
theorem backV {p : Program} {l : Launch} {e : Env} {R : Room} {s : State} {args : Array Value} {below : List Frame} {len W : Nat} {Z : State} {a0 : Array Value} {h : Heap} (hZ : Z.Warmed39 s.vm) (hw : ∀ d ∈ words, d.before a0 Z = true) {kI : Nat} (wi : (Jvm.Cond.instantiable ST kI).before a0 Z = true)
    {x b : Addr} {kC : ClassId} {cs bs : List Int32} {d v0 c0 : Value} {z N : Int32} {n n0 : Nat} (hx0 : n0 ≤ x) (hh0 : n0 ≤ h.size) (E : RoadKit.Exa Z h x ST) (V : RoadKit.Fld Z h x ST "value" "[B" v0) (C : RoadKit.Fld Z h x ST "coder" "B" c0) (K : RoadKit.Arv Z h b kC .char N (cs.map Value.int) d) (S : RoadKit.Sta Z h ST "COMPACT_STRINGS" "Z" (.int z)) (hz : ¬ z = 0)
    (hn : cs.length = n) (hN : N = Int32.ofNat n) (l0 : 0 < n) (l2 : n ≤ 4000) (hp : ∀ c ∈ cs, ¬ c < 0 ∧ ¬ (255 : Int32) < c) (hb : bs = cs.map (fun c => c.toInt8.toInt32)) (hfr : 4 ≤ R.frames) (hlo : W + 65 ≤ R.locals) :
    Back l R p e below s args (⟨"java/lang/String", "<init>", "([C)V"⟩ : MethodName) len W (fun P a => a = #[.ref x, .ref b] ∧ P.U.heap = h ∧ P.cells + 1 ≤ R.cells ∧ P.slots + n ≤ R.slots)
      (fun P _ v B => ∃ L, QV Z x N bs h n0 v B.U.heap L ∧ B.locs = P.locs ++ L ∧ B.cells = P.cells + 1 ∧ B.slots = P.slots + n) := by
  subst hn hN hb
  refine Back.mono (backArv hZ hw wi E V C K S hz (n32 (by omega)) l0 (by omega) (fun c hc => (hp c hc).2) hfr hlo) (fun P a hp => hp) (fun P a v B hp hq => ?_)
  obtain ⟨L, ⟨q1, q2, q3, q4, q5, q6, q7, ⟨kb, v1, v2⟩, q9⟩, hl, hc, hs⟩ := hq
  exact ⟨L, ⟨q1, fun y hy => by rw [q2 y hy]; exact hx0, q3, q5, q7, h.size, kb, hh0, Nat.le_refl _, Nat.ne_of_gt E.lt, q6, by rw [List.map_map]; exact v2⟩, hl, hc, hs⟩
end StrChars.Road
namespace StrChars
open Jvm Sem ClassFile Op Lib Jvm.Stand Jvm.Free.XT Jvm.Free.ALB Jvm.Free.JM Jvm.Free
open Jvm.Lib.Cold (StaticIs)
def hi8 (x : Int32) : Int32 := lo8 (x >>> ((8 : Int32) &&& 31))
/-- what StringUTF16.getChar makes of two bytes -/
def pairCh (u v : Int32) : Int32 := (((u &&& 255) <<< ((0 : Int32) &&& 31)) ||| ((v &&& 255) <<< ((8 : Int32) &&& 31))).toUInt32.toUInt16.toUInt32.toInt32
theorem lo8_and (x : Int32) : (lo8 x &&& 255).toBitVec.toNat = x.toBitVec.toNat % 256 := by
  have h : (lo8 x).toBitVec = (x.toBitVec.signExtend 8).signExtend 32 := by rw [lo8, Int8.toBitVec_toInt32, Int32.toBitVec_toInt8]
  rw [Int32.toBitVec_and, BitVec.toNat_and, h]
  have e : ((x.toBitVec.signExtend 8).signExtend 32).toNat % 256 = x.toBitVec.toNat % 256 := by
    rw [BitVec.toNat_signExtend]
    have hlt := x.toBitVec.isLt
    simp only [BitVec.toNat_setWidth, BitVec.toNat_signExtend]
    split <;> split <;> omega
  rw [← e]
  exact Nat.and_two_pow_sub_one_eq_mod _ 8
theorem pair_says {c : Int32} (h0 : ¬ c < 0) (h1 : ¬ 65535 < c) : pairCh (lo8 c) (hi8 c) = c := by
  rw [Int32.lt_iff_toInt_lt] at h0 h1
  have e0 : (0 : Int32).toInt = 0 := rfl
  have e1 : (65535 : Int32).toInt = 65535 := rfl
  have hc : c.toInt = c.toBitVec.toNat := by
    have := c.toBitVec.isLt
    have e : c.toInt = c.toBitVec.toInt := rfl
    rw [e] at h0 h1
    rw [e]
    rw [BitVec.toInt_eq_toNat_cond] at h0 h1 ⊢
    split at h0 <;> split <;> omega
  have hn : c.toBitVec.toNat < 65536 := by omega
  have a1 := lo8_and c
  have a2 : (hi8 c &&& 255).toBitVec.toNat = c.toBitVec.toNat / 256 := by
    rw [hi8, lo8_and]
    have e : ((8 : Int32) &&& 31) = 8 := by decide
    rw [e, Int32.toBitVec_shiftRight]
    have e2 : ((8 : Int32).toBitVec.smod 32) = 8#32 := by decide
    rw [e2, BitVec.sshiftRight_eq', BitVec.toNat_sshiftRight_of_msb_false (by rw [BitVec.msb_eq_false_iff_two_mul_lt]; omega)]
    show c.toBitVec.toNat >>> 8 % 256 = _
    rw [Nat.shiftRight_eq_div_pow]
    omega
  unfold pairCh
  apply Int32.toBitVec_inj.mp
  apply BitVec.eq_of_toNat_eq
  have f0 : ((0 : Int32) &&& 31) = 0 := by decide
  have f8 : ((8 : Int32) &&& 31) = 8 := by decide
  rw [f0, f8]
  have g : (((lo8 c &&& 255) <<< (0 : Int32)) ||| ((hi8 c &&& 255) <<< (8 : Int32))).toBitVec.toNat = c.toBitVec.toNat := by
    rw [Int32.toBitVec_or, Int32.toBitVec_shiftLeft, Int32.toBitVec_shiftLeft]
    have s0 : ((0 : Int32).toBitVec.smod 32) = 0#32 := by decide
    have s8 : ((8 : Int32).toBitVec.smod 32) = 8#32 := by decide
    rw [s0, s8, BitVec.toNat_or]
    simp only [BitVec.shiftLeft_eq', BitVec.toNat_shiftLeft, a1, a2]
    show (c.toBitVec.toNat % 256) <<< 0 % 2 ^ 32 ||| (c.toBitVec.toNat / 256) <<< 8 % 2 ^ 32 = _
    rw [Nat.shiftLeft_zero, Nat.mod_eq_of_lt (show c.toBitVec.toNat % 256 < 2 ^ 32 by omega), Nat.mod_eq_of_lt (show (c.toBitVec.toNat / 256) <<< 8 < 2 ^ 32 by rw [Nat.shiftLeft_eq]; omega), Nat.or_comm, ← Nat.shiftLeft_add_eq_or_of_lt (by omega), Nat.shiftLeft_eq]
    omega
  show BitVec.toNat (((((lo8 c &&& 255) <<< (0 : Int32)) ||| ((hi8 c &&& 255) <<< (8 : Int32))).toBitVec.setWidth 16).setWidth 32) = _
  rw [BitVec.toNat_setWidth, BitVec.toNat_setWidth, g]
  omega
end StrChars
namespace StrChars
open Jvm Sem ClassFile Op Lib Jvm.Stand Jvm.Free.XT Jvm.Free.ALB Jvm.Free.JM Jvm.Free
open Jvm.Lib.Cold (StaticIs)
/-- the array's cell V codes the n chars f 0 .. f (n - 1) by the coder cd, as the JDK does: coder 1 just where some char is above 255 -/
def Cod (cd : Int32) (n : Nat) (f : Nat → Int32) (V : Cell) : Prop := (cd = 0 ∧ V.slots.size = n ∧ ∀ j, j < n → V.slots[j]? = some (.int (lo8 (f j))) ∧ ¬ 255 < f j) ∨ (cd = 1 ∧ V.slots.size = 2 * n ∧ (∀ j, j < n → V.slots[2 * j]? = some (.int (lo8 (f j))) ∧ V.slots[2 * j + 1]? = some (.int (hi8 (f j)))) ∧ ∃ j, j < n ∧ 255 < f j)
/-- **x is a String of the n chars f 0 .. f (n - 1)**, Latin-1 or UTF-16; its array at t has the cell V -/
def Txt (x t : Addr) (V : Cell) (cd : Int32) (n : Nat) (f : Nat → Int32) (U : State) : Prop := Exact "java/lang/String" x U ∧ Has x "java/lang/String" "value" "[B" (.ref t) U ∧ Has x "java/lang/String" "coder" "B" (.int cd) U ∧ XT.Arr .byte t V U ∧ Cod cd n f V ∧ ∀ j, j < n → ¬ f j < 0 ∧ ¬ 65535 < f j
theorem Txt.mv {x t : Addr} {V : Cell} {cd : Int32} {n : Nat} {f : Nat → Int32} {U U' : State} (h : Txt x t V cd n f U) (hal : U.vm.Alike U'.vm) (hh : U'.heap = U.heap) : Txt x t V cd n f U' := ⟨h.1.mv hal hh, h.2.1.mv hal hh, h.2.2.1.mv hal hh, h.2.2.2.1.mv hal hh, h.2.2.2.2⟩
end StrChars
namespace StrChars.Road
open Jvm Sem ClassFile Op Lib Jvm.Stand Jvm.Free Jvm.Free.XT
open Jvm.Lib.Cold (StaticIs)
theorem consq {a : Array Value} {s : State} {c : Jvm.Cond} {L : List Jvm.Cond} (h0 : c.before a s = true) (h : ∀ w ∈ L, w.before a s = true) : ∀ w ∈ c :: L, w.before a s = true := fun w hw => (List.mem_cons.mp hw).elim (fun e => e ▸ h0) (h w)
/-- the bytes of the chars cs, low before high -/
def wideBytes : List Int32 → List Value
  | [] => []
  | c :: cs => .int (lo8 c) :: .int (hi8 c) :: wideBytes cs
theorem wide_lo (d : Value) : ∀ (cs : List Int32) (j : Nat), j < cs.length → (wideBytes cs).getD (2 * j) d = .int (lo8 (cs.getD j 0))
  | [], j, h => absurd h (Nat.not_lt_zero j)
  | c :: cs, 0, _ => rfl
  | c :: cs, j + 1, h => by
    have q := wide_lo d cs j (by simpa using h)
    rw [show 2 * (j + 1) = 2 * j + 1 + 1 from by omega]
    simpa [wideBytes] using q
theorem wide_hi (d : Value) : ∀ (cs : List Int32) (j : Nat), j < cs.length → (wideBytes cs).getD (2 * j + 1) d = .int (hi8 (cs.getD j 0))
  | [], j, h => absurd h (Nat.not_lt_zero j)
  | c :: cs, 0, _ => rfl
  | c :: cs, j + 1, h => by
    have q := wide_hi d cs j (by simpa using h)
    rw [show 2 * (j + 1) + 1 = 2 * j + 1 + 1 + 1 from by omega]
    simpa [wideBytes] using q
theorem low_at (d : Value) (cs : List Int32) (j : Nat) (h : j < cs.length) : (cs.map fun c => Value.int (lo8 c)).getD j d = .int (lo8 (cs.getD j 0)) := by
  simp [List.getD_eq_getElem?_getD, h]
/-- an array of N2 bytes vs codes the chars cs by the coder cd -/
def CodA (cs : List Int32) (cd N2 : Int32) (vs : List Value) : Prop := (cd = 0 ∧ N2 = Int32.ofNat cs.length ∧ vs = (cs.map fun c => Value.int (lo8 c)) ∧ ∀ c ∈ cs, ¬ 255 < c) ∨ (cd = 1 ∧ N2 = Int32.ofNat (2 * cs.length) ∧ vs = wideBytes cs ∧ ∃ c ∈ cs, 255 < c)
theorem CodA.cod {cs : List Int32} {cd N2 : Int32} {vs : List Value} {V : Cell} (h : CodA cs cd N2 vs) (hn : 2 * cs.length < 2 ^ 31) (hs : V.slots.size = N2.toNatClampNeg) (hv : RoadKit.Has V vs (.int 0)) : Cod cd cs.length (fun j => cs.getD j 0) V := by
  rcases h with ⟨rfl, rfl, rfl, h⟩ | ⟨rfl, rfl, rfl, c, hc, hw⟩
  · rw [n32 (by omega)] at hs
    exact Or.inl ⟨rfl, hs, fun j hj => ⟨by rw [hv j (by omega), low_at _ _ _ hj], by
      have e : cs.getD j 0 = cs[j] := by simp [List.getD_eq_getElem?_getD, hj]
      show ¬ 255 < cs.getD j 0
      rw [e]; exact h _ (List.getElem_mem _)⟩⟩
  · rw [n32 (by omega)] at hs
    obtain ⟨j, hj, rfl⟩ := List.getElem_of_mem hc
    exact Or.inr ⟨rfl, hs, fun j hj => ⟨by rw [hv _ (by omega), wide_lo _ _ _ hj], by rw [hv _ (by omega), wide_hi _ _ _ hj]⟩, j, hj, by
      have e : cs.getD j 0 = cs[j] := by simp [List.getD_eq_getElem?_getD, hj]
      show 255 < cs.getD j 0
      rw [e]; exact hw⟩
/-- an object of exactly java/lang/String, its two fields found: as the laws ask it -/
theorem strObj {Z U : State} {a0 : Array Value} {kI : Nat} (wi : (Jvm.Cond.instantiable ST kI).before a0 Z = true) (al : Z.vm.Alike U.vm) {x : Addr} {v0 c0 : Value} (E : RoadKit.Exa Z U.heap x ST) (V : RoadKit.Fld Z U.heap x ST "value" "[B" v0) (C : RoadKit.Fld Z U.heap x ST "coder" "B" c0) :
    ∃ (D : Cell) (fV fC : Field), Blank ST x D U ∧ Found ST "value" "[B" fV U ∧ Found ST "coder" "B" fC U ∧ D.slots[fV.slot]? = some v0 ∧ D.slots[fC.slot]? = some c0 ∧ RoadKit.slotOf Z ST "value" "[B" = fV.slot ∧ RoadKit.slotOf Z ST "coder" "B" = fC.slot := by
  obtain ⟨D, cfV, kV, iV, fV, hD, gV, stV, knV, obV, asV, slV⟩ := V
  obtain ⟨D', cfC, kC, iC, fC, hD', gC, stC, -, -, asC, slC⟩ := C
  cases hD.symm.trans hD'
  obtain ⟨D2, kD, e1, e2, e3, e4, e5⟩ := E
  cases hD.symm.trans e1
  obtain ⟨c2, k2, i1, i2, i3, -⟩ := Cond.instantiable_spec wi
  cases e2.symm.trans i1
  cases e3.symm.trans i2
  obtain ⟨kU, u1, u2⟩ := al.2.2 _ _ e3
  exact ⟨D, fV, fC, ⟨hD, ⟨knV, fun q hq => by rw [hq] at obV; cases obV⟩, by rw [al.findClass]; exact e2, kU, u1, by rw [u2]; exact i3, by rw [u2]; exact e5 i3⟩, ⟨SBG.found_only al ⟨cfV, kV, iV, gV⟩, stV⟩, ⟨SBG.found_only al ⟨cfC, kC, iC, gC⟩, stC⟩, slV, slC, by simp [RoadKit.slotOf, gV], by simp [RoadKit.slotOf, gC]⟩
theorem sta_is {Z U : State} (al : Z.vm.Alike U.vm) {C n d : String} {v : Value} (S : RoadKit.Sta Z U.heap C n d v) : StaticIs U C n d v := by
  obtain ⟨cfS, iS, kS, fS, st, cS, t1, t2, t3, t4, t5, t6, t7⟩ := S
  exact StaticIs.there (s := { Z with heap := U.heap }) ⟨cfS, iS, kS, fS, st, cS, t1, t2, t3, t4, t5, (fun q => by rw [q] at t6; cases t6), t7⟩ al rfl
end StrChars.Road
namespace StrChars
open Jvm Sem ClassFile Op Lib Jvm.Stand Jvm.Free.XT Jvm.Free.ALB Jvm.Free.JM Jvm.Free
open Jvm.Lib.Cold (StaticIs)
/-- what place i of a byte[]'s cell holds -/
def yv (A : Cell) (i : Nat) : Int32 := match A.slots[i]? with | some (.int x) => x | _ => 0
theorem yv_get {a : Addr} {A : Cell} {U : State} (h : XT.Arr .byte a A U) (ht : Typed .byte A) {i : Nat} (hi : i < A.slots.size) : A.slots[i]? = some (.int (yv A i)) := by
  have e := Array.getElem?_eq_getElem hi
  have f := ht i _ e
  unfold yv; rw [e]
  generalize A.slots[i] = v at f
  cases v <;> simp [fits] at f ⊢
/-- the two arrays are equal, place for place -/
def EqC (A B : Cell) : Prop := A.slots.size = B.slots.size ∧ ∀ i, i < A.slots.size → yv A i = yv B i
/-- a boolean that says whether p -/
def Says01 (q : Prop) (r : Option Value) (s u : State) : Prop := ∃ v : Int32, r = some (.int v) ∧ u.heap = s.heap ∧ ((v = 1 ∧ q) ∨ (v = 0 ∧ ¬ q))
theorem Says01.mv {q : Prop} : ∀ r (U U' V V' : State), U'.heap = U.heap → V.vm.Alike V'.vm → V'.heap = V.heap → Says01 q r U V → Says01 q r U' V' :=
  fun r U U' V V' h1 _ h2 ⟨v, a, b, c⟩ => ⟨v, a, by rw [h1, h2]; exact b, c⟩
namespace LEq
def yN : MethodName := ⟨"java/lang/StringLatin1", "equals", "([B[B)Z"⟩
abbrev yB : ByteArray := jdk_43_method_13_code
theorem d0 : decode yB 0 = .ok (.aload_n 0, 1) := by decide +kernel
theorem d1 : decode yB 1 = .ok (.arraylength, 1) := by decide +kernel
theorem d2 : decode yB 2 = .ok (.aload_n 1, 1) := by decide +kernel
theorem d3 : decode yB 3 = .ok (.arraylength, 1) := by decide +kernel
theorem d4 : decode yB 4 = .ok (.if_icmp (.ne) 30, 3) := by decide +kernel
theorem d7 : decode yB 7 = .ok (.iconst 0, 1) := by decide +kernel
theorem d8 : decode yB 8 = .ok (.istore_n 2, 1) := by decide +kernel
theorem d9 : decode yB 9 = .ok (.iload_n 2, 1) := by decide +kernel
theorem d10 : decode yB 10 = .ok (.aload_n 0, 1) := by decide +kernel
theorem d11 : decode yB 11 = .ok (.arraylength, 1) := by decide +kernel
theorem d12 : decode yB 12 = .ok (.if_icmp (.ge) 20, 3) := by decide +kernel
theorem d15 : decode yB 15 = .ok (.aload_n 0, 1) := by decide +kernel
theorem d16 : decode yB 16 = .ok (.iload_n 2, 1) := by decide +kernel
theorem d17 : decode yB 17 = .ok (.baload, 1) := by decide +kernel
theorem d18 : decode yB 18 = .ok (.aload_n 1, 1) := by decide +kernel
theorem d19 : decode yB 19 = .ok (.iload_n 2, 1) := by decide +kernel
theorem d20 : decode yB 20 = .ok (.baload, 1) := by decide +kernel
theorem d21 : decode yB 21 = .ok (.if_icmp (.eq) 5, 3) := by decide +kernel
theorem d24 : decode yB 24 = .ok (.iconst 0, 1) := by decide +kernel
theorem d25 : decode yB 25 = .ok (.ireturn, 1) := by decide +kernel
theorem d26 : decode yB 26 = .ok (.iinc 2 1, 3) := by decide +kernel
theorem d29 : decode yB 29 = .ok (.goto (-20), 3) := by decide +kernel
theorem d32 : decode yB 32 = .ok (.iconst 1, 1) := by decide +kernel
theorem d33 : decode yB 33 = .ok (.ireturn, 1) := by decide +kernel
theorem d34 : decode yB 34 = .ok (.iconst 0, 1) := by decide +kernel
theorem d35 : decode yB 35 = .ok (.ireturn, 1) := by decide +kernel
def site : List Cond := []
def tab : Cond := tabOf yN yB 3 (some .boolean) site
def P (a : Addr) (A : Cell) (b : Addr) (B : Cell) (args : Array Value) (s : State) : Prop := args = #[.ref a, .ref b] ∧ XT.Arr .byte a A s ∧ Typed .byte A ∧ XT.Arr .byte b B s ∧ Typed .byte B
/-- whether two byte[] are equal, place for place -/
theorem law (l : Launch) (a : Addr) (A : Cell) (b : Addr) (B : Cell) : Law l yN 2 2 0 0 yB 3 (some .boolean) site (P a A b B) (Says01 (EqC A B)) [] 0 0 := by
  refine Law.of_walk (plainFor_of_name (by decide +kernel)) (by decide +kernel) (by decide +kernel) (by decide) (fun _ _ h => by rw [h.1]; rfl) (fun _ U U' hal hh h => ⟨h.1, h.2.1.mv hal hh, h.2.2.1, h.2.2.2.1.mv hal hh, h.2.2.2.2⟩) (fun r U U' V V' h1 hal h2 h => Says01.mv r U U' V V' h1 hal h2 h) ?_
  intro p e s m args below meth c s₁ X0 hexec hbytes hml hret hlk hnm hown hh0 W hP
  obtain ⟨rfl, hA, tA, hB, tB⟩ := hP
  have a31 := hA.2.2.2
  have b31 := hB.2.2.2
  have hA0 := hA.mv X0.warmed.alike hh0
  have hB0 := hB.mv X0.warmed.alike hh0
  have c1 : Steps p.tables e below (s₁.setTop (entryFrame m #[.ref a, .ref b] 3)) (s₁.setTop (mkF m 0 #[.val (.ref a), .val (.ref b), .unset] [])) := entry rfl
  have c2 : Steps p.tables e below (s₁.setTop (entryFrame m #[.ref a, .ref b] 3)) (s₁.setTop (mkF m 4 #[.val (.ref a), .val (.ref b), .unset] [.int (Int32.ofNat B.slots.size), .int (Int32.ofNat A.slots.size)])) := c1.trans (by
    refine XS.aloadN X0.here hexec rfl (hb hbytes d0) rfl rfl ?_
    refine X0.alen hexec hA0 rfl rfl (hb hbytes d1) ?_
    refine XS.aloadN X0.here hexec rfl (hb hbytes d2) rfl rfl ?_
    refine X0.alen hexec hB0 rfl rfl (hb hbytes d3) ?_
    exact Steps.refl _)
  by_cases hs : A.slots.size = B.slots.size
  · have c3 : Steps p.tables e below (s₁.setTop (entryFrame m #[.ref a, .ref b] 3)) (s₁.setTop (mkF m 9 #[.val (.ref a), .val (.ref b), .val (.int 0)] [])) := c2.trans (by
      refine XS.icmpNo X0.here hexec rfl (hb hbytes d4) rfl (ii_ne_f (by rw [hs])) ?_
      refine iconstV X0.here hexec rfl 0 (hb hbytes d7) (by decide) ?_
      refine XS.istoreN X0.here hexec rfl (hb hbytes d8) rfl rfl ?_
      exact Steps.refl _)
    have loop : ∀ (r i : Nat), i + r = A.slots.size → (∀ j, j < i → yv A j = yv B j) → Steps p.tables e below (s₁.setTop (entryFrame m #[.ref a, .ref b] 3)) (s₁.setTop (mkF m 9 #[.val (.ref a), .val (.ref b), .val (.int (Int32.ofNat i))] [])) → ∃ (pc : Nat) (Ls : Array Slot) (v : Int32), (pc = 25 ∨ pc = 33) ∧ ((v = 1 ∧ EqC A B) ∨ (v = 0 ∧ ¬ EqC A B)) ∧ Steps p.tables e below (s₁.setTop (entryFrame m #[.ref a, .ref b] 3)) (s₁.setTop (mkF m pc Ls [.int v])) := by
      intro r
      induction r with
      | zero =>
        intro i hi he cl
        exact ⟨33, _, 1, Or.inr rfl, Or.inl ⟨rfl, hs, fun j hj => he j (by omega)⟩, cl.trans (by
          refine XS.iloadN X0.here hexec rfl (hb hbytes d9) rfl ?_
          refine XS.aloadN X0.here hexec rfl (hb hbytes d10) rfl rfl ?_
          refine X0.alen hexec hA0 rfl rfl (hb hbytes d11) ?_
          refine XS.icmpYes X0.here hexec rfl (pc0 := 12) rfl (hb hbytes d12) rfl (ii_ge_t (nlt32 (by omega) (by omega))) (by decide) rfl ?_
          refine iconstV X0.here hexec rfl 1 (hb hbytes d32) (by decide) ?_
          exact Steps.refl _)⟩
      | succ r ih =>
        intro i hi he cl
        have c4 : Steps p.tables e below (s₁.setTop (entryFrame m #[.ref a, .ref b] 3)) (s₁.setTop (mkF m 21 #[.val (.ref a), .val (.ref b), .val (.int (Int32.ofNat i))] [.int (yv B i), .int (yv A i)])) := cl.trans (by
          refine XS.iloadN X0.here hexec rfl (hb hbytes d9) rfl ?_
          refine XS.aloadN X0.here hexec rfl (hb hbytes d10) rfl rfl ?_
          refine X0.alen hexec hA0 rfl rfl (hb hbytes d11) ?_
          refine XS.icmpNo X0.here hexec rfl (hb hbytes d12) rfl (ii_ge_f (lt32 (by omega) (by omega))) ?_
          refine XS.aloadN X0.here hexec rfl (hb hbytes d15) rfl rfl ?_
          refine XS.iloadN X0.here hexec rfl (hb hbytes d16) rfl ?_
          refine X0.aget hexec hA0 rfl (yv_get hA tA (i := i) (by omega)) rfl rfl (hb hbytes d17) ?_
          refine XS.aloadN X0.here hexec rfl (hb hbytes d18) rfl rfl ?_
          refine XS.iloadN X0.here hexec rfl (hb hbytes d19) rfl ?_
          refine X0.aget hexec hB0 rfl (yv_get hB tB (i := i) (by omega)) rfl rfl (hb hbytes d20) ?_
          exact Steps.refl _)
        by_cases hv : yv A i = yv B i
        · have c5 : Steps p.tables e below (s₁.setTop (entryFrame m #[.ref a, .ref b] 3)) (s₁.setTop (mkF m 9 #[.val (.ref a), .val (.ref b), .val (.int (Int32.ofNat i + 1))] [])) := c4.trans (by
            refine XS.icmpYes X0.here hexec rfl (pc0 := 21) rfl (hb hbytes d21) rfl (ii_eq_t hv) (by decide) rfl ?_
            refine iincV X0.here hexec rfl 1 (hb hbytes d26) (by decide) rfl rfl ?_
            refine XS.goto X0.here hexec rfl (pc0 := 29) rfl (hb hbytes d29) (by decide) rfl ?_
            exact Steps.refl _)
          rw [succ32] at c5
          exact ih (i + 1) (by omega) (fun j hj => by
            by_cases e : j = i
            · rw [e]; exact hv
            · exact he j (by omega)) c5
        · exact ⟨25, _, 0, Or.inl rfl, Or.inr ⟨rfl, fun q => hv (q.2 i (by omega))⟩, c4.trans (by
            refine XS.icmpNo X0.here hexec rfl (hb hbytes d21) rfl (ii_eq_f hv) ?_
            refine iconstV X0.here hexec rfl 0 (hb hbytes d24) (by decide) ?_
            exact Steps.refl _)⟩
    obtain ⟨pc, Ls, v, hpc, hv, cz⟩ := loop A.slots.size 0 (by omega) (fun j hj => absurd hj (Nat.not_lt_zero j)) c3
    have nv : narrow .boolean (.int v) = .int v := by rcases hv with ⟨rfl, -⟩ | ⟨rfl, -⟩ <;> rfl
    rcases hpc with rfl | rfl
    · exact ⟨s₁, some (.int v), _, _, _, X0, rfl, rfl, rfl, (fun h => by cases h), ⟨v, rfl, hh0, hv⟩, fun fs hl => cz.trans (X0.ireturnOut hexec hret nv (Or.inr (Or.inl rfl)) (hb hbytes d25) hl)⟩
    · exact ⟨s₁, some (.int v), _, _, _, X0, rfl, rfl, rfl, (fun h => by cases h), ⟨v, rfl, hh0, hv⟩, fun fs hl => cz.trans (X0.ireturnOut hexec hret nv (Or.inr (Or.inl rfl)) (hb hbytes d33) hl)⟩
  · have c3 : Steps p.tables e below (s₁.setTop (entryFrame m #[.ref a, .ref b] 3)) (s₁.setTop (mkF m 35 #[.val (.ref a), .val (.ref b), .unset] [.int 0])) := c2.trans (by
      refine XS.icmpYes X0.here hexec rfl (pc0 := 4) rfl (hb hbytes d4) rfl (ii_ne_t (ne32 a31 b31 hs)) (by decide) rfl ?_
      refine iconstV X0.here hexec rfl 0 (hb hbytes d34) (by decide) ?_
      exact Steps.refl _)
    exact ⟨s₁, some (.int 0), _, _, _, X0, rfl, rfl, rfl, (fun h => by cases h), ⟨0, rfl, hh0, Or.inr ⟨rfl, fun q => hs q.1⟩⟩, fun fs hl => c3.trans (X0.ireturnOut hexec hret rfl (Or.inr (Or.inl rfl)) (hb hbytes d35) hl)⟩
end LEq
theorem Cod.ty {cd : Int32} {n : Nat} {f : Nat → Int32} {V : Cell} (h : Cod cd n f V) : Typed .byte V := fun i v hv => by
  have hi : i < V.slots.size := (Array.getElem?_eq_some_iff.mp hv).1
  rcases h with ⟨-, k1, k2⟩ | ⟨-, k1, k2, -⟩
  · rw [(k2 i (by omega)).1] at hv; cases hv; exact fits_lo8 _
  · rcases Nat.mod_two_eq_zero_or_one i with e | e
    · obtain ⟨j, rfl⟩ : ∃ j, i = 2 * j := ⟨i / 2, by omega⟩
      rw [(k2 j (by omega)).1] at hv; cases hv; exact fits_lo8 _
    · obtain ⟨j, rfl⟩ : ∃ j, i = 2 * j + 1 := ⟨i / 2, by omega⟩
      rw [(k2 j (by omega)).2] at hv; cases hv; exact fits_lo8 _
/-- the same text -/
def SameT (n : Nat) (f : Nat → Int32) (k : Nat) (g : Nat → Int32) : Prop := n = k ∧ ∀ j, j < n → f j = g j
theorem lo8_inj {x y : Int32} (h0 : ¬ x < 0) (h1 : ¬ 255 < x) (k0 : ¬ y < 0) (k1 : ¬ 255 < y) (h : lo8 x = lo8 y) : x = y := by
  rw [← lo8_mask h0 h1, ← lo8_mask k0 k1, h]
/-- arrays coded by one coder are equal just where the texts are -/
theorem Cod.eqv {cd : Int32} {n k : Nat} {f g : Nat → Int32} {V V' : Cell} (h : Cod cd n f V) (h' : Cod cd k g V') (hf : ∀ j, j < n → ¬ f j < 0 ∧ ¬ 65535 < f j) (hg : ∀ j, j < k → ¬ g j < 0 ∧ ¬ 65535 < g j) : EqC V V' ↔ SameT n f k g := by
  have yvv : ∀ {W : Cell} {i : Nat} {x : Int32}, W.slots[i]? = some (.int x) → yv W i = x := fun q => by unfold yv; rw [q]
  rcases h with ⟨rfl, k1, k2⟩ | ⟨rfl, k1, k2, -⟩
  · rcases h' with ⟨-, m1, m2⟩ | ⟨e, -⟩
    · constructor
      · rintro ⟨e1, e2⟩
        refine ⟨by omega, fun j hj => ?_⟩
        have q := e2 j (by omega)
        rw [yvv (k2 j hj).1, yvv (m2 j (by omega)).1] at q
        exact lo8_inj (hf j hj).1 (k2 j hj).2 (hg j (by omega)).1 (m2 j (by omega)).2 q
      · rintro ⟨rfl, e2⟩
        refine ⟨by omega, fun j hj => ?_⟩
        rw [yvv (k2 j (by omega)).1, yvv (m2 j (by omega)).1, e2 j (by omega)]
    · exact absurd e (by decide)
  · rcases h' with ⟨e, -⟩ | ⟨-, m1, m2, -⟩
    · exact absurd e (by decide)
    · constructor
      · rintro ⟨e1, e2⟩
        refine ⟨by omega, fun j hj => ?_⟩
        have q1 := e2 (2 * j) (by omega)
        have q2 := e2 (2 * j + 1) (by omega)
        rw [yvv (k2 j hj).1, yvv (m2 j (by omega)).1] at q1
        rw [yvv (k2 j hj).2, yvv (m2 j (by omega)).2] at q2
        rw [← pair_says (hf j hj).1 (hf j hj).2, ← pair_says (hg j (by omega)).1 (hg j (by omega)).2, q1, q2]
      · rintro ⟨rfl, e2⟩
        refine ⟨by omega, fun i hi => ?_⟩
        rcases Nat.mod_two_eq_zero_or_one i with e | e
        · obtain ⟨j, rfl⟩ : ∃ j, i = 2 * j := ⟨i / 2, by omega⟩
          rw [yvv (k2 j (by omega)).1, yvv (m2 j (by omega)).1, e2 j (by omega)]
        · obtain ⟨j, rfl⟩ : ∃ j, i = 2 * j + 1 := ⟨i / 2, by omega⟩
          rw [yvv (k2 j (by omega)).2, yvv (m2 j (by omega)).2, e2 j (by omega)]
/-- two codings differ: so do the texts -/
theorem Cod.dif {cd cd' : Int32} {n k : Nat} {f g : Nat → Int32} {V V' : Cell} (h : Cod cd n f V) (h' : Cod cd' k g V') (hne : ¬ cd = cd') : ¬ SameT n f k g := by
  rintro ⟨rfl, e⟩
  rcases h with ⟨rfl, -, k2⟩ | ⟨rfl, -, -, j, hj, hw⟩
  · rcases h' with ⟨rfl, -⟩ | ⟨-, -, -, j, hj, hw⟩
    · exact hne rfl
    · exact (k2 j hj).2 (by rw [e j hj]; exact hw)
  · rcases h' with ⟨-, -, m2⟩ | ⟨rfl, -⟩
    · exact (m2 j hj).2 (by rw [← e j hj]; exact hw)
    · exact hne rfl
/-- an object of exactly C is an instance of C -/
theorem cinst {p : Program} {l : Launch} {e : Env} {R : Room} {s : State} {m : MethodId} {args : Array Value} {below : List Frame} {meth : Method} {c : Code} {T : State} {locs : List Loc} {cells slots : Nat} (X : Stand p l e R s m args below meth c T locs cells slots) (hexec : p.tables.exec = Jvm.exec) {own C : String} {index : Nat} (hown : s.vm.findClass own = some m.cls) (hlink : (Cond.classLink own index C).before args s = true) {a : Addr} (hE : Exact C a T)
    {g : JFrame} (hg : g.method = m) {rest : List Value} (hstack : g.stack = .ref a :: rest) (hdg : decode c.code g.pc = .ok (.instanceof index, 3)) :
    ∃ T', Stand p l e R s m args below meth c T' locs cells slots ∧ T'.heap = T.heap ∧ ∀ target, Steps p.tables e below (T'.setTop { g with pc := g.pc + 3, stack := .int 1 :: rest }) target → Steps p.tables e below (T.setTop g) target := by
  obtain ⟨cB, h1, D, h2, h3, h4⟩ := hE
  have h1' : s.vm.findClass C = some cB := by rw [← X.warmed.alike.findClass]; exact h1
  obtain ⟨vm', X', st⟩ := X.instanceofYes hexec hown hlink h2 h4 h1' (by rw [h3]; exact Jvm.Free.SB.assignable_self _ _) hg hstack hdg
  exact ⟨_, X', rfl, st⟩
theorem cself {p : Program} {l : Launch} {e : Env} {R : Room} {s : State} {m : MethodId} {args : Array Value} {below : List Frame} {meth : Method} {c : Code} {T : State} {locs : List Loc} {cells slots : Nat} (X : Stand p l e R s m args below meth c T locs cells slots) (hexec : p.tables.exec = Jvm.exec) {own C : String} {index : Nat} (hown : s.vm.findClass own = some m.cls) (hlink : (Cond.classLink own index C).before args s = true) {a : Addr} (hE : Exact C a T)
    {g : JFrame} (hg : g.method = m) {rest : List Value} (hstack : g.stack = .ref a :: rest) (hdg : decode c.code g.pc = .ok (.checkcast index, 3)) :
    ∃ T', Stand p l e R s m args below meth c T' locs cells slots ∧ T'.heap = T.heap ∧ ∀ target, Steps p.tables e below (T'.setTop { g with pc := g.pc + 3, stack := .ref a :: rest }) target → Steps p.tables e below (T.setTop g) target := by
  obtain ⟨cB, h1, D, h2, h3, h4⟩ := hE
  have h1' : s.vm.findClass C = some cB := by rw [← X.warmed.alike.findClass]; exact h1
  obtain ⟨vm', X', st⟩ := X.checkcastYes hexec hown hlink h2 h4 h1' (by rw [h3]; exact Jvm.Free.SB.assignable_self _ _) hg hstack hdg
  exact ⟨_, X', rfl, fun t h => st t (by rw [← hstack] at h; exact h)⟩
namespace SEq
def yN : MethodName := ⟨"java/lang/String", "equals", "(Ljava/lang/Object;)Z"⟩
abbrev yB : ByteArray := jdk_42_method_66_code
theorem d0 : decode yB 0 = .ok (.aload_n 0, 1) := by decide +kernel
theorem d1 : decode yB 1 = .ok (.aload_n 1, 1) := by decide +kernel
theorem d2 : decode yB 2 = .ok (.if_acmp (.ne) 5, 3) := by decide +kernel
theorem d5 : decode yB 5 = .ok (.iconst 1, 1) := by decide +kernel
theorem d6 : decode yB 6 = .ok (.ireturn, 1) := by decide +kernel
theorem d7 : decode yB 7 = .ok (.aload_n 1, 1) := by decide +kernel
theorem d8 : decode yB 8 = .ok (.instanceof 10, 3) := by decide +kernel
theorem d11 : decode yB 11 = .ok (.ifCond (.eq) 43, 3) := by decide +kernel
theorem d14 : decode yB 14 = .ok (.aload_n 1, 1) := by decide +kernel
theorem d15 : decode yB 15 = .ok (.checkcast 10, 3) := by decide +kernel
theorem d18 : decode yB 18 = .ok (.astore_n 2, 1) := by decide +kernel
theorem d19 : decode yB 19 = .ok (.getstatic 38, 3) := by decide +kernel
theorem d22 : decode yB 22 = .ok (.ifCond (.eq) 14, 3) := by decide +kernel
theorem d25 : decode yB 25 = .ok (.aload_n 0, 1) := by decide +kernel
theorem d26 : decode yB 26 = .ok (.getfield 15, 3) := by decide +kernel
theorem d29 : decode yB 29 = .ok (.aload_n 2, 1) := by decide +kernel
theorem d30 : decode yB 30 = .ok (.getfield 15, 3) := by decide +kernel
theorem d33 : decode yB 33 = .ok (.if_icmp (.ne) 21, 3) := by decide +kernel
theorem d36 : decode yB 36 = .ok (.aload_n 0, 1) := by decide +kernel
theorem d37 : decode yB 37 = .ok (.getfield 9, 3) := by decide +kernel
theorem d40 : decode yB 40 = .ok (.aload_n 2, 1) := by decide +kernel
theorem d41 : decode yB 41 = .ok (.getfield 9, 3) := by decide +kernel
theorem d44 : decode yB 44 = .ok (.invokestatic 541, 3) := by decide +kernel
theorem d47 : decode yB 47 = .ok (.ifCond (.eq) 7, 3) := by decide +kernel
theorem d50 : decode yB 50 = .ok (.iconst 1, 1) := by decide +kernel
theorem d51 : decode yB 51 = .ok (.goto 4, 3) := by decide +kernel
theorem d54 : decode yB 54 = .ok (.iconst 0, 1) := by decide +kernel
theorem d55 : decode yB 55 = .ok (.ireturn, 1) := by decide +kernel
def site : List Cond := [.classLink "java/lang/String" 10 "java/lang/String", .fieldLink "java/lang/String" 38 "java/lang/String" "COMPACT_STRINGS" "Z", .fieldLink "java/lang/String" 15 "java/lang/String" "coder" "B", .fieldLink "java/lang/String" 9 "java/lang/String" "value" "[B", LEq.tab] ++ staticW "java/lang/String" 541 LEq.yN
def tab : Cond := tabOf yN yB 3 (some .boolean) site
def P (x t : Addr) (V : Cell) (cd : Int32) (n : Nat) (f : Nat → Int32) (y t' : Addr) (V' : Cell) (cd' : Int32) (k : Nat) (g : Nat → Int32) (z : Int32) (args : Array Value) (s : State) : Prop := args = #[.ref x, .ref y] ∧ Txt x t V cd n f s ∧ Txt y t' V' cd' k g s ∧ StaticIs s "java/lang/String" "COMPACT_STRINGS" "Z" (.int z) ∧ ¬ z = 0
/-- equals(Object) of two Strings: whether the texts are the same -/
theorem law (l : Launch) (x t : Addr) (V : Cell) (cd : Int32) (n : Nat) (f : Nat → Int32) (y t' : Addr) (V' : Cell) (cd' : Int32) (k : Nat) (g : Nat → Int32) (z : Int32) : Law l yN 2 1 1 14 yB 3 (some .boolean) site (P x t V cd n f y t' V' cd' k g z) (Says01 (SameT n f k g)) [] 0 0 := by
  refine Law.of_walk (plainFor_of_name (by decide +kernel)) (by decide +kernel) (by decide +kernel) (by decide) (fun _ _ h => by rw [h.1]; rfl) (fun _ U U' hal hh h => ⟨h.1, h.2.1.mv hal hh, h.2.2.1.mv hal hh, h.2.2.2.1.there hal hh, h.2.2.2.2⟩) (fun r U U' V V' h1 hal h2 h => Says01.mv r U U' V V' h1 hal h2 h) ?_
  intro p e s m args below meth c s₁ X0 hexec hbytes hml hret hlk hnm hown hh0 W hP
  obtain ⟨rfl, hx, hy, s1, hz⟩ := hP
  have c1 : Steps p.tables e below (s₁.setTop (entryFrame m #[.ref x, .ref y] 3)) (s₁.setTop (mkF m 2 #[.val (.ref x), .val (.ref y), .unset] [.ref y, .ref x])) := Steps.trans (entry rfl) (by
    show Steps p.tables e below (s₁.setTop (mkF m 0 #[.val (.ref x), .val (.ref y), .unset] [])) _
    refine XS.aloadN X0.here hexec rfl (hb hbytes d0) rfl rfl ?_
    refine XS.aloadN X0.here hexec rfl (hb hbytes d1) rfl rfl ?_
    exact Steps.refl _)
  by_cases hxy : x = y
  · have c2 : Steps p.tables e below (s₁.setTop (entryFrame m #[.ref x, .ref y] 3)) (s₁.setTop (mkF m 6 #[.val (.ref x), .val (.ref y), .unset] [.int 1])) := c1.trans (by
      refine acmpNo X0.here hexec rfl (hb hbytes d2) rfl rfl rfl (by simp [acmp, hxy]) ?_
      refine iconstV X0.here hexec rfl 1 (hb hbytes d5) (by decide) ?_
      exact Steps.refl _)
    subst hxy
    have ec : cd = cd' := by
      obtain ⟨D, fd, a1, a2, a3⟩ := hx.2.2.1
      obtain ⟨D', fd', b1, b2, b3⟩ := hy.2.2.1
      cases a1.symm.trans b1
      obtain ⟨q1, q2, q3, q4⟩ := a2.1
      obtain ⟨r1, r2, r3, r4⟩ := b2.1
      cases q4.symm.trans r4
      cases a3.symm.trans b3; rfl
    have et : t = t' := by
      obtain ⟨D, fd, a1, a2, a3⟩ := hx.2.1
      obtain ⟨D', fd', b1, b2, b3⟩ := hy.2.1
      cases a1.symm.trans b1
      obtain ⟨q1, q2, q3, q4⟩ := a2.1
      obtain ⟨r1, r2, r3, r4⟩ := b2.1
      cases q4.symm.trans r4
      cases a3.symm.trans b3; rfl
    subst ec et
    have ev : V = V' := by cases hx.2.2.2.1.1.symm.trans hy.2.2.2.1.1; rfl
    subst ev
    have hs : SameT n f k g := (Cod.eqv hx.2.2.2.2.1 hy.2.2.2.2.1 hx.2.2.2.2.2 hy.2.2.2.2.2).mp ⟨rfl, fun _ _ => rfl⟩
    exact ⟨s₁, some (.int 1), _, _, _, X0, rfl, rfl, rfl, (fun h => by cases h), ⟨1, rfl, hh0, Or.inl ⟨rfl, hs⟩⟩, fun fs hl => c2.trans (X0.ireturnOut hexec hret rfl (Or.inr (Or.inl rfl)) (hb hbytes d6) hl)⟩
  · have c2 : Steps p.tables e below (s₁.setTop (entryFrame m #[.ref x, .ref y] 3)) (s₁.setTop (mkF m 8 #[.val (.ref x), .val (.ref y), .unset] [.ref y])) := c1.trans (by
      refine acmpYes X0.here hexec rfl (pc0 := 2) rfl (hb hbytes d2) rfl rfl rfl (by simp [acmp, hxy]) (by decide) rfl ?_
      refine XS.aloadN X0.here hexec rfl (hb hbytes d7) rfl rfl ?_
      exact Steps.refl _)
    obtain ⟨T3, X3, q3, st3⟩ := cinst X0 hexec hown (wk W (.classLink "java/lang/String" 10 "java/lang/String")) (hy.mv X0.warmed.alike hh0).1 (g := (mkF m 8 #[.val (.ref x), .val (.ref y), .unset] [.ref y])) rfl (rest := []) rfl (hb hbytes d8)
    have hh3 := q3.trans hh0
    have c4 : Steps p.tables e below (s₁.setTop (entryFrame m #[.ref x, .ref y] 3)) (T3.setTop (mkF m 15 #[.val (.ref x), .val (.ref y), .unset] [.ref y])) := (c2.trans (st3 _ (Steps.refl _))).trans (by
      refine XS.ifNo X3.here hexec rfl (hb hbytes d11) rfl (i0_eq_f (by decide)) ?_
      refine XS.aloadN X3.here hexec rfl (hb hbytes d14) rfl rfl ?_
      exact Steps.refl _)
    obtain ⟨T5, X5, q5, st5⟩ := cself X3 hexec hown (wk W (.classLink "java/lang/String" 10 "java/lang/String")) (hy.mv X3.warmed.alike hh3).1 (g := (mkF m 15 #[.val (.ref x), .val (.ref y), .unset] [.ref y])) rfl (rest := []) rfl (hb hbytes d15)
    have hh5 := q5.trans hh3
    have c6 : Steps p.tables e below (s₁.setTop (entryFrame m #[.ref x, .ref y] 3)) (T5.setTop (mkF m 19 #[.val (.ref x), .val (.ref y), .val (.ref y)] [])) := (c4.trans (st5 _ (Steps.refl _))).trans (by
      refine XS.astoreN X5.here hexec rfl (hb hbytes d18) rfl rfl rfl ?_
      exact Steps.refl _)
    obtain ⟨T7, X7, q7, st7⟩ := X5.sget hexec hown (wk W (.fieldLink "java/lang/String" 38 "java/lang/String" "COMPACT_STRINGS" "Z")) s1 (fun _ _ h => by rw [hh5]; exact h) (g := (mkF m 19 #[.val (.ref x), .val (.ref y), .val (.ref y)] [])) rfl (hb hbytes d19)
    have hh7 := q7.trans hh5
    have c8 : Steps p.tables e below (s₁.setTop (entryFrame m #[.ref x, .ref y] 3)) (T7.setTop (mkF m 26 #[.val (.ref x), .val (.ref y), .val (.ref y)] [.ref x])) := (c6.trans (st7 _ (Steps.refl _))).trans (by
      refine XS.ifNo X7.here hexec rfl (hb hbytes d22) rfl (i0_eq_f hz) ?_
      refine XS.aloadN X7.here hexec rfl (hb hbytes d25) rfl rfl ?_
      exact Steps.refl _)
    obtain ⟨T9, X9, q9, st9⟩ := X7.hget hexec hown (wk W (.fieldLink "java/lang/String" 15 "java/lang/String" "coder" "B")) (hx.mv X7.warmed.alike hh7).2.2.1 (g := (mkF m 26 #[.val (.ref x), .val (.ref y), .val (.ref y)] [.ref x])) rfl (rest := []) rfl (hb hbytes d26)
    have hh9 := q9.trans hh7
    have c10 : Steps p.tables e below (s₁.setTop (entryFrame m #[.ref x, .ref y] 3)) (T9.setTop (mkF m 30 #[.val (.ref x), .val (.ref y), .val (.ref y)] [.ref y, .int cd])) := (c8.trans (st9 _ (Steps.refl _))).trans (by
      refine XS.aloadN X9.here hexec rfl (hb hbytes d29) rfl rfl ?_
      exact Steps.refl _)
    obtain ⟨T11, X11, q11, st11⟩ := X9.hget hexec hown (wk W (.fieldLink "java/lang/String" 15 "java/lang/String" "coder" "B")) (hy.mv X9.warmed.alike hh9).2.2.1 (g := (mkF m 30 #[.val (.ref x), .val (.ref y), .val (.ref y)] [.ref y, .int cd])) rfl (rest := [.int cd]) rfl (hb hbytes d30)
    have hh11 := q11.trans hh9
    have c12 : Steps p.tables e below (s₁.setTop (entryFrame m #[.ref x, .ref y] 3)) (T11.setTop (mkF m 33 #[.val (.ref x), .val (.ref y), .val (.ref y)] [.int cd', .int cd])) := c10.trans (st11 _ (Steps.refl _))
    by_cases hcd : cd = cd'
    · subst hcd
      have c13 : Steps p.tables e below (s₁.setTop (entryFrame m #[.ref x, .ref y] 3)) (T11.setTop (mkF m 37 #[.val (.ref x), .val (.ref y), .val (.ref y)] [.ref x])) := c12.trans (by
        refine XS.icmpNo X11.here hexec rfl (hb hbytes d33) rfl (ii_ne_f rfl) ?_
        refine XS.aloadN X11.here hexec rfl (hb hbytes d36) rfl rfl ?_
        exact Steps.refl _)
      obtain ⟨T14, X14, q14, st14⟩ := X11.hget hexec hown (wk W (.fieldLink "java/lang/String" 9 "java/lang/String" "value" "[B")) (hx.mv X11.warmed.alike hh11).2.1 (g := (mkF m 37 #[.val (.ref x), .val (.ref y), .val (.ref y)] [.ref x])) rfl (rest := []) rfl (hb hbytes d37)
      have hh14 := q14.trans hh11
      have c15 : Steps p.tables e below (s₁.setTop (entryFrame m #[.ref x, .ref y] 3)) (T14.setTop (mkF m 41 #[.val (.ref x), .val (.ref y), .val (.ref y)] [.ref y, .ref t])) := (c13.trans (st14 _ (Steps.refl _))).trans (by
        refine XS.aloadN X14.here hexec rfl (hb hbytes d40) rfl rfl ?_
        exact Steps.refl _)
      obtain ⟨T16, X16, q16, st16⟩ := X14.hget hexec hown (wk W (.fieldLink "java/lang/String" 9 "java/lang/String" "value" "[B")) (hy.mv X14.warmed.alike hh14).2.1 (g := (mkF m 41 #[.val (.ref x), .val (.ref y), .val (.ref y)] [.ref y, .ref t])) rfl (rest := [.ref t]) rfl (hb hbytes d41)
      have hh16 := q16.trans hh14
      have c17 : Steps p.tables e below (s₁.setTop (entryFrame m #[.ref x, .ref y] 3)) (T16.setTop (mkF m 44 #[.val (.ref x), .val (.ref y), .val (.ref y)] [.ref t', .ref t])) := c15.trans (st16 _ (Steps.refl _))
      obtain ⟨v18, T18, X18, E18, g18⟩ := X16.callS hexec (LEq.law l t V t' V') hown (wks W (staticW "java/lang/String" 541 LEq.yN)) (wk W LEq.tab) (W := 0) (Nat.le_of_ble_eq_true rfl) (Nat.le_of_ble_eq_true rfl) (Nat.le_refl _) (Nat.le_refl _) (g := (mkF m 44 #[.val (.ref x), .val (.ref y), .val (.ref y)] [.ref t', .ref t])) rfl (by rw [hml]; rfl) c17 (argsL := [.ref t, .ref t']) (rest := []) rfl rfl (by show 2 * 0 + 0 ≤ _; decide) (hb hbytes d44) (⟨rfl, hx.2.2.2.1.mv X16.warmed.alike hh16, hx.2.2.2.2.1.ty, hy.2.2.2.1.mv X16.warmed.alike hh16, hy.2.2.2.2.1.ty⟩)
      obtain ⟨v, rfl, q18, hv⟩ := E18
      have iff := Cod.eqv hx.2.2.2.2.1 hy.2.2.2.2.1 hx.2.2.2.2.2 hy.2.2.2.2.2
      rcases hv with ⟨rfl, he⟩ | ⟨rfl, he⟩
      · have c19 : Steps p.tables e below (s₁.setTop (entryFrame m #[.ref x, .ref y] 3)) (T18.setTop (mkF m 55 #[.val (.ref x), .val (.ref y), .val (.ref y)] [.int 1])) := Steps.trans g18 (by
          refine XS.ifNo X18.here hexec rfl (hb hbytes d47) rfl (i0_eq_f (by decide)) ?_
          refine iconstV X18.here hexec rfl 1 (hb hbytes d50) (by decide) ?_
          refine XS.goto X18.here hexec rfl (pc0 := 51) rfl (hb hbytes d51) (by decide) rfl ?_
          exact Steps.refl _)
        exact ⟨T18, some (.int 1), _, _, _, X18, rfl, rfl, rfl, (fun h => by cases h), ⟨1, rfl, q18.trans hh16, Or.inl ⟨rfl, iff.mp he⟩⟩, fun fs hl => c19.trans (X18.ireturnOut hexec hret rfl (Or.inr (Or.inl rfl)) (hb hbytes d55) hl)⟩
      · have c19 : Steps p.tables e below (s₁.setTop (entryFrame m #[.ref x, .ref y] 3)) (T18.setTop (mkF m 55 #[.val (.ref x), .val (.ref y), .val (.ref y)] [.int 0])) := Steps.trans g18 (by
          refine XS.ifYes X18.here hexec rfl (pc0 := 47) rfl (hb hbytes d47) rfl (i0_eq_t rfl) (by decide) rfl ?_
          refine iconstV X18.here hexec rfl 0 (hb hbytes d54) (by decide) ?_
          exact Steps.refl _)
        exact ⟨T18, some (.int 0), _, _, _, X18, rfl, rfl, rfl, (fun h => by cases h), ⟨0, rfl, q18.trans hh16, Or.inr ⟨rfl, fun q => he (iff.mpr q)⟩⟩, fun fs hl => c19.trans (X18.ireturnOut hexec hret rfl (Or.inr (Or.inl rfl)) (hb hbytes d55) hl)⟩
    · have c13 : Steps p.tables e below (s₁.setTop (entryFrame m #[.ref x, .ref y] 3)) (T11.setTop (mkF m 55 #[.val (.ref x), .val (.ref y), .val (.ref y)] [.int 0])) := c12.trans (by
        refine XS.icmpYes X11.here hexec rfl (pc0 := 33) rfl (hb hbytes d33) rfl (ii_ne_t hcd) (by decide) rfl ?_
        refine iconstV X11.here hexec rfl 0 (hb hbytes d54) (by decide) ?_
        exact Steps.refl _)
      exact ⟨T11, some (.int 0), _, _, _, X11, rfl, rfl, rfl, (fun h => by cases h), ⟨0, rfl, hh11, Or.inr ⟨rfl, Cod.dif hx.2.2.2.2.1 hy.2.2.2.2.1 hcd⟩⟩, fun fs hl => c13.trans (X11.ireturnOut hexec hret rfl (Or.inr (Or.inl rfl)) (hb hbytes d55) hl)⟩
theorem pays {l : Launch} {R : Room} {p : Program} {e : Env} {below : List Frame} {s : State} {sargs : Array Value} {len W : Nat} (x t : Addr) (V : Cell) (cd : Int32) (n : Nat) (f : Nat → Int32) (y t' : Addr) (V' : Cell) (cd' : Int32) (k : Nat) (g : Nat → Int32) (z : Int32) (htab : tab.before sargs s = true) (hfr : 2 ≤ R.frames) (hlo : W + 28 ≤ R.locals) :
    Back l R p e below s sargs yN len W (fun A₁ a₁ => A₁.cells + 0 ≤ R.cells ∧ A₁.slots + 0 ≤ R.slots ∧ P x t V cd n f y t' V' cd' k g z a₁ A₁.U) (fun A₁ _ v₁ B₁ => Says01 (SameT n f k g) v₁ A₁.U B₁.U ∧ B₁.locs = A₁.locs ++ [] ∧ B₁.cells = A₁.cells + 0 ∧ B₁.slots = A₁.slots + 0) :=
  (law l x t V cd n f y t' V' cd' k g z).pays htab hfr (by omega)
end SEq
end StrChars
namespace StrChars.Road
open Jvm Sem ClassFile Op Lib Jvm.Stand Jvm.Free Jvm.Free.XT
open Jvm.Lib.Cold (StaticIs)
/-- the words of String.equals(Object) -/
abbrev wordsEq : List Jvm.Cond := [.code SEq.yN SEq.yB 3 (some .boolean), .initialized ST, .classLink ST 10 ST, .fieldLink ST 38 ST "COMPACT_STRINGS" "Z", .fieldLink ST 15 ST "coder" "B", .fieldLink ST 9 ST "value" "[B", .methodLink ST 541 LEq.yN, .static LEq.yN, .code LEq.yN LEq.yB 3 (some .boolean), .initialized "java/lang/StringLatin1"]
theorem tabEq_of {a : Array Value} {s : State} (h : ∀ w ∈ wordsEq, w.before a s = true) : SEq.tab.before a s = true := by
  have hl : LEq.tab.before a s = true := unparts (wk h (.code LEq.yN LEq.yB 3 (some .boolean))) (wks h (.initialized LEq.yN.cls :: LEq.site))
  have q := consq hl h
  exact unparts (wk q (.code SEq.yN SEq.yB 3 (some .boolean))) (wks q (.initialized SEq.yN.cls :: SEq.site))
theorem movedEq {Z s : State} {a0 args : Array Value} (hZ : Z.Warmed39 s.vm) (hw : ∀ d ∈ wordsEq, d.before a0 Z = true) : ∀ d ∈ wordsEq, d.before args s = true := fun d hd => by
  have t : ∀ d ∈ wordsEq, (d.onTables && d.keepsFace) = true := by decide +kernel
  exact RoadKit.mv hZ (hw d hd) (t d hd)
/-- the road's facts of a String, as the laws ask it -/
theorem txt_of {Z U : State} {a0 : Array Value} {kI : Nat} (wi : (Jvm.Cond.instantiable ST kI).before a0 Z = true) (al : Z.vm.Alike U.vm) {x t : Addr} {kb : ClassId} {cs : List Int32} {cd N2 : Int32} {vs : List Value} (E : RoadKit.Exa Z U.heap x ST) (V : RoadKit.Fld Z U.heap x ST "value" "[B" (.ref t)) (C : RoadKit.Fld Z U.heap x ST "coder" "B" (.int cd)) (K : RoadKit.Arv Z U.heap t kb .byte N2 vs (.int 0)) (hc : CodA cs cd N2 vs) (hb : ∀ c ∈ cs, ¬ c < 0 ∧ ¬ (65535 : Int32) < c) (l2 : cs.length ≤ 4000) :
    ∃ A, Txt x t A cd cs.length (fun j => cs.getD j 0) U := by
  obtain ⟨A, K1, K2, K3, K4, K5, K6⟩ := K
  have hcod := hc.cod (by omega) K3 K5
  obtain ⟨D, fV, fC, hB, F1, F2, g1, g2, -, -⟩ := strObj wi al E V C
  exact ⟨A, ⟨_, hB.2.2.1, D, hB.1, rfl, by cases q : D.vm <;> first | rfl | exact absurd q (hB.2.1.2 _)⟩, Has.of hB F1 g1, Has.of hB F2 g2, ⟨K1.1, State.isArrayOf_alike al K1.2.1, K1.2.2, by rcases hcod with ⟨-, q, -⟩ | ⟨-, q, -⟩ <;> omega⟩, hcod, fun j hj => by
    have e : cs.getD j 0 = cs[j] := by simp [List.getD_eq_getElem?_getD, hj]
    show ¬ cs.getD j 0 < 0 ∧ ¬ 65535 < cs.getD j 0
    rw [e]; exact hb _ (List.getElem_mem _)⟩
theorem same_list (cs ds : List Int32) : SameT cs.length (fun j => cs.getD j 0) ds.length (fun j => ds.getD j 0) ↔ cs = ds := by
  constructor
  · rintro ⟨e, q⟩
    refine List.ext_getElem e fun j h1 h2 => ?_
    have := q j h1
    simpa [List.getD_eq_getElem?_getD, h1, h2] using this
  · rintro rfl
    exact ⟨rfl, fun _ _ => rfl⟩
/-- **equals(Object) OF TWO SUCH STRINGS**: 1 just where the chars are the same -/
theorem eqW {p : Program} {l : Launch} {e : Env} {R : Room} {s : State} {args : Array Value} {below : List Frame} {len W : Nat} {Z : State} {a0 : Array Value} {h : Heap} (hZ : Z.Warmed39 s.vm) (hw : ∀ d ∈ wordsEq, d.before a0 Z = true) {kI : Nat} (wi : (Jvm.Cond.instantiable ST kI).before a0 Z = true)
    {x t : Addr} {kb : ClassId} {cs : List Int32} {cd N2 : Int32} {vs : List Value} (E : RoadKit.Exa Z h x ST) (V : RoadKit.Fld Z h x ST "value" "[B" (.ref t)) (C : RoadKit.Fld Z h x ST "coder" "B" (.int cd)) (K : RoadKit.Arv Z h t kb .byte N2 vs (.int 0)) (hc : CodA cs cd N2 vs) (hb : ∀ c ∈ cs, ¬ c < 0 ∧ ¬ (65535 : Int32) < c) (l2 : cs.length ≤ 4000)
    {y t' : Addr} {kb' : ClassId} {ds : List Int32} {cd' N2' : Int32} {vs' : List Value} (E' : RoadKit.Exa Z h y ST) (V' : RoadKit.Fld Z h y ST "value" "[B" (.ref t')) (C' : RoadKit.Fld Z h y ST "coder" "B" (.int cd')) (K' : RoadKit.Arv Z h t' kb' .byte N2' vs' (.int 0)) (hc' : CodA ds cd' N2' vs') (hb' : ∀ c ∈ ds, ¬ c < 0 ∧ ¬ (65535 : Int32) < c) (l2' : ds.length ≤ 4000)
    {z : Int32} (S : RoadKit.Sta Z h ST "COMPACT_STRINGS" "Z" (.int z)) (hz : ¬ z = 0) (hfr : 2 ≤ R.frames) (hlo : W + 28 ≤ R.locals) :
    Back l R p e below s args (⟨"java/lang/String", "equals", "(Ljava/lang/Object;)Z"⟩ : MethodName) len W (fun P a => a = #[.ref x, .ref y] ∧ P.U.heap = h ∧ P.cells + 0 ≤ R.cells ∧ P.slots + 0 ≤ R.slots)
      (fun P _ v B => ∃ L, (((v = some (.int 1) ∧ cs = ds) ∨ (v = some (.int 0) ∧ ¬ cs = ds)) ∧ L = [] ∧ B.U.heap = h) ∧ B.locs = P.locs ++ L ∧ B.cells = P.cells + 0 ∧ B.slots = P.slots + 0) := by
  intro m meth c P g ig mk a X hg hsize hdg hW hn hp'
  obtain ⟨rfl, rfl, r1, r2⟩ := hp'
  have al : Z.vm.Alike P.U.vm := hZ.alike.trans X.warmed.alike
  obtain ⟨A, hx⟩ := txt_of wi al E V C K hc hb l2
  obtain ⟨A', hy⟩ := txt_of wi al E' V' C' K' hc' hb' l2'
  obtain ⟨v, B, X', ⟨⟨w, hv, hh, hq⟩, hl, hk, hs⟩, st⟩ := SEq.pays x t A cd cs.length (fun j => cs.getD j 0) y t' A' cd' ds.length (fun j => ds.getD j 0) z (tabEq_of (movedEq hZ hw)) hfr hlo m meth c P g ig mk _ X hg hsize hdg hW hn ⟨r1, r2, rfl, hx, hy, sta_is al S, hz⟩
  refine ⟨v, B, X', ⟨[], ⟨?_, rfl, hh⟩, hl, hk, hs⟩, st⟩
  rcases hq with ⟨rfl, q⟩ | ⟨rfl, q⟩
  · exact Or.inl ⟨hv, (same_list cs ds).mp q⟩
  · exact Or.inr ⟨hv, fun e => q ((same_list cs ds).mpr e)⟩
end StrChars.Road
namespace StrChars.Road
open Jvm Sem ClassFile Op Lib Jvm.Stand Jvm.Free Jvm.Free.XT
open Jvm.Lib.Cold (StaticIs)
/-- what backV says of its String, as the contracts of this text ask it: cs's low bytes, coder 0 -/
theorem codOf {cs : List Int32} {n : Nat} (hn : cs.length = n) (hb : ∀ c ∈ cs, ¬ 255 < c) : CodA cs 0 (Int32.ofNat n) ((cs.map lo8).map Value.int) := Or.inl ⟨rfl, by rw [hn], by simp [List.map_map, Function.comp_def], hb⟩
end StrChars.Road
end Jvm.Pilot.@@N@@

namespace Jvm.Pilot.@@N@@
open Jvm Jvm.ClassFile Sem Op Lib Jvm.Free Jvm.Stand Jvm.LawKit Jvm.RoadKit Bundle Jvm.Pilot.@@N@@.Jvm.D
theorem mI {α : Type} {l : List α} {a : α} (i : Nat) (h : l[i]? = some a) : a ∈ l := List.mem_of_getElem? h
set_option maxRecDepth 65536
set_option maxHeartbeats 40000000
abbrev HW (a0 : Array Value) (Z : State) : Prop := ∀ d ∈ tables_1, d.before a0 Z = true
theorem lE {a b : Nat} (h : Nat.ble a b = true) : a ≤ b := Nat.le_of_ble_eq_true h
theorem own_hw {a b : Nat} (h : 2 * 0 + a = b) : 2 * 0 + a ≤ b := Nat.le_of_eq h
abbrev Sx (p : Program) (e : Env) (b : List Frame) (T : State) (m : MethodId) (pc : Nat) (L : Array Slot) (S : List Value) (t : State) : Prop := Steps p.tables e b (T.setTop (mkF m pc L S)) t
abbrev Pr (p : Program) (e : Env) (b : List Frame) (T : State) (m : MethodId) (pc : Nat) (L : Array Slot) (S : List Value) (s₁ : State) (f : JFrame) : Prop := ∀ t, Steps p.tables e b (T.setTop (mkF m pc L S)) t → Steps p.tables e b (s₁.setTop f) t
section
variable {a0 : Array Value} {Z : State} (hw : ∀ d ∈ tables_1, d.before a0 Z = true)
def w0_ := hw _ (List.mem_of_getElem? (i := 0) rfl)
def w1_ := hw _ (List.mem_of_getElem? (i := 1) rfl)
def w2_ := hw _ (List.mem_of_getElem? (i := 2) rfl)
def w3_ := hw _ (List.mem_of_getElem? (i := 3) rfl)
def w4_ := hw _ (List.mem_of_getElem? (i := 4) rfl)
def w5_ := hw _ (List.mem_of_getElem? (i := 5) rfl)
def w6_ := hw _ (List.mem_of_getElem? (i := 6) rfl)
def w7_ := hw _ (List.mem_of_getElem? (i := 7) rfl)
def w8_ := hw _ (List.mem_of_getElem? (i := 8) rfl)
def w9_ := hw _ (List.mem_of_getElem? (i := 9) rfl)
def w11_ := hw _ (List.mem_of_getElem? (i := 11) rfl)
def w12_ := hw _ (List.mem_of_getElem? (i := 12) rfl)
def w13_ := hw _ (List.mem_of_getElem? (i := 13) rfl)
def w14_ := hw _ (List.mem_of_getElem? (i := 14) rfl)
def w15_ := hw _ (List.mem_of_getElem? (i := 15) rfl)
def w16_ := hw _ (List.mem_of_getElem? (i := 16) rfl)
def w17_ := hw _ (List.mem_of_getElem? (i := 17) rfl)
def w18_ := hw _ (List.mem_of_getElem? (i := 18) rfl)
def w19_ := hw _ (List.mem_of_getElem? (i := 19) rfl)
def w20_ := hw _ (List.mem_of_getElem? (i := 20) rfl)
def w21_ := hw _ (List.mem_of_getElem? (i := 21) rfl)
def w22_ := hw _ (List.mem_of_getElem? (i := 22) rfl)
def w23_ := hw _ (List.mem_of_getElem? (i := 23) rfl)
def w24_ := hw _ (List.mem_of_getElem? (i := 24) rfl)
def w25_ := hw _ (List.mem_of_getElem? (i := 25) rfl)
def w26_ := hw _ (List.mem_of_getElem? (i := 26) rfl)
def w27_ := hw _ (List.mem_of_getElem? (i := 27) rfl)
def w28_ := hw _ (List.mem_of_getElem? (i := 28) rfl)
def w29_ := hw _ (List.mem_of_getElem? (i := 29) rfl)
def w30_ := hw _ (List.mem_of_getElem? (i := 30) rfl)
def w31_ := hw _ (List.mem_of_getElem? (i := 31) rfl)
def w34_ := hw _ (List.mem_of_getElem? (i := 34) rfl)
def w35_ := hw _ (List.mem_of_getElem? (i := 35) rfl)
def w36_ := hw _ (List.mem_of_getElem? (i := 36) rfl)
def w37_ := hw _ (List.mem_of_getElem? (i := 37) rfl)
def w38_ := hw _ (List.mem_of_getElem? (i := 38) rfl)
def w39_ := hw _ (List.mem_of_getElem? (i := 39) rfl)
def w40_ := hw _ (List.mem_of_getElem? (i := 40) rfl)
def w41_ := hw _ (List.mem_of_getElem? (i := 41) rfl)
def w43_ := hw _ (List.mem_of_getElem? (i := 43) rfl)
def w44_ := hw _ (List.mem_of_getElem? (i := 44) rfl)
def w45_ := hw _ (List.mem_of_getElem? (i := 45) rfl)
def w46_ := hw _ (List.mem_of_getElem? (i := 46) rfl)
def w47_ := hw _ (List.mem_of_getElem? (i := 47) rfl)
def w48_ := hw _ (List.mem_of_getElem? (i := 48) rfl)
def w49_ := hw _ (List.mem_of_getElem? (i := 49) rfl)
def w50_ := hw _ (List.mem_of_getElem? (i := 50) rfl)
def w51_ := hw _ (List.mem_of_getElem? (i := 51) rfl)
def w52_ := hw _ (List.mem_of_getElem? (i := 52) rfl)
def w53_ := hw _ (List.mem_of_getElem? (i := 53) rfl)
def w54_ := hw _ (List.mem_of_getElem? (i := 54) rfl)
def w55_ := hw _ (List.mem_of_getElem? (i := 55) rfl)
def w56_ := hw _ (List.mem_of_getElem? (i := 56) rfl)
def w57_ := hw _ (List.mem_of_getElem? (i := 57) rfl)
def w58_ := hw _ (List.mem_of_getElem? (i := 58) rfl)
def w59_ := hw _ (List.mem_of_getElem? (i := 59) rfl)
def w60_ := hw _ (List.mem_of_getElem? (i := 60) rfl)
def w61_ := hw _ (List.mem_of_getElem? (i := 61) rfl)
def w62_ := hw _ (List.mem_of_getElem? (i := 62) rfl)
def w63_ := hw _ (List.mem_of_getElem? (i := 63) rfl)
def w66_ := hw _ (List.mem_of_getElem? (i := 66) rfl)
def w68_ := hw _ (List.mem_of_getElem? (i := 68) rfl)
def w69_ := hw _ (List.mem_of_getElem? (i := 69) rfl)
def w70_ := hw _ (List.mem_of_getElem? (i := 70) rfl)
def w71_ := hw _ (List.mem_of_getElem? (i := 71) rfl)
def w72_ := hw _ (List.mem_of_getElem? (i := 72) rfl)
def w73_ := hw _ (List.mem_of_getElem? (i := 73) rfl)
def w74_ := hw _ (List.mem_of_getElem? (i := 74) rfl)
def w75_ := hw _ (List.mem_of_getElem? (i := 75) rfl)
def w76_ := hw _ (List.mem_of_getElem? (i := 76) rfl)
def w77_ := hw _ (List.mem_of_getElem? (i := 77) rfl)
def w78_ := hw _ (List.mem_of_getElem? (i := 78) rfl)
def w79_ := hw _ (List.mem_of_getElem? (i := 79) rfl)
def w80_ := hw _ (List.mem_of_getElem? (i := 80) rfl)
def w81_ := hw _ (List.mem_of_getElem? (i := 81) rfl)
def w82_ := hw _ (List.mem_of_getElem? (i := 82) rfl)
def w83_ := hw _ (List.mem_of_getElem? (i := 83) rfl)
def w84_ := hw _ (List.mem_of_getElem? (i := 84) rfl)
def w85_ := hw _ (List.mem_of_getElem? (i := 85) rfl)
def w86_ := hw _ (List.mem_of_getElem? (i := 86) rfl)
def w87_ := hw _ (List.mem_of_getElem? (i := 87) rfl)
def w88_ := hw _ (List.mem_of_getElem? (i := 88) rfl)
def w89_ := hw _ (List.mem_of_getElem? (i := 89) rfl)
def w90_ := hw _ (List.mem_of_getElem? (i := 90) rfl)
def w91_ := hw _ (List.mem_of_getElem? (i := 91) rfl)
def w92_ := hw _ (List.mem_of_getElem? (i := 92) rfl)
def w93_ := hw _ (List.mem_of_getElem? (i := 93) rfl)
def w94_ := hw _ (List.mem_of_getElem? (i := 94) rfl)
def w95_ := hw _ (List.mem_of_getElem? (i := 95) rfl)
def w96_ := hw _ (List.mem_of_getElem? (i := 96) rfl)
def w97_ := hw _ (List.mem_of_getElem? (i := 97) rfl)
def w98_ := hw _ (List.mem_of_getElem? (i := 98) rfl)
def w99_ := hw _ (List.mem_of_getElem? (i := 99) rfl)
def w100_ := hw _ (List.mem_of_getElem? (i := 100) rfl)
end
abbrev Y0_ : MethodName := ⟨"java/lang/StringUTF16", "compress", "([CI[BII)I"⟩
abbrev Y1_ : MethodName := ⟨"java/lang/StringUTF16", "newBytesLength", "(I)I"⟩
abbrev Y2_ : MethodName := ⟨"java/lang/StringUTF16", "newBytesFor", "(I)[B"⟩
abbrev Y3_ : MethodName := ⟨"java/lang/StringUTF16", "putChar", "([BII)V"⟩
abbrev Y4_ : MethodName := ⟨"java/lang/StringUTF16", "toBytes", "([CII)[B"⟩
abbrev Y5_ : MethodName := ⟨"java/lang/StringUTF16", "getChar", "([BI)C"⟩
abbrev Y6_ : MethodName := ⟨"java/lang/StringUTF16", "compress", "([CII)[B"⟩
abbrev Y7_ : MethodName := ⟨"java/lang/StringUTF16", "coderFromArrayLen", "([BI)B"⟩
abbrev Y8_ : MethodName := ⟨"java/lang/String", "<init>", "([CIILjava/lang/Void;)V"⟩
abbrev Y9_ : MethodName := ⟨"java/lang/String", "<init>", "([C)V"⟩
abbrev Y10_ : MethodName := ⟨"java/lang/Record", "<init>", "()V"⟩
abbrev Y11_ : MethodName := ⟨"com/example/hearthline/hearthline/mapping/Unit", "<init>", "(Ljava/lang/String;Ljava/lang/String;)V"⟩
abbrev Y12_ : MethodName := ⟨"com/example/hearthline/hearthline/mapping/Unit", "text", "()Ljava/lang/String;"⟩
abbrev Y13_ : MethodName := ⟨"java/lang/String", "equals", "(Ljava/lang/Object;)Z"⟩
abbrev Y14_ : MethodName := ⟨"java/lang/StringLatin1", "canEncode", "(C)Z"⟩
abbrev Y15_ : MethodName := ⟨"java/lang/StringLatin1", "toBytes", "(C)[B"⟩
abbrev Y16_ : MethodName := ⟨"java/lang/String", "<init>", "([BB)V"⟩
abbrev Y17_ : MethodName := ⟨"java/lang/String", "valueOf", "(C)Ljava/lang/String;"⟩
abbrev ab0_ (p3 : Int32) := (((p3 &&& (255 : Int32))).toUInt32.toUInt16.toUInt32.toInt32)
abbrev ab1_ (p1 : Int32) := ((((p1).toUInt32 >>> ((2 : Int32) &&& 31).toUInt32).toInt32) &&& (3 : Int32))
abbrev ab2_ (p6 : Int32) := (((p6 &&& (255 : Int32))).toUInt32.toUInt16.toUInt32.toInt32)
abbrev ab3_ (p2 : Int32) := (((p2 &&& (255 : Int32))).toUInt32.toUInt16.toUInt32.toInt32)
abbrev ab4_ (p2 : Int32) := ((p2 &&& (2147483647 : Int32)) % (25 : Int32))
theorem own_cat {v : Value} (h : v.isRef = true) : v.category = 1 := by cases v <;> first | rfl | cases h
theorem own_and255 (x : Int32) : ∃ k : Fin 256, x &&& 255 = Int32.ofNat k.val := by
  have h : (x &&& 255).toBitVec.toNat < 256 := by
    simp only [Int32.toBitVec_and, BitVec.toNat_and]
    exact Nat.lt_succ_of_le Nat.and_le_right
  refine ⟨⟨_, h⟩, ?_⟩
  apply Int32.toBitVec_inj.mp
  show _ = BitVec.ofNat 32 _
  rw [BitVec.ofNat_toNat]; simp
theorem own_lat (x : Int32) : ¬ (((x &&& (255 : Int32))).toUInt32.toUInt16.toUInt32.toInt32) < 0 ∧ ¬ (255 : Int32) < (((x &&& (255 : Int32))).toUInt32.toUInt16.toUInt32.toInt32) := by
  obtain ⟨k, e⟩ := own_and255 x
  have t : ∀ k : Fin 256, ¬ ((Int32.ofNat k.val).toUInt32.toUInt16.toUInt32.toInt32) < 0 ∧ ¬ (255 : Int32) < ((Int32.ofNat k.val).toUInt32.toUInt16.toUInt32.toInt32) := by decide +kernel
  rw [e]; exact t k
theorem own_lat7 (x : Int32) : ¬ (((x &&& (127 : Int32))).toUInt32.toUInt16.toUInt32.toInt32) < 0 ∧ ¬ (255 : Int32) < (((x &&& (127 : Int32))).toUInt32.toUInt16.toUInt32.toInt32) := by
  have e : x &&& (127 : Int32) = (x &&& (127 : Int32)) &&& 255 := by rw [Int32.and_assoc]; rfl
  rw [e]; exact own_lat _
theorem own_nar_i2c (x : Int32) : nar .char (x.toUInt32.toUInt16.toUInt32.toInt32) = x.toUInt32.toUInt16.toUInt32.toInt32 := by simp only [nar, UInt32.toUInt32_toInt32, UInt16.toUInt16_toUInt32]
theorem own_nar_i2b (x : Int32) : nar .byte (x.toInt8.toInt32) = x.toInt8.toInt32 := by simp [nar]
theorem own_nar_lat {x : Int32} (h : ¬ x < 0 ∧ ¬ (255 : Int32) < x) : nar .char x = x := by
  have e0 : (0 : Int32).toInt = 0 := rfl
  have e1 : (255 : Int32).toInt = 255 := rfl
  have h1 := h.1
  have h2 := h.2
  rw [Int32.lt_iff_toInt_lt, e0] at h1
  rw [Int32.lt_iff_toInt_lt, e1] at h2
  have e : x = Int32.ofNat x.toInt.toNat := by
    apply Int32.toInt_inj.mp
    rw [Int32.toInt_ofNat_small (by omega)]; omega
  have t : ∀ k : Fin 256, nar .char (Int32.ofNat k.val) = Int32.ofNat k.val := by decide +kernel
  rw [e]; exact t ⟨x.toInt.toNat, by omega⟩
theorem own_up (cs : List Int32) (h : ∀ c ∈ cs, ¬ c < 0 ∧ ¬ (255 : Int32) < c) : ∀ c ∈ cs, ¬ c < 0 ∧ ¬ (65535 : Int32) < c := fun c hc => ⟨(h c hc).1, fun q => (h c hc).2 (by rw [Int32.lt_iff_toInt_lt] at q ⊢; have e1 : (65535 : Int32).toInt = 65535 := rfl; have e2 : (255 : Int32).toInt = 255 := rfl; omega)⟩
theorem own_sub {a b : Int32} {p : Int32 → Prop} (h : a = b) (hp : p b) : p a := by rw [h]; exact hp
theorem own_cons {a b : Int32} {l m : List Int32} (h : a = b) (h2 : l = m) : a :: l = b :: m := by rw [h, h2]
theorem own_and3 (x : Int32) : x &&& (3 : Int32) = 0 ∨ x &&& (3 : Int32) = 1 ∨ x &&& (3 : Int32) = 2 ∨ x &&& (3 : Int32) = 3 := by
  have h : (x &&& 3).toBitVec.toNat < 4 := by
    simp only [Int32.toBitVec_and, BitVec.toNat_and]
    exact Nat.lt_succ_of_le Nat.and_le_right
  have e : x &&& 3 = Int32.ofNat (x &&& 3).toBitVec.toNat := by
    apply Int32.toBitVec_inj.mp
    show _ = BitVec.ofNat 32 _
    rw [BitVec.ofNat_toNat]; simp
  rw [e]
  generalize (x &&& 3).toBitVec.toNat = n at h
  have : n = 0 ∨ n = 1 ∨ n = 2 ∨ n = 3 := by omega
  rcases this with rfl | rfl | rfl | rfl <;> simp
theorem own_three3 {x : Int32} (h0 : ¬ (x &&& (3 : Int32)) = (0 : Int32)) (h1 : ¬ (x &&& (3 : Int32)) = (1 : Int32)) (h2 : ¬ (x &&& (3 : Int32)) = (2 : Int32)) : (x &&& (3 : Int32)) = (3 : Int32) := by
  rcases own_and3 x with h | h | h | h
  · exact absurd h h0
  · exact absurd h h1
  · exact absurd h h2
  · exact h
section Own
variable {p : Program} {l : Launch} {e : Env} {R : Room} {s : State} {m : MethodId} {args : Array Value} {below : List Frame} {meth : Method} {c : Code} {T : State} {locs : List Loc} (cells slots rc rs C S : Nat) {Z : State} {h : Heap}
theorem own_cb {Q : Option Value → Heap → List Loc → Prop} {P : Option Value → Pt → Prop} (H : ∃ (v : Option Value) (vm₁ : Vm) (B : Pt), s.WarmedH vm₁ ∧ Stand p l e R s m args below meth c B.U B.locs B.cells B.slots ∧ (∃ L, Q v B.U.heap L ∧ B.locs = locs ++ L ∧ B.cells = cells + rc ∧ B.slots = slots + rs) ∧ P v B)
    (hc : cells + rc = C) (hs : slots + rs = S) : ∃ (v : Option Value) (T' : State) (L : List Loc), Stand p l e R s m args below meth c T' (locs ++ L) C S ∧ Q v T'.heap L ∧ P v (T', locs ++ L, C, S) := by
  obtain ⟨v, vm₁, ⟨T', L', k', n'⟩, -, X, ⟨L, hQ, h1, h2, h3⟩, hP⟩ := H
  dsimp only [Pt.U, Pt.locs, Pt.cells, Pt.slots] at X hQ h1 h2 h3
  subst h1 h2 h3 hc hs
  exact ⟨v, T', L, X, hQ, hP⟩
theorem own_cb0 {Q : Option Value → Pt → List Loc → Prop} {P : Option Value → Pt → Prop} (H : ∃ (v : Option Value) (vm₁ : Vm) (B : Pt), s.WarmedH vm₁ ∧ Stand p l e R s m args below meth c B.U B.locs B.cells B.slots ∧ (∃ L, Q v B L ∧ B.locs = locs ++ L ∧ B.cells = cells + rc ∧ B.slots = slots + rs) ∧ P v B)
    (hc : cells + rc = C) (hs : slots + rs = S) : ∃ (v : Option Value) (T' : State) (L : List Loc), Stand p l e R s m args below meth c T' (locs ++ L) C S ∧ Q v (T', locs ++ L, C, S) L ∧ P v (T', locs ++ L, C, S) := by
  obtain ⟨v, vm₁, ⟨T', L', k', n'⟩, -, X, ⟨L, hQ, h1, h2, h3⟩, hP⟩ := H
  dsimp only [Pt.U, Pt.locs, Pt.cells, Pt.slots] at X h1 h2 h3
  subst h1 h2 h3 hc hs
  exact ⟨v, T', L, X, hQ, hP⟩
theorem own_cbS {EL : List (String × Nat)} {vm0 : Vm} {k0 : Nat} {own : String} {Q : Option Value → Heap → List Loc → Prop} {P : Option Value → Pt → Prop} (H : ∃ (v : Option Value) (vm₁ : Vm) (B : Pt), (s.setVm vm0).WarmedH vm₁ ∧ Stand p l e R ((s.setVm vm0).setVm B.U.vm) m args below meth c B.U B.locs B.cells B.slots ∧ (s.setVm vm0).Since B.U.vm B.U.heap.size ∧ T.heap.size ≤ B.U.heap.size ∧ (∃ L, Q v B.U.heap L ∧ B.locs = locs ++ L ∧ B.cells = cells + rc ∧ B.slots = slots + rs ∧ CHr Z EL vm0 h B.U.vm B.U.heap) ∧ P v B)
    (hc : cells + rc = C) (hs : slots + rs = S) (hS : s.Since vm0 k0) (hk : k0 ≤ T.heap.size) (hZ : Z.Warmed39 vm0) (ho : vm0.findClass own = some m.cls) : ∃ (v : Option Value) (T' : State) (L : List Loc), Stand p l e R (s.setVm T'.vm) m args below meth c T' (locs ++ L) C S ∧ Q v T'.heap L ∧ s.Since T'.vm T'.heap.size ∧ Z.Warmed39 T'.vm ∧ T'.vm.findClass own = some m.cls ∧ CHr Z EL vm0 h T'.vm T'.heap ∧ P v (T', locs ++ L, C, S) := by
  obtain ⟨v, vm₁, ⟨T', L', k', n'⟩, -, X, hS2, hg, ⟨L, hQ, h1, h2, h3, hC⟩, hP⟩ := H
  dsimp only [Pt.U, Pt.locs, Pt.cells, Pt.slots] at X hQ h1 h2 h3 hS2 hg hC
  subst h1 h2 h3 hc hs
  exact ⟨v, T', L, X, hQ, hS.trans hS2 (Nat.le_trans hk hg), State.Warmed39.trans (t := s.setVm vm0) hZ hS2.1, by rw [hS2.1.alike.findClass]; exact ho, hC, hP⟩
theorem own_gl {cells slots n0 : Nat} (X : Stand p l e R s m args below meth c T locs cells slots) (N : Fr n0 locs) : ∃ L, Stand p l e R s m args below meth c T L cells slots ∧ Fr n0 L := ⟨_, X, N⟩
theorem own_lvG {cells slots : Nat} {h : Heap} {s₁ : State} {fr : JFrame} {Q : Option Value → Heap → List Loc → Prop} (X : Stand p l e R s m args below meth c T locs cells slots) (hlocks : meth.locks = false) {v : Option Value} (hv : meth.sig.returnType = none → v = none) (hE : T.heap = h) (hQ : Q v h locs) (hk : (Nat.ble cells R.cells && Nat.ble slots R.slots) = true)
    (H : ∀ fs, (∀ (f : JFrame) (acts : List Action), f.method = m → f.locked = none → f.entered = [] → (doReturn e (T.setTop f) acts v).1 = T.setFrames fs) → Steps p.tables e below (s₁.setTop fr) (T.setFrames fs)) :
    ∃ s₂ o, Steps p.tables e below (s₁.setTop fr) s₂ ∧ s₂.status = .running ∧ Ended s₂ below o ∧ ∃ v L, o = .returned v ∧ Q v s₂.heap L ∧ FrameEnd s o s₂ L R.cells R.slots := by
  obtain ⟨fs, hr, hrun, hended, hW, hsame⟩ := X.leave hv hlocks
  rw [Bool.and_eq_true] at hk
  subst hE
  exact ⟨_, _, H fs hr, hrun, hended, _, _, rfl, hQ, ⟨_, rfl⟩, hW, hsame.mono (Nat.le_of_ble_eq_true hk.1) (Nat.le_of_ble_eq_true hk.2)⟩
theorem own_lvF {cells slots : Nat} {h : Heap} {s₁ : State} {fr : JFrame} {Q : Option Value → Heap → List Loc → Prop} {y : MethodName} {S : Spec} {cd : ByteArray} {ml : Nat} {t : FieldType} {s' sa : State} {a' : Array Value} {b' : List Frame} (X : Stand p l e R s m args below meth c T locs cells slots) (B : BodyLoose p l y S cd ml (some t) e s' m a' b' meth c sa) (v : Value) (hE : T.heap = h) (hQ : Q (some v) h locs) (hk : (Nat.ble cells R.cells && Nat.ble slots R.slots) = true)
    (H : ∀ fs, (∀ (f : JFrame) (acts : List Action), f.method = m → f.locked = none → f.entered = [] → (doReturn e (T.setTop f) acts (some v)).1 = T.setFrames fs) → Steps p.tables e below (s₁.setTop fr) (T.setFrames fs)) :
    ∃ s₂ o, Steps p.tables e below (s₁.setTop fr) s₂ ∧ s₂.status = .running ∧ Ended s₂ below o ∧ ∃ v L, o = .returned v ∧ Q v s₂.heap L ∧ FrameEnd s o s₂ L R.cells R.slots :=
  own_lvG X B.notSynchronized (v := some v) (fun h => by rw [B.returns] at h; cases h) hE hQ hk H
theorem own_lvN {cells slots : Nat} {h : Heap} {s₁ : State} {fr : JFrame} {Q : Option Value → Heap → List Loc → Prop} {y : MethodName} {S : Spec} {cd : ByteArray} {ml : Nat} {rt : Option FieldType} {s' sa : State} {a' : Array Value} {b' : List Frame} (X : Stand p l e R s m args below meth c T locs cells slots) (B : BodyLoose p l y S cd ml rt e s' m a' b' meth c sa) (hE : T.heap = h) (hQ : Q none h locs) (hk : (Nat.ble cells R.cells && Nat.ble slots R.slots) = true)
    (H : ∀ fs, (∀ (f : JFrame) (acts : List Action), f.method = m → f.locked = none → f.entered = [] → (doReturn e (T.setTop f) acts none).1 = T.setFrames fs) → Steps p.tables e below (s₁.setTop fr) (T.setFrames fs)) :
    ∃ s₂ o, Steps p.tables e below (s₁.setTop fr) s₂ ∧ s₂.status = .running ∧ Ended s₂ below o ∧ ∃ v L, o = .returned v ∧ Q v s₂.heap L ∧ FrameEnd s o s₂ L R.cells R.slots :=
  own_lvG X B.notSynchronized (v := none) (fun _ => rfl) hE hQ hk H
theorem own_lvW {cells slots : Nat} {h h0 : Heap} {s₁ : State} {fr : JFrame} {Q : Option Value → Heap → List Loc → Prop} {EL : List (String × Nat)} {vm1 : Vm} {n : Nat} (X : Stand p l e R (s.setVm vm1) m args below meth c T locs cells slots) (hlocks : meth.locks = false) (hS : s.Since vm1 n) (hk0 : n ≤ h.size) {v : Option Value} (hv : meth.sig.returnType = none → v = none) (hE : T.heap = h) (hh : s.heap = h0) (hQ : Q v h locs) (hC : CHr Z EL s.vm h0 T.vm h) (hk : cells ≤ R.cells) (hn : slots ≤ R.slots)
    (H : ∀ fs, (∀ (f : JFrame) (acts : List Action), f.method = m → f.locked = none → f.entered = [] → (doReturn e (T.setTop f) acts v).1 = T.setFrames fs) → Steps p.tables e below (s₁.setTop fr) (T.setFrames fs)) :
    ∃ s₂ o, Steps p.tables e below (s₁.setTop fr) s₂ ∧ s₂.status = .running ∧ Ended s₂ below o ∧ ∃ v L, o = .returned v ∧ Q v s₂.heap L ∧ CHr Z EL s.vm s.heap s₂.vm s₂.heap ∧ ReturnedEndW s o s₂ L R.cells R.slots := by
  subst hE hh
  obtain ⟨fs, hr, hrun, hended, hEnd⟩ := X.leaveW (s := s) hS hk0 hv hlocks
  exact ⟨_, _, H fs hr, hrun, hended, _, _, rfl, hQ, hC, hEnd.1, hEnd.2.1, hEnd.2.2.1, hEnd.2.2.2.mono hk hn⟩
end Own
abbrev Rm (f c s l : Nat) : Room := { frames := f, cells := c, slots := s, locals := l }
abbrev MF (l : Launch) (Z : State) (y : MethodName) (cd : ByteArray) (ml : Nat) (rt : Option FieldType) (R : Room) (a : Array Value) (h0 : Heap) (Q : Option Value → Heap → List Loc → Prop) : Prop :=
  MetFree l y (head1 [Jvm.Cond.code y cd ml rt] R) (fun b U => b = a ∧ Z.Warmed39 U.vm ∧ U.heap = h0) (fun _ _ _ _ _ => True) (fun _ U o U' => ∃ v L, o = .returned v ∧ Q v U'.heap L ∧ FrameEnd U o U' L R.cells R.slots)
theorem own_sFm {l : Launch} {Z : State} {y : MethodName} {cd : ByteArray} {ml : Nat} {rt : Option FieldType} {R : Room} {a : Array Value} {h0 : Heap} {Q : Option Value → Heap → List Loc → Prop} {K : String} {L0 : Array Slot} (hpn : plainFor y = true) (hK : y.cls = K) (hE : ∀ m, entryFrame m a ml = mkF m 0 L0 [])
    (H : ∀ p e s m below meth c s₁, BodyLoose p l y (head1 [Jvm.Cond.code y cd ml rt] R) cd ml rt e s m a below meth c s₁ → Z.Warmed39 s.vm → s.heap = h0 → p.tables.exec = Jvm.exec → c.code = cd → c.maxLocals = ml → s.vm.findClass K = some m.cls → meth.name = y.name → Stand p l e R s m a below meth c s₁ [] 0 0 → s₁.heap = h0 → (∀ t, Steps p.tables e below (s₁.setTop (mkF m 0 L0 [])) t → Steps p.tables e below (s₁.setTop (entryFrame m a ml)) t) →
      ∃ s₂ o, Steps p.tables e below (s₁.setTop (entryFrame m a ml)) s₂ ∧ s₂.status = .running ∧ Ended s₂ below o ∧ ∃ v L, o = .returned v ∧ Q v s₂.heap L ∧ FrameEnd s o s₂ L R.cells R.slots) : MF l Z y cd ml rt R a h0 Q := by
  subst hK
  refine MetFree.of_bodySF hpn hisR ?_
  intro p e s m args below meth c s₁ Bd hml0 hP hK
  obtain ⟨rfl, hZ, hh⟩ := hP
  exact H p e s m below meth c s₁ Bd hZ hh Bd.exec Bd.bytes hml0 (findClass_of_methodNamed Bd.named) (name_of_methodNamed Bd.named Bd.method).1 (Stand.of_body Bd) (by rw [← hh, Bd.state]; rfl) (fun t k => castTop (hE m) k)
theorem own_sF {l : Launch} {Z : State} {y : MethodName} {cd : ByteArray} {ml : Nat} {rt : Option FieldType} {R : Room} {a : Array Value} {h0 : Heap} {Q : Option Value → Heap → List Loc → Prop} {K : String} {L0 : Array Slot} (hpn : plainName K = true) (hK : y.cls = K) (hE : ∀ m, entryFrame m a ml = mkF m 0 L0 [])
    (H : ∀ p e s m below meth c s₁, BodyLoose p l y (head1 [Jvm.Cond.code y cd ml rt] R) cd ml rt e s m a below meth c s₁ → Z.Warmed39 s.vm → s.heap = h0 → p.tables.exec = Jvm.exec → c.code = cd → c.maxLocals = ml → s.vm.findClass K = some m.cls → meth.name = y.name → Stand p l e R s m a below meth c s₁ [] 0 0 → s₁.heap = h0 → (∀ t, Steps p.tables e below (s₁.setTop (mkF m 0 L0 [])) t → Steps p.tables e below (s₁.setTop (entryFrame m a ml)) t) →
      ∃ s₂ o, Steps p.tables e below (s₁.setTop (entryFrame m a ml)) s₂ ∧ s₂.status = .running ∧ Ended s₂ below o ∧ ∃ v L, o = .returned v ∧ Q v s₂.heap L ∧ FrameEnd s o s₂ L R.cells R.slots) : MF l Z y cd ml rt R a h0 Q := own_sFm (plainFor_of_name (hK ▸ hpn)) hK hE H
section Own3
variable {p : Program} {l : Launch} {e : Env} {R : Room} {s : State} {m : MethodId} {args : Array Value} {below : List Frame} {meth : Method} {c : Code} {T : State} {locs : List Loc} {cells slots : Nat} {Z : State} {h : Heap} {own C : String} {index : Nat} {y z : MethodName} {bytes : ByteArray} {maxL : Nat} {ret : Option FieldType} {rm : Room} {Q : Option Value → Heap → List Loc → Prop} {argsL : List Value} {ps : List FieldType} {r : Option FieldType} {a0 : Array Value}
abbrev own_num (rm R : Room) (rest : List Value) (maxL cells slots : Nat) : Bool := Nat.ble (rm.frames + 1) R.frames && (Nat.ble ((rest.map fun v => v.category).sum + (maxL + 11) + rm.locals) R.locals && (Nat.ble (cells + rm.cells) R.cells && Nat.ble (slots + rm.slots) R.slots))
theorem own_numE {rest : List Value} (h : own_num rm R rest maxL cells slots = true) : rm.frames + 1 ≤ R.frames ∧ (rest.map fun v => v.category).sum + (maxL + 11) + rm.locals ≤ R.locals ∧ cells + rm.cells ≤ R.cells ∧ slots + rm.slots ≤ R.slots := by
  simp only [own_num, Bool.and_eq_true] at h
  exact ⟨Nat.le_of_ble_eq_true h.1, Nat.le_of_ble_eq_true h.2.1, Nat.le_of_ble_eq_true h.2.2.1, Nat.le_of_ble_eq_true h.2.2.2⟩
theorem own_cS (C' S' : Nat) (rest : List Value) (pc : Nat) (Ls : Array Slot) (X : Stand p l e R s m args below meth c T locs cells slots) (hx : p.tables.exec = Jvm.exec) (hZ : Z.Warmed39 s.vm) (hown : s.vm.findClass own = some m.cls) (w1 : (Cond.methodLink own index y).before a0 Z = true) (w2 : (Cond.static y).before a0 Z = true) (w3 : (Cond.initialized y.cls).before a0 Z = true) (w4 : (Cond.code y bytes maxL ret).before a0 Z = true)
    (hM : MF l Z y bytes maxL ret rm argsL.toArray h Q) (pd : parseMethodDescriptor y.desc = some ⟨ps, r⟩) (hsz : Ls.size = c.maxLocals) (hd : decode c.code pc = .ok (.invokestatic index, 3)) (hE : T.heap = h) (hl : argsL.length = ps.length) (hc : cells + rm.cells = C') (hs : slots + rm.slots = S') (hn : own_num rm R rest maxL cells slots = true) (hy : y.cls ≠ "java/lang/invoke/MethodHandle" ∧ y.cls ≠ "java/lang/invoke/VarHandle") :
    ∃ (v : Option Value) (T' : State) (L : List Loc), Stand p l e R s m args below meth c T' (locs ++ L) C' S' ∧ Q v T'.heap L ∧ ∀ target, Steps p.tables e below (T'.setTop (mkF m (pc + 3) Ls (v.toList ++ rest))) target → Steps p.tables e below (T.setTop (mkF m pc Ls (argsL.reverse ++ rest))) target := by
  obtain ⟨n1, n2, n3, n4⟩ := own_numE hn
  exact own_cb cells slots rm.cells rm.slots C' S' (Jvm.LawKit.callS X hx hown (mvT hZ w1) (mvT hZ w2) (mvT hZ w3) (mvT hZ w4) hy (backOf (W := (rest.map fun v => v.category).sum) hM hZ w4 w3 n1 n2) (g := mkF m pc Ls (argsL.reverse ++ rest)) rfl hsz (argsL := argsL) (rest := rest) (lenOf pd hl) rfl (Nat.le_of_eq (Nat.zero_add _)) hd (fun _ _ => ⟨rfl, hE, n3, n4⟩)) hc hs
theorem own_cI (C' S' : Nat) (rest : List Value) (pc : Nat) (Ls : Array Slot) {a : Addr} (X : Stand p l e R s m args below meth c T locs cells slots) (hx : p.tables.exec = Jvm.exec) (hZ : Z.Warmed39 s.vm) (hown : s.vm.findClass own = some m.cls) (w1 : (Cond.methodLink own index y).before a0 Z = true) (w2 : (Cond.instanceMethod y).before a0 Z = true) (w3 : (Cond.initialized y.cls).before a0 Z = true) (w4 : (Cond.code y bytes maxL none).before a0 Z = true)
    (hM : MF l Z y bytes maxL none rm (.ref a :: argsL).toArray h Q) (pd : parseMethodDescriptor y.desc = some ⟨ps, r⟩) (hsz : Ls.size = c.maxLocals) (hd : decode c.code pc = .ok (.invokespecial index, 3)) (hE : T.heap = h) (hl : argsL.length = ps.length) (hc : cells + rm.cells = C') (hs : slots + rm.slots = S') (hn : own_num rm R rest maxL cells slots = true) (hy1 : y.name = "<init>") (hy : y.cls ≠ "java/lang/invoke/MethodHandle" ∧ y.cls ≠ "java/lang/invoke/VarHandle") :
    ∃ (v : Option Value) (T' : State) (L : List Loc), Stand p l e R s m args below meth c T' (locs ++ L) C' S' ∧ Q v T'.heap L ∧ ∀ target, Steps p.tables e below (T'.setTop (mkF m (pc + 3) Ls (v.toList ++ rest))) target → Steps p.tables e below (T.setTop (mkF m pc Ls (argsL.reverse ++ .ref a :: rest))) target := by
  obtain ⟨n1, n2, n3, n4⟩ := own_numE hn
  obtain ⟨v, T', L, h1, h2, h3⟩ := own_cb cells slots rm.cells rm.slots C' S' (X.specialBack hx hy1 hown (mvT hZ w1) (mvT hZ w2) (mvT hZ w4) hy (backOf (W := (rest.map fun v => v.category).sum) hM hZ w4 w3 n1 n2) (g := mkF m pc Ls (argsL.reverse ++ .ref a :: rest)) rfl hsz (Steps.refl _) (a := a) (argsL := argsL) (rest := rest) (lenOf pd hl) rfl (Nat.le_of_eq (Nat.zero_add _)) hd (fun _ _ => ⟨rfl, hE, n3, n4⟩)) hc hs
  exact ⟨v, T', L, h1, h2, fun t k => Steps.trans h3 k⟩
theorem own_cV (C' S' : Nat) (rest : List Value) (pc : Nat) (Ls : Array Slot) {b : Addr} (X : Stand p l e R s m args below meth c T locs cells slots) (hx : p.tables.exec = Jvm.exec) (hZ : Z.Warmed39 s.vm) (hown : s.vm.findClass own = some m.cls) (E : Exa Z h b C) (w1 : (Cond.methodLink own index y).before a0 Z = true) (w2 : (Cond.declares y).before a0 Z = true) (hnf : NotFace s y) (ws : (Cond.selects C y z).before a0 Z = true) (wi : (Cond.instanceMethod z).before a0 Z = true) (w3 : (Cond.initialized z.cls).before a0 Z = true) (w4 : (Cond.code z bytes maxL ret).before a0 Z = true)
    (hM : MF l Z z bytes maxL ret rm (.ref b :: argsL).toArray h Q) (pd : parseMethodDescriptor y.desc = some ⟨ps, r⟩) (hsz : Ls.size = c.maxLocals) (hd : decode c.code pc = .ok (.invokevirtual index, 3)) (hE : T.heap = h) (hl : argsL.length = ps.length) (hc : cells + rm.cells = C') (hs : slots + rm.slots = S') (hn : own_num rm R rest maxL cells slots = true) (hy : y.cls ≠ "java/lang/invoke/MethodHandle" ∧ y.cls ≠ "java/lang/invoke/VarHandle") :
    ∃ (v : Option Value) (T' : State) (L : List Loc), Stand p l e R s m args below meth c T' (locs ++ L) C' S' ∧ Q v T'.heap L ∧ ∀ target, Steps p.tables e below (T'.setTop (mkF m (pc + 3) Ls (v.toList ++ rest))) target → Steps p.tables e below (T.setTop (mkF m pc Ls (argsL.reverse ++ .ref b :: rest))) target := by
  obtain ⟨n1, n2, n3, n4⟩ := own_numE hn
  obtain ⟨cq, kq, qa, qb, qc⟩ := isOf hZ hE E
  obtain ⟨v, T', L, h1, h2, h3⟩ := own_cb cells slots rm.cells rm.slots C' S' (X.virtualBack hx hown (mvT hZ w1) (mvT hZ w2) hnf (mvT hZ ws) (mvT hZ wi) hy (backOf (W := (rest.map fun v => v.category).sum) hM hZ w4 w3 n1 n2) qa qc (g := mkF m pc Ls (argsL.reverse ++ .ref b :: rest)) rfl hsz (Steps.refl _) (argsL := argsL) (rest := rest) (lenOf pd hl) rfl (Nat.le_of_eq (Nat.zero_add _)) hd (fun _ _ => ⟨rfl, hE, n3, n4⟩)) hc hs
  exact ⟨v, T', L, h1, h2, fun t k => Steps.trans h3 k⟩
end Own3
section Own4
variable {p : Program} {l : Launch} {e : Env} {R : Room} {s : State} {m : MethodId} {args : Array Value} {below : List Frame} {meth : Method} {c : Code} {T target : State} {locs : List Loc} {cells slots : Nat} {bs : ByteArray} {pc pc' : Nat} {Ls : Array Slot} {st : List Value} {o i : Int} {y : MethodName} {S : Spec} {ml : Nat} {rt : Option FieldType} {s' sa : State} {a' : Array Value} {b' : List Frame}
theorem zi (X : Stand p l e R s m args below meth c T locs cells slots) (B : BodyLoose p l y S bs ml rt e s' m a' b' meth c sa) {k : Nat} {v : Int32} (hd : decode bs pc = .ok (.iload k, 2)) (hl : Ls[k]? = some (.val (.int v))) (hr : Steps p.tables e below (T.setTop (mkF m (pc + 2) Ls (.int v :: st))) target) : Steps p.tables e below (T.setTop (mkF m pc Ls st)) target := XS.iload X.here B.exec rfl (hb B.bytes hd) hl hr
theorem zj (X : Stand p l e R s m args below meth c T locs cells slots) (B : BodyLoose p l y S bs ml rt e s' m a' b' meth c sa) {k : Fin 4} {v : Int32} (hd : decode bs pc = .ok (.iload_n k, 1)) (hl : Ls[k.val]? = some (.val (.int v))) (hr : Steps p.tables e below (T.setTop (mkF m (pc + 1) Ls (.int v :: st))) target) : Steps p.tables e below (T.setTop (mkF m pc Ls st)) target := XS.iloadN X.here B.exec rfl (hb B.bytes hd) hl hr
theorem za (X : Stand p l e R s m args below meth c T locs cells slots) (B : BodyLoose p l y S bs ml rt e s' m a' b' meth c sa) {k : Nat} {v : Value} (hd : decode bs pc = .ok (.aload k, 2)) (hl : Ls[k]? = some (.val v)) (hv : v.isRef = true) (hr : Steps p.tables e below (T.setTop (mkF m (pc + 2) Ls (v :: st))) target) : Steps p.tables e below (T.setTop (mkF m pc Ls st)) target := XS.aload X.here B.exec rfl (hb B.bytes hd) hl hv hr
theorem zb (X : Stand p l e R s m args below meth c T locs cells slots) (B : BodyLoose p l y S bs ml rt e s' m a' b' meth c sa) {k : Fin 4} {v : Value} (hd : decode bs pc = .ok (.aload_n k, 1)) (hl : Ls[k.val]? = some (.val v)) (hv : v.isRef = true) (hr : Steps p.tables e below (T.setTop (mkF m (pc + 1) Ls (v :: st))) target) : Steps p.tables e below (T.setTop (mkF m pc Ls st)) target := XS.aloadN X.here B.exec rfl (hb B.bytes hd) hl hv hr
theorem zc (X : Stand p l e R s m args below meth c T locs cells slots) (B : BodyLoose p l y S bs ml rt e s' m a' b' meth c sa) (hd : decode bs pc = .ok (.iconst i, 1)) (hr : Steps p.tables e below (T.setTop (mkF m (pc + 1) Ls (.int (Int32.ofInt i) :: st))) target) : Steps p.tables e below (T.setTop (mkF m pc Ls st)) target := XS.iconst X.here B.exec rfl (hb B.bytes hd) hr
theorem zd (X : Stand p l e R s m args below meth c T locs cells slots) (B : BodyLoose p l y S bs ml rt e s' m a' b' meth c sa) (hd : decode bs pc = .ok (.bipush i, 2)) (hr : Steps p.tables e below (T.setTop (mkF m (pc + 2) Ls (.int (Int8.ofInt i).toInt32 :: st))) target) : Steps p.tables e below (T.setTop (mkF m pc Ls st)) target := XS.bipush X.here B.exec rfl (hb B.bytes hd) hr
theorem zs (X : Stand p l e R s m args below meth c T locs cells slots) (B : BodyLoose p l y S bs ml rt e s' m a' b' meth c sa) {k : Nat} {v : Int32} {l' : Array Slot} (hd : decode bs pc = .ok (.istore k, 2)) (hl : storeLocals Ls k (.int v) = some l') (hr : Steps p.tables e below (T.setTop (mkF m (pc + 2) l' st)) target) : Steps p.tables e below (T.setTop (mkF m pc Ls (.int v :: st))) target := XS.istore X.here B.exec rfl (hb B.bytes hd) rfl hl hr
theorem zt (X : Stand p l e R s m args below meth c T locs cells slots) (B : BodyLoose p l y S bs ml rt e s' m a' b' meth c sa) {k : Fin 4} {v : Int32} {l' : Array Slot} (hd : decode bs pc = .ok (.istore_n k, 1)) (hl : storeLocals Ls k.val (.int v) = some l') (hr : Steps p.tables e below (T.setTop (mkF m (pc + 1) l' st)) target) : Steps p.tables e below (T.setTop (mkF m pc Ls (.int v :: st))) target := XS.istoreN X.here B.exec rfl (hb B.bytes hd) rfl hl hr
theorem zn (X : Stand p l e R s m args below meth c T locs cells slots) (B : BodyLoose p l y S bs ml rt e s' m a' b' meth c sa) {cd : ClassFile.Cond} {u v : Int32} (hd : decode bs pc = .ok (.if_icmp cd o, 3)) (hc : if_icmp.holds cd u v = false) (hr : Steps p.tables e below (T.setTop (mkF m (pc + 3) Ls st)) target) : Steps p.tables e below (T.setTop (mkF m pc Ls (.int v :: .int u :: st))) target := XS.icmpNo X.here B.exec rfl (hb B.bytes hd) rfl hc hr
theorem zy (X : Stand p l e R s m args below meth c T locs cells slots) (B : BodyLoose p l y S bs ml rt e s' m a' b' meth c sa) {cd : ClassFile.Cond} {u v : Int32} (hd : decode bs pc = .ok (.if_icmp cd o, 3)) (hc : if_icmp.holds cd u v = true) (q : decide (0 ≤ (pc : Int) + o ∧ ((pc : Int) + o).toNat = pc') = true) (hr : Steps p.tables e below (T.setTop (mkF m pc' Ls st)) target) : Steps p.tables e below (T.setTop (mkF m pc Ls (.int v :: .int u :: st))) target := XS.icmpYes X.here B.exec rfl rfl (hb B.bytes hd) rfl hc (of_decide_eq_true q).1 (of_decide_eq_true q).2 hr
theorem zo (X : Stand p l e R s m args below meth c T locs cells slots) (B : BodyLoose p l y S bs ml rt e s' m a' b' meth c sa) {cd : ClassFile.Cond} {u : Int32} (hd : decode bs pc = .ok (.ifCond cd o, 3)) (hc : ifCond.holds cd u = false) (hr : Steps p.tables e below (T.setTop (mkF m (pc + 3) Ls st)) target) : Steps p.tables e below (T.setTop (mkF m pc Ls (.int u :: st))) target := XS.ifNo X.here B.exec rfl (hb B.bytes hd) rfl hc hr
theorem zp (X : Stand p l e R s m args below meth c T locs cells slots) (B : BodyLoose p l y S bs ml rt e s' m a' b' meth c sa) {cd : ClassFile.Cond} {u : Int32} (hd : decode bs pc = .ok (.ifCond cd o, 3)) (hc : ifCond.holds cd u = true) (q : decide (0 ≤ (pc : Int) + o ∧ ((pc : Int) + o).toNat = pc') = true) (hr : Steps p.tables e below (T.setTop (mkF m pc' Ls st)) target) : Steps p.tables e below (T.setTop (mkF m pc Ls (.int u :: st))) target := XS.ifYes X.here B.exec rfl rfl (hb B.bytes hd) rfl hc (of_decide_eq_true q).1 (of_decide_eq_true q).2 hr
theorem zg (X : Stand p l e R s m args below meth c T locs cells slots) (B : BodyLoose p l y S bs ml rt e s' m a' b' meth c sa) (hd : decode bs pc = .ok (.goto o, 3)) (q : decide (0 ≤ (pc : Int) + o ∧ ((pc : Int) + o).toNat = pc') = true) (hr : Steps p.tables e below (T.setTop (mkF m pc' Ls st)) target) : Steps p.tables e below (T.setTop (mkF m pc Ls st)) target := XS.goto X.here B.exec rfl rfl (hb B.bytes hd) (of_decide_eq_true q).1 (of_decide_eq_true q).2 hr
end Own4
abbrev MW (l : Launch) (Z : State) (EL : List (String × Nat)) (y : MethodName) (cd : ByteArray) (ml : Nat) (rt : Option FieldType) (R : Room) (a : Array Value) (h0 : Heap) (Q : Option Value → Heap → List Loc → Prop) : Prop :=
  MetFree l y (head1 [Jvm.Cond.code y cd ml rt] R) (fun b U => b = a ∧ Z.Warmed39 U.vm ∧ U.heap = h0 ∧ CHv Z EL U.vm h0) (fun _ _ _ _ _ => True) (fun _ U o U' => ∃ v L, o = .returned v ∧ Q v U'.heap L ∧ CHr Z EL U.vm U.heap U'.vm U'.heap ∧ ReturnedEndW U o U' L R.cells R.slots)
theorem own_sWm {l : Launch} {Z : State} {EL : List (String × Nat)} {y : MethodName} {cd : ByteArray} {ml : Nat} {rt : Option FieldType} {R : Room} {a : Array Value} {h0 : Heap} {Q : Option Value → Heap → List Loc → Prop} {K : String} {L0 : Array Slot} (hpn : plainFor y = true) (hK : y.cls = K) (hE : ∀ m, entryFrame m a ml = mkF m 0 L0 [])
    (H : ∀ p e s m below meth c s₁, BodyLoose p l y (head1 [Jvm.Cond.code y cd ml rt] R) cd ml rt e s m a below meth c s₁ → Z.Warmed39 s.vm → s.heap = h0 → p.tables.exec = Jvm.exec → c.code = cd → c.maxLocals = ml → s.vm.findClass K = some m.cls → meth.name = y.name → Stand p l e R (s.setVm s.vm) m a below meth c s₁ [] 0 0 → s₁.heap = h0 → (∀ t, Steps p.tables e below (s₁.setTop (mkF m 0 L0 [])) t → Steps p.tables e below (s₁.setTop (entryFrame m a ml)) t) →
      CHv Z EL s.vm h0 → s.Since s.vm h0.size → h0.size ≤ h0.size → CHr Z EL s.vm h0 s.vm h0 →
      ∃ s₂ o, Steps p.tables e below (s₁.setTop (entryFrame m a ml)) s₂ ∧ s₂.status = .running ∧ Ended s₂ below o ∧ ∃ v L, o = .returned v ∧ Q v s₂.heap L ∧ CHr Z EL s.vm s.heap s₂.vm s₂.heap ∧ ReturnedEndW s o s₂ L R.cells R.slots) : MW l Z EL y cd ml rt R a h0 Q := by
  subst hK
  refine MetFree.of_bodySF hpn hisR ?_
  intro p e s m args below meth c s₁ Bd hml0 hP hK
  obtain ⟨rfl, hZ, hh, hC0⟩ := hP
  exact H p e s m below meth c s₁ Bd hZ hh Bd.exec Bd.bytes hml0 (findClass_of_methodNamed Bd.named) (name_of_methodNamed Bd.named Bd.method).1 (Stand.of_body Bd) (by rw [← hh, Bd.state]; rfl) (fun t k => castTop (hE m) k) hC0 ((State.WarmedH.refl s).since _) (Nat.le_refl _) (CHr.refl hC0)
theorem own_sW {l : Launch} {Z : State} {EL : List (String × Nat)} {y : MethodName} {cd : ByteArray} {ml : Nat} {rt : Option FieldType} {R : Room} {a : Array Value} {h0 : Heap} {Q : Option Value → Heap → List Loc → Prop} {K : String} {L0 : Array Slot} (hpn : plainName K = true) (hK : y.cls = K) (hE : ∀ m, entryFrame m a ml = mkF m 0 L0 [])
    (H : ∀ p e s m below meth c s₁, BodyLoose p l y (head1 [Jvm.Cond.code y cd ml rt] R) cd ml rt e s m a below meth c s₁ → Z.Warmed39 s.vm → s.heap = h0 → p.tables.exec = Jvm.exec → c.code = cd → c.maxLocals = ml → s.vm.findClass K = some m.cls → meth.name = y.name → Stand p l e R (s.setVm s.vm) m a below meth c s₁ [] 0 0 → s₁.heap = h0 → (∀ t, Steps p.tables e below (s₁.setTop (mkF m 0 L0 [])) t → Steps p.tables e below (s₁.setTop (entryFrame m a ml)) t) →
      CHv Z EL s.vm h0 → s.Since s.vm h0.size → h0.size ≤ h0.size → CHr Z EL s.vm h0 s.vm h0 →
      ∃ s₂ o, Steps p.tables e below (s₁.setTop (entryFrame m a ml)) s₂ ∧ s₂.status = .running ∧ Ended s₂ below o ∧ ∃ v L, o = .returned v ∧ Q v s₂.heap L ∧ CHr Z EL s.vm s.heap s₂.vm s₂.heap ∧ ReturnedEndW s o s₂ L R.cells R.slots) : MW l Z EL y cd ml rt R a h0 Q := own_sWm (plainFor_of_name (hK ▸ hpn)) hK hE H
theorem own_nf {s : State} {args : Array Value} {y x z : MethodName} {C : String} (h : (Cond.selects C x z).before args s = true) (e : z.cls = y.cls) : NotFace s y := fun r0 h0 => by
  obtain ⟨c2, r2, m2, q1, q2, q3, q4, kP, hkP, hkPi⟩ := Cond.selects_spec h
  have h1 := findClass_of_methodNamed q3
  have h2 := findClass_of_methodNamed h0
  rw [e] at h1
  have e2 : m2.cls = r0.cls := Option.some.inj (h1.symm.trans h2)
  exact ⟨kP, e2 ▸ hkP, hkPi⟩
theorem own_same {s : State} {args : Array Value} {y x z : MethodName} {C : String} (hi : (Cond.instanceMethod y).before args s = true) (h : (Cond.selects C x z).before args s = true) (e : z.cls = y.cls) (hy : y.cls ≠ "java/lang/invoke/MethodHandle" ∧ y.cls ≠ "java/lang/invoke/VarHandle") : (Cond.sameMethod y.cls y.cls y.name y.desc).before args s = true := by
  obtain ⟨mk, methM, hnamed, hmethM, -, -⟩ := Cond.instanceMethod_spec hi
  have hfound : s.methodFound? y.cls y.name y.desc = some mk := State.methodFound?_of_named hnamed hy
  obtain ⟨kr, k1, k2⟩ := own_nf (y := y) h e mk hnamed
  have hc := findClass_of_methodNamed hnamed
  have hn : s.methodNamed? ⟨y.cls, y.name, y.desc⟩ = some mk := hnamed
  simp [Cond.before, Cond.holds, Cond.value, hc, hfound, hn, k1, k2]
theorem own_ws {a0 : Array Value} {Z : State} (hw : ∀ d ∈ tables_1, d.before a0 Z = true) : ∀ d ∈ StrChars.Road.words, d.before a0 Z = true := fun d hd => hw d ((by decide +kernel : ∀ d ∈ StrChars.Road.words, d ∈ tables_1) d hd)
theorem own_wq {a0 : Array Value} {Z : State} (hw : ∀ d ∈ tables_1, d.before a0 Z = true) : ∀ d ∈ StrChars.Road.wordsEq, d.before a0 Z = true := fun d hd => hw d ((by decide +kernel : ∀ d ∈ StrChars.Road.wordsEq, d ∈ tables_1) d hd)
theorem own_wS {a0 : Array Value} {Z : State} (hw : ∀ d ∈ tables_1, d.before a0 Z = true) : ∀ d ∈ Bundle.stringAtoms, d.before a0 Z = true := fun d hd => hw d ((by decide +kernel : ∀ d ∈ Bundle.stringAtoms, d ∈ tables_1) d hd)
theorem own_safe_null {Z : State} {EL : List (String × Nat)} {vm : Vm} {h : Heap} {x : Addr} (hal : Z.vm.Alike vm) (E : Exa Z h x "java/lang/String") (F : Fld Z h x "java/lang/String" "value" "[B" .null) : Safe Z EL vm h x := fun B => by
  obtain ⟨cell, k, e1, e2, e3, -, -⟩ := E
  obtain ⟨cell', cf, k', i, f, f1, f2, f3, -, -, -, f7⟩ := F
  cases e1.symm.trans f1
  obtain ⟨p, -, u, a, -, q, -, G, rfl | rfl⟩ := B
  · cases (show h[q.sa]? = some q.sC from G.ha).symm.trans e1
    obtain ⟨cS, ⟨⟨s1, s2, s3, ⟨cv, kv, iv, s4, s4'⟩, -, s6, s7, s8, -⟩, -, -⟩, -⟩ := G
    obtain ⟨kv', z4⟩ := ff_back (U := Wst Z vm h) hal s4
    cases z4.symm.trans f2
    rw [s8] at f7
    cases f7
  · cases (show h[q.sd]? = some q.SA from G.hd).symm.trans e1
    obtain ⟨cS, -, -, hB, -⟩ := G
    have hB : vm.findClass "[B" = some q.SA.cls := hB
    rw [hal.findClass] at hB
    obtain ⟨k1, q1, q2⟩ := Vm.findClass_spec hB
    obtain ⟨k2, q3, q4⟩ := Vm.findClass_spec e2
    cases q1.symm.trans q3
    exact absurd (q2.symm.trans q4) (by decide)
theorem own_EW {a0 : Array Value} {Z : State} (hw : ∀ d ∈ tables_1, d.before a0 Z = true) : EW Z a0 consts_1 := (EW.cons (own := "com/example/hearthline/hearthline/mapping/Unit") (index := 18) (text := "http://unitsofmeasure.org") (w55_ hw) (by decide) (EW.cons (own := "com/example/hearthline/hearthline/mapping/UnitTextPinLaw") (index := 15) (text := "http://unitsofmeasure.org") (w31_ hw) (by decide) (EW.cons (own := "com/example/hearthline/hearthline/mapping/UnitTextPinLaw") (index := 18) (text := "urn:iso:std:iso:11073:10101") (w87_ hw) (by decide) (EW.cons (own := "java/lang/String") (index := 7) (text := "") (w88_ hw) (by decide) EW.nil))))
abbrev own_at (l : List Int32) (j : Int32) : Int32 := l.getD j.toNatClampNeg 0
theorem own_atV (l : List Int32) (j : Int32) : (l.map Value.int).getD j.toNatClampNeg (.int 0) = .int (own_at l j) := by
  simp only [own_at, List.getD_eq_getElem?_getD, List.getElem?_map]
  cases l[j.toNatClampNeg]? <;> rfl
theorem own_loop1 {G : Prop} (μ : Int32 → Nat) (I : State → List Loc → Int32 → Prop) (step : ∀ T L i, I T L i → (∀ T' L' i', μ i' < μ i → I T' L' i' → G) → G) (T : State) (L : List Loc) (i : Int32) (h : I T L i) : G := by
  have : ∀ k T L i, μ i = k → I T L i → G := by
    intro k
    induction k using Nat.strongRecOn with
    | ind k ih =>
      intro T L i hk hI
      exact step T L i hI (fun T' L' i' hlt hI' => ih (μ i') (hk ▸ hlt) T' L' i' rfl hI')
  exact this _ T L i rfl h
abbrev own_U : List Int32 := ([104, 116, 116, 112, 58, 47, 47, 117, 110, 105, 116, 115, 111, 102, 109, 101, 97, 115, 117, 114, 101, 46, 111, 114, 103] : List Int32)
theorem own_b25 (x : Int32) : ¬ ((x &&& (2147483647 : Int32)) % (25 : Int32)) < 0 ∧ ((x &&& (2147483647 : Int32)) % (25 : Int32)) < (25 : Int32) := by
  have h0 : ¬ (x &&& (2147483647 : Int32)) < 0 := fun h => absurd ((XT.and_neg32 _ _).mp h).2 (by decide)
  have h1 : 0 ≤ (x &&& (2147483647 : Int32)).toInt := by rw [XT.negI32] at h0; omega
  have e0 : (0 : Int32).toInt = 0 := rfl
  have e25 : (25 : Int32).toInt = 25 := rfl
  rw [Int32.lt_iff_toInt_lt, Int32.lt_iff_toInt_lt, Int32.toInt_mod, e25, e0]
  have a1 := Int.tmod_nonneg 25 h1
  have a2 := Int.tmod_lt_of_pos (x &&& (2147483647 : Int32)).toInt (b := 25) (by decide)
  omega
theorem own_lt25 (x : Int32) : ((x &&& (2147483647 : Int32)) % (25 : Int32)).toNatClampNeg < (own_U.map Value.int).length := by
  obtain ⟨h1, h2⟩ := own_b25 x
  have e0 : (0 : Int32).toInt = 0 := rfl
  have e25 : (25 : Int32).toInt = 25 := rfl
  rw [Int32.lt_iff_toInt_lt, e0] at h1
  rw [Int32.lt_iff_toInt_lt, e25] at h2
  show _ < 25
  simp only [Int32.toNatClampNeg]; omega
theorem own_setlat {k : Nat} {c : Int32} (h : ¬ c < 0 ∧ ¬ (255 : Int32) < c) : ∀ x ∈ own_U.set k c, ¬ x < 0 ∧ ¬ (255 : Int32) < x := fun x hx => by
  rcases List.mem_or_eq_of_mem_set hx with q | rfl
  · exact (by decide : ∀ x ∈ own_U, ¬ x < 0 ∧ ¬ (255 : Int32) < x) x q
  · exact h
theorem own_setlen (k : Nat) (c : Int32) : (own_U.set k c).length = 25 := by rw [List.length_set]; rfl
theorem own_setT {j c : Int32} (h : own_at own_U j = c) (hl : j.toNatClampNeg < (own_U.map Value.int).length) : own_U.set j.toNatClampNeg c = own_U := by
  subst h
  apply List.ext_getElem?
  intro i
  rw [List.getElem?_set]
  split
  · next e =>
    subst e
    rw [List.length_map] at hl
    rw [if_pos hl, own_at, List.getD_eq_getElem?_getD, List.getElem?_eq_getElem hl]; rfl
  · rfl
theorem own_setF {j c : Int32} (h : ¬ own_at own_U j = c) (hl : j.toNatClampNeg < (own_U.map Value.int).length) : ¬ own_U.set j.toNatClampNeg c = own_U := fun q => h (by
  rw [List.length_map] at hl
  have e : (own_U.set j.toNatClampNeg c)[j.toNatClampNeg]? = some c := by rw [List.getElem?_set_self hl]
  rw [q] at e
  simp only [own_at, List.getD_eq_getElem?_getD, e]; rfl)
theorem own_c16 {c : Int32} (h : nar .char c = c) : ∃ a b : Fin 256, c = Int32.ofNat (256 * a.val + b.val) := by
  have hk := c.toUInt32.toUInt16.toNat_lt
  have e : c = Int32.ofNat c.toUInt32.toUInt16.toNat := by
    conv => lhs; rw [← h]
    simp only [nar]
    apply Int32.toBitVec_inj.mp
    show _ = BitVec.ofNat 32 _
    apply BitVec.eq_of_toNat_eq
    simp
    have : c.toUInt32.toNat = c.toBitVec.toNat := rfl
    omega
  refine ⟨⟨c.toUInt32.toUInt16.toNat / 256, by omega⟩, ⟨c.toUInt32.toUInt16.toNat % 256, by omega⟩, ?_⟩
  have : 256 * (c.toUInt32.toUInt16.toNat / 256) + c.toUInt32.toUInt16.toNat % 256 = c.toUInt32.toUInt16.toNat := Nat.div_add_mod _ _
  show c = Int32.ofNat (256 * (c.toUInt32.toUInt16.toNat / 256) + c.toUInt32.toUInt16.toNat % 256)
  rw [this]; exact e
theorem own_b8 (x : Int32) : (x.toInt8.toInt32) &&& (255 : Int32) = x &&& (255 : Int32) := by
  apply Int32.toBitVec_inj.mp
  apply BitVec.eq_of_getLsbD_eq
  intro i hi
  simp only [Int32.toBitVec_and, BitVec.getLsbD_and]
  by_cases h : i < 8
  · have : (x.toInt8.toInt32).toBitVec.getLsbD i = x.toBitVec.getLsbD i := by
      show ((x.toBitVec.signExtend 8).signExtend 32).getLsbD i = _
      rw [BitVec.getLsbD_signExtend, BitVec.getLsbD_signExtend]
      simp only [h, hi, decide_true, Bool.true_and, if_true]
    rw [this]
  · have : (255 : Int32).toBitVec.getLsbD i = false := by
      show (255#32).getLsbD i = false
      simp [BitVec.getLsbD_ofNat]
      intro _
      exact Nat.testBit_lt_two_pow (Nat.lt_of_lt_of_le (by decide : 255 < 2 ^ 8) (Nat.pow_le_pow_right (by decide) (Nat.le_of_not_lt h)))
    rw [this]; simp
theorem own_get16 {c : Int32} (h : nar .char c = c) : ((((((((((c >>> ((0 : Int32) &&& 31)))).toInt8.toInt32) &&& (255 : Int32)) <<< ((0 : Int32) &&& 31))) ||| (((((((c >>> ((8 : Int32) &&& 31)))).toInt8.toInt32) &&& (255 : Int32)) <<< ((8 : Int32) &&& 31))))).toUInt32.toUInt16.toUInt32.toInt32) = c := by
  have hn : c.toBitVec.toNat < 65536 := by
    rw [← h]
    show (c.toUInt32.toUInt16.toUInt32.toInt32).toBitVec.toNat < 65536
    have := c.toUInt32.toUInt16.toNat_lt
    simp at this ⊢
    omega
  rw [own_b8, own_b8]
  have s0 : c >>> ((0 : Int32) &&& 31) = c := by
    apply Int32.toBitVec_inj.mp
    show c.toBitVec.sshiftRight 0 = c.toBitVec
    simp
  have s1 : (c &&& (255 : Int32)) <<< ((0 : Int32) &&& 31) = c &&& (255 : Int32) := by
    apply Int32.toBitVec_inj.mp
    show (c &&& (255 : Int32)).toBitVec <<< 0 = (c &&& (255 : Int32)).toBitVec
    simp
  rw [s0, s1]
  have key : (c &&& (255 : Int32)) ||| (((c >>> ((8 : Int32) &&& 31)) &&& (255 : Int32)) <<< ((8 : Int32) &&& 31)) = c := by
    apply Int32.toBitVec_inj.mp
    apply BitVec.eq_of_getLsbD_eq
    intro i hi
    show ((c.toBitVec &&& 255#32) ||| (((c.toBitVec.sshiftRight 8) &&& 255#32) <<< 8)).getLsbD i = c.toBitVec.getLsbD i
    rw [BitVec.getLsbD_or, BitVec.getLsbD_and, BitVec.getLsbD_shiftLeft, BitVec.getLsbD_and, BitVec.getLsbD_sshiftRight]
    have b : ∀ j, (255#32).getLsbD j = decide (j < 8) := by
      intro j
      rw [BitVec.getLsbD_ofNat]
      by_cases q : j < 8
      · have : j = 0 ∨ j = 1 ∨ j = 2 ∨ j = 3 ∨ j = 4 ∨ j = 5 ∨ j = 6 ∨ j = 7 := by omega
        rcases this with rfl | rfl | rfl | rfl | rfl | rfl | rfl | rfl <;> rfl
      · have : (255 : Nat).testBit j = false := Nat.testBit_lt_two_pow (Nat.lt_of_lt_of_le (by decide : 255 < 2 ^ 8) (Nat.pow_le_pow_right (by decide) (Nat.le_of_not_lt q)))
        rw [this]; simp [q]
    rw [b, b]
    by_cases q1 : i < 8
    · simp [q1, hi]
    · by_cases q2 : i < 16
      · have e1 : i - 8 < 8 := by omega
        have e2 : 8 + (i - 8) = i := by omega
        have e3 : 8 + (i - 8) < 32 := by omega
        simp [q1, hi, e1, e2, (by omega : i - 8 < 32)]
      · have e1 : ¬ i - 8 < 8 := by omega
        have e2 : c.toBitVec.getLsbD i = false := by
          rw [BitVec.getLsbD]
          exact Nat.testBit_lt_two_pow (Nat.lt_of_lt_of_le hn (by
            show 2 ^ 16 ≤ 2 ^ i
            exact Nat.pow_le_pow_right (by decide) (Nat.le_of_not_lt q2)))
        rw [e2]; simp [q1, e1]
  rw [key]; exact h
theorem own_get16l {c : Int32} (h : nar .char c = c) (hc : (255 : Int32) < c) : (255 : Int32) < ((((((((((c >>> ((0 : Int32) &&& 31)))).toInt8.toInt32) &&& (255 : Int32)) <<< ((0 : Int32) &&& 31))) ||| (((((((c >>> ((8 : Int32) &&& 31)))).toInt8.toInt32) &&& (255 : Int32)) <<< ((8 : Int32) &&& 31))))).toUInt32.toUInt16.toUInt32.toInt32) := by rw [own_get16 h]; exact hc
theorem ef0 (m : MethodId) (x0 : Int32) (x1 : Int32) (x2 : Int32) (x3 : Int32) (x4 : Int32) (x5 : Int32) : entryFrame m #[.int x0, .int x1, .int x2, .int x3, .int x4, .int x5] maxLocals = mkF m 0 #[.val (.int x0), .val (.int x1), .val (.int x2), .val (.int x3), .val (.int x4), .val (.int x5), .unset, .unset, .unset, .unset, .unset, .unset, .unset, .unset, .unset, .unset] [] := by first | (simp [entryFrame, mkF, argsToLocals, Value.category, maxLocals]; done) | rfl
theorem pn0 : plainName "com/example/hearthline/hearthline/mapping/UnitTextPinLaw" = true := by first | (simp [plainName, overriddenIn]; done) | decide +kernel
theorem ef1 (m : MethodId) (x0 : Addr) (x1 : Addr) : entryFrame m #[.ref x0, .ref x1] 2 = mkF m 0 #[.val (.ref x0), .val (.ref x1)] [] := by first | (simp [entryFrame, mkF, argsToLocals, Value.category]; done) | rfl
theorem pn1 : plainName "java/lang/String" = true := by first | (simp [plainName, overriddenIn]; done) | decide +kernel
theorem d0_0 : decode jdk_42_method_3_code 0 = .ok (.aload_n 0, 1) := by decide +kernel
theorem d0_1 : decode jdk_42_method_3_code 1 = .ok (.aload_n 1, 1) := by decide +kernel
theorem d0_2 : decode jdk_42_method_3_code 2 = .ok (.iconst 0, 1) := by decide +kernel
theorem d0_3 : decode jdk_42_method_3_code 3 = .ok (.aload_n 1, 1) := by decide +kernel
theorem d0_4 : decode jdk_42_method_3_code 4 = .ok (.arraylength, 1) := by decide +kernel
theorem d0_5 : decode jdk_42_method_3_code 5 = .ok (.aconst_null, 1) := by decide +kernel
theorem d0_6 : decode jdk_42_method_3_code 6 = .ok (.invokespecial 27, 3) := by decide +kernel
theorem ef2 (m : MethodId) (x0 : Addr) (x1 : Addr) (x2 : Int32) (x3 : Int32) : entryFrame m #[.ref x0, .ref x1, .int x2, .int x3, .null] 6 = mkF m 0 #[.val (.ref x0), .val (.ref x1), .val (.int x2), .val (.int x3), .val .null, .unset] [] := by first | (simp [entryFrame, mkF, argsToLocals, Value.category]; done) | rfl
theorem d1_0 : decode jdk_42_method_149_code 0 = .ok (.aload_n 0, 1) := by decide +kernel
theorem d1_1 : decode jdk_42_method_149_code 1 = .ok (.invokespecial 1, 3) := by decide +kernel
theorem d1_4 : decode jdk_42_method_149_code 4 = .ok (.iload_n 3, 1) := by decide +kernel
theorem d1_5 : decode jdk_42_method_149_code 5 = .ok (.ifCond .ne 22, 3) := by decide +kernel
theorem d1_27 : decode jdk_42_method_149_code 27 = .ok (.getstatic 38, 3) := by decide +kernel
theorem d1_30 : decode jdk_42_method_149_code 30 = .ok (.ifCond .eq 28, 3) := by decide +kernel
theorem d1_33 : decode jdk_42_method_149_code 33 = .ok (.aload_n 1, 1) := by decide +kernel
theorem d1_34 : decode jdk_42_method_149_code 34 = .ok (.iload_n 2, 1) := by decide +kernel
theorem d1_35 : decode jdk_42_method_149_code 35 = .ok (.iload_n 3, 1) := by decide +kernel
theorem d1_36 : decode jdk_42_method_149_code 36 = .ok (.invokestatic 177, 3) := by decide +kernel
theorem ef3 (m : MethodId) (x0 : Addr) (x1 : Int32) (x2 : Int32) : entryFrame m #[.ref x0, .int x1, .int x2] 6 = mkF m 0 #[.val (.ref x0), .val (.int x1), .val (.int x2), .unset, .unset, .unset] [] := by first | (simp [entryFrame, mkF, argsToLocals, Value.category]; done) | rfl
theorem pn2 : plainName "java/lang/StringUTF16" = true := by first | (simp [plainName, overriddenIn]; done) | decide +kernel
theorem d2_0 : decode jdk_52_method_16_code 0 = .ok (.iload_n 2, 1) := by decide +kernel
theorem d2_1 : decode jdk_52_method_16_code 1 = .ok (.newarray .byte, 2) := by decide +kernel
theorem d2_3 : decode jdk_52_method_16_code 3 = .ok (.astore_n 3, 1) := by decide +kernel
theorem d2_4 : decode jdk_52_method_16_code 4 = .ok (.aload_n 0, 1) := by decide +kernel
theorem d2_5 : decode jdk_52_method_16_code 5 = .ok (.iload_n 1, 1) := by decide +kernel
theorem d2_6 : decode jdk_52_method_16_code 6 = .ok (.aload_n 3, 1) := by decide +kernel
theorem d2_7 : decode jdk_52_method_16_code 7 = .ok (.iconst 0, 1) := by decide +kernel
theorem d2_8 : decode jdk_52_method_16_code 8 = .ok (.iload_n 2, 1) := by decide +kernel
theorem d2_9 : decode jdk_52_method_16_code 9 = .ok (.invokestatic 115, 3) := by decide +kernel
theorem ef4 (m : MethodId) (x0 : Addr) (x1 : Int32) (x2 : Addr) (x3 : Int32) (x4 : Int32) : entryFrame m #[.ref x0, .int x1, .ref x2, .int x3, .int x4] 7 = mkF m 0 #[.val (.ref x0), .val (.int x1), .val (.ref x2), .val (.int x3), .val (.int x4), .unset, .unset] [] := by first | (simp [entryFrame, mkF, argsToLocals, Value.category]; done) | rfl
theorem d3_0 : decode jdk_52_method_21_code 0 = .ok (.iconst 0, 1) := by decide +kernel
theorem d3_1 : decode jdk_52_method_21_code 1 = .ok (.istore 5, 2) := by decide +kernel
theorem d3_3 : decode jdk_52_method_21_code 3 = .ok (.iload 5, 2) := by decide +kernel
theorem d3_5 : decode jdk_52_method_21_code 5 = .ok (.iload 4, 2) := by decide +kernel
theorem d3_7 : decode jdk_52_method_21_code 7 = .ok (.if_icmp .ge 37, 3) := by decide +kernel
theorem d3_10 : decode jdk_52_method_21_code 10 = .ok (.aload_n 0, 1) := by decide +kernel
theorem d3_11 : decode jdk_52_method_21_code 11 = .ok (.iload_n 1, 1) := by decide +kernel
theorem d3_12 : decode jdk_52_method_21_code 12 = .ok (.caload, 1) := by decide +kernel
theorem d3_13 : decode jdk_52_method_21_code 13 = .ok (.istore 6, 2) := by decide +kernel
theorem d3_15 : decode jdk_52_method_21_code 15 = .ok (.iload 6, 2) := by decide +kernel
theorem d3_17 : decode jdk_52_method_21_code 17 = .ok (.sipush 255, 3) := by decide +kernel
theorem d3_20 : decode jdk_52_method_21_code 20 = .ok (.if_icmp .le 6, 3) := by decide +kernel
theorem d3_23 : decode jdk_52_method_21_code 23 = .ok (.iload 5, 2) := by decide +kernel
theorem d3_25 : decode jdk_52_method_21_code 25 = .ok (.ireturn, 1) := by decide +kernel
-- java/lang/StringUTF16.compress([CI[BII)I
def Q1 (Z : State)  (h0 : Heap) (n0 : Nat) (v : Option Value) (h : Heap) (L : List Loc) : Prop := v = some (.int 0) ∧ Fr n0 L ∧ h = h0
theorem rm1 (l : Launch) (Z : State) (a0 : Array Value) (hw : HW a0 Z) (qa1 : Addr) (qa2 : Addr) (qk3 : ClassId) (qi4 : Int32) (qi5 : Int32) (h0 : Heap) (n0 : Nat) (X00 : Old Z n0 h0) (A_qa1 : Arv Z h0 qa1 qk3 .char (2 : Int32) [.int qi4, .int qi5] (.int 0)) (hc3 : (255 : Int32) < qi4) :
    MF l Z Y0_ jdk_52_method_21_code 7 (some .int) (Rm 0 0 0 0) #[.ref qa1, .int 0, .ref qa2, .int 0, .int 2] h0 (Q1 Z  h0 n0) := by
 refine own_sF pn2 rfl (fun m => ef4 m qa1 (0 : Int32) qa2 (0 : Int32) (2 : Int32)) ?_
 intro p e s m below meth c s₁ Bd hZ hh hx hby hml hown hnm X0 e0 pre0
 have N0 := Fr.nil n0
 have av1 := A_qa1
 obtain ⟨cl1, Ar1, q1, S1, N1, H1, Gf1⟩ := av1
 have hin2 : ¬ ((0 : Int32) < 0 ∨ cl1.slots.size ≤ ((0 : Int32) : Int32).toNatClampNeg) := inb_of S1 (by decide)
 have hat2 : cl1.slots[((0 : Int32) : Int32).toNatClampNeg]? = some (.int qi4) := Has.at H1 hin2 rfl
 refine own_lvF X0 Bd (.int 0) e0 ⟨rfl, N0, rfl⟩ rfl (fun fs hr => pre0 _ (by
  show Sx p e below s₁ m 0 #[rv qa1, iv 0, rv qa2, iv 0, iv 2, .unset, .unset] [] _
  refine zc X0 Bd d3_0 ?_
  refine zs X0 Bd d3_1 (l' := #[rv qa1, iv 0, rv qa2, iv 0, iv 2, iv 0, .unset]) rfl ?_
  refine zi X0 Bd d3_3 rfl ?_
  refine zi X0 Bd d3_5 rfl ?_
  refine zn X0 Bd d3_7 (XT.ii_ge_f ((by decide) : (0 : Int32) < (2 : Int32))) ?_
  refine zb X0 Bd d3_10 rfl rfl ?_
  refine zj X0 Bd d3_11 rfl ?_
  refine X0.caload hx (j := (0 : Int32)) (v := (.int qi4)) (by rw [e0]; exact Ar1.1) (State.isArrayOf_alike hZ.alike Ar1.2.1) Ar1.2.2 hin2 hat2 (g := (mkF m 12 #[rv qa1, iv 0, rv qa2, iv 0, iv 2, iv 0, .unset] [.int 0, .ref qa1])) rfl rfl (hb hby d3_12) _ ?_
  refine zs X0 Bd d3_13 (l' := #[rv qa1, iv 0, rv qa2, iv 0, iv 2, iv 0, iv qi4]) rfl ?_
  refine zi X0 Bd d3_15 rfl ?_
  refine XS.sipush X0.here hx rfl (hb hby d3_17) ?_
  refine zn X0 Bd d3_20 (XT.ii_le_f (hc3 : (255 : Int32) < qi4)) ?_
  refine zi X0 Bd d3_23 rfl ?_
  exact retI X0 hx Bd.returns (hb hby d3_25) hr))
theorem pd0 : parseMethodDescriptor "([CI[BII)I" = some ⟨[(.array .char), .int, (.array .byte), .int, .int], some .int⟩ := by decide +kernel
theorem d2_12 : decode jdk_52_method_16_code 12 = .ok (.istore 4, 2) := by decide +kernel
theorem d2_14 : decode jdk_52_method_16_code 14 = .ok (.iload 4, 2) := by decide +kernel
theorem d2_16 : decode jdk_52_method_16_code 16 = .ok (.iload_n 2, 1) := by decide +kernel
theorem d2_17 : decode jdk_52_method_16_code 17 = .ok (.if_icmp .eq 40, 3) := by decide +kernel
theorem d2_20 : decode jdk_52_method_16_code 20 = .ok (.aload_n 0, 1) := by decide +kernel
theorem d2_21 : decode jdk_52_method_16_code 21 = .ok (.iload_n 1, 1) := by decide +kernel
theorem d2_22 : decode jdk_52_method_16_code 22 = .ok (.iload_n 2, 1) := by decide +kernel
theorem d2_23 : decode jdk_52_method_16_code 23 = .ok (.invokestatic 119, 3) := by decide +kernel
theorem ef5 (m : MethodId) (x0 : Addr) (x1 : Int32) (x2 : Int32) : entryFrame m #[.ref x0, .int x1, .int x2] 5 = mkF m 0 #[.val (.ref x0), .val (.int x1), .val (.int x2), .unset, .unset] [] := by first | (simp [entryFrame, mkF, argsToLocals, Value.category]; done) | rfl
theorem d4_0 : decode jdk_52_method_14_code 0 = .ok (.iload_n 2, 1) := by decide +kernel
theorem d4_1 : decode jdk_52_method_14_code 1 = .ok (.invokestatic 107, 3) := by decide +kernel
theorem ef6 (m : MethodId) (x0 : Int32) : entryFrame m #[.int x0] 1 = mkF m 0 #[.val (.int x0)] [] := by first | (simp [entryFrame, mkF, argsToLocals, Value.category]; done) | rfl
theorem d5_0 : decode jdk_52_method_2_code 0 = .ok (.iload_n 0, 1) := by decide +kernel
theorem d5_1 : decode jdk_52_method_2_code 1 = .ok (.invokestatic 11, 3) := by decide +kernel
theorem d6_0 : decode jdk_52_method_3_code 0 = .ok (.iload_n 0, 1) := by decide +kernel
theorem d6_1 : decode jdk_52_method_3_code 1 = .ok (.ifCond .ge 11, 3) := by decide +kernel
theorem d6_12 : decode jdk_52_method_3_code 12 = .ok (.iload_n 0, 1) := by decide +kernel
theorem d6_13 : decode jdk_52_method_3_code 13 = .ok (.ldc 20, 2) := by decide +kernel
theorem d6_15 : decode jdk_52_method_3_code 15 = .ok (.if_icmp .lt 40, 3) := by decide +kernel
theorem d6_55 : decode jdk_52_method_3_code 55 = .ok (.iload_n 0, 1) := by decide +kernel
theorem d6_56 : decode jdk_52_method_3_code 56 = .ok (.iconst 1, 1) := by decide +kernel
theorem d6_57 : decode jdk_52_method_3_code 57 = .ok (.ishl, 1) := by decide +kernel
theorem d6_58 : decode jdk_52_method_3_code 58 = .ok (.ireturn, 1) := by decide +kernel
-- java/lang/StringUTF16.newBytesLength(I)I
def Q2 (Z : State)  (h0 : Heap) (n0 : Nat) (v : Option Value) (h : Heap) (L : List Loc) : Prop := v = some (.int 4) ∧ Fr n0 L ∧ h = h0
theorem rm2 (l : Launch) (Z : State) (a0 : Array Value) (hw : HW a0 Z)  (h0 : Heap) (n0 : Nat) (X00 : Old Z n0 h0)  :
    MF l Z Y1_ jdk_52_method_3_code 1 (some .int) (Rm 0 0 0 0) #[.int 2] h0 (Q2 Z  h0 n0) := by
 refine own_sF pn2 rfl (fun m => ef6 m (2 : Int32)) ?_
 intro p e s m below meth c s₁ Bd hZ hh hx hby hml hown hnm X0 e0 pre0
 have N0 := Fr.nil n0
 refine own_lvF X0 Bd (.int 4) e0 ⟨rfl, N0, rfl⟩ rfl (fun fs hr => pre0 _ (by
  show Sx p e below s₁ m 0 #[iv 2] [] _
  refine zj X0 Bd d6_0 rfl ?_
  refine zp (pc' := 12) X0 Bd d6_1 (XT.i0_ge_t ((by decide) : ¬ ((2 : Int32) < (0 : Int32)))) rfl ?_
  refine zj X0 Bd d6_12 rfl ?_
  refine X0.ldcInt hx hown (mvT hZ (w77_ hw)) (g := (mkF m 13 #[iv 2] [.int 2])) rfl (hb hby d6_13) _ ?_
  refine zy (pc' := 55) X0 Bd d6_15 (XT.ii_lt_t ((by decide) : (2 : Int32) < (1073741823 : Int32))) rfl ?_
  refine zj X0 Bd d6_55 rfl ?_
  refine zc X0 Bd d6_56 ?_
  refine XS.ishl X0.here hx rfl (hb hby d6_57) rfl ?_
  exact retI X0 hx Bd.returns (hb hby d6_58) hr))
theorem pd1 : parseMethodDescriptor "(I)I" = some ⟨[.int], some .int⟩ := by decide +kernel
theorem d5_4 : decode jdk_52_method_2_code 4 = .ok (.newarray .byte, 2) := by decide +kernel
theorem d5_6 : decode jdk_52_method_2_code 6 = .ok (.areturn, 1) := by decide +kernel
-- java/lang/StringUTF16.newBytesFor(I)[B
def Q3 (Z : State)  (h0 : Heap) (n0 : Nat) (v : Option Value) (h : Heap) (L : List Loc) : Prop := ∃ b2 : Addr, ∃ c2 : ClassId, v = some (.ref b2) ∧ Fr n0 L ∧ Keep h0 h [] ∧ h0.size ≤ b2 ∧ Arv Z h b2 c2 .byte (4 : Int32) [.int 0, .int 0, .int 0, .int 0] (.int 0)
theorem rm3 (l : Launch) (Z : State) (a0 : Array Value) (hw : HW a0 Z)  (h0 : Heap) (n0 : Nat) (X00 : Old Z n0 h0)  :
    MF l Z Y2_ jdk_52_method_2_code 1 (some (.array .byte)) (Rm 1 1 4 12) #[.int 2] h0 (Q3 Z  h0 n0) := by
 refine own_sF pn2 rfl (fun m => ef6 m (2 : Int32)) ?_
 intro p e s m below meth c s₁ Bd hZ hh hx hby hml hown hnm X0 e0 pre0
 have N0 := Fr.nil n0
 obtain ⟨_, T1, L1, X1, hQ1, st1⟩ := own_cS 0 0 [] 1 #[iv 2] X0 hx hZ hown (w74_ hw) (w75_ hw) (w18_ hw) (w76_ hw) (rm2 l Z a0 hw   h0 n0 X00 ) pd1 hml.symm (hb hby d5_1) e0 rfl rfl rfl rfl (by decide)
 obtain ⟨rfl, N1q, e1q⟩ := hQ1
 have N1 := Fr.app N0 N1q
 obtain ⟨T2, h2, c2, X2, e2, E2, A2, st2⟩ := newP (aty := .byte) X1 hx hZ (w20_ hw) e1q (g := (mkF m 4 #[iv 2] [.int 4])) rfl (hb hby d5_4) rfl (by decide) (cap := 4) (by decide) (lE rfl) (lE rfl) (lE rfl)
 obtain ⟨b2, g2⟩ : ∃ z, z = h0.size := ⟨_, rfl⟩
 rw [← g2] at A2 st2
 replace X2 : Stand p l e (Rm 1 1 4 12) s m #[.int 2] below meth c T2 _ 1 4 := X2
 have K3 := (Keep.refl h0 []).ext E2
 have A4_ : Arv Z h2 b2 c2 .byte (4 : Int32) [.int 0, .int 0, .int 0, .int 0] (.int 0) := (Arv.new A2 (by decide)).pad (pad_rep [] (.int 0) 4)
 have sz_b2 : h0.size ≤ b2 := (Nat.le_of_eq g2.symm)
 refine own_lvF X2 Bd (.ref b2) e2 ⟨b2, c2, rfl, N1, K3, sz_b2, A4_⟩ rfl (fun fs hr => pre0 _ (by
  show Sx p e below s₁ m 0 #[iv 2] [] _
  refine zj X0 Bd d5_0 rfl ?_
  refine st1 _ ?_
  refine st2 _ ?_
  exact retOut X2 hx Bd.returns rfl (Or.inr (Or.inr (Or.inr (Or.inr ⟨rfl, rfl, rfl⟩)))) (hb hby d5_6) hr))
theorem pd2 : parseMethodDescriptor "(I)[B" = some ⟨[.int], some (.array .byte)⟩ := by decide +kernel
theorem d4_4 : decode jdk_52_method_14_code 4 = .ok (.astore_n 3, 1) := by decide +kernel
theorem d4_5 : decode jdk_52_method_14_code 5 = .ok (.iconst 0, 1) := by decide +kernel
theorem d4_6 : decode jdk_52_method_14_code 6 = .ok (.istore 4, 2) := by decide +kernel
theorem d4_8 : decode jdk_52_method_14_code 8 = .ok (.iload 4, 2) := by decide +kernel
theorem d4_10 : decode jdk_52_method_14_code 10 = .ok (.iload_n 2, 1) := by decide +kernel
theorem d4_11 : decode jdk_52_method_14_code 11 = .ok (.if_icmp .ge 21, 3) := by decide +kernel
theorem d4_14 : decode jdk_52_method_14_code 14 = .ok (.aload_n 3, 1) := by decide +kernel
theorem d4_15 : decode jdk_52_method_14_code 15 = .ok (.iload 4, 2) := by decide +kernel
theorem d4_17 : decode jdk_52_method_14_code 17 = .ok (.aload_n 0, 1) := by decide +kernel
theorem d4_18 : decode jdk_52_method_14_code 18 = .ok (.iload_n 1, 1) := by decide +kernel
theorem d4_19 : decode jdk_52_method_14_code 19 = .ok (.caload, 1) := by decide +kernel
theorem d4_20 : decode jdk_52_method_14_code 20 = .ok (.invokestatic 111, 3) := by decide +kernel
theorem ef7 (m : MethodId) (x0 : Addr) (x1 : Int32) (x2 : Int32) : entryFrame m #[.ref x0, .int x1, .int x2] 3 = mkF m 0 #[.val (.ref x0), .val (.int x1), .val (.int x2)] [] := by first | (simp [entryFrame, mkF, argsToLocals, Value.category]; done) | rfl
theorem d7_0 : decode jdk_52_method_4_code 0 = .ok (.getstatic 44, 3) := by decide +kernel
theorem d7_3 : decode jdk_52_method_4_code 3 = .ok (.ifCond .ne 25, 3) := by decide +kernel
theorem d7_28 : decode jdk_52_method_4_code 28 = .ok (.iload_n 1, 1) := by decide +kernel
theorem d7_29 : decode jdk_52_method_4_code 29 = .ok (.iconst 1, 1) := by decide +kernel
theorem d7_30 : decode jdk_52_method_4_code 30 = .ok (.ishl, 1) := by decide +kernel
theorem d7_31 : decode jdk_52_method_4_code 31 = .ok (.istore_n 1, 1) := by decide +kernel
theorem d7_32 : decode jdk_52_method_4_code 32 = .ok (.aload_n 0, 1) := by decide +kernel
theorem d7_33 : decode jdk_52_method_4_code 33 = .ok (.iload_n 1, 1) := by decide +kernel
theorem d7_34 : decode jdk_52_method_4_code 34 = .ok (.iinc 1 1, 3) := by decide +kernel
theorem d7_37 : decode jdk_52_method_4_code 37 = .ok (.iload_n 2, 1) := by decide +kernel
theorem d7_38 : decode jdk_52_method_4_code 38 = .ok (.getstatic 59, 3) := by decide +kernel
theorem d7_41 : decode jdk_52_method_4_code 41 = .ok (.ishr, 1) := by decide +kernel
theorem d7_42 : decode jdk_52_method_4_code 42 = .ok (.i2b, 1) := by decide +kernel
theorem d7_43 : decode jdk_52_method_4_code 43 = .ok (.bastore, 1) := by decide +kernel
theorem d7_44 : decode jdk_52_method_4_code 44 = .ok (.aload_n 0, 1) := by decide +kernel
theorem d7_45 : decode jdk_52_method_4_code 45 = .ok (.iload_n 1, 1) := by decide +kernel
theorem d7_46 : decode jdk_52_method_4_code 46 = .ok (.iload_n 2, 1) := by decide +kernel
theorem d7_47 : decode jdk_52_method_4_code 47 = .ok (.getstatic 63, 3) := by decide +kernel
theorem d7_50 : decode jdk_52_method_4_code 50 = .ok (.ishr, 1) := by decide +kernel
theorem d7_51 : decode jdk_52_method_4_code 51 = .ok (.i2b, 1) := by decide +kernel
theorem d7_52 : decode jdk_52_method_4_code 52 = .ok (.bastore, 1) := by decide +kernel
theorem d7_53 : decode jdk_52_method_4_code 53 = .ok (.return_, 1) := by decide +kernel
-- java/lang/StringUTF16.putChar([BII)V
def Q4 (Z : State) (qa1 : Addr) (qi2 : Int32) (qk3 : ClassId) (h0 : Heap) (n0 : Nat) (v : Option Value) (h : Heap) (L : List Loc) : Prop := v = none ∧ Fr n0 L ∧ Keep h0 h [qa1] ∧ Arv Z h qa1 qk3 .byte (4 : Int32) [(.int ((((qi2 >>> ((0 : Int32) &&& 31)))).toInt8.toInt32)), (.int ((((qi2 >>> ((8 : Int32) &&& 31)))).toInt8.toInt32)), .int 0, .int 0] (.int 0)
theorem rm4 (l : Launch) (Z : State) (a0 : Array Value) (hw : HW a0 Z) (qa1 : Addr) (qi2 : Int32) (qk3 : ClassId) (h0 : Heap) (n0 : Nat) (X00 : Old Z n0 h0) (uS12 : Sta Z Z.heap "java/lang/StringUTF16" "$assertionsDisabled" "Z" (.int 1)) (uS15 : Sta Z Z.heap "java/lang/StringUTF16" "HI_BYTE_SHIFT" "I" (.int 0)) (uS18 : Sta Z Z.heap "java/lang/StringUTF16" "LO_BYTE_SHIFT" "I" (.int 8)) (A_qa1 : Arv Z h0 qa1 qk3 .byte (4 : Int32) [.int 0, .int 0, .int 0, .int 0] (.int 0)) (g_qa1 : n0 ≤ qa1) :
    MF l Z Y3_ jdk_52_method_4_code 3 none (Rm 0 0 0 0) #[.ref qa1, .int 0, .int qi2] h0 (Q4 Z qa1 qi2 qk3 h0 n0) := by
 refine own_sF pn2 rfl (fun m => ef7 m qa1 (0 : Int32) qi2) ?_
 intro p e s m below meth c s₁ Bd hZ hh hx hby hml hown hnm X0 e0 pre0
 have N0 := Fr.nil n0
 obtain ⟨T1, X1, e1, st1⟩ := getS2 X0 hx hZ hown (host := "") (Or.inl (w81_ hw)) Via.refl e0 (uS12.ext X00.2) (g := (mkF m 0 #[rv qa1, iv 0, iv qi2] [])) rfl (hb hby d7_0)
 obtain ⟨T2, X2, e2, st2⟩ := getS2 X1 hx hZ hown (host := "") (Or.inl (w82_ hw)) Via.refl e1 (uS15.ext X00.2) (g := (mkF m 38 #[rv qa1, iv 1, iv qi2] [.int qi2, .int 0, .ref qa1])) rfl (hb hby d7_38)
 have av3 := A_qa1
 obtain ⟨cl3, Ar3, q3, S3, N3, H3, Gf3⟩ := av3
 have hin4 : ¬ ((0 : Int32) < 0 ∨ cl3.slots.size ≤ ((0 : Int32) : Int32).toNatClampNeg) := inb_of S3 (by decide)
 obtain ⟨T4, h4, X4, e4, W4, st4⟩ := stB X2 hx hZ e2 Ar3 (j := (0 : Int32)) hin4 (g := (mkF m 43 #[rv qa1, iv 1, iv qi2] [(.int ((((qi2 >>> ((0 : Int32) &&& 31)))).toInt8.toInt32)), .int 0, .ref qa1])) rfl rfl (hb hby d7_43)
 have N4_ := Fr.snoc X4 N0 g_qa1
 have K5 := (Keep.refl h0 [qa1]).wr W4 (Or.inl (mI 0 rfl))
 have A6_ : Arv Z h4 qa1 qk3 .byte (4 : Int32) [(.int ((((qi2 >>> ((0 : Int32) &&& 31)))).toInt8.toInt32)), .int 0, .int 0, .int 0] (.int 0) := by have q := Arv.set (v := .int (nar .byte ((((qi2 >>> ((0 : Int32) &&& 31)))).toInt8.toInt32))) Ar3 q3 S3 N3 H3 Gf3 (fits_nar_byte _) W4 0 (by decide) (lE rfl); rw [((own_nar_i2b _) : nar .byte ((((qi2 >>> ((0 : Int32) &&& 31)))).toInt8.toInt32) = ((((qi2 >>> ((0 : Int32) &&& 31)))).toInt8.toInt32))] at q; exact q
 have O8 := X00.wr W4 g_qa1
 obtain ⟨T7, X7, e7, st7⟩ := getS2 X4 hx hZ hown (host := "") (Or.inl (w83_ hw)) Via.refl e4 (uS18.ext O8.2) (g := (mkF m 47 #[rv qa1, iv 1, iv qi2] [.int qi2, .int 1, .ref qa1])) rfl (hb hby d7_47)
 have av9 := A6_
 obtain ⟨cl9, Ar9, q9, S9, N9, H9, Gf9⟩ := av9
 have hin10 : ¬ ((1 : Int32) < 0 ∨ cl9.slots.size ≤ ((1 : Int32) : Int32).toNatClampNeg) := inb_of S9 (by decide)
 obtain ⟨T10, h10, X10, e10, W10, st10⟩ := stB X7 hx hZ e7 Ar9 (j := (1 : Int32)) hin10 (g := (mkF m 52 #[rv qa1, iv 1, iv qi2] [(.int ((((qi2 >>> ((8 : Int32) &&& 31)))).toInt8.toInt32)), .int 1, .ref qa1])) rfl rfl (hb hby d7_52)
 have N10_ := Fr.snoc X10 N4_ g_qa1
 have K11 := K5.wr W10 (Or.inl (mI 0 rfl))
 have A12_ : Arv Z h10 qa1 qk3 .byte (4 : Int32) [(.int ((((qi2 >>> ((0 : Int32) &&& 31)))).toInt8.toInt32)), (.int ((((qi2 >>> ((8 : Int32) &&& 31)))).toInt8.toInt32)), .int 0, .int 0] (.int 0) := by have q := Arv.set (v := .int (nar .byte ((((qi2 >>> ((8 : Int32) &&& 31)))).toInt8.toInt32))) Ar9 q9 S9 N9 H9 Gf9 (fits_nar_byte _) W10 1 (by decide) (lE rfl); rw [((own_nar_i2b _) : nar .byte ((((qi2 >>> ((8 : Int32) &&& 31)))).toInt8.toInt32) = ((((qi2 >>> ((8 : Int32) &&& 31)))).toInt8.toInt32))] at q; exact q
 refine own_lvN X10 Bd e10 ⟨rfl, N10_, K11, A12_⟩ rfl (fun fs hr => pre0 _ (by
  show Sx p e below s₁ m 0 #[rv qa1, iv 0, iv qi2] [] _
  refine st1 _ ?_
  refine zp (pc' := 28) X1 Bd d7_3 (XT.i0_ne_t ((by decide) : ¬ ((1 : Int32) = (0 : Int32)))) rfl ?_
  refine zj X1 Bd d7_28 rfl ?_
  refine zc X1 Bd d7_29 ?_
  refine XS.ishl X1.here hx rfl (hb hby d7_30) rfl ?_
  refine zt X1 Bd d7_31 (l' := #[rv qa1, iv 0, iv qi2]) rfl ?_
  refine zb X1 Bd d7_32 rfl rfl ?_
  refine zj X1 Bd d7_33 rfl ?_
  refine XS.iinc X1.here hx rfl (hb hby d7_34) rfl (l' := #[rv qa1, iv 1, iv qi2]) rfl ?_
  refine zj X1 Bd d7_37 rfl ?_
  refine st2 _ ?_
  refine XS.ishr X2.here hx rfl (hb hby d7_41) rfl ?_
  refine XS.i2b X2.here hx rfl (hb hby d7_42) rfl ?_
  refine st4 _ ?_
  refine zb X4 Bd d7_44 rfl rfl ?_
  refine zj X4 Bd d7_45 rfl ?_
  refine zj X4 Bd d7_46 rfl ?_
  refine st7 _ ?_
  refine XS.ishr X7.here hx rfl (hb hby d7_50) rfl ?_
  refine XS.i2b X7.here hx rfl (hb hby d7_51) rfl ?_
  refine st10 _ ?_
  exact X10.returnOut hx Bd.returns (hb hby d7_53) hr))
theorem pd3 : parseMethodDescriptor "([BII)V" = some ⟨[(.array .byte), .int, .int], none⟩ := by decide +kernel
theorem d4_23 : decode jdk_52_method_14_code 23 = .ok (.iinc 1 1, 3) := by decide +kernel
theorem d4_26 : decode jdk_52_method_14_code 26 = .ok (.iinc 4 1, 3) := by decide +kernel
theorem d4_29 : decode jdk_52_method_14_code 29 = .ok (.goto (-21), 3) := by decide +kernel
-- java/lang/StringUTF16.putChar([BII)V
def Q5 (Z : State) (qa1 : Addr) (qi2 : Int32) (qk3 : ClassId) (qi4 : Int32) (qi5 : Int32) (h0 : Heap) (n0 : Nat) (v : Option Value) (h : Heap) (L : List Loc) : Prop := v = none ∧ Fr n0 L ∧ Keep h0 h [qa1] ∧ Arv Z h qa1 qk3 .byte (4 : Int32) [.int qi4, .int qi5, (.int ((((qi2 >>> ((0 : Int32) &&& 31)))).toInt8.toInt32)), (.int ((((qi2 >>> ((8 : Int32) &&& 31)))).toInt8.toInt32))] (.int 0)
theorem rm5 (l : Launch) (Z : State) (a0 : Array Value) (hw : HW a0 Z) (qa1 : Addr) (qi2 : Int32) (qk3 : ClassId) (qi4 : Int32) (qi5 : Int32) (h0 : Heap) (n0 : Nat) (X00 : Old Z n0 h0) (uS12 : Sta Z Z.heap "java/lang/StringUTF16" "$assertionsDisabled" "Z" (.int 1)) (uS15 : Sta Z Z.heap "java/lang/StringUTF16" "HI_BYTE_SHIFT" "I" (.int 0)) (uS18 : Sta Z Z.heap "java/lang/StringUTF16" "LO_BYTE_SHIFT" "I" (.int 8)) (A_qa1 : Arv Z h0 qa1 qk3 .byte (4 : Int32) [.int qi4, .int qi5, .int 0, .int 0] (.int 0)) (g_qa1 : n0 ≤ qa1) :
    MF l Z Y3_ jdk_52_method_4_code 3 none (Rm 0 0 0 0) #[.ref qa1, .int 1, .int qi2] h0 (Q5 Z qa1 qi2 qk3 qi4 qi5 h0 n0) := by
 refine own_sF pn2 rfl (fun m => ef7 m qa1 (1 : Int32) qi2) ?_
 intro p e s m below meth c s₁ Bd hZ hh hx hby hml hown hnm X0 e0 pre0
 have N0 := Fr.nil n0
 obtain ⟨T1, X1, e1, st1⟩ := getS2 X0 hx hZ hown (host := "") (Or.inl (w81_ hw)) Via.refl e0 (uS12.ext X00.2) (g := (mkF m 0 #[rv qa1, iv 1, iv qi2] [])) rfl (hb hby d7_0)
 obtain ⟨T2, X2, e2, st2⟩ := getS2 X1 hx hZ hown (host := "") (Or.inl (w82_ hw)) Via.refl e1 (uS15.ext X00.2) (g := (mkF m 38 #[rv qa1, iv 3, iv qi2] [.int qi2, .int 2, .ref qa1])) rfl (hb hby d7_38)
 have av3 := A_qa1
 obtain ⟨cl3, Ar3, q3, S3, N3, H3, Gf3⟩ := av3
 have hin4 : ¬ ((2 : Int32) < 0 ∨ cl3.slots.size ≤ ((2 : Int32) : Int32).toNatClampNeg) := inb_of S3 (by decide)
 obtain ⟨T4, h4, X4, e4, W4, st4⟩ := stB X2 hx hZ e2 Ar3 (j := (2 : Int32)) hin4 (g := (mkF m 43 #[rv qa1, iv 3, iv qi2] [(.int ((((qi2 >>> ((0 : Int32) &&& 31)))).toInt8.toInt32)), .int 2, .ref qa1])) rfl rfl (hb hby d7_43)
 have N4_ := Fr.snoc X4 N0 g_qa1
 have K5 := (Keep.refl h0 [qa1]).wr W4 (Or.inl (mI 0 rfl))
 have A6_ : Arv Z h4 qa1 qk3 .byte (4 : Int32) [.int qi4, .int qi5, (.int ((((qi2 >>> ((0 : Int32) &&& 31)))).toInt8.toInt32)), .int 0] (.int 0) := by have q := Arv.set (v := .int (nar .byte ((((qi2 >>> ((0 : Int32) &&& 31)))).toInt8.toInt32))) Ar3 q3 S3 N3 H3 Gf3 (fits_nar_byte _) W4 2 (by decide) (lE rfl); rw [((own_nar_i2b _) : nar .byte ((((qi2 >>> ((0 : Int32) &&& 31)))).toInt8.toInt32) = ((((qi2 >>> ((0 : Int32) &&& 31)))).toInt8.toInt32))] at q; exact q
 have O8 := X00.wr W4 g_qa1
 obtain ⟨T7, X7, e7, st7⟩ := getS2 X4 hx hZ hown (host := "") (Or.inl (w83_ hw)) Via.refl e4 (uS18.ext O8.2) (g := (mkF m 47 #[rv qa1, iv 3, iv qi2] [.int qi2, .int 3, .ref qa1])) rfl (hb hby d7_47)
 have av9 := A6_
 obtain ⟨cl9, Ar9, q9, S9, N9, H9, Gf9⟩ := av9
 have hin10 : ¬ ((3 : Int32) < 0 ∨ cl9.slots.size ≤ ((3 : Int32) : Int32).toNatClampNeg) := inb_of S9 (by decide)
 obtain ⟨T10, h10, X10, e10, W10, st10⟩ := stB X7 hx hZ e7 Ar9 (j := (3 : Int32)) hin10 (g := (mkF m 52 #[rv qa1, iv 3, iv qi2] [(.int ((((qi2 >>> ((8 : Int32) &&& 31)))).toInt8.toInt32)), .int 3, .ref qa1])) rfl rfl (hb hby d7_52)
 have N10_ := Fr.snoc X10 N4_ g_qa1
 have K11 := K5.wr W10 (Or.inl (mI 0 rfl))
 have A12_ : Arv Z h10 qa1 qk3 .byte (4 : Int32) [.int qi4, .int qi5, (.int ((((qi2 >>> ((0 : Int32) &&& 31)))).toInt8.toInt32)), (.int ((((qi2 >>> ((8 : Int32) &&& 31)))).toInt8.toInt32))] (.int 0) := by have q := Arv.set (v := .int (nar .byte ((((qi2 >>> ((8 : Int32) &&& 31)))).toInt8.toInt32))) Ar9 q9 S9 N9 H9 Gf9 (fits_nar_byte _) W10 3 (by decide) (lE rfl); rw [((own_nar_i2b _) : nar .byte ((((qi2 >>> ((8 : Int32) &&& 31)))).toInt8.toInt32) = ((((qi2 >>> ((8 : Int32) &&& 31)))).toInt8.toInt32))] at q; exact q
 refine own_lvN X10 Bd e10 ⟨rfl, N10_, K11, A12_⟩ rfl (fun fs hr => pre0 _ (by
  show Sx p e below s₁ m 0 #[rv qa1, iv 1, iv qi2] [] _
  refine st1 _ ?_
  refine zp (pc' := 28) X1 Bd d7_3 (XT.i0_ne_t ((by decide) : ¬ ((1 : Int32) = (0 : Int32)))) rfl ?_
  refine zj X1 Bd d7_28 rfl ?_
  refine zc X1 Bd d7_29 ?_
  refine XS.ishl X1.here hx rfl (hb hby d7_30) rfl ?_
  refine zt X1 Bd d7_31 (l' := #[rv qa1, iv 2, iv qi2]) rfl ?_
  refine zb X1 Bd d7_32 rfl rfl ?_
  refine zj X1 Bd d7_33 rfl ?_
  refine XS.iinc X1.here hx rfl (hb hby d7_34) rfl (l' := #[rv qa1, iv 3, iv qi2]) rfl ?_
  refine zj X1 Bd d7_37 rfl ?_
  refine st2 _ ?_
  refine XS.ishr X2.here hx rfl (hb hby d7_41) rfl ?_
  refine XS.i2b X2.here hx rfl (hb hby d7_42) rfl ?_
  refine st4 _ ?_
  refine zb X4 Bd d7_44 rfl rfl ?_
  refine zj X4 Bd d7_45 rfl ?_
  refine zj X4 Bd d7_46 rfl ?_
  refine st7 _ ?_
  refine XS.ishr X7.here hx rfl (hb hby d7_50) rfl ?_
  refine XS.i2b X7.here hx rfl (hb hby d7_51) rfl ?_
  refine st10 _ ?_
  exact X10.returnOut hx Bd.returns (hb hby d7_53) hr))
theorem d4_32 : decode jdk_52_method_14_code 32 = .ok (.aload_n 3, 1) := by decide +kernel
theorem d4_33 : decode jdk_52_method_14_code 33 = .ok (.areturn, 1) := by decide +kernel
-- java/lang/StringUTF16.toBytes([CII)[B
def Q6 (Z : State) (qi3 : Int32) (qi4 : Int32) (h0 : Heap) (n0 : Nat) (v : Option Value) (h : Heap) (L : List Loc) : Prop := ∃ b2 : Addr, ∃ c3_ : ClassId, v = some (.ref b2) ∧ Fr n0 L ∧ Keep h0 h [] ∧ h0.size ≤ b2 ∧ Arv Z h b2 c3_ .byte (4 : Int32) [(.int ((((qi3 >>> ((0 : Int32) &&& 31)))).toInt8.toInt32)), (.int ((((qi3 >>> ((8 : Int32) &&& 31)))).toInt8.toInt32)), (.int ((((qi4 >>> ((0 : Int32) &&& 31)))).toInt8.toInt32)), (.int ((((qi4 >>> ((8 : Int32) &&& 31)))).toInt8.toInt32))] (.int 0)
theorem rm6 (l : Launch) (Z : State) (a0 : Array Value) (hw : HW a0 Z) (qa1 : Addr) (qk2 : ClassId) (qi3 : Int32) (qi4 : Int32) (h0 : Heap) (n0 : Nat) (X00 : Old Z n0 h0) (uS12 : Sta Z Z.heap "java/lang/StringUTF16" "$assertionsDisabled" "Z" (.int 1)) (uS15 : Sta Z Z.heap "java/lang/StringUTF16" "HI_BYTE_SHIFT" "I" (.int 0)) (uS18 : Sta Z Z.heap "java/lang/StringUTF16" "LO_BYTE_SHIFT" "I" (.int 8)) (A_qa1 : Arv Z h0 qa1 qk2 .char (2 : Int32) [.int qi3, .int qi4] (.int 0)) :
    MF l Z Y4_ jdk_52_method_14_code 5 (some (.array .byte)) (Rm 2 1 4 24) #[.ref qa1, .int 0, .int 2] h0 (Q6 Z qi3 qi4 h0 n0) := by
 refine own_sF pn2 rfl (fun m => ef5 m qa1 (0 : Int32) (2 : Int32)) ?_
 intro p e s m below meth c s₁ Bd hZ hh hx hby hml hown hnm X0 e0 pre0
 have N0 := Fr.nil n0
 obtain ⟨_, T1, L1, X1, hQ1, st1⟩ := own_cS 1 4 [] 1 #[rv qa1, iv 0, iv 2, .unset, .unset] X0 hx hZ hown (w71_ hw) (w72_ hw) (w18_ hw) (w73_ hw) (rm3 l Z a0 hw   h0 n0 X00 ) pd2 hml.symm (hb hby d4_1) e0 rfl rfl rfl rfl (by decide)
 obtain ⟨b2, c3_, rfl, N1q, K1q, w4, w5⟩ := hQ1
 have N1 := Fr.app N0 N1q
 have K6 := (Keep.refl h0 []).trans K1q (fun x q => nomatch q)
 have A8_ := A_qa1.keep K1q nin0
 have av7 := A8_
 obtain ⟨cl7, Ar7, q7, S7, N7, H7, Gf7⟩ := av7
 have hin9 : ¬ ((0 : Int32) < 0 ∨ cl7.slots.size ≤ ((0 : Int32) : Int32).toNatClampNeg) := inb_of S7 (by decide)
 have hat9 : cl7.slots[((0 : Int32) : Int32).toNatClampNeg]? = some (.int qi3) := Has.at H7 hin9 rfl
 have g_b2 : n0 ≤ b2 := Nat.le_trans (Nat.le_trans (Nat.le_of_eq X00.1.symm) X00.2.1) w4
 have O11 := X00.keep K1q all0
 obtain ⟨_, T10, L10, X10, hQ10, st10⟩ := own_cS 1 4 [] 20 #[rv qa1, iv 0, iv 2, rv b2, iv 0] X1 hx hZ hown (w78_ hw) (w79_ hw) (w18_ hw) (w80_ hw) (rm4 l Z a0 hw  b2 qi3 c3_ T1.heap n0 O11 uS12 uS15 uS18 w5 g_b2) pd3 hml.symm (hb hby d4_20) rfl rfl rfl rfl rfl (by decide)
 obtain ⟨rfl, N10q, K10q, w12⟩ := hQ10
 have N10 := Fr.app N1 N10q
 have sz_b2 : h0.size ≤ b2 := w4
 have K13 := K6.trans K10q (allS (Or.inr sz_b2) all0)
 have A15_ := A8_.keep K10q (ninS (Nat.ne_of_lt (Nat.lt_of_lt_of_le A_qa1.lt w4)) nin0)
 have av14 := A15_
 obtain ⟨cl14, Ar14, q14, S14, N14, H14, Gf14⟩ := av14
 have hin16 : ¬ ((1 : Int32) < 0 ∨ cl14.slots.size ≤ ((1 : Int32) : Int32).toNatClampNeg) := inb_of S14 (by decide)
 have hat16 : cl14.slots[((1 : Int32) : Int32).toNatClampNeg]? = some (.int qi4) := Has.at H14 hin16 rfl
 have O18 := O11.keep K10q (allS g_b2 all0)
 obtain ⟨_, T17, L17, X17, hQ17, st17⟩ := own_cS 1 4 [] 20 #[rv qa1, iv 1, iv 2, rv b2, iv 1] X10 hx hZ hown (w78_ hw) (w79_ hw) (w18_ hw) (w80_ hw) (rm5 l Z a0 hw  b2 qi4 c3_ ((((qi3 >>> ((0 : Int32) &&& 31)))).toInt8.toInt32) ((((qi3 >>> ((8 : Int32) &&& 31)))).toInt8.toInt32) T10.heap n0 O18 uS12 uS15 uS18 w12 g_b2) pd3 hml.symm (hb hby d4_20) rfl rfl rfl rfl rfl (by decide)
 obtain ⟨rfl, N17q, K17q, w19⟩ := hQ17
 have N17 := Fr.app N10 N17q
 have K20 := K13.trans K17q (allS (Or.inr sz_b2) all0)
 refine own_lvF X17 Bd (.ref b2) rfl ⟨b2, c3_, rfl, N17, K20, sz_b2, w19⟩ rfl (fun fs hr => pre0 _ (by
  show Sx p e below s₁ m 0 #[rv qa1, iv 0, iv 2, .unset, .unset] [] _
  refine zj X0 Bd d4_0 rfl ?_
  refine st1 _ ?_
  refine XS.astoreN X1.here hx rfl (hb hby d4_4) rfl rfl (l' := #[rv qa1, iv 0, iv 2, rv b2, .unset]) rfl ?_
  refine zc X1 Bd d4_5 ?_
  refine zs X1 Bd d4_6 (l' := #[rv qa1, iv 0, iv 2, rv b2, iv 0]) rfl ?_
  refine zi X1 Bd d4_8 rfl ?_
  refine zj X1 Bd d4_10 rfl ?_
  refine zn X1 Bd d4_11 (XT.ii_ge_f ((by decide) : (0 : Int32) < (2 : Int32))) ?_
  refine zb X1 Bd d4_14 rfl rfl ?_
  refine zi X1 Bd d4_15 rfl ?_
  refine zb X1 Bd d4_17 rfl rfl ?_
  refine zj X1 Bd d4_18 rfl ?_
  refine X1.caload hx (j := (0 : Int32)) (v := (.int qi3)) Ar7.1 (State.isArrayOf_alike hZ.alike Ar7.2.1) Ar7.2.2 hin9 hat9 (g := (mkF m 19 #[rv qa1, iv 0, iv 2, rv b2, iv 0] [.int 0, .ref qa1, .int 0, .ref b2])) rfl rfl (hb hby d4_19) _ ?_
  refine st10 _ ?_
  refine XS.iinc X10.here hx rfl (hb hby d4_23) rfl (l' := #[rv qa1, iv 1, iv 2, rv b2, iv 0]) rfl ?_
  refine XS.iinc X10.here hx rfl (hb hby d4_26) rfl (l' := #[rv qa1, iv 1, iv 2, rv b2, iv 1]) rfl ?_
  refine zg (pc' := 8) X10 Bd d4_29 rfl ?_
  refine zi X10 Bd d4_8 rfl ?_
  refine zj X10 Bd d4_10 rfl ?_
  refine zn X10 Bd d4_11 (XT.ii_ge_f ((by decide) : (1 : Int32) < (2 : Int32))) ?_
  refine zb X10 Bd d4_14 rfl rfl ?_
  refine zi X10 Bd d4_15 rfl ?_
  refine zb X10 Bd d4_17 rfl rfl ?_
  refine zj X10 Bd d4_18 rfl ?_
  refine X10.caload hx (j := (1 : Int32)) (v := (.int qi4)) Ar14.1 (State.isArrayOf_alike hZ.alike Ar14.2.1) Ar14.2.2 hin16 hat16 (g := (mkF m 19 #[rv qa1, iv 1, iv 2, rv b2, iv 1] [.int 1, .ref qa1, .int 1, .ref b2])) rfl rfl (hb hby d4_19) _ ?_
  show Sx p e below T10 m 20 #[rv qa1, iv 1, iv 2, rv b2, iv 1] [.int qi4, .int 1, .ref b2] _
  refine st17 _ ?_
  refine XS.iinc X17.here hx rfl (hb hby d4_23) rfl (l' := #[rv qa1, iv 2, iv 2, rv b2, iv 1]) rfl ?_
  refine XS.iinc X17.here hx rfl (hb hby d4_26) rfl (l' := #[rv qa1, iv 2, iv 2, rv b2, iv 2]) rfl ?_
  refine zg (pc' := 8) X17 Bd d4_29 rfl ?_
  refine zi X17 Bd d4_8 rfl ?_
  refine zj X17 Bd d4_10 rfl ?_
  refine zy (pc' := 32) X17 Bd d4_11 (XT.ii_ge_t ((by decide) : ¬ ((2 : Int32) < (2 : Int32)))) rfl ?_
  refine zb X17 Bd d4_32 rfl rfl ?_
  exact retOut X17 hx Bd.returns rfl (Or.inr (Or.inr (Or.inr (Or.inr ⟨rfl, rfl, rfl⟩)))) (hb hby d4_33) hr))
theorem pd4 : parseMethodDescriptor "([CII)[B" = some ⟨[(.array .char), .int, .int], some (.array .byte)⟩ := by decide +kernel
theorem d2_26 : decode jdk_52_method_16_code 26 = .ok (.astore 5, 2) := by decide +kernel
theorem d2_28 : decode jdk_52_method_16_code 28 = .ok (.aload 5, 2) := by decide +kernel
theorem d2_30 : decode jdk_52_method_16_code 30 = .ok (.iload 4, 2) := by decide +kernel
theorem d2_32 : decode jdk_52_method_16_code 32 = .ok (.invokestatic 71, 3) := by decide +kernel
theorem ef8 (m : MethodId) (x0 : Addr) (x1 : Int32) : entryFrame m #[.ref x0, .int x1] 2 = mkF m 0 #[.val (.ref x0), .val (.int x1)] [] := by first | (simp [entryFrame, mkF, argsToLocals, Value.category]; done) | rfl
theorem d8_0 : decode jdk_52_method_5_code 0 = .ok (.getstatic 44, 3) := by decide +kernel
theorem d8_3 : decode jdk_52_method_5_code 3 = .ok (.ifCond .ne 25, 3) := by decide +kernel
theorem d8_28 : decode jdk_52_method_5_code 28 = .ok (.iload_n 1, 1) := by decide +kernel
theorem d8_29 : decode jdk_52_method_5_code 29 = .ok (.iconst 1, 1) := by decide +kernel
theorem d8_30 : decode jdk_52_method_5_code 30 = .ok (.ishl, 1) := by decide +kernel
theorem d8_31 : decode jdk_52_method_5_code 31 = .ok (.istore_n 1, 1) := by decide +kernel
theorem d8_32 : decode jdk_52_method_5_code 32 = .ok (.aload_n 0, 1) := by decide +kernel
theorem d8_33 : decode jdk_52_method_5_code 33 = .ok (.iload_n 1, 1) := by decide +kernel
theorem d8_34 : decode jdk_52_method_5_code 34 = .ok (.iinc 1 1, 3) := by decide +kernel
theorem d8_37 : decode jdk_52_method_5_code 37 = .ok (.baload, 1) := by decide +kernel
theorem d8_38 : decode jdk_52_method_5_code 38 = .ok (.sipush 255, 3) := by decide +kernel
theorem d8_41 : decode jdk_52_method_5_code 41 = .ok (.iand, 1) := by decide +kernel
theorem d8_42 : decode jdk_52_method_5_code 42 = .ok (.getstatic 59, 3) := by decide +kernel
theorem d8_45 : decode jdk_52_method_5_code 45 = .ok (.ishl, 1) := by decide +kernel
theorem d8_46 : decode jdk_52_method_5_code 46 = .ok (.aload_n 0, 1) := by decide +kernel
theorem d8_47 : decode jdk_52_method_5_code 47 = .ok (.iload_n 1, 1) := by decide +kernel
theorem d8_48 : decode jdk_52_method_5_code 48 = .ok (.baload, 1) := by decide +kernel
theorem d8_49 : decode jdk_52_method_5_code 49 = .ok (.sipush 255, 3) := by decide +kernel
theorem d8_52 : decode jdk_52_method_5_code 52 = .ok (.iand, 1) := by decide +kernel
theorem d8_53 : decode jdk_52_method_5_code 53 = .ok (.getstatic 63, 3) := by decide +kernel
theorem d8_56 : decode jdk_52_method_5_code 56 = .ok (.ishl, 1) := by decide +kernel
theorem d8_57 : decode jdk_52_method_5_code 57 = .ok (.ior, 1) := by decide +kernel
theorem d8_58 : decode jdk_52_method_5_code 58 = .ok (.i2c, 1) := by decide +kernel
theorem d8_59 : decode jdk_52_method_5_code 59 = .ok (.ireturn, 1) := by decide +kernel
-- java/lang/StringUTF16.getChar([BI)C
def Q7 (Z : State) (qi3 : Int32) (qi4 : Int32) (h0 : Heap) (n0 : Nat) (v : Option Value) (h : Heap) (L : List Loc) : Prop := v = some (.int ((((((qi3 &&& (255 : Int32)) <<< ((0 : Int32) &&& 31))) ||| (((qi4 &&& (255 : Int32)) <<< ((8 : Int32) &&& 31))))).toUInt32.toUInt16.toUInt32.toInt32)) ∧ Fr n0 L ∧ h = h0
theorem rm7 (l : Launch) (Z : State) (a0 : Array Value) (hw : HW a0 Z) (qa1 : Addr) (qk2 : ClassId) (qi3 : Int32) (qi4 : Int32) (qi5 : Int32) (qi6 : Int32) (h0 : Heap) (n0 : Nat) (X00 : Old Z n0 h0) (uS12 : Sta Z Z.heap "java/lang/StringUTF16" "$assertionsDisabled" "Z" (.int 1)) (uS15 : Sta Z Z.heap "java/lang/StringUTF16" "HI_BYTE_SHIFT" "I" (.int 0)) (uS18 : Sta Z Z.heap "java/lang/StringUTF16" "LO_BYTE_SHIFT" "I" (.int 8)) (A_qa1 : Arv Z h0 qa1 qk2 .byte (4 : Int32) [.int qi3, .int qi4, .int qi5, .int qi6] (.int 0)) :
    MF l Z Y5_ jdk_52_method_5_code 2 (some .char) (Rm 0 0 0 0) #[.ref qa1, .int 0] h0 (Q7 Z qi3 qi4 h0 n0) := by
 refine own_sF pn2 rfl (fun m => ef8 m qa1 (0 : Int32)) ?_
 intro p e s m below meth c s₁ Bd hZ hh hx hby hml hown hnm X0 e0 pre0
 have N0 := Fr.nil n0
 obtain ⟨T1, X1, e1, st1⟩ := getS2 X0 hx hZ hown (host := "") (Or.inl (w81_ hw)) Via.refl e0 (uS12.ext X00.2) (g := (mkF m 0 #[rv qa1, iv 0] [])) rfl (hb hby d8_0)
 have av2 := A_qa1
 obtain ⟨cl2, Ar2, q2, S2, N2, H2, Gf2⟩ := av2
 have hin3 : ¬ ((0 : Int32) < 0 ∨ cl2.slots.size ≤ ((0 : Int32) : Int32).toNatClampNeg) := inb_of S2 (by decide)
 have hat3 : cl2.slots[((0 : Int32) : Int32).toNatClampNeg]? = some (.int qi3) := Has.at H2 hin3 rfl
 obtain ⟨T4, X4, e4, st4⟩ := getS2 X1 hx hZ hown (host := "") (Or.inl (w82_ hw)) Via.refl e1 (uS15.ext X00.2) (g := (mkF m 42 #[rv qa1, iv 1] [(.int (qi3 &&& (255 : Int32)))])) rfl (hb hby d8_42)
 have av5 := A_qa1
 obtain ⟨cl5, Ar5, q5, S5, N5, H5, Gf5⟩ := av5
 have hin6 : ¬ ((1 : Int32) < 0 ∨ cl5.slots.size ≤ ((1 : Int32) : Int32).toNatClampNeg) := inb_of S5 (by decide)
 have hat6 : cl5.slots[((1 : Int32) : Int32).toNatClampNeg]? = some (.int qi4) := Has.at H5 hin6 rfl
 obtain ⟨T7, X7, e7, st7⟩ := getS2 X4 hx hZ hown (host := "") (Or.inl (w83_ hw)) Via.refl e4 (uS18.ext X00.2) (g := (mkF m 53 #[rv qa1, iv 1] [(.int (qi4 &&& (255 : Int32))), (.int (((qi3 &&& (255 : Int32)) <<< ((0 : Int32) &&& 31))))])) rfl (hb hby d8_53)
 refine own_lvF X7 Bd (.int (nar .char ((((((qi3 &&& (255 : Int32)) <<< ((0 : Int32) &&& 31))) ||| (((qi4 &&& (255 : Int32)) <<< ((8 : Int32) &&& 31))))).toUInt32.toUInt16.toUInt32.toInt32))) e7 ⟨(congrArg (fun z => some (Value.int z)) (own_nar_i2c _)), N0, rfl⟩ rfl (fun fs hr => pre0 _ (by
  show Sx p e below s₁ m 0 #[rv qa1, iv 0] [] _
  refine st1 _ ?_
  refine zp (pc' := 28) X1 Bd d8_3 (XT.i0_ne_t ((by decide) : ¬ ((1 : Int32) = (0 : Int32)))) rfl ?_
  refine zj X1 Bd d8_28 rfl ?_
  refine zc X1 Bd d8_29 ?_
  refine XS.ishl X1.here hx rfl (hb hby d8_30) rfl ?_
  refine zt X1 Bd d8_31 (l' := #[rv qa1, iv 0]) rfl ?_
  refine zb X1 Bd d8_32 rfl rfl ?_
  refine zj X1 Bd d8_33 rfl ?_
  refine XS.iinc X1.here hx rfl (hb hby d8_34) rfl (l' := #[rv qa1, iv 1]) rfl ?_
  refine X1.baloadBytes hx (j := (0 : Int32)) (v := (.int qi3)) (by rw [e1]; exact Ar2.1) (State.isArrayOf_alike hZ.alike Ar2.2.1) Ar2.2.2 hin3 hat3 (g := (mkF m 37 #[rv qa1, iv 1] [.int 0, .ref qa1])) rfl rfl (hb hby d8_37) _ ?_
  refine XS.sipush X1.here hx rfl (hb hby d8_38) ?_
  refine XS.iand X1.here hx rfl (hb hby d8_41) rfl ?_
  refine st4 _ ?_
  refine XS.ishl X4.here hx rfl (hb hby d8_45) rfl ?_
  refine zb X4 Bd d8_46 rfl rfl ?_
  refine zj X4 Bd d8_47 rfl ?_
  refine X4.baloadBytes hx (j := (1 : Int32)) (v := (.int qi4)) (by rw [e4]; exact Ar5.1) (State.isArrayOf_alike hZ.alike Ar5.2.1) Ar5.2.2 hin6 hat6 (g := (mkF m 48 #[rv qa1, iv 1] [.int 1, .ref qa1, (.int (((qi3 &&& (255 : Int32)) <<< ((0 : Int32) &&& 31))))])) rfl rfl (hb hby d8_48) _ ?_
  refine XS.sipush X4.here hx rfl (hb hby d8_49) ?_
  refine XS.iand X4.here hx rfl (hb hby d8_52) rfl ?_
  refine st7 _ ?_
  refine XS.ishl X7.here hx rfl (hb hby d8_56) rfl ?_
  refine XS.ior X7.here hx rfl (hb hby d8_57) rfl ?_
  refine XS.i2c X7.here hx rfl (hb hby d8_58) rfl ?_
  exact retN X7 hx (t := .char) Bd.returns (by simp) (hb hby d8_59) hr))
theorem pd5 : parseMethodDescriptor "([BI)C" = some ⟨[(.array .byte), .int], some .char⟩ := by decide +kernel
theorem d2_35 : decode jdk_52_method_16_code 35 = .ok (.sipush 255, 3) := by decide +kernel
theorem d2_38 : decode jdk_52_method_16_code 38 = .ok (.if_icmp .gt 16, 3) := by decide +kernel
theorem d2_54 : decode jdk_52_method_16_code 54 = .ok (.aload 5, 2) := by decide +kernel
theorem d2_56 : decode jdk_52_method_16_code 56 = .ok (.areturn, 1) := by decide +kernel
-- java/lang/StringUTF16.compress([CII)[B
def Q8 (Z : State) (qi3 : Int32) (qi4 : Int32) (h0 : Heap) (n0 : Nat) (v : Option Value) (h : Heap) (L : List Loc) : Prop := ∃ b9 : Addr, ∃ c10_ : ClassId, v = some (.ref b9) ∧ Fr n0 L ∧ Keep h0 h [] ∧ h0.size ≤ b9 ∧ Arv Z h b9 c10_ .byte (4 : Int32) [(.int ((((qi3 >>> ((0 : Int32) &&& 31)))).toInt8.toInt32)), (.int ((((qi3 >>> ((8 : Int32) &&& 31)))).toInt8.toInt32)), (.int ((((qi4 >>> ((0 : Int32) &&& 31)))).toInt8.toInt32)), (.int ((((qi4 >>> ((8 : Int32) &&& 31)))).toInt8.toInt32))] (.int 0)
theorem rm8 (l : Launch) (Z : State) (a0 : Array Value) (hw : HW a0 Z) (qa1 : Addr) (qk2 : ClassId) (qi3 : Int32) (qi4 : Int32) (h0 : Heap) (n0 : Nat) (X00 : Old Z n0 h0) (uS12 : Sta Z Z.heap "java/lang/StringUTF16" "$assertionsDisabled" "Z" (.int 1)) (uS15 : Sta Z Z.heap "java/lang/StringUTF16" "HI_BYTE_SHIFT" "I" (.int 0)) (uS18 : Sta Z Z.heap "java/lang/StringUTF16" "LO_BYTE_SHIFT" "I" (.int 8)) (A_qa1 : Arv Z h0 qa1 qk2 .char (2 : Int32) [.int qi3, .int qi4] (.int 0)) (hc6 : (255 : Int32) < qi3) (hc16 : (255 : Int32) < ((((((((((qi3 >>> ((0 : Int32) &&& 31)))).toInt8.toInt32) &&& (255 : Int32)) <<< ((0 : Int32) &&& 31))) ||| (((((((qi3 >>> ((8 : Int32) &&& 31)))).toInt8.toInt32) &&& (255 : Int32)) <<< ((8 : Int32) &&& 31))))).toUInt32.toUInt16.toUInt32.toInt32)) :
    MF l Z Y6_ jdk_52_method_16_code 6 (some (.array .byte)) (Rm 3 2 6 40) #[.ref qa1, .int 0, .int 2] h0 (Q8 Z qi3 qi4 h0 n0) := by
 refine own_sF pn2 rfl (fun m => ef3 m qa1 (0 : Int32) (2 : Int32)) ?_
 intro p e s m below meth c s₁ Bd hZ hh hx hby hml hown hnm X0 e0 pre0
 have N0 := Fr.nil n0
 obtain ⟨T1, h1, c1, X1, e1, E1, A1, st1⟩ := newP (aty := .byte) X0 hx hZ (w20_ hw) e0 (g := (mkF m 1 #[rv qa1, iv 0, iv 2, .unset, .unset, .unset] [.int 2])) rfl (hb hby d2_1) rfl (by decide) (cap := 2) (by decide) (lE rfl) (lE rfl) (lE rfl)
 obtain ⟨b1, g1⟩ : ∃ z, z = h0.size := ⟨_, rfl⟩
 rw [← g1] at A1 st1
 replace X1 : Stand p l e (Rm 3 2 6 40) s m #[.ref qa1, .int 0, .int 2] below meth c T1 _ 1 2 := X1
 have K2 := (Keep.refl h0 []).ext E1
 have A3_ : Arv Z h1 b1 c1 .byte (2 : Int32) [.int 0, .int 0] (.int 0) := (Arv.new A1 (by decide)).pad (pad_rep [] (.int 0) 2)
 have A5_ := A_qa1.ext E1
 have O7 := X00.ext E1
 obtain ⟨_, T4, L4, X4, hQ4, st4⟩ := own_cS 1 2 [] 9 #[rv qa1, iv 0, iv 2, rv b1, .unset, .unset] X1 hx hZ hown (w21_ hw) (w22_ hw) (w18_ hw) (w23_ hw) (rm1 l Z a0 hw  qa1 b1 qk2 qi3 qi4 h1 n0 O7 A5_ hc6) pd0 hml.symm (hb hby d2_9) e1 rfl rfl rfl rfl (by decide)
 obtain ⟨rfl, N4q, e4q⟩ := hQ4
 have N4 := Fr.app N0 N4q
 obtain ⟨_, T8, L8, X8, hQ8, st8⟩ := own_cS 2 6 [] 23 #[rv qa1, iv 0, iv 2, rv b1, iv 0, .unset] X4 hx hZ hown (w68_ hw) (w69_ hw) (w18_ hw) (w70_ hw) (rm6 l Z a0 hw  qa1 qk2 qi3 qi4 h1 n0 O7 uS12 uS15 uS18 A5_) pd4 hml.symm (hb hby d2_23) e4q rfl rfl rfl rfl (by decide)
 obtain ⟨b9, c10_, rfl, N8q, K8q, w11, w12⟩ := hQ8
 have N8 := Fr.app N4 N8q
 have K13 := K2.trans K8q (fun x q => nomatch q)
 have O15 := O7.keep K8q all0
 obtain ⟨_, T14, L14, X14, hQ14, st14⟩ := own_cS 2 6 [] 32 #[rv qa1, iv 0, iv 2, rv b1, iv 0, rv b9] X8 hx hZ hown (w84_ hw) (w85_ hw) (w18_ hw) (w86_ hw) (rm7 l Z a0 hw  b9 c10_ ((((qi3 >>> ((0 : Int32) &&& 31)))).toInt8.toInt32) ((((qi3 >>> ((8 : Int32) &&& 31)))).toInt8.toInt32) ((((qi4 >>> ((0 : Int32) &&& 31)))).toInt8.toInt32) ((((qi4 >>> ((8 : Int32) &&& 31)))).toInt8.toInt32) T8.heap n0 O15 uS12 uS15 uS18 w12) pd5 hml.symm (hb hby d2_32) rfl rfl rfl rfl rfl (by decide)
 obtain ⟨rfl, N14q, e14q⟩ := hQ14
 have N14 := Fr.app N8 N14q
 have sz_b9 : h0.size ≤ b9 := Nat.le_trans K2.1 w11
 refine own_lvF X14 Bd (.ref b9) e14q ⟨b9, c10_, rfl, N14, K13, sz_b9, w12⟩ rfl (fun fs hr => pre0 _ (by
  show Sx p e below s₁ m 0 #[rv qa1, iv 0, iv 2, .unset, .unset, .unset] [] _
  refine zj X0 Bd d2_0 rfl ?_
  refine st1 _ ?_
  refine XS.astoreN X1.here hx rfl (hb hby d2_3) rfl rfl (l' := #[rv qa1, iv 0, iv 2, rv b1, .unset, .unset]) rfl ?_
  refine zb X1 Bd d2_4 rfl rfl ?_
  refine zj X1 Bd d2_5 rfl ?_
  refine zb X1 Bd d2_6 rfl rfl ?_
  refine zc X1 Bd d2_7 ?_
  refine zj X1 Bd d2_8 rfl ?_
  refine st4 _ ?_
  refine zs X4 Bd d2_12 (l' := #[rv qa1, iv 0, iv 2, rv b1, iv 0, .unset]) rfl ?_
  refine zi X4 Bd d2_14 rfl ?_
  refine zj X4 Bd d2_16 rfl ?_
  refine zn X4 Bd d2_17 (XT.ii_eq_f ((by decide) : ¬ ((0 : Int32) = (2 : Int32)))) ?_
  refine zb X4 Bd d2_20 rfl rfl ?_
  refine zj X4 Bd d2_21 rfl ?_
  refine zj X4 Bd d2_22 rfl ?_
  refine st8 _ ?_
  refine XS.astore X8.here hx rfl (hb hby d2_26) rfl rfl (l' := #[rv qa1, iv 0, iv 2, rv b1, iv 0, rv b9]) rfl ?_
  refine za X8 Bd d2_28 rfl rfl ?_
  refine zi X8 Bd d2_30 rfl ?_
  refine st14 _ ?_
  refine XS.sipush X14.here hx rfl (hb hby d2_35) ?_
  refine zy (pc' := 54) X14 Bd d2_38 (XT.ii_gt_t (hc16 : (255 : Int32) < ((((((((((qi3 >>> ((0 : Int32) &&& 31)))).toInt8.toInt32) &&& (255 : Int32)) <<< ((0 : Int32) &&& 31))) ||| (((((((qi3 >>> ((8 : Int32) &&& 31)))).toInt8.toInt32) &&& (255 : Int32)) <<< ((8 : Int32) &&& 31))))).toUInt32.toUInt16.toUInt32.toInt32))) rfl ?_
  refine za X14 Bd d2_54 rfl rfl ?_
  exact retOut X14 hx Bd.returns rfl (Or.inr (Or.inr (Or.inr (Or.inr ⟨rfl, rfl, rfl⟩)))) (hb hby d2_56) hr))
theorem d1_39 : decode jdk_42_method_149_code 39 = .ok (.astore 5, 2) := by decide +kernel
theorem d1_41 : decode jdk_42_method_149_code 41 = .ok (.aload_n 0, 1) := by decide +kernel
theorem d1_42 : decode jdk_42_method_149_code 42 = .ok (.aload 5, 2) := by decide +kernel
theorem d1_44 : decode jdk_42_method_149_code 44 = .ok (.iload_n 3, 1) := by decide +kernel
theorem d1_45 : decode jdk_42_method_149_code 45 = .ok (.invokestatic 47, 3) := by decide +kernel
theorem d9_0 : decode jdk_52_method_15_code 0 = .ok (.iload_n 1, 1) := by decide +kernel
theorem d9_1 : decode jdk_52_method_15_code 1 = .ok (.aload_n 0, 1) := by decide +kernel
theorem d9_2 : decode jdk_52_method_15_code 2 = .ok (.arraylength, 1) := by decide +kernel
theorem d9_3 : decode jdk_52_method_15_code 3 = .ok (.isub, 1) := by decide +kernel
theorem d9_4 : decode jdk_52_method_15_code 4 = .ok (.bipush 31, 2) := by decide +kernel
theorem d9_6 : decode jdk_52_method_15_code 6 = .ok (.iushr, 1) := by decide +kernel
theorem d9_7 : decode jdk_52_method_15_code 7 = .ok (.i2b, 1) := by decide +kernel
theorem d9_8 : decode jdk_52_method_15_code 8 = .ok (.ireturn, 1) := by decide +kernel
-- java/lang/StringUTF16.coderFromArrayLen([BI)B
def Q9 (Z : State)  (h0 : Heap) (n0 : Nat) (v : Option Value) (h : Heap) (L : List Loc) : Prop := v = some (.int 1) ∧ Fr n0 L ∧ h = h0
theorem rm9 (l : Launch) (Z : State) (a0 : Array Value) (hw : HW a0 Z) (qa1 : Addr) (qk2 : ClassId) (qi3 : Int32) (qi4 : Int32) (qi5 : Int32) (qi6 : Int32) (h0 : Heap) (n0 : Nat) (X00 : Old Z n0 h0) (A_qa1 : Arv Z h0 qa1 qk2 .byte (4 : Int32) [.int qi3, .int qi4, .int qi5, .int qi6] (.int 0)) :
    MF l Z Y7_ jdk_52_method_15_code 2 (some .byte) (Rm 0 0 0 0) #[.ref qa1, .int 2] h0 (Q9 Z  h0 n0) := by
 refine own_sF pn2 rfl (fun m => ef8 m qa1 (2 : Int32)) ?_
 intro p e s m below meth c s₁ Bd hZ hh hx hby hml hown hnm X0 e0 pre0
 have N0 := Fr.nil n0
 have av1 := A_qa1
 obtain ⟨cl1, Ar1, q1, S1, N1, H1, Gf1⟩ := av1
 refine own_lvF X0 Bd (.int 1) e0 ⟨rfl, N0, rfl⟩ rfl (fun fs hr => pre0 _ (by
  show Sx p e below s₁ m 0 #[rv qa1, iv 2] [] _
  refine zj X0 Bd d9_0 rfl ?_
  refine zb X0 Bd d9_1 rfl rfl ?_
  refine X0.arraylength hx (by rw [e0]; exact Ar1.1) (State.isArrayOf_alike hZ.alike Ar1.2.1) (g := (mkF m 2 #[rv qa1, iv 2] [.ref qa1, .int 2])) rfl rfl (hb hby d9_2) _ ?_
  rw [len_of S1 N1]
  refine XS.isub X0.here hx rfl (hb hby d9_3) rfl ?_
  refine zd X0 Bd d9_4 ?_
  refine XS.iushr X0.here hx rfl (hb hby d9_6) rfl ?_
  refine XS.i2b X0.here hx rfl (hb hby d9_7) rfl ?_
  exact retN X0 hx (t := .byte) Bd.returns (by simp) (hb hby d9_8) hr))
theorem pd6 : parseMethodDescriptor "([BI)B" = some ⟨[(.array .byte), .int], some .byte⟩ := by decide +kernel
theorem d1_48 : decode jdk_42_method_149_code 48 = .ok (.putfield 15, 3) := by decide +kernel
theorem d1_51 : decode jdk_42_method_149_code 51 = .ok (.aload_n 0, 1) := by decide +kernel
theorem d1_52 : decode jdk_42_method_149_code 52 = .ok (.aload 5, 2) := by decide +kernel
theorem d1_54 : decode jdk_42_method_149_code 54 = .ok (.putfield 9, 3) := by decide +kernel
theorem d1_57 : decode jdk_42_method_149_code 57 = .ok (.return_, 1) := by decide +kernel
-- java/lang/String.<init>([CIILjava/lang/Void;)V
def Q10 (Z : State) (qa1 : Addr) (qi4 : Int32) (qi5 : Int32) (h0 : Heap) (n0 : Nat) (v : Option Value) (h : Heap) (L : List Loc) : Prop := ∃ b6 : Addr, ∃ c7_ : ClassId, v = none ∧ Fr n0 L ∧ Keep h0 h [qa1] ∧ h0.size ≤ b6 ∧ Exa Z h qa1 "java/lang/String" ∧ Fld Z h qa1 "java/lang/String" "coder" "B" (.int 1) ∧ Fld Z h qa1 "java/lang/String" "value" "[B" (.ref b6) ∧ Arv Z h b6 c7_ .byte (4 : Int32) [(.int ((((qi4 >>> ((0 : Int32) &&& 31)))).toInt8.toInt32)), (.int ((((qi4 >>> ((8 : Int32) &&& 31)))).toInt8.toInt32)), (.int ((((qi5 >>> ((0 : Int32) &&& 31)))).toInt8.toInt32)), (.int ((((qi5 >>> ((8 : Int32) &&& 31)))).toInt8.toInt32))] (.int 0)
theorem rm10 (l : Launch) (Z : State) (a0 : Array Value) (hw : HW a0 Z) (G1 : Int32) (qa1 : Addr) (qa2 : Addr) (qk3 : ClassId) (qi4 : Int32) (qi5 : Int32) (h0 : Heap) (n0 : Nat) (X00 : Old Z n0 h0) (O2 : Sta Z Z.heap "java/lang/String" "COMPACT_STRINGS" "Z" (.int G1)) (P5 : ¬ (G1 = (0 : Int32))) (uS12 : Sta Z Z.heap "java/lang/StringUTF16" "$assertionsDisabled" "Z" (.int 1)) (uS15 : Sta Z Z.heap "java/lang/StringUTF16" "HI_BYTE_SHIFT" "I" (.int 0)) (uS18 : Sta Z Z.heap "java/lang/StringUTF16" "LO_BYTE_SHIFT" "I" (.int 8)) (A_qa2 : Arv Z h0 qa2 qk3 .char (2 : Int32) [.int qi4, .int qi5] (.int 0)) (hc4 : (255 : Int32) < qi4) (hc5 : (255 : Int32) < ((((((((((qi4 >>> ((0 : Int32) &&& 31)))).toInt8.toInt32) &&& (255 : Int32)) <<< ((0 : Int32) &&& 31))) ||| (((((((qi4 >>> ((8 : Int32) &&& 31)))).toInt8.toInt32) &&& (255 : Int32)) <<< ((8 : Int32) &&& 31))))).toUInt32.toUInt16.toUInt32.toInt32)) (E_qa1 : Exa Z h0 qa1 "java/lang/String") (F_qa1_coder : Fld Z h0 qa1 "java/lang/String" "coder" "B" (.int 0)) (g_qa1 : n0 ≤ qa1) (F_qa1_value : Fld Z h0 qa1 "java/lang/String" "value" "[B" .null) :
    MF l Z Y8_ jdk_42_method_149_code 6 none (Rm 4 2 6 57) #[.ref qa1, .ref qa2, .int 0, .int 2, .null] h0 (Q10 Z qa1 qi4 qi5 h0 n0) := by
 refine own_sF pn1 rfl (fun m => ef2 m qa1 qa2 (0 : Int32) (2 : Int32)) ?_
 intro p e s m below meth c s₁ Bd hZ hh hx hby hml hown hnm X0 e0 pre0
 have N0 := Fr.nil n0
 obtain ⟨T1, X1, e1, st1⟩ := initO X0 hx hZ hown (w12_ hw) (w13_ hw) (w14_ hw) e0 (g := (mkF m 1 #[rv qa1, rv qa2, iv 0, iv 2, .val .null, .unset] [.ref qa1])) rfl hml.symm rfl (hb hby d1_1) (by decide) (W := 0) (own_hw rfl) (lE rfl)
 obtain ⟨T2, X2, e2, st2⟩ := getS2 X1 hx hZ hown (host := "") (Or.inl (w15_ hw)) Via.refl e1 (O2.ext X00.2) (g := (mkF m 27 #[rv qa1, rv qa2, iv 0, iv 2, .val .null, .unset] [])) rfl (hb hby d1_27)
 obtain ⟨_, T3, L3, X3, hQ3, st3⟩ := own_cS 2 6 [] 36 #[rv qa1, rv qa2, iv 0, iv 2, .val .null, .unset] X2 hx hZ hown (w16_ hw) (w17_ hw) (w18_ hw) (w19_ hw) (rm8 l Z a0 hw  qa2 qk3 qi4 qi5 h0 n0 X00 uS12 uS15 uS18 A_qa2 hc4 hc5) pd4 hml.symm (hb hby d1_36) e2 rfl rfl rfl rfl (by decide)
 obtain ⟨b6, c7_, rfl, N3q, K3q, w8, w9⟩ := hQ3
 have N3 := Fr.app N0 N3q
 have K10 := (Keep.refl h0 [qa1]).trans K3q (fun x q => nomatch q)
 have O12 := X00.keep K3q all0
 obtain ⟨_, T11, L11, X11, hQ11, st11⟩ := own_cS 2 6 [.ref qa1] 45 #[rv qa1, rv qa2, iv 0, iv 2, .val .null, rv b6] X3 hx hZ hown (w24_ hw) (w25_ hw) (w18_ hw) (w26_ hw) (rm9 l Z a0 hw  b6 c7_ ((((qi4 >>> ((0 : Int32) &&& 31)))).toInt8.toInt32) ((((qi4 >>> ((8 : Int32) &&& 31)))).toInt8.toInt32) ((((qi5 >>> ((0 : Int32) &&& 31)))).toInt8.toInt32) ((((qi5 >>> ((8 : Int32) &&& 31)))).toInt8.toInt32) T3.heap n0 O12 w9) pd6 hml.symm (hb hby d1_45) rfl rfl rfl rfl rfl (by decide)
 obtain ⟨rfl, N11q, e11q⟩ := hQ11
 have N11 := Fr.app N3 N11q
 have F13_ := F_qa1_coder.keep K3q nin0
 have E14_ := E_qa1.keep K3q
 obtain ⟨T15, h15, X15, e15, W15, st15⟩ := putF X11 hx hZ hown (host := "") (Or.inl (w27_ hw)) Via.refl e11q F13_ E14_ (Or.inr ⟨(w28_ hw), rfl, hnm⟩) (w3_ hw) (ty := .byte) (by decide) rfl rfl (g := (mkF m 48 #[rv qa1, rv qa2, iv 0, iv 2, .val .null, rv b6] [.int 1, .ref qa1])) rfl rfl (hb hby d1_48)
 have N15 := Fr.snoc X15 N11 g_qa1
 have K16 := K10.wr W15 (Or.inl (mI 0 rfl))
 have F17_ : Fld Z h15 qa1 "java/lang/String" "coder" "B" (.int 1) := F13_.same W15
 have F18_ := F_qa1_value.keep K3q nin0
 have F19_ := F18_.other W15 (Or.inr (slot_ne (Or.inr (w30_ hw)) (Or.inr (w28_ hw)) (by decide) (t := (.array .byte)) (t' := .byte) (by decide) (by decide)))
 have E20_ := E14_.wr W15
 obtain ⟨T21, h21, X21, e21, W21, st21⟩ := putF X15 hx hZ hown (host := "") (Or.inl (w29_ hw)) Via.refl e15 F19_ E20_ (Or.inr ⟨(w30_ hw), rfl, hnm⟩) (w3_ hw) (ty := (.array .byte)) (by decide) rfl rfl (g := (mkF m 54 #[rv qa1, rv qa2, iv 0, iv 2, .val .null, rv b6] [.ref b6, .ref qa1])) rfl rfl (hb hby d1_54)
 have N21 := Fr.snoc X21 N15 g_qa1
 have K22 := K16.wr W21 (Or.inl (mI 0 rfl))
 have F23_ : Fld Z h21 qa1 "java/lang/String" "value" "[B" (.ref b6) := F19_.same W21
 have sz_b6 : h0.size ≤ b6 := w8
 have E24_ := E20_.wr W21
 have F25_ := F17_.other W21 (Or.inr (slot_ne (Or.inr (w28_ hw)) (Or.inr (w30_ hw)) (by decide) (t := .byte) (t' := (.array .byte)) (by decide) (by decide)))
 have A26_ := w9.other W15 (Ne.symm (Nat.ne_of_lt (Nat.lt_of_lt_of_le E_qa1.lt w8)))
 have A27_ := A26_.other W21 (Ne.symm (Nat.ne_of_lt (Nat.lt_of_lt_of_le E_qa1.lt w8)))
 refine own_lvN X21 Bd e21 ⟨b6, c7_, rfl, N21, K22, sz_b6, E24_, F25_, F23_, A27_⟩ rfl (fun fs hr => pre0 _ (by
  show Sx p e below s₁ m 0 #[rv qa1, rv qa2, iv 0, iv 2, .val .null, .unset] [] _
  refine zb X0 Bd d1_0 rfl rfl ?_
  refine st1 _ ?_
  refine zj X1 Bd d1_4 rfl ?_
  refine zp (pc' := 27) X1 Bd d1_5 (XT.i0_ne_t ((by decide) : ¬ ((2 : Int32) = (0 : Int32)))) rfl ?_
  refine st2 _ ?_
  refine zo X2 Bd d1_30 (XT.i0_eq_f (P5 : ¬ (G1 = (0 : Int32)))) ?_
  refine zb X2 Bd d1_33 rfl rfl ?_
  refine zj X2 Bd d1_34 rfl ?_
  refine zj X2 Bd d1_35 rfl ?_
  refine st3 _ ?_
  refine XS.astore X3.here hx rfl (hb hby d1_39) rfl rfl (l' := #[rv qa1, rv qa2, iv 0, iv 2, .val .null, rv b6]) rfl ?_
  refine zb X3 Bd d1_41 rfl rfl ?_
  refine za X3 Bd d1_42 rfl rfl ?_
  refine zj X3 Bd d1_44 rfl ?_
  refine st11 _ ?_
  refine st15 _ ?_
  refine zb X15 Bd d1_51 rfl rfl ?_
  refine za X15 Bd d1_52 rfl rfl ?_
  refine st21 _ ?_
  exact X21.returnOut hx Bd.returns (hb hby d1_57) hr))
theorem pd7 : parseMethodDescriptor "([CIILjava/lang/Void;)V" = some ⟨[(.array .char), .int, .int, (.object "java/lang/Void")], none⟩ := by decide +kernel
theorem d0_9 : decode jdk_42_method_3_code 9 = .ok (.return_, 1) := by decide +kernel
theorem d3_26 : decode jdk_52_method_21_code 26 = .ok (.aload_n 2, 1) := by decide +kernel
theorem d3_27 : decode jdk_52_method_21_code 27 = .ok (.iload_n 3, 1) := by decide +kernel
theorem d3_28 : decode jdk_52_method_21_code 28 = .ok (.iload 6, 2) := by decide +kernel
theorem d3_30 : decode jdk_52_method_21_code 30 = .ok (.i2b, 1) := by decide +kernel
theorem d3_31 : decode jdk_52_method_21_code 31 = .ok (.bastore, 1) := by decide +kernel
theorem d3_32 : decode jdk_52_method_21_code 32 = .ok (.iinc 1 1, 3) := by decide +kernel
theorem d3_35 : decode jdk_52_method_21_code 35 = .ok (.iinc 3 1, 3) := by decide +kernel
theorem d3_38 : decode jdk_52_method_21_code 38 = .ok (.iinc 5 1, 3) := by decide +kernel
theorem d3_41 : decode jdk_52_method_21_code 41 = .ok (.goto (-38), 3) := by decide +kernel
-- java/lang/StringUTF16.compress([CI[BII)I
def Q11 (Z : State) (qa2 : Addr) (qi4 : Int32) (qk6 : ClassId) (h0 : Heap) (n0 : Nat) (v : Option Value) (h : Heap) (L : List Loc) : Prop := v = some (.int 1) ∧ Fr n0 L ∧ Keep h0 h [qa2] ∧ Arv Z h qa2 qk6 .byte (2 : Int32) [(.int ((qi4).toInt8.toInt32)), .int 0] (.int 0)
theorem rm11 (l : Launch) (Z : State) (a0 : Array Value) (hw : HW a0 Z) (qa1 : Addr) (qa2 : Addr) (qk3 : ClassId) (qi4 : Int32) (qi5 : Int32) (qk6 : ClassId) (h0 : Heap) (n0 : Nat) (X00 : Old Z n0 h0) (A_qa1 : Arv Z h0 qa1 qk3 .char (2 : Int32) [.int qi4, .int qi5] (.int 0)) (hc3 : ¬ ((255 : Int32) < qi4)) (A_qa2 : Arv Z h0 qa2 qk6 .byte (2 : Int32) [.int 0, .int 0] (.int 0)) (g_qa2 : n0 ≤ qa2) (ne_qa1_qa2 : qa1 ≠ qa2) (hc11 : (255 : Int32) < qi5) :
    MF l Z Y0_ jdk_52_method_21_code 7 (some .int) (Rm 0 0 0 0) #[.ref qa1, .int 0, .ref qa2, .int 0, .int 2] h0 (Q11 Z qa2 qi4 qk6 h0 n0) := by
 refine own_sF pn2 rfl (fun m => ef4 m qa1 (0 : Int32) qa2 (0 : Int32) (2 : Int32)) ?_
 intro p e s m below meth c s₁ Bd hZ hh hx hby hml hown hnm X0 e0 pre0
 have N0 := Fr.nil n0
 have av1 := A_qa1
 obtain ⟨cl1, Ar1, q1, S1, N1, H1, Gf1⟩ := av1
 have hin2 : ¬ ((0 : Int32) < 0 ∨ cl1.slots.size ≤ ((0 : Int32) : Int32).toNatClampNeg) := inb_of S1 (by decide)
 have hat2 : cl1.slots[((0 : Int32) : Int32).toNatClampNeg]? = some (.int qi4) := Has.at H1 hin2 rfl
 have av4 := A_qa2
 obtain ⟨cl4, Ar4, q4, S4, N4, H4, Gf4⟩ := av4
 have hin5 : ¬ ((0 : Int32) < 0 ∨ cl4.slots.size ≤ ((0 : Int32) : Int32).toNatClampNeg) := inb_of S4 (by decide)
 obtain ⟨T5, h5, X5, e5, W5, st5⟩ := stB X0 hx hZ e0 Ar4 (j := (0 : Int32)) hin5 (g := (mkF m 31 #[rv qa1, iv 0, rv qa2, iv 0, iv 2, iv 0, iv qi4] [(.int ((qi4).toInt8.toInt32)), .int 0, .ref qa2])) rfl rfl (hb hby d3_31)
 have N5_ := Fr.snoc X5 N0 g_qa2
 have K6 := (Keep.refl h0 [qa2]).wr W5 (Or.inl (mI 0 rfl))
 have A7_ : Arv Z h5 qa2 qk6 .byte (2 : Int32) [(.int ((qi4).toInt8.toInt32)), .int 0] (.int 0) := by have q := Arv.set (v := .int (nar .byte ((qi4).toInt8.toInt32))) Ar4 q4 S4 N4 H4 Gf4 (fits_nar_byte _) W5 0 (by decide) (lE rfl); rw [((own_nar_i2b _) : nar .byte ((qi4).toInt8.toInt32) = ((qi4).toInt8.toInt32))] at q; exact q
 have A9_ := A_qa1.other W5 ne_qa1_qa2
 have av8 := A9_
 obtain ⟨cl8, Ar8, q8, S8, N8, H8, Gf8⟩ := av8
 have hin10 : ¬ ((1 : Int32) < 0 ∨ cl8.slots.size ≤ ((1 : Int32) : Int32).toNatClampNeg) := inb_of S8 (by decide)
 have hat10 : cl8.slots[((1 : Int32) : Int32).toNatClampNeg]? = some (.int qi5) := Has.at H8 hin10 rfl
 refine own_lvF X5 Bd (.int 1) e5 ⟨rfl, N5_, K6, A7_⟩ rfl (fun fs hr => pre0 _ (by
  show Sx p e below s₁ m 0 #[rv qa1, iv 0, rv qa2, iv 0, iv 2, .unset, .unset] [] _
  refine zc X0 Bd d3_0 ?_
  refine zs X0 Bd d3_1 (l' := #[rv qa1, iv 0, rv qa2, iv 0, iv 2, iv 0, .unset]) rfl ?_
  refine zi X0 Bd d3_3 rfl ?_
  refine zi X0 Bd d3_5 rfl ?_
  refine zn X0 Bd d3_7 (XT.ii_ge_f ((by decide) : (0 : Int32) < (2 : Int32))) ?_
  refine zb X0 Bd d3_10 rfl rfl ?_
  refine zj X0 Bd d3_11 rfl ?_
  refine X0.caload hx (j := (0 : Int32)) (v := (.int qi4)) (by rw [e0]; exact Ar1.1) (State.isArrayOf_alike hZ.alike Ar1.2.1) Ar1.2.2 hin2 hat2 (g := (mkF m 12 #[rv qa1, iv 0, rv qa2, iv 0, iv 2, iv 0, .unset] [.int 0, .ref qa1])) rfl rfl (hb hby d3_12) _ ?_
  refine zs X0 Bd d3_13 (l' := #[rv qa1, iv 0, rv qa2, iv 0, iv 2, iv 0, iv qi4]) rfl ?_
  refine zi X0 Bd d3_15 rfl ?_
  refine XS.sipush X0.here hx rfl (hb hby d3_17) ?_
  refine zy (pc' := 26) X0 Bd d3_20 (XT.ii_le_t (hc3 : ¬ ((255 : Int32) < qi4))) rfl ?_
  refine zb X0 Bd d3_26 rfl rfl ?_
  refine zj X0 Bd d3_27 rfl ?_
  refine zi X0 Bd d3_28 rfl ?_
  refine XS.i2b X0.here hx rfl (hb hby d3_30) rfl ?_
  refine st5 _ ?_
  refine XS.iinc X5.here hx rfl (hb hby d3_32) rfl (l' := #[rv qa1, iv 1, rv qa2, iv 0, iv 2, iv 0, iv qi4]) rfl ?_
  refine XS.iinc X5.here hx rfl (hb hby d3_35) rfl (l' := #[rv qa1, iv 1, rv qa2, iv 1, iv 2, iv 0, iv qi4]) rfl ?_
  refine XS.iinc X5.here hx rfl (hb hby d3_38) rfl (l' := #[rv qa1, iv 1, rv qa2, iv 1, iv 2, iv 1, iv qi4]) rfl ?_
  refine zg (pc' := 3) X5 Bd d3_41 rfl ?_
  refine zi X5 Bd d3_3 rfl ?_
  refine zi X5 Bd d3_5 rfl ?_
  refine zn X5 Bd d3_7 (XT.ii_ge_f ((by decide) : (1 : Int32) < (2 : Int32))) ?_
  refine zb X5 Bd d3_10 rfl rfl ?_
  show Sx p e below T5 m 11 #[rv qa1, iv 1, rv qa2, iv 1, iv 2, iv 1, iv qi4] [.ref qa1] _
  refine zj X5 Bd d3_11 rfl ?_
  refine X5.caload hx (j := (1 : Int32)) (v := (.int qi5)) (by rw [e5]; exact Ar8.1) (State.isArrayOf_alike hZ.alike Ar8.2.1) Ar8.2.2 hin10 hat10 (g := (mkF m 12 #[rv qa1, iv 1, rv qa2, iv 1, iv 2, iv 1, iv qi4] [.int 1, .ref qa1])) rfl rfl (hb hby d3_12) _ ?_
  refine zs X5 Bd d3_13 (l' := #[rv qa1, iv 1, rv qa2, iv 1, iv 2, iv 1, iv qi5]) rfl ?_
  refine zi X5 Bd d3_15 rfl ?_
  refine XS.sipush X5.here hx rfl (hb hby d3_17) ?_
  refine zn X5 Bd d3_20 (XT.ii_le_f (hc11 : (255 : Int32) < qi5)) ?_
  refine zi X5 Bd d3_23 rfl ?_
  exact retI X5 hx Bd.returns (hb hby d3_25) hr))
-- java/lang/StringUTF16.getChar([BI)C
def Q12 (Z : State) (qi5 : Int32) (qi6 : Int32) (h0 : Heap) (n0 : Nat) (v : Option Value) (h : Heap) (L : List Loc) : Prop := v = some (.int ((((((qi5 &&& (255 : Int32)) <<< ((0 : Int32) &&& 31))) ||| (((qi6 &&& (255 : Int32)) <<< ((8 : Int32) &&& 31))))).toUInt32.toUInt16.toUInt32.toInt32)) ∧ Fr n0 L ∧ h = h0
theorem rm12 (l : Launch) (Z : State) (a0 : Array Value) (hw : HW a0 Z) (qa1 : Addr) (qk2 : ClassId) (qi3 : Int32) (qi4 : Int32) (qi5 : Int32) (qi6 : Int32) (h0 : Heap) (n0 : Nat) (X00 : Old Z n0 h0) (uS12 : Sta Z Z.heap "java/lang/StringUTF16" "$assertionsDisabled" "Z" (.int 1)) (uS15 : Sta Z Z.heap "java/lang/StringUTF16" "HI_BYTE_SHIFT" "I" (.int 0)) (uS18 : Sta Z Z.heap "java/lang/StringUTF16" "LO_BYTE_SHIFT" "I" (.int 8)) (A_qa1 : Arv Z h0 qa1 qk2 .byte (4 : Int32) [.int qi3, .int qi4, .int qi5, .int qi6] (.int 0)) :
    MF l Z Y5_ jdk_52_method_5_code 2 (some .char) (Rm 0 0 0 0) #[.ref qa1, .int 1] h0 (Q12 Z qi5 qi6 h0 n0) := by
 refine own_sF pn2 rfl (fun m => ef8 m qa1 (1 : Int32)) ?_
 intro p e s m below meth c s₁ Bd hZ hh hx hby hml hown hnm X0 e0 pre0
 have N0 := Fr.nil n0
 obtain ⟨T1, X1, e1, st1⟩ := getS2 X0 hx hZ hown (host := "") (Or.inl (w81_ hw)) Via.refl e0 (uS12.ext X00.2) (g := (mkF m 0 #[rv qa1, iv 1] [])) rfl (hb hby d8_0)
 have av2 := A_qa1
 obtain ⟨cl2, Ar2, q2, S2, N2, H2, Gf2⟩ := av2
 have hin3 : ¬ ((2 : Int32) < 0 ∨ cl2.slots.size ≤ ((2 : Int32) : Int32).toNatClampNeg) := inb_of S2 (by decide)
 have hat3 : cl2.slots[((2 : Int32) : Int32).toNatClampNeg]? = some (.int qi5) := Has.at H2 hin3 rfl
 obtain ⟨T4, X4, e4, st4⟩ := getS2 X1 hx hZ hown (host := "") (Or.inl (w82_ hw)) Via.refl e1 (uS15.ext X00.2) (g := (mkF m 42 #[rv qa1, iv 3] [(.int (qi5 &&& (255 : Int32)))])) rfl (hb hby d8_42)
 have av5 := A_qa1
 obtain ⟨cl5, Ar5, q5, S5, N5, H5, Gf5⟩ := av5
 have hin6 : ¬ ((3 : Int32) < 0 ∨ cl5.slots.size ≤ ((3 : Int32) : Int32).toNatClampNeg) := inb_of S5 (by decide)
 have hat6 : cl5.slots[((3 : Int32) : Int32).toNatClampNeg]? = some (.int qi6) := Has.at H5 hin6 rfl
 obtain ⟨T7, X7, e7, st7⟩ := getS2 X4 hx hZ hown (host := "") (Or.inl (w83_ hw)) Via.refl e4 (uS18.ext X00.2) (g := (mkF m 53 #[rv qa1, iv 3] [(.int (qi6 &&& (255 : Int32))), (.int (((qi5 &&& (255 : Int32)) <<< ((0 : Int32) &&& 31))))])) rfl (hb hby d8_53)
 refine own_lvF X7 Bd (.int (nar .char ((((((qi5 &&& (255 : Int32)) <<< ((0 : Int32) &&& 31))) ||| (((qi6 &&& (255 : Int32)) <<< ((8 : Int32) &&& 31))))).toUInt32.toUInt16.toUInt32.toInt32))) e7 ⟨(congrArg (fun z => some (Value.int z)) (own_nar_i2c _)), N0, rfl⟩ rfl (fun fs hr => pre0 _ (by
  show Sx p e below s₁ m 0 #[rv qa1, iv 1] [] _
  refine st1 _ ?_
  refine zp (pc' := 28) X1 Bd d8_3 (XT.i0_ne_t ((by decide) : ¬ ((1 : Int32) = (0 : Int32)))) rfl ?_
  refine zj X1 Bd d8_28 rfl ?_
  refine zc X1 Bd d8_29 ?_
  refine XS.ishl X1.here hx rfl (hb hby d8_30) rfl ?_
  refine zt X1 Bd d8_31 (l' := #[rv qa1, iv 2]) rfl ?_
  refine zb X1 Bd d8_32 rfl rfl ?_
  refine zj X1 Bd d8_33 rfl ?_
  refine XS.iinc X1.here hx rfl (hb hby d8_34) rfl (l' := #[rv qa1, iv 3]) rfl ?_
  refine X1.baloadBytes hx (j := (2 : Int32)) (v := (.int qi5)) (by rw [e1]; exact Ar2.1) (State.isArrayOf_alike hZ.alike Ar2.2.1) Ar2.2.2 hin3 hat3 (g := (mkF m 37 #[rv qa1, iv 3] [.int 2, .ref qa1])) rfl rfl (hb hby d8_37) _ ?_
  refine XS.sipush X1.here hx rfl (hb hby d8_38) ?_
  refine XS.iand X1.here hx rfl (hb hby d8_41) rfl ?_
  refine st4 _ ?_
  refine XS.ishl X4.here hx rfl (hb hby d8_45) rfl ?_
  refine zb X4 Bd d8_46 rfl rfl ?_
  refine zj X4 Bd d8_47 rfl ?_
  refine X4.baloadBytes hx (j := (3 : Int32)) (v := (.int qi6)) (by rw [e4]; exact Ar5.1) (State.isArrayOf_alike hZ.alike Ar5.2.1) Ar5.2.2 hin6 hat6 (g := (mkF m 48 #[rv qa1, iv 3] [.int 3, .ref qa1, (.int (((qi5 &&& (255 : Int32)) <<< ((0 : Int32) &&& 31))))])) rfl rfl (hb hby d8_48) _ ?_
  refine XS.sipush X4.here hx rfl (hb hby d8_49) ?_
  refine XS.iand X4.here hx rfl (hb hby d8_52) rfl ?_
  refine st7 _ ?_
  refine XS.ishl X7.here hx rfl (hb hby d8_56) rfl ?_
  refine XS.ior X7.here hx rfl (hb hby d8_57) rfl ?_
  refine XS.i2c X7.here hx rfl (hb hby d8_58) rfl ?_
  exact retN X7 hx (t := .char) Bd.returns (by simp) (hb hby d8_59) hr))
-- java/lang/StringUTF16.compress([CII)[B
def Q13 (Z : State) (qi3 : Int32) (qi4 : Int32) (h0 : Heap) (n0 : Nat) (v : Option Value) (h : Heap) (L : List Loc) : Prop := ∃ b14 : Addr, ∃ c15_ : ClassId, v = some (.ref b14) ∧ Fr n0 L ∧ Keep h0 h [] ∧ h0.size ≤ b14 ∧ Arv Z h b14 c15_ .byte (4 : Int32) [(.int ((((qi3 >>> ((0 : Int32) &&& 31)))).toInt8.toInt32)), (.int ((((qi3 >>> ((8 : Int32) &&& 31)))).toInt8.toInt32)), (.int ((((qi4 >>> ((0 : Int32) &&& 31)))).toInt8.toInt32)), (.int ((((qi4 >>> ((8 : Int32) &&& 31)))).toInt8.toInt32))] (.int 0)
theorem rm13 (l : Launch) (Z : State) (a0 : Array Value) (hw : HW a0 Z) (qa1 : Addr) (qk2 : ClassId) (qi3 : Int32) (qi4 : Int32) (h0 : Heap) (n0 : Nat) (X00 : Old Z n0 h0) (uS12 : Sta Z Z.heap "java/lang/StringUTF16" "$assertionsDisabled" "Z" (.int 1)) (uS15 : Sta Z Z.heap "java/lang/StringUTF16" "HI_BYTE_SHIFT" "I" (.int 0)) (uS18 : Sta Z Z.heap "java/lang/StringUTF16" "LO_BYTE_SHIFT" "I" (.int 8)) (A_qa1 : Arv Z h0 qa1 qk2 .char (2 : Int32) [.int qi3, .int qi4] (.int 0)) (hc6 : ¬ ((255 : Int32) < qi3)) (hc7 : (255 : Int32) < qi4) (hc21 : (255 : Int32) < ((((((((((qi4 >>> ((0 : Int32) &&& 31)))).toInt8.toInt32) &&& (255 : Int32)) <<< ((0 : Int32) &&& 31))) ||| (((((((qi4 >>> ((8 : Int32) &&& 31)))).toInt8.toInt32) &&& (255 : Int32)) <<< ((8 : Int32) &&& 31))))).toUInt32.toUInt16.toUInt32.toInt32)) :
    MF l Z Y6_ jdk_52_method_16_code 6 (some (.array .byte)) (Rm 3 2 6 40) #[.ref qa1, .int 0, .int 2] h0 (Q13 Z qi3 qi4 h0 n0) := by
 refine own_sF pn2 rfl (fun m => ef3 m qa1 (0 : Int32) (2 : Int32)) ?_
 intro p e s m below meth c s₁ Bd hZ hh hx hby hml hown hnm X0 e0 pre0
 have N0 := Fr.nil n0
 obtain ⟨T1, h1, c1, X1, e1, E1, A1, st1⟩ := newP (aty := .byte) X0 hx hZ (w20_ hw) e0 (g := (mkF m 1 #[rv qa1, iv 0, iv 2, .unset, .unset, .unset] [.int 2])) rfl (hb hby d2_1) rfl (by decide) (cap := 2) (by decide) (lE rfl) (lE rfl) (lE rfl)
 obtain ⟨b1, g1⟩ : ∃ z, z = h0.size := ⟨_, rfl⟩
 rw [← g1] at A1 st1
 replace X1 : Stand p l e (Rm 3 2 6 40) s m #[.ref qa1, .int 0, .int 2] below meth c T1 _ 1 2 := X1
 have K2 := (Keep.refl h0 []).ext E1
 have A3_ : Arv Z h1 b1 c1 .byte (2 : Int32) [.int 0, .int 0] (.int 0) := (Arv.new A1 (by decide)).pad (pad_rep [] (.int 0) 2)
 have A5_ := A_qa1.ext E1
 have g_b1 : n0 ≤ b1 := Nat.le_trans (Nat.le_trans (Nat.le_of_eq X00.1.symm) X00.2.1) (Nat.le_of_eq g1.symm)
 have O8 := X00.ext E1
 obtain ⟨_, T4, L4, X4, hQ4, st4⟩ := own_cS 1 2 [] 9 #[rv qa1, iv 0, iv 2, rv b1, .unset, .unset] X1 hx hZ hown (w21_ hw) (w22_ hw) (w18_ hw) (w23_ hw) (rm11 l Z a0 hw  qa1 b1 qk2 qi3 qi4 c1 h1 n0 O8 A5_ hc6 A3_ g_b1 (Nat.ne_of_lt (Nat.lt_of_lt_of_le A_qa1.lt (Nat.le_of_eq g1.symm))) hc7) pd0 hml.symm (hb hby d2_9) e1 rfl rfl rfl rfl (by decide)
 obtain ⟨rfl, N4q, K4q, w9⟩ := hQ4
 have N4 := Fr.app N0 N4q
 have sz_b1 : h0.size ≤ b1 := (Nat.le_of_eq g1.symm)
 have K10 := K2.trans K4q (allS (Or.inr sz_b1) all0)
 have A12_ := A5_.keep K4q (ninS (Nat.ne_of_lt (Nat.lt_of_lt_of_le A_qa1.lt (Nat.le_of_eq g1.symm))) nin0)
 have O13 := O8.keep K4q (allS g_b1 all0)
 obtain ⟨_, T11, L11, X11, hQ11, st11⟩ := own_cS 2 6 [] 23 #[rv qa1, iv 0, iv 2, rv b1, iv 1, .unset] X4 hx hZ hown (w68_ hw) (w69_ hw) (w18_ hw) (w70_ hw) (rm6 l Z a0 hw  qa1 qk2 qi3 qi4 T4.heap n0 O13 uS12 uS15 uS18 A12_) pd4 hml.symm (hb hby d2_23) rfl rfl rfl rfl rfl (by decide)
 obtain ⟨b14, c15_, rfl, N11q, K11q, w16, w17⟩ := hQ11
 have N11 := Fr.app N4 N11q
 have K18 := K10.trans K11q (fun x q => nomatch q)
 have O20 := O13.keep K11q all0
 obtain ⟨_, T19, L19, X19, hQ19, st19⟩ := own_cS 2 6 [] 32 #[rv qa1, iv 0, iv 2, rv b1, iv 1, rv b14] X11 hx hZ hown (w84_ hw) (w85_ hw) (w18_ hw) (w86_ hw) (rm12 l Z a0 hw  b14 c15_ ((((qi3 >>> ((0 : Int32) &&& 31)))).toInt8.toInt32) ((((qi3 >>> ((8 : Int32) &&& 31)))).toInt8.toInt32) ((((qi4 >>> ((0 : Int32) &&& 31)))).toInt8.toInt32) ((((qi4 >>> ((8 : Int32) &&& 31)))).toInt8.toInt32) T11.heap n0 O20 uS12 uS15 uS18 w17) pd5 hml.symm (hb hby d2_32) rfl rfl rfl rfl rfl (by decide)
 obtain ⟨rfl, N19q, e19q⟩ := hQ19
 have N19 := Fr.app N11 N19q
 have sz_b14 : h0.size ≤ b14 := Nat.le_trans K10.1 w16
 refine own_lvF X19 Bd (.ref b14) e19q ⟨b14, c15_, rfl, N19, K18, sz_b14, w17⟩ rfl (fun fs hr => pre0 _ (by
  show Sx p e below s₁ m 0 #[rv qa1, iv 0, iv 2, .unset, .unset, .unset] [] _
  refine zj X0 Bd d2_0 rfl ?_
  refine st1 _ ?_
  refine XS.astoreN X1.here hx rfl (hb hby d2_3) rfl rfl (l' := #[rv qa1, iv 0, iv 2, rv b1, .unset, .unset]) rfl ?_
  refine zb X1 Bd d2_4 rfl rfl ?_
  refine zj X1 Bd d2_5 rfl ?_
  refine zb X1 Bd d2_6 rfl rfl ?_
  refine zc X1 Bd d2_7 ?_
  refine zj X1 Bd d2_8 rfl ?_
  refine st4 _ ?_
  refine zs X4 Bd d2_12 (l' := #[rv qa1, iv 0, iv 2, rv b1, iv 1, .unset]) rfl ?_
  refine zi X4 Bd d2_14 rfl ?_
  refine zj X4 Bd d2_16 rfl ?_
  refine zn X4 Bd d2_17 (XT.ii_eq_f ((by decide) : ¬ ((1 : Int32) = (2 : Int32)))) ?_
  refine zb X4 Bd d2_20 rfl rfl ?_
  refine zj X4 Bd d2_21 rfl ?_
  refine zj X4 Bd d2_22 rfl ?_
  refine st11 _ ?_
  refine XS.astore X11.here hx rfl (hb hby d2_26) rfl rfl (l' := #[rv qa1, iv 0, iv 2, rv b1, iv 1, rv b14]) rfl ?_
  refine za X11 Bd d2_28 rfl rfl ?_
  refine zi X11 Bd d2_30 rfl ?_
  refine st19 _ ?_
  refine XS.sipush X19.here hx rfl (hb hby d2_35) ?_
  refine zy (pc' := 54) X19 Bd d2_38 (XT.ii_gt_t (hc21 : (255 : Int32) < ((((((((((qi4 >>> ((0 : Int32) &&& 31)))).toInt8.toInt32) &&& (255 : Int32)) <<< ((0 : Int32) &&& 31))) ||| (((((((qi4 >>> ((8 : Int32) &&& 31)))).toInt8.toInt32) &&& (255 : Int32)) <<< ((8 : Int32) &&& 31))))).toUInt32.toUInt16.toUInt32.toInt32))) rfl ?_
  refine za X19 Bd d2_54 rfl rfl ?_
  exact retOut X19 hx Bd.returns rfl (Or.inr (Or.inr (Or.inr (Or.inr ⟨rfl, rfl, rfl⟩)))) (hb hby d2_56) hr))
-- java/lang/String.<init>([CIILjava/lang/Void;)V
def Q14 (Z : State) (qa1 : Addr) (qi4 : Int32) (qi5 : Int32) (h0 : Heap) (n0 : Nat) (v : Option Value) (h : Heap) (L : List Loc) : Prop := ∃ b7 : Addr, ∃ c8_ : ClassId, v = none ∧ Fr n0 L ∧ Keep h0 h [qa1] ∧ h0.size ≤ b7 ∧ Exa Z h qa1 "java/lang/String" ∧ Fld Z h qa1 "java/lang/String" "coder" "B" (.int 1) ∧ Fld Z h qa1 "java/lang/String" "value" "[B" (.ref b7) ∧ Arv Z h b7 c8_ .byte (4 : Int32) [(.int ((((qi4 >>> ((0 : Int32) &&& 31)))).toInt8.toInt32)), (.int ((((qi4 >>> ((8 : Int32) &&& 31)))).toInt8.toInt32)), (.int ((((qi5 >>> ((0 : Int32) &&& 31)))).toInt8.toInt32)), (.int ((((qi5 >>> ((8 : Int32) &&& 31)))).toInt8.toInt32))] (.int 0)
theorem rm14 (l : Launch) (Z : State) (a0 : Array Value) (hw : HW a0 Z) (G1 : Int32) (qa1 : Addr) (qa2 : Addr) (qk3 : ClassId) (qi4 : Int32) (qi5 : Int32) (h0 : Heap) (n0 : Nat) (X00 : Old Z n0 h0) (O2 : Sta Z Z.heap "java/lang/String" "COMPACT_STRINGS" "Z" (.int G1)) (P5 : ¬ (G1 = (0 : Int32))) (uS12 : Sta Z Z.heap "java/lang/StringUTF16" "$assertionsDisabled" "Z" (.int 1)) (uS15 : Sta Z Z.heap "java/lang/StringUTF16" "HI_BYTE_SHIFT" "I" (.int 0)) (uS18 : Sta Z Z.heap "java/lang/StringUTF16" "LO_BYTE_SHIFT" "I" (.int 8)) (A_qa2 : Arv Z h0 qa2 qk3 .char (2 : Int32) [.int qi4, .int qi5] (.int 0)) (hc4 : ¬ ((255 : Int32) < qi4)) (hc5 : (255 : Int32) < qi5) (hc6 : (255 : Int32) < ((((((((((qi5 >>> ((0 : Int32) &&& 31)))).toInt8.toInt32) &&& (255 : Int32)) <<< ((0 : Int32) &&& 31))) ||| (((((((qi5 >>> ((8 : Int32) &&& 31)))).toInt8.toInt32) &&& (255 : Int32)) <<< ((8 : Int32) &&& 31))))).toUInt32.toUInt16.toUInt32.toInt32)) (E_qa1 : Exa Z h0 qa1 "java/lang/String") (F_qa1_coder : Fld Z h0 qa1 "java/lang/String" "coder" "B" (.int 0)) (g_qa1 : n0 ≤ qa1) (F_qa1_value : Fld Z h0 qa1 "java/lang/String" "value" "[B" .null) :
    MF l Z Y8_ jdk_42_method_149_code 6 none (Rm 4 2 6 57) #[.ref qa1, .ref qa2, .int 0, .int 2, .null] h0 (Q14 Z qa1 qi4 qi5 h0 n0) := by
 refine own_sF pn1 rfl (fun m => ef2 m qa1 qa2 (0 : Int32) (2 : Int32)) ?_
 intro p e s m below meth c s₁ Bd hZ hh hx hby hml hown hnm X0 e0 pre0
 have N0 := Fr.nil n0
 obtain ⟨T1, X1, e1, st1⟩ := initO X0 hx hZ hown (w12_ hw) (w13_ hw) (w14_ hw) e0 (g := (mkF m 1 #[rv qa1, rv qa2, iv 0, iv 2, .val .null, .unset] [.ref qa1])) rfl hml.symm rfl (hb hby d1_1) (by decide) (W := 0) (own_hw rfl) (lE rfl)
 obtain ⟨T2, X2, e2, st2⟩ := getS2 X1 hx hZ hown (host := "") (Or.inl (w15_ hw)) Via.refl e1 (O2.ext X00.2) (g := (mkF m 27 #[rv qa1, rv qa2, iv 0, iv 2, .val .null, .unset] [])) rfl (hb hby d1_27)
 obtain ⟨_, T3, L3, X3, hQ3, st3⟩ := own_cS 2 6 [] 36 #[rv qa1, rv qa2, iv 0, iv 2, .val .null, .unset] X2 hx hZ hown (w16_ hw) (w17_ hw) (w18_ hw) (w19_ hw) (rm13 l Z a0 hw  qa2 qk3 qi4 qi5 h0 n0 X00 uS12 uS15 uS18 A_qa2 hc4 hc5 hc6) pd4 hml.symm (hb hby d1_36) e2 rfl rfl rfl rfl (by decide)
 obtain ⟨b7, c8_, rfl, N3q, K3q, w9, w10⟩ := hQ3
 have N3 := Fr.app N0 N3q
 have K11 := (Keep.refl h0 [qa1]).trans K3q (fun x q => nomatch q)
 have O13 := X00.keep K3q all0
 obtain ⟨_, T12, L12, X12, hQ12, st12⟩ := own_cS 2 6 [.ref qa1] 45 #[rv qa1, rv qa2, iv 0, iv 2, .val .null, rv b7] X3 hx hZ hown (w24_ hw) (w25_ hw) (w18_ hw) (w26_ hw) (rm9 l Z a0 hw  b7 c8_ ((((qi4 >>> ((0 : Int32) &&& 31)))).toInt8.toInt32) ((((qi4 >>> ((8 : Int32) &&& 31)))).toInt8.toInt32) ((((qi5 >>> ((0 : Int32) &&& 31)))).toInt8.toInt32) ((((qi5 >>> ((8 : Int32) &&& 31)))).toInt8.toInt32) T3.heap n0 O13 w10) pd6 hml.symm (hb hby d1_45) rfl rfl rfl rfl rfl (by decide)
 obtain ⟨rfl, N12q, e12q⟩ := hQ12
 have N12 := Fr.app N3 N12q
 have F14_ := F_qa1_coder.keep K3q nin0
 have E15_ := E_qa1.keep K3q
 obtain ⟨T16, h16, X16, e16, W16, st16⟩ := putF X12 hx hZ hown (host := "") (Or.inl (w27_ hw)) Via.refl e12q F14_ E15_ (Or.inr ⟨(w28_ hw), rfl, hnm⟩) (w3_ hw) (ty := .byte) (by decide) rfl rfl (g := (mkF m 48 #[rv qa1, rv qa2, iv 0, iv 2, .val .null, rv b7] [.int 1, .ref qa1])) rfl rfl (hb hby d1_48)
 have N16 := Fr.snoc X16 N12 g_qa1
 have K17 := K11.wr W16 (Or.inl (mI 0 rfl))
 have F18_ : Fld Z h16 qa1 "java/lang/String" "coder" "B" (.int 1) := F14_.same W16
 have F19_ := F_qa1_value.keep K3q nin0
 have F20_ := F19_.other W16 (Or.inr (slot_ne (Or.inr (w30_ hw)) (Or.inr (w28_ hw)) (by decide) (t := (.array .byte)) (t' := .byte) (by decide) (by decide)))
 have E21_ := E15_.wr W16
 obtain ⟨T22, h22, X22, e22, W22, st22⟩ := putF X16 hx hZ hown (host := "") (Or.inl (w29_ hw)) Via.refl e16 F20_ E21_ (Or.inr ⟨(w30_ hw), rfl, hnm⟩) (w3_ hw) (ty := (.array .byte)) (by decide) rfl rfl (g := (mkF m 54 #[rv qa1, rv qa2, iv 0, iv 2, .val .null, rv b7] [.ref b7, .ref qa1])) rfl rfl (hb hby d1_54)
 have N22 := Fr.snoc X22 N16 g_qa1
 have K23 := K17.wr W22 (Or.inl (mI 0 rfl))
 have F24_ : Fld Z h22 qa1 "java/lang/String" "value" "[B" (.ref b7) := F20_.same W22
 have sz_b7 : h0.size ≤ b7 := w9
 have E25_ := E21_.wr W22
 have F26_ := F18_.other W22 (Or.inr (slot_ne (Or.inr (w28_ hw)) (Or.inr (w30_ hw)) (by decide) (t := .byte) (t' := (.array .byte)) (by decide) (by decide)))
 have A27_ := w10.other W16 (Ne.symm (Nat.ne_of_lt (Nat.lt_of_lt_of_le E_qa1.lt w9)))
 have A28_ := A27_.other W22 (Ne.symm (Nat.ne_of_lt (Nat.lt_of_lt_of_le E_qa1.lt w9)))
 refine own_lvN X22 Bd e22 ⟨b7, c8_, rfl, N22, K23, sz_b7, E25_, F26_, F24_, A28_⟩ rfl (fun fs hr => pre0 _ (by
  show Sx p e below s₁ m 0 #[rv qa1, rv qa2, iv 0, iv 2, .val .null, .unset] [] _
  refine zb X0 Bd d1_0 rfl rfl ?_
  refine st1 _ ?_
  refine zj X1 Bd d1_4 rfl ?_
  refine zp (pc' := 27) X1 Bd d1_5 (XT.i0_ne_t ((by decide) : ¬ ((2 : Int32) = (0 : Int32)))) rfl ?_
  refine st2 _ ?_
  refine zo X2 Bd d1_30 (XT.i0_eq_f (P5 : ¬ (G1 = (0 : Int32)))) ?_
  refine zb X2 Bd d1_33 rfl rfl ?_
  refine zj X2 Bd d1_34 rfl ?_
  refine zj X2 Bd d1_35 rfl ?_
  refine st3 _ ?_
  refine XS.astore X3.here hx rfl (hb hby d1_39) rfl rfl (l' := #[rv qa1, rv qa2, iv 0, iv 2, .val .null, rv b7]) rfl ?_
  refine zb X3 Bd d1_41 rfl rfl ?_
  refine za X3 Bd d1_42 rfl rfl ?_
  refine zj X3 Bd d1_44 rfl ?_
  refine st12 _ ?_
  refine st16 _ ?_
  refine zb X16 Bd d1_51 rfl rfl ?_
  refine za X16 Bd d1_52 rfl rfl ?_
  refine st22 _ ?_
  exact X22.returnOut hx Bd.returns (hb hby d1_57) hr))
theorem d3_44 : decode jdk_52_method_21_code 44 = .ok (.iload 4, 2) := by decide +kernel
theorem d3_46 : decode jdk_52_method_21_code 46 = .ok (.ireturn, 1) := by decide +kernel
-- java/lang/StringUTF16.compress([CI[BII)I
def Q15 (Z : State) (qa2 : Addr) (qi4 : Int32) (qi5 : Int32) (qk6 : ClassId) (h0 : Heap) (n0 : Nat) (v : Option Value) (h : Heap) (L : List Loc) : Prop := v = some (.int 2) ∧ Fr n0 L ∧ Keep h0 h [qa2] ∧ Arv Z h qa2 qk6 .byte (2 : Int32) [(.int ((qi4).toInt8.toInt32)), (.int ((qi5).toInt8.toInt32))] (.int 0)
theorem rm15 (l : Launch) (Z : State) (a0 : Array Value) (hw : HW a0 Z) (qa1 : Addr) (qa2 : Addr) (qk3 : ClassId) (qi4 : Int32) (qi5 : Int32) (qk6 : ClassId) (h0 : Heap) (n0 : Nat) (X00 : Old Z n0 h0) (A_qa1 : Arv Z h0 qa1 qk3 .char (2 : Int32) [.int qi4, .int qi5] (.int 0)) (hc3 : ¬ ((255 : Int32) < qi4)) (A_qa2 : Arv Z h0 qa2 qk6 .byte (2 : Int32) [.int 0, .int 0] (.int 0)) (g_qa2 : n0 ≤ qa2) (ne_qa1_qa2 : qa1 ≠ qa2) (hc11 : ¬ ((255 : Int32) < qi5)) :
    MF l Z Y0_ jdk_52_method_21_code 7 (some .int) (Rm 0 0 0 0) #[.ref qa1, .int 0, .ref qa2, .int 0, .int 2] h0 (Q15 Z qa2 qi4 qi5 qk6 h0 n0) := by
 refine own_sF pn2 rfl (fun m => ef4 m qa1 (0 : Int32) qa2 (0 : Int32) (2 : Int32)) ?_
 intro p e s m below meth c s₁ Bd hZ hh hx hby hml hown hnm X0 e0 pre0
 have N0 := Fr.nil n0
 have av1 := A_qa1
 obtain ⟨cl1, Ar1, q1, S1, N1, H1, Gf1⟩ := av1
 have hin2 : ¬ ((0 : Int32) < 0 ∨ cl1.slots.size ≤ ((0 : Int32) : Int32).toNatClampNeg) := inb_of S1 (by decide)
 have hat2 : cl1.slots[((0 : Int32) : Int32).toNatClampNeg]? = some (.int qi4) := Has.at H1 hin2 rfl
 have av4 := A_qa2
 obtain ⟨cl4, Ar4, q4, S4, N4, H4, Gf4⟩ := av4
 have hin5 : ¬ ((0 : Int32) < 0 ∨ cl4.slots.size ≤ ((0 : Int32) : Int32).toNatClampNeg) := inb_of S4 (by decide)
 obtain ⟨T5, h5, X5, e5, W5, st5⟩ := stB X0 hx hZ e0 Ar4 (j := (0 : Int32)) hin5 (g := (mkF m 31 #[rv qa1, iv 0, rv qa2, iv 0, iv 2, iv 0, iv qi4] [(.int ((qi4).toInt8.toInt32)), .int 0, .ref qa2])) rfl rfl (hb hby d3_31)
 have N5_ := Fr.snoc X5 N0 g_qa2
 have K6 := (Keep.refl h0 [qa2]).wr W5 (Or.inl (mI 0 rfl))
 have A7_ : Arv Z h5 qa2 qk6 .byte (2 : Int32) [(.int ((qi4).toInt8.toInt32)), .int 0] (.int 0) := by have q := Arv.set (v := .int (nar .byte ((qi4).toInt8.toInt32))) Ar4 q4 S4 N4 H4 Gf4 (fits_nar_byte _) W5 0 (by decide) (lE rfl); rw [((own_nar_i2b _) : nar .byte ((qi4).toInt8.toInt32) = ((qi4).toInt8.toInt32))] at q; exact q
 have A9_ := A_qa1.other W5 ne_qa1_qa2
 have av8 := A9_
 obtain ⟨cl8, Ar8, q8, S8, N8, H8, Gf8⟩ := av8
 have hin10 : ¬ ((1 : Int32) < 0 ∨ cl8.slots.size ≤ ((1 : Int32) : Int32).toNatClampNeg) := inb_of S8 (by decide)
 have hat10 : cl8.slots[((1 : Int32) : Int32).toNatClampNeg]? = some (.int qi5) := Has.at H8 hin10 rfl
 have av12 := A7_
 obtain ⟨cl12, Ar12, q12, S12, N12, H12, Gf12⟩ := av12
 have hin13 : ¬ ((1 : Int32) < 0 ∨ cl12.slots.size ≤ ((1 : Int32) : Int32).toNatClampNeg) := inb_of S12 (by decide)
 obtain ⟨T13, h13, X13, e13, W13, st13⟩ := stB X5 hx hZ e5 Ar12 (j := (1 : Int32)) hin13 (g := (mkF m 31 #[rv qa1, iv 1, rv qa2, iv 1, iv 2, iv 1, iv qi5] [(.int ((qi5).toInt8.toInt32)), .int 1, .ref qa2])) rfl rfl (hb hby d3_31)
 have N13_ := Fr.snoc X13 N5_ g_qa2
 have K14 := K6.wr W13 (Or.inl (mI 0 rfl))
 have A15_ : Arv Z h13 qa2 qk6 .byte (2 : Int32) [(.int ((qi4).toInt8.toInt32)), (.int ((qi5).toInt8.toInt32))] (.int 0) := by have q := Arv.set (v := .int (nar .byte ((qi5).toInt8.toInt32))) Ar12 q12 S12 N12 H12 Gf12 (fits_nar_byte _) W13 1 (by decide) (lE rfl); rw [((own_nar_i2b _) : nar .byte ((qi5).toInt8.toInt32) = ((qi5).toInt8.toInt32))] at q; exact q
 refine own_lvF X13 Bd (.int 2) e13 ⟨rfl, N13_, K14, A15_⟩ rfl (fun fs hr => pre0 _ (by
  show Sx p e below s₁ m 0 #[rv qa1, iv 0, rv qa2, iv 0, iv 2, .unset, .unset] [] _
  refine zc X0 Bd d3_0 ?_
  refine zs X0 Bd d3_1 (l' := #[rv qa1, iv 0, rv qa2, iv 0, iv 2, iv 0, .unset]) rfl ?_
  refine zi X0 Bd d3_3 rfl ?_
  refine zi X0 Bd d3_5 rfl ?_
  refine zn X0 Bd d3_7 (XT.ii_ge_f ((by decide) : (0 : Int32) < (2 : Int32))) ?_
  refine zb X0 Bd d3_10 rfl rfl ?_
  refine zj X0 Bd d3_11 rfl ?_
  refine X0.caload hx (j := (0 : Int32)) (v := (.int qi4)) (by rw [e0]; exact Ar1.1) (State.isArrayOf_alike hZ.alike Ar1.2.1) Ar1.2.2 hin2 hat2 (g := (mkF m 12 #[rv qa1, iv 0, rv qa2, iv 0, iv 2, iv 0, .unset] [.int 0, .ref qa1])) rfl rfl (hb hby d3_12) _ ?_
  refine zs X0 Bd d3_13 (l' := #[rv qa1, iv 0, rv qa2, iv 0, iv 2, iv 0, iv qi4]) rfl ?_
  refine zi X0 Bd d3_15 rfl ?_
  refine XS.sipush X0.here hx rfl (hb hby d3_17) ?_
  refine zy (pc' := 26) X0 Bd d3_20 (XT.ii_le_t (hc3 : ¬ ((255 : Int32) < qi4))) rfl ?_
  refine zb X0 Bd d3_26 rfl rfl ?_
  refine zj X0 Bd d3_27 rfl ?_
  refine zi X0 Bd d3_28 rfl ?_
  refine XS.i2b X0.here hx rfl (hb hby d3_30) rfl ?_
  refine st5 _ ?_
  refine XS.iinc X5.here hx rfl (hb hby d3_32) rfl (l' := #[rv qa1, iv 1, rv qa2, iv 0, iv 2, iv 0, iv qi4]) rfl ?_
  refine XS.iinc X5.here hx rfl (hb hby d3_35) rfl (l' := #[rv qa1, iv 1, rv qa2, iv 1, iv 2, iv 0, iv qi4]) rfl ?_
  refine XS.iinc X5.here hx rfl (hb hby d3_38) rfl (l' := #[rv qa1, iv 1, rv qa2, iv 1, iv 2, iv 1, iv qi4]) rfl ?_
  refine zg (pc' := 3) X5 Bd d3_41 rfl ?_
  refine zi X5 Bd d3_3 rfl ?_
  refine zi X5 Bd d3_5 rfl ?_
  refine zn X5 Bd d3_7 (XT.ii_ge_f ((by decide) : (1 : Int32) < (2 : Int32))) ?_
  refine zb X5 Bd d3_10 rfl rfl ?_
  show Sx p e below T5 m 11 #[rv qa1, iv 1, rv qa2, iv 1, iv 2, iv 1, iv qi4] [.ref qa1] _
  refine zj X5 Bd d3_11 rfl ?_
  refine X5.caload hx (j := (1 : Int32)) (v := (.int qi5)) (by rw [e5]; exact Ar8.1) (State.isArrayOf_alike hZ.alike Ar8.2.1) Ar8.2.2 hin10 hat10 (g := (mkF m 12 #[rv qa1, iv 1, rv qa2, iv 1, iv 2, iv 1, iv qi4] [.int 1, .ref qa1])) rfl rfl (hb hby d3_12) _ ?_
  refine zs X5 Bd d3_13 (l' := #[rv qa1, iv 1, rv qa2, iv 1, iv 2, iv 1, iv qi5]) rfl ?_
  refine zi X5 Bd d3_15 rfl ?_
  refine XS.sipush X5.here hx rfl (hb hby d3_17) ?_
  refine zy (pc' := 26) X5 Bd d3_20 (XT.ii_le_t (hc11 : ¬ ((255 : Int32) < qi5))) rfl ?_
  refine zb X5 Bd d3_26 rfl rfl ?_
  refine zj X5 Bd d3_27 rfl ?_
  refine zi X5 Bd d3_28 rfl ?_
  refine XS.i2b X5.here hx rfl (hb hby d3_30) rfl ?_
  refine st13 _ ?_
  refine XS.iinc X13.here hx rfl (hb hby d3_32) rfl (l' := #[rv qa1, iv 2, rv qa2, iv 1, iv 2, iv 1, iv qi5]) rfl ?_
  refine XS.iinc X13.here hx rfl (hb hby d3_35) rfl (l' := #[rv qa1, iv 2, rv qa2, iv 2, iv 2, iv 1, iv qi5]) rfl ?_
  refine XS.iinc X13.here hx rfl (hb hby d3_38) rfl (l' := #[rv qa1, iv 2, rv qa2, iv 2, iv 2, iv 2, iv qi5]) rfl ?_
  refine zg (pc' := 3) X13 Bd d3_41 rfl ?_
  refine zi X13 Bd d3_3 rfl ?_
  refine zi X13 Bd d3_5 rfl ?_
  refine zy (pc' := 44) X13 Bd d3_7 (XT.ii_ge_t ((by decide) : ¬ ((2 : Int32) < (2 : Int32)))) rfl ?_
  refine zi X13 Bd d3_44 rfl ?_
  exact retI X13 hx Bd.returns (hb hby d3_46) hr))
theorem d2_57 : decode jdk_52_method_16_code 57 = .ok (.aload_n 3, 1) := by decide +kernel
theorem d2_58 : decode jdk_52_method_16_code 58 = .ok (.areturn, 1) := by decide +kernel
-- java/lang/StringUTF16.compress([CII)[B
def Q16 (Z : State) (qi3 : Int32) (qi4 : Int32) (h0 : Heap) (n0 : Nat) (v : Option Value) (h : Heap) (L : List Loc) : Prop := ∃ b1 : Addr, ∃ c1 : ClassId, v = some (.ref b1) ∧ Fr n0 L ∧ Keep h0 h [] ∧ h0.size ≤ b1 ∧ Arv Z h b1 c1 .byte (2 : Int32) [(.int ((qi3).toInt8.toInt32)), (.int ((qi4).toInt8.toInt32))] (.int 0)
theorem rm16 (l : Launch) (Z : State) (a0 : Array Value) (hw : HW a0 Z) (qa1 : Addr) (qk2 : ClassId) (qi3 : Int32) (qi4 : Int32) (h0 : Heap) (n0 : Nat) (X00 : Old Z n0 h0) (A_qa1 : Arv Z h0 qa1 qk2 .char (2 : Int32) [.int qi3, .int qi4] (.int 0)) (hc6 : ¬ ((255 : Int32) < qi3)) (hc7 : ¬ ((255 : Int32) < qi4)) :
    MF l Z Y6_ jdk_52_method_16_code 6 (some (.array .byte)) (Rm 1 1 2 18) #[.ref qa1, .int 0, .int 2] h0 (Q16 Z qi3 qi4 h0 n0) := by
 refine own_sF pn2 rfl (fun m => ef3 m qa1 (0 : Int32) (2 : Int32)) ?_
 intro p e s m below meth c s₁ Bd hZ hh hx hby hml hown hnm X0 e0 pre0
 have N0 := Fr.nil n0
 obtain ⟨T1, h1, c1, X1, e1, E1, A1, st1⟩ := newP (aty := .byte) X0 hx hZ (w20_ hw) e0 (g := (mkF m 1 #[rv qa1, iv 0, iv 2, .unset, .unset, .unset] [.int 2])) rfl (hb hby d2_1) rfl (by decide) (cap := 2) (by decide) (lE rfl) (lE rfl) (lE rfl)
 obtain ⟨b1, g1⟩ : ∃ z, z = h0.size := ⟨_, rfl⟩
 rw [← g1] at A1 st1
 replace X1 : Stand p l e (Rm 1 1 2 18) s m #[.ref qa1, .int 0, .int 2] below meth c T1 _ 1 2 := X1
 have K2 := (Keep.refl h0 []).ext E1
 have A3_ : Arv Z h1 b1 c1 .byte (2 : Int32) [.int 0, .int 0] (.int 0) := (Arv.new A1 (by decide)).pad (pad_rep [] (.int 0) 2)
 have A5_ := A_qa1.ext E1
 have g_b1 : n0 ≤ b1 := Nat.le_trans (Nat.le_trans (Nat.le_of_eq X00.1.symm) X00.2.1) (Nat.le_of_eq g1.symm)
 have O8 := X00.ext E1
 obtain ⟨_, T4, L4, X4, hQ4, st4⟩ := own_cS 1 2 [] 9 #[rv qa1, iv 0, iv 2, rv b1, .unset, .unset] X1 hx hZ hown (w21_ hw) (w22_ hw) (w18_ hw) (w23_ hw) (rm15 l Z a0 hw  qa1 b1 qk2 qi3 qi4 c1 h1 n0 O8 A5_ hc6 A3_ g_b1 (Nat.ne_of_lt (Nat.lt_of_lt_of_le A_qa1.lt (Nat.le_of_eq g1.symm))) hc7) pd0 hml.symm (hb hby d2_9) e1 rfl rfl rfl rfl (by decide)
 obtain ⟨rfl, N4q, K4q, w9⟩ := hQ4
 have N4 := Fr.app N0 N4q
 have sz_b1 : h0.size ≤ b1 := (Nat.le_of_eq g1.symm)
 have K10 := K2.trans K4q (allS (Or.inr sz_b1) all0)
 refine own_lvF X4 Bd (.ref b1) rfl ⟨b1, c1, rfl, N4, K10, sz_b1, w9⟩ rfl (fun fs hr => pre0 _ (by
  show Sx p e below s₁ m 0 #[rv qa1, iv 0, iv 2, .unset, .unset, .unset] [] _
  refine zj X0 Bd d2_0 rfl ?_
  refine st1 _ ?_
  refine XS.astoreN X1.here hx rfl (hb hby d2_3) rfl rfl (l' := #[rv qa1, iv 0, iv 2, rv b1, .unset, .unset]) rfl ?_
  refine zb X1 Bd d2_4 rfl rfl ?_
  refine zj X1 Bd d2_5 rfl ?_
  refine zb X1 Bd d2_6 rfl rfl ?_
  refine zc X1 Bd d2_7 ?_
  refine zj X1 Bd d2_8 rfl ?_
  refine st4 _ ?_
  refine zs X4 Bd d2_12 (l' := #[rv qa1, iv 0, iv 2, rv b1, iv 2, .unset]) rfl ?_
  refine zi X4 Bd d2_14 rfl ?_
  refine zj X4 Bd d2_16 rfl ?_
  refine zy (pc' := 57) X4 Bd d2_17 (XT.ii_eq_t ((by decide) : (2 : Int32) = (2 : Int32))) rfl ?_
  refine zb X4 Bd d2_57 rfl rfl ?_
  exact retOut X4 hx Bd.returns rfl (Or.inr (Or.inr (Or.inr (Or.inr ⟨rfl, rfl, rfl⟩)))) (hb hby d2_58) hr))
-- java/lang/StringUTF16.coderFromArrayLen([BI)B
def Q17 (Z : State)  (h0 : Heap) (n0 : Nat) (v : Option Value) (h : Heap) (L : List Loc) : Prop := v = some (.int 0) ∧ Fr n0 L ∧ h = h0
theorem rm17 (l : Launch) (Z : State) (a0 : Array Value) (hw : HW a0 Z) (qa1 : Addr) (qk2 : ClassId) (qi3 : Int32) (qi4 : Int32) (h0 : Heap) (n0 : Nat) (X00 : Old Z n0 h0) (A_qa1 : Arv Z h0 qa1 qk2 .byte (2 : Int32) [.int qi3, .int qi4] (.int 0)) :
    MF l Z Y7_ jdk_52_method_15_code 2 (some .byte) (Rm 0 0 0 0) #[.ref qa1, .int 2] h0 (Q17 Z  h0 n0) := by
 refine own_sF pn2 rfl (fun m => ef8 m qa1 (2 : Int32)) ?_
 intro p e s m below meth c s₁ Bd hZ hh hx hby hml hown hnm X0 e0 pre0
 have N0 := Fr.nil n0
 have av1 := A_qa1
 obtain ⟨cl1, Ar1, q1, S1, N1, H1, Gf1⟩ := av1
 refine own_lvF X0 Bd (.int 0) e0 ⟨rfl, N0, rfl⟩ rfl (fun fs hr => pre0 _ (by
  show Sx p e below s₁ m 0 #[rv qa1, iv 2] [] _
  refine zj X0 Bd d9_0 rfl ?_
  refine zb X0 Bd d9_1 rfl rfl ?_
  refine X0.arraylength hx (by rw [e0]; exact Ar1.1) (State.isArrayOf_alike hZ.alike Ar1.2.1) (g := (mkF m 2 #[rv qa1, iv 2] [.ref qa1, .int 2])) rfl rfl (hb hby d9_2) _ ?_
  rw [len_of S1 N1]
  refine XS.isub X0.here hx rfl (hb hby d9_3) rfl ?_
  refine zd X0 Bd d9_4 ?_
  refine XS.iushr X0.here hx rfl (hb hby d9_6) rfl ?_
  refine XS.i2b X0.here hx rfl (hb hby d9_7) rfl ?_
  exact retN X0 hx (t := .byte) Bd.returns (by simp) (hb hby d9_8) hr))
-- java/lang/String.<init>([CIILjava/lang/Void;)V
def Q18 (Z : State) (qa1 : Addr) (qi4 : Int32) (qi5 : Int32) (h0 : Heap) (n0 : Nat) (v : Option Value) (h : Heap) (L : List Loc) : Prop := ∃ b6 : Addr, ∃ c7_ : ClassId, v = none ∧ Fr n0 L ∧ Keep h0 h [qa1] ∧ h0.size ≤ b6 ∧ Exa Z h qa1 "java/lang/String" ∧ Fld Z h qa1 "java/lang/String" "coder" "B" (.int 0) ∧ Fld Z h qa1 "java/lang/String" "value" "[B" (.ref b6) ∧ Arv Z h b6 c7_ .byte (2 : Int32) [(.int ((qi4).toInt8.toInt32)), (.int ((qi5).toInt8.toInt32))] (.int 0)
theorem rm18 (l : Launch) (Z : State) (a0 : Array Value) (hw : HW a0 Z) (G1 : Int32) (qa1 : Addr) (qa2 : Addr) (qk3 : ClassId) (qi4 : Int32) (qi5 : Int32) (h0 : Heap) (n0 : Nat) (X00 : Old Z n0 h0) (O2 : Sta Z Z.heap "java/lang/String" "COMPACT_STRINGS" "Z" (.int G1)) (P5 : ¬ (G1 = (0 : Int32))) (A_qa2 : Arv Z h0 qa2 qk3 .char (2 : Int32) [.int qi4, .int qi5] (.int 0)) (hc4 : ¬ ((255 : Int32) < qi4)) (hc5 : ¬ ((255 : Int32) < qi5)) (E_qa1 : Exa Z h0 qa1 "java/lang/String") (F_qa1_coder : Fld Z h0 qa1 "java/lang/String" "coder" "B" (.int 0)) (g_qa1 : n0 ≤ qa1) (F_qa1_value : Fld Z h0 qa1 "java/lang/String" "value" "[B" .null) :
    MF l Z Y8_ jdk_42_method_149_code 6 none (Rm 2 1 2 35) #[.ref qa1, .ref qa2, .int 0, .int 2, .null] h0 (Q18 Z qa1 qi4 qi5 h0 n0) := by
 refine own_sF pn1 rfl (fun m => ef2 m qa1 qa2 (0 : Int32) (2 : Int32)) ?_
 intro p e s m below meth c s₁ Bd hZ hh hx hby hml hown hnm X0 e0 pre0
 have N0 := Fr.nil n0
 obtain ⟨T1, X1, e1, st1⟩ := initO X0 hx hZ hown (w12_ hw) (w13_ hw) (w14_ hw) e0 (g := (mkF m 1 #[rv qa1, rv qa2, iv 0, iv 2, .val .null, .unset] [.ref qa1])) rfl hml.symm rfl (hb hby d1_1) (by decide) (W := 0) (own_hw rfl) (lE rfl)
 obtain ⟨T2, X2, e2, st2⟩ := getS2 X1 hx hZ hown (host := "") (Or.inl (w15_ hw)) Via.refl e1 (O2.ext X00.2) (g := (mkF m 27 #[rv qa1, rv qa2, iv 0, iv 2, .val .null, .unset] [])) rfl (hb hby d1_27)
 obtain ⟨_, T3, L3, X3, hQ3, st3⟩ := own_cS 1 2 [] 36 #[rv qa1, rv qa2, iv 0, iv 2, .val .null, .unset] X2 hx hZ hown (w16_ hw) (w17_ hw) (w18_ hw) (w19_ hw) (rm16 l Z a0 hw  qa2 qk3 qi4 qi5 h0 n0 X00 A_qa2 hc4 hc5) pd4 hml.symm (hb hby d1_36) e2 rfl rfl rfl rfl (by decide)
 obtain ⟨b6, c7_, rfl, N3q, K3q, w8, w9⟩ := hQ3
 have N3 := Fr.app N0 N3q
 have K10 := (Keep.refl h0 [qa1]).trans K3q (fun x q => nomatch q)
 have O12 := X00.keep K3q all0
 obtain ⟨_, T11, L11, X11, hQ11, st11⟩ := own_cS 1 2 [.ref qa1] 45 #[rv qa1, rv qa2, iv 0, iv 2, .val .null, rv b6] X3 hx hZ hown (w24_ hw) (w25_ hw) (w18_ hw) (w26_ hw) (rm17 l Z a0 hw  b6 c7_ ((qi4).toInt8.toInt32) ((qi5).toInt8.toInt32) T3.heap n0 O12 w9) pd6 hml.symm (hb hby d1_45) rfl rfl rfl rfl rfl (by decide)
 obtain ⟨rfl, N11q, e11q⟩ := hQ11
 have N11 := Fr.app N3 N11q
 have F13_ := F_qa1_coder.keep K3q nin0
 have E14_ := E_qa1.keep K3q
 obtain ⟨T15, h15, X15, e15, W15, st15⟩ := putF X11 hx hZ hown (host := "") (Or.inl (w27_ hw)) Via.refl e11q F13_ E14_ (Or.inr ⟨(w28_ hw), rfl, hnm⟩) (w3_ hw) (ty := .byte) (by decide) rfl rfl (g := (mkF m 48 #[rv qa1, rv qa2, iv 0, iv 2, .val .null, rv b6] [.int 0, .ref qa1])) rfl rfl (hb hby d1_48)
 have N15 := Fr.snoc X15 N11 g_qa1
 have K16 := K10.wr W15 (Or.inl (mI 0 rfl))
 have F17_ : Fld Z h15 qa1 "java/lang/String" "coder" "B" (.int 0) := F13_.same W15
 have F18_ := F_qa1_value.keep K3q nin0
 have F19_ := F18_.other W15 (Or.inr (slot_ne (Or.inr (w30_ hw)) (Or.inr (w28_ hw)) (by decide) (t := (.array .byte)) (t' := .byte) (by decide) (by decide)))
 have E20_ := E14_.wr W15
 obtain ⟨T21, h21, X21, e21, W21, st21⟩ := putF X15 hx hZ hown (host := "") (Or.inl (w29_ hw)) Via.refl e15 F19_ E20_ (Or.inr ⟨(w30_ hw), rfl, hnm⟩) (w3_ hw) (ty := (.array .byte)) (by decide) rfl rfl (g := (mkF m 54 #[rv qa1, rv qa2, iv 0, iv 2, .val .null, rv b6] [.ref b6, .ref qa1])) rfl rfl (hb hby d1_54)
 have N21 := Fr.snoc X21 N15 g_qa1
 have K22 := K16.wr W21 (Or.inl (mI 0 rfl))
 have F23_ : Fld Z h21 qa1 "java/lang/String" "value" "[B" (.ref b6) := F19_.same W21
 have sz_b6 : h0.size ≤ b6 := w8
 have E24_ := E20_.wr W21
 have F25_ := F17_.other W21 (Or.inr (slot_ne (Or.inr (w28_ hw)) (Or.inr (w30_ hw)) (by decide) (t := .byte) (t' := (.array .byte)) (by decide) (by decide)))
 have A26_ := w9.other W15 (Ne.symm (Nat.ne_of_lt (Nat.lt_of_lt_of_le E_qa1.lt w8)))
 have A27_ := A26_.other W21 (Ne.symm (Nat.ne_of_lt (Nat.lt_of_lt_of_le E_qa1.lt w8)))
 refine own_lvN X21 Bd e21 ⟨b6, c7_, rfl, N21, K22, sz_b6, E24_, F25_, F23_, A27_⟩ rfl (fun fs hr => pre0 _ (by
  show Sx p e below s₁ m 0 #[rv qa1, rv qa2, iv 0, iv 2, .val .null, .unset] [] _
  refine zb X0 Bd d1_0 rfl rfl ?_
  refine st1 _ ?_
  refine zj X1 Bd d1_4 rfl ?_
  refine zp (pc' := 27) X1 Bd d1_5 (XT.i0_ne_t ((by decide) : ¬ ((2 : Int32) = (0 : Int32)))) rfl ?_
  refine st2 _ ?_
  refine zo X2 Bd d1_30 (XT.i0_eq_f (P5 : ¬ (G1 = (0 : Int32)))) ?_
  refine zb X2 Bd d1_33 rfl rfl ?_
  refine zj X2 Bd d1_34 rfl ?_
  refine zj X2 Bd d1_35 rfl ?_
  refine st3 _ ?_
  refine XS.astore X3.here hx rfl (hb hby d1_39) rfl rfl (l' := #[rv qa1, rv qa2, iv 0, iv 2, .val .null, rv b6]) rfl ?_
  refine zb X3 Bd d1_41 rfl rfl ?_
  refine za X3 Bd d1_42 rfl rfl ?_
  refine zj X3 Bd d1_44 rfl ?_
  refine st11 _ ?_
  refine st15 _ ?_
  refine zb X15 Bd d1_51 rfl rfl ?_
  refine za X15 Bd d1_52 rfl rfl ?_
  refine st21 _ ?_
  exact X21.returnOut hx Bd.returns (hb hby d1_57) hr))
-- java/lang/String.<init>([C)V
def Q19 (Z : State) (qa1 : Addr) (h0 : Heap) (n0 : Nat) (v : Option Value) (h : Heap) (L : List Loc) : Prop := v = none ∧ Fr n0 L ∧ Keep h0 h [qa1]
theorem rm19 (l : Launch) (Z : State) (a0 : Array Value) (hw : HW a0 Z) (G1 : Int32) (qa1 : Addr) (qa2 : Addr) (qk3 : ClassId) (qi4 : Int32) (qi5 : Int32) (h0 : Heap) (n0 : Nat) (X00 : Old Z n0 h0) (O2 : Sta Z Z.heap "java/lang/String" "COMPACT_STRINGS" "Z" (.int G1)) (P5 : ¬ (G1 = (0 : Int32))) (uS12 : Sta Z Z.heap "java/lang/StringUTF16" "$assertionsDisabled" "Z" (.int 1)) (uS15 : Sta Z Z.heap "java/lang/StringUTF16" "HI_BYTE_SHIFT" "I" (.int 0)) (uS18 : Sta Z Z.heap "java/lang/StringUTF16" "LO_BYTE_SHIFT" "I" (.int 8)) (A_qa2 : Arv Z h0 qa2 qk3 .char (2 : Int32) [.int qi4, .int qi5] (.int 0)) (hr6 : nar .char qi4 = qi4) (E_qa1 : Exa Z h0 qa1 "java/lang/String") (F_qa1_coder : Fld Z h0 qa1 "java/lang/String" "coder" "B" (.int 0)) (g_qa1 : n0 ≤ qa1) (F_qa1_value : Fld Z h0 qa1 "java/lang/String" "value" "[B" .null) (hr18 : nar .char qi5 = qi5) :
    MF l Z Y9_ jdk_42_method_3_code 2 none (Rm 5 2 6 74) #[.ref qa1, .ref qa2] h0 (Q19 Z qa1 h0 n0) := by
 refine own_sF pn1 rfl (fun m => ef1 m qa1 qa2) ?_
 intro p e s m below meth c s₁ Bd hZ hh hx hby hml hown hnm X0 e0 pre0
 have N0 := Fr.nil n0
 have av1 := A_qa2
 obtain ⟨cl1, Ar1, q1, S1, N1, H1, Gf1⟩ := av1
 have pr3 : Pr p e below s₁ m 6 #[rv qa1, rv qa2] [.null, .int 2, .int 0, .ref qa2, .ref qa1] s₁ (entryFrame m #[.ref qa1, .ref qa2] 2) := fun t k => pre0 t (by
  show Sx p e below s₁ m 0 #[rv qa1, rv qa2] [] _
  refine zb X0 Bd d0_0 rfl rfl ?_
  refine zb X0 Bd d0_1 rfl rfl ?_
  refine zc X0 Bd d0_2 ?_
  refine zb X0 Bd d0_3 rfl rfl ?_
  refine X0.arraylength hx (by rw [e0]; exact Ar1.1) (State.isArrayOf_alike hZ.alike Ar1.2.1) (g := (mkF m 4 #[rv qa1, rv qa2] [.ref qa2, .int 0, .ref qa2, .ref qa1])) rfl rfl (hb hby d0_4) _ ?_
  rw [len_of S1 N1]
  refine XS.aconstNull X0.here hx rfl (hb hby d0_5) ?_
  exact k)
 by_cases hc4 : (255 : Int32) < qi4
 ·
  skip
  obtain ⟨_, T5, L5, X5, hQ5, st5⟩ := own_cI 2 6 [] 6 #[rv qa1, rv qa2] X0 hx hZ hown (w8_ hw) (w9_ hw) (w4_ hw) (w11_ hw) (rm10 l Z a0 hw G1 qa1 qa2 qk3 qi4 qi5 h0 n0 X00 O2 P5 uS12 uS15 uS18 A_qa2 hc4 (own_get16l hr6 hc4) E_qa1 F_qa1_coder g_qa1 F_qa1_value) pd7 hml.symm (hb hby d0_6) e0 rfl rfl rfl rfl rfl (by decide)
  obtain ⟨b7, c8_, rfl, N5q, K5q, w9, w10, w11, w12, w13⟩ := hQ5
  have N5 := Fr.app N0 N5q
  have K14 := (Keep.refl h0 [qa1]).trans K5q (allS (Or.inl (mI 0 rfl)) all0)
  refine own_lvN X5 Bd rfl ⟨rfl, N5, K14⟩ rfl (fun fs hr => pr3 _ (by
   show Sx p e below s₁ m 6 #[rv qa1, rv qa2] [.null, .int 2, .int 0, .ref qa2, .ref qa1] _
   refine st5 _ ?_
   exact X5.returnOut hx Bd.returns (hb hby d0_9) hr))
 ·
  skip
  by_cases hc16 : (255 : Int32) < qi5
  ·
   skip
   obtain ⟨_, T17, L17, X17, hQ17, st17⟩ := own_cI 2 6 [] 6 #[rv qa1, rv qa2] X0 hx hZ hown (w8_ hw) (w9_ hw) (w4_ hw) (w11_ hw) (rm14 l Z a0 hw G1 qa1 qa2 qk3 qi4 qi5 h0 n0 X00 O2 P5 uS12 uS15 uS18 A_qa2 hc4 hc16 (own_get16l hr18 hc16) E_qa1 F_qa1_coder g_qa1 F_qa1_value) pd7 hml.symm (hb hby d0_6) e0 rfl rfl rfl rfl rfl (by decide)
   obtain ⟨b19, c20_, rfl, N17q, K17q, w21, w22, w23, w24, w25⟩ := hQ17
   have N17 := Fr.app N0 N17q
   have K26 := (Keep.refl h0 [qa1]).trans K17q (allS (Or.inl (mI 0 rfl)) all0)
   refine own_lvN X17 Bd rfl ⟨rfl, N17, K26⟩ rfl (fun fs hr => pr3 _ (by
    show Sx p e below s₁ m 6 #[rv qa1, rv qa2] [.null, .int 2, .int 0, .ref qa2, .ref qa1] _
    refine st17 _ ?_
    exact X17.returnOut hx Bd.returns (hb hby d0_9) hr))
  ·
   skip
   obtain ⟨_, T27, L27, X27, hQ27, st27⟩ := own_cI 1 2 [] 6 #[rv qa1, rv qa2] X0 hx hZ hown (w8_ hw) (w9_ hw) (w4_ hw) (w11_ hw) (rm18 l Z a0 hw G1 qa1 qa2 qk3 qi4 qi5 h0 n0 X00 O2 P5 A_qa2 hc4 hc16 E_qa1 F_qa1_coder g_qa1 F_qa1_value) pd7 hml.symm (hb hby d0_6) e0 rfl rfl rfl rfl rfl (by decide)
   obtain ⟨b28, c29_, rfl, N27q, K27q, w30, w31, w32, w33, w34⟩ := hQ27
   have N27 := Fr.app N0 N27q
   have K35 := (Keep.refl h0 [qa1]).trans K27q (allS (Or.inl (mI 0 rfl)) all0)
   refine own_lvN X27 Bd rfl ⟨rfl, N27, K35⟩ rfl (fun fs hr => pr3 _ (by
    show Sx p e below s₁ m 6 #[rv qa1, rv qa2] [.null, .int 2, .int 0, .ref qa2, .ref qa1] _
    refine st27 _ ?_
    exact X27.returnOut hx Bd.returns (hb hby d0_9) hr))
theorem pd8 : parseMethodDescriptor "([C)V" = some ⟨[(.array .char)], none⟩ := by decide +kernel
theorem ef9 (m : MethodId) (x0 : Addr) (x1 : Addr) (x2 : Addr) : entryFrame m #[.ref x0, .ref x1, .ref x2] 3 = mkF m 0 #[.val (.ref x0), .val (.ref x1), .val (.ref x2)] [] := by first | (simp [entryFrame, mkF, argsToLocals, Value.category]; done) | rfl
theorem pn3 : plainName "com/example/hearthline/hearthline/mapping/Unit" = true := by first | (simp [plainName, overriddenIn]; done) | decide +kernel
theorem d10_0 : decode prog_10_method_1_code 0 = .ok (.aload_n 0, 1) := by decide +kernel
theorem d10_1 : decode prog_10_method_1_code 1 = .ok (.invokespecial 3, 3) := by decide +kernel
theorem ef10 (m : MethodId) (x0 : Addr) : entryFrame m #[.ref x0] 1 = mkF m 0 #[.val (.ref x0)] [] := by first | (simp [entryFrame, mkF, argsToLocals, Value.category]; done) | rfl
theorem pn4 : plainName "java/lang/Record" = true := by first | (simp [plainName, overriddenIn]; done) | decide +kernel
theorem d11_0 : decode jdk_30_method_1_code 0 = .ok (.aload_n 0, 1) := by decide +kernel
theorem d11_1 : decode jdk_30_method_1_code 1 = .ok (.invokespecial 1, 3) := by decide +kernel
theorem d11_4 : decode jdk_30_method_1_code 4 = .ok (.return_, 1) := by decide +kernel
-- java/lang/Record.<init>()V
def Q20 (Z : State)  (h0 : Heap) (n0 : Nat) (v : Option Value) (h : Heap) (L : List Loc) : Prop := v = none ∧ Fr n0 L ∧ h = h0
theorem rm20 (l : Launch) (Z : State) (a0 : Array Value) (hw : HW a0 Z) (qa1 : Addr) (h0 : Heap) (n0 : Nat) (X00 : Old Z n0 h0)  :
    MF l Z Y10_ jdk_30_method_1_code 1 none (Rm 1 0 0 12) #[.ref qa1] h0 (Q20 Z  h0 n0) := by
 refine own_sF pn4 rfl (fun m => ef10 m qa1) ?_
 intro p e s m below meth c s₁ Bd hZ hh hx hby hml hown hnm X0 e0 pre0
 have N0 := Fr.nil n0
 obtain ⟨T1, X1, e1, st1⟩ := initO X0 hx hZ hown (w45_ hw) (w13_ hw) (w14_ hw) e0 (g := (mkF m 1 #[rv qa1] [.ref qa1])) rfl hml.symm rfl (hb hby d11_1) (by decide) (W := 0) (own_hw rfl) (lE rfl)
 refine own_lvN X1 Bd e1 ⟨rfl, N0, rfl⟩ rfl (fun fs hr => pre0 _ (by
  show Sx p e below s₁ m 0 #[rv qa1] [] _
  refine zb X0 Bd d11_0 rfl rfl ?_
  refine st1 _ ?_
  exact X1.returnOut hx Bd.returns (hb hby d11_4) hr))
theorem pd9 : parseMethodDescriptor "()V" = some ⟨[], none⟩ := by decide +kernel
theorem d10_4 : decode prog_10_method_1_code 4 = .ok (.aload_n 0, 1) := by decide +kernel
theorem d10_5 : decode prog_10_method_1_code 5 = .ok (.aload_n 1, 1) := by decide +kernel
theorem d10_6 : decode prog_10_method_1_code 6 = .ok (.putfield 9, 3) := by decide +kernel
theorem d10_9 : decode prog_10_method_1_code 9 = .ok (.aload_n 0, 1) := by decide +kernel
theorem d10_10 : decode prog_10_method_1_code 10 = .ok (.aload_n 2, 1) := by decide +kernel
theorem d10_11 : decode prog_10_method_1_code 11 = .ok (.putfield 15, 3) := by decide +kernel
theorem d10_14 : decode prog_10_method_1_code 14 = .ok (.return_, 1) := by decide +kernel
-- com/example/hearthline/hearthline/mapping/Unit.<init>(Ljava/lang/String;Ljava/lang/String;)V
def Q21 (Z : State) (qa1 : Addr) (qa2 : Addr) (qa3 : Addr) (h0 : Heap) (n0 : Nat) (v : Option Value) (h : Heap) (L : List Loc) : Prop := v = none ∧ Fr n0 L ∧ Keep h0 h [qa1] ∧ Exa Z h qa1 "com/example/hearthline/hearthline/mapping/Unit" ∧ Fld Z h qa1 "com/example/hearthline/hearthline/mapping/Unit" "system" "Ljava/lang/String;" (.ref qa2) ∧ Fld Z h qa1 "com/example/hearthline/hearthline/mapping/Unit" "code" "Ljava/lang/String;" (.ref qa3)
theorem rm21 (l : Launch) (Z : State) (a0 : Array Value) (hw : HW a0 Z) (qa1 : Addr) (qa2 : Addr) (qa3 : Addr) (h0 : Heap) (n0 : Nat) (X00 : Old Z n0 h0) (E_qa1 : Exa Z h0 qa1 "com/example/hearthline/hearthline/mapping/Unit") (F_qa1_system : Fld Z h0 qa1 "com/example/hearthline/hearthline/mapping/Unit" "system" "Ljava/lang/String;" .null) (g_qa1 : n0 ≤ qa1) (F_qa1_code : Fld Z h0 qa1 "com/example/hearthline/hearthline/mapping/Unit" "code" "Ljava/lang/String;" .null) :
    MF l Z Y11_ prog_10_method_1_code 3 none (Rm 2 0 0 24) #[.ref qa1, .ref qa2, .ref qa3] h0 (Q21 Z qa1 qa2 qa3 h0 n0) := by
 refine own_sF pn3 rfl (fun m => ef9 m qa1 qa2 qa3) ?_
 intro p e s m below meth c s₁ Bd hZ hh hx hby hml hown hnm X0 e0 pre0
 have N0 := Fr.nil n0
 obtain ⟨_, T1, L1, X1, hQ1, st1⟩ := own_cI 0 0 [] 1 #[rv qa1, rv qa2, rv qa3] X0 hx hZ hown (w40_ hw) (w41_ hw) (w43_ hw) (w44_ hw) (rm20 l Z a0 hw  qa1 h0 n0 X00 ) pd9 hml.symm (hb hby d10_1) e0 rfl rfl rfl rfl rfl (by decide)
 obtain ⟨rfl, N1q, e1q⟩ := hQ1
 have N1 := Fr.app N0 N1q
 obtain ⟨T2, h2, X2, e2, W2, st2⟩ := putF X1 hx hZ hown (host := "") (Or.inl (w46_ hw)) Via.refl e1q F_qa1_system E_qa1 (Or.inr ⟨(w47_ hw), rfl, hnm⟩) (w35_ hw) (ty := (.object "java/lang/String")) (by decide) rfl rfl (g := (mkF m 6 #[rv qa1, rv qa2, rv qa3] [.ref qa2, .ref qa1])) rfl rfl (hb hby d10_6)
 have N2 := Fr.snoc X2 N1 g_qa1
 have K3 := (Keep.refl h0 [qa1]).wr W2 (Or.inl (mI 0 rfl))
 have F4_ : Fld Z h2 qa1 "com/example/hearthline/hearthline/mapping/Unit" "system" "Ljava/lang/String;" (.ref qa2) := F_qa1_system.same W2
 have F5_ := F_qa1_code.other W2 (Or.inr (slot_ne (Or.inr (w49_ hw)) (Or.inr (w47_ hw)) (by decide) (t := (.object "java/lang/String")) (t' := (.object "java/lang/String")) (by decide) (by decide)))
 have E6_ := E_qa1.wr W2
 obtain ⟨T7, h7, X7, e7, W7, st7⟩ := putF X2 hx hZ hown (host := "") (Or.inl (w48_ hw)) Via.refl e2 F5_ E6_ (Or.inr ⟨(w49_ hw), rfl, hnm⟩) (w35_ hw) (ty := (.object "java/lang/String")) (by decide) rfl rfl (g := (mkF m 11 #[rv qa1, rv qa2, rv qa3] [.ref qa3, .ref qa1])) rfl rfl (hb hby d10_11)
 have N7 := Fr.snoc X7 N2 g_qa1
 have K8 := K3.wr W7 (Or.inl (mI 0 rfl))
 have F9_ : Fld Z h7 qa1 "com/example/hearthline/hearthline/mapping/Unit" "code" "Ljava/lang/String;" (.ref qa3) := F5_.same W7
 have E10_ := E6_.wr W7
 have F11_ := F4_.other W7 (Or.inr (slot_ne (Or.inr (w47_ hw)) (Or.inr (w49_ hw)) (by decide) (t := (.object "java/lang/String")) (t' := (.object "java/lang/String")) (by decide) (by decide)))
 refine own_lvN X7 Bd e7 ⟨rfl, N7, K8, E10_, F11_, F9_⟩ rfl (fun fs hr => pre0 _ (by
  show Sx p e below s₁ m 0 #[rv qa1, rv qa2, rv qa3] [] _
  refine zb X0 Bd d10_0 rfl rfl ?_
  refine st1 _ ?_
  refine zb X1 Bd d10_4 rfl rfl ?_
  refine zb X1 Bd d10_5 rfl rfl ?_
  refine st2 _ ?_
  refine zb X2 Bd d10_9 rfl rfl ?_
  refine zb X2 Bd d10_10 rfl rfl ?_
  refine st7 _ ?_
  exact X7.returnOut hx Bd.returns (hb hby d10_14) hr))
theorem pd10 : parseMethodDescriptor "(Ljava/lang/String;Ljava/lang/String;)V" = some ⟨[(.object "java/lang/String"), (.object "java/lang/String")], none⟩ := by decide +kernel
theorem d12_0 : decode prog_10_method_2_code 0 = .ok (.aload_n 0, 1) := by decide +kernel
theorem d12_1 : decode prog_10_method_2_code 1 = .ok (.getfield 9, 3) := by decide +kernel
theorem d12_4 : decode prog_10_method_2_code 4 = .ok (.ldc 18, 2) := by decide +kernel
theorem d12_6 : decode prog_10_method_2_code 6 = .ok (.invokevirtual 20, 3) := by decide +kernel
theorem pd11 : parseMethodDescriptor "(Ljava/lang/Object;)Z" = some ⟨[(.object "java/lang/Object")], some .boolean⟩ := by decide +kernel
theorem d12_9 : decode prog_10_method_2_code 9 = .ok (.ifCond .eq 10, 3) := by decide +kernel
theorem d12_12 : decode prog_10_method_2_code 12 = .ok (.aload_n 0, 1) := by decide +kernel
theorem d12_13 : decode prog_10_method_2_code 13 = .ok (.getfield 15, 3) := by decide +kernel
theorem d12_16 : decode prog_10_method_2_code 16 = .ok (.goto 4, 3) := by decide +kernel
theorem d12_20 : decode prog_10_method_2_code 20 = .ok (.areturn, 1) := by decide +kernel
-- com/example/hearthline/hearthline/mapping/Unit.text()Ljava/lang/String;
def Q22 (Z : State) (qa5 : Addr) (h0 : Heap) (n0 : Nat) (v : Option Value) (h : Heap) (L : List Loc) : Prop := v = some (.ref qa5) ∧ Fr n0 L ∧ Keep h0 h []
theorem rm22 (l : Launch) (Z : State) (a0 : Array Value) (hw : HW a0 Z) (G1 : Int32) (qa1 : Addr) (qa2 : Addr) (qa3 : Addr) (qk4 : ClassId) (qa5 : Addr) (h0 : Heap) (n0 : Nat) (X00 : Old Z n0 h0) (O2 : Sta Z Z.heap "java/lang/String" "COMPACT_STRINGS" "Z" (.int G1)) (P5 : ¬ (G1 = (0 : Int32))) (F_qa1_system : Fld Z h0 qa1 "com/example/hearthline/hearthline/mapping/Unit" "system" "Ljava/lang/String;" (.ref qa2)) (E_qa2 : Exa Z h0 qa2 "java/lang/String") (F_qa2_value : Fld Z h0 qa2 "java/lang/String" "value" "[B" (.ref qa3)) (hp_qa2 : ∀ c ∈ ([104, 116, 116, 112, 58, 47, 47, 117, 110, 105, 116, 115, 111, 102, 109, 101, 97, 115, 117, 114, 101, 46, 111, 114, 103] : List Int32), ¬ c < 0 ∧ ¬ (255 : Int32) < c) (F_qa2_coder : Fld Z h0 qa2 "java/lang/String" "coder" "B" (.int 0)) (A_qa3 : Arv Z h0 qa3 qk4 .byte (25 : Int32) [.int 104, .int 116, .int 116, .int 112, .int 58, .int 47, .int 47, .int 117, .int 110, .int 105, .int 116, .int 115, .int 111, .int 102, .int 109, .int 101, .int 97, .int 115, .int 117, .int 114, .int 101, .int 46, .int 111, .int 114, .int 103] (.int 0)) (F_qa1_code : Fld Z h0 qa1 "com/example/hearthline/hearthline/mapping/Unit" "code" "Ljava/lang/String;" (.ref qa5)) :
    MW l Z consts_1 Y12_ prog_10_method_2_code 1 (some (.object "java/lang/String")) (Rm 2 2 104 28) #[.ref qa1] h0 (Q22 Z qa5 h0 n0) := by
 refine own_sW pn3 rfl (fun m => ef10 m qa1) ?_
 intro p e s m below meth c s₁ Bd hZ hh hx hby hml hown hnm X0 e0 pre0 hC0 hS0 hk0 hR0
 have N0 := Fr.nil n0
 have hEL := own_EW hw
 have hwS := own_wS hw
 obtain ⟨T1, X1, e1, st1⟩ := getF X0 hx hZ hown (host := "") (Or.inl (w46_ hw)) Via.refl e0 F_qa1_system (g := (mkF m 1 #[rv qa1] [.ref qa1])) rfl rfl (hb hby d12_1)
 obtain ⟨b2, T2, h2, k2, t2, c2, X2, e2, E2, hS2, hk2, hZ2, ho2, Ex2, Fc2, Fv2, Av2, lb2, lt2, CR2, -, sf2, st2⟩ := ldcCH (text := "http://unitsofmeasure.org") (EL := consts_1) X1 hx hZ hown (w55_ hw) hwS e1 hS0 hk0 hEL (by decide) hC0 (vs := [.int 104, .int 116, .int 116, .int 112, .int 58, .int 47, .int 47, .int 117, .int 110, .int 105, .int 116, .int 115, .int 111, .int 102, .int 109, .int 101, .int 97, .int 115, .int 117, .int 114, .int 101, .int 46, .int 111, .int 114, .int 103]) (z := (25 : Int32)) ⟨by decide, by decide⟩ (by decide) (by decide) (g := (mkF m 4 #[rv qa1] [.ref qa2])) rfl (hb hby d12_4) (n := 100) (by decide) (lE rfl) (lE rfl) (lE rfl)
 have K3 := (Keep.refl h0 []).ext E2
 have R5 := hR0.trans CR2
 replace X2 : Stand p l e (Rm 2 2 104 28) (s.setVm T2.vm) m #[.ref qa1] below meth c T2 _ 2 104 := X2
 have hp7 : ∀ c ∈ ([104, 116, 116, 112, 58, 47, 47, 117, 110, 105, 116, 115, 111, 102, 109, 101, 97, 115, 117, 114, 101, 46, 111, 114, 103] : List Int32), ¬ c < 0 ∧ ¬ (255 : Int32) < c := (List.forall_mem_cons.mpr ⟨(by decide), (List.forall_mem_cons.mpr ⟨(by decide), (List.forall_mem_cons.mpr ⟨(by decide), (List.forall_mem_cons.mpr ⟨(by decide), (List.forall_mem_cons.mpr ⟨(by decide), (List.forall_mem_cons.mpr ⟨(by decide), (List.forall_mem_cons.mpr ⟨(by decide), (List.forall_mem_cons.mpr ⟨(by decide), (List.forall_mem_cons.mpr ⟨(by decide), (List.forall_mem_cons.mpr ⟨(by decide), (List.forall_mem_cons.mpr ⟨(by decide), (List.forall_mem_cons.mpr ⟨(by decide), (List.forall_mem_cons.mpr ⟨(by decide), (List.forall_mem_cons.mpr ⟨(by decide), (List.forall_mem_cons.mpr ⟨(by decide), (List.forall_mem_cons.mpr ⟨(by decide), (List.forall_mem_cons.mpr ⟨(by decide), (List.forall_mem_cons.mpr ⟨(by decide), (List.forall_mem_cons.mpr ⟨(by decide), (List.forall_mem_cons.mpr ⟨(by decide), (List.forall_mem_cons.mpr ⟨(by decide), (List.forall_mem_cons.mpr ⟨(by decide), (List.forall_mem_cons.mpr ⟨(by decide), (List.forall_mem_cons.mpr ⟨(by decide), (List.forall_mem_cons.mpr ⟨(by decide), (fun _ q => nomatch q)⟩)⟩)⟩)⟩)⟩)⟩)⟩)⟩)⟩)⟩)⟩)⟩)⟩)⟩)⟩)⟩)⟩)⟩)⟩)⟩)⟩)⟩)⟩)⟩)⟩)
 have E8_ := E_qa2.ext E2
 have F9_ := F_qa2_value.ext E2
 have F10_ := F_qa2_coder.ext E2
 have A11_ := A_qa3.ext E2
 have hcd12 : StrChars.Road.CodA ([104, 116, 116, 112, 58, 47, 47, 117, 110, 105, 116, 115, 111, 102, 109, 101, 97, 115, 117, 114, 101, 46, 111, 114, 103] : List Int32) 0 (25 : Int32) [.int 104, .int 116, .int 116, .int 112, .int 58, .int 47, .int 47, .int 117, .int 110, .int 105, .int 116, .int 115, .int 111, .int 102, .int 109, .int 101, .int 97, .int 115, .int 117, .int 114, .int 101, .int 46, .int 111, .int 114, .int 103] := StrChars.Road.codOf (n := 25) rfl (fun x hx => (hp_qa2 x hx).2)
 have hbd12 : ∀ x ∈ ([104, 116, 116, 112, 58, 47, 47, 117, 110, 105, 116, 115, 111, 102, 109, 101, 97, 115, 117, 114, 101, 46, 111, 114, 103] : List Int32), ¬ x < 0 ∧ ¬ (65535 : Int32) < x := own_up _ hp_qa2
 have hcd13 : StrChars.Road.CodA ([104, 116, 116, 112, 58, 47, 47, 117, 110, 105, 116, 115, 111, 102, 109, 101, 97, 115, 117, 114, 101, 46, 111, 114, 103] : List Int32) 0 (25 : Int32) [.int 104, .int 116, .int 116, .int 112, .int 58, .int 47, .int 47, .int 117, .int 110, .int 105, .int 116, .int 115, .int 111, .int 102, .int 109, .int 101, .int 97, .int 115, .int 117, .int 114, .int 101, .int 46, .int 111, .int 114, .int 103] := StrChars.Road.codOf (n := 25) rfl (fun x hx => (hp7 x hx).2)
 have hbd13 : ∀ x ∈ ([104, 116, 116, 112, 58, 47, 47, 117, 110, 105, 116, 115, 111, 102, 109, 101, 97, 115, 117, 114, 101, 46, 111, 114, 103] : List Int32), ¬ x < 0 ∧ ¬ (65535 : Int32) < x := own_up _ hp7
 have O14 := X00.ext E2
 obtain ⟨cq6, kq6, q6a, q6b, q6c⟩ := isOf hZ2 e2 E8_
 obtain ⟨_, T6, L6, X6, hQ6, st6⟩ := own_cb0 2 104 0 0 2 104 (X2.virtualBack hx (y := Y13_) (z := Y13_) ho2 (mvT hZ2 (w56_ hw)) (mvT hZ2 (w57_ hw)) (notFace_of_selects (args := #[]) (mvT hZ2 (w59_ hw))) (mvT hZ2 (w59_ hw)) (mvT hZ2 (w58_ hw)) (by decide) (StrChars.Road.eqW (s := s.setVm T2.vm) (W := 0) hZ2 (own_wq hw) (kI := 4) (w3_ hw) E8_ F9_ F10_ A11_ hcd12 hbd12 (lE rfl) Ex2 Fv2 Fc2 Av2 hcd13 hbd13 (lE rfl) (O2.ext O14.2) P5 (lE rfl) (lE rfl)) q6a q6c (g := (mkF m 6 #[rv qa1] [.ref b2, .ref qa2])) rfl hml.symm (Steps.refl _) (argsL := [.ref b2]) (rest := []) (lenOf pd11 rfl) rfl (own_hw rfl) (hb hby d12_6) (fun _ _ => ⟨rfl, e2, (lE rfl : 2 + 0 ≤ _), (lE rfl : 104 + 0 ≤ _)⟩)) rfl rfl
 dsimp only [Pt.U, Pt.locs, Pt.cells, Pt.slots] at hQ6
 obtain ⟨hv6, rfl, e6q⟩ := hQ6
 rcases hv6 with ⟨rfl, -⟩ | ⟨-, hq6⟩
 rotate_left
 exact absurd (rfl : ([104, 116, 116, 112, 58, 47, 47, 117, 110, 105, 116, 115, 111, 102, 109, 101, 97, 115, 117, 114, 101, 46, 111, 114, 103] : List Int32) = ([104, 116, 116, 112, 58, 47, 47, 117, 110, 105, 116, 115, 111, 102, 109, 101, 97, 115, 117, 114, 101, 46, 111, 114, 103] : List Int32)) hq6
 have N6 := Fr.app N0 (Fr.nil n0)
 have F16_ := F_qa1_code.ext E2
 obtain ⟨T15, X15, e15, st15⟩ := getF X6 hx hZ2 ho2 (host := "") (Or.inl (w48_ hw)) Via.refl e6q F16_ (g := (mkF m 13 #[rv qa1] [.ref qa1])) rfl rfl (hb hby d12_13)
 refine own_lvW X15 Bd.notSynchronized hS2 hk2 (v := (some (.ref qa5))) (fun h => by rw [Bd.returns] at h; cases h) e15 hh ⟨rfl, N6, K3⟩ (R5.trans (CHv.at X15 hZ2 hEL CR2.1)) (lE rfl) (lE rfl) (fun fs hr => pre0 _ (by
  show Sx p e below s₁ m 0 #[rv qa1] [] _
  refine zb X0 Bd d12_0 rfl rfl ?_
  refine st1 _ ?_
  refine st2 _ ?_
  refine st6.trans ?_
  refine zo X6 Bd d12_9 (XT.i0_eq_f ((by decide) : ¬ ((1 : Int32) = (0 : Int32)))) ?_
  refine zb X6 Bd d12_12 rfl rfl ?_
  refine st15 _ ?_
  refine zg (pc' := 20) X15 Bd d12_16 rfl ?_
  exact retOut X15 hx Bd.returns rfl (Or.inr (Or.inr (Or.inr (Or.inr ⟨rfl, rfl, rfl⟩)))) (hb hby d12_20) hr))
theorem pd12 : parseMethodDescriptor "()Ljava/lang/String;" = some ⟨[], some (.object "java/lang/String")⟩ := by decide +kernel
theorem ef11 (m : MethodId) (x0 : Addr) (x1 : Addr) : entryFrame m #[.ref x0, .ref x1] 3 = mkF m 0 #[.val (.ref x0), .val (.ref x1), .unset] [] := by first | (simp [entryFrame, mkF, argsToLocals, Value.category]; done) | rfl
theorem d13_0 : decode jdk_42_method_66_code 0 = .ok (.aload_n 0, 1) := by decide +kernel
theorem d13_1 : decode jdk_42_method_66_code 1 = .ok (.aload_n 1, 1) := by decide +kernel
theorem d13_2 : decode jdk_42_method_66_code 2 = .ok (.if_acmp .ne 5, 3) := by decide +kernel
theorem d13_5 : decode jdk_42_method_66_code 5 = .ok (.iconst 1, 1) := by decide +kernel
theorem d13_6 : decode jdk_42_method_66_code 6 = .ok (.ireturn, 1) := by decide +kernel
-- java/lang/String.equals(Ljava/lang/Object;)Z
def Q23 (Z : State)  (h0 : Heap) (n0 : Nat) (v : Option Value) (h : Heap) (L : List Loc) : Prop := v = some (.int 1) ∧ Fr n0 L ∧ h = h0
theorem rm23 (l : Launch) (Z : State) (a0 : Array Value) (hw : HW a0 Z) (qa1 : Addr) (h0 : Heap) (n0 : Nat) (X00 : Old Z n0 h0)  :
    MF l Z Y13_ jdk_42_method_66_code 3 (some .boolean) (Rm 0 0 0 0) #[.ref qa1, .ref qa1] h0 (Q23 Z  h0 n0) := by
 refine own_sF pn1 rfl (fun m => ef11 m qa1 qa1) ?_
 intro p e s m below meth c s₁ Bd hZ hh hx hby hml hown hnm X0 e0 pre0
 have N0 := Fr.nil n0
 refine own_lvF X0 Bd (.int 1) e0 ⟨rfl, N0, rfl⟩ rfl (fun fs hr => pre0 _ (by
  show Sx p e below s₁ m 0 #[rv qa1, rv qa1, .unset] [] _
  refine zb X0 Bd d13_0 rfl rfl ?_
  refine zb X0 Bd d13_1 rfl rfl ?_
  refine Jvm.RoadKit.acmp (g := (mkF m 2 #[rv qa1, rv qa1, .unset] [.ref qa1, .ref qa1])) X0 hx rfl rfl rfl (pc0 := 2) (pc' := 5) (same := true) rfl (hb hby d13_2) rfl (decide_eq_true rfl) (by decide) (by decide) ?_
  refine zc X0 Bd d13_5 ?_
  exact retN X0 hx (t := .boolean) Bd.returns (by simp) (hb hby d13_6) hr))
-- com/example/hearthline/hearthline/mapping/Unit.text()Ljava/lang/String;
def Q24 (Z : State) (qa6 : Addr) (h0 : Heap) (n0 : Nat) (v : Option Value) (h : Heap) (L : List Loc) : Prop := v = some (.ref qa6) ∧ Fr n0 L ∧ Keep h0 h []
theorem rm24 (l : Launch) (Z : State) (a0 : Array Value) (hw : HW a0 Z) (G1 : Int32) (qa1 : Addr) (qa2 : Addr) (qa3 : Addr) (qc4 : List Int32) (qk5 : ClassId) (qa6 : Addr) (h0 : Heap) (n0 : Nat) (X00 : Old Z n0 h0) (O2 : Sta Z Z.heap "java/lang/String" "COMPACT_STRINGS" "Z" (.int G1)) (P5 : ¬ (G1 = (0 : Int32))) (F_qa1_system : Fld Z h0 qa1 "com/example/hearthline/hearthline/mapping/Unit" "system" "Ljava/lang/String;" (.ref qa2)) (E_qa2 : Exa Z h0 qa2 "java/lang/String") (F_qa2_value : Fld Z h0 qa2 "java/lang/String" "value" "[B" (.ref qa3)) (A_qa3 : Arv Z h0 qa3 qk5 .byte (25 : Int32) ((qc4.map (fun c => c.toInt8.toInt32)).map Value.int) (.int 0)) (cd_qa2 : StrChars.Road.CodA qc4 0 (25 : Int32) ((qc4.map (fun c => c.toInt8.toInt32)).map Value.int)) (bd_qa2 : ∀ x ∈ qc4, ¬ x < 0 ∧ ¬ (65535 : Int32) < x) (ln_qa2 : qc4.length ≤ 4000) (F_qa2_coder : Fld Z h0 qa2 "java/lang/String" "coder" "B" (.int 0)) (hc8 : qc4 = ([104, 116, 116, 112, 58, 47, 47, 117, 110, 105, 116, 115, 111, 102, 109, 101, 97, 115, 117, 114, 101, 46, 111, 114, 103] : List Int32)) (F_qa1_code : Fld Z h0 qa1 "com/example/hearthline/hearthline/mapping/Unit" "code" "Ljava/lang/String;" (.ref qa6)) :
    MW l Z consts_1 Y12_ prog_10_method_2_code 1 (some (.object "java/lang/String")) (Rm 2 2 104 28) #[.ref qa1] h0 (Q24 Z qa6 h0 n0) := by
 refine own_sW pn3 rfl (fun m => ef10 m qa1) ?_
 intro p e s m below meth c s₁ Bd hZ hh hx hby hml hown hnm X0 e0 pre0 hC0 hS0 hk0 hR0
 have N0 := Fr.nil n0
 have hEL := own_EW hw
 have hwS := own_wS hw
 obtain ⟨T1, X1, e1, st1⟩ := getF X0 hx hZ hown (host := "") (Or.inl (w46_ hw)) Via.refl e0 F_qa1_system (g := (mkF m 1 #[rv qa1] [.ref qa1])) rfl rfl (hb hby d12_1)
 obtain ⟨b2, T2, h2, k2, t2, c2, X2, e2, E2, hS2, hk2, hZ2, ho2, Ex2, Fc2, Fv2, Av2, lb2, lt2, CR2, -, sf2, st2⟩ := ldcCH (text := "http://unitsofmeasure.org") (EL := consts_1) X1 hx hZ hown (w55_ hw) hwS e1 hS0 hk0 hEL (by decide) hC0 (vs := [.int 104, .int 116, .int 116, .int 112, .int 58, .int 47, .int 47, .int 117, .int 110, .int 105, .int 116, .int 115, .int 111, .int 102, .int 109, .int 101, .int 97, .int 115, .int 117, .int 114, .int 101, .int 46, .int 111, .int 114, .int 103]) (z := (25 : Int32)) ⟨by decide, by decide⟩ (by decide) (by decide) (g := (mkF m 4 #[rv qa1] [.ref qa2])) rfl (hb hby d12_4) (n := 100) (by decide) (lE rfl) (lE rfl) (lE rfl)
 have K3 := (Keep.refl h0 []).ext E2
 have R5 := hR0.trans CR2
 replace X2 : Stand p l e (Rm 2 2 104 28) (s.setVm T2.vm) m #[.ref qa1] below meth c T2 _ 2 104 := X2
 have hp7 : ∀ c ∈ ([104, 116, 116, 112, 58, 47, 47, 117, 110, 105, 116, 115, 111, 102, 109, 101, 97, 115, 117, 114, 101, 46, 111, 114, 103] : List Int32), ¬ c < 0 ∧ ¬ (255 : Int32) < c := (List.forall_mem_cons.mpr ⟨(by decide), (List.forall_mem_cons.mpr ⟨(by decide), (List.forall_mem_cons.mpr ⟨(by decide), (List.forall_mem_cons.mpr ⟨(by decide), (List.forall_mem_cons.mpr ⟨(by decide), (List.forall_mem_cons.mpr ⟨(by decide), (List.forall_mem_cons.mpr ⟨(by decide), (List.forall_mem_cons.mpr ⟨(by decide), (List.forall_mem_cons.mpr ⟨(by decide), (List.forall_mem_cons.mpr ⟨(by decide), (List.forall_mem_cons.mpr ⟨(by decide), (List.forall_mem_cons.mpr ⟨(by decide), (List.forall_mem_cons.mpr ⟨(by decide), (List.forall_mem_cons.mpr ⟨(by decide), (List.forall_mem_cons.mpr ⟨(by decide), (List.forall_mem_cons.mpr ⟨(by decide), (List.forall_mem_cons.mpr ⟨(by decide), (List.forall_mem_cons.mpr ⟨(by decide), (List.forall_mem_cons.mpr ⟨(by decide), (List.forall_mem_cons.mpr ⟨(by decide), (List.forall_mem_cons.mpr ⟨(by decide), (List.forall_mem_cons.mpr ⟨(by decide), (List.forall_mem_cons.mpr ⟨(by decide), (List.forall_mem_cons.mpr ⟨(by decide), (List.forall_mem_cons.mpr ⟨(by decide), (fun _ q => nomatch q)⟩)⟩)⟩)⟩)⟩)⟩)⟩)⟩)⟩)⟩)⟩)⟩)⟩)⟩)⟩)⟩)⟩)⟩)⟩)⟩)⟩)⟩)⟩)⟩)⟩)
 have E9_ := E_qa2.ext E2
 have F10_ := F_qa2_value.ext E2
 have F11_ := F_qa2_coder.ext E2
 have A12_ := A_qa3.ext E2
 have hcd13 : StrChars.Road.CodA ([104, 116, 116, 112, 58, 47, 47, 117, 110, 105, 116, 115, 111, 102, 109, 101, 97, 115, 117, 114, 101, 46, 111, 114, 103] : List Int32) 0 (25 : Int32) [.int 104, .int 116, .int 116, .int 112, .int 58, .int 47, .int 47, .int 117, .int 110, .int 105, .int 116, .int 115, .int 111, .int 102, .int 109, .int 101, .int 97, .int 115, .int 117, .int 114, .int 101, .int 46, .int 111, .int 114, .int 103] := StrChars.Road.codOf (n := 25) rfl (fun x hx => (hp7 x hx).2)
 have hbd13 : ∀ x ∈ ([104, 116, 116, 112, 58, 47, 47, 117, 110, 105, 116, 115, 111, 102, 109, 101, 97, 115, 117, 114, 101, 46, 111, 114, 103] : List Int32), ¬ x < 0 ∧ ¬ (65535 : Int32) < x := own_up _ hp7
 have O14 := X00.ext E2
 obtain ⟨cq6, kq6, q6a, q6b, q6c⟩ := isOf hZ2 e2 E9_
 obtain ⟨_, T6, L6, X6, hQ6, st6⟩ := own_cb0 2 104 0 0 2 104 (X2.virtualBack hx (y := Y13_) (z := Y13_) ho2 (mvT hZ2 (w56_ hw)) (mvT hZ2 (w57_ hw)) (notFace_of_selects (args := #[]) (mvT hZ2 (w59_ hw))) (mvT hZ2 (w59_ hw)) (mvT hZ2 (w58_ hw)) (by decide) (StrChars.Road.eqW (s := s.setVm T2.vm) (W := 0) hZ2 (own_wq hw) (kI := 4) (w3_ hw) E9_ F10_ F11_ A12_ cd_qa2 bd_qa2 ln_qa2 Ex2 Fv2 Fc2 Av2 hcd13 hbd13 (lE rfl) (O2.ext O14.2) P5 (lE rfl) (lE rfl)) q6a q6c (g := (mkF m 6 #[rv qa1] [.ref b2, .ref qa2])) rfl hml.symm (Steps.refl _) (argsL := [.ref b2]) (rest := []) (lenOf pd11 rfl) rfl (own_hw rfl) (hb hby d12_6) (fun _ _ => ⟨rfl, e2, (lE rfl : 2 + 0 ≤ _), (lE rfl : 104 + 0 ≤ _)⟩)) rfl rfl
 dsimp only [Pt.U, Pt.locs, Pt.cells, Pt.slots] at hQ6
 obtain ⟨hv6, rfl, e6q⟩ := hQ6
 rcases hv6 with ⟨rfl, -⟩ | ⟨-, hq6⟩
 rotate_left
 exact absurd (hc8 : qc4 = ([104, 116, 116, 112, 58, 47, 47, 117, 110, 105, 116, 115, 111, 102, 109, 101, 97, 115, 117, 114, 101, 46, 111, 114, 103] : List Int32)) hq6
 have N6 := Fr.app N0 (Fr.nil n0)
 have F16_ := F_qa1_code.ext E2
 obtain ⟨T15, X15, e15, st15⟩ := getF X6 hx hZ2 ho2 (host := "") (Or.inl (w48_ hw)) Via.refl e6q F16_ (g := (mkF m 13 #[rv qa1] [.ref qa1])) rfl rfl (hb hby d12_13)
 refine own_lvW X15 Bd.notSynchronized hS2 hk2 (v := (some (.ref qa6))) (fun h => by rw [Bd.returns] at h; cases h) e15 hh ⟨rfl, N6, K3⟩ (R5.trans (CHv.at X15 hZ2 hEL CR2.1)) (lE rfl) (lE rfl) (fun fs hr => pre0 _ (by
  show Sx p e below s₁ m 0 #[rv qa1] [] _
  refine zb X0 Bd d12_0 rfl rfl ?_
  refine st1 _ ?_
  refine st2 _ ?_
  refine st6.trans ?_
  refine zo X6 Bd d12_9 (XT.i0_eq_f ((by decide) : ¬ ((1 : Int32) = (0 : Int32)))) ?_
  refine zb X6 Bd d12_12 rfl rfl ?_
  refine st15 _ ?_
  refine zg (pc' := 20) X15 Bd d12_16 rfl ?_
  exact retOut X15 hx Bd.returns rfl (Or.inr (Or.inr (Or.inr (Or.inr ⟨rfl, rfl, rfl⟩)))) (hb hby d12_20) hr))
theorem d12_19 : decode prog_10_method_2_code 19 = .ok (.aconst_null, 1) := by decide +kernel
-- com/example/hearthline/hearthline/mapping/Unit.text()Ljava/lang/String;
def Q25 (Z : State)  (h0 : Heap) (n0 : Nat) (v : Option Value) (h : Heap) (L : List Loc) : Prop := v = some .null ∧ Fr n0 L ∧ Keep h0 h []
theorem rm25 (l : Launch) (Z : State) (a0 : Array Value) (hw : HW a0 Z) (G1 : Int32) (qa1 : Addr) (qa2 : Addr) (qa3 : Addr) (qc4 : List Int32) (qk5 : ClassId) (h0 : Heap) (n0 : Nat) (X00 : Old Z n0 h0) (O2 : Sta Z Z.heap "java/lang/String" "COMPACT_STRINGS" "Z" (.int G1)) (P5 : ¬ (G1 = (0 : Int32))) (F_qa1_system : Fld Z h0 qa1 "com/example/hearthline/hearthline/mapping/Unit" "system" "Ljava/lang/String;" (.ref qa2)) (E_qa2 : Exa Z h0 qa2 "java/lang/String") (F_qa2_value : Fld Z h0 qa2 "java/lang/String" "value" "[B" (.ref qa3)) (A_qa3 : Arv Z h0 qa3 qk5 .byte (25 : Int32) ((qc4.map (fun c => c.toInt8.toInt32)).map Value.int) (.int 0)) (cd_qa2 : StrChars.Road.CodA qc4 0 (25 : Int32) ((qc4.map (fun c => c.toInt8.toInt32)).map Value.int)) (bd_qa2 : ∀ x ∈ qc4, ¬ x < 0 ∧ ¬ (65535 : Int32) < x) (ln_qa2 : qc4.length ≤ 4000) (F_qa2_coder : Fld Z h0 qa2 "java/lang/String" "coder" "B" (.int 0)) (hc8 : ¬ (qc4 = ([104, 116, 116, 112, 58, 47, 47, 117, 110, 105, 116, 115, 111, 102, 109, 101, 97, 115, 117, 114, 101, 46, 111, 114, 103] : List Int32))) :
    MW l Z consts_1 Y12_ prog_10_method_2_code 1 (some (.object "java/lang/String")) (Rm 2 2 104 28) #[.ref qa1] h0 (Q25 Z  h0 n0) := by
 refine own_sW pn3 rfl (fun m => ef10 m qa1) ?_
 intro p e s m below meth c s₁ Bd hZ hh hx hby hml hown hnm X0 e0 pre0 hC0 hS0 hk0 hR0
 have N0 := Fr.nil n0
 have hEL := own_EW hw
 have hwS := own_wS hw
 obtain ⟨T1, X1, e1, st1⟩ := getF X0 hx hZ hown (host := "") (Or.inl (w46_ hw)) Via.refl e0 F_qa1_system (g := (mkF m 1 #[rv qa1] [.ref qa1])) rfl rfl (hb hby d12_1)
 obtain ⟨b2, T2, h2, k2, t2, c2, X2, e2, E2, hS2, hk2, hZ2, ho2, Ex2, Fc2, Fv2, Av2, lb2, lt2, CR2, -, sf2, st2⟩ := ldcCH (text := "http://unitsofmeasure.org") (EL := consts_1) X1 hx hZ hown (w55_ hw) hwS e1 hS0 hk0 hEL (by decide) hC0 (vs := [.int 104, .int 116, .int 116, .int 112, .int 58, .int 47, .int 47, .int 117, .int 110, .int 105, .int 116, .int 115, .int 111, .int 102, .int 109, .int 101, .int 97, .int 115, .int 117, .int 114, .int 101, .int 46, .int 111, .int 114, .int 103]) (z := (25 : Int32)) ⟨by decide, by decide⟩ (by decide) (by decide) (g := (mkF m 4 #[rv qa1] [.ref qa2])) rfl (hb hby d12_4) (n := 100) (by decide) (lE rfl) (lE rfl) (lE rfl)
 have K3 := (Keep.refl h0 []).ext E2
 have R5 := hR0.trans CR2
 replace X2 : Stand p l e (Rm 2 2 104 28) (s.setVm T2.vm) m #[.ref qa1] below meth c T2 _ 2 104 := X2
 have hp7 : ∀ c ∈ ([104, 116, 116, 112, 58, 47, 47, 117, 110, 105, 116, 115, 111, 102, 109, 101, 97, 115, 117, 114, 101, 46, 111, 114, 103] : List Int32), ¬ c < 0 ∧ ¬ (255 : Int32) < c := (List.forall_mem_cons.mpr ⟨(by decide), (List.forall_mem_cons.mpr ⟨(by decide), (List.forall_mem_cons.mpr ⟨(by decide), (List.forall_mem_cons.mpr ⟨(by decide), (List.forall_mem_cons.mpr ⟨(by decide), (List.forall_mem_cons.mpr ⟨(by decide), (List.forall_mem_cons.mpr ⟨(by decide), (List.forall_mem_cons.mpr ⟨(by decide), (List.forall_mem_cons.mpr ⟨(by decide), (List.forall_mem_cons.mpr ⟨(by decide), (List.forall_mem_cons.mpr ⟨(by decide), (List.forall_mem_cons.mpr ⟨(by decide), (List.forall_mem_cons.mpr ⟨(by decide), (List.forall_mem_cons.mpr ⟨(by decide), (List.forall_mem_cons.mpr ⟨(by decide), (List.forall_mem_cons.mpr ⟨(by decide), (List.forall_mem_cons.mpr ⟨(by decide), (List.forall_mem_cons.mpr ⟨(by decide), (List.forall_mem_cons.mpr ⟨(by decide), (List.forall_mem_cons.mpr ⟨(by decide), (List.forall_mem_cons.mpr ⟨(by decide), (List.forall_mem_cons.mpr ⟨(by decide), (List.forall_mem_cons.mpr ⟨(by decide), (List.forall_mem_cons.mpr ⟨(by decide), (List.forall_mem_cons.mpr ⟨(by decide), (fun _ q => nomatch q)⟩)⟩)⟩)⟩)⟩)⟩)⟩)⟩)⟩)⟩)⟩)⟩)⟩)⟩)⟩)⟩)⟩)⟩)⟩)⟩)⟩)⟩)⟩)⟩)⟩)
 have E9_ := E_qa2.ext E2
 have F10_ := F_qa2_value.ext E2
 have F11_ := F_qa2_coder.ext E2
 have A12_ := A_qa3.ext E2
 have hcd13 : StrChars.Road.CodA ([104, 116, 116, 112, 58, 47, 47, 117, 110, 105, 116, 115, 111, 102, 109, 101, 97, 115, 117, 114, 101, 46, 111, 114, 103] : List Int32) 0 (25 : Int32) [.int 104, .int 116, .int 116, .int 112, .int 58, .int 47, .int 47, .int 117, .int 110, .int 105, .int 116, .int 115, .int 111, .int 102, .int 109, .int 101, .int 97, .int 115, .int 117, .int 114, .int 101, .int 46, .int 111, .int 114, .int 103] := StrChars.Road.codOf (n := 25) rfl (fun x hx => (hp7 x hx).2)
 have hbd13 : ∀ x ∈ ([104, 116, 116, 112, 58, 47, 47, 117, 110, 105, 116, 115, 111, 102, 109, 101, 97, 115, 117, 114, 101, 46, 111, 114, 103] : List Int32), ¬ x < 0 ∧ ¬ (65535 : Int32) < x := own_up _ hp7
 have O14 := X00.ext E2
 obtain ⟨cq6, kq6, q6a, q6b, q6c⟩ := isOf hZ2 e2 E9_
 obtain ⟨_, T6, L6, X6, hQ6, st6⟩ := own_cb0 2 104 0 0 2 104 (X2.virtualBack hx (y := Y13_) (z := Y13_) ho2 (mvT hZ2 (w56_ hw)) (mvT hZ2 (w57_ hw)) (notFace_of_selects (args := #[]) (mvT hZ2 (w59_ hw))) (mvT hZ2 (w59_ hw)) (mvT hZ2 (w58_ hw)) (by decide) (StrChars.Road.eqW (s := s.setVm T2.vm) (W := 0) hZ2 (own_wq hw) (kI := 4) (w3_ hw) E9_ F10_ F11_ A12_ cd_qa2 bd_qa2 ln_qa2 Ex2 Fv2 Fc2 Av2 hcd13 hbd13 (lE rfl) (O2.ext O14.2) P5 (lE rfl) (lE rfl)) q6a q6c (g := (mkF m 6 #[rv qa1] [.ref b2, .ref qa2])) rfl hml.symm (Steps.refl _) (argsL := [.ref b2]) (rest := []) (lenOf pd11 rfl) rfl (own_hw rfl) (hb hby d12_6) (fun _ _ => ⟨rfl, e2, (lE rfl : 2 + 0 ≤ _), (lE rfl : 104 + 0 ≤ _)⟩)) rfl rfl
 dsimp only [Pt.U, Pt.locs, Pt.cells, Pt.slots] at hQ6
 obtain ⟨hv6, rfl, e6q⟩ := hQ6
 rcases hv6 with ⟨-, hq6⟩ | ⟨rfl, -⟩
 exact absurd hq6 (hc8 : ¬ (qc4 = ([104, 116, 116, 112, 58, 47, 47, 117, 110, 105, 116, 115, 111, 102, 109, 101, 97, 115, 117, 114, 101, 46, 111, 114, 103] : List Int32)))
 have N6 := Fr.app N0 (Fr.nil n0)
 refine own_lvW X6 Bd.notSynchronized hS2 hk2 (v := (some .null)) (fun h => by rw [Bd.returns] at h; cases h) e6q hh ⟨rfl, N6, K3⟩ (R5.trans (CHv.at X6 hZ2 hEL CR2.1)) (lE rfl) (lE rfl) (fun fs hr => pre0 _ (by
  show Sx p e below s₁ m 0 #[rv qa1] [] _
  refine zb X0 Bd d12_0 rfl rfl ?_
  refine st1 _ ?_
  refine st2 _ ?_
  refine st6.trans ?_
  refine zp (pc' := 19) X6 Bd d12_9 (XT.i0_eq_t ((by decide) : (0 : Int32) = (0 : Int32))) rfl ?_
  refine XS.aconstNull X6.here hx rfl (hb hby d12_19) ?_
  exact retOut X6 hx Bd.returns rfl (Or.inr (Or.inr (Or.inr (Or.inr ⟨rfl, rfl, rfl⟩)))) (hb hby d12_20) hr))
-- com/example/hearthline/hearthline/mapping/Unit.text()Ljava/lang/String;
def Q26 (Z : State)  (h0 : Heap) (n0 : Nat) (v : Option Value) (h : Heap) (L : List Loc) : Prop := v = some .null ∧ Fr n0 L ∧ Keep h0 h []
theorem rm26 (l : Launch) (Z : State) (a0 : Array Value) (hw : HW a0 Z) (G1 : Int32) (qa1 : Addr) (qa2 : Addr) (qa3 : Addr) (qk4 : ClassId) (h0 : Heap) (n0 : Nat) (X00 : Old Z n0 h0) (O2 : Sta Z Z.heap "java/lang/String" "COMPACT_STRINGS" "Z" (.int G1)) (P5 : ¬ (G1 = (0 : Int32))) (F_qa1_system : Fld Z h0 qa1 "com/example/hearthline/hearthline/mapping/Unit" "system" "Ljava/lang/String;" (.ref qa2)) (E_qa2 : Exa Z h0 qa2 "java/lang/String") (F_qa2_value : Fld Z h0 qa2 "java/lang/String" "value" "[B" (.ref qa3)) (hp_qa2 : ∀ c ∈ ([117, 114, 110, 58, 105, 115, 111, 58, 115, 116, 100, 58, 105, 115, 111, 58, 49, 49, 48, 55, 51, 58, 49, 48, 49, 48, 49] : List Int32), ¬ c < 0 ∧ ¬ (255 : Int32) < c) (F_qa2_coder : Fld Z h0 qa2 "java/lang/String" "coder" "B" (.int 0)) (A_qa3 : Arv Z h0 qa3 qk4 .byte (27 : Int32) [.int 117, .int 114, .int 110, .int 58, .int 105, .int 115, .int 111, .int 58, .int 115, .int 116, .int 100, .int 58, .int 105, .int 115, .int 111, .int 58, .int 49, .int 49, .int 48, .int 55, .int 51, .int 58, .int 49, .int 48, .int 49, .int 48, .int 49] (.int 0)) :
    MW l Z consts_1 Y12_ prog_10_method_2_code 1 (some (.object "java/lang/String")) (Rm 2 2 104 28) #[.ref qa1] h0 (Q26 Z  h0 n0) := by
 refine own_sW pn3 rfl (fun m => ef10 m qa1) ?_
 intro p e s m below meth c s₁ Bd hZ hh hx hby hml hown hnm X0 e0 pre0 hC0 hS0 hk0 hR0
 have N0 := Fr.nil n0
 have hEL := own_EW hw
 have hwS := own_wS hw
 obtain ⟨T1, X1, e1, st1⟩ := getF X0 hx hZ hown (host := "") (Or.inl (w46_ hw)) Via.refl e0 F_qa1_system (g := (mkF m 1 #[rv qa1] [.ref qa1])) rfl rfl (hb hby d12_1)
 obtain ⟨b2, T2, h2, k2, t2, c2, X2, e2, E2, hS2, hk2, hZ2, ho2, Ex2, Fc2, Fv2, Av2, lb2, lt2, CR2, -, sf2, st2⟩ := ldcCH (text := "http://unitsofmeasure.org") (EL := consts_1) X1 hx hZ hown (w55_ hw) hwS e1 hS0 hk0 hEL (by decide) hC0 (vs := [.int 104, .int 116, .int 116, .int 112, .int 58, .int 47, .int 47, .int 117, .int 110, .int 105, .int 116, .int 115, .int 111, .int 102, .int 109, .int 101, .int 97, .int 115, .int 117, .int 114, .int 101, .int 46, .int 111, .int 114, .int 103]) (z := (25 : Int32)) ⟨by decide, by decide⟩ (by decide) (by decide) (g := (mkF m 4 #[rv qa1] [.ref qa2])) rfl (hb hby d12_4) (n := 100) (by decide) (lE rfl) (lE rfl) (lE rfl)
 have K3 := (Keep.refl h0 []).ext E2
 have R5 := hR0.trans CR2
 replace X2 : Stand p l e (Rm 2 2 104 28) (s.setVm T2.vm) m #[.ref qa1] below meth c T2 _ 2 104 := X2
 have hp7 : ∀ c ∈ ([104, 116, 116, 112, 58, 47, 47, 117, 110, 105, 116, 115, 111, 102, 109, 101, 97, 115, 117, 114, 101, 46, 111, 114, 103] : List Int32), ¬ c < 0 ∧ ¬ (255 : Int32) < c := (List.forall_mem_cons.mpr ⟨(by decide), (List.forall_mem_cons.mpr ⟨(by decide), (List.forall_mem_cons.mpr ⟨(by decide), (List.forall_mem_cons.mpr ⟨(by decide), (List.forall_mem_cons.mpr ⟨(by decide), (List.forall_mem_cons.mpr ⟨(by decide), (List.forall_mem_cons.mpr ⟨(by decide), (List.forall_mem_cons.mpr ⟨(by decide), (List.forall_mem_cons.mpr ⟨(by decide), (List.forall_mem_cons.mpr ⟨(by decide), (List.forall_mem_cons.mpr ⟨(by decide), (List.forall_mem_cons.mpr ⟨(by decide), (List.forall_mem_cons.mpr ⟨(by decide), (List.forall_mem_cons.mpr ⟨(by decide), (List.forall_mem_cons.mpr ⟨(by decide), (List.forall_mem_cons.mpr ⟨(by decide), (List.forall_mem_cons.mpr ⟨(by decide), (List.forall_mem_cons.mpr ⟨(by decide), (List.forall_mem_cons.mpr ⟨(by decide), (List.forall_mem_cons.mpr ⟨(by decide), (List.forall_mem_cons.mpr ⟨(by decide), (List.forall_mem_cons.mpr ⟨(by decide), (List.forall_mem_cons.mpr ⟨(by decide), (List.forall_mem_cons.mpr ⟨(by decide), (List.forall_mem_cons.mpr ⟨(by decide), (fun _ q => nomatch q)⟩)⟩)⟩)⟩)⟩)⟩)⟩)⟩)⟩)⟩)⟩)⟩)⟩)⟩)⟩)⟩)⟩)⟩)⟩)⟩)⟩)⟩)⟩)⟩)⟩)
 have E8_ := E_qa2.ext E2
 have F9_ := F_qa2_value.ext E2
 have F10_ := F_qa2_coder.ext E2
 have A11_ := A_qa3.ext E2
 have hcd12 : StrChars.Road.CodA ([117, 114, 110, 58, 105, 115, 111, 58, 115, 116, 100, 58, 105, 115, 111, 58, 49, 49, 48, 55, 51, 58, 49, 48, 49, 48, 49] : List Int32) 0 (27 : Int32) [.int 117, .int 114, .int 110, .int 58, .int 105, .int 115, .int 111, .int 58, .int 115, .int 116, .int 100, .int 58, .int 105, .int 115, .int 111, .int 58, .int 49, .int 49, .int 48, .int 55, .int 51, .int 58, .int 49, .int 48, .int 49, .int 48, .int 49] := StrChars.Road.codOf (n := 27) rfl (fun x hx => (hp_qa2 x hx).2)
 have hbd12 : ∀ x ∈ ([117, 114, 110, 58, 105, 115, 111, 58, 115, 116, 100, 58, 105, 115, 111, 58, 49, 49, 48, 55, 51, 58, 49, 48, 49, 48, 49] : List Int32), ¬ x < 0 ∧ ¬ (65535 : Int32) < x := own_up _ hp_qa2
 have hcd13 : StrChars.Road.CodA ([104, 116, 116, 112, 58, 47, 47, 117, 110, 105, 116, 115, 111, 102, 109, 101, 97, 115, 117, 114, 101, 46, 111, 114, 103] : List Int32) 0 (25 : Int32) [.int 104, .int 116, .int 116, .int 112, .int 58, .int 47, .int 47, .int 117, .int 110, .int 105, .int 116, .int 115, .int 111, .int 102, .int 109, .int 101, .int 97, .int 115, .int 117, .int 114, .int 101, .int 46, .int 111, .int 114, .int 103] := StrChars.Road.codOf (n := 25) rfl (fun x hx => (hp7 x hx).2)
 have hbd13 : ∀ x ∈ ([104, 116, 116, 112, 58, 47, 47, 117, 110, 105, 116, 115, 111, 102, 109, 101, 97, 115, 117, 114, 101, 46, 111, 114, 103] : List Int32), ¬ x < 0 ∧ ¬ (65535 : Int32) < x := own_up _ hp7
 have O14 := X00.ext E2
 obtain ⟨cq6, kq6, q6a, q6b, q6c⟩ := isOf hZ2 e2 E8_
 obtain ⟨_, T6, L6, X6, hQ6, st6⟩ := own_cb0 2 104 0 0 2 104 (X2.virtualBack hx (y := Y13_) (z := Y13_) ho2 (mvT hZ2 (w56_ hw)) (mvT hZ2 (w57_ hw)) (notFace_of_selects (args := #[]) (mvT hZ2 (w59_ hw))) (mvT hZ2 (w59_ hw)) (mvT hZ2 (w58_ hw)) (by decide) (StrChars.Road.eqW (s := s.setVm T2.vm) (W := 0) hZ2 (own_wq hw) (kI := 4) (w3_ hw) E8_ F9_ F10_ A11_ hcd12 hbd12 (lE rfl) Ex2 Fv2 Fc2 Av2 hcd13 hbd13 (lE rfl) (O2.ext O14.2) P5 (lE rfl) (lE rfl)) q6a q6c (g := (mkF m 6 #[rv qa1] [.ref b2, .ref qa2])) rfl hml.symm (Steps.refl _) (argsL := [.ref b2]) (rest := []) (lenOf pd11 rfl) rfl (own_hw rfl) (hb hby d12_6) (fun _ _ => ⟨rfl, e2, (lE rfl : 2 + 0 ≤ _), (lE rfl : 104 + 0 ≤ _)⟩)) rfl rfl
 dsimp only [Pt.U, Pt.locs, Pt.cells, Pt.slots] at hQ6
 obtain ⟨hv6, rfl, e6q⟩ := hQ6
 rcases hv6 with ⟨-, hq6⟩ | ⟨rfl, -⟩
 exact absurd hq6 ((fun q => absurd (congrArg List.length q) (show ¬ ((27 : Nat) = 25) by decide)) : ¬ (([117, 114, 110, 58, 105, 115, 111, 58, 115, 116, 100, 58, 105, 115, 111, 58, 49, 49, 48, 55, 51, 58, 49, 48, 49, 48, 49] : List Int32) = ([104, 116, 116, 112, 58, 47, 47, 117, 110, 105, 116, 115, 111, 102, 109, 101, 97, 115, 117, 114, 101, 46, 111, 114, 103] : List Int32)))
 have N6 := Fr.app N0 (Fr.nil n0)
 refine own_lvW X6 Bd.notSynchronized hS2 hk2 (v := (some .null)) (fun h => by rw [Bd.returns] at h; cases h) e6q hh ⟨rfl, N6, K3⟩ (R5.trans (CHv.at X6 hZ2 hEL CR2.1)) (lE rfl) (lE rfl) (fun fs hr => pre0 _ (by
  show Sx p e below s₁ m 0 #[rv qa1] [] _
  refine zb X0 Bd d12_0 rfl rfl ?_
  refine st1 _ ?_
  refine st2 _ ?_
  refine st6.trans ?_
  refine zp (pc' := 19) X6 Bd d12_9 (XT.i0_eq_t ((by decide) : (0 : Int32) = (0 : Int32))) rfl ?_
  refine XS.aconstNull X6.here hx rfl (hb hby d12_19) ?_
  exact retOut X6 hx Bd.returns rfl (Or.inr (Or.inr (Or.inr (Or.inr ⟨rfl, rfl, rfl⟩)))) (hb hby d12_20) hr))
theorem d1_8 : decode jdk_42_method_149_code 8 = .ok (.aload_n 0, 1) := by decide +kernel
theorem d1_9 : decode jdk_42_method_149_code 9 = .ok (.ldc 7, 2) := by decide +kernel
theorem d1_11 : decode jdk_42_method_149_code 11 = .ok (.getfield 9, 3) := by decide +kernel
theorem d1_14 : decode jdk_42_method_149_code 14 = .ok (.putfield 9, 3) := by decide +kernel
theorem d1_17 : decode jdk_42_method_149_code 17 = .ok (.aload_n 0, 1) := by decide +kernel
theorem d1_18 : decode jdk_42_method_149_code 18 = .ok (.ldc 7, 2) := by decide +kernel
theorem d1_20 : decode jdk_42_method_149_code 20 = .ok (.getfield 15, 3) := by decide +kernel
theorem d1_23 : decode jdk_42_method_149_code 23 = .ok (.putfield 15, 3) := by decide +kernel
theorem d1_26 : decode jdk_42_method_149_code 26 = .ok (.return_, 1) := by decide +kernel
-- java/lang/String.<init>([CIILjava/lang/Void;)V
def Q27 (Z : State) (qa1 : Addr) (h0 : Heap) (n0 : Nat) (v : Option Value) (h : Heap) (L : List Loc) : Prop := ∃ t2 : Addr, ∃ c2 : ClassId, v = none ∧ Fr n0 L ∧ Keep h0 h [qa1] ∧ Exa Z h qa1 "java/lang/String" ∧ Fld Z h qa1 "java/lang/String" "value" "[B" (.ref t2) ∧ Fld Z h qa1 "java/lang/String" "coder" "B" (.int 0) ∧ Arv Z h t2 c2 .byte (0 : Int32) [] (.int 0)
theorem rm27 (l : Launch) (Z : State) (a0 : Array Value) (hw : HW a0 Z) (qa1 : Addr) (qa2 : Addr) (h0 : Heap) (n0 : Nat) (X00 : Old Z n0 h0) (E_qa1 : Exa Z h0 qa1 "java/lang/String") (F_qa1_value : Fld Z h0 qa1 "java/lang/String" "value" "[B" .null) (g_qa1 : n0 ≤ qa1) (F_qa1_coder : Fld Z h0 qa1 "java/lang/String" "coder" "B" (.int 0)) :
    MW l Z consts_1 Y8_ jdk_42_method_149_code 6 none (Rm 1 4 8 12) #[.ref qa1, .ref qa2, .int 0, .int 0, .null] h0 (Q27 Z qa1 h0 n0) := by
 refine own_sW pn1 rfl (fun m => ef2 m qa1 qa2 (0 : Int32) (0 : Int32)) ?_
 intro p e s m below meth c s₁ Bd hZ hh hx hby hml hown hnm X0 e0 pre0 hC0 hS0 hk0 hR0
 have N0 := Fr.nil n0
 have hEL := own_EW hw
 have hwS := own_wS hw
 obtain ⟨T1, X1, e1, st1⟩ := initO X0 hx hZ hown (w12_ hw) (w13_ hw) (w14_ hw) e0 (g := (mkF m 1 #[rv qa1, rv qa2, iv 0, iv 0, .val .null, .unset] [.ref qa1])) rfl hml.symm rfl (hb hby d1_1) (by decide) (W := 0) (own_hw rfl) (lE rfl)
 obtain ⟨b2, T2, h2, k2, t2, c2, X2, e2, E2, hS2, hk2, hZ2, ho2, Ex2, Fc2, Fv2, Av2, lb2, lt2, CR2, -, sf2, st2⟩ := ldcCH (text := "") (EL := consts_1) X1 hx hZ hown (w88_ hw) hwS e1 hS0 hk0 hEL (by decide) hC0 (vs := []) (z := (0 : Int32)) ⟨by decide, by decide⟩ (by decide) (by decide) (g := (mkF m 9 #[rv qa1, rv qa2, iv 0, iv 0, .val .null, .unset] [.ref qa1])) rfl (hb hby d1_9) (n := 0) (by decide) (lE rfl) (lE rfl) (lE rfl)
 have K3 := (Keep.refl h0 [qa1]).ext E2
 have R5 := hR0.trans CR2
 replace X2 : Stand p l e (Rm 1 4 8 12) (s.setVm T2.vm) m #[.ref qa1, .ref qa2, .int 0, .int 0, .null] below meth c T2 _ 2 4 := X2
 obtain ⟨T6, X6, e6, st6⟩ := getF X2 hx hZ2 ho2 (host := "") (Or.inl (w29_ hw)) Via.refl e2 Fv2 (g := (mkF m 11 #[rv qa1, rv qa2, iv 0, iv 0, .val .null, .unset] [.ref b2, .ref qa1])) rfl rfl (hb hby d1_11)
 have F7_ := F_qa1_value.ext E2
 have E8_ := E_qa1.ext E2
 obtain ⟨T9, h9, X9, e9, W9, st9⟩ := putF X6 hx hZ2 ho2 (host := "") (Or.inl (w29_ hw)) Via.refl e6 F7_ E8_ (Or.inr ⟨(w30_ hw), rfl, hnm⟩) (w3_ hw) (ty := (.array .byte)) (by decide) rfl rfl (g := (mkF m 14 #[rv qa1, rv qa2, iv 0, iv 0, .val .null, .unset] [.ref t2, .ref qa1])) rfl rfl (hb hby d1_14)
 have N9 := Fr.snoc X9 N0 g_qa1
 have K10 := K3.wr W9 (Or.inl (mI 0 rfl))
 have f12 : Safe Z consts_1 T2.vm h2 qa1 := CR2.safe E_qa1.lt (own_safe_null hZ.alike E_qa1 F_qa1_value)
 have C11 : CHv Z consts_1 T2.vm h9 := CHv.wr W9 f12 CR2.1
 have R13 : CHr Z consts_1 s.vm h0 T2.vm h9 := R5.trans (CHr.wr W9 f12 CR2.1)
 have F14_ : Fld Z h9 qa1 "java/lang/String" "value" "[B" (.ref t2) := F7_.same W9
 have hk16' : _ ≤ h9.size := (Nat.le_trans hk2 (Nat.le_of_eq W9.size.symm))
 obtain ⟨b15, T15, h15, k15, t15, c15, X15, e15, E15, hS15, hk15, hZ15, ho15, Ex15, Fc15, Fv15, Av15, lb15, lt15, CR15, -, sf15, st15⟩ := ldcCH (text := "") (EL := consts_1) X9 hx hZ2 ho2 (w88_ hw) hwS e9 hS2 hk16' hEL (by decide) C11 (vs := []) (z := (0 : Int32)) ⟨by decide, by decide⟩ (by decide) (by decide) (g := (mkF m 18 #[rv qa1, rv qa2, iv 0, iv 0, .val .null, .unset] [.ref qa1])) rfl (hb hby d1_18) (n := 0) (by decide) (lE rfl) (lE rfl) (lE rfl)
 have K17 := K10.ext E15
 have R19 := R13.trans CR15
 replace X15 : Stand p l e (Rm 1 4 8 12) (s.setVm T15.vm) m #[.ref qa1, .ref qa2, .int 0, .int 0, .null] below meth c T15 _ 4 8 := X15
 obtain ⟨T20, X20, e20, st20⟩ := getF X15 hx hZ15 ho15 (host := "") (Or.inl (w27_ hw)) Via.refl e15 Fc15 (g := (mkF m 20 #[rv qa1, rv qa2, iv 0, iv 0, .val .null, .unset] [.ref b15, .ref qa1])) rfl rfl (hb hby d1_20)
 have F21_ := F_qa1_coder.ext E2
 have F22_ := F21_.other W9 (Or.inr (slot_ne (Or.inr (w28_ hw)) (Or.inr (w30_ hw)) (by decide) (t := .byte) (t' := (.array .byte)) (by decide) (by decide)))
 have F23_ := F22_.ext E15
 have E24_ := E8_.wr W9
 have E25_ := E24_.ext E15
 obtain ⟨T26, h26, X26, e26, W26, st26⟩ := putF X20 hx hZ15 ho15 (host := "") (Or.inl (w27_ hw)) Via.refl e20 F23_ E25_ (Or.inr ⟨(w28_ hw), rfl, hnm⟩) (w3_ hw) (ty := .byte) (by decide) rfl rfl (g := (mkF m 23 #[rv qa1, rv qa2, iv 0, iv 0, .val .null, .unset] [.int 0, .ref qa1])) rfl rfl (hb hby d1_23)
 have N26 := Fr.snoc X26 N9 g_qa1
 have K27 := K17.wr W26 (Or.inl (mI 0 rfl))
 have f29 : Safe Z consts_1 T2.vm h9 qa1 := Safe.wr W9 f12 CR2.1 f12
 have f30 : Safe Z consts_1 T15.vm h15 qa1 := CR15.safe (Nat.lt_of_lt_of_le E_qa1.lt (Nat.le_trans E2.1 (Nat.le_of_eq W9.size.symm))) f29
 have C28 : CHv Z consts_1 T15.vm h26 := CHv.wr W26 f30 CR15.1
 have R31 : CHr Z consts_1 s.vm h0 T15.vm h26 := R19.trans (CHr.wr W26 f30 CR15.1)
 have F32_ : Fld Z h26 qa1 "java/lang/String" "coder" "B" (.int 0) := F23_.same W26
 have E33_ := E25_.wr W26
 have F34_ := F14_.ext E15
 have F35_ := F34_.other W26 (Or.inr (slot_ne (Or.inr (w30_ hw)) (Or.inr (w28_ hw)) (by decide) (t := (.array .byte)) (t' := .byte) (by decide) (by decide)))
 have A36_ := Av2.other W9 (Ne.symm (sf2 qa1 f12).2)
 have A37_ := A36_.ext E15
 have A38_ := A37_.other W26 (Ne.symm (sf2 qa1 f12).2)
 have hk39' : _ ≤ h26.size := (Nat.le_trans hk15 (Nat.le_of_eq W26.size.symm))
 refine own_lvW X26 Bd.notSynchronized hS15 hk39' (v := none) (fun _ => rfl) e26 hh ⟨t2, c2, rfl, N26, K27, E33_, F35_, F32_, A38_⟩ (R31.trans (CHv.at X26 hZ15 hEL C28)) (lE rfl) (lE rfl) (fun fs hr => pre0 _ (by
  show Sx p e below s₁ m 0 #[rv qa1, rv qa2, iv 0, iv 0, .val .null, .unset] [] _
  refine zb X0 Bd d1_0 rfl rfl ?_
  refine st1 _ ?_
  refine zj X1 Bd d1_4 rfl ?_
  refine zo X1 Bd d1_5 (XT.i0_ne_f ((by decide) : (0 : Int32) = (0 : Int32))) ?_
  refine zb X1 Bd d1_8 rfl rfl ?_
  refine st2 _ ?_
  refine st6 _ ?_
  refine st9 _ ?_
  refine zb X9 Bd d1_17 rfl rfl ?_
  refine st15 _ ?_
  refine st20 _ ?_
  refine st26 _ ?_
  exact X26.returnOut hx Bd.returns (hb hby d1_26) hr))
-- java/lang/String.<init>([C)V
def Q28 (Z : State) (qa1 : Addr) (h0 : Heap) (n0 : Nat) (v : Option Value) (h : Heap) (L : List Loc) : Prop := ∃ b3 : Addr, ∃ c4_ : ClassId, v = none ∧ Fr n0 L ∧ Keep h0 h [qa1] ∧ Exa Z h qa1 "java/lang/String" ∧ Fld Z h qa1 "java/lang/String" "value" "[B" (.ref b3) ∧ Fld Z h qa1 "java/lang/String" "coder" "B" (.int 0) ∧ Arv Z h b3 c4_ .byte (0 : Int32) [] (.int 0)
theorem rm28 (l : Launch) (Z : State) (a0 : Array Value) (hw : HW a0 Z) (qa1 : Addr) (qa2 : Addr) (qk3 : ClassId) (h0 : Heap) (n0 : Nat) (X00 : Old Z n0 h0) (A_qa2 : Arv Z h0 qa2 qk3 .char (0 : Int32) [] (.int 0)) (E_qa1 : Exa Z h0 qa1 "java/lang/String") (F_qa1_value : Fld Z h0 qa1 "java/lang/String" "value" "[B" .null) (g_qa1 : n0 ≤ qa1) (F_qa1_coder : Fld Z h0 qa1 "java/lang/String" "coder" "B" (.int 0)) :
    MW l Z consts_1 Y9_ jdk_42_method_3_code 2 none (Rm 2 4 8 29) #[.ref qa1, .ref qa2] h0 (Q28 Z qa1 h0 n0) := by
 refine own_sW pn1 rfl (fun m => ef1 m qa1 qa2) ?_
 intro p e s m below meth c s₁ Bd hZ hh hx hby hml hown hnm X0 e0 pre0 hC0 hS0 hk0 hR0
 have N0 := Fr.nil n0
 have hEL := own_EW hw
 have hwS := own_wS hw
 have av1 := A_qa2
 obtain ⟨cl1, Ar1, q1, S1, N1, H1, Gf1⟩ := av1
 obtain ⟨_, T2, L2, X2, hQ2, hS2, hZ2, ho2, CR2, st2⟩ := own_cbS 0 0 4 8 4 8 (X0.specialBackS hx (y := Y8_) rfl hown (mvT hZ (w8_ hw)) (mvT hZ (w9_ hw)) (mvT hZ (w11_ hw)) (by decide) (backOfSH (W := 0) (EL := consts_1) (s := s) (rm27 l Z a0 hw  qa1 qa2 h0 n0 X00 E_qa1 F_qa1_value g_qa1 F_qa1_coder) hZ (w11_ hw) (w4_ hw) (lE rfl) (lE rfl) hEL hC0) (g := (mkF m 6 #[rv qa1, rv qa2] [.null, .int 0, .int 0, .ref qa2, .ref qa1])) rfl hml.symm (Steps.refl _) (a := qa1) (argsL := [.ref qa2, .int 0, .int 0, .null]) (rest := []) (lenOf pd7 rfl) rfl (own_hw rfl) (hb hby d0_6) (fun _ _ => ⟨rfl, e0, (lE rfl : 0 + 4 ≤ _), (lE rfl : 0 + 8 ≤ _)⟩)) rfl rfl hS0 (by rw [e0]; exact hk0) hZ hown
 obtain ⟨b3, c4_, rfl, N2q, K2q, w5, w6, w7, w8⟩ := hQ2
 have N2 := Fr.app N0 N2q
 have hk2 : T2.heap.size ≤ T2.heap.size := Nat.le_refl _
 have K9 := (Keep.refl h0 [qa1]).trans K2q (allS (Or.inl (mI 0 rfl)) all0)
 have R11 := hR0.trans CR2
 have E12_ := E_qa1.keep K2q
 refine own_lvW X2 Bd.notSynchronized hS2 hk2 (v := none) (fun _ => rfl) rfl hh ⟨b3, c4_, rfl, N2, K9, E12_, w6, w7, w8⟩ (R11.trans (CHv.at X2 hZ2 hEL CR2.1)) (lE rfl) (lE rfl) (fun fs hr => pre0 _ (by
  show Sx p e below s₁ m 0 #[rv qa1, rv qa2] [] _
  refine zb X0 Bd d0_0 rfl rfl ?_
  refine zb X0 Bd d0_1 rfl rfl ?_
  refine zc X0 Bd d0_2 ?_
  refine zb X0 Bd d0_3 rfl rfl ?_
  refine X0.arraylength hx (by rw [e0]; exact Ar1.1) (State.isArrayOf_alike hZ.alike Ar1.2.1) (g := (mkF m 4 #[rv qa1, rv qa2] [.ref qa2, .int 0, .ref qa2, .ref qa1])) rfl rfl (hb hby d0_4) _ ?_
  rw [len_of S1 N1]
  refine XS.aconstNull X0.here hx rfl (hb hby d0_5) ?_
  refine st2.trans ?_
  exact X2.returnOut hx Bd.returns (hb hby d0_9) hr))
-- com/example/hearthline/hearthline/mapping/Unit.text()Ljava/lang/String;
def Q29 (Z : State)  (h0 : Heap) (n0 : Nat) (v : Option Value) (h : Heap) (L : List Loc) : Prop := v = some .null ∧ Fr n0 L ∧ Keep h0 h []
theorem rm29 (l : Launch) (Z : State) (a0 : Array Value) (hw : HW a0 Z) (G1 : Int32) (qa1 : Addr) (qa2 : Addr) (qa3 : Addr) (qk4 : ClassId) (h0 : Heap) (n0 : Nat) (X00 : Old Z n0 h0) (O2 : Sta Z Z.heap "java/lang/String" "COMPACT_STRINGS" "Z" (.int G1)) (P5 : ¬ (G1 = (0 : Int32))) (F_qa1_system : Fld Z h0 qa1 "com/example/hearthline/hearthline/mapping/Unit" "system" "Ljava/lang/String;" (.ref qa2)) (E_qa2 : Exa Z h0 qa2 "java/lang/String") (F_qa2_value : Fld Z h0 qa2 "java/lang/String" "value" "[B" (.ref qa3)) (F_qa2_coder : Fld Z h0 qa2 "java/lang/String" "coder" "B" (.int 0)) (A_qa3 : Arv Z h0 qa3 qk4 .byte (0 : Int32) [] (.int 0)) :
    MW l Z consts_1 Y12_ prog_10_method_2_code 1 (some (.object "java/lang/String")) (Rm 2 2 104 28) #[.ref qa1] h0 (Q29 Z  h0 n0) := by
 refine own_sW pn3 rfl (fun m => ef10 m qa1) ?_
 intro p e s m below meth c s₁ Bd hZ hh hx hby hml hown hnm X0 e0 pre0 hC0 hS0 hk0 hR0
 have N0 := Fr.nil n0
 have hEL := own_EW hw
 have hwS := own_wS hw
 obtain ⟨T1, X1, e1, st1⟩ := getF X0 hx hZ hown (host := "") (Or.inl (w46_ hw)) Via.refl e0 F_qa1_system (g := (mkF m 1 #[rv qa1] [.ref qa1])) rfl rfl (hb hby d12_1)
 obtain ⟨b2, T2, h2, k2, t2, c2, X2, e2, E2, hS2, hk2, hZ2, ho2, Ex2, Fc2, Fv2, Av2, lb2, lt2, CR2, -, sf2, st2⟩ := ldcCH (text := "http://unitsofmeasure.org") (EL := consts_1) X1 hx hZ hown (w55_ hw) hwS e1 hS0 hk0 hEL (by decide) hC0 (vs := [.int 104, .int 116, .int 116, .int 112, .int 58, .int 47, .int 47, .int 117, .int 110, .int 105, .int 116, .int 115, .int 111, .int 102, .int 109, .int 101, .int 97, .int 115, .int 117, .int 114, .int 101, .int 46, .int 111, .int 114, .int 103]) (z := (25 : Int32)) ⟨by decide, by decide⟩ (by decide) (by decide) (g := (mkF m 4 #[rv qa1] [.ref qa2])) rfl (hb hby d12_4) (n := 100) (by decide) (lE rfl) (lE rfl) (lE rfl)
 have K3 := (Keep.refl h0 []).ext E2
 have R5 := hR0.trans CR2
 replace X2 : Stand p l e (Rm 2 2 104 28) (s.setVm T2.vm) m #[.ref qa1] below meth c T2 _ 2 104 := X2
 have hp7 : ∀ c ∈ ([] : List Int32), ¬ c < 0 ∧ ¬ (255 : Int32) < c := (fun _ q => nomatch q)
 have hp8 : ∀ c ∈ ([104, 116, 116, 112, 58, 47, 47, 117, 110, 105, 116, 115, 111, 102, 109, 101, 97, 115, 117, 114, 101, 46, 111, 114, 103] : List Int32), ¬ c < 0 ∧ ¬ (255 : Int32) < c := (List.forall_mem_cons.mpr ⟨(by decide), (List.forall_mem_cons.mpr ⟨(by decide), (List.forall_mem_cons.mpr ⟨(by decide), (List.forall_mem_cons.mpr ⟨(by decide), (List.forall_mem_cons.mpr ⟨(by decide), (List.forall_mem_cons.mpr ⟨(by decide), (List.forall_mem_cons.mpr ⟨(by decide), (List.forall_mem_cons.mpr ⟨(by decide), (List.forall_mem_cons.mpr ⟨(by decide), (List.forall_mem_cons.mpr ⟨(by decide), (List.forall_mem_cons.mpr ⟨(by decide), (List.forall_mem_cons.mpr ⟨(by decide), (List.forall_mem_cons.mpr ⟨(by decide), (List.forall_mem_cons.mpr ⟨(by decide), (List.forall_mem_cons.mpr ⟨(by decide), (List.forall_mem_cons.mpr ⟨(by decide), (List.forall_mem_cons.mpr ⟨(by decide), (List.forall_mem_cons.mpr ⟨(by decide), (List.forall_mem_cons.mpr ⟨(by decide), (List.forall_mem_cons.mpr ⟨(by decide), (List.forall_mem_cons.mpr ⟨(by decide), (List.forall_mem_cons.mpr ⟨(by decide), (List.forall_mem_cons.mpr ⟨(by decide), (List.forall_mem_cons.mpr ⟨(by decide), (List.forall_mem_cons.mpr ⟨(by decide), (fun _ q => nomatch q)⟩)⟩)⟩)⟩)⟩)⟩)⟩)⟩)⟩)⟩)⟩)⟩)⟩)⟩)⟩)⟩)⟩)⟩)⟩)⟩)⟩)⟩)⟩)⟩)⟩)
 have E9_ := E_qa2.ext E2
 have F10_ := F_qa2_value.ext E2
 have F11_ := F_qa2_coder.ext E2
 have A12_ := A_qa3.ext E2
 have hcd13 : StrChars.Road.CodA ([] : List Int32) 0 (0 : Int32) [] := StrChars.Road.codOf (n := 0) rfl (fun x hx => (hp7 x hx).2)
 have hbd13 : ∀ x ∈ ([] : List Int32), ¬ x < 0 ∧ ¬ (65535 : Int32) < x := own_up _ hp7
 have hcd14 : StrChars.Road.CodA ([104, 116, 116, 112, 58, 47, 47, 117, 110, 105, 116, 115, 111, 102, 109, 101, 97, 115, 117, 114, 101, 46, 111, 114, 103] : List Int32) 0 (25 : Int32) [.int 104, .int 116, .int 116, .int 112, .int 58, .int 47, .int 47, .int 117, .int 110, .int 105, .int 116, .int 115, .int 111, .int 102, .int 109, .int 101, .int 97, .int 115, .int 117, .int 114, .int 101, .int 46, .int 111, .int 114, .int 103] := StrChars.Road.codOf (n := 25) rfl (fun x hx => (hp8 x hx).2)
 have hbd14 : ∀ x ∈ ([104, 116, 116, 112, 58, 47, 47, 117, 110, 105, 116, 115, 111, 102, 109, 101, 97, 115, 117, 114, 101, 46, 111, 114, 103] : List Int32), ¬ x < 0 ∧ ¬ (65535 : Int32) < x := own_up _ hp8
 have O15 := X00.ext E2
 obtain ⟨cq6, kq6, q6a, q6b, q6c⟩ := isOf hZ2 e2 E9_
 obtain ⟨_, T6, L6, X6, hQ6, st6⟩ := own_cb0 2 104 0 0 2 104 (X2.virtualBack hx (y := Y13_) (z := Y13_) ho2 (mvT hZ2 (w56_ hw)) (mvT hZ2 (w57_ hw)) (notFace_of_selects (args := #[]) (mvT hZ2 (w59_ hw))) (mvT hZ2 (w59_ hw)) (mvT hZ2 (w58_ hw)) (by decide) (StrChars.Road.eqW (s := s.setVm T2.vm) (W := 0) hZ2 (own_wq hw) (kI := 4) (w3_ hw) E9_ F10_ F11_ A12_ hcd13 hbd13 (lE rfl) Ex2 Fv2 Fc2 Av2 hcd14 hbd14 (lE rfl) (O2.ext O15.2) P5 (lE rfl) (lE rfl)) q6a q6c (g := (mkF m 6 #[rv qa1] [.ref b2, .ref qa2])) rfl hml.symm (Steps.refl _) (argsL := [.ref b2]) (rest := []) (lenOf pd11 rfl) rfl (own_hw rfl) (hb hby d12_6) (fun _ _ => ⟨rfl, e2, (lE rfl : 2 + 0 ≤ _), (lE rfl : 104 + 0 ≤ _)⟩)) rfl rfl
 dsimp only [Pt.U, Pt.locs, Pt.cells, Pt.slots] at hQ6
 obtain ⟨hv6, rfl, e6q⟩ := hQ6
 rcases hv6 with ⟨-, hq6⟩ | ⟨rfl, -⟩
 exact absurd hq6 ((fun q => absurd (congrArg List.length q) (show ¬ ((0 : Nat) = 25) by decide)) : ¬ (([] : List Int32) = ([104, 116, 116, 112, 58, 47, 47, 117, 110, 105, 116, 115, 111, 102, 109, 101, 97, 115, 117, 114, 101, 46, 111, 114, 103] : List Int32)))
 have N6 := Fr.app N0 (Fr.nil n0)
 refine own_lvW X6 Bd.notSynchronized hS2 hk2 (v := (some .null)) (fun h => by rw [Bd.returns] at h; cases h) e6q hh ⟨rfl, N6, K3⟩ (R5.trans (CHv.at X6 hZ2 hEL CR2.1)) (lE rfl) (lE rfl) (fun fs hr => pre0 _ (by
  show Sx p e below s₁ m 0 #[rv qa1] [] _
  refine zb X0 Bd d12_0 rfl rfl ?_
  refine st1 _ ?_
  refine st2 _ ?_
  refine st6.trans ?_
  refine zp (pc' := 19) X6 Bd d12_9 (XT.i0_eq_t ((by decide) : (0 : Int32) = (0 : Int32))) rfl ?_
  refine XS.aconstNull X6.here hx rfl (hb hby d12_19) ?_
  exact retOut X6 hx Bd.returns rfl (Or.inr (Or.inr (Or.inr (Or.inr ⟨rfl, rfl, rfl⟩)))) (hb hby d12_20) hr))
theorem d14_0 : decode jdk_42_method_139_code 0 = .ok (.getstatic 38, 3) := by decide +kernel
theorem d14_3 : decode jdk_42_method_139_code 3 = .ok (.ifCond .eq 23, 3) := by decide +kernel
theorem d14_6 : decode jdk_42_method_139_code 6 = .ok (.iload_n 0, 1) := by decide +kernel
theorem d14_7 : decode jdk_42_method_139_code 7 = .ok (.invokestatic 1015, 3) := by decide +kernel
theorem pn5 : plainName "java/lang/StringLatin1" = true := by first | (simp [plainName, overriddenIn]; done) | decide +kernel
theorem d15_0 : decode jdk_43_method_3_code 0 = .ok (.iload_n 0, 1) := by decide +kernel
theorem d15_1 : decode jdk_43_method_3_code 1 = .ok (.sipush 255, 3) := by decide +kernel
theorem d15_4 : decode jdk_43_method_3_code 4 = .ok (.if_icmp .gt 7, 3) := by decide +kernel
theorem d15_7 : decode jdk_43_method_3_code 7 = .ok (.iconst 1, 1) := by decide +kernel
theorem d15_8 : decode jdk_43_method_3_code 8 = .ok (.goto 4, 3) := by decide +kernel
theorem d15_12 : decode jdk_43_method_3_code 12 = .ok (.ireturn, 1) := by decide +kernel
-- java/lang/StringLatin1.canEncode(C)Z
def Q30 (Z : State)  (h0 : Heap) (n0 : Nat) (v : Option Value) (h : Heap) (L : List Loc) : Prop := v = some (.int 1) ∧ Fr n0 L ∧ h = h0
theorem rm30 (l : Launch) (Z : State) (a0 : Array Value) (hw : HW a0 Z) (qi1 : Int32) (h0 : Heap) (n0 : Nat) (X00 : Old Z n0 h0) (hc1 : ¬ ((255 : Int32) < qi1)) :
    MF l Z Y14_ jdk_43_method_3_code 1 (some .boolean) (Rm 0 0 0 0) #[.int qi1] h0 (Q30 Z  h0 n0) := by
 refine own_sF pn5 rfl (fun m => ef6 m qi1) ?_
 intro p e s m below meth c s₁ Bd hZ hh hx hby hml hown hnm X0 e0 pre0
 have N0 := Fr.nil n0
 refine own_lvF X0 Bd (.int 1) e0 ⟨rfl, N0, rfl⟩ rfl (fun fs hr => pre0 _ (by
  show Sx p e below s₁ m 0 #[iv qi1] [] _
  refine zj X0 Bd d15_0 rfl ?_
  refine XS.sipush X0.here hx rfl (hb hby d15_1) ?_
  refine zn X0 Bd d15_4 (XT.ii_gt_f (hc1 : ¬ ((255 : Int32) < qi1))) ?_
  refine zc X0 Bd d15_7 ?_
  refine zg (pc' := 12) X0 Bd d15_8 rfl ?_
  exact retN X0 hx (t := .boolean) Bd.returns (by simp) (hb hby d15_12) hr))
theorem pd13 : parseMethodDescriptor "(C)Z" = some ⟨[.char], some .boolean⟩ := by decide +kernel
theorem d14_10 : decode jdk_42_method_139_code 10 = .ok (.ifCond .eq 16, 3) := by decide +kernel
theorem d14_13 : decode jdk_42_method_139_code 13 = .ok (.new 10, 3) := by decide +kernel
theorem d14_16 : decode jdk_42_method_139_code 16 = .ok (.dup, 1) := by decide +kernel
theorem d14_17 : decode jdk_42_method_139_code 17 = .ok (.iload_n 0, 1) := by decide +kernel
theorem d14_18 : decode jdk_42_method_139_code 18 = .ok (.invokestatic 1018, 3) := by decide +kernel
theorem d16_0 : decode jdk_43_method_46_code 0 = .ok (.iconst 1, 1) := by decide +kernel
theorem d16_1 : decode jdk_43_method_46_code 1 = .ok (.newarray .byte, 2) := by decide +kernel
theorem d16_3 : decode jdk_43_method_46_code 3 = .ok (.dup, 1) := by decide +kernel
theorem d16_4 : decode jdk_43_method_46_code 4 = .ok (.iconst 0, 1) := by decide +kernel
theorem d16_5 : decode jdk_43_method_46_code 5 = .ok (.iload_n 0, 1) := by decide +kernel
theorem d16_6 : decode jdk_43_method_46_code 6 = .ok (.i2b, 1) := by decide +kernel
theorem d16_7 : decode jdk_43_method_46_code 7 = .ok (.bastore, 1) := by decide +kernel
theorem d16_8 : decode jdk_43_method_46_code 8 = .ok (.areturn, 1) := by decide +kernel
-- java/lang/StringLatin1.toBytes(C)[B
def Q31 (Z : State) (qi1 : Int32) (h0 : Heap) (n0 : Nat) (v : Option Value) (h : Heap) (L : List Loc) : Prop := ∃ b1 : Addr, ∃ c1 : ClassId, v = some (.ref b1) ∧ Fr n0 L ∧ Keep h0 h [] ∧ h0.size ≤ b1 ∧ Arv Z h b1 c1 .byte (1 : Int32) [(.int ((qi1).toInt8.toInt32))] (.int 0)
theorem rm31 (l : Launch) (Z : State) (a0 : Array Value) (hw : HW a0 Z) (qi1 : Int32) (h0 : Heap) (n0 : Nat) (X00 : Old Z n0 h0)  :
    MF l Z Y15_ jdk_43_method_46_code 1 (some (.array .byte)) (Rm 0 1 1 0) #[.int qi1] h0 (Q31 Z qi1 h0 n0) := by
 refine own_sF pn5 rfl (fun m => ef6 m qi1) ?_
 intro p e s m below meth c s₁ Bd hZ hh hx hby hml hown hnm X0 e0 pre0
 have N0 := Fr.nil n0
 obtain ⟨T1, h1, c1, X1, e1, E1, A1, st1⟩ := newP (aty := .byte) X0 hx hZ (w20_ hw) e0 (g := (mkF m 1 #[iv qi1] [.int 1])) rfl (hb hby d16_1) rfl (by decide) (cap := 1) (by decide) (lE rfl) (lE rfl) (lE rfl)
 obtain ⟨b1, g1⟩ : ∃ z, z = h0.size := ⟨_, rfl⟩
 rw [← g1] at A1 st1
 replace X1 : Stand p l e (Rm 0 1 1 0) s m #[.int qi1] below meth c T1 _ 1 1 := X1
 have K2 := (Keep.refl h0 []).ext E1
 have A3_ : Arv Z h1 b1 c1 .byte (1 : Int32) [.int 0] (.int 0) := (Arv.new A1 (by decide)).pad (pad_rep [] (.int 0) 1)
 have av4 := A3_
 obtain ⟨cl4, Ar4, q4, S4, N4, H4, Gf4⟩ := av4
 have hin5 : ¬ ((0 : Int32) < 0 ∨ cl4.slots.size ≤ ((0 : Int32) : Int32).toNatClampNeg) := inb_of S4 (by decide)
 obtain ⟨T5, h5, X5, e5, W5, st5⟩ := stB X1 hx hZ e1 Ar4 (j := (0 : Int32)) hin5 (g := (mkF m 7 #[iv qi1] [(.int ((qi1).toInt8.toInt32)), .int 0, .ref b1, .ref b1])) rfl rfl (hb hby d16_7)
 have g_b1 : n0 ≤ b1 := Nat.le_trans (Nat.le_trans (Nat.le_of_eq X00.1.symm) X00.2.1) (Nat.le_of_eq g1.symm)
 have N5_ := Fr.snoc X5 N0 g_b1
 have sz_b1 : h0.size ≤ b1 := (Nat.le_of_eq g1.symm)
 have K6 := K2.wr W5 (Or.inr sz_b1)
 have A7_ : Arv Z h5 b1 c1 .byte (1 : Int32) [(.int ((qi1).toInt8.toInt32))] (.int 0) := by have q := Arv.set (v := .int (nar .byte ((qi1).toInt8.toInt32))) Ar4 q4 S4 N4 H4 Gf4 (fits_nar_byte _) W5 0 (by decide) (lE rfl); rw [((own_nar_i2b _) : nar .byte ((qi1).toInt8.toInt32) = ((qi1).toInt8.toInt32))] at q; exact q
 refine own_lvF X5 Bd (.ref b1) e5 ⟨b1, c1, rfl, N5_, K6, sz_b1, A7_⟩ rfl (fun fs hr => pre0 _ (by
  show Sx p e below s₁ m 0 #[iv qi1] [] _
  refine zc X0 Bd d16_0 ?_
  refine st1 _ ?_
  refine XS.dup X1.here hx rfl (hb hby d16_3) rfl rfl ?_
  refine zc X1 Bd d16_4 ?_
  refine zj X1 Bd d16_5 rfl ?_
  refine XS.i2b X1.here hx rfl (hb hby d16_6) rfl ?_
  refine st5 _ ?_
  exact retOut X5 hx Bd.returns rfl (Or.inr (Or.inr (Or.inr (Or.inr ⟨rfl, rfl, rfl⟩)))) (hb hby d16_8) hr))
theorem pd14 : parseMethodDescriptor "(C)[B" = some ⟨[.char], some (.array .byte)⟩ := by decide +kernel
theorem d14_21 : decode jdk_42_method_139_code 21 = .ok (.iconst 0, 1) := by decide +kernel
theorem d14_22 : decode jdk_42_method_139_code 22 = .ok (.invokespecial 209, 3) := by decide +kernel
theorem ef12 (m : MethodId) (x0 : Addr) (x1 : Addr) (x2 : Int32) : entryFrame m #[.ref x0, .ref x1, .int x2] 3 = mkF m 0 #[.val (.ref x0), .val (.ref x1), .val (.int x2)] [] := by first | (simp [entryFrame, mkF, argsToLocals, Value.category]; done) | rfl
theorem d17_0 : decode jdk_42_method_151_code 0 = .ok (.aload_n 0, 1) := by decide +kernel
theorem d17_1 : decode jdk_42_method_151_code 1 = .ok (.invokespecial 1, 3) := by decide +kernel
theorem d17_4 : decode jdk_42_method_151_code 4 = .ok (.aload_n 0, 1) := by decide +kernel
theorem d17_5 : decode jdk_42_method_151_code 5 = .ok (.aload_n 1, 1) := by decide +kernel
theorem d17_6 : decode jdk_42_method_151_code 6 = .ok (.putfield 9, 3) := by decide +kernel
theorem d17_9 : decode jdk_42_method_151_code 9 = .ok (.aload_n 0, 1) := by decide +kernel
theorem d17_10 : decode jdk_42_method_151_code 10 = .ok (.iload_n 2, 1) := by decide +kernel
theorem d17_11 : decode jdk_42_method_151_code 11 = .ok (.putfield 15, 3) := by decide +kernel
theorem d17_14 : decode jdk_42_method_151_code 14 = .ok (.return_, 1) := by decide +kernel
-- java/lang/String.<init>([BB)V
def Q32 (Z : State) (qa1 : Addr) (qa2 : Addr) (h0 : Heap) (n0 : Nat) (v : Option Value) (h : Heap) (L : List Loc) : Prop := v = none ∧ Fr n0 L ∧ Keep h0 h [qa1] ∧ Exa Z h qa1 "java/lang/String" ∧ Fld Z h qa1 "java/lang/String" "value" "[B" (.ref qa2) ∧ Fld Z h qa1 "java/lang/String" "coder" "B" (.int 0)
theorem rm32 (l : Launch) (Z : State) (a0 : Array Value) (hw : HW a0 Z) (qa1 : Addr) (qa2 : Addr) (h0 : Heap) (n0 : Nat) (X00 : Old Z n0 h0) (E_qa1 : Exa Z h0 qa1 "java/lang/String") (F_qa1_value : Fld Z h0 qa1 "java/lang/String" "value" "[B" .null) (g_qa1 : n0 ≤ qa1) (F_qa1_coder : Fld Z h0 qa1 "java/lang/String" "coder" "B" (.int 0)) :
    MF l Z Y16_ jdk_42_method_151_code 3 none (Rm 1 0 0 12) #[.ref qa1, .ref qa2, .int 0] h0 (Q32 Z qa1 qa2 h0 n0) := by
 refine own_sF pn1 rfl (fun m => ef12 m qa1 qa2 (0 : Int32)) ?_
 intro p e s m below meth c s₁ Bd hZ hh hx hby hml hown hnm X0 e0 pre0
 have N0 := Fr.nil n0
 obtain ⟨T1, X1, e1, st1⟩ := initO X0 hx hZ hown (w12_ hw) (w13_ hw) (w14_ hw) e0 (g := (mkF m 1 #[rv qa1, rv qa2, iv 0] [.ref qa1])) rfl hml.symm rfl (hb hby d17_1) (by decide) (W := 0) (own_hw rfl) (lE rfl)
 obtain ⟨T2, h2, X2, e2, W2, st2⟩ := putF X1 hx hZ hown (host := "") (Or.inl (w29_ hw)) Via.refl e1 F_qa1_value E_qa1 (Or.inr ⟨(w30_ hw), rfl, hnm⟩) (w3_ hw) (ty := (.array .byte)) (by decide) rfl rfl (g := (mkF m 6 #[rv qa1, rv qa2, iv 0] [.ref qa2, .ref qa1])) rfl rfl (hb hby d17_6)
 have N2 := Fr.snoc X2 N0 g_qa1
 have K3 := (Keep.refl h0 [qa1]).wr W2 (Or.inl (mI 0 rfl))
 have F4_ : Fld Z h2 qa1 "java/lang/String" "value" "[B" (.ref qa2) := F_qa1_value.same W2
 have F5_ := F_qa1_coder.other W2 (Or.inr (slot_ne (Or.inr (w28_ hw)) (Or.inr (w30_ hw)) (by decide) (t := .byte) (t' := (.array .byte)) (by decide) (by decide)))
 have E6_ := E_qa1.wr W2
 obtain ⟨T7, h7, X7, e7, W7, st7⟩ := putF X2 hx hZ hown (host := "") (Or.inl (w27_ hw)) Via.refl e2 F5_ E6_ (Or.inr ⟨(w28_ hw), rfl, hnm⟩) (w3_ hw) (ty := .byte) (by decide) rfl rfl (g := (mkF m 11 #[rv qa1, rv qa2, iv 0] [.int 0, .ref qa1])) rfl rfl (hb hby d17_11)
 have N7 := Fr.snoc X7 N2 g_qa1
 have K8 := K3.wr W7 (Or.inl (mI 0 rfl))
 have F9_ : Fld Z h7 qa1 "java/lang/String" "coder" "B" (.int 0) := F5_.same W7
 have E10_ := E6_.wr W7
 have F11_ := F4_.other W7 (Or.inr (slot_ne (Or.inr (w30_ hw)) (Or.inr (w28_ hw)) (by decide) (t := (.array .byte)) (t' := .byte) (by decide) (by decide)))
 refine own_lvN X7 Bd e7 ⟨rfl, N7, K8, E10_, F11_, F9_⟩ rfl (fun fs hr => pre0 _ (by
  show Sx p e below s₁ m 0 #[rv qa1, rv qa2, iv 0] [] _
  refine zb X0 Bd d17_0 rfl rfl ?_
  refine st1 _ ?_
  refine zb X1 Bd d17_4 rfl rfl ?_
  refine zb X1 Bd d17_5 rfl rfl ?_
  refine st2 _ ?_
  refine zb X2 Bd d17_9 rfl rfl ?_
  refine zj X2 Bd d17_10 rfl ?_
  refine st7 _ ?_
  exact X7.returnOut hx Bd.returns (hb hby d17_14) hr))
theorem pd15 : parseMethodDescriptor "([BB)V" = some ⟨[(.array .byte), .byte], none⟩ := by decide +kernel
theorem d14_25 : decode jdk_42_method_139_code 25 = .ok (.areturn, 1) := by decide +kernel
-- java/lang/String.valueOf(C)Ljava/lang/String;
def Q33 (Z : State) (qi1 : Int32) (h0 : Heap) (n0 : Nat) (v : Option Value) (h : Heap) (L : List Loc) : Prop := ∃ b4 : Addr, ∃ b10 : Addr, ∃ c11_ : ClassId, v = some (.ref b4) ∧ Fr n0 L ∧ Keep h0 h [] ∧ h0.size ≤ b4 ∧ h0.size ≤ b10 ∧ b4 ≠ b10 ∧ Exa Z h b4 "java/lang/String" ∧ Fld Z h b4 "java/lang/String" "value" "[B" (.ref b10) ∧ Fld Z h b4 "java/lang/String" "coder" "B" (.int 0) ∧ Arv Z h b10 c11_ .byte (1 : Int32) [(.int ((qi1).toInt8.toInt32))] (.int 0)
theorem rm33 (l : Launch) (Z : State) (a0 : Array Value) (hw : HW a0 Z) (G1 : Int32) (qi1 : Int32) (h0 : Heap) (n0 : Nat) (X00 : Old Z n0 h0) (O2 : Sta Z Z.heap "java/lang/String" "COMPACT_STRINGS" "Z" (.int G1)) (P5 : ¬ (G1 = (0 : Int32))) (hc3 : ¬ ((255 : Int32) < qi1)) :
    MF l Z Y17_ jdk_42_method_139_code 1 (some (.object "java/lang/String")) (Rm 2 2 5 27) #[.int qi1] h0 (Q33 Z qi1 h0 n0) := by
 refine own_sF pn1 rfl (fun m => ef6 m qi1) ?_
 intro p e s m below meth c s₁ Bd hZ hh hx hby hml hown hnm X0 e0 pre0
 have N0 := Fr.nil n0
 obtain ⟨T1, X1, e1, st1⟩ := getS2 X0 hx hZ hown (host := "") (Or.inl (w15_ hw)) Via.refl e0 (O2.ext X00.2) (g := (mkF m 0 #[iv qi1] [])) rfl (hb hby d14_0)
 obtain ⟨_, T2, L2, X2, hQ2, st2⟩ := own_cS 0 0 [] 7 #[iv qi1] X1 hx hZ hown (w92_ hw) (w93_ hw) (w66_ hw) (w94_ hw) (rm30 l Z a0 hw  qi1 h0 n0 X00 hc3) pd13 hml.symm (hb hby d14_7) e1 rfl rfl rfl rfl (by decide)
 obtain ⟨rfl, N2q, e2q⟩ := hQ2
 have N2 := Fr.app N0 N2q
 obtain ⟨T4, h4, X4, e4, E4, A4, D4, -, st4⟩ := newO X2 hx hZ hown (w63_ hw) (w3_ hw) (w4_ hw) e2q (g := (mkF m 13 #[iv qi1] [])) rfl (hb hby d14_13) (lE rfl) (lE rfl)
 obtain ⟨b4, g4⟩ : ∃ z, z = h0.size := ⟨_, rfl⟩
 rw [← g4] at A4 D4 st4
 replace X4 : Stand p l e (Rm 2 2 5 27) s m #[.int qi1] below meth c T4 _ 1 4 := X4
 have K5 := (Keep.refl h0 []).ext E4
 have F6_ : Fld Z h4 b4 "java/lang/String" "coder" "B" (.int 0) := D4 (Or.inr (w28_ hw)) (ty := .byte) (by decide)
 have F7_ : Fld Z h4 b4 "java/lang/String" "value" "[B" .null := D4 (Or.inr (w30_ hw)) (ty := (.array .byte)) (by decide)
 have O9 := X00.ext E4
 obtain ⟨_, T8, L8, X8, hQ8, st8⟩ := own_cS 2 5 [.ref b4, .ref b4] 18 #[iv qi1] X4 hx hZ hown (w95_ hw) (w96_ hw) (w66_ hw) (w97_ hw) (rm31 l Z a0 hw  qi1 h4 n0 O9 ) pd14 hml.symm (hb hby d14_18) e4 rfl rfl rfl rfl (by decide)
 obtain ⟨b10, c11_, rfl, N8q, K8q, w12, w13⟩ := hQ8
 have N8 := Fr.app N2 N8q
 have K14 := K5.trans K8q (fun x q => nomatch q)
 have E16_ := A4.keep K8q
 have F17_ := F7_.keep K8q nin0
 have g_b4 : n0 ≤ b4 := Nat.le_trans (Nat.le_trans (Nat.le_of_eq X00.1.symm) X00.2.1) (Nat.le_of_eq g4.symm)
 have F18_ := F6_.keep K8q nin0
 have O19 := O9.keep K8q all0
 obtain ⟨_, T15, L15, X15, hQ15, st15⟩ := own_cI 2 5 [.ref b4] 22 #[iv qi1] X8 hx hZ hown (w98_ hw) (w99_ hw) (w4_ hw) (w100_ hw) (rm32 l Z a0 hw  b4 b10 T8.heap n0 O19 E16_ F17_ g_b4 F18_) pd15 hml.symm (hb hby d14_22) rfl rfl rfl rfl rfl rfl (by decide)
 obtain ⟨rfl, N15q, K15q, w20, w21, w22⟩ := hQ15
 have N15 := Fr.app N8 N15q
 have sz_b4 : h0.size ≤ b4 := (Nat.le_of_eq g4.symm)
 have K23 := K14.trans K15q (allS (Or.inr sz_b4) all0)
 have sz_b10 : h0.size ≤ b10 := Nat.le_trans K5.1 w12
 have E24_ := E16_.keep K15q
 have A25_ := w13.keep K15q (ninS (Ne.symm (Nat.ne_of_lt (Nat.lt_of_lt_of_le A4.lt w12))) nin0)
 refine own_lvF X15 Bd (.ref b4) rfl ⟨b4, b10, c11_, rfl, N15, K23, sz_b4, sz_b10, (Nat.ne_of_lt (Nat.lt_of_lt_of_le A4.lt w12)), E24_, w21, w22, A25_⟩ rfl (fun fs hr => pre0 _ (by
  show Sx p e below s₁ m 0 #[iv qi1] [] _
  refine st1 _ ?_
  refine zo X1 Bd d14_3 (XT.i0_eq_f (P5 : ¬ (G1 = (0 : Int32)))) ?_
  refine zj X1 Bd d14_6 rfl ?_
  refine st2 _ ?_
  refine zo X2 Bd d14_10 (XT.i0_eq_f ((by decide) : ¬ ((1 : Int32) = (0 : Int32)))) ?_
  refine st4 _ ?_
  refine XS.dup X4.here hx rfl (hb hby d14_16) rfl rfl ?_
  refine zj X4 Bd d14_17 rfl ?_
  refine st8 _ ?_
  refine zc X8 Bd d14_21 ?_
  refine st15 _ ?_
  exact retOut X15 hx Bd.returns rfl (Or.inr (Or.inr (Or.inr (Or.inr ⟨rfl, rfl, rfl⟩)))) (hb hby d14_25) hr))
theorem pd16 : parseMethodDescriptor "(C)Ljava/lang/String;" = some ⟨[.char], some (.object "java/lang/String")⟩ := by decide +kernel
-- com/example/hearthline/hearthline/mapping/Unit.text()Ljava/lang/String;
def Q34 (Z : State)  (h0 : Heap) (n0 : Nat) (v : Option Value) (h : Heap) (L : List Loc) : Prop := v = some .null ∧ Fr n0 L ∧ Keep h0 h []
theorem rm34 (l : Launch) (Z : State) (a0 : Array Value) (hw : HW a0 Z) (G1 : Int32) (qa1 : Addr) (qa2 : Addr) (qa3 : Addr) (qi4 : Int32) (qk5 : ClassId) (h0 : Heap) (n0 : Nat) (X00 : Old Z n0 h0) (O2 : Sta Z Z.heap "java/lang/String" "COMPACT_STRINGS" "Z" (.int G1)) (P5 : ¬ (G1 = (0 : Int32))) (F_qa1_system : Fld Z h0 qa1 "com/example/hearthline/hearthline/mapping/Unit" "system" "Ljava/lang/String;" (.ref qa2)) (E_qa2 : Exa Z h0 qa2 "java/lang/String") (F_qa2_value : Fld Z h0 qa2 "java/lang/String" "value" "[B" (.ref qa3)) (hp_qa2 : ∀ c ∈ ([qi4] : List Int32), ¬ c < 0 ∧ ¬ (255 : Int32) < c) (F_qa2_coder : Fld Z h0 qa2 "java/lang/String" "coder" "B" (.int 0)) (A_qa3 : Arv Z h0 qa3 qk5 .byte (1 : Int32) ((([qi4] : List Int32).map (fun c => c.toInt8.toInt32)).map Value.int) (.int 0)) :
    MW l Z consts_1 Y12_ prog_10_method_2_code 1 (some (.object "java/lang/String")) (Rm 2 2 104 28) #[.ref qa1] h0 (Q34 Z  h0 n0) := by
 refine own_sW pn3 rfl (fun m => ef10 m qa1) ?_
 intro p e s m below meth c s₁ Bd hZ hh hx hby hml hown hnm X0 e0 pre0 hC0 hS0 hk0 hR0
 have N0 := Fr.nil n0
 have hEL := own_EW hw
 have hwS := own_wS hw
 obtain ⟨T1, X1, e1, st1⟩ := getF X0 hx hZ hown (host := "") (Or.inl (w46_ hw)) Via.refl e0 F_qa1_system (g := (mkF m 1 #[rv qa1] [.ref qa1])) rfl rfl (hb hby d12_1)
 obtain ⟨b2, T2, h2, k2, t2, c2, X2, e2, E2, hS2, hk2, hZ2, ho2, Ex2, Fc2, Fv2, Av2, lb2, lt2, CR2, -, sf2, st2⟩ := ldcCH (text := "http://unitsofmeasure.org") (EL := consts_1) X1 hx hZ hown (w55_ hw) hwS e1 hS0 hk0 hEL (by decide) hC0 (vs := [.int 104, .int 116, .int 116, .int 112, .int 58, .int 47, .int 47, .int 117, .int 110, .int 105, .int 116, .int 115, .int 111, .int 102, .int 109, .int 101, .int 97, .int 115, .int 117, .int 114, .int 101, .int 46, .int 111, .int 114, .int 103]) (z := (25 : Int32)) ⟨by decide, by decide⟩ (by decide) (by decide) (g := (mkF m 4 #[rv qa1] [.ref qa2])) rfl (hb hby d12_4) (n := 100) (by decide) (lE rfl) (lE rfl) (lE rfl)
 have K3 := (Keep.refl h0 []).ext E2
 have R5 := hR0.trans CR2
 replace X2 : Stand p l e (Rm 2 2 104 28) (s.setVm T2.vm) m #[.ref qa1] below meth c T2 _ 2 104 := X2
 have hp7 : ∀ c ∈ ([104, 116, 116, 112, 58, 47, 47, 117, 110, 105, 116, 115, 111, 102, 109, 101, 97, 115, 117, 114, 101, 46, 111, 114, 103] : List Int32), ¬ c < 0 ∧ ¬ (255 : Int32) < c := (List.forall_mem_cons.mpr ⟨(by decide), (List.forall_mem_cons.mpr ⟨(by decide), (List.forall_mem_cons.mpr ⟨(by decide), (List.forall_mem_cons.mpr ⟨(by decide), (List.forall_mem_cons.mpr ⟨(by decide), (List.forall_mem_cons.mpr ⟨(by decide), (List.forall_mem_cons.mpr ⟨(by decide), (List.forall_mem_cons.mpr ⟨(by decide), (List.forall_mem_cons.mpr ⟨(by decide), (List.forall_mem_cons.mpr ⟨(by decide), (List.forall_mem_cons.mpr ⟨(by decide), (List.forall_mem_cons.mpr ⟨(by decide), (List.forall_mem_cons.mpr ⟨(by decide), (List.forall_mem_cons.mpr ⟨(by decide), (List.forall_mem_cons.mpr ⟨(by decide), (List.forall_mem_cons.mpr ⟨(by decide), (List.forall_mem_cons.mpr ⟨(by decide), (List.forall_mem_cons.mpr ⟨(by decide), (List.forall_mem_cons.mpr ⟨(by decide), (List.forall_mem_cons.mpr ⟨(by decide), (List.forall_mem_cons.mpr ⟨(by decide), (List.forall_mem_cons.mpr ⟨(by decide), (List.forall_mem_cons.mpr ⟨(by decide), (List.forall_mem_cons.mpr ⟨(by decide), (List.forall_mem_cons.mpr ⟨(by decide), (fun _ q => nomatch q)⟩)⟩)⟩)⟩)⟩)⟩)⟩)⟩)⟩)⟩)⟩)⟩)⟩)⟩)⟩)⟩)⟩)⟩)⟩)⟩)⟩)⟩)⟩)⟩)⟩)
 have E8_ := E_qa2.ext E2
 have F9_ := F_qa2_value.ext E2
 have F10_ := F_qa2_coder.ext E2
 have A11_ := A_qa3.ext E2
 have hcd12 : StrChars.Road.CodA ([qi4] : List Int32) 0 (1 : Int32) ((([qi4] : List Int32).map (fun c => c.toInt8.toInt32)).map Value.int) := StrChars.Road.codOf (n := 1) rfl (fun x hx => (hp_qa2 x hx).2)
 have hbd12 : ∀ x ∈ ([qi4] : List Int32), ¬ x < 0 ∧ ¬ (65535 : Int32) < x := own_up _ hp_qa2
 have hcd13 : StrChars.Road.CodA ([104, 116, 116, 112, 58, 47, 47, 117, 110, 105, 116, 115, 111, 102, 109, 101, 97, 115, 117, 114, 101, 46, 111, 114, 103] : List Int32) 0 (25 : Int32) [.int 104, .int 116, .int 116, .int 112, .int 58, .int 47, .int 47, .int 117, .int 110, .int 105, .int 116, .int 115, .int 111, .int 102, .int 109, .int 101, .int 97, .int 115, .int 117, .int 114, .int 101, .int 46, .int 111, .int 114, .int 103] := StrChars.Road.codOf (n := 25) rfl (fun x hx => (hp7 x hx).2)
 have hbd13 : ∀ x ∈ ([104, 116, 116, 112, 58, 47, 47, 117, 110, 105, 116, 115, 111, 102, 109, 101, 97, 115, 117, 114, 101, 46, 111, 114, 103] : List Int32), ¬ x < 0 ∧ ¬ (65535 : Int32) < x := own_up _ hp7
 have O14 := X00.ext E2
 obtain ⟨cq6, kq6, q6a, q6b, q6c⟩ := isOf hZ2 e2 E8_
 obtain ⟨_, T6, L6, X6, hQ6, st6⟩ := own_cb0 2 104 0 0 2 104 (X2.virtualBack hx (y := Y13_) (z := Y13_) ho2 (mvT hZ2 (w56_ hw)) (mvT hZ2 (w57_ hw)) (notFace_of_selects (args := #[]) (mvT hZ2 (w59_ hw))) (mvT hZ2 (w59_ hw)) (mvT hZ2 (w58_ hw)) (by decide) (StrChars.Road.eqW (s := s.setVm T2.vm) (W := 0) hZ2 (own_wq hw) (kI := 4) (w3_ hw) E8_ F9_ F10_ A11_ hcd12 hbd12 (lE rfl) Ex2 Fv2 Fc2 Av2 hcd13 hbd13 (lE rfl) (O2.ext O14.2) P5 (lE rfl) (lE rfl)) q6a q6c (g := (mkF m 6 #[rv qa1] [.ref b2, .ref qa2])) rfl hml.symm (Steps.refl _) (argsL := [.ref b2]) (rest := []) (lenOf pd11 rfl) rfl (own_hw rfl) (hb hby d12_6) (fun _ _ => ⟨rfl, e2, (lE rfl : 2 + 0 ≤ _), (lE rfl : 104 + 0 ≤ _)⟩)) rfl rfl
 dsimp only [Pt.U, Pt.locs, Pt.cells, Pt.slots] at hQ6
 obtain ⟨hv6, rfl, e6q⟩ := hQ6
 rcases hv6 with ⟨-, hq6⟩ | ⟨rfl, -⟩
 exact absurd hq6 ((fun q => absurd (congrArg List.length q) (show ¬ ((1 : Nat) = 25) by decide)) : ¬ (([qi4] : List Int32) = ([104, 116, 116, 112, 58, 47, 47, 117, 110, 105, 116, 115, 111, 102, 109, 101, 97, 115, 117, 114, 101, 46, 111, 114, 103] : List Int32)))
 have N6 := Fr.app N0 (Fr.nil n0)
 refine own_lvW X6 Bd.notSynchronized hS2 hk2 (v := (some .null)) (fun h => by rw [Bd.returns] at h; cases h) e6q hh ⟨rfl, N6, K3⟩ (R5.trans (CHv.at X6 hZ2 hEL CR2.1)) (lE rfl) (lE rfl) (fun fs hr => pre0 _ (by
  show Sx p e below s₁ m 0 #[rv qa1] [] _
  refine zb X0 Bd d12_0 rfl rfl ?_
  refine st1 _ ?_
  refine st2 _ ?_
  refine st6.trans ?_
  refine zp (pc' := 19) X6 Bd d12_9 (XT.i0_eq_t ((by decide) : (0 : Int32) = (0 : Int32))) rfl ?_
  refine XS.aconstNull X6.here hx rfl (hb hby d12_19) ?_
  exact retOut X6 hx Bd.returns rfl (Or.inr (Or.inr (Or.inr (Or.inr ⟨rfl, rfl, rfl⟩)))) (hb hby d12_20) hr))
-- com/example/hearthline/hearthline/mapping/Unit.text()Ljava/lang/String;
def Q35 (Z : State)  (h0 : Heap) (n0 : Nat) (v : Option Value) (h : Heap) (L : List Loc) : Prop := v = some .null ∧ Fr n0 L ∧ Keep h0 h []
theorem rm35 (l : Launch) (Z : State) (a0 : Array Value) (hw : HW a0 Z) (G1 : Int32) (qa1 : Addr) (qa2 : Addr) (qa3 : Addr) (qi4 : Int32) (qi5 : Int32) (qk6 : ClassId) (h0 : Heap) (n0 : Nat) (X00 : Old Z n0 h0) (O2 : Sta Z Z.heap "java/lang/String" "COMPACT_STRINGS" "Z" (.int G1)) (P5 : ¬ (G1 = (0 : Int32))) (F_qa1_system : Fld Z h0 qa1 "com/example/hearthline/hearthline/mapping/Unit" "system" "Ljava/lang/String;" (.ref qa2)) (E_qa2 : Exa Z h0 qa2 "java/lang/String") (F_qa2_value : Fld Z h0 qa2 "java/lang/String" "value" "[B" (.ref qa3)) (hp_qa2 : ∀ c ∈ ([qi4, qi5] : List Int32), ¬ c < 0 ∧ ¬ (255 : Int32) < c) (F_qa2_coder : Fld Z h0 qa2 "java/lang/String" "coder" "B" (.int 0)) (A_qa3 : Arv Z h0 qa3 qk6 .byte (2 : Int32) ((([qi4, qi5] : List Int32).map (fun c => c.toInt8.toInt32)).map Value.int) (.int 0)) :
    MW l Z consts_1 Y12_ prog_10_method_2_code 1 (some (.object "java/lang/String")) (Rm 2 2 104 28) #[.ref qa1] h0 (Q35 Z  h0 n0) := by
 refine own_sW pn3 rfl (fun m => ef10 m qa1) ?_
 intro p e s m below meth c s₁ Bd hZ hh hx hby hml hown hnm X0 e0 pre0 hC0 hS0 hk0 hR0
 have N0 := Fr.nil n0
 have hEL := own_EW hw
 have hwS := own_wS hw
 obtain ⟨T1, X1, e1, st1⟩ := getF X0 hx hZ hown (host := "") (Or.inl (w46_ hw)) Via.refl e0 F_qa1_system (g := (mkF m 1 #[rv qa1] [.ref qa1])) rfl rfl (hb hby d12_1)
 obtain ⟨b2, T2, h2, k2, t2, c2, X2, e2, E2, hS2, hk2, hZ2, ho2, Ex2, Fc2, Fv2, Av2, lb2, lt2, CR2, -, sf2, st2⟩ := ldcCH (text := "http://unitsofmeasure.org") (EL := consts_1) X1 hx hZ hown (w55_ hw) hwS e1 hS0 hk0 hEL (by decide) hC0 (vs := [.int 104, .int 116, .int 116, .int 112, .int 58, .int 47, .int 47, .int 117, .int 110, .int 105, .int 116, .int 115, .int 111, .int 102, .int 109, .int 101, .int 97, .int 115, .int 117, .int 114, .int 101, .int 46, .int 111, .int 114, .int 103]) (z := (25 : Int32)) ⟨by decide, by decide⟩ (by decide) (by decide) (g := (mkF m 4 #[rv qa1] [.ref qa2])) rfl (hb hby d12_4) (n := 100) (by decide) (lE rfl) (lE rfl) (lE rfl)
 have K3 := (Keep.refl h0 []).ext E2
 have R5 := hR0.trans CR2
 replace X2 : Stand p l e (Rm 2 2 104 28) (s.setVm T2.vm) m #[.ref qa1] below meth c T2 _ 2 104 := X2
 have hp7 : ∀ c ∈ ([104, 116, 116, 112, 58, 47, 47, 117, 110, 105, 116, 115, 111, 102, 109, 101, 97, 115, 117, 114, 101, 46, 111, 114, 103] : List Int32), ¬ c < 0 ∧ ¬ (255 : Int32) < c := (List.forall_mem_cons.mpr ⟨(by decide), (List.forall_mem_cons.mpr ⟨(by decide), (List.forall_mem_cons.mpr ⟨(by decide), (List.forall_mem_cons.mpr ⟨(by decide), (List.forall_mem_cons.mpr ⟨(by decide), (List.forall_mem_cons.mpr ⟨(by decide), (List.forall_mem_cons.mpr ⟨(by decide), (List.forall_mem_cons.mpr ⟨(by decide), (List.forall_mem_cons.mpr ⟨(by decide), (List.forall_mem_cons.mpr ⟨(by decide), (List.forall_mem_cons.mpr ⟨(by decide), (List.forall_mem_cons.mpr ⟨(by decide), (List.forall_mem_cons.mpr ⟨(by decide), (List.forall_mem_cons.mpr ⟨(by decide), (List.forall_mem_cons.mpr ⟨(by decide), (List.forall_mem_cons.mpr ⟨(by decide), (List.forall_mem_cons.mpr ⟨(by decide), (List.forall_mem_cons.mpr ⟨(by decide), (List.forall_mem_cons.mpr ⟨(by decide), (List.forall_mem_cons.mpr ⟨(by decide), (List.forall_mem_cons.mpr ⟨(by decide), (List.forall_mem_cons.mpr ⟨(by decide), (List.forall_mem_cons.mpr ⟨(by decide), (List.forall_mem_cons.mpr ⟨(by decide), (List.forall_mem_cons.mpr ⟨(by decide), (fun _ q => nomatch q)⟩)⟩)⟩)⟩)⟩)⟩)⟩)⟩)⟩)⟩)⟩)⟩)⟩)⟩)⟩)⟩)⟩)⟩)⟩)⟩)⟩)⟩)⟩)⟩)⟩)
 have E8_ := E_qa2.ext E2
 have F9_ := F_qa2_value.ext E2
 have F10_ := F_qa2_coder.ext E2
 have A11_ := A_qa3.ext E2
 have hcd12 : StrChars.Road.CodA ([qi4, qi5] : List Int32) 0 (2 : Int32) ((([qi4, qi5] : List Int32).map (fun c => c.toInt8.toInt32)).map Value.int) := StrChars.Road.codOf (n := 2) rfl (fun x hx => (hp_qa2 x hx).2)
 have hbd12 : ∀ x ∈ ([qi4, qi5] : List Int32), ¬ x < 0 ∧ ¬ (65535 : Int32) < x := own_up _ hp_qa2
 have hcd13 : StrChars.Road.CodA ([104, 116, 116, 112, 58, 47, 47, 117, 110, 105, 116, 115, 111, 102, 109, 101, 97, 115, 117, 114, 101, 46, 111, 114, 103] : List Int32) 0 (25 : Int32) [.int 104, .int 116, .int 116, .int 112, .int 58, .int 47, .int 47, .int 117, .int 110, .int 105, .int 116, .int 115, .int 111, .int 102, .int 109, .int 101, .int 97, .int 115, .int 117, .int 114, .int 101, .int 46, .int 111, .int 114, .int 103] := StrChars.Road.codOf (n := 25) rfl (fun x hx => (hp7 x hx).2)
 have hbd13 : ∀ x ∈ ([104, 116, 116, 112, 58, 47, 47, 117, 110, 105, 116, 115, 111, 102, 109, 101, 97, 115, 117, 114, 101, 46, 111, 114, 103] : List Int32), ¬ x < 0 ∧ ¬ (65535 : Int32) < x := own_up _ hp7
 have O14 := X00.ext E2
 obtain ⟨cq6, kq6, q6a, q6b, q6c⟩ := isOf hZ2 e2 E8_
 obtain ⟨_, T6, L6, X6, hQ6, st6⟩ := own_cb0 2 104 0 0 2 104 (X2.virtualBack hx (y := Y13_) (z := Y13_) ho2 (mvT hZ2 (w56_ hw)) (mvT hZ2 (w57_ hw)) (notFace_of_selects (args := #[]) (mvT hZ2 (w59_ hw))) (mvT hZ2 (w59_ hw)) (mvT hZ2 (w58_ hw)) (by decide) (StrChars.Road.eqW (s := s.setVm T2.vm) (W := 0) hZ2 (own_wq hw) (kI := 4) (w3_ hw) E8_ F9_ F10_ A11_ hcd12 hbd12 (lE rfl) Ex2 Fv2 Fc2 Av2 hcd13 hbd13 (lE rfl) (O2.ext O14.2) P5 (lE rfl) (lE rfl)) q6a q6c (g := (mkF m 6 #[rv qa1] [.ref b2, .ref qa2])) rfl hml.symm (Steps.refl _) (argsL := [.ref b2]) (rest := []) (lenOf pd11 rfl) rfl (own_hw rfl) (hb hby d12_6) (fun _ _ => ⟨rfl, e2, (lE rfl : 2 + 0 ≤ _), (lE rfl : 104 + 0 ≤ _)⟩)) rfl rfl
 dsimp only [Pt.U, Pt.locs, Pt.cells, Pt.slots] at hQ6
 obtain ⟨hv6, rfl, e6q⟩ := hQ6
 rcases hv6 with ⟨-, hq6⟩ | ⟨rfl, -⟩
 exact absurd hq6 ((fun q => absurd (congrArg List.length q) (show ¬ ((2 : Nat) = 25) by decide)) : ¬ (([qi4, qi5] : List Int32) = ([104, 116, 116, 112, 58, 47, 47, 117, 110, 105, 116, 115, 111, 102, 109, 101, 97, 115, 117, 114, 101, 46, 111, 114, 103] : List Int32)))
 have N6 := Fr.app N0 (Fr.nil n0)
 refine own_lvW X6 Bd.notSynchronized hS2 hk2 (v := (some .null)) (fun h => by rw [Bd.returns] at h; cases h) e6q hh ⟨rfl, N6, K3⟩ (R5.trans (CHv.at X6 hZ2 hEL CR2.1)) (lE rfl) (lE rfl) (fun fs hr => pre0 _ (by
  show Sx p e below s₁ m 0 #[rv qa1] [] _
  refine zb X0 Bd d12_0 rfl rfl ?_
  refine st1 _ ?_
  refine st2 _ ?_
  refine st6.trans ?_
  refine zp (pc' := 19) X6 Bd d12_9 (XT.i0_eq_t ((by decide) : (0 : Int32) = (0 : Int32))) rfl ?_
  refine XS.aconstNull X6.here hx rfl (hb hby d12_19) ?_
  exact retOut X6 hx Bd.returns rfl (Or.inr (Or.inr (Or.inr (Or.inr ⟨rfl, rfl, rfl⟩)))) (hb hby d12_20) hr))
-- com/example/hearthline/hearthline/mapping/Unit.text()Ljava/lang/String;
def Q36 (Z : State)  (h0 : Heap) (n0 : Nat) (v : Option Value) (h : Heap) (L : List Loc) : Prop := v = some .null ∧ Fr n0 L ∧ Keep h0 h []
theorem rm36 (l : Launch) (Z : State) (a0 : Array Value) (hw : HW a0 Z) (G1 : Int32) (qa1 : Addr) (qa2 : Addr) (qa3 : Addr) (qi4 : Int32) (qi5 : Int32) (qi6 : Int32) (qk7 : ClassId) (h0 : Heap) (n0 : Nat) (X00 : Old Z n0 h0) (O2 : Sta Z Z.heap "java/lang/String" "COMPACT_STRINGS" "Z" (.int G1)) (P5 : ¬ (G1 = (0 : Int32))) (F_qa1_system : Fld Z h0 qa1 "com/example/hearthline/hearthline/mapping/Unit" "system" "Ljava/lang/String;" (.ref qa2)) (E_qa2 : Exa Z h0 qa2 "java/lang/String") (F_qa2_value : Fld Z h0 qa2 "java/lang/String" "value" "[B" (.ref qa3)) (hp_qa2 : ∀ c ∈ ([qi4, qi5, qi6] : List Int32), ¬ c < 0 ∧ ¬ (255 : Int32) < c) (F_qa2_coder : Fld Z h0 qa2 "java/lang/String" "coder" "B" (.int 0)) (A_qa3 : Arv Z h0 qa3 qk7 .byte (3 : Int32) ((([qi4, qi5, qi6] : List Int32).map (fun c => c.toInt8.toInt32)).map Value.int) (.int 0)) :
    MW l Z consts_1 Y12_ prog_10_method_2_code 1 (some (.object "java/lang/String")) (Rm 2 2 104 28) #[.ref qa1] h0 (Q36 Z  h0 n0) := by
 refine own_sW pn3 rfl (fun m => ef10 m qa1) ?_
 intro p e s m below meth c s₁ Bd hZ hh hx hby hml hown hnm X0 e0 pre0 hC0 hS0 hk0 hR0
 have N0 := Fr.nil n0
 have hEL := own_EW hw
 have hwS := own_wS hw
 obtain ⟨T1, X1, e1, st1⟩ := getF X0 hx hZ hown (host := "") (Or.inl (w46_ hw)) Via.refl e0 F_qa1_system (g := (mkF m 1 #[rv qa1] [.ref qa1])) rfl rfl (hb hby d12_1)
 obtain ⟨b2, T2, h2, k2, t2, c2, X2, e2, E2, hS2, hk2, hZ2, ho2, Ex2, Fc2, Fv2, Av2, lb2, lt2, CR2, -, sf2, st2⟩ := ldcCH (text := "http://unitsofmeasure.org") (EL := consts_1) X1 hx hZ hown (w55_ hw) hwS e1 hS0 hk0 hEL (by decide) hC0 (vs := [.int 104, .int 116, .int 116, .int 112, .int 58, .int 47, .int 47, .int 117, .int 110, .int 105, .int 116, .int 115, .int 111, .int 102, .int 109, .int 101, .int 97, .int 115, .int 117, .int 114, .int 101, .int 46, .int 111, .int 114, .int 103]) (z := (25 : Int32)) ⟨by decide, by decide⟩ (by decide) (by decide) (g := (mkF m 4 #[rv qa1] [.ref qa2])) rfl (hb hby d12_4) (n := 100) (by decide) (lE rfl) (lE rfl) (lE rfl)
 have K3 := (Keep.refl h0 []).ext E2
 have R5 := hR0.trans CR2
 replace X2 : Stand p l e (Rm 2 2 104 28) (s.setVm T2.vm) m #[.ref qa1] below meth c T2 _ 2 104 := X2
 have hp7 : ∀ c ∈ ([104, 116, 116, 112, 58, 47, 47, 117, 110, 105, 116, 115, 111, 102, 109, 101, 97, 115, 117, 114, 101, 46, 111, 114, 103] : List Int32), ¬ c < 0 ∧ ¬ (255 : Int32) < c := (List.forall_mem_cons.mpr ⟨(by decide), (List.forall_mem_cons.mpr ⟨(by decide), (List.forall_mem_cons.mpr ⟨(by decide), (List.forall_mem_cons.mpr ⟨(by decide), (List.forall_mem_cons.mpr ⟨(by decide), (List.forall_mem_cons.mpr ⟨(by decide), (List.forall_mem_cons.mpr ⟨(by decide), (List.forall_mem_cons.mpr ⟨(by decide), (List.forall_mem_cons.mpr ⟨(by decide), (List.forall_mem_cons.mpr ⟨(by decide), (List.forall_mem_cons.mpr ⟨(by decide), (List.forall_mem_cons.mpr ⟨(by decide), (List.forall_mem_cons.mpr ⟨(by decide), (List.forall_mem_cons.mpr ⟨(by decide), (List.forall_mem_cons.mpr ⟨(by decide), (List.forall_mem_cons.mpr ⟨(by decide), (List.forall_mem_cons.mpr ⟨(by decide), (List.forall_mem_cons.mpr ⟨(by decide), (List.forall_mem_cons.mpr ⟨(by decide), (List.forall_mem_cons.mpr ⟨(by decide), (List.forall_mem_cons.mpr ⟨(by decide), (List.forall_mem_cons.mpr ⟨(by decide), (List.forall_mem_cons.mpr ⟨(by decide), (List.forall_mem_cons.mpr ⟨(by decide), (List.forall_mem_cons.mpr ⟨(by decide), (fun _ q => nomatch q)⟩)⟩)⟩)⟩)⟩)⟩)⟩)⟩)⟩)⟩)⟩)⟩)⟩)⟩)⟩)⟩)⟩)⟩)⟩)⟩)⟩)⟩)⟩)⟩)⟩)
 have E8_ := E_qa2.ext E2
 have F9_ := F_qa2_value.ext E2
 have F10_ := F_qa2_coder.ext E2
 have A11_ := A_qa3.ext E2
 have hcd12 : StrChars.Road.CodA ([qi4, qi5, qi6] : List Int32) 0 (3 : Int32) ((([qi4, qi5, qi6] : List Int32).map (fun c => c.toInt8.toInt32)).map Value.int) := StrChars.Road.codOf (n := 3) rfl (fun x hx => (hp_qa2 x hx).2)
 have hbd12 : ∀ x ∈ ([qi4, qi5, qi6] : List Int32), ¬ x < 0 ∧ ¬ (65535 : Int32) < x := own_up _ hp_qa2
 have hcd13 : StrChars.Road.CodA ([104, 116, 116, 112, 58, 47, 47, 117, 110, 105, 116, 115, 111, 102, 109, 101, 97, 115, 117, 114, 101, 46, 111, 114, 103] : List Int32) 0 (25 : Int32) [.int 104, .int 116, .int 116, .int 112, .int 58, .int 47, .int 47, .int 117, .int 110, .int 105, .int 116, .int 115, .int 111, .int 102, .int 109, .int 101, .int 97, .int 115, .int 117, .int 114, .int 101, .int 46, .int 111, .int 114, .int 103] := StrChars.Road.codOf (n := 25) rfl (fun x hx => (hp7 x hx).2)
 have hbd13 : ∀ x ∈ ([104, 116, 116, 112, 58, 47, 47, 117, 110, 105, 116, 115, 111, 102, 109, 101, 97, 115, 117, 114, 101, 46, 111, 114, 103] : List Int32), ¬ x < 0 ∧ ¬ (65535 : Int32) < x := own_up _ hp7
 have O14 := X00.ext E2
 obtain ⟨cq6, kq6, q6a, q6b, q6c⟩ := isOf hZ2 e2 E8_
 obtain ⟨_, T6, L6, X6, hQ6, st6⟩ := own_cb0 2 104 0 0 2 104 (X2.virtualBack hx (y := Y13_) (z := Y13_) ho2 (mvT hZ2 (w56_ hw)) (mvT hZ2 (w57_ hw)) (notFace_of_selects (args := #[]) (mvT hZ2 (w59_ hw))) (mvT hZ2 (w59_ hw)) (mvT hZ2 (w58_ hw)) (by decide) (StrChars.Road.eqW (s := s.setVm T2.vm) (W := 0) hZ2 (own_wq hw) (kI := 4) (w3_ hw) E8_ F9_ F10_ A11_ hcd12 hbd12 (lE rfl) Ex2 Fv2 Fc2 Av2 hcd13 hbd13 (lE rfl) (O2.ext O14.2) P5 (lE rfl) (lE rfl)) q6a q6c (g := (mkF m 6 #[rv qa1] [.ref b2, .ref qa2])) rfl hml.symm (Steps.refl _) (argsL := [.ref b2]) (rest := []) (lenOf pd11 rfl) rfl (own_hw rfl) (hb hby d12_6) (fun _ _ => ⟨rfl, e2, (lE rfl : 2 + 0 ≤ _), (lE rfl : 104 + 0 ≤ _)⟩)) rfl rfl
 dsimp only [Pt.U, Pt.locs, Pt.cells, Pt.slots] at hQ6
 obtain ⟨hv6, rfl, e6q⟩ := hQ6
 rcases hv6 with ⟨-, hq6⟩ | ⟨rfl, -⟩
 exact absurd hq6 ((fun q => absurd (congrArg List.length q) (show ¬ ((3 : Nat) = 25) by decide)) : ¬ (([qi4, qi5, qi6] : List Int32) = ([104, 116, 116, 112, 58, 47, 47, 117, 110, 105, 116, 115, 111, 102, 109, 101, 97, 115, 117, 114, 101, 46, 111, 114, 103] : List Int32)))
 have N6 := Fr.app N0 (Fr.nil n0)
 refine own_lvW X6 Bd.notSynchronized hS2 hk2 (v := (some .null)) (fun h => by rw [Bd.returns] at h; cases h) e6q hh ⟨rfl, N6, K3⟩ (R5.trans (CHv.at X6 hZ2 hEL CR2.1)) (lE rfl) (lE rfl) (fun fs hr => pre0 _ (by
  show Sx p e below s₁ m 0 #[rv qa1] [] _
  refine zb X0 Bd d12_0 rfl rfl ?_
  refine st1 _ ?_
  refine st2 _ ?_
  refine st6.trans ?_
  refine zp (pc' := 19) X6 Bd d12_9 (XT.i0_eq_t ((by decide) : (0 : Int32) = (0 : Int32))) rfl ?_
  refine XS.aconstNull X6.here hx rfl (hb hby d12_19) ?_
  exact retOut X6 hx Bd.returns rfl (Or.inr (Or.inr (Or.inr (Or.inr ⟨rfl, rfl, rfl⟩)))) (hb hby d12_20) hr))
def Q0 (n0 : Nat) (v : Option Value) (h : Heap) (L : List Loc) : Prop := v = some (.int 1) ∧ Fr n0 L
theorem rm0 (l : Launch) (Z : State) (a0 : Array Value) (hw : ∀ d ∈ tables_1, d.before a0 Z = true) (ws : List Jvm.Cond) (G1 : Int32) (p1 : Int32) (p2 : Int32) (p3 : Int32) (p4 : Int32) (p5 : Int32) (p6 : Int32) (h0 : Heap) (n0 : Nat) (X00 : Old Z n0 h0) (O2 : Sta Z Z.heap "java/lang/String" "COMPACT_STRINGS" "Z" (.int G1)) (P5 : ¬ (G1 = (0 : Int32))) (uS12 : Sta Z Z.heap "java/lang/StringUTF16" "$assertionsDisabled" "Z" (.int 1)) (uS15 : Sta Z Z.heap "java/lang/StringUTF16" "HI_BYTE_SHIFT" "I" (.int 0)) (uS18 : Sta Z Z.heap "java/lang/StringUTF16" "LO_BYTE_SHIFT" "I" (.int 8)) :
    MetFree l x (head1 (Jvm.Cond.code x code maxLocals ret :: ws) room_1) (fun a U => a = #[.int p1, .int p2, .int p3, .int p4, .int p5, .int p6] ∧ Z.Warmed39 U.vm ∧ U.heap = h0 ∧ CHv Z consts_1 U.vm h0) (fun _ _ _ _ _ => True) (fun _ U o U' => ∃ v L, o = .returned v ∧ Q0 n0 v U'.heap L ∧ CHr Z consts_1 U.vm U.heap U'.vm U'.heap ∧ ReturnedEndW U o U' L room_1.cells room_1.slots) := by
 refine MetFree.of_bodySF (plainFor_of_name pn0) hisR ?_
 intro p e s m args below meth c s₁ Bd hml0 hP hK
 obtain ⟨rfl, hZ, hh, hC0⟩ := hP
 have hx := Bd.exec
 have hby := Bd.bytes
 have hml : c.maxLocals = 16 := hml0
 have hown : s.vm.findClass "com/example/hearthline/hearthline/mapping/UnitTextPinLaw" = some m.cls := findClass_of_methodNamed Bd.named
 have hnm := (name_of_methodNamed Bd.named Bd.method).1
 have X0 : Stand p l e room_1 (s.setVm s.vm) m #[.int p1, .int p2, .int p3, .int p4, .int p5, .int p6] below meth c s₁ [] 0 0 := Stand.of_body Bd
 have e0 : s₁.heap = h0 := by rw [← hh, Bd.state]; rfl
 have N0 := Fr.nil n0
 have pre0 : ∀ t, Steps p.tables e below (s₁.setTop (mkF m 0 #[iv p1, iv p2, iv p3, iv p4, iv p5, iv p6, .unset, .unset, .unset, .unset, .unset, .unset, .unset, .unset, .unset, .unset] [])) t → Steps p.tables e below (s₁.setTop (entryFrame m #[.int p1, .int p2, .int p3, .int p4, .int p5, .int p6] maxLocals)) t := fun t k => castTop (ef0 m p1 p2 p3 p4 p5 p6) k
 obtain ⟨en, hen⟩ : ∃ f, f = (entryFrame m #[.int p1, .int p2, .int p3, .int p4, .int p5, .int p6] maxLocals) := ⟨_, rfl⟩
 rw [← hen] at pre0 ⊢
 have hS0 : s.Since s.vm h0.size := (State.WarmedH.refl s).since _
 have hk0 : h0.size ≤ h0.size := Nat.le_refl _
 have hR0 : CHr Z consts_1 s.vm h0 s.vm h0 := CHr.refl hC0
 have hEL := own_EW hw
 have hwS := own_wS hw
 obtain ⟨T1, h1, c1, X1, e1, E1, A1, st1⟩ := newP (aty := .char) X0 hx hZ (w0_ hw) e0 (g := (mkF m 1 #[iv p1, iv p2, iv p3, iv p4, iv p5, iv p6, .unset, .unset, .unset, .unset, .unset, .unset, .unset, .unset, .unset, .unset] [.int 2])) rfl (hb hby at_1) rfl (by decide) (cap := 2) (by decide) (lE rfl) (lE rfl) (lE rfl)
 obtain ⟨b1, g1⟩ : ∃ z, z = h0.size := ⟨_, rfl⟩
 rw [← g1] at A1 st1
 replace X1 : Stand p l e room_1 (s.setVm s.vm) m #[.int p1, .int p2, .int p3, .int p4, .int p5, .int p6] below meth c T1 _ 1 2 := X1
 have K2 := (Keep.refl h0 []).ext E1
 have C3 : CHv Z consts_1 s.vm h1 := CHv.ext E1 hC0
 have R4 : CHr Z consts_1 s.vm h0 s.vm h1 := hR0.trans (CHr.ext E1 hC0)
 have A5_ : Arv Z h1 b1 c1 .char (2 : Int32) [.int 0, .int 0] (.int 0) := (Arv.new A1 (by decide)).pad (pad_rep [] (.int 0) 2)
 have av6 := A5_
 obtain ⟨cl6, Ar6, q6, S6, N6, H6, Gf6⟩ := av6
 have hin7 : ¬ ((0 : Int32) < 0 ∨ cl6.slots.size ≤ ((0 : Int32) : Int32).toNatClampNeg) := inb_of S6 (by decide)
 obtain ⟨T7, h7, X7, e7, W7, st7⟩ := stC X1 hx hZ e1 Ar6 (j := (0 : Int32)) hin7 (g := (mkF m 10 #[iv p1, iv p2, iv p3, iv p4, iv p5, iv p6, .unset, .unset, .unset, .unset, .unset, .unset, .unset, .unset, .unset, .unset] [(.int (((p4 &&& (65535 : Int32))).toUInt32.toUInt16.toUInt32.toInt32)), .int 0, .ref b1, .ref b1])) rfl rfl (hb hby at_10)
 have g_b1 : n0 ≤ b1 := Nat.le_trans (Nat.le_trans (Nat.le_of_eq X00.1.symm) X00.2.1) (Nat.le_of_eq g1.symm)
 have N7_ := Fr.snoc X7 N0 g_b1
 have sz_b1 : h0.size ≤ b1 := (Nat.le_of_eq g1.symm)
 have K8 := K2.wr W7 (Or.inr sz_b1)
 have C9 : CHv Z consts_1 s.vm h7 := CHv.wr W7 (Safe.arv hZ.alike A5_ (by simp)) C3
 have R10 : CHr Z consts_1 s.vm h0 s.vm h7 := R4.trans (CHr.wr W7 (Safe.arv hZ.alike A5_ (by simp)) C3)
 have A11_ : Arv Z h7 b1 c1 .char (2 : Int32) [(.int (((p4 &&& (65535 : Int32))).toUInt32.toUInt16.toUInt32.toInt32)), .int 0] (.int 0) := by have q := Arv.set (v := .int (nar .char (((p4 &&& (65535 : Int32))).toUInt32.toUInt16.toUInt32.toInt32))) Ar6 q6 S6 N6 H6 Gf6 (fits_nar_char _) W7 0 (by decide) (lE rfl); rw [((own_nar_i2c _) : nar .char (((p4 &&& (65535 : Int32))).toUInt32.toUInt16.toUInt32.toInt32) = (((p4 &&& (65535 : Int32))).toUInt32.toUInt16.toUInt32.toInt32))] at q; exact q
 have av12 := A11_
 obtain ⟨cl12, Ar12, q12, S12, N12, H12, Gf12⟩ := av12
 have hin13 : ¬ ((1 : Int32) < 0 ∨ cl12.slots.size ≤ ((1 : Int32) : Int32).toNatClampNeg) := inb_of S12 (by decide)
 obtain ⟨T13, h13, X13, e13, W13, st13⟩ := stC X7 hx hZ e7 Ar12 (j := (1 : Int32)) hin13 (g := (mkF m 19 #[iv p1, iv p2, iv p3, iv p4, iv p5, iv p6, .unset, .unset, .unset, .unset, .unset, .unset, .unset, .unset, .unset, .unset] [(.int (((p5 &&& (65535 : Int32))).toUInt32.toUInt16.toUInt32.toInt32)), .int 1, .ref b1, .ref b1])) rfl rfl (hb hby at_19)
 have N13_ := Fr.snoc X13 N7_ g_b1
 have K14 := K8.wr W13 (Or.inr sz_b1)
 have C15 : CHv Z consts_1 s.vm h13 := CHv.wr W13 (Safe.arv hZ.alike A11_ (by simp)) C9
 have R16 : CHr Z consts_1 s.vm h0 s.vm h13 := R10.trans (CHr.wr W13 (Safe.arv hZ.alike A11_ (by simp)) C9)
 have A17_ : Arv Z h13 b1 c1 .char (2 : Int32) [(.int (((p4 &&& (65535 : Int32))).toUInt32.toUInt16.toUInt32.toInt32)), (.int (((p5 &&& (65535 : Int32))).toUInt32.toUInt16.toUInt32.toInt32))] (.int 0) := by have q := Arv.set (v := .int (nar .char (((p5 &&& (65535 : Int32))).toUInt32.toUInt16.toUInt32.toInt32))) Ar12 q12 S12 N12 H12 Gf12 (fits_nar_char _) W13 1 (by decide) (lE rfl); rw [((own_nar_i2c _) : nar .char (((p5 &&& (65535 : Int32))).toUInt32.toUInt16.toUInt32.toInt32) = (((p5 &&& (65535 : Int32))).toUInt32.toUInt16.toUInt32.toInt32))] at q; exact q
 obtain ⟨T18, h18, X18, e18, E18, A18, D18, -, st18⟩ := newO X13 hx hZ hown (w2_ hw) (w3_ hw) (w4_ hw) e13 (g := (mkF m 22 #[iv p1, iv p2, iv p3, iv p4, iv p5, iv p6, rv b1, .unset, .unset, .unset, .unset, .unset, .unset, .unset, .unset, .unset] [])) rfl (hb hby at_22) (lE rfl) (lE rfl)
 obtain ⟨b18, g18⟩ : ∃ z, z = h13.size := ⟨_, rfl⟩
 rw [← g18] at A18 D18 st18
 replace X18 : Stand p l e room_1 (s.setVm s.vm) m #[.int p1, .int p2, .int p3, .int p4, .int p5, .int p6] below meth c T18 _ 2 6 := X18
 have K19 := K14.ext E18
 have C20 : CHv Z consts_1 s.vm h18 := CHv.ext E18 C15
 have R21 : CHr Z consts_1 s.vm h0 s.vm h18 := R16.trans (CHr.ext E18 C15)
 have F22_ : Fld Z h18 b18 "java/lang/String" "coder" "B" (.int 0) := D18 (Or.inr (w28_ hw)) (ty := .byte) (by decide)
 have F23_ : Fld Z h18 b18 "java/lang/String" "value" "[B" .null := D18 (Or.inr (w30_ hw)) (ty := (.array .byte)) (by decide)
 have A25_ := A17_.ext E18
 have O26 := X00.ext E1
 have O27 := O26.wr W7 g_b1
 have O28 := O27.wr W13 g_b1
 have g_b18 : n0 ≤ b18 := Nat.le_trans (Nat.le_trans (Nat.le_of_eq O28.1.symm) O28.2.1) (Nat.le_of_eq g18.symm)
 have O29 := O28.ext E18
 obtain ⟨_, T24, L24, X24, hQ24, st24⟩ := own_cI 4 12 [.ref b18] 28 #[iv p1, iv p2, iv p3, iv p4, iv p5, iv p6, rv b1, .unset, .unset, .unset, .unset, .unset, .unset, .unset, .unset, .unset] X18 hx hZ hown (w5_ hw) (w6_ hw) (w4_ hw) (w7_ hw) (rm19 l Z a0 hw G1 b18 b1 c1 (((p4 &&& (65535 : Int32))).toUInt32.toUInt16.toUInt32.toInt32) (((p5 &&& (65535 : Int32))).toUInt32.toUInt16.toUInt32.toInt32) h18 n0 O29 O2 P5 uS12 uS15 uS18 A25_ (own_nar_i2c _) A18 F22_ g_b18 F23_ (own_nar_i2c _)) pd8 hml.symm (hb hby at_28) e18 rfl rfl rfl rfl rfl (by decide)
 obtain ⟨rfl, N24q, K24q⟩ := hQ24
 have N24 := Fr.app N13_ N24q
 have sz_b18 : h0.size ≤ b18 := Nat.le_trans K14.1 (Nat.le_of_eq g18.symm)
 have K30 := K19.trans K24q (allS (Or.inr sz_b18) all0)
 have f32 : Safe Z consts_1 s.vm h18 b18 := Safe.ext E18 C15 (Safe.new (Nat.le_of_eq g18.symm))
 have C31 : CHv Z consts_1 s.vm T24.heap := CHv.keep K24q (sfS f32 sf0) C20
 have R33 : CHr Z consts_1 s.vm h0 s.vm T24.heap := R21.trans (CHr.keep K24q (sfS f32 sf0) C20)
 obtain ⟨T34, h34, c34, X34, e34, E34, A34, st34⟩ := newP (aty := .char) X24 hx hZ (w0_ hw) rfl (g := (mkF m 35 #[iv p1, iv p2, iv p3, iv p4, iv p5, iv p6, rv b1, rv b18, .unset, .unset, .unset, .unset, .unset, .unset, .unset, .unset] [.int 25])) rfl (hb hby at_35) rfl (by decide) (cap := 25) (by decide) (lE rfl) (lE rfl) (lE rfl)
 obtain ⟨b34, g34⟩ : ∃ z, z = T24.heap.size := ⟨_, rfl⟩
 rw [← g34] at A34 st34
 replace X34 : Stand p l e room_1 (s.setVm s.vm) m #[.int p1, .int p2, .int p3, .int p4, .int p5, .int p6] below meth c T34 _ 5 37 := X34
 have K35 := K30.ext E34
 have C36 : CHv Z consts_1 s.vm h34 := CHv.ext E34 C31
 have R37 : CHr Z consts_1 s.vm h0 s.vm h34 := R33.trans (CHr.ext E34 C31)
 have A38_ : Arv Z h34 b34 c34 .char (25 : Int32) [.int 0, .int 0, .int 0, .int 0, .int 0, .int 0, .int 0, .int 0, .int 0, .int 0, .int 0, .int 0, .int 0, .int 0, .int 0, .int 0, .int 0, .int 0, .int 0, .int 0, .int 0, .int 0, .int 0, .int 0, .int 0] (.int 0) := (Arv.new A34 (by decide)).pad (pad_rep [] (.int 0) 25)
 have av39 := A38_
 obtain ⟨cl39, Ar39, q39, S39, N39, H39, Gf39⟩ := av39
 have hin40 : ¬ ((0 : Int32) < 0 ∨ cl39.slots.size ≤ ((0 : Int32) : Int32).toNatClampNeg) := inb_of S39 (by decide)
 obtain ⟨T40, h40, X40, e40, W40, st40⟩ := stC X34 hx hZ e34 Ar39 (j := (0 : Int32)) hin40 (g := (mkF m 41 #[iv p1, iv p2, iv p3, iv p4, iv p5, iv p6, rv b1, rv b18, .unset, .unset, .unset, .unset, .unset, .unset, .unset, .unset] [.int 104, .int 0, .ref b34, .ref b34])) rfl rfl (hb hby at_41)
 have O41 := O29.keep K24q (allS g_b18 all0)
 have g_b34 : n0 ≤ b34 := Nat.le_trans (Nat.le_trans (Nat.le_of_eq O41.1.symm) O41.2.1) (Nat.le_of_eq g34.symm)
 have N40_ := Fr.snoc X40 N24 g_b34
 have sz_b34 : h0.size ≤ b34 := Nat.le_trans K30.1 (Nat.le_of_eq g34.symm)
 have K42 := K35.wr W40 (Or.inr sz_b34)
 have C43 : CHv Z consts_1 s.vm h40 := CHv.wr W40 (Safe.arv hZ.alike A38_ (by simp)) C36
 have R44 : CHr Z consts_1 s.vm h0 s.vm h40 := R37.trans (CHr.wr W40 (Safe.arv hZ.alike A38_ (by simp)) C36)
 have A45_ : Arv Z h40 b34 c34 .char (25 : Int32) [.int 104, .int 0, .int 0, .int 0, .int 0, .int 0, .int 0, .int 0, .int 0, .int 0, .int 0, .int 0, .int 0, .int 0, .int 0, .int 0, .int 0, .int 0, .int 0, .int 0, .int 0, .int 0, .int 0, .int 0, .int 0] (.int 0) := Arv.set Ar39 q39 S39 N39 H39 Gf39 (fits_nar_char _) W40 0 (by decide) (lE rfl)
 have av46 := A45_
 obtain ⟨cl46, Ar46, q46, S46, N46, H46, Gf46⟩ := av46
 have hin47 : ¬ ((1 : Int32) < 0 ∨ cl46.slots.size ≤ ((1 : Int32) : Int32).toNatClampNeg) := inb_of S46 (by decide)
 obtain ⟨T47, h47, X47, e47, W47, st47⟩ := stC X40 hx hZ e40 Ar46 (j := (1 : Int32)) hin47 (g := (mkF m 46 #[iv p1, iv p2, iv p3, iv p4, iv p5, iv p6, rv b1, rv b18, .unset, .unset, .unset, .unset, .unset, .unset, .unset, .unset] [.int 116, .int 1, .ref b34, .ref b34])) rfl rfl (hb hby at_46)
 have N47_ := Fr.snoc X47 N40_ g_b34
 have K48 := K42.wr W47 (Or.inr sz_b34)
 have C49 : CHv Z consts_1 s.vm h47 := CHv.wr W47 (Safe.arv hZ.alike A45_ (by simp)) C43
 have R50 : CHr Z consts_1 s.vm h0 s.vm h47 := R44.trans (CHr.wr W47 (Safe.arv hZ.alike A45_ (by simp)) C43)
 have A51_ : Arv Z h47 b34 c34 .char (25 : Int32) [.int 104, .int 116, .int 0, .int 0, .int 0, .int 0, .int 0, .int 0, .int 0, .int 0, .int 0, .int 0, .int 0, .int 0, .int 0, .int 0, .int 0, .int 0, .int 0, .int 0, .int 0, .int 0, .int 0, .int 0, .int 0] (.int 0) := Arv.set Ar46 q46 S46 N46 H46 Gf46 (fits_nar_char _) W47 1 (by decide) (lE rfl)
 have av52 := A51_
 obtain ⟨cl52, Ar52, q52, S52, N52, H52, Gf52⟩ := av52
 have hin53 : ¬ ((2 : Int32) < 0 ∨ cl52.slots.size ≤ ((2 : Int32) : Int32).toNatClampNeg) := inb_of S52 (by decide)
 obtain ⟨T53, h53, X53, e53, W53, st53⟩ := stC X47 hx hZ e47 Ar52 (j := (2 : Int32)) hin53 (g := (mkF m 51 #[iv p1, iv p2, iv p3, iv p4, iv p5, iv p6, rv b1, rv b18, .unset, .unset, .unset, .unset, .unset, .unset, .unset, .unset] [.int 116, .int 2, .ref b34, .ref b34])) rfl rfl (hb hby at_51)
 have N53_ := Fr.snoc X53 N47_ g_b34
 have K54 := K48.wr W53 (Or.inr sz_b34)
 have C55 : CHv Z consts_1 s.vm h53 := CHv.wr W53 (Safe.arv hZ.alike A51_ (by simp)) C49
 have R56 : CHr Z consts_1 s.vm h0 s.vm h53 := R50.trans (CHr.wr W53 (Safe.arv hZ.alike A51_ (by simp)) C49)
 have A57_ : Arv Z h53 b34 c34 .char (25 : Int32) [.int 104, .int 116, .int 116, .int 0, .int 0, .int 0, .int 0, .int 0, .int 0, .int 0, .int 0, .int 0, .int 0, .int 0, .int 0, .int 0, .int 0, .int 0, .int 0, .int 0, .int 0, .int 0, .int 0, .int 0, .int 0] (.int 0) := Arv.set Ar52 q52 S52 N52 H52 Gf52 (fits_nar_char _) W53 2 (by decide) (lE rfl)
 have av58 := A57_
 obtain ⟨cl58, Ar58, q58, S58, N58, H58, Gf58⟩ := av58
 have hin59 : ¬ ((3 : Int32) < 0 ∨ cl58.slots.size ≤ ((3 : Int32) : Int32).toNatClampNeg) := inb_of S58 (by decide)
 obtain ⟨T59, h59, X59, e59, W59, st59⟩ := stC X53 hx hZ e53 Ar58 (j := (3 : Int32)) hin59 (g := (mkF m 56 #[iv p1, iv p2, iv p3, iv p4, iv p5, iv p6, rv b1, rv b18, .unset, .unset, .unset, .unset, .unset, .unset, .unset, .unset] [.int 112, .int 3, .ref b34, .ref b34])) rfl rfl (hb hby at_56)
 have N59_ := Fr.snoc X59 N53_ g_b34
 have K60 := K54.wr W59 (Or.inr sz_b34)
 have C61 : CHv Z consts_1 s.vm h59 := CHv.wr W59 (Safe.arv hZ.alike A57_ (by simp)) C55
 have R62 : CHr Z consts_1 s.vm h0 s.vm h59 := R56.trans (CHr.wr W59 (Safe.arv hZ.alike A57_ (by simp)) C55)
 have A63_ : Arv Z h59 b34 c34 .char (25 : Int32) [.int 104, .int 116, .int 116, .int 112, .int 0, .int 0, .int 0, .int 0, .int 0, .int 0, .int 0, .int 0, .int 0, .int 0, .int 0, .int 0, .int 0, .int 0, .int 0, .int 0, .int 0, .int 0, .int 0, .int 0, .int 0] (.int 0) := Arv.set Ar58 q58 S58 N58 H58 Gf58 (fits_nar_char _) W59 3 (by decide) (lE rfl)
 have av64 := A63_
 obtain ⟨cl64, Ar64, q64, S64, N64, H64, Gf64⟩ := av64
 have hin65 : ¬ ((4 : Int32) < 0 ∨ cl64.slots.size ≤ ((4 : Int32) : Int32).toNatClampNeg) := inb_of S64 (by decide)
 obtain ⟨T65, h65, X65, e65, W65, st65⟩ := stC X59 hx hZ e59 Ar64 (j := (4 : Int32)) hin65 (g := (mkF m 61 #[iv p1, iv p2, iv p3, iv p4, iv p5, iv p6, rv b1, rv b18, .unset, .unset, .unset, .unset, .unset, .unset, .unset, .unset] [.int 58, .int 4, .ref b34, .ref b34])) rfl rfl (hb hby at_61)
 have N65_ := Fr.snoc X65 N59_ g_b34
 have K66 := K60.wr W65 (Or.inr sz_b34)
 have C67 : CHv Z consts_1 s.vm h65 := CHv.wr W65 (Safe.arv hZ.alike A63_ (by simp)) C61
 have R68 : CHr Z consts_1 s.vm h0 s.vm h65 := R62.trans (CHr.wr W65 (Safe.arv hZ.alike A63_ (by simp)) C61)
 have A69_ : Arv Z h65 b34 c34 .char (25 : Int32) [.int 104, .int 116, .int 116, .int 112, .int 58, .int 0, .int 0, .int 0, .int 0, .int 0, .int 0, .int 0, .int 0, .int 0, .int 0, .int 0, .int 0, .int 0, .int 0, .int 0, .int 0, .int 0, .int 0, .int 0, .int 0] (.int 0) := Arv.set Ar64 q64 S64 N64 H64 Gf64 (fits_nar_char _) W65 4 (by decide) (lE rfl)
 have av70 := A69_
 obtain ⟨cl70, Ar70, q70, S70, N70, H70, Gf70⟩ := av70
 have hin71 : ¬ ((5 : Int32) < 0 ∨ cl70.slots.size ≤ ((5 : Int32) : Int32).toNatClampNeg) := inb_of S70 (by decide)
 obtain ⟨T71, h71, X71, e71, W71, st71⟩ := stC X65 hx hZ e65 Ar70 (j := (5 : Int32)) hin71 (g := (mkF m 66 #[iv p1, iv p2, iv p3, iv p4, iv p5, iv p6, rv b1, rv b18, .unset, .unset, .unset, .unset, .unset, .unset, .unset, .unset] [.int 47, .int 5, .ref b34, .ref b34])) rfl rfl (hb hby at_66)
 have N71_ := Fr.snoc X71 N65_ g_b34
 have K72 := K66.wr W71 (Or.inr sz_b34)
 have C73 : CHv Z consts_1 s.vm h71 := CHv.wr W71 (Safe.arv hZ.alike A69_ (by simp)) C67
 have R74 : CHr Z consts_1 s.vm h0 s.vm h71 := R68.trans (CHr.wr W71 (Safe.arv hZ.alike A69_ (by simp)) C67)
 have A75_ : Arv Z h71 b34 c34 .char (25 : Int32) [.int 104, .int 116, .int 116, .int 112, .int 58, .int 47, .int 0, .int 0, .int 0, .int 0, .int 0, .int 0, .int 0, .int 0, .int 0, .int 0, .int 0, .int 0, .int 0, .int 0, .int 0, .int 0, .int 0, .int 0, .int 0] (.int 0) := Arv.set Ar70 q70 S70 N70 H70 Gf70 (fits_nar_char _) W71 5 (by decide) (lE rfl)
 have av76 := A75_
 obtain ⟨cl76, Ar76, q76, S76, N76, H76, Gf76⟩ := av76
 have hin77 : ¬ ((6 : Int32) < 0 ∨ cl76.slots.size ≤ ((6 : Int32) : Int32).toNatClampNeg) := inb_of S76 (by decide)
 obtain ⟨T77, h77, X77, e77, W77, st77⟩ := stC X71 hx hZ e71 Ar76 (j := (6 : Int32)) hin77 (g := (mkF m 72 #[iv p1, iv p2, iv p3, iv p4, iv p5, iv p6, rv b1, rv b18, .unset, .unset, .unset, .unset, .unset, .unset, .unset, .unset] [.int 47, .int 6, .ref b34, .ref b34])) rfl rfl (hb hby at_72)
 have N77_ := Fr.snoc X77 N71_ g_b34
 have K78 := K72.wr W77 (Or.inr sz_b34)
 have C79 : CHv Z consts_1 s.vm h77 := CHv.wr W77 (Safe.arv hZ.alike A75_ (by simp)) C73
 have R80 : CHr Z consts_1 s.vm h0 s.vm h77 := R74.trans (CHr.wr W77 (Safe.arv hZ.alike A75_ (by simp)) C73)
 have A81_ : Arv Z h77 b34 c34 .char (25 : Int32) [.int 104, .int 116, .int 116, .int 112, .int 58, .int 47, .int 47, .int 0, .int 0, .int 0, .int 0, .int 0, .int 0, .int 0, .int 0, .int 0, .int 0, .int 0, .int 0, .int 0, .int 0, .int 0, .int 0, .int 0, .int 0] (.int 0) := Arv.set Ar76 q76 S76 N76 H76 Gf76 (fits_nar_char _) W77 6 (by decide) (lE rfl)
 have av82 := A81_
 obtain ⟨cl82, Ar82, q82, S82, N82, H82, Gf82⟩ := av82
 have hin83 : ¬ ((7 : Int32) < 0 ∨ cl82.slots.size ≤ ((7 : Int32) : Int32).toNatClampNeg) := inb_of S82 (by decide)
 obtain ⟨T83, h83, X83, e83, W83, st83⟩ := stC X77 hx hZ e77 Ar82 (j := (7 : Int32)) hin83 (g := (mkF m 78 #[iv p1, iv p2, iv p3, iv p4, iv p5, iv p6, rv b1, rv b18, .unset, .unset, .unset, .unset, .unset, .unset, .unset, .unset] [.int 117, .int 7, .ref b34, .ref b34])) rfl rfl (hb hby at_78)
 have N83_ := Fr.snoc X83 N77_ g_b34
 have K84 := K78.wr W83 (Or.inr sz_b34)
 have C85 : CHv Z consts_1 s.vm h83 := CHv.wr W83 (Safe.arv hZ.alike A81_ (by simp)) C79
 have R86 : CHr Z consts_1 s.vm h0 s.vm h83 := R80.trans (CHr.wr W83 (Safe.arv hZ.alike A81_ (by simp)) C79)
 have A87_ : Arv Z h83 b34 c34 .char (25 : Int32) [.int 104, .int 116, .int 116, .int 112, .int 58, .int 47, .int 47, .int 117, .int 0, .int 0, .int 0, .int 0, .int 0, .int 0, .int 0, .int 0, .int 0, .int 0, .int 0, .int 0, .int 0, .int 0, .int 0, .int 0, .int 0] (.int 0) := Arv.set Ar82 q82 S82 N82 H82 Gf82 (fits_nar_char _) W83 7 (by decide) (lE rfl)
 have av88 := A87_
 obtain ⟨cl88, Ar88, q88, S88, N88, H88, Gf88⟩ := av88
 have hin89 : ¬ ((8 : Int32) < 0 ∨ cl88.slots.size ≤ ((8 : Int32) : Int32).toNatClampNeg) := inb_of S88 (by decide)
 obtain ⟨T89, h89, X89, e89, W89, st89⟩ := stC X83 hx hZ e83 Ar88 (j := (8 : Int32)) hin89 (g := (mkF m 84 #[iv p1, iv p2, iv p3, iv p4, iv p5, iv p6, rv b1, rv b18, .unset, .unset, .unset, .unset, .unset, .unset, .unset, .unset] [.int 110, .int 8, .ref b34, .ref b34])) rfl rfl (hb hby at_84)
 have N89_ := Fr.snoc X89 N83_ g_b34
 have K90 := K84.wr W89 (Or.inr sz_b34)
 have C91 : CHv Z consts_1 s.vm h89 := CHv.wr W89 (Safe.arv hZ.alike A87_ (by simp)) C85
 have R92 : CHr Z consts_1 s.vm h0 s.vm h89 := R86.trans (CHr.wr W89 (Safe.arv hZ.alike A87_ (by simp)) C85)
 have A93_ : Arv Z h89 b34 c34 .char (25 : Int32) [.int 104, .int 116, .int 116, .int 112, .int 58, .int 47, .int 47, .int 117, .int 110, .int 0, .int 0, .int 0, .int 0, .int 0, .int 0, .int 0, .int 0, .int 0, .int 0, .int 0, .int 0, .int 0, .int 0, .int 0, .int 0] (.int 0) := Arv.set Ar88 q88 S88 N88 H88 Gf88 (fits_nar_char _) W89 8 (by decide) (lE rfl)
 have av94 := A93_
 obtain ⟨cl94, Ar94, q94, S94, N94, H94, Gf94⟩ := av94
 have hin95 : ¬ ((9 : Int32) < 0 ∨ cl94.slots.size ≤ ((9 : Int32) : Int32).toNatClampNeg) := inb_of S94 (by decide)
 obtain ⟨T95, h95, X95, e95, W95, st95⟩ := stC X89 hx hZ e89 Ar94 (j := (9 : Int32)) hin95 (g := (mkF m 90 #[iv p1, iv p2, iv p3, iv p4, iv p5, iv p6, rv b1, rv b18, .unset, .unset, .unset, .unset, .unset, .unset, .unset, .unset] [.int 105, .int 9, .ref b34, .ref b34])) rfl rfl (hb hby at_90)
 have N95_ := Fr.snoc X95 N89_ g_b34
 have K96 := K90.wr W95 (Or.inr sz_b34)
 have C97 : CHv Z consts_1 s.vm h95 := CHv.wr W95 (Safe.arv hZ.alike A93_ (by simp)) C91
 have R98 : CHr Z consts_1 s.vm h0 s.vm h95 := R92.trans (CHr.wr W95 (Safe.arv hZ.alike A93_ (by simp)) C91)
 have A99_ : Arv Z h95 b34 c34 .char (25 : Int32) [.int 104, .int 116, .int 116, .int 112, .int 58, .int 47, .int 47, .int 117, .int 110, .int 105, .int 0, .int 0, .int 0, .int 0, .int 0, .int 0, .int 0, .int 0, .int 0, .int 0, .int 0, .int 0, .int 0, .int 0, .int 0] (.int 0) := Arv.set Ar94 q94 S94 N94 H94 Gf94 (fits_nar_char _) W95 9 (by decide) (lE rfl)
 have av100 := A99_
 obtain ⟨cl100, Ar100, q100, S100, N100, H100, Gf100⟩ := av100
 have hin101 : ¬ ((10 : Int32) < 0 ∨ cl100.slots.size ≤ ((10 : Int32) : Int32).toNatClampNeg) := inb_of S100 (by decide)
 obtain ⟨T101, h101, X101, e101, W101, st101⟩ := stC X95 hx hZ e95 Ar100 (j := (10 : Int32)) hin101 (g := (mkF m 96 #[iv p1, iv p2, iv p3, iv p4, iv p5, iv p6, rv b1, rv b18, .unset, .unset, .unset, .unset, .unset, .unset, .unset, .unset] [.int 116, .int 10, .ref b34, .ref b34])) rfl rfl (hb hby at_96)
 have N101_ := Fr.snoc X101 N95_ g_b34
 have K102 := K96.wr W101 (Or.inr sz_b34)
 have C103 : CHv Z consts_1 s.vm h101 := CHv.wr W101 (Safe.arv hZ.alike A99_ (by simp)) C97
 have R104 : CHr Z consts_1 s.vm h0 s.vm h101 := R98.trans (CHr.wr W101 (Safe.arv hZ.alike A99_ (by simp)) C97)
 have A105_ : Arv Z h101 b34 c34 .char (25 : Int32) [.int 104, .int 116, .int 116, .int 112, .int 58, .int 47, .int 47, .int 117, .int 110, .int 105, .int 116, .int 0, .int 0, .int 0, .int 0, .int 0, .int 0, .int 0, .int 0, .int 0, .int 0, .int 0, .int 0, .int 0, .int 0] (.int 0) := Arv.set Ar100 q100 S100 N100 H100 Gf100 (fits_nar_char _) W101 10 (by decide) (lE rfl)
 have av106 := A105_
 obtain ⟨cl106, Ar106, q106, S106, N106, H106, Gf106⟩ := av106
 have hin107 : ¬ ((11 : Int32) < 0 ∨ cl106.slots.size ≤ ((11 : Int32) : Int32).toNatClampNeg) := inb_of S106 (by decide)
 obtain ⟨T107, h107, X107, e107, W107, st107⟩ := stC X101 hx hZ e101 Ar106 (j := (11 : Int32)) hin107 (g := (mkF m 102 #[iv p1, iv p2, iv p3, iv p4, iv p5, iv p6, rv b1, rv b18, .unset, .unset, .unset, .unset, .unset, .unset, .unset, .unset] [.int 115, .int 11, .ref b34, .ref b34])) rfl rfl (hb hby at_102)
 have N107_ := Fr.snoc X107 N101_ g_b34
 have K108 := K102.wr W107 (Or.inr sz_b34)
 have C109 : CHv Z consts_1 s.vm h107 := CHv.wr W107 (Safe.arv hZ.alike A105_ (by simp)) C103
 have R110 : CHr Z consts_1 s.vm h0 s.vm h107 := R104.trans (CHr.wr W107 (Safe.arv hZ.alike A105_ (by simp)) C103)
 have A111_ : Arv Z h107 b34 c34 .char (25 : Int32) [.int 104, .int 116, .int 116, .int 112, .int 58, .int 47, .int 47, .int 117, .int 110, .int 105, .int 116, .int 115, .int 0, .int 0, .int 0, .int 0, .int 0, .int 0, .int 0, .int 0, .int 0, .int 0, .int 0, .int 0, .int 0] (.int 0) := Arv.set Ar106 q106 S106 N106 H106 Gf106 (fits_nar_char _) W107 11 (by decide) (lE rfl)
 have av112 := A111_
 obtain ⟨cl112, Ar112, q112, S112, N112, H112, Gf112⟩ := av112
 have hin113 : ¬ ((12 : Int32) < 0 ∨ cl112.slots.size ≤ ((12 : Int32) : Int32).toNatClampNeg) := inb_of S112 (by decide)
 obtain ⟨T113, h113, X113, e113, W113, st113⟩ := stC X107 hx hZ e107 Ar112 (j := (12 : Int32)) hin113 (g := (mkF m 108 #[iv p1, iv p2, iv p3, iv p4, iv p5, iv p6, rv b1, rv b18, .unset, .unset, .unset, .unset, .unset, .unset, .unset, .unset] [.int 111, .int 12, .ref b34, .ref b34])) rfl rfl (hb hby at_108)
 have N113_ := Fr.snoc X113 N107_ g_b34
 have K114 := K108.wr W113 (Or.inr sz_b34)
 have C115 : CHv Z consts_1 s.vm h113 := CHv.wr W113 (Safe.arv hZ.alike A111_ (by simp)) C109
 have R116 : CHr Z consts_1 s.vm h0 s.vm h113 := R110.trans (CHr.wr W113 (Safe.arv hZ.alike A111_ (by simp)) C109)
 have A117_ : Arv Z h113 b34 c34 .char (25 : Int32) [.int 104, .int 116, .int 116, .int 112, .int 58, .int 47, .int 47, .int 117, .int 110, .int 105, .int 116, .int 115, .int 111, .int 0, .int 0, .int 0, .int 0, .int 0, .int 0, .int 0, .int 0, .int 0, .int 0, .int 0, .int 0] (.int 0) := Arv.set Ar112 q112 S112 N112 H112 Gf112 (fits_nar_char _) W113 12 (by decide) (lE rfl)
 have av118 := A117_
 obtain ⟨cl118, Ar118, q118, S118, N118, H118, Gf118⟩ := av118
 have hin119 : ¬ ((13 : Int32) < 0 ∨ cl118.slots.size ≤ ((13 : Int32) : Int32).toNatClampNeg) := inb_of S118 (by decide)
 obtain ⟨T119, h119, X119, e119, W119, st119⟩ := stC X113 hx hZ e113 Ar118 (j := (13 : Int32)) hin119 (g := (mkF m 114 #[iv p1, iv p2, iv p3, iv p4, iv p5, iv p6, rv b1, rv b18, .unset, .unset, .unset, .unset, .unset, .unset, .unset, .unset] [.int 102, .int 13, .ref b34, .ref b34])) rfl rfl (hb hby at_114)
 have N119_ := Fr.snoc X119 N113_ g_b34
 have K120 := K114.wr W119 (Or.inr sz_b34)
 have C121 : CHv Z consts_1 s.vm h119 := CHv.wr W119 (Safe.arv hZ.alike A117_ (by simp)) C115
 have R122 : CHr Z consts_1 s.vm h0 s.vm h119 := R116.trans (CHr.wr W119 (Safe.arv hZ.alike A117_ (by simp)) C115)
 have A123_ : Arv Z h119 b34 c34 .char (25 : Int32) [.int 104, .int 116, .int 116, .int 112, .int 58, .int 47, .int 47, .int 117, .int 110, .int 105, .int 116, .int 115, .int 111, .int 102, .int 0, .int 0, .int 0, .int 0, .int 0, .int 0, .int 0, .int 0, .int 0, .int 0, .int 0] (.int 0) := Arv.set Ar118 q118 S118 N118 H118 Gf118 (fits_nar_char _) W119 13 (by decide) (lE rfl)
 have av124 := A123_
 obtain ⟨cl124, Ar124, q124, S124, N124, H124, Gf124⟩ := av124
 have hin125 : ¬ ((14 : Int32) < 0 ∨ cl124.slots.size ≤ ((14 : Int32) : Int32).toNatClampNeg) := inb_of S124 (by decide)
 obtain ⟨T125, h125, X125, e125, W125, st125⟩ := stC X119 hx hZ e119 Ar124 (j := (14 : Int32)) hin125 (g := (mkF m 120 #[iv p1, iv p2, iv p3, iv p4, iv p5, iv p6, rv b1, rv b18, .unset, .unset, .unset, .unset, .unset, .unset, .unset, .unset] [.int 109, .int 14, .ref b34, .ref b34])) rfl rfl (hb hby at_120)
 have N125_ := Fr.snoc X125 N119_ g_b34
 have K126 := K120.wr W125 (Or.inr sz_b34)
 have C127 : CHv Z consts_1 s.vm h125 := CHv.wr W125 (Safe.arv hZ.alike A123_ (by simp)) C121
 have R128 : CHr Z consts_1 s.vm h0 s.vm h125 := R122.trans (CHr.wr W125 (Safe.arv hZ.alike A123_ (by simp)) C121)
 have A129_ : Arv Z h125 b34 c34 .char (25 : Int32) [.int 104, .int 116, .int 116, .int 112, .int 58, .int 47, .int 47, .int 117, .int 110, .int 105, .int 116, .int 115, .int 111, .int 102, .int 109, .int 0, .int 0, .int 0, .int 0, .int 0, .int 0, .int 0, .int 0, .int 0, .int 0] (.int 0) := Arv.set Ar124 q124 S124 N124 H124 Gf124 (fits_nar_char _) W125 14 (by decide) (lE rfl)
 have av130 := A129_
 obtain ⟨cl130, Ar130, q130, S130, N130, H130, Gf130⟩ := av130
 have hin131 : ¬ ((15 : Int32) < 0 ∨ cl130.slots.size ≤ ((15 : Int32) : Int32).toNatClampNeg) := inb_of S130 (by decide)
 obtain ⟨T131, h131, X131, e131, W131, st131⟩ := stC X125 hx hZ e125 Ar130 (j := (15 : Int32)) hin131 (g := (mkF m 126 #[iv p1, iv p2, iv p3, iv p4, iv p5, iv p6, rv b1, rv b18, .unset, .unset, .unset, .unset, .unset, .unset, .unset, .unset] [.int 101, .int 15, .ref b34, .ref b34])) rfl rfl (hb hby at_126)
 have N131_ := Fr.snoc X131 N125_ g_b34
 have K132 := K126.wr W131 (Or.inr sz_b34)
 have C133 : CHv Z consts_1 s.vm h131 := CHv.wr W131 (Safe.arv hZ.alike A129_ (by simp)) C127
 have R134 : CHr Z consts_1 s.vm h0 s.vm h131 := R128.trans (CHr.wr W131 (Safe.arv hZ.alike A129_ (by simp)) C127)
 have A135_ : Arv Z h131 b34 c34 .char (25 : Int32) [.int 104, .int 116, .int 116, .int 112, .int 58, .int 47, .int 47, .int 117, .int 110, .int 105, .int 116, .int 115, .int 111, .int 102, .int 109, .int 101, .int 0, .int 0, .int 0, .int 0, .int 0, .int 0, .int 0, .int 0, .int 0] (.int 0) := Arv.set Ar130 q130 S130 N130 H130 Gf130 (fits_nar_char _) W131 15 (by decide) (lE rfl)
 have av136 := A135_
 obtain ⟨cl136, Ar136, q136, S136, N136, H136, Gf136⟩ := av136
 have hin137 : ¬ ((16 : Int32) < 0 ∨ cl136.slots.size ≤ ((16 : Int32) : Int32).toNatClampNeg) := inb_of S136 (by decide)
 obtain ⟨T137, h137, X137, e137, W137, st137⟩ := stC X131 hx hZ e131 Ar136 (j := (16 : Int32)) hin137 (g := (mkF m 132 #[iv p1, iv p2, iv p3, iv p4, iv p5, iv p6, rv b1, rv b18, .unset, .unset, .unset, .unset, .unset, .unset, .unset, .unset] [.int 97, .int 16, .ref b34, .ref b34])) rfl rfl (hb hby at_132)
 have N137_ := Fr.snoc X137 N131_ g_b34
 have K138 := K132.wr W137 (Or.inr sz_b34)
 have C139 : CHv Z consts_1 s.vm h137 := CHv.wr W137 (Safe.arv hZ.alike A135_ (by simp)) C133
 have R140 : CHr Z consts_1 s.vm h0 s.vm h137 := R134.trans (CHr.wr W137 (Safe.arv hZ.alike A135_ (by simp)) C133)
 have A141_ : Arv Z h137 b34 c34 .char (25 : Int32) [.int 104, .int 116, .int 116, .int 112, .int 58, .int 47, .int 47, .int 117, .int 110, .int 105, .int 116, .int 115, .int 111, .int 102, .int 109, .int 101, .int 97, .int 0, .int 0, .int 0, .int 0, .int 0, .int 0, .int 0, .int 0] (.int 0) := Arv.set Ar136 q136 S136 N136 H136 Gf136 (fits_nar_char _) W137 16 (by decide) (lE rfl)
 have av142 := A141_
 obtain ⟨cl142, Ar142, q142, S142, N142, H142, Gf142⟩ := av142
 have hin143 : ¬ ((17 : Int32) < 0 ∨ cl142.slots.size ≤ ((17 : Int32) : Int32).toNatClampNeg) := inb_of S142 (by decide)
 obtain ⟨T143, h143, X143, e143, W143, st143⟩ := stC X137 hx hZ e137 Ar142 (j := (17 : Int32)) hin143 (g := (mkF m 138 #[iv p1, iv p2, iv p3, iv p4, iv p5, iv p6, rv b1, rv b18, .unset, .unset, .unset, .unset, .unset, .unset, .unset, .unset] [.int 115, .int 17, .ref b34, .ref b34])) rfl rfl (hb hby at_138)
 have N143_ := Fr.snoc X143 N137_ g_b34
 have K144 := K138.wr W143 (Or.inr sz_b34)
 have C145 : CHv Z consts_1 s.vm h143 := CHv.wr W143 (Safe.arv hZ.alike A141_ (by simp)) C139
 have R146 : CHr Z consts_1 s.vm h0 s.vm h143 := R140.trans (CHr.wr W143 (Safe.arv hZ.alike A141_ (by simp)) C139)
 have A147_ : Arv Z h143 b34 c34 .char (25 : Int32) [.int 104, .int 116, .int 116, .int 112, .int 58, .int 47, .int 47, .int 117, .int 110, .int 105, .int 116, .int 115, .int 111, .int 102, .int 109, .int 101, .int 97, .int 115, .int 0, .int 0, .int 0, .int 0, .int 0, .int 0, .int 0] (.int 0) := Arv.set Ar142 q142 S142 N142 H142 Gf142 (fits_nar_char _) W143 17 (by decide) (lE rfl)
 have av148 := A147_
 obtain ⟨cl148, Ar148, q148, S148, N148, H148, Gf148⟩ := av148
 have hin149 : ¬ ((18 : Int32) < 0 ∨ cl148.slots.size ≤ ((18 : Int32) : Int32).toNatClampNeg) := inb_of S148 (by decide)
 obtain ⟨T149, h149, X149, e149, W149, st149⟩ := stC X143 hx hZ e143 Ar148 (j := (18 : Int32)) hin149 (g := (mkF m 144 #[iv p1, iv p2, iv p3, iv p4, iv p5, iv p6, rv b1, rv b18, .unset, .unset, .unset, .unset, .unset, .unset, .unset, .unset] [.int 117, .int 18, .ref b34, .ref b34])) rfl rfl (hb hby at_144)
 have N149_ := Fr.snoc X149 N143_ g_b34
 have K150 := K144.wr W149 (Or.inr sz_b34)
 have C151 : CHv Z consts_1 s.vm h149 := CHv.wr W149 (Safe.arv hZ.alike A147_ (by simp)) C145
 have R152 : CHr Z consts_1 s.vm h0 s.vm h149 := R146.trans (CHr.wr W149 (Safe.arv hZ.alike A147_ (by simp)) C145)
 have A153_ : Arv Z h149 b34 c34 .char (25 : Int32) [.int 104, .int 116, .int 116, .int 112, .int 58, .int 47, .int 47, .int 117, .int 110, .int 105, .int 116, .int 115, .int 111, .int 102, .int 109, .int 101, .int 97, .int 115, .int 117, .int 0, .int 0, .int 0, .int 0, .int 0, .int 0] (.int 0) := Arv.set Ar148 q148 S148 N148 H148 Gf148 (fits_nar_char _) W149 18 (by decide) (lE rfl)
 have av154 := A153_
 obtain ⟨cl154, Ar154, q154, S154, N154, H154, Gf154⟩ := av154
 have hin155 : ¬ ((19 : Int32) < 0 ∨ cl154.slots.size ≤ ((19 : Int32) : Int32).toNatClampNeg) := inb_of S154 (by decide)
 obtain ⟨T155, h155, X155, e155, W155, st155⟩ := stC X149 hx hZ e149 Ar154 (j := (19 : Int32)) hin155 (g := (mkF m 150 #[iv p1, iv p2, iv p3, iv p4, iv p5, iv p6, rv b1, rv b18, .unset, .unset, .unset, .unset, .unset, .unset, .unset, .unset] [.int 114, .int 19, .ref b34, .ref b34])) rfl rfl (hb hby at_150)
 have N155_ := Fr.snoc X155 N149_ g_b34
 have K156 := K150.wr W155 (Or.inr sz_b34)
 have C157 : CHv Z consts_1 s.vm h155 := CHv.wr W155 (Safe.arv hZ.alike A153_ (by simp)) C151
 have R158 : CHr Z consts_1 s.vm h0 s.vm h155 := R152.trans (CHr.wr W155 (Safe.arv hZ.alike A153_ (by simp)) C151)
 have A159_ : Arv Z h155 b34 c34 .char (25 : Int32) [.int 104, .int 116, .int 116, .int 112, .int 58, .int 47, .int 47, .int 117, .int 110, .int 105, .int 116, .int 115, .int 111, .int 102, .int 109, .int 101, .int 97, .int 115, .int 117, .int 114, .int 0, .int 0, .int 0, .int 0, .int 0] (.int 0) := Arv.set Ar154 q154 S154 N154 H154 Gf154 (fits_nar_char _) W155 19 (by decide) (lE rfl)
 have av160 := A159_
 obtain ⟨cl160, Ar160, q160, S160, N160, H160, Gf160⟩ := av160
 have hin161 : ¬ ((20 : Int32) < 0 ∨ cl160.slots.size ≤ ((20 : Int32) : Int32).toNatClampNeg) := inb_of S160 (by decide)
 obtain ⟨T161, h161, X161, e161, W161, st161⟩ := stC X155 hx hZ e155 Ar160 (j := (20 : Int32)) hin161 (g := (mkF m 156 #[iv p1, iv p2, iv p3, iv p4, iv p5, iv p6, rv b1, rv b18, .unset, .unset, .unset, .unset, .unset, .unset, .unset, .unset] [.int 101, .int 20, .ref b34, .ref b34])) rfl rfl (hb hby at_156)
 have N161_ := Fr.snoc X161 N155_ g_b34
 have K162 := K156.wr W161 (Or.inr sz_b34)
 have C163 : CHv Z consts_1 s.vm h161 := CHv.wr W161 (Safe.arv hZ.alike A159_ (by simp)) C157
 have R164 : CHr Z consts_1 s.vm h0 s.vm h161 := R158.trans (CHr.wr W161 (Safe.arv hZ.alike A159_ (by simp)) C157)
 have A165_ : Arv Z h161 b34 c34 .char (25 : Int32) [.int 104, .int 116, .int 116, .int 112, .int 58, .int 47, .int 47, .int 117, .int 110, .int 105, .int 116, .int 115, .int 111, .int 102, .int 109, .int 101, .int 97, .int 115, .int 117, .int 114, .int 101, .int 0, .int 0, .int 0, .int 0] (.int 0) := Arv.set Ar160 q160 S160 N160 H160 Gf160 (fits_nar_char _) W161 20 (by decide) (lE rfl)
 have av166 := A165_
 obtain ⟨cl166, Ar166, q166, S166, N166, H166, Gf166⟩ := av166
 have hin167 : ¬ ((21 : Int32) < 0 ∨ cl166.slots.size ≤ ((21 : Int32) : Int32).toNatClampNeg) := inb_of S166 (by decide)
 obtain ⟨T167, h167, X167, e167, W167, st167⟩ := stC X161 hx hZ e161 Ar166 (j := (21 : Int32)) hin167 (g := (mkF m 162 #[iv p1, iv p2, iv p3, iv p4, iv p5, iv p6, rv b1, rv b18, .unset, .unset, .unset, .unset, .unset, .unset, .unset, .unset] [.int 46, .int 21, .ref b34, .ref b34])) rfl rfl (hb hby at_162)
 have N167_ := Fr.snoc X167 N161_ g_b34
 have K168 := K162.wr W167 (Or.inr sz_b34)
 have C169 : CHv Z consts_1 s.vm h167 := CHv.wr W167 (Safe.arv hZ.alike A165_ (by simp)) C163
 have R170 : CHr Z consts_1 s.vm h0 s.vm h167 := R164.trans (CHr.wr W167 (Safe.arv hZ.alike A165_ (by simp)) C163)
 have A171_ : Arv Z h167 b34 c34 .char (25 : Int32) [.int 104, .int 116, .int 116, .int 112, .int 58, .int 47, .int 47, .int 117, .int 110, .int 105, .int 116, .int 115, .int 111, .int 102, .int 109, .int 101, .int 97, .int 115, .int 117, .int 114, .int 101, .int 46, .int 0, .int 0, .int 0] (.int 0) := Arv.set Ar166 q166 S166 N166 H166 Gf166 (fits_nar_char _) W167 21 (by decide) (lE rfl)
 have av172 := A171_
 obtain ⟨cl172, Ar172, q172, S172, N172, H172, Gf172⟩ := av172
 have hin173 : ¬ ((22 : Int32) < 0 ∨ cl172.slots.size ≤ ((22 : Int32) : Int32).toNatClampNeg) := inb_of S172 (by decide)
 obtain ⟨T173, h173, X173, e173, W173, st173⟩ := stC X167 hx hZ e167 Ar172 (j := (22 : Int32)) hin173 (g := (mkF m 168 #[iv p1, iv p2, iv p3, iv p4, iv p5, iv p6, rv b1, rv b18, .unset, .unset, .unset, .unset, .unset, .unset, .unset, .unset] [.int 111, .int 22, .ref b34, .ref b34])) rfl rfl (hb hby at_168)
 have N173_ := Fr.snoc X173 N167_ g_b34
 have K174 := K168.wr W173 (Or.inr sz_b34)
 have C175 : CHv Z consts_1 s.vm h173 := CHv.wr W173 (Safe.arv hZ.alike A171_ (by simp)) C169
 have R176 : CHr Z consts_1 s.vm h0 s.vm h173 := R170.trans (CHr.wr W173 (Safe.arv hZ.alike A171_ (by simp)) C169)
 have A177_ : Arv Z h173 b34 c34 .char (25 : Int32) [.int 104, .int 116, .int 116, .int 112, .int 58, .int 47, .int 47, .int 117, .int 110, .int 105, .int 116, .int 115, .int 111, .int 102, .int 109, .int 101, .int 97, .int 115, .int 117, .int 114, .int 101, .int 46, .int 111, .int 0, .int 0] (.int 0) := Arv.set Ar172 q172 S172 N172 H172 Gf172 (fits_nar_char _) W173 22 (by decide) (lE rfl)
 have av178 := A177_
 obtain ⟨cl178, Ar178, q178, S178, N178, H178, Gf178⟩ := av178
 have hin179 : ¬ ((23 : Int32) < 0 ∨ cl178.slots.size ≤ ((23 : Int32) : Int32).toNatClampNeg) := inb_of S178 (by decide)
 obtain ⟨T179, h179, X179, e179, W179, st179⟩ := stC X173 hx hZ e173 Ar178 (j := (23 : Int32)) hin179 (g := (mkF m 174 #[iv p1, iv p2, iv p3, iv p4, iv p5, iv p6, rv b1, rv b18, .unset, .unset, .unset, .unset, .unset, .unset, .unset, .unset] [.int 114, .int 23, .ref b34, .ref b34])) rfl rfl (hb hby at_174)
 have N179_ := Fr.snoc X179 N173_ g_b34
 have K180 := K174.wr W179 (Or.inr sz_b34)
 have C181 : CHv Z consts_1 s.vm h179 := CHv.wr W179 (Safe.arv hZ.alike A177_ (by simp)) C175
 have R182 : CHr Z consts_1 s.vm h0 s.vm h179 := R176.trans (CHr.wr W179 (Safe.arv hZ.alike A177_ (by simp)) C175)
 have A183_ : Arv Z h179 b34 c34 .char (25 : Int32) [.int 104, .int 116, .int 116, .int 112, .int 58, .int 47, .int 47, .int 117, .int 110, .int 105, .int 116, .int 115, .int 111, .int 102, .int 109, .int 101, .int 97, .int 115, .int 117, .int 114, .int 101, .int 46, .int 111, .int 114, .int 0] (.int 0) := Arv.set Ar178 q178 S178 N178 H178 Gf178 (fits_nar_char _) W179 23 (by decide) (lE rfl)
 have av184 := A183_
 obtain ⟨cl184, Ar184, q184, S184, N184, H184, Gf184⟩ := av184
 have hin185 : ¬ ((24 : Int32) < 0 ∨ cl184.slots.size ≤ ((24 : Int32) : Int32).toNatClampNeg) := inb_of S184 (by decide)
 obtain ⟨T185, h185, X185, e185, W185, st185⟩ := stC X179 hx hZ e179 Ar184 (j := (24 : Int32)) hin185 (g := (mkF m 180 #[iv p1, iv p2, iv p3, iv p4, iv p5, iv p6, rv b1, rv b18, .unset, .unset, .unset, .unset, .unset, .unset, .unset, .unset] [.int 103, .int 24, .ref b34, .ref b34])) rfl rfl (hb hby at_180)
 have N185_ := Fr.snoc X185 N179_ g_b34
 have K186 := K180.wr W185 (Or.inr sz_b34)
 have C187 : CHv Z consts_1 s.vm h185 := CHv.wr W185 (Safe.arv hZ.alike A183_ (by simp)) C181
 have R188 : CHr Z consts_1 s.vm h0 s.vm h185 := R182.trans (CHr.wr W185 (Safe.arv hZ.alike A183_ (by simp)) C181)
 have A189_ : Arv Z h185 b34 c34 .char (25 : Int32) [.int 104, .int 116, .int 116, .int 112, .int 58, .int 47, .int 47, .int 117, .int 110, .int 105, .int 116, .int 115, .int 111, .int 102, .int 109, .int 101, .int 97, .int 115, .int 117, .int 114, .int 101, .int 46, .int 111, .int 114, .int 103] (.int 0) := Arv.set Ar184 q184 S184 N184 H184 Gf184 (fits_nar_char _) W185 24 (by decide) (lE rfl)
 have pr190 : Pr p e below T185 m 190 #[iv p1, iv p2, iv p3, iv p4, iv p5, iv p6, rv b1, rv b18, rv b34, iv (p1 &&& (3 : Int32)), .unset, .unset, .unset, .unset, .unset, .unset] [(.int (p1 &&& (3 : Int32)))] s₁ en := fun t k => pre0 t (by
  show Sx p e below s₁ m 0 #[iv p1, iv p2, iv p3, iv p4, iv p5, iv p6, .unset, .unset, .unset, .unset, .unset, .unset, .unset, .unset, .unset, .unset] [] _
  refine zc X0 Bd at_0 ?_
  refine st1 _ ?_
  refine XS.dup X1.here hx rfl (hb hby at_3) rfl rfl ?_
  refine zc X1 Bd at_4 ?_
  refine zj X1 Bd at_5 rfl ?_
  refine X1.ldcInt hx hown (mvT hZ (w1_ hw)) (g := (mkF m 6 #[iv p1, iv p2, iv p3, iv p4, iv p5, iv p6, .unset, .unset, .unset, .unset, .unset, .unset, .unset, .unset, .unset, .unset] [.int p4, .int 0, .ref b1, .ref b1])) rfl (hb hby at_6) _ ?_
  refine XS.iand X1.here hx rfl (hb hby at_8) rfl ?_
  refine XS.i2c X1.here hx rfl (hb hby at_9) rfl ?_
  refine st7 _ ?_
  refine XS.dup X7.here hx rfl (hb hby at_11) rfl rfl ?_
  refine zc X7 Bd at_12 ?_
  refine zi X7 Bd at_13 rfl ?_
  refine X7.ldcInt hx hown (mvT hZ (w1_ hw)) (g := (mkF m 15 #[iv p1, iv p2, iv p3, iv p4, iv p5, iv p6, .unset, .unset, .unset, .unset, .unset, .unset, .unset, .unset, .unset, .unset] [.int p5, .int 1, .ref b1, .ref b1])) rfl (hb hby at_15) _ ?_
  refine XS.iand X7.here hx rfl (hb hby at_17) rfl ?_
  refine XS.i2c X7.here hx rfl (hb hby at_18) rfl ?_
  refine st13 _ ?_
  refine XS.astore X13.here hx rfl (hb hby at_20) rfl rfl (l' := #[iv p1, iv p2, iv p3, iv p4, iv p5, iv p6, rv b1, .unset, .unset, .unset, .unset, .unset, .unset, .unset, .unset, .unset]) rfl ?_
  refine st18 _ ?_
  refine XS.dup X18.here hx rfl (hb hby at_25) rfl rfl ?_
  refine za X18 Bd at_26 rfl rfl ?_
  refine st24 _ ?_
  refine XS.astore X24.here hx rfl (hb hby at_31) rfl rfl (l' := #[iv p1, iv p2, iv p3, iv p4, iv p5, iv p6, rv b1, rv b18, .unset, .unset, .unset, .unset, .unset, .unset, .unset, .unset]) rfl ?_
  refine zd X24 Bd at_33 ?_
  refine st34 _ ?_
  refine XS.dup X34.here hx rfl (hb hby at_37) rfl rfl ?_
  show Sx p e below T34 m 38 #[iv p1, iv p2, iv p3, iv p4, iv p5, iv p6, rv b1, rv b18, .unset, .unset, .unset, .unset, .unset, .unset, .unset, .unset] [.ref b34, .ref b34] _
  refine zc X34 Bd at_38 ?_
  refine zd X34 Bd at_39 ?_
  refine st40 _ ?_
  refine XS.dup X40.here hx rfl (hb hby at_42) rfl rfl ?_
  refine zc X40 Bd at_43 ?_
  refine zd X40 Bd at_44 ?_
  refine st47 _ ?_
  refine XS.dup X47.here hx rfl (hb hby at_47) rfl rfl ?_
  refine zc X47 Bd at_48 ?_
  refine zd X47 Bd at_49 ?_
  refine st53 _ ?_
  refine XS.dup X53.here hx rfl (hb hby at_52) rfl rfl ?_
  refine zc X53 Bd at_53 ?_
  refine zd X53 Bd at_54 ?_
  refine st59 _ ?_
  refine XS.dup X59.here hx rfl (hb hby at_57) rfl rfl ?_
  refine zc X59 Bd at_58 ?_
  refine zd X59 Bd at_59 ?_
  refine st65 _ ?_
  refine XS.dup X65.here hx rfl (hb hby at_62) rfl rfl ?_
  refine zc X65 Bd at_63 ?_
  refine zd X65 Bd at_64 ?_
  refine st71 _ ?_
  refine XS.dup X71.here hx rfl (hb hby at_67) rfl rfl ?_
  refine zd X71 Bd at_68 ?_
  show Sx p e below T71 m 70 #[iv p1, iv p2, iv p3, iv p4, iv p5, iv p6, rv b1, rv b18, .unset, .unset, .unset, .unset, .unset, .unset, .unset, .unset] [.int 6, .ref b34, .ref b34] _
  refine zd X71 Bd at_70 ?_
  refine st77 _ ?_
  refine XS.dup X77.here hx rfl (hb hby at_73) rfl rfl ?_
  refine zd X77 Bd at_74 ?_
  refine zd X77 Bd at_76 ?_
  refine st83 _ ?_
  refine XS.dup X83.here hx rfl (hb hby at_79) rfl rfl ?_
  refine zd X83 Bd at_80 ?_
  refine zd X83 Bd at_82 ?_
  refine st89 _ ?_
  refine XS.dup X89.here hx rfl (hb hby at_85) rfl rfl ?_
  refine zd X89 Bd at_86 ?_
  refine zd X89 Bd at_88 ?_
  refine st95 _ ?_
  refine XS.dup X95.here hx rfl (hb hby at_91) rfl rfl ?_
  refine zd X95 Bd at_92 ?_
  refine zd X95 Bd at_94 ?_
  refine st101 _ ?_
  refine XS.dup X101.here hx rfl (hb hby at_97) rfl rfl ?_
  refine zd X101 Bd at_98 ?_
  refine zd X101 Bd at_100 ?_
  refine st107 _ ?_
  refine XS.dup X107.here hx rfl (hb hby at_103) rfl rfl ?_
  refine zd X107 Bd at_104 ?_
  refine zd X107 Bd at_106 ?_
  show Sx p e below T107 m 108 #[iv p1, iv p2, iv p3, iv p4, iv p5, iv p6, rv b1, rv b18, .unset, .unset, .unset, .unset, .unset, .unset, .unset, .unset] [.int 111, .int 12, .ref b34, .ref b34] _
  refine st113 _ ?_
  refine XS.dup X113.here hx rfl (hb hby at_109) rfl rfl ?_
  refine zd X113 Bd at_110 ?_
  refine zd X113 Bd at_112 ?_
  refine st119 _ ?_
  refine XS.dup X119.here hx rfl (hb hby at_115) rfl rfl ?_
  refine zd X119 Bd at_116 ?_
  refine zd X119 Bd at_118 ?_
  refine st125 _ ?_
  refine XS.dup X125.here hx rfl (hb hby at_121) rfl rfl ?_
  refine zd X125 Bd at_122 ?_
  refine zd X125 Bd at_124 ?_
  refine st131 _ ?_
  refine XS.dup X131.here hx rfl (hb hby at_127) rfl rfl ?_
  refine zd X131 Bd at_128 ?_
  refine zd X131 Bd at_130 ?_
  refine st137 _ ?_
  refine XS.dup X137.here hx rfl (hb hby at_133) rfl rfl ?_
  refine zd X137 Bd at_134 ?_
  refine zd X137 Bd at_136 ?_
  refine st143 _ ?_
  refine XS.dup X143.here hx rfl (hb hby at_139) rfl rfl ?_
  refine zd X143 Bd at_140 ?_
  refine zd X143 Bd at_142 ?_
  refine st149 _ ?_
  show Sx p e below T149 m 145 #[iv p1, iv p2, iv p3, iv p4, iv p5, iv p6, rv b1, rv b18, .unset, .unset, .unset, .unset, .unset, .unset, .unset, .unset] [.ref b34] _
  refine XS.dup X149.here hx rfl (hb hby at_145) rfl rfl ?_
  refine zd X149 Bd at_146 ?_
  refine zd X149 Bd at_148 ?_
  refine st155 _ ?_
  refine XS.dup X155.here hx rfl (hb hby at_151) rfl rfl ?_
  refine zd X155 Bd at_152 ?_
  refine zd X155 Bd at_154 ?_
  refine st161 _ ?_
  refine XS.dup X161.here hx rfl (hb hby at_157) rfl rfl ?_
  refine zd X161 Bd at_158 ?_
  refine zd X161 Bd at_160 ?_
  refine st167 _ ?_
  refine XS.dup X167.here hx rfl (hb hby at_163) rfl rfl ?_
  refine zd X167 Bd at_164 ?_
  refine zd X167 Bd at_166 ?_
  refine st173 _ ?_
  refine XS.dup X173.here hx rfl (hb hby at_169) rfl rfl ?_
  refine zd X173 Bd at_170 ?_
  refine zd X173 Bd at_172 ?_
  refine st179 _ ?_
  refine XS.dup X179.here hx rfl (hb hby at_175) rfl rfl ?_
  refine zd X179 Bd at_176 ?_
  refine zd X179 Bd at_178 ?_
  refine st185 _ ?_
  refine XS.astore X185.here hx rfl (hb hby at_181) rfl rfl (l' := #[iv p1, iv p2, iv p3, iv p4, iv p5, iv p6, rv b1, rv b18, rv b34, .unset, .unset, .unset, .unset, .unset, .unset, .unset]) rfl ?_
  show Sx p e below T185 m 183 #[iv p1, iv p2, iv p3, iv p4, iv p5, iv p6, rv b1, rv b18, rv b34, .unset, .unset, .unset, .unset, .unset, .unset, .unset] [] _
  refine zj X185 Bd at_183 rfl ?_
  refine zc X185 Bd at_184 ?_
  refine XS.iand X185.here hx rfl (hb hby at_185) rfl ?_
  refine zs X185 Bd at_186 (l' := #[iv p1, iv p2, iv p3, iv p4, iv p5, iv p6, rv b1, rv b18, rv b34, iv (p1 &&& (3 : Int32)), .unset, .unset, .unset, .unset, .unset, .unset]) rfl ?_
  refine zi X185 Bd at_188 rfl ?_
  exact k)
 by_cases hc191 : (p1 &&& (3 : Int32)) = (0 : Int32)
 ·
  skip
  have hk193' : _ ≤ h185.size := (Nat.le_trans (Nat.le_trans (Nat.le_trans (Nat.le_trans (Nat.le_trans (Nat.le_trans (Nat.le_trans (Nat.le_trans (Nat.le_trans (Nat.le_trans (Nat.le_trans (Nat.le_trans (Nat.le_trans (Nat.le_trans (Nat.le_trans (Nat.le_trans (Nat.le_trans (Nat.le_trans (Nat.le_trans (Nat.le_trans (Nat.le_trans (Nat.le_trans (Nat.le_trans (Nat.le_trans (Nat.le_trans (Nat.le_trans (Nat.le_trans (Nat.le_trans (Nat.le_trans (Nat.le_trans (Nat.le_trans hk0 E1.1) (Nat.le_of_eq W7.size.symm)) (Nat.le_of_eq W13.size.symm)) E18.1) K24q.1) E34.1) (Nat.le_of_eq W40.size.symm)) (Nat.le_of_eq W47.size.symm)) (Nat.le_of_eq W53.size.symm)) (Nat.le_of_eq W59.size.symm)) (Nat.le_of_eq W65.size.symm)) (Nat.le_of_eq W71.size.symm)) (Nat.le_of_eq W77.size.symm)) (Nat.le_of_eq W83.size.symm)) (Nat.le_of_eq W89.size.symm)) (Nat.le_of_eq W95.size.symm)) (Nat.le_of_eq W101.size.symm)) (Nat.le_of_eq W107.size.symm)) (Nat.le_of_eq W113.size.symm)) (Nat.le_of_eq W119.size.symm)) (Nat.le_of_eq W125.size.symm)) (Nat.le_of_eq W131.size.symm)) (Nat.le_of_eq W137.size.symm)) (Nat.le_of_eq W143.size.symm)) (Nat.le_of_eq W149.size.symm)) (Nat.le_of_eq W155.size.symm)) (Nat.le_of_eq W161.size.symm)) (Nat.le_of_eq W167.size.symm)) (Nat.le_of_eq W173.size.symm)) (Nat.le_of_eq W179.size.symm)) (Nat.le_of_eq W185.size.symm))
  obtain ⟨b192, T192, h192, k192, t192, c192, X192, e192, E192, hS192, hk192, hZ192, ho192, Ex192, Fc192, Fv192, Av192, lb192, lt192, CR192, -, sf192, st192⟩ := ldcCH (text := "http://unitsofmeasure.org") (EL := consts_1) X185 hx hZ hown (w31_ hw) hwS e185 hS0 hk193' hEL (by decide) C187 (vs := [.int 104, .int 116, .int 116, .int 112, .int 58, .int 47, .int 47, .int 117, .int 110, .int 105, .int 116, .int 115, .int 111, .int 102, .int 109, .int 101, .int 97, .int 115, .int 117, .int 114, .int 101, .int 46, .int 111, .int 114, .int 103]) (z := (25 : Int32)) ⟨by decide, by decide⟩ (by decide) (by decide) (g := (mkF m 193 #[iv p1, iv p2, iv p3, iv p4, iv p5, iv p6, rv b1, rv b18, rv b34, iv (p1 &&& (3 : Int32)), .unset, .unset, .unset, .unset, .unset, .unset] [])) rfl (hb hby at_193) (n := 100) (by decide) (lE rfl) (lE rfl) (lE rfl)
  have K194 := K186.ext E192
  have R196 := R188.trans CR192
  replace X192 : Stand p l e room_1 (s.setVm T192.vm) m #[.int p1, .int p2, .int p3, .int p4, .int p5, .int p6] below meth c T192 _ 7 141 := X192
  obtain ⟨T197, h197, X197, e197, E197, A197, D197, -, st197⟩ := newO X192 hx hZ192 ho192 (w34_ hw) (w35_ hw) (w36_ hw) e192 (g := (mkF m 409 #[iv p1, iv p2, iv p3, iv p4, iv p5, iv p6, rv b1, rv b18, rv b34, iv (p1 &&& (3 : Int32)), rv b192, iv 1, .unset, .unset, .unset, .unset] [])) rfl (hb hby at_409) (lE rfl) (lE rfl)
  obtain ⟨b197, g197⟩ : ∃ z, z = h192.size := ⟨_, rfl⟩
  rw [← g197] at A197 D197 st197
  replace X197 : Stand p l e room_1 (s.setVm T192.vm) m #[.int p1, .int p2, .int p3, .int p4, .int p5, .int p6] below meth c T197 _ 8 143 := X197
  have K198 := K194.ext E197
  have C199 : CHv Z consts_1 T192.vm h197 := CHv.ext E197 CR192.1
  have R200 : CHr Z consts_1 s.vm h0 T192.vm h197 := R196.trans (CHr.ext E197 CR192.1)
  have F201_ : Fld Z h197 b197 "com/example/hearthline/hearthline/mapping/Unit" "system" "Ljava/lang/String;" .null := D197 (Or.inr (w47_ hw)) (ty := (.object "java/lang/String")) (by decide)
  have F202_ : Fld Z h197 b197 "com/example/hearthline/hearthline/mapping/Unit" "code" "Ljava/lang/String;" .null := D197 (Or.inr (w49_ hw)) (ty := (.object "java/lang/String")) (by decide)
  have O204 := O41.ext E34
  have O205 := O204.wr W40 g_b34
  have O206 := O205.wr W47 g_b34
  have O207 := O206.wr W53 g_b34
  have O208 := O207.wr W59 g_b34
  have O209 := O208.wr W65 g_b34
  have O210 := O209.wr W71 g_b34
  have O211 := O210.wr W77 g_b34
  have O212 := O211.wr W83 g_b34
  have O213 := O212.wr W89 g_b34
  have O214 := O213.wr W95 g_b34
  have O215 := O214.wr W101 g_b34
  have O216 := O215.wr W107 g_b34
  have O217 := O216.wr W113 g_b34
  have O218 := O217.wr W119 g_b34
  have O219 := O218.wr W125 g_b34
  have O220 := O219.wr W131 g_b34
  have O221 := O220.wr W137 g_b34
  have O222 := O221.wr W143 g_b34
  have O223 := O222.wr W149 g_b34
  have O224 := O223.wr W155 g_b34
  have O225 := O224.wr W161 g_b34
  have O226 := O225.wr W167 g_b34
  have O227 := O226.wr W173 g_b34
  have O228 := O227.wr W179 g_b34
  have O229 := O228.wr W185 g_b34
  have O230 := O229.ext E192
  have g_b197 : n0 ≤ b197 := Nat.le_trans (Nat.le_trans (Nat.le_of_eq O230.1.symm) O230.2.1) (Nat.le_of_eq g197.symm)
  have O231 := O230.ext E197
  obtain ⟨Lg232, Xg232, Ng232⟩ := own_gl X197 N185_
  obtain ⟨_, T203, L203, X203, hQ203, st203⟩ := own_cI 8 143 [.ref b197] 417 #[iv p1, iv p2, iv p3, iv p4, iv p5, iv p6, rv b1, rv b18, rv b34, iv (p1 &&& (3 : Int32)), rv b192, iv 1, .unset, .unset, .unset, .unset] Xg232 hx hZ192 ho192 (w37_ hw) (w38_ hw) (w36_ hw) (w39_ hw) (rm21 l Z a0 hw  b197 b192 b18 h197 n0 O231 A197 F201_ g_b197 F202_) pd10 hml.symm (hb hby at_417) e197 rfl rfl rfl rfl rfl (by decide)
  obtain ⟨rfl, N203q, K203q, w233, w234, w235⟩ := hQ203
  have N203 := Fr.app Ng232 N203q
  have sz_b197 : h0.size ≤ b197 := Nat.le_trans K194.1 (Nat.le_of_eq g197.symm)
  have K236 := K198.trans K203q (allS (Or.inr sz_b197) all0)
  have C237 : CHv Z consts_1 T192.vm T203.heap := CHv.keep K203q (sfS (Safe.exa hZ192.alike A197 (by decide) (by decide)) sf0) C199
  have R238 : CHr Z consts_1 s.vm h0 T192.vm T203.heap := R200.trans (CHr.keep K203q (sfS (Safe.exa hZ192.alike A197 (by decide) (by decide)) sf0) C199)
  have E240_ := Ex192.ext E197
  have E241_ := E240_.keep K203q
  have hp242 : ∀ c ∈ ([104, 116, 116, 112, 58, 47, 47, 117, 110, 105, 116, 115, 111, 102, 109, 101, 97, 115, 117, 114, 101, 46, 111, 114, 103] : List Int32), ¬ c < 0 ∧ ¬ (255 : Int32) < c := (List.forall_mem_cons.mpr ⟨(by decide), (List.forall_mem_cons.mpr ⟨(by decide), (List.forall_mem_cons.mpr ⟨(by decide), (List.forall_mem_cons.mpr ⟨(by decide), (List.forall_mem_cons.mpr ⟨(by decide), (List.forall_mem_cons.mpr ⟨(by decide), (List.forall_mem_cons.mpr ⟨(by decide), (List.forall_mem_cons.mpr ⟨(by decide), (List.forall_mem_cons.mpr ⟨(by decide), (List.forall_mem_cons.mpr ⟨(by decide), (List.forall_mem_cons.mpr ⟨(by decide), (List.forall_mem_cons.mpr ⟨(by decide), (List.forall_mem_cons.mpr ⟨(by decide), (List.forall_mem_cons.mpr ⟨(by decide), (List.forall_mem_cons.mpr ⟨(by decide), (List.forall_mem_cons.mpr ⟨(by decide), (List.forall_mem_cons.mpr ⟨(by decide), (List.forall_mem_cons.mpr ⟨(by decide), (List.forall_mem_cons.mpr ⟨(by decide), (List.forall_mem_cons.mpr ⟨(by decide), (List.forall_mem_cons.mpr ⟨(by decide), (List.forall_mem_cons.mpr ⟨(by decide), (List.forall_mem_cons.mpr ⟨(by decide), (List.forall_mem_cons.mpr ⟨(by decide), (List.forall_mem_cons.mpr ⟨(by decide), (fun _ q => nomatch q)⟩)⟩)⟩)⟩)⟩)⟩)⟩)⟩)⟩)⟩)⟩)⟩)⟩)⟩)⟩)⟩)⟩)⟩)⟩)⟩)⟩)⟩)⟩)⟩)⟩)
  have F243_ := Fv192.ext E197
  have F244_ := F243_.keep K203q (ninS (Nat.ne_of_lt (Nat.lt_of_lt_of_le Ex192.lt (Nat.le_of_eq g197.symm))) nin0)
  have F245_ := Fc192.ext E197
  have F246_ := F245_.keep K203q (ninS (Nat.ne_of_lt (Nat.lt_of_lt_of_le Ex192.lt (Nat.le_of_eq g197.symm))) nin0)
  have A247_ := Av192.ext E197
  have A248_ := A247_.keep K203q (ninS (Nat.ne_of_lt (Nat.lt_of_lt_of_le Av192.lt (Nat.le_of_eq g197.symm))) nin0)
  have O249 := O231.keep K203q (allS g_b197 all0)
  have hk250' : _ ≤ T203.heap.size := (Nat.le_trans (Nat.le_trans hk192 E197.1) K203q.1)
  have E251_ := A197.keep K203q
  obtain ⟨cq239, kq239, q239a, q239b, q239c⟩ := isOf hZ192 rfl E251_
  obtain ⟨_, T239, L239, X239, hQ239, hS239, hZ239, ho239, CR239, st239⟩ := own_cbS 8 143 2 104 10 247 (X203.virtualBackS hx (y := Y12_) (z := Y12_) ho192 (mvT hZ192 (w50_ hw)) (mvT hZ192 (w51_ hw)) (notFace_of_selects (args := #[]) (mvT hZ192 (w53_ hw))) (mvT hZ192 (w53_ hw)) (mvT hZ192 (w52_ hw)) (by decide) (backOfSH (W := 0) (EL := consts_1) (s := s) (rm22 l Z a0 hw G1 b197 b192 t192 c192 b18 T203.heap n0 O249 O2 P5 w234 E241_ F244_ hp242 F246_ A248_ w235) hZ192 (w54_ hw) (w36_ hw) (lE rfl) (lE rfl) hEL C237) q239a q239c (g := (mkF m 420 #[iv p1, iv p2, iv p3, iv p4, iv p5, iv p6, rv b1, rv b18, rv b34, iv (p1 &&& (3 : Int32)), rv b192, iv 1, .unset, .unset, .unset, .unset] [.ref b197])) rfl hml.symm (Steps.refl _) (argsL := []) (rest := []) (lenOf pd12 rfl) rfl (own_hw rfl) (hb hby at_420) (fun _ _ => ⟨rfl, rfl, (lE rfl : 8 + 2 ≤ _), (lE rfl : 143 + 104 ≤ _)⟩)) rfl rfl hS192 hk250' hZ192 ho192
  obtain ⟨rfl, N239q, K239q⟩ := hQ239
  have N239 := Fr.app N203 N239q
  have hk239 : T239.heap.size ≤ T239.heap.size := Nat.le_refl _
  have K252 := K236.trans K239q (fun x q => nomatch q)
  have R254 := R238.trans CR239
  have O256 := O249.keep K239q all0
  have E257_ := A18.keep K24q
  have E258_ := E257_.ext E34
  have E259_ := E258_.wr W40
  have E260_ := E259_.wr W47
  have E261_ := E260_.wr W53
  have E262_ := E261_.wr W59
  have E263_ := E262_.wr W65
  have E264_ := E263_.wr W71
  have E265_ := E264_.wr W77
  have E266_ := E265_.wr W83
  have E267_ := E266_.wr W89
  have E268_ := E267_.wr W95
  have E269_ := E268_.wr W101
  have E270_ := E269_.wr W107
  have E271_ := E270_.wr W113
  have E272_ := E271_.wr W119
  have E273_ := E272_.wr W125
  have E274_ := E273_.wr W131
  have E275_ := E274_.wr W137
  have E276_ := E275_.wr W143
  have E277_ := E276_.wr W149
  have E278_ := E277_.wr W155
  have E279_ := E278_.wr W161
  have E280_ := E279_.wr W167
  have E281_ := E280_.wr W173
  have E282_ := E281_.wr W179
  have E283_ := E282_.wr W185
  have E284_ := E283_.ext E192
  have E285_ := E284_.ext E197
  have E286_ := E285_.keep K203q
  have E287_ := E286_.keep K239q
  obtain ⟨_, T255, L255, X255, hQ255, st255⟩ := own_cV 10 247 [] 439 #[iv p1, iv p2, iv p3, iv p4, iv p5, iv p6, rv b1, rv b18, rv b34, iv (p1 &&& (3 : Int32)), rv b192, iv 1, rv b18, .unset, .unset, .unset] X239 hx hZ239 ho239 E287_ (w61_ hw) (w57_ hw) (notFace_of_selects (args := #[]) (mvT hZ239 (w59_ hw))) (w59_ hw) (w58_ hw) (w4_ hw) (w60_ hw) (rm23 l Z a0 hw  b18 T239.heap n0 O256 ) pd11 hml.symm (hb hby at_439) rfl rfl rfl rfl rfl (by decide)
  obtain ⟨rfl, N255q, e255q⟩ := hQ255
  have N255 := Fr.app N239 N255q
  refine own_lvW X255 Bd.notSynchronized hS239 hk239 (v := (some (.int 1))) (fun h => by rw [Bd.returns] at h; cases h) e255q hh ⟨rfl, N255⟩ (R254.trans (CHv.at X255 hZ239 hEL CR239.1)) (lE rfl) (lE rfl) (fun fs hr => pr190 _ (by
   show Sx p e below T185 m 190 #[iv p1, iv p2, iv p3, iv p4, iv p5, iv p6, rv b1, rv b18, rv b34, iv (p1 &&& (3 : Int32)), .unset, .unset, .unset, .unset, .unset, .unset] [(.int (p1 &&& (3 : Int32)))] _
   refine zo X185 Bd at_190 (XT.i0_ne_f (hc191 : (p1 &&& (3 : Int32)) = (0 : Int32))) ?_
   refine st192 _ ?_
   refine XS.astore X192.here hx rfl (hb hby at_195) rfl rfl (l' := #[iv p1, iv p2, iv p3, iv p4, iv p5, iv p6, rv b1, rv b18, rv b34, iv (p1 &&& (3 : Int32)), rv b192, .unset, .unset, .unset, .unset, .unset]) rfl ?_
   refine zc X192 Bd at_197 ?_
   refine zs X192 Bd at_198 (l' := #[iv p1, iv p2, iv p3, iv p4, iv p5, iv p6, rv b1, rv b18, rv b34, iv (p1 &&& (3 : Int32)), rv b192, iv 1, .unset, .unset, .unset, .unset]) rfl ?_
   refine zg (pc' := 409) X192 Bd at_200 rfl ?_
   refine st197 _ ?_
   refine XS.dup X197.here hx rfl (hb hby at_412) rfl rfl ?_
   refine za X197 Bd at_413 rfl rfl ?_
   refine za X197 Bd at_415 rfl rfl ?_
   refine st203 _ ?_
   refine st239.trans ?_
   refine XS.astore X239.here hx rfl (hb hby at_423) rfl rfl (l' := #[iv p1, iv p2, iv p3, iv p4, iv p5, iv p6, rv b1, rv b18, rv b34, iv (p1 &&& (3 : Int32)), rv b192, iv 1, rv b18, .unset, .unset, .unset]) rfl ?_
   refine zi X239 Bd at_425 rfl ?_
   refine zo X239 Bd at_427 (XT.i0_eq_f ((by decide) : ¬ ((1 : Int32) = (0 : Int32)))) ?_
   refine za X239 Bd at_430 rfl rfl ?_
   refine XS.ifnullNo X239.here hx rfl (hb hby at_432) rfl ?_
   refine za X239 Bd at_435 rfl rfl ?_
   refine za X239 Bd at_437 rfl rfl ?_
   refine st255 _ ?_
   refine zo X255 Bd at_442 (XT.i0_eq_f ((by decide) : ¬ ((1 : Int32) = (0 : Int32)))) ?_
   refine zc X255 Bd at_445 ?_
   refine zg (pc' := 450) X255 Bd at_446 rfl ?_
   exact retN X255 hx (t := .boolean) Bd.returns (by simp) (hb hby at_450) hr))
 ·
  skip
  have pr288 : Pr p e below T185 m 206 #[iv p1, iv p2, iv p3, iv p4, iv p5, iv p6, rv b1, rv b18, rv b34, iv (p1 &&& (3 : Int32)), .unset, .unset, .unset, .unset, .unset, .unset] [.int 1, (.int (p1 &&& (3 : Int32)))] s₁ en := fun t k => pr190 t (by
   show Sx p e below T185 m 190 #[iv p1, iv p2, iv p3, iv p4, iv p5, iv p6, rv b1, rv b18, rv b34, iv (p1 &&& (3 : Int32)), .unset, .unset, .unset, .unset, .unset, .unset] [(.int (p1 &&& (3 : Int32)))] _
   refine zp (pc' := 203) X185 Bd at_190 (XT.i0_ne_t (hc191 : ¬ ((p1 &&& (3 : Int32)) = (0 : Int32)))) rfl ?_
   refine zi X185 Bd at_203 rfl ?_
   refine zc X185 Bd at_205 ?_
   exact k)
  by_cases hc289 : (p1 &&& (3 : Int32)) = (1 : Int32)
  ·
   skip
   have A290_ : Arv Z h185 b34 c34 .char (25 : Int32) (own_U.map Value.int) (.int 0) := A189_
   have av291 := A290_
   obtain ⟨cl291, Ar291, q291, S291, N291, H291, Gf291⟩ := av291
   have hin292 : ¬ ((ab4_ p2) < 0 ∨ cl291.slots.size ≤ ((ab4_ p2) : Int32).toNatClampNeg) := inb_of S291 (own_b25 p2)
   have hat292 : cl291.slots[((ab4_ p2) : Int32).toNatClampNeg]? = some (.int (own_at own_U (ab4_ p2))) := Has.at H291 hin292 (own_atV _ _)
   have pr293 : Pr p e below T185 m 233 #[iv p1, iv p2, iv p3, iv p4, iv p5, iv p6, rv b1, rv b18, rv b34, iv (p1 &&& (3 : Int32)), .unset, .unset, iv (ab4_ p2), iv (ab0_ p3), .unset, .unset] [(.int (ab0_ p3)), (.int (own_at own_U (ab4_ p2)))] s₁ en := fun t k => pr288 t (by
    show Sx p e below T185 m 206 #[iv p1, iv p2, iv p3, iv p4, iv p5, iv p6, rv b1, rv b18, rv b34, iv (p1 &&& (3 : Int32)), .unset, .unset, .unset, .unset, .unset, .unset] [.int 1, (.int (p1 &&& (3 : Int32)))] _
    refine zn X185 Bd at_206 (XT.ii_ne_f (hc289 : (p1 &&& (3 : Int32)) = (1 : Int32))) ?_
    refine zj X185 Bd at_209 rfl ?_
    refine X185.ldcInt hx hown (mvT hZ (w62_ hw)) (g := (mkF m 210 #[iv p1, iv p2, iv p3, iv p4, iv p5, iv p6, rv b1, rv b18, rv b34, iv (p1 &&& (3 : Int32)), .unset, .unset, .unset, .unset, .unset, .unset] [.int p2])) rfl (hb hby at_210) _ ?_
    refine XS.iand X185.here hx rfl (hb hby at_212) rfl ?_
    refine zd X185 Bd at_213 ?_
    refine iremM X185 hx (g := (mkF m 215 #[iv p1, iv p2, iv p3, iv p4, iv p5, iv p6, rv b1, rv b18, rv b34, iv (p1 &&& (3 : Int32)), .unset, .unset, .unset, .unset, .unset, .unset] [.int 25, (.int (p2 &&& (2147483647 : Int32)))])) rfl (hb hby at_215) rfl (by decide) ?_
    refine zs X185 Bd at_216 (l' := #[iv p1, iv p2, iv p3, iv p4, iv p5, iv p6, rv b1, rv b18, rv b34, iv (p1 &&& (3 : Int32)), .unset, .unset, iv (ab4_ p2), .unset, .unset, .unset]) rfl ?_
    refine zj X185 Bd at_218 rfl ?_
    refine XS.sipush X185.here hx rfl (hb hby at_219) ?_
    refine XS.iand X185.here hx rfl (hb hby at_222) rfl ?_
    refine XS.i2c X185.here hx rfl (hb hby at_223) rfl ?_
    refine zs X185 Bd at_224 (l' := #[iv p1, iv p2, iv p3, iv p4, iv p5, iv p6, rv b1, rv b18, rv b34, iv (p1 &&& (3 : Int32)), .unset, .unset, iv (ab4_ p2), iv (ab0_ p3), .unset, .unset]) rfl ?_
    refine za X185 Bd at_226 rfl rfl ?_
    refine zi X185 Bd at_228 rfl ?_
    refine X185.caload hx (j := (ab4_ p2)) (v := (.int (own_at own_U (ab4_ p2)))) (by rw [e185]; exact Ar291.1) (State.isArrayOf_alike hZ.alike Ar291.2.1) Ar291.2.2 hin292 hat292 (g := (mkF m 230 #[iv p1, iv p2, iv p3, iv p4, iv p5, iv p6, rv b1, rv b18, rv b34, iv (p1 &&& (3 : Int32)), .unset, .unset, iv (ab4_ p2), iv (ab0_ p3), .unset, .unset] [(.int (ab4_ p2)), .ref b34])) rfl rfl (hb hby at_230) _ ?_
    refine zi X185 Bd at_231 rfl ?_
    exact k)
   by_cases hc294 : (own_at own_U (ab4_ p2)) = (ab0_ p3)
   ·
    skip
    have av295 := A290_
    obtain ⟨cl295, Ar295, q295, S295, N295, H295, Gf295⟩ := av295
    have hin296 : ¬ ((ab4_ p2) < 0 ∨ cl295.slots.size ≤ ((ab4_ p2) : Int32).toNatClampNeg) := inb_of S295 (own_b25 p2)
    obtain ⟨T296, h296, X296, e296, W296, st296⟩ := stC X185 hx hZ e185 Ar295 (j := (ab4_ p2)) hin296 (g := (mkF m 249 #[iv p1, iv p2, iv p3, iv p4, iv p5, iv p6, rv b1, rv b18, rv b34, iv (p1 &&& (3 : Int32)), .unset, iv 1, iv (ab4_ p2), iv (ab0_ p3), .unset, .unset] [(.int (ab0_ p3)), (.int (ab4_ p2)), .ref b34])) rfl rfl (hb hby at_249)
    have N296_ := Fr.snoc X296 N185_ g_b34
    have K297 := K186.wr W296 (Or.inr sz_b34)
    have C298 : CHv Z consts_1 s.vm h296 := CHv.wr W296 (Safe.arv hZ.alike A290_ (by simp)) C187
    have R299 : CHr Z consts_1 s.vm h0 s.vm h296 := R188.trans (CHr.wr W296 (Safe.arv hZ.alike A290_ (by simp)) C187)
    have A300_ : Arv Z h296 b34 c34 .char (25 : Int32) ((own_U.set ((ab4_ p2)).toNatClampNeg (ab0_ p3)).map Value.int) (.int 0) := by rw [List.map_set]; have q := Arv.set (v := .int (nar .char (ab0_ p3))) Ar295 q295 S295 N295 H295 Gf295 (fits_nar_char _) W296 _ rfl (own_lt25 p2); rw [((own_nar_i2c _) : nar .char (ab0_ p3) = (ab0_ p3))] at q; exact q
    obtain ⟨T301, h301, X301, e301, E301, A301, D301, -, st301⟩ := newO X296 hx hZ hown (w2_ hw) (w3_ hw) (w4_ hw) e296 (g := (mkF m 250 #[iv p1, iv p2, iv p3, iv p4, iv p5, iv p6, rv b1, rv b18, rv b34, iv (p1 &&& (3 : Int32)), .unset, iv 1, iv (ab4_ p2), iv (ab0_ p3), .unset, .unset] [])) rfl (hb hby at_250) (lE rfl) (lE rfl)
    obtain ⟨b301, g301⟩ : ∃ z, z = h296.size := ⟨_, rfl⟩
    rw [← g301] at A301 D301 st301
    replace X301 : Stand p l e room_1 (s.setVm s.vm) m #[.int p1, .int p2, .int p3, .int p4, .int p5, .int p6] below meth c T301 _ 6 41 := X301
    have K302 := K297.ext E301
    have C303 : CHv Z consts_1 s.vm h301 := CHv.ext E301 C298
    have R304 : CHr Z consts_1 s.vm h0 s.vm h301 := R299.trans (CHr.ext E301 C298)
    have F305_ : Fld Z h301 b301 "java/lang/String" "coder" "B" (.int 0) := D301 (Or.inr (w28_ hw)) (ty := .byte) (by decide)
    have F306_ : Fld Z h301 b301 "java/lang/String" "value" "[B" .null := D301 (Or.inr (w30_ hw)) (ty := (.array .byte)) (by decide)
    have hp308 : ∀ c ∈ (own_U.set ((ab4_ p2)).toNatClampNeg (ab0_ p3)), ¬ c < 0 ∧ ¬ (255 : Int32) < c := own_setlat (own_lat p3)
    have O309 := O41.ext E34
    have O310 := O309.wr W40 g_b34
    have O311 := O310.wr W47 g_b34
    have O312 := O311.wr W53 g_b34
    have O313 := O312.wr W59 g_b34
    have O314 := O313.wr W65 g_b34
    have O315 := O314.wr W71 g_b34
    have O316 := O315.wr W77 g_b34
    have O317 := O316.wr W83 g_b34
    have O318 := O317.wr W89 g_b34
    have O319 := O318.wr W95 g_b34
    have O320 := O319.wr W101 g_b34
    have O321 := O320.wr W107 g_b34
    have O322 := O321.wr W113 g_b34
    have O323 := O322.wr W119 g_b34
    have O324 := O323.wr W125 g_b34
    have O325 := O324.wr W131 g_b34
    have O326 := O325.wr W137 g_b34
    have O327 := O326.wr W143 g_b34
    have O328 := O327.wr W149 g_b34
    have O329 := O328.wr W155 g_b34
    have O330 := O329.wr W161 g_b34
    have O331 := O330.wr W167 g_b34
    have O332 := O331.wr W173 g_b34
    have O333 := O332.wr W179 g_b34
    have O334 := O333.wr W185 g_b34
    have O335 := O334.wr W296 g_b34
    have g_b301 : n0 ≤ b301 := Nat.le_trans (Nat.le_trans (Nat.le_of_eq O335.1.symm) O335.2.1) (Nat.le_of_eq g301.symm)
    have O336 := O335.ext E301
    have A337_ := A300_.ext E301
    obtain ⟨Lg338, Xg338, Ng338⟩ := own_gl X301 N296_
    obtain ⟨_, T307, L307, X307, hQ307, st307⟩ := own_cb 6 41 1 25 7 66 (Xg338.specialBack hx (y := Y9_) rfl hown (mvT hZ (w5_ hw)) (mvT hZ (w6_ hw)) (mvT hZ (w7_ hw)) (by decide) (StrChars.Road.backV (s := s.setVm s.vm) (W := 1) hZ (own_ws hw) (kI := 4) (w3_ hw) (cs := (own_U.set ((ab4_ p2)).toNatClampNeg (ab0_ p3))) (bs := (own_U.set ((ab4_ p2)).toNatClampNeg (ab0_ p3)).map (fun c => c.toInt8.toInt32)) (n := 25) g_b301 (Nat.le_trans (Nat.le_of_eq O336.1.symm) O336.2.1) A301 F306_ F305_ A337_ (O2.ext O336.2) P5 (own_setlen _ _) rfl (lE rfl) (lE rfl) hp308 rfl (lE rfl) (lE rfl)) (g := (mkF m 256 #[iv p1, iv p2, iv p3, iv p4, iv p5, iv p6, rv b1, rv b18, rv b34, iv (p1 &&& (3 : Int32)), .unset, iv 1, iv (ab4_ p2), iv (ab0_ p3), .unset, .unset] [.ref b34, .ref b301, .ref b301])) rfl hml.symm (Steps.refl _) (a := b301) (argsL := [.ref b34]) (rest := [.ref b301]) (lenOf pd8 rfl) rfl (own_hw rfl) (hb hby at_256) (fun _ _ => ⟨rfl, e301, (lE rfl : 6 + 1 ≤ _), (lE rfl : 41 + 25 ≤ _)⟩)) rfl rfl
    obtain ⟨rfl, N307q, K307q, E307q, C307q, b339, c339_, u339, g339, ne339, V339_, A339_⟩ := hQ307
    have N307 := Fr.app Ng338 N307q
    have sz_b301 : h0.size ≤ b301 := Nat.le_trans K297.1 (Nat.le_of_eq g301.symm)
    have K340 := K302.trans K307q (allS (Or.inr sz_b301) all0)
    have f342 : Safe Z consts_1 s.vm h301 b301 := Safe.ext E301 C298 (Safe.new (Nat.le_of_eq g301.symm))
    have C341 : CHv Z consts_1 s.vm T307.heap := CHv.keep K307q (sfS f342 sf0) C303
    have R343 : CHr Z consts_1 s.vm h0 s.vm T307.heap := R304.trans (CHr.keep K307q (sfS f342 sf0) C303)
    have hcd339 : StrChars.Road.CodA (own_U.set ((ab4_ p2)).toNatClampNeg (ab0_ p3)) 0 (25 : Int32) (((own_U.set ((ab4_ p2)).toNatClampNeg (ab0_ p3)).map (fun c => c.toInt8.toInt32)).map Value.int) := StrChars.Road.codOf (n := 25) (own_setlen _ _) (fun x hx => (hp308 x hx).2)
    have hbd339 : ∀ x ∈ (own_U.set ((ab4_ p2)).toNatClampNeg (ab0_ p3)), ¬ x < 0 ∧ ¬ (65535 : Int32) < x := own_up _ hp308
    obtain ⟨T344, h344, X344, e344, E344, A344, D344, -, st344⟩ := newO X307 hx hZ hown (w34_ hw) (w35_ hw) (w36_ hw) rfl (g := (mkF m 409 #[iv p1, iv p2, iv p3, iv p4, iv p5, iv p6, rv b1, rv b18, rv b34, iv (p1 &&& (3 : Int32)), rv b301, iv 1, iv (ab4_ p2), iv (ab0_ p3), .unset, .unset] [])) rfl (hb hby at_409) (lE rfl) (lE rfl)
    obtain ⟨b344, g344⟩ : ∃ z, z = T307.heap.size := ⟨_, rfl⟩
    rw [← g344] at A344 D344 st344
    replace X344 : Stand p l e room_1 (s.setVm s.vm) m #[.int p1, .int p2, .int p3, .int p4, .int p5, .int p6] below meth c T344 _ 8 68 := X344
    have K345 := K340.ext E344
    have C346 : CHv Z consts_1 s.vm h344 := CHv.ext E344 C341
    have R347 : CHr Z consts_1 s.vm h0 s.vm h344 := R343.trans (CHr.ext E344 C341)
    have F348_ : Fld Z h344 b344 "com/example/hearthline/hearthline/mapping/Unit" "system" "Ljava/lang/String;" .null := D344 (Or.inr (w47_ hw)) (ty := (.object "java/lang/String")) (by decide)
    have F349_ : Fld Z h344 b344 "com/example/hearthline/hearthline/mapping/Unit" "code" "Ljava/lang/String;" .null := D344 (Or.inr (w49_ hw)) (ty := (.object "java/lang/String")) (by decide)
    have O351 := O336.keep K307q (allS g_b301 all0)
    have g_b344 : n0 ≤ b344 := Nat.le_trans (Nat.le_trans (Nat.le_of_eq O351.1.symm) O351.2.1) (Nat.le_of_eq g344.symm)
    have O352 := O351.ext E344
    obtain ⟨_, T350, L350, X350, hQ350, st350⟩ := own_cI 8 68 [.ref b344] 417 #[iv p1, iv p2, iv p3, iv p4, iv p5, iv p6, rv b1, rv b18, rv b34, iv (p1 &&& (3 : Int32)), rv b301, iv 1, iv (ab4_ p2), iv (ab0_ p3), .unset, .unset] X344 hx hZ hown (w37_ hw) (w38_ hw) (w36_ hw) (w39_ hw) (rm21 l Z a0 hw  b344 b301 b18 h344 n0 O352 A344 F348_ g_b344 F349_) pd10 hml.symm (hb hby at_417) e344 rfl rfl rfl rfl rfl (by decide)
    obtain ⟨rfl, N350q, K350q, w353, w354, w355⟩ := hQ350
    have N350 := Fr.app N307 N350q
    have sz_b344 : h0.size ≤ b344 := Nat.le_trans K340.1 (Nat.le_of_eq g344.symm)
    have K356 := K345.trans K350q (allS (Or.inr sz_b344) all0)
    have C357 : CHv Z consts_1 s.vm T350.heap := CHv.keep K350q (sfS (Safe.exa hZ.alike A344 (by decide) (by decide)) sf0) C346
    have R358 : CHr Z consts_1 s.vm h0 s.vm T350.heap := R347.trans (CHr.keep K350q (sfS (Safe.exa hZ.alike A344 (by decide) (by decide)) sf0) C346)
    have E360_ := A301.keep K307q
    have E361_ := E360_.ext E344
    have E362_ := E361_.keep K350q
    have F363_ := V339_.ext E344
    have F364_ := F363_.keep K350q (ninS (Nat.ne_of_lt (Nat.lt_of_lt_of_le (Nat.lt_of_lt_of_le A301.lt K307q.1) (Nat.le_of_eq g344.symm))) nin0)
    have F365_ := C307q.ext E344
    have F366_ := F365_.keep K350q (ninS (Nat.ne_of_lt (Nat.lt_of_lt_of_le (Nat.lt_of_lt_of_le A301.lt K307q.1) (Nat.le_of_eq g344.symm))) nin0)
    have A367_ := A339_.ext E344
    have A368_ := A367_.keep K350q (ninS (Nat.ne_of_lt (Nat.lt_of_lt_of_le A339_.lt (Nat.le_of_eq g344.symm))) nin0)
    have O369 := O352.keep K350q (allS g_b344 all0)
    have hk370' : _ ≤ T350.heap.size := (Nat.le_trans (Nat.le_trans (Nat.le_trans (Nat.le_trans (Nat.le_trans (Nat.le_trans (Nat.le_trans (Nat.le_trans (Nat.le_trans (Nat.le_trans (Nat.le_trans (Nat.le_trans (Nat.le_trans (Nat.le_trans (Nat.le_trans (Nat.le_trans (Nat.le_trans (Nat.le_trans (Nat.le_trans (Nat.le_trans (Nat.le_trans (Nat.le_trans (Nat.le_trans (Nat.le_trans (Nat.le_trans (Nat.le_trans (Nat.le_trans (Nat.le_trans (Nat.le_trans (Nat.le_trans (Nat.le_trans (Nat.le_trans (Nat.le_trans (Nat.le_trans (Nat.le_trans (Nat.le_trans hk0 E1.1) (Nat.le_of_eq W7.size.symm)) (Nat.le_of_eq W13.size.symm)) E18.1) K24q.1) E34.1) (Nat.le_of_eq W40.size.symm)) (Nat.le_of_eq W47.size.symm)) (Nat.le_of_eq W53.size.symm)) (Nat.le_of_eq W59.size.symm)) (Nat.le_of_eq W65.size.symm)) (Nat.le_of_eq W71.size.symm)) (Nat.le_of_eq W77.size.symm)) (Nat.le_of_eq W83.size.symm)) (Nat.le_of_eq W89.size.symm)) (Nat.le_of_eq W95.size.symm)) (Nat.le_of_eq W101.size.symm)) (Nat.le_of_eq W107.size.symm)) (Nat.le_of_eq W113.size.symm)) (Nat.le_of_eq W119.size.symm)) (Nat.le_of_eq W125.size.symm)) (Nat.le_of_eq W131.size.symm)) (Nat.le_of_eq W137.size.symm)) (Nat.le_of_eq W143.size.symm)) (Nat.le_of_eq W149.size.symm)) (Nat.le_of_eq W155.size.symm)) (Nat.le_of_eq W161.size.symm)) (Nat.le_of_eq W167.size.symm)) (Nat.le_of_eq W173.size.symm)) (Nat.le_of_eq W179.size.symm)) (Nat.le_of_eq W185.size.symm)) (Nat.le_of_eq W296.size.symm)) E301.1) K307q.1) E344.1) K350q.1)
    have E371_ := A344.keep K350q
    obtain ⟨cq359, kq359, q359a, q359b, q359c⟩ := isOf hZ rfl E371_
    obtain ⟨_, T359, L359, X359, hQ359, hS359, hZ359, ho359, CR359, st359⟩ := own_cbS 8 68 2 104 10 172 (X350.virtualBackS hx (y := Y12_) (z := Y12_) hown (mvT hZ (w50_ hw)) (mvT hZ (w51_ hw)) (notFace_of_selects (args := #[]) (mvT hZ (w53_ hw))) (mvT hZ (w53_ hw)) (mvT hZ (w52_ hw)) (by decide) (backOfSH (W := 0) (EL := consts_1) (s := s) (rm24 l Z a0 hw G1 b344 b301 b339 (own_U.set ((ab4_ p2)).toNatClampNeg (ab0_ p3)) c339_ b18 T350.heap n0 O369 O2 P5 w354 E362_ F364_ A368_ hcd339 hbd339 (Nat.le_trans (Nat.le_of_eq (own_setlen _ _)) (lE rfl)) F366_ (own_setT hc294 (own_lt25 p2)) w355) hZ (w54_ hw) (w36_ hw) (lE rfl) (lE rfl) hEL C357) q359a q359c (g := (mkF m 420 #[iv p1, iv p2, iv p3, iv p4, iv p5, iv p6, rv b1, rv b18, rv b34, iv (p1 &&& (3 : Int32)), rv b301, iv 1, iv (ab4_ p2), iv (ab0_ p3), .unset, .unset] [.ref b344])) rfl hml.symm (Steps.refl _) (argsL := []) (rest := []) (lenOf pd12 rfl) rfl (own_hw rfl) (hb hby at_420) (fun _ _ => ⟨rfl, rfl, (lE rfl : 8 + 2 ≤ _), (lE rfl : 68 + 104 ≤ _)⟩)) rfl rfl hS0 hk370' hZ hown
    obtain ⟨rfl, N359q, K359q⟩ := hQ359
    have N359 := Fr.app N350 N359q
    have hk359 : T359.heap.size ≤ T359.heap.size := Nat.le_refl _
    have K372 := K356.trans K359q (fun x q => nomatch q)
    have R374 := R358.trans CR359
    have O376 := O369.keep K359q all0
    have E377_ := A18.keep K24q
    have E378_ := E377_.ext E34
    have E379_ := E378_.wr W40
    have E380_ := E379_.wr W47
    have E381_ := E380_.wr W53
    have E382_ := E381_.wr W59
    have E383_ := E382_.wr W65
    have E384_ := E383_.wr W71
    have E385_ := E384_.wr W77
    have E386_ := E385_.wr W83
    have E387_ := E386_.wr W89
    have E388_ := E387_.wr W95
    have E389_ := E388_.wr W101
    have E390_ := E389_.wr W107
    have E391_ := E390_.wr W113
    have E392_ := E391_.wr W119
    have E393_ := E392_.wr W125
    have E394_ := E393_.wr W131
    have E395_ := E394_.wr W137
    have E396_ := E395_.wr W143
    have E397_ := E396_.wr W149
    have E398_ := E397_.wr W155
    have E399_ := E398_.wr W161
    have E400_ := E399_.wr W167
    have E401_ := E400_.wr W173
    have E402_ := E401_.wr W179
    have E403_ := E402_.wr W185
    have E404_ := E403_.wr W296
    have E405_ := E404_.ext E301
    have E406_ := E405_.keep K307q
    have E407_ := E406_.ext E344
    have E408_ := E407_.keep K350q
    have E409_ := E408_.keep K359q
    obtain ⟨_, T375, L375, X375, hQ375, st375⟩ := own_cV 10 172 [] 439 #[iv p1, iv p2, iv p3, iv p4, iv p5, iv p6, rv b1, rv b18, rv b34, iv (p1 &&& (3 : Int32)), rv b301, iv 1, rv b18, iv (ab0_ p3), .unset, .unset] X359 hx hZ359 ho359 E409_ (w61_ hw) (w57_ hw) (notFace_of_selects (args := #[]) (mvT hZ359 (w59_ hw))) (w59_ hw) (w58_ hw) (w4_ hw) (w60_ hw) (rm23 l Z a0 hw  b18 T359.heap n0 O376 ) pd11 hml.symm (hb hby at_439) rfl rfl rfl rfl rfl (by decide)
    obtain ⟨rfl, N375q, e375q⟩ := hQ375
    have N375 := Fr.app N359 N375q
    refine own_lvW X375 Bd.notSynchronized hS359 hk359 (v := (some (.int 1))) (fun h => by rw [Bd.returns] at h; cases h) e375q hh ⟨rfl, N375⟩ (R374.trans (CHv.at X375 hZ359 hEL CR359.1)) (lE rfl) (lE rfl) (fun fs hr => pr293 _ (by
     show Sx p e below T185 m 233 #[iv p1, iv p2, iv p3, iv p4, iv p5, iv p6, rv b1, rv b18, rv b34, iv (p1 &&& (3 : Int32)), .unset, .unset, iv (ab4_ p2), iv (ab0_ p3), .unset, .unset] [(.int (ab0_ p3)), (.int (own_at own_U (ab4_ p2)))] _
     refine zn X185 Bd at_233 (XT.ii_ne_f (hc294 : (own_at own_U (ab4_ p2)) = (ab0_ p3))) ?_
     refine zc X185 Bd at_236 ?_
     refine zg (pc' := 241) X185 Bd at_237 rfl ?_
     refine zs X185 Bd at_241 (l' := #[iv p1, iv p2, iv p3, iv p4, iv p5, iv p6, rv b1, rv b18, rv b34, iv (p1 &&& (3 : Int32)), .unset, iv 1, iv (ab4_ p2), iv (ab0_ p3), .unset, .unset]) rfl ?_
     refine za X185 Bd at_243 rfl rfl ?_
     refine zi X185 Bd at_245 rfl ?_
     refine zi X185 Bd at_247 rfl ?_
     refine st296 _ ?_
     refine st301 _ ?_
     refine XS.dup X301.here hx rfl (hb hby at_253) rfl rfl ?_
     refine za X301 Bd at_254 rfl rfl ?_
     refine st307.trans ?_
     refine XS.astore X307.here hx rfl (hb hby at_259) rfl rfl (l' := #[iv p1, iv p2, iv p3, iv p4, iv p5, iv p6, rv b1, rv b18, rv b34, iv (p1 &&& (3 : Int32)), rv b301, iv 1, iv (ab4_ p2), iv (ab0_ p3), .unset, .unset]) rfl ?_
     refine zg (pc' := 409) X307 Bd at_261 rfl ?_
     refine st344 _ ?_
     refine XS.dup X344.here hx rfl (hb hby at_412) rfl rfl ?_
     refine za X344 Bd at_413 rfl rfl ?_
     refine za X344 Bd at_415 rfl rfl ?_
     refine st350 _ ?_
     refine st359.trans ?_
     refine XS.astore X359.here hx rfl (hb hby at_423) rfl rfl (l' := #[iv p1, iv p2, iv p3, iv p4, iv p5, iv p6, rv b1, rv b18, rv b34, iv (p1 &&& (3 : Int32)), rv b301, iv 1, rv b18, iv (ab0_ p3), .unset, .unset]) rfl ?_
     refine zi X359 Bd at_425 rfl ?_
     refine zo X359 Bd at_427 (XT.i0_eq_f ((by decide) : ¬ ((1 : Int32) = (0 : Int32)))) ?_
     refine za X359 Bd at_430 rfl rfl ?_
     refine XS.ifnullNo X359.here hx rfl (hb hby at_432) rfl ?_
     show Sx p e below T359 m 435 #[iv p1, iv p2, iv p3, iv p4, iv p5, iv p6, rv b1, rv b18, rv b34, iv (p1 &&& (3 : Int32)), rv b301, iv 1, rv b18, iv (ab0_ p3), .unset, .unset] [] _
     refine za X359 Bd at_435 rfl rfl ?_
     refine za X359 Bd at_437 rfl rfl ?_
     refine st375 _ ?_
     refine zo X375 Bd at_442 (XT.i0_eq_f ((by decide) : ¬ ((1 : Int32) = (0 : Int32)))) ?_
     refine zc X375 Bd at_445 ?_
     refine zg (pc' := 450) X375 Bd at_446 rfl ?_
     exact retN X375 hx (t := .boolean) Bd.returns (by simp) (hb hby at_450) hr))
   ·
    skip
    have av410 := A290_
    obtain ⟨cl410, Ar410, q410, S410, N410, H410, Gf410⟩ := av410
    have hin411 : ¬ ((ab4_ p2) < 0 ∨ cl410.slots.size ≤ ((ab4_ p2) : Int32).toNatClampNeg) := inb_of S410 (own_b25 p2)
    obtain ⟨T411, h411, X411, e411, W411, st411⟩ := stC X185 hx hZ e185 Ar410 (j := (ab4_ p2)) hin411 (g := (mkF m 249 #[iv p1, iv p2, iv p3, iv p4, iv p5, iv p6, rv b1, rv b18, rv b34, iv (p1 &&& (3 : Int32)), .unset, iv 0, iv (ab4_ p2), iv (ab0_ p3), .unset, .unset] [(.int (ab0_ p3)), (.int (ab4_ p2)), .ref b34])) rfl rfl (hb hby at_249)
    have N411_ := Fr.snoc X411 N185_ g_b34
    have K412 := K186.wr W411 (Or.inr sz_b34)
    have C413 : CHv Z consts_1 s.vm h411 := CHv.wr W411 (Safe.arv hZ.alike A290_ (by simp)) C187
    have R414 : CHr Z consts_1 s.vm h0 s.vm h411 := R188.trans (CHr.wr W411 (Safe.arv hZ.alike A290_ (by simp)) C187)
    have A415_ : Arv Z h411 b34 c34 .char (25 : Int32) ((own_U.set ((ab4_ p2)).toNatClampNeg (ab0_ p3)).map Value.int) (.int 0) := by rw [List.map_set]; have q := Arv.set (v := .int (nar .char (ab0_ p3))) Ar410 q410 S410 N410 H410 Gf410 (fits_nar_char _) W411 _ rfl (own_lt25 p2); rw [((own_nar_i2c _) : nar .char (ab0_ p3) = (ab0_ p3))] at q; exact q
    obtain ⟨T416, h416, X416, e416, E416, A416, D416, -, st416⟩ := newO X411 hx hZ hown (w2_ hw) (w3_ hw) (w4_ hw) e411 (g := (mkF m 250 #[iv p1, iv p2, iv p3, iv p4, iv p5, iv p6, rv b1, rv b18, rv b34, iv (p1 &&& (3 : Int32)), .unset, iv 0, iv (ab4_ p2), iv (ab0_ p3), .unset, .unset] [])) rfl (hb hby at_250) (lE rfl) (lE rfl)
    obtain ⟨b416, g416⟩ : ∃ z, z = h411.size := ⟨_, rfl⟩
    rw [← g416] at A416 D416 st416
    replace X416 : Stand p l e room_1 (s.setVm s.vm) m #[.int p1, .int p2, .int p3, .int p4, .int p5, .int p6] below meth c T416 _ 6 41 := X416
    have K417 := K412.ext E416
    have C418 : CHv Z consts_1 s.vm h416 := CHv.ext E416 C413
    have R419 : CHr Z consts_1 s.vm h0 s.vm h416 := R414.trans (CHr.ext E416 C413)
    have F420_ : Fld Z h416 b416 "java/lang/String" "coder" "B" (.int 0) := D416 (Or.inr (w28_ hw)) (ty := .byte) (by decide)
    have F421_ : Fld Z h416 b416 "java/lang/String" "value" "[B" .null := D416 (Or.inr (w30_ hw)) (ty := (.array .byte)) (by decide)
    have hp423 : ∀ c ∈ (own_U.set ((ab4_ p2)).toNatClampNeg (ab0_ p3)), ¬ c < 0 ∧ ¬ (255 : Int32) < c := own_setlat (own_lat p3)
    have O424 := O41.ext E34
    have O425 := O424.wr W40 g_b34
    have O426 := O425.wr W47 g_b34
    have O427 := O426.wr W53 g_b34
    have O428 := O427.wr W59 g_b34
    have O429 := O428.wr W65 g_b34
    have O430 := O429.wr W71 g_b34
    have O431 := O430.wr W77 g_b34
    have O432 := O431.wr W83 g_b34
    have O433 := O432.wr W89 g_b34
    have O434 := O433.wr W95 g_b34
    have O435 := O434.wr W101 g_b34
    have O436 := O435.wr W107 g_b34
    have O437 := O436.wr W113 g_b34
    have O438 := O437.wr W119 g_b34
    have O439 := O438.wr W125 g_b34
    have O440 := O439.wr W131 g_b34
    have O441 := O440.wr W137 g_b34
    have O442 := O441.wr W143 g_b34
    have O443 := O442.wr W149 g_b34
    have O444 := O443.wr W155 g_b34
    have O445 := O444.wr W161 g_b34
    have O446 := O445.wr W167 g_b34
    have O447 := O446.wr W173 g_b34
    have O448 := O447.wr W179 g_b34
    have O449 := O448.wr W185 g_b34
    have O450 := O449.wr W411 g_b34
    have g_b416 : n0 ≤ b416 := Nat.le_trans (Nat.le_trans (Nat.le_of_eq O450.1.symm) O450.2.1) (Nat.le_of_eq g416.symm)
    have O451 := O450.ext E416
    have A452_ := A415_.ext E416
    obtain ⟨Lg453, Xg453, Ng453⟩ := own_gl X416 N411_
    obtain ⟨_, T422, L422, X422, hQ422, st422⟩ := own_cb 6 41 1 25 7 66 (Xg453.specialBack hx (y := Y9_) rfl hown (mvT hZ (w5_ hw)) (mvT hZ (w6_ hw)) (mvT hZ (w7_ hw)) (by decide) (StrChars.Road.backV (s := s.setVm s.vm) (W := 1) hZ (own_ws hw) (kI := 4) (w3_ hw) (cs := (own_U.set ((ab4_ p2)).toNatClampNeg (ab0_ p3))) (bs := (own_U.set ((ab4_ p2)).toNatClampNeg (ab0_ p3)).map (fun c => c.toInt8.toInt32)) (n := 25) g_b416 (Nat.le_trans (Nat.le_of_eq O451.1.symm) O451.2.1) A416 F421_ F420_ A452_ (O2.ext O451.2) P5 (own_setlen _ _) rfl (lE rfl) (lE rfl) hp423 rfl (lE rfl) (lE rfl)) (g := (mkF m 256 #[iv p1, iv p2, iv p3, iv p4, iv p5, iv p6, rv b1, rv b18, rv b34, iv (p1 &&& (3 : Int32)), .unset, iv 0, iv (ab4_ p2), iv (ab0_ p3), .unset, .unset] [.ref b34, .ref b416, .ref b416])) rfl hml.symm (Steps.refl _) (a := b416) (argsL := [.ref b34]) (rest := [.ref b416]) (lenOf pd8 rfl) rfl (own_hw rfl) (hb hby at_256) (fun _ _ => ⟨rfl, e416, (lE rfl : 6 + 1 ≤ _), (lE rfl : 41 + 25 ≤ _)⟩)) rfl rfl
    obtain ⟨rfl, N422q, K422q, E422q, C422q, b454, c454_, u454, g454, ne454, V454_, A454_⟩ := hQ422
    have N422 := Fr.app Ng453 N422q
    have sz_b416 : h0.size ≤ b416 := Nat.le_trans K412.1 (Nat.le_of_eq g416.symm)
    have K455 := K417.trans K422q (allS (Or.inr sz_b416) all0)
    have f457 : Safe Z consts_1 s.vm h416 b416 := Safe.ext E416 C413 (Safe.new (Nat.le_of_eq g416.symm))
    have C456 : CHv Z consts_1 s.vm T422.heap := CHv.keep K422q (sfS f457 sf0) C418
    have R458 : CHr Z consts_1 s.vm h0 s.vm T422.heap := R419.trans (CHr.keep K422q (sfS f457 sf0) C418)
    have hcd454 : StrChars.Road.CodA (own_U.set ((ab4_ p2)).toNatClampNeg (ab0_ p3)) 0 (25 : Int32) (((own_U.set ((ab4_ p2)).toNatClampNeg (ab0_ p3)).map (fun c => c.toInt8.toInt32)).map Value.int) := StrChars.Road.codOf (n := 25) (own_setlen _ _) (fun x hx => (hp423 x hx).2)
    have hbd454 : ∀ x ∈ (own_U.set ((ab4_ p2)).toNatClampNeg (ab0_ p3)), ¬ x < 0 ∧ ¬ (65535 : Int32) < x := own_up _ hp423
    obtain ⟨T459, h459, X459, e459, E459, A459, D459, -, st459⟩ := newO X422 hx hZ hown (w34_ hw) (w35_ hw) (w36_ hw) rfl (g := (mkF m 409 #[iv p1, iv p2, iv p3, iv p4, iv p5, iv p6, rv b1, rv b18, rv b34, iv (p1 &&& (3 : Int32)), rv b416, iv 0, iv (ab4_ p2), iv (ab0_ p3), .unset, .unset] [])) rfl (hb hby at_409) (lE rfl) (lE rfl)
    obtain ⟨b459, g459⟩ : ∃ z, z = T422.heap.size := ⟨_, rfl⟩
    rw [← g459] at A459 D459 st459
    replace X459 : Stand p l e room_1 (s.setVm s.vm) m #[.int p1, .int p2, .int p3, .int p4, .int p5, .int p6] below meth c T459 _ 8 68 := X459
    have K460 := K455.ext E459
    have C461 : CHv Z consts_1 s.vm h459 := CHv.ext E459 C456
    have R462 : CHr Z consts_1 s.vm h0 s.vm h459 := R458.trans (CHr.ext E459 C456)
    have F463_ : Fld Z h459 b459 "com/example/hearthline/hearthline/mapping/Unit" "system" "Ljava/lang/String;" .null := D459 (Or.inr (w47_ hw)) (ty := (.object "java/lang/String")) (by decide)
    have F464_ : Fld Z h459 b459 "com/example/hearthline/hearthline/mapping/Unit" "code" "Ljava/lang/String;" .null := D459 (Or.inr (w49_ hw)) (ty := (.object "java/lang/String")) (by decide)
    have O466 := O451.keep K422q (allS g_b416 all0)
    have g_b459 : n0 ≤ b459 := Nat.le_trans (Nat.le_trans (Nat.le_of_eq O466.1.symm) O466.2.1) (Nat.le_of_eq g459.symm)
    have O467 := O466.ext E459
    obtain ⟨_, T465, L465, X465, hQ465, st465⟩ := own_cI 8 68 [.ref b459] 417 #[iv p1, iv p2, iv p3, iv p4, iv p5, iv p6, rv b1, rv b18, rv b34, iv (p1 &&& (3 : Int32)), rv b416, iv 0, iv (ab4_ p2), iv (ab0_ p3), .unset, .unset] X459 hx hZ hown (w37_ hw) (w38_ hw) (w36_ hw) (w39_ hw) (rm21 l Z a0 hw  b459 b416 b18 h459 n0 O467 A459 F463_ g_b459 F464_) pd10 hml.symm (hb hby at_417) e459 rfl rfl rfl rfl rfl (by decide)
    obtain ⟨rfl, N465q, K465q, w468, w469, w470⟩ := hQ465
    have N465 := Fr.app N422 N465q
    have sz_b459 : h0.size ≤ b459 := Nat.le_trans K455.1 (Nat.le_of_eq g459.symm)
    have K471 := K460.trans K465q (allS (Or.inr sz_b459) all0)
    have C472 : CHv Z consts_1 s.vm T465.heap := CHv.keep K465q (sfS (Safe.exa hZ.alike A459 (by decide) (by decide)) sf0) C461
    have R473 : CHr Z consts_1 s.vm h0 s.vm T465.heap := R462.trans (CHr.keep K465q (sfS (Safe.exa hZ.alike A459 (by decide) (by decide)) sf0) C461)
    have E475_ := A416.keep K422q
    have E476_ := E475_.ext E459
    have E477_ := E476_.keep K465q
    have F478_ := V454_.ext E459
    have F479_ := F478_.keep K465q (ninS (Nat.ne_of_lt (Nat.lt_of_lt_of_le (Nat.lt_of_lt_of_le A416.lt K422q.1) (Nat.le_of_eq g459.symm))) nin0)
    have F480_ := C422q.ext E459
    have F481_ := F480_.keep K465q (ninS (Nat.ne_of_lt (Nat.lt_of_lt_of_le (Nat.lt_of_lt_of_le A416.lt K422q.1) (Nat.le_of_eq g459.symm))) nin0)
    have A482_ := A454_.ext E459
    have A483_ := A482_.keep K465q (ninS (Nat.ne_of_lt (Nat.lt_of_lt_of_le A454_.lt (Nat.le_of_eq g459.symm))) nin0)
    have O484 := O467.keep K465q (allS g_b459 all0)
    have hk485' : _ ≤ T465.heap.size := (Nat.le_trans (Nat.le_trans (Nat.le_trans (Nat.le_trans (Nat.le_trans (Nat.le_trans (Nat.le_trans (Nat.le_trans (Nat.le_trans (Nat.le_trans (Nat.le_trans (Nat.le_trans (Nat.le_trans (Nat.le_trans (Nat.le_trans (Nat.le_trans (Nat.le_trans (Nat.le_trans (Nat.le_trans (Nat.le_trans (Nat.le_trans (Nat.le_trans (Nat.le_trans (Nat.le_trans (Nat.le_trans (Nat.le_trans (Nat.le_trans (Nat.le_trans (Nat.le_trans (Nat.le_trans (Nat.le_trans (Nat.le_trans (Nat.le_trans (Nat.le_trans (Nat.le_trans (Nat.le_trans hk0 E1.1) (Nat.le_of_eq W7.size.symm)) (Nat.le_of_eq W13.size.symm)) E18.1) K24q.1) E34.1) (Nat.le_of_eq W40.size.symm)) (Nat.le_of_eq W47.size.symm)) (Nat.le_of_eq W53.size.symm)) (Nat.le_of_eq W59.size.symm)) (Nat.le_of_eq W65.size.symm)) (Nat.le_of_eq W71.size.symm)) (Nat.le_of_eq W77.size.symm)) (Nat.le_of_eq W83.size.symm)) (Nat.le_of_eq W89.size.symm)) (Nat.le_of_eq W95.size.symm)) (Nat.le_of_eq W101.size.symm)) (Nat.le_of_eq W107.size.symm)) (Nat.le_of_eq W113.size.symm)) (Nat.le_of_eq W119.size.symm)) (Nat.le_of_eq W125.size.symm)) (Nat.le_of_eq W131.size.symm)) (Nat.le_of_eq W137.size.symm)) (Nat.le_of_eq W143.size.symm)) (Nat.le_of_eq W149.size.symm)) (Nat.le_of_eq W155.size.symm)) (Nat.le_of_eq W161.size.symm)) (Nat.le_of_eq W167.size.symm)) (Nat.le_of_eq W173.size.symm)) (Nat.le_of_eq W179.size.symm)) (Nat.le_of_eq W185.size.symm)) (Nat.le_of_eq W411.size.symm)) E416.1) K422q.1) E459.1) K465q.1)
    have E486_ := A459.keep K465q
    obtain ⟨cq474, kq474, q474a, q474b, q474c⟩ := isOf hZ rfl E486_
    obtain ⟨_, T474, L474, X474, hQ474, hS474, hZ474, ho474, CR474, st474⟩ := own_cbS 8 68 2 104 10 172 (X465.virtualBackS hx (y := Y12_) (z := Y12_) hown (mvT hZ (w50_ hw)) (mvT hZ (w51_ hw)) (notFace_of_selects (args := #[]) (mvT hZ (w53_ hw))) (mvT hZ (w53_ hw)) (mvT hZ (w52_ hw)) (by decide) (backOfSH (W := 0) (EL := consts_1) (s := s) (rm25 l Z a0 hw G1 b459 b416 b454 (own_U.set ((ab4_ p2)).toNatClampNeg (ab0_ p3)) c454_ T465.heap n0 O484 O2 P5 w469 E477_ F479_ A483_ hcd454 hbd454 (Nat.le_trans (Nat.le_of_eq (own_setlen _ _)) (lE rfl)) F481_ (own_setF hc294 (own_lt25 p2))) hZ (w54_ hw) (w36_ hw) (lE rfl) (lE rfl) hEL C472) q474a q474c (g := (mkF m 420 #[iv p1, iv p2, iv p3, iv p4, iv p5, iv p6, rv b1, rv b18, rv b34, iv (p1 &&& (3 : Int32)), rv b416, iv 0, iv (ab4_ p2), iv (ab0_ p3), .unset, .unset] [.ref b459])) rfl hml.symm (Steps.refl _) (argsL := []) (rest := []) (lenOf pd12 rfl) rfl (own_hw rfl) (hb hby at_420) (fun _ _ => ⟨rfl, rfl, (lE rfl : 8 + 2 ≤ _), (lE rfl : 68 + 104 ≤ _)⟩)) rfl rfl hS0 hk485' hZ hown
    obtain ⟨rfl, N474q, K474q⟩ := hQ474
    have N474 := Fr.app N465 N474q
    have hk474 : T474.heap.size ≤ T474.heap.size := Nat.le_refl _
    have K487 := K471.trans K474q (fun x q => nomatch q)
    have R489 := R473.trans CR474
    refine own_lvW X474 Bd.notSynchronized hS474 hk474 (v := (some (.int 1))) (fun h => by rw [Bd.returns] at h; cases h) rfl hh ⟨rfl, N474⟩ (R489.trans (CHv.at X474 hZ474 hEL CR474.1)) (lE rfl) (lE rfl) (fun fs hr => pr293 _ (by
     show Sx p e below T185 m 233 #[iv p1, iv p2, iv p3, iv p4, iv p5, iv p6, rv b1, rv b18, rv b34, iv (p1 &&& (3 : Int32)), .unset, .unset, iv (ab4_ p2), iv (ab0_ p3), .unset, .unset] [(.int (ab0_ p3)), (.int (own_at own_U (ab4_ p2)))] _
     refine zy (pc' := 240) X185 Bd at_233 (XT.ii_ne_t (hc294 : ¬ ((own_at own_U (ab4_ p2)) = (ab0_ p3)))) rfl ?_
     refine zc X185 Bd at_240 ?_
     refine zs X185 Bd at_241 (l' := #[iv p1, iv p2, iv p3, iv p4, iv p5, iv p6, rv b1, rv b18, rv b34, iv (p1 &&& (3 : Int32)), .unset, iv 0, iv (ab4_ p2), iv (ab0_ p3), .unset, .unset]) rfl ?_
     refine za X185 Bd at_243 rfl rfl ?_
     refine zi X185 Bd at_245 rfl ?_
     refine zi X185 Bd at_247 rfl ?_
     refine st411 _ ?_
     refine st416 _ ?_
     refine XS.dup X416.here hx rfl (hb hby at_253) rfl rfl ?_
     refine za X416 Bd at_254 rfl rfl ?_
     refine st422.trans ?_
     refine XS.astore X422.here hx rfl (hb hby at_259) rfl rfl (l' := #[iv p1, iv p2, iv p3, iv p4, iv p5, iv p6, rv b1, rv b18, rv b34, iv (p1 &&& (3 : Int32)), rv b416, iv 0, iv (ab4_ p2), iv (ab0_ p3), .unset, .unset]) rfl ?_
     refine zg (pc' := 409) X422 Bd at_261 rfl ?_
     refine st459 _ ?_
     refine XS.dup X459.here hx rfl (hb hby at_412) rfl rfl ?_
     refine za X459 Bd at_413 rfl rfl ?_
     refine za X459 Bd at_415 rfl rfl ?_
     refine st465 _ ?_
     refine st474.trans ?_
     refine XS.astore X474.here hx rfl (hb hby at_423) rfl rfl (l' := #[iv p1, iv p2, iv p3, iv p4, iv p5, iv p6, rv b1, rv b18, rv b34, iv (p1 &&& (3 : Int32)), rv b416, iv 0, .val .null, iv (ab0_ p3), .unset, .unset]) rfl ?_
     refine zi X474 Bd at_425 rfl ?_
     refine zp (pc' := 451) X474 Bd at_427 (XT.i0_eq_t ((by decide) : (0 : Int32) = (0 : Int32))) rfl ?_
     refine za X474 Bd at_451 rfl rfl ?_
     refine XS.ifnonnullNo X474.here hx rfl (hb hby at_453) rfl ?_
     refine zc X474 Bd at_456 ?_
     show Sx p e below T474 m 457 #[iv p1, iv p2, iv p3, iv p4, iv p5, iv p6, rv b1, rv b18, rv b34, iv (p1 &&& (3 : Int32)), rv b416, iv 0, .val .null, iv (ab0_ p3), .unset, .unset] [.int 1] _
     refine zg (pc' := 461) X474 Bd at_457 rfl ?_
     exact retN X474 hx (t := .boolean) Bd.returns (by simp) (hb hby at_461) hr))
  ·
   skip
   have pr490 : Pr p e below T185 m 267 #[iv p1, iv p2, iv p3, iv p4, iv p5, iv p6, rv b1, rv b18, rv b34, iv (p1 &&& (3 : Int32)), .unset, .unset, .unset, .unset, .unset, .unset] [.int 2, (.int (p1 &&& (3 : Int32)))] s₁ en := fun t k => pr288 t (by
    show Sx p e below T185 m 206 #[iv p1, iv p2, iv p3, iv p4, iv p5, iv p6, rv b1, rv b18, rv b34, iv (p1 &&& (3 : Int32)), .unset, .unset, .unset, .unset, .unset, .unset] [.int 1, (.int (p1 &&& (3 : Int32)))] _
    refine zy (pc' := 264) X185 Bd at_206 (XT.ii_ne_t (hc289 : ¬ ((p1 &&& (3 : Int32)) = (1 : Int32)))) rfl ?_
    refine zi X185 Bd at_264 rfl ?_
    refine zc X185 Bd at_266 ?_
    exact k)
   by_cases hc491 : (p1 &&& (3 : Int32)) = (2 : Int32)
   ·
    skip
    have hk493' : _ ≤ h185.size := (Nat.le_trans (Nat.le_trans (Nat.le_trans (Nat.le_trans (Nat.le_trans (Nat.le_trans (Nat.le_trans (Nat.le_trans (Nat.le_trans (Nat.le_trans (Nat.le_trans (Nat.le_trans (Nat.le_trans (Nat.le_trans (Nat.le_trans (Nat.le_trans (Nat.le_trans (Nat.le_trans (Nat.le_trans (Nat.le_trans (Nat.le_trans (Nat.le_trans (Nat.le_trans (Nat.le_trans (Nat.le_trans (Nat.le_trans (Nat.le_trans (Nat.le_trans (Nat.le_trans (Nat.le_trans (Nat.le_trans hk0 E1.1) (Nat.le_of_eq W7.size.symm)) (Nat.le_of_eq W13.size.symm)) E18.1) K24q.1) E34.1) (Nat.le_of_eq W40.size.symm)) (Nat.le_of_eq W47.size.symm)) (Nat.le_of_eq W53.size.symm)) (Nat.le_of_eq W59.size.symm)) (Nat.le_of_eq W65.size.symm)) (Nat.le_of_eq W71.size.symm)) (Nat.le_of_eq W77.size.symm)) (Nat.le_of_eq W83.size.symm)) (Nat.le_of_eq W89.size.symm)) (Nat.le_of_eq W95.size.symm)) (Nat.le_of_eq W101.size.symm)) (Nat.le_of_eq W107.size.symm)) (Nat.le_of_eq W113.size.symm)) (Nat.le_of_eq W119.size.symm)) (Nat.le_of_eq W125.size.symm)) (Nat.le_of_eq W131.size.symm)) (Nat.le_of_eq W137.size.symm)) (Nat.le_of_eq W143.size.symm)) (Nat.le_of_eq W149.size.symm)) (Nat.le_of_eq W155.size.symm)) (Nat.le_of_eq W161.size.symm)) (Nat.le_of_eq W167.size.symm)) (Nat.le_of_eq W173.size.symm)) (Nat.le_of_eq W179.size.symm)) (Nat.le_of_eq W185.size.symm))
    obtain ⟨b492, T492, h492, k492, t492, c492, X492, e492, E492, hS492, hk492, hZ492, ho492, Ex492, Fc492, Fv492, Av492, lb492, lt492, CR492, -, sf492, st492⟩ := ldcCH (text := "urn:iso:std:iso:11073:10101") (EL := consts_1) X185 hx hZ hown (w87_ hw) hwS e185 hS0 hk493' hEL (by decide) C187 (vs := [.int 117, .int 114, .int 110, .int 58, .int 105, .int 115, .int 111, .int 58, .int 115, .int 116, .int 100, .int 58, .int 105, .int 115, .int 111, .int 58, .int 49, .int 49, .int 48, .int 55, .int 51, .int 58, .int 49, .int 48, .int 49, .int 48, .int 49]) (z := (27 : Int32)) ⟨by decide, by decide⟩ (by decide) (by decide) (g := (mkF m 270 #[iv p1, iv p2, iv p3, iv p4, iv p5, iv p6, rv b1, rv b18, rv b34, iv (p1 &&& (3 : Int32)), .unset, .unset, .unset, .unset, .unset, .unset] [])) rfl (hb hby at_270) (n := 108) (by decide) (lE rfl) (lE rfl) (lE rfl)
    have K494 := K186.ext E492
    have R496 := R188.trans CR492
    replace X492 : Stand p l e room_1 (s.setVm T492.vm) m #[.int p1, .int p2, .int p3, .int p4, .int p5, .int p6] below meth c T492 _ 7 149 := X492
    obtain ⟨T497, h497, X497, e497, E497, A497, D497, -, st497⟩ := newO X492 hx hZ492 ho492 (w34_ hw) (w35_ hw) (w36_ hw) e492 (g := (mkF m 409 #[iv p1, iv p2, iv p3, iv p4, iv p5, iv p6, rv b1, rv b18, rv b34, iv (p1 &&& (3 : Int32)), rv b492, iv 0, .unset, .unset, .unset, .unset] [])) rfl (hb hby at_409) (lE rfl) (lE rfl)
    obtain ⟨b497, g497⟩ : ∃ z, z = h492.size := ⟨_, rfl⟩
    rw [← g497] at A497 D497 st497
    replace X497 : Stand p l e room_1 (s.setVm T492.vm) m #[.int p1, .int p2, .int p3, .int p4, .int p5, .int p6] below meth c T497 _ 8 151 := X497
    have K498 := K494.ext E497
    have C499 : CHv Z consts_1 T492.vm h497 := CHv.ext E497 CR492.1
    have R500 : CHr Z consts_1 s.vm h0 T492.vm h497 := R496.trans (CHr.ext E497 CR492.1)
    have F501_ : Fld Z h497 b497 "com/example/hearthline/hearthline/mapping/Unit" "system" "Ljava/lang/String;" .null := D497 (Or.inr (w47_ hw)) (ty := (.object "java/lang/String")) (by decide)
    have F502_ : Fld Z h497 b497 "com/example/hearthline/hearthline/mapping/Unit" "code" "Ljava/lang/String;" .null := D497 (Or.inr (w49_ hw)) (ty := (.object "java/lang/String")) (by decide)
    have O504 := O41.ext E34
    have O505 := O504.wr W40 g_b34
    have O506 := O505.wr W47 g_b34
    have O507 := O506.wr W53 g_b34
    have O508 := O507.wr W59 g_b34
    have O509 := O508.wr W65 g_b34
    have O510 := O509.wr W71 g_b34
    have O511 := O510.wr W77 g_b34
    have O512 := O511.wr W83 g_b34
    have O513 := O512.wr W89 g_b34
    have O514 := O513.wr W95 g_b34
    have O515 := O514.wr W101 g_b34
    have O516 := O515.wr W107 g_b34
    have O517 := O516.wr W113 g_b34
    have O518 := O517.wr W119 g_b34
    have O519 := O518.wr W125 g_b34
    have O520 := O519.wr W131 g_b34
    have O521 := O520.wr W137 g_b34
    have O522 := O521.wr W143 g_b34
    have O523 := O522.wr W149 g_b34
    have O524 := O523.wr W155 g_b34
    have O525 := O524.wr W161 g_b34
    have O526 := O525.wr W167 g_b34
    have O527 := O526.wr W173 g_b34
    have O528 := O527.wr W179 g_b34
    have O529 := O528.wr W185 g_b34
    have O530 := O529.ext E492
    have g_b497 : n0 ≤ b497 := Nat.le_trans (Nat.le_trans (Nat.le_of_eq O530.1.symm) O530.2.1) (Nat.le_of_eq g497.symm)
    have O531 := O530.ext E497
    obtain ⟨Lg532, Xg532, Ng532⟩ := own_gl X497 N185_
    obtain ⟨_, T503, L503, X503, hQ503, st503⟩ := own_cI 8 151 [.ref b497] 417 #[iv p1, iv p2, iv p3, iv p4, iv p5, iv p6, rv b1, rv b18, rv b34, iv (p1 &&& (3 : Int32)), rv b492, iv 0, .unset, .unset, .unset, .unset] Xg532 hx hZ492 ho492 (w37_ hw) (w38_ hw) (w36_ hw) (w39_ hw) (rm21 l Z a0 hw  b497 b492 b18 h497 n0 O531 A497 F501_ g_b497 F502_) pd10 hml.symm (hb hby at_417) e497 rfl rfl rfl rfl rfl (by decide)
    obtain ⟨rfl, N503q, K503q, w533, w534, w535⟩ := hQ503
    have N503 := Fr.app Ng532 N503q
    have sz_b497 : h0.size ≤ b497 := Nat.le_trans K494.1 (Nat.le_of_eq g497.symm)
    have K536 := K498.trans K503q (allS (Or.inr sz_b497) all0)
    have C537 : CHv Z consts_1 T492.vm T503.heap := CHv.keep K503q (sfS (Safe.exa hZ492.alike A497 (by decide) (by decide)) sf0) C499
    have R538 : CHr Z consts_1 s.vm h0 T492.vm T503.heap := R500.trans (CHr.keep K503q (sfS (Safe.exa hZ492.alike A497 (by decide) (by decide)) sf0) C499)
    have E540_ := Ex492.ext E497
    have E541_ := E540_.keep K503q
    have hp542 : ∀ c ∈ ([117, 114, 110, 58, 105, 115, 111, 58, 115, 116, 100, 58, 105, 115, 111, 58, 49, 49, 48, 55, 51, 58, 49, 48, 49, 48, 49] : List Int32), ¬ c < 0 ∧ ¬ (255 : Int32) < c := (List.forall_mem_cons.mpr ⟨(by decide), (List.forall_mem_cons.mpr ⟨(by decide), (List.forall_mem_cons.mpr ⟨(by decide), (List.forall_mem_cons.mpr ⟨(by decide), (List.forall_mem_cons.mpr ⟨(by decide), (List.forall_mem_cons.mpr ⟨(by decide), (List.forall_mem_cons.mpr ⟨(by decide), (List.forall_mem_cons.mpr ⟨(by decide), (List.forall_mem_cons.mpr ⟨(by decide), (List.forall_mem_cons.mpr ⟨(by decide), (List.forall_mem_cons.mpr ⟨(by decide), (List.forall_mem_cons.mpr ⟨(by decide), (List.forall_mem_cons.mpr ⟨(by decide), (List.forall_mem_cons.mpr ⟨(by decide), (List.forall_mem_cons.mpr ⟨(by decide), (List.forall_mem_cons.mpr ⟨(by decide), (List.forall_mem_cons.mpr ⟨(by decide), (List.forall_mem_cons.mpr ⟨(by decide), (List.forall_mem_cons.mpr ⟨(by decide), (List.forall_mem_cons.mpr ⟨(by decide), (List.forall_mem_cons.mpr ⟨(by decide), (List.forall_mem_cons.mpr ⟨(by decide), (List.forall_mem_cons.mpr ⟨(by decide), (List.forall_mem_cons.mpr ⟨(by decide), (List.forall_mem_cons.mpr ⟨(by decide), (List.forall_mem_cons.mpr ⟨(by decide), (List.forall_mem_cons.mpr ⟨(by decide), (fun _ q => nomatch q)⟩)⟩)⟩)⟩)⟩)⟩)⟩)⟩)⟩)⟩)⟩)⟩)⟩)⟩)⟩)⟩)⟩)⟩)⟩)⟩)⟩)⟩)⟩)⟩)⟩)⟩)⟩)
    have F543_ := Fv492.ext E497
    have F544_ := F543_.keep K503q (ninS (Nat.ne_of_lt (Nat.lt_of_lt_of_le Ex492.lt (Nat.le_of_eq g497.symm))) nin0)
    have F545_ := Fc492.ext E497
    have F546_ := F545_.keep K503q (ninS (Nat.ne_of_lt (Nat.lt_of_lt_of_le Ex492.lt (Nat.le_of_eq g497.symm))) nin0)
    have A547_ := Av492.ext E497
    have A548_ := A547_.keep K503q (ninS (Nat.ne_of_lt (Nat.lt_of_lt_of_le Av492.lt (Nat.le_of_eq g497.symm))) nin0)
    have O549 := O531.keep K503q (allS g_b497 all0)
    have hk550' : _ ≤ T503.heap.size := (Nat.le_trans (Nat.le_trans hk492 E497.1) K503q.1)
    have E551_ := A497.keep K503q
    obtain ⟨cq539, kq539, q539a, q539b, q539c⟩ := isOf hZ492 rfl E551_
    obtain ⟨_, T539, L539, X539, hQ539, hS539, hZ539, ho539, CR539, st539⟩ := own_cbS 8 151 2 104 10 255 (X503.virtualBackS hx (y := Y12_) (z := Y12_) ho492 (mvT hZ492 (w50_ hw)) (mvT hZ492 (w51_ hw)) (notFace_of_selects (args := #[]) (mvT hZ492 (w53_ hw))) (mvT hZ492 (w53_ hw)) (mvT hZ492 (w52_ hw)) (by decide) (backOfSH (W := 0) (EL := consts_1) (s := s) (rm26 l Z a0 hw G1 b497 b492 t492 c492 T503.heap n0 O549 O2 P5 w534 E541_ F544_ hp542 F546_ A548_) hZ492 (w54_ hw) (w36_ hw) (lE rfl) (lE rfl) hEL C537) q539a q539c (g := (mkF m 420 #[iv p1, iv p2, iv p3, iv p4, iv p5, iv p6, rv b1, rv b18, rv b34, iv (p1 &&& (3 : Int32)), rv b492, iv 0, .unset, .unset, .unset, .unset] [.ref b497])) rfl hml.symm (Steps.refl _) (argsL := []) (rest := []) (lenOf pd12 rfl) rfl (own_hw rfl) (hb hby at_420) (fun _ _ => ⟨rfl, rfl, (lE rfl : 8 + 2 ≤ _), (lE rfl : 151 + 104 ≤ _)⟩)) rfl rfl hS492 hk550' hZ492 ho492
    obtain ⟨rfl, N539q, K539q⟩ := hQ539
    have N539 := Fr.app N503 N539q
    have hk539 : T539.heap.size ≤ T539.heap.size := Nat.le_refl _
    have K552 := K536.trans K539q (fun x q => nomatch q)
    have R554 := R538.trans CR539
    refine own_lvW X539 Bd.notSynchronized hS539 hk539 (v := (some (.int 1))) (fun h => by rw [Bd.returns] at h; cases h) rfl hh ⟨rfl, N539⟩ (R554.trans (CHv.at X539 hZ539 hEL CR539.1)) (lE rfl) (lE rfl) (fun fs hr => pr490 _ (by
     show Sx p e below T185 m 267 #[iv p1, iv p2, iv p3, iv p4, iv p5, iv p6, rv b1, rv b18, rv b34, iv (p1 &&& (3 : Int32)), .unset, .unset, .unset, .unset, .unset, .unset] [.int 2, (.int (p1 &&& (3 : Int32)))] _
     refine zn X185 Bd at_267 (XT.ii_ne_f (hc491 : (p1 &&& (3 : Int32)) = (2 : Int32))) ?_
     refine st492 _ ?_
     refine XS.astore X492.here hx rfl (hb hby at_272) rfl rfl (l' := #[iv p1, iv p2, iv p3, iv p4, iv p5, iv p6, rv b1, rv b18, rv b34, iv (p1 &&& (3 : Int32)), rv b492, .unset, .unset, .unset, .unset, .unset]) rfl ?_
     refine zc X492 Bd at_274 ?_
     refine zs X492 Bd at_275 (l' := #[iv p1, iv p2, iv p3, iv p4, iv p5, iv p6, rv b1, rv b18, rv b34, iv (p1 &&& (3 : Int32)), rv b492, iv 0, .unset, .unset, .unset, .unset]) rfl ?_
     refine zg (pc' := 409) X492 Bd at_277 rfl ?_
     refine st497 _ ?_
     refine XS.dup X497.here hx rfl (hb hby at_412) rfl rfl ?_
     refine za X497 Bd at_413 rfl rfl ?_
     refine za X497 Bd at_415 rfl rfl ?_
     refine st503 _ ?_
     refine st539.trans ?_
     refine XS.astore X539.here hx rfl (hb hby at_423) rfl rfl (l' := #[iv p1, iv p2, iv p3, iv p4, iv p5, iv p6, rv b1, rv b18, rv b34, iv (p1 &&& (3 : Int32)), rv b492, iv 0, .val .null, .unset, .unset, .unset]) rfl ?_
     refine zi X539 Bd at_425 rfl ?_
     refine zp (pc' := 451) X539 Bd at_427 (XT.i0_eq_t ((by decide) : (0 : Int32) = (0 : Int32))) rfl ?_
     refine za X539 Bd at_451 rfl rfl ?_
     refine XS.ifnonnullNo X539.here hx rfl (hb hby at_453) rfl ?_
     refine zc X539 Bd at_456 ?_
     refine zg (pc' := 461) X539 Bd at_457 rfl ?_
     exact retN X539 hx (t := .boolean) Bd.returns (by simp) (hb hby at_461) hr))
   ·
    skip
    have pr555 : Pr p e below T185 m 314 #[iv p1, iv p2, iv p3, iv p4, iv p5, iv p6, rv b1, rv b18, rv b34, iv (p1 &&& (3 : Int32)), .unset, .unset, iv (ab1_ p1), iv (ab2_ p6), iv (ab0_ p3), iv (ab3_ p2)] [(.int (ab1_ p1))] s₁ en := fun t k => pr490 t (by
     show Sx p e below T185 m 267 #[iv p1, iv p2, iv p3, iv p4, iv p5, iv p6, rv b1, rv b18, rv b34, iv (p1 &&& (3 : Int32)), .unset, .unset, .unset, .unset, .unset, .unset] [.int 2, (.int (p1 &&& (3 : Int32)))] _
     refine zy (pc' := 280) X185 Bd at_267 (XT.ii_ne_t (hc491 : ¬ ((p1 &&& (3 : Int32)) = (2 : Int32)))) rfl ?_
     refine zj X185 Bd at_280 rfl ?_
     refine zc X185 Bd at_281 ?_
     refine XS.iushr X185.here hx rfl (hb hby at_282) rfl ?_
     refine zc X185 Bd at_283 ?_
     refine XS.iand X185.here hx rfl (hb hby at_284) rfl ?_
     refine zs X185 Bd at_285 (l' := #[iv p1, iv p2, iv p3, iv p4, iv p5, iv p6, rv b1, rv b18, rv b34, iv (p1 &&& (3 : Int32)), .unset, .unset, iv (ab1_ p1), .unset, .unset, .unset]) rfl ?_
     refine zi X185 Bd at_287 rfl ?_
     refine XS.sipush X185.here hx rfl (hb hby at_289) ?_
     refine XS.iand X185.here hx rfl (hb hby at_292) rfl ?_
     refine XS.i2c X185.here hx rfl (hb hby at_293) rfl ?_
     refine zs X185 Bd at_294 (l' := #[iv p1, iv p2, iv p3, iv p4, iv p5, iv p6, rv b1, rv b18, rv b34, iv (p1 &&& (3 : Int32)), .unset, .unset, iv (ab1_ p1), iv (ab2_ p6), .unset, .unset]) rfl ?_
     refine zj X185 Bd at_296 rfl ?_
     refine XS.sipush X185.here hx rfl (hb hby at_297) ?_
     refine XS.iand X185.here hx rfl (hb hby at_300) rfl ?_
     refine XS.i2c X185.here hx rfl (hb hby at_301) rfl ?_
     refine zs X185 Bd at_302 (l' := #[iv p1, iv p2, iv p3, iv p4, iv p5, iv p6, rv b1, rv b18, rv b34, iv (p1 &&& (3 : Int32)), .unset, .unset, iv (ab1_ p1), iv (ab2_ p6), iv (ab0_ p3), .unset]) rfl ?_
     refine zj X185 Bd at_304 rfl ?_
     refine XS.sipush X185.here hx rfl (hb hby at_305) ?_
     refine XS.iand X185.here hx rfl (hb hby at_308) rfl ?_
     refine XS.i2c X185.here hx rfl (hb hby at_309) rfl ?_
     refine zs X185 Bd at_310 (l' := #[iv p1, iv p2, iv p3, iv p4, iv p5, iv p6, rv b1, rv b18, rv b34, iv (p1 &&& (3 : Int32)), .unset, .unset, iv (ab1_ p1), iv (ab2_ p6), iv (ab0_ p3), iv (ab3_ p2)]) rfl ?_
     refine zi X185 Bd at_312 rfl ?_
     exact k)
    by_cases hc556 : (ab1_ p1) = (0 : Int32)
    ·
     skip
     obtain ⟨T557, h557, X557, e557, E557, A557, D557, -, st557⟩ := newO X185 hx hZ hown (w2_ hw) (w3_ hw) (w4_ hw) e185 (g := (mkF m 317 #[iv p1, iv p2, iv p3, iv p4, iv p5, iv p6, rv b1, rv b18, rv b34, iv (p1 &&& (3 : Int32)), .unset, .unset, iv (ab1_ p1), iv (ab2_ p6), iv (ab0_ p3), iv (ab3_ p2)] [])) rfl (hb hby at_317) (lE rfl) (lE rfl)
     obtain ⟨b557, g557⟩ : ∃ z, z = h185.size := ⟨_, rfl⟩
     rw [← g557] at A557 D557 st557
     replace X557 : Stand p l e room_1 (s.setVm s.vm) m #[.int p1, .int p2, .int p3, .int p4, .int p5, .int p6] below meth c T557 _ 6 41 := X557
     have K558 := K186.ext E557
     have C559 : CHv Z consts_1 s.vm h557 := CHv.ext E557 C187
     have R560 : CHr Z consts_1 s.vm h0 s.vm h557 := R188.trans (CHr.ext E557 C187)
     have F561_ : Fld Z h557 b557 "java/lang/String" "coder" "B" (.int 0) := D557 (Or.inr (w28_ hw)) (ty := .byte) (by decide)
     have F562_ : Fld Z h557 b557 "java/lang/String" "value" "[B" .null := D557 (Or.inr (w30_ hw)) (ty := (.array .byte)) (by decide)
     obtain ⟨T563, h563, c563, X563, e563, E563, A563, st563⟩ := newP (aty := .char) X557 hx hZ (w0_ hw) e557 (g := (mkF m 322 #[iv p1, iv p2, iv p3, iv p4, iv p5, iv p6, rv b1, rv b18, rv b34, iv (p1 &&& (3 : Int32)), .unset, .unset, iv (ab1_ p1), iv (ab2_ p6), iv (ab0_ p3), iv (ab3_ p2)] [.int 0, .ref b557, .ref b557])) rfl (hb hby at_322) rfl (by decide) (cap := 0) (by decide) (lE rfl) (lE rfl) (lE rfl)
     obtain ⟨b563, g563⟩ : ∃ z, z = h557.size := ⟨_, rfl⟩
     rw [← g563] at A563 st563
     replace X563 : Stand p l e room_1 (s.setVm s.vm) m #[.int p1, .int p2, .int p3, .int p4, .int p5, .int p6] below meth c T563 _ 7 41 := X563
     have K564 := K558.ext E563
     have C565 : CHv Z consts_1 s.vm h563 := CHv.ext E563 C559
     have R566 : CHr Z consts_1 s.vm h0 s.vm h563 := R560.trans (CHr.ext E563 C559)
     have A567_ : Arv Z h563 b563 c563 .char (0 : Int32) [] (.int 0) := (Arv.new A563 (by decide)).pad (pad_rep [] (.int 0) 0)
     have E569_ := A557.ext E563
     have F570_ := F562_.ext E563
     have O571 := O41.ext E34
     have O572 := O571.wr W40 g_b34
     have O573 := O572.wr W47 g_b34
     have O574 := O573.wr W53 g_b34
     have O575 := O574.wr W59 g_b34
     have O576 := O575.wr W65 g_b34
     have O577 := O576.wr W71 g_b34
     have O578 := O577.wr W77 g_b34
     have O579 := O578.wr W83 g_b34
     have O580 := O579.wr W89 g_b34
     have O581 := O580.wr W95 g_b34
     have O582 := O581.wr W101 g_b34
     have O583 := O582.wr W107 g_b34
     have O584 := O583.wr W113 g_b34
     have O585 := O584.wr W119 g_b34
     have O586 := O585.wr W125 g_b34
     have O587 := O586.wr W131 g_b34
     have O588 := O587.wr W137 g_b34
     have O589 := O588.wr W143 g_b34
     have O590 := O589.wr W149 g_b34
     have O591 := O590.wr W155 g_b34
     have O592 := O591.wr W161 g_b34
     have O593 := O592.wr W167 g_b34
     have O594 := O593.wr W173 g_b34
     have O595 := O594.wr W179 g_b34
     have O596 := O595.wr W185 g_b34
     have g_b557 : n0 ≤ b557 := Nat.le_trans (Nat.le_trans (Nat.le_of_eq O596.1.symm) O596.2.1) (Nat.le_of_eq g557.symm)
     have F597_ := F561_.ext E563
     have O598 := O596.ext E557
     have O599 := O598.ext E563
     obtain ⟨Lg600, Xg600, Ng600⟩ := own_gl X563 N185_
     have hk601' : _ ≤ h563.size := (Nat.le_trans (Nat.le_trans (Nat.le_trans (Nat.le_trans (Nat.le_trans (Nat.le_trans (Nat.le_trans (Nat.le_trans (Nat.le_trans (Nat.le_trans (Nat.le_trans (Nat.le_trans (Nat.le_trans (Nat.le_trans (Nat.le_trans (Nat.le_trans (Nat.le_trans (Nat.le_trans (Nat.le_trans (Nat.le_trans (Nat.le_trans (Nat.le_trans (Nat.le_trans (Nat.le_trans (Nat.le_trans (Nat.le_trans (Nat.le_trans (Nat.le_trans (Nat.le_trans (Nat.le_trans (Nat.le_trans (Nat.le_trans (Nat.le_trans hk0 E1.1) (Nat.le_of_eq W7.size.symm)) (Nat.le_of_eq W13.size.symm)) E18.1) K24q.1) E34.1) (Nat.le_of_eq W40.size.symm)) (Nat.le_of_eq W47.size.symm)) (Nat.le_of_eq W53.size.symm)) (Nat.le_of_eq W59.size.symm)) (Nat.le_of_eq W65.size.symm)) (Nat.le_of_eq W71.size.symm)) (Nat.le_of_eq W77.size.symm)) (Nat.le_of_eq W83.size.symm)) (Nat.le_of_eq W89.size.symm)) (Nat.le_of_eq W95.size.symm)) (Nat.le_of_eq W101.size.symm)) (Nat.le_of_eq W107.size.symm)) (Nat.le_of_eq W113.size.symm)) (Nat.le_of_eq W119.size.symm)) (Nat.le_of_eq W125.size.symm)) (Nat.le_of_eq W131.size.symm)) (Nat.le_of_eq W137.size.symm)) (Nat.le_of_eq W143.size.symm)) (Nat.le_of_eq W149.size.symm)) (Nat.le_of_eq W155.size.symm)) (Nat.le_of_eq W161.size.symm)) (Nat.le_of_eq W167.size.symm)) (Nat.le_of_eq W173.size.symm)) (Nat.le_of_eq W179.size.symm)) (Nat.le_of_eq W185.size.symm)) E557.1) E563.1)
     obtain ⟨_, T568, L568, X568, hQ568, hS568, hZ568, ho568, CR568, st568⟩ := own_cbS 7 41 4 8 11 49 (Xg600.specialBackS hx (y := Y9_) rfl hown (mvT hZ (w5_ hw)) (mvT hZ (w6_ hw)) (mvT hZ (w7_ hw)) (by decide) (backOfSH (W := 1) (EL := consts_1) (s := s) (rm28 l Z a0 hw  b557 b563 c563 h563 n0 O599 A567_ E569_ F570_ g_b557 F597_) hZ (w7_ hw) (w4_ hw) (lE rfl) (lE rfl) hEL C565) (g := (mkF m 324 #[iv p1, iv p2, iv p3, iv p4, iv p5, iv p6, rv b1, rv b18, rv b34, iv (p1 &&& (3 : Int32)), .unset, .unset, iv (ab1_ p1), iv (ab2_ p6), iv (ab0_ p3), iv (ab3_ p2)] [.ref b563, .ref b557, .ref b557])) rfl hml.symm (Steps.refl _) (a := b557) (argsL := [.ref b563]) (rest := [.ref b557]) (lenOf pd8 rfl) rfl (own_hw rfl) (hb hby at_324) (fun _ _ => ⟨rfl, e563, (lE rfl : 7 + 4 ≤ _), (lE rfl : 41 + 8 ≤ _)⟩)) rfl rfl hS0 (by rw [e563]; exact hk601') hZ hown
     obtain ⟨b602, c603_, rfl, N568q, K568q, w604, w605, w606, w607⟩ := hQ568
     have N568 := Fr.app Ng600 N568q
     have hk568 : T568.heap.size ≤ T568.heap.size := Nat.le_refl _
     have sz_b557 : h0.size ≤ b557 := Nat.le_trans K186.1 (Nat.le_of_eq g557.symm)
     have K608 := K564.trans K568q (allS (Or.inr sz_b557) all0)
     have R610 := R566.trans CR568
     obtain ⟨T611, h611, X611, e611, E611, A611, D611, -, st611⟩ := newO X568 hx hZ568 ho568 (w34_ hw) (w35_ hw) (w36_ hw) rfl (g := (mkF m 409 #[iv p1, iv p2, iv p3, iv p4, iv p5, iv p6, rv b1, rv b18, rv b34, iv (p1 &&& (3 : Int32)), rv b557, iv 0, iv (ab1_ p1), iv (ab2_ p6), iv (ab0_ p3), iv (ab3_ p2)] [])) rfl (hb hby at_409) (lE rfl) (lE rfl)
     obtain ⟨b611, g611⟩ : ∃ z, z = T568.heap.size := ⟨_, rfl⟩
     rw [← g611] at A611 D611 st611
     replace X611 : Stand p l e room_1 (s.setVm T568.vm) m #[.int p1, .int p2, .int p3, .int p4, .int p5, .int p6] below meth c T611 _ 12 51 := X611
     have K612 := K608.ext E611
     have C613 : CHv Z consts_1 T568.vm h611 := CHv.ext E611 CR568.1
     have R614 : CHr Z consts_1 s.vm h0 T568.vm h611 := R610.trans (CHr.ext E611 CR568.1)
     have F615_ : Fld Z h611 b611 "com/example/hearthline/hearthline/mapping/Unit" "system" "Ljava/lang/String;" .null := D611 (Or.inr (w47_ hw)) (ty := (.object "java/lang/String")) (by decide)
     have F616_ : Fld Z h611 b611 "com/example/hearthline/hearthline/mapping/Unit" "code" "Ljava/lang/String;" .null := D611 (Or.inr (w49_ hw)) (ty := (.object "java/lang/String")) (by decide)
     have O618 := O599.keep K568q (allS g_b557 all0)
     have g_b611 : n0 ≤ b611 := Nat.le_trans (Nat.le_trans (Nat.le_of_eq O618.1.symm) O618.2.1) (Nat.le_of_eq g611.symm)
     have O619 := O618.ext E611
     obtain ⟨_, T617, L617, X617, hQ617, st617⟩ := own_cI 12 51 [.ref b611] 417 #[iv p1, iv p2, iv p3, iv p4, iv p5, iv p6, rv b1, rv b18, rv b34, iv (p1 &&& (3 : Int32)), rv b557, iv 0, iv (ab1_ p1), iv (ab2_ p6), iv (ab0_ p3), iv (ab3_ p2)] X611 hx hZ568 ho568 (w37_ hw) (w38_ hw) (w36_ hw) (w39_ hw) (rm21 l Z a0 hw  b611 b557 b18 h611 n0 O619 A611 F615_ g_b611 F616_) pd10 hml.symm (hb hby at_417) e611 rfl rfl rfl rfl rfl (by decide)
     obtain ⟨rfl, N617q, K617q, w620, w621, w622⟩ := hQ617
     have N617 := Fr.app N568 N617q
     have sz_b611 : h0.size ≤ b611 := Nat.le_trans K608.1 (Nat.le_of_eq g611.symm)
     have K623 := K612.trans K617q (allS (Or.inr sz_b611) all0)
     have C624 : CHv Z consts_1 T568.vm T617.heap := CHv.keep K617q (sfS (Safe.exa hZ568.alike A611 (by decide) (by decide)) sf0) C613
     have R625 : CHr Z consts_1 s.vm h0 T568.vm T617.heap := R614.trans (CHr.keep K617q (sfS (Safe.exa hZ568.alike A611 (by decide) (by decide)) sf0) C613)
     have E627_ := E569_.keep K568q
     have E628_ := E627_.ext E611
     have E629_ := E628_.keep K617q
     have hp630 : ∀ c ∈ ([] : List Int32), ¬ c < 0 ∧ ¬ (255 : Int32) < c := (fun _ q => nomatch q)
     have F631_ := w605.ext E611
     have F632_ := F631_.keep K617q (ninS (Nat.ne_of_lt (Nat.lt_of_lt_of_le (Nat.lt_of_lt_of_le A557.lt (Nat.le_trans E563.1 K568q.1)) (Nat.le_of_eq g611.symm))) nin0)
     have F633_ := w606.ext E611
     have F634_ := F633_.keep K617q (ninS (Nat.ne_of_lt (Nat.lt_of_lt_of_le (Nat.lt_of_lt_of_le A557.lt (Nat.le_trans E563.1 K568q.1)) (Nat.le_of_eq g611.symm))) nin0)
     have A635_ := w607.ext E611
     have A636_ := A635_.keep K617q (ninS (Nat.ne_of_lt (Nat.lt_of_lt_of_le w607.lt (Nat.le_of_eq g611.symm))) nin0)
     have O637 := O619.keep K617q (allS g_b611 all0)
     have hk638' : _ ≤ T617.heap.size := (Nat.le_trans (Nat.le_trans hk568 E611.1) K617q.1)
     have E639_ := A611.keep K617q
     obtain ⟨cq626, kq626, q626a, q626b, q626c⟩ := isOf hZ568 rfl E639_
     obtain ⟨_, T626, L626, X626, hQ626, hS626, hZ626, ho626, CR626, st626⟩ := own_cbS 12 51 2 104 14 155 (X617.virtualBackS hx (y := Y12_) (z := Y12_) ho568 (mvT hZ568 (w50_ hw)) (mvT hZ568 (w51_ hw)) (notFace_of_selects (args := #[]) (mvT hZ568 (w53_ hw))) (mvT hZ568 (w53_ hw)) (mvT hZ568 (w52_ hw)) (by decide) (backOfSH (W := 0) (EL := consts_1) (s := s) (rm29 l Z a0 hw G1 b611 b557 b602 c603_ T617.heap n0 O637 O2 P5 w621 E629_ F632_ F634_ A636_) hZ568 (w54_ hw) (w36_ hw) (lE rfl) (lE rfl) hEL C624) q626a q626c (g := (mkF m 420 #[iv p1, iv p2, iv p3, iv p4, iv p5, iv p6, rv b1, rv b18, rv b34, iv (p1 &&& (3 : Int32)), rv b557, iv 0, iv (ab1_ p1), iv (ab2_ p6), iv (ab0_ p3), iv (ab3_ p2)] [.ref b611])) rfl hml.symm (Steps.refl _) (argsL := []) (rest := []) (lenOf pd12 rfl) rfl (own_hw rfl) (hb hby at_420) (fun _ _ => ⟨rfl, rfl, (lE rfl : 12 + 2 ≤ _), (lE rfl : 51 + 104 ≤ _)⟩)) rfl rfl hS568 hk638' hZ568 ho568
     obtain ⟨rfl, N626q, K626q⟩ := hQ626
     have N626 := Fr.app N617 N626q
     have hk626 : T626.heap.size ≤ T626.heap.size := Nat.le_refl _
     have K640 := K623.trans K626q (fun x q => nomatch q)
     have R642 := R625.trans CR626
     refine own_lvW X626 Bd.notSynchronized hS626 hk626 (v := (some (.int 1))) (fun h => by rw [Bd.returns] at h; cases h) rfl hh ⟨rfl, N626⟩ (R642.trans (CHv.at X626 hZ626 hEL CR626.1)) (lE rfl) (lE rfl) (fun fs hr => pr555 _ (by
      show Sx p e below T185 m 314 #[iv p1, iv p2, iv p3, iv p4, iv p5, iv p6, rv b1, rv b18, rv b34, iv (p1 &&& (3 : Int32)), .unset, .unset, iv (ab1_ p1), iv (ab2_ p6), iv (ab0_ p3), iv (ab3_ p2)] [(.int (ab1_ p1))] _
      refine zo X185 Bd at_314 (XT.i0_ne_f (hc556 : (ab1_ p1) = (0 : Int32))) ?_
      refine st557 _ ?_
      refine XS.dup X557.here hx rfl (hb hby at_320) rfl rfl ?_
      refine zc X557 Bd at_321 ?_
      refine st563 _ ?_
      refine st568.trans ?_
      refine XS.astore X568.here hx rfl (hb hby at_327) rfl rfl (l' := #[iv p1, iv p2, iv p3, iv p4, iv p5, iv p6, rv b1, rv b18, rv b34, iv (p1 &&& (3 : Int32)), rv b557, .unset, iv (ab1_ p1), iv (ab2_ p6), iv (ab0_ p3), iv (ab3_ p2)]) rfl ?_
      refine zg (pc' := 406) X568 Bd at_329 rfl ?_
      refine zc X568 Bd at_406 ?_
      refine zs X568 Bd at_407 (l' := #[iv p1, iv p2, iv p3, iv p4, iv p5, iv p6, rv b1, rv b18, rv b34, iv (p1 &&& (3 : Int32)), rv b557, iv 0, iv (ab1_ p1), iv (ab2_ p6), iv (ab0_ p3), iv (ab3_ p2)]) rfl ?_
      refine st611 _ ?_
      refine XS.dup X611.here hx rfl (hb hby at_412) rfl rfl ?_
      refine za X611 Bd at_413 rfl rfl ?_
      refine za X611 Bd at_415 rfl rfl ?_
      refine st617 _ ?_
      refine st626.trans ?_
      refine XS.astore X626.here hx rfl (hb hby at_423) rfl rfl (l' := #[iv p1, iv p2, iv p3, iv p4, iv p5, iv p6, rv b1, rv b18, rv b34, iv (p1 &&& (3 : Int32)), rv b557, iv 0, .val .null, iv (ab2_ p6), iv (ab0_ p3), iv (ab3_ p2)]) rfl ?_
      refine zi X626 Bd at_425 rfl ?_
      refine zp (pc' := 451) X626 Bd at_427 (XT.i0_eq_t ((by decide) : (0 : Int32) = (0 : Int32))) rfl ?_
      refine za X626 Bd at_451 rfl rfl ?_
      refine XS.ifnonnullNo X626.here hx rfl (hb hby at_453) rfl ?_
      refine zc X626 Bd at_456 ?_
      refine zg (pc' := 461) X626 Bd at_457 rfl ?_
      exact retN X626 hx (t := .boolean) Bd.returns (by simp) (hb hby at_461) hr))
    ·
     skip
     have pr643 : Pr p e below T185 m 335 #[iv p1, iv p2, iv p3, iv p4, iv p5, iv p6, rv b1, rv b18, rv b34, iv (p1 &&& (3 : Int32)), .unset, .unset, iv (ab1_ p1), iv (ab2_ p6), iv (ab0_ p3), iv (ab3_ p2)] [.int 1, (.int (ab1_ p1))] s₁ en := fun t k => pr555 t (by
      show Sx p e below T185 m 314 #[iv p1, iv p2, iv p3, iv p4, iv p5, iv p6, rv b1, rv b18, rv b34, iv (p1 &&& (3 : Int32)), .unset, .unset, iv (ab1_ p1), iv (ab2_ p6), iv (ab0_ p3), iv (ab3_ p2)] [(.int (ab1_ p1))] _
      refine zp (pc' := 332) X185 Bd at_314 (XT.i0_ne_t (hc556 : ¬ ((ab1_ p1) = (0 : Int32)))) rfl ?_
      refine zi X185 Bd at_332 rfl ?_
      refine zc X185 Bd at_334 ?_
      exact k)
     by_cases hc644 : (ab1_ p1) = (1 : Int32)
     ·
      skip
      have O646 := O41.ext E34
      have O647 := O646.wr W40 g_b34
      have O648 := O647.wr W47 g_b34
      have O649 := O648.wr W53 g_b34
      have O650 := O649.wr W59 g_b34
      have O651 := O650.wr W65 g_b34
      have O652 := O651.wr W71 g_b34
      have O653 := O652.wr W77 g_b34
      have O654 := O653.wr W83 g_b34
      have O655 := O654.wr W89 g_b34
      have O656 := O655.wr W95 g_b34
      have O657 := O656.wr W101 g_b34
      have O658 := O657.wr W107 g_b34
      have O659 := O658.wr W113 g_b34
      have O660 := O659.wr W119 g_b34
      have O661 := O660.wr W125 g_b34
      have O662 := O661.wr W131 g_b34
      have O663 := O662.wr W137 g_b34
      have O664 := O663.wr W143 g_b34
      have O665 := O664.wr W149 g_b34
      have O666 := O665.wr W155 g_b34
      have O667 := O666.wr W161 g_b34
      have O668 := O667.wr W167 g_b34
      have O669 := O668.wr W173 g_b34
      have O670 := O669.wr W179 g_b34
      have O671 := O670.wr W185 g_b34
      obtain ⟨Lg672, Xg672, Ng672⟩ := own_gl X185 N185_
      obtain ⟨_, T645, L645, X645, hQ645, st645⟩ := own_cS 7 42 [] 340 #[iv p1, iv p2, iv p3, iv p4, iv p5, iv p6, rv b1, rv b18, rv b34, iv (p1 &&& (3 : Int32)), .unset, .unset, iv (ab1_ p1), iv (ab2_ p6), iv (ab0_ p3), iv (ab3_ p2)] Xg672 hx hZ hown (w89_ hw) (w90_ hw) (w4_ hw) (w91_ hw) (rm33 l Z a0 hw G1 (ab2_ p6) h185 n0 O671 O2 P5 (own_lat p6).2) pd16 hml.symm (hb hby at_340) e185 rfl rfl rfl rfl (by decide)
      obtain ⟨b673, b674, c675_, rfl, N645q, K645q, w676, w677, w678, w679, w680, w681, w682⟩ := hQ645
      have N645 := Fr.app Ng672 N645q
      have K683 := K186.trans K645q (fun x q => nomatch q)
      have C684 : CHv Z consts_1 s.vm T645.heap := CHv.keep K645q sf0 C187
      have R685 : CHr Z consts_1 s.vm h0 s.vm T645.heap := R188.trans (CHr.keep K645q sf0 C187)
      obtain ⟨T686, h686, X686, e686, E686, A686, D686, -, st686⟩ := newO X645 hx hZ hown (w34_ hw) (w35_ hw) (w36_ hw) rfl (g := (mkF m 409 #[iv p1, iv p2, iv p3, iv p4, iv p5, iv p6, rv b1, rv b18, rv b34, iv (p1 &&& (3 : Int32)), rv b673, iv 0, iv (ab1_ p1), iv (ab2_ p6), iv (ab0_ p3), iv (ab3_ p2)] [])) rfl (hb hby at_409) (lE rfl) (lE rfl)
      obtain ⟨b686, g686⟩ : ∃ z, z = T645.heap.size := ⟨_, rfl⟩
      rw [← g686] at A686 D686 st686
      replace X686 : Stand p l e room_1 (s.setVm s.vm) m #[.int p1, .int p2, .int p3, .int p4, .int p5, .int p6] below meth c T686 _ 8 44 := X686
      have K687 := K683.ext E686
      have C688 : CHv Z consts_1 s.vm h686 := CHv.ext E686 C684
      have R689 : CHr Z consts_1 s.vm h0 s.vm h686 := R685.trans (CHr.ext E686 C684)
      have F690_ : Fld Z h686 b686 "com/example/hearthline/hearthline/mapping/Unit" "system" "Ljava/lang/String;" .null := D686 (Or.inr (w47_ hw)) (ty := (.object "java/lang/String")) (by decide)
      have F691_ : Fld Z h686 b686 "com/example/hearthline/hearthline/mapping/Unit" "code" "Ljava/lang/String;" .null := D686 (Or.inr (w49_ hw)) (ty := (.object "java/lang/String")) (by decide)
      have O693 := O671.keep K645q all0
      have g_b686 : n0 ≤ b686 := Nat.le_trans (Nat.le_trans (Nat.le_of_eq O693.1.symm) O693.2.1) (Nat.le_of_eq g686.symm)
      have O694 := O693.ext E686
      obtain ⟨_, T692, L692, X692, hQ692, st692⟩ := own_cI 8 44 [.ref b686] 417 #[iv p1, iv p2, iv p3, iv p4, iv p5, iv p6, rv b1, rv b18, rv b34, iv (p1 &&& (3 : Int32)), rv b673, iv 0, iv (ab1_ p1), iv (ab2_ p6), iv (ab0_ p3), iv (ab3_ p2)] X686 hx hZ hown (w37_ hw) (w38_ hw) (w36_ hw) (w39_ hw) (rm21 l Z a0 hw  b686 b673 b18 h686 n0 O694 A686 F690_ g_b686 F691_) pd10 hml.symm (hb hby at_417) e686 rfl rfl rfl rfl rfl (by decide)
      obtain ⟨rfl, N692q, K692q, w695, w696, w697⟩ := hQ692
      have N692 := Fr.app N645 N692q
      have sz_b686 : h0.size ≤ b686 := Nat.le_trans K683.1 (Nat.le_of_eq g686.symm)
      have K698 := K687.trans K692q (allS (Or.inr sz_b686) all0)
      have C699 : CHv Z consts_1 s.vm T692.heap := CHv.keep K692q (sfS (Safe.exa hZ.alike A686 (by decide) (by decide)) sf0) C688
      have R700 : CHr Z consts_1 s.vm h0 s.vm T692.heap := R689.trans (CHr.keep K692q (sfS (Safe.exa hZ.alike A686 (by decide) (by decide)) sf0) C688)
      have E702_ := w679.ext E686
      have E703_ := E702_.keep K692q
      have hp704 : ∀ c ∈ ([(ab2_ p6)] : List Int32), ¬ c < 0 ∧ ¬ (255 : Int32) < c := (List.forall_mem_cons.mpr ⟨(own_lat p6), (fun _ q => nomatch q)⟩)
      have F705_ := w680.ext E686
      have F706_ := F705_.keep K692q (ninS (Nat.ne_of_lt (Nat.lt_of_lt_of_le w679.lt (Nat.le_of_eq g686.symm))) nin0)
      have F707_ := w681.ext E686
      have F708_ := F707_.keep K692q (ninS (Nat.ne_of_lt (Nat.lt_of_lt_of_le w679.lt (Nat.le_of_eq g686.symm))) nin0)
      have A709_ := w682.ext E686
      have A710_ := A709_.keep K692q (ninS (Nat.ne_of_lt (Nat.lt_of_lt_of_le w682.lt (Nat.le_of_eq g686.symm))) nin0)
      have O711 := O694.keep K692q (allS g_b686 all0)
      have hk712' : _ ≤ T692.heap.size := (Nat.le_trans (Nat.le_trans (Nat.le_trans (Nat.le_trans (Nat.le_trans (Nat.le_trans (Nat.le_trans (Nat.le_trans (Nat.le_trans (Nat.le_trans (Nat.le_trans (Nat.le_trans (Nat.le_trans (Nat.le_trans (Nat.le_trans (Nat.le_trans (Nat.le_trans (Nat.le_trans (Nat.le_trans (Nat.le_trans (Nat.le_trans (Nat.le_trans (Nat.le_trans (Nat.le_trans (Nat.le_trans (Nat.le_trans (Nat.le_trans (Nat.le_trans (Nat.le_trans (Nat.le_trans (Nat.le_trans (Nat.le_trans (Nat.le_trans (Nat.le_trans hk0 E1.1) (Nat.le_of_eq W7.size.symm)) (Nat.le_of_eq W13.size.symm)) E18.1) K24q.1) E34.1) (Nat.le_of_eq W40.size.symm)) (Nat.le_of_eq W47.size.symm)) (Nat.le_of_eq W53.size.symm)) (Nat.le_of_eq W59.size.symm)) (Nat.le_of_eq W65.size.symm)) (Nat.le_of_eq W71.size.symm)) (Nat.le_of_eq W77.size.symm)) (Nat.le_of_eq W83.size.symm)) (Nat.le_of_eq W89.size.symm)) (Nat.le_of_eq W95.size.symm)) (Nat.le_of_eq W101.size.symm)) (Nat.le_of_eq W107.size.symm)) (Nat.le_of_eq W113.size.symm)) (Nat.le_of_eq W119.size.symm)) (Nat.le_of_eq W125.size.symm)) (Nat.le_of_eq W131.size.symm)) (Nat.le_of_eq W137.size.symm)) (Nat.le_of_eq W143.size.symm)) (Nat.le_of_eq W149.size.symm)) (Nat.le_of_eq W155.size.symm)) (Nat.le_of_eq W161.size.symm)) (Nat.le_of_eq W167.size.symm)) (Nat.le_of_eq W173.size.symm)) (Nat.le_of_eq W179.size.symm)) (Nat.le_of_eq W185.size.symm)) K645q.1) E686.1) K692q.1)
      have E713_ := A686.keep K692q
      obtain ⟨cq701, kq701, q701a, q701b, q701c⟩ := isOf hZ rfl E713_
      obtain ⟨_, T701, L701, X701, hQ701, hS701, hZ701, ho701, CR701, st701⟩ := own_cbS 8 44 2 104 10 148 (X692.virtualBackS hx (y := Y12_) (z := Y12_) hown (mvT hZ (w50_ hw)) (mvT hZ (w51_ hw)) (notFace_of_selects (args := #[]) (mvT hZ (w53_ hw))) (mvT hZ (w53_ hw)) (mvT hZ (w52_ hw)) (by decide) (backOfSH (W := 0) (EL := consts_1) (s := s) (rm34 l Z a0 hw G1 b686 b673 b674 (ab2_ p6) c675_ T692.heap n0 O711 O2 P5 w696 E703_ F706_ hp704 F708_ A710_) hZ (w54_ hw) (w36_ hw) (lE rfl) (lE rfl) hEL C699) q701a q701c (g := (mkF m 420 #[iv p1, iv p2, iv p3, iv p4, iv p5, iv p6, rv b1, rv b18, rv b34, iv (p1 &&& (3 : Int32)), rv b673, iv 0, iv (ab1_ p1), iv (ab2_ p6), iv (ab0_ p3), iv (ab3_ p2)] [.ref b686])) rfl hml.symm (Steps.refl _) (argsL := []) (rest := []) (lenOf pd12 rfl) rfl (own_hw rfl) (hb hby at_420) (fun _ _ => ⟨rfl, rfl, (lE rfl : 8 + 2 ≤ _), (lE rfl : 44 + 104 ≤ _)⟩)) rfl rfl hS0 hk712' hZ hown
      obtain ⟨rfl, N701q, K701q⟩ := hQ701
      have N701 := Fr.app N692 N701q
      have hk701 : T701.heap.size ≤ T701.heap.size := Nat.le_refl _
      have K714 := K698.trans K701q (fun x q => nomatch q)
      have R716 := R700.trans CR701
      refine own_lvW X701 Bd.notSynchronized hS701 hk701 (v := (some (.int 1))) (fun h => by rw [Bd.returns] at h; cases h) rfl hh ⟨rfl, N701⟩ (R716.trans (CHv.at X701 hZ701 hEL CR701.1)) (lE rfl) (lE rfl) (fun fs hr => pr643 _ (by
       show Sx p e below T185 m 335 #[iv p1, iv p2, iv p3, iv p4, iv p5, iv p6, rv b1, rv b18, rv b34, iv (p1 &&& (3 : Int32)), .unset, .unset, iv (ab1_ p1), iv (ab2_ p6), iv (ab0_ p3), iv (ab3_ p2)] [.int 1, (.int (ab1_ p1))] _
       refine zn X185 Bd at_335 (XT.ii_ne_f (hc644 : (ab1_ p1) = (1 : Int32))) ?_
       refine zi X185 Bd at_338 rfl ?_
       refine st645 _ ?_
       refine XS.astore X645.here hx rfl (hb hby at_343) rfl rfl (l' := #[iv p1, iv p2, iv p3, iv p4, iv p5, iv p6, rv b1, rv b18, rv b34, iv (p1 &&& (3 : Int32)), rv b673, .unset, iv (ab1_ p1), iv (ab2_ p6), iv (ab0_ p3), iv (ab3_ p2)]) rfl ?_
       refine zg (pc' := 406) X645 Bd at_345 rfl ?_
       refine zc X645 Bd at_406 ?_
       refine zs X645 Bd at_407 (l' := #[iv p1, iv p2, iv p3, iv p4, iv p5, iv p6, rv b1, rv b18, rv b34, iv (p1 &&& (3 : Int32)), rv b673, iv 0, iv (ab1_ p1), iv (ab2_ p6), iv (ab0_ p3), iv (ab3_ p2)]) rfl ?_
       refine st686 _ ?_
       refine XS.dup X686.here hx rfl (hb hby at_412) rfl rfl ?_
       refine za X686 Bd at_413 rfl rfl ?_
       refine za X686 Bd at_415 rfl rfl ?_
       refine st692 _ ?_
       refine st701.trans ?_
       refine XS.astore X701.here hx rfl (hb hby at_423) rfl rfl (l' := #[iv p1, iv p2, iv p3, iv p4, iv p5, iv p6, rv b1, rv b18, rv b34, iv (p1 &&& (3 : Int32)), rv b673, iv 0, .val .null, iv (ab2_ p6), iv (ab0_ p3), iv (ab3_ p2)]) rfl ?_
       refine zi X701 Bd at_425 rfl ?_
       refine zp (pc' := 451) X701 Bd at_427 (XT.i0_eq_t ((by decide) : (0 : Int32) = (0 : Int32))) rfl ?_
       refine za X701 Bd at_451 rfl rfl ?_
       refine XS.ifnonnullNo X701.here hx rfl (hb hby at_453) rfl ?_
       refine zc X701 Bd at_456 ?_
       refine zg (pc' := 461) X701 Bd at_457 rfl ?_
       exact retN X701 hx (t := .boolean) Bd.returns (by simp) (hb hby at_461) hr))
     ·
      skip
      have pr717 : Pr p e below T185 m 351 #[iv p1, iv p2, iv p3, iv p4, iv p5, iv p6, rv b1, rv b18, rv b34, iv (p1 &&& (3 : Int32)), .unset, .unset, iv (ab1_ p1), iv (ab2_ p6), iv (ab0_ p3), iv (ab3_ p2)] [.int 2, (.int (ab1_ p1))] s₁ en := fun t k => pr643 t (by
       show Sx p e below T185 m 335 #[iv p1, iv p2, iv p3, iv p4, iv p5, iv p6, rv b1, rv b18, rv b34, iv (p1 &&& (3 : Int32)), .unset, .unset, iv (ab1_ p1), iv (ab2_ p6), iv (ab0_ p3), iv (ab3_ p2)] [.int 1, (.int (ab1_ p1))] _
       refine zy (pc' := 348) X185 Bd at_335 (XT.ii_ne_t (hc644 : ¬ ((ab1_ p1) = (1 : Int32)))) rfl ?_
       refine zi X185 Bd at_348 rfl ?_
       refine zc X185 Bd at_350 ?_
       exact k)
      by_cases hc718 : (ab1_ p1) = (2 : Int32)
      ·
       skip
       obtain ⟨T719, h719, X719, e719, E719, A719, D719, -, st719⟩ := newO X185 hx hZ hown (w2_ hw) (w3_ hw) (w4_ hw) e185 (g := (mkF m 354 #[iv p1, iv p2, iv p3, iv p4, iv p5, iv p6, rv b1, rv b18, rv b34, iv (p1 &&& (3 : Int32)), .unset, .unset, iv (ab1_ p1), iv (ab2_ p6), iv (ab0_ p3), iv (ab3_ p2)] [])) rfl (hb hby at_354) (lE rfl) (lE rfl)
       obtain ⟨b719, g719⟩ : ∃ z, z = h185.size := ⟨_, rfl⟩
       rw [← g719] at A719 D719 st719
       replace X719 : Stand p l e room_1 (s.setVm s.vm) m #[.int p1, .int p2, .int p3, .int p4, .int p5, .int p6] below meth c T719 _ 6 41 := X719
       have K720 := K186.ext E719
       have C721 : CHv Z consts_1 s.vm h719 := CHv.ext E719 C187
       have R722 : CHr Z consts_1 s.vm h0 s.vm h719 := R188.trans (CHr.ext E719 C187)
       have F723_ : Fld Z h719 b719 "java/lang/String" "coder" "B" (.int 0) := D719 (Or.inr (w28_ hw)) (ty := .byte) (by decide)
       have F724_ : Fld Z h719 b719 "java/lang/String" "value" "[B" .null := D719 (Or.inr (w30_ hw)) (ty := (.array .byte)) (by decide)
       obtain ⟨T725, h725, c725, X725, e725, E725, A725, st725⟩ := newP (aty := .char) X719 hx hZ (w0_ hw) e719 (g := (mkF m 359 #[iv p1, iv p2, iv p3, iv p4, iv p5, iv p6, rv b1, rv b18, rv b34, iv (p1 &&& (3 : Int32)), .unset, .unset, iv (ab1_ p1), iv (ab2_ p6), iv (ab0_ p3), iv (ab3_ p2)] [.int 2, .ref b719, .ref b719])) rfl (hb hby at_359) rfl (by decide) (cap := 2) (by decide) (lE rfl) (lE rfl) (lE rfl)
       obtain ⟨b725, g725⟩ : ∃ z, z = h719.size := ⟨_, rfl⟩
       rw [← g725] at A725 st725
       replace X725 : Stand p l e room_1 (s.setVm s.vm) m #[.int p1, .int p2, .int p3, .int p4, .int p5, .int p6] below meth c T725 _ 7 43 := X725
       have K726 := K720.ext E725
       have C727 : CHv Z consts_1 s.vm h725 := CHv.ext E725 C721
       have R728 : CHr Z consts_1 s.vm h0 s.vm h725 := R722.trans (CHr.ext E725 C721)
       have A729_ : Arv Z h725 b725 c725 .char (2 : Int32) [.int 0, .int 0] (.int 0) := (Arv.new A725 (by decide)).pad (pad_rep [] (.int 0) 2)
       have av730 := A729_
       obtain ⟨cl730, Ar730, q730, S730, N730, H730, Gf730⟩ := av730
       have hin731 : ¬ ((0 : Int32) < 0 ∨ cl730.slots.size ≤ ((0 : Int32) : Int32).toNatClampNeg) := inb_of S730 (by decide)
       obtain ⟨T731, h731, X731, e731, W731, st731⟩ := stC X725 hx hZ e725 Ar730 (j := (0 : Int32)) hin731 (g := (mkF m 365 #[iv p1, iv p2, iv p3, iv p4, iv p5, iv p6, rv b1, rv b18, rv b34, iv (p1 &&& (3 : Int32)), .unset, .unset, iv (ab1_ p1), iv (ab2_ p6), iv (ab0_ p3), iv (ab3_ p2)] [(.int (ab2_ p6)), .int 0, .ref b725, .ref b725, .ref b719, .ref b719])) rfl rfl (hb hby at_365)
       have O732 := O41.ext E34
       have O733 := O732.wr W40 g_b34
       have O734 := O733.wr W47 g_b34
       have O735 := O734.wr W53 g_b34
       have O736 := O735.wr W59 g_b34
       have O737 := O736.wr W65 g_b34
       have O738 := O737.wr W71 g_b34
       have O739 := O738.wr W77 g_b34
       have O740 := O739.wr W83 g_b34
       have O741 := O740.wr W89 g_b34
       have O742 := O741.wr W95 g_b34
       have O743 := O742.wr W101 g_b34
       have O744 := O743.wr W107 g_b34
       have O745 := O744.wr W113 g_b34
       have O746 := O745.wr W119 g_b34
       have O747 := O746.wr W125 g_b34
       have O748 := O747.wr W131 g_b34
       have O749 := O748.wr W137 g_b34
       have O750 := O749.wr W143 g_b34
       have O751 := O750.wr W149 g_b34
       have O752 := O751.wr W155 g_b34
       have O753 := O752.wr W161 g_b34
       have O754 := O753.wr W167 g_b34
       have O755 := O754.wr W173 g_b34
       have O756 := O755.wr W179 g_b34
       have O757 := O756.wr W185 g_b34
       have O758 := O757.ext E719
       have g_b725 : n0 ≤ b725 := Nat.le_trans (Nat.le_trans (Nat.le_of_eq O758.1.symm) O758.2.1) (Nat.le_of_eq g725.symm)
       have N731_ := Fr.snoc X731 N185_ g_b725
       have sz_b725 : h0.size ≤ b725 := Nat.le_trans K720.1 (Nat.le_of_eq g725.symm)
       have K759 := K726.wr W731 (Or.inr sz_b725)
       have C760 : CHv Z consts_1 s.vm h731 := CHv.wr W731 (Safe.arv hZ.alike A729_ (by simp)) C727
       have R761 : CHr Z consts_1 s.vm h0 s.vm h731 := R728.trans (CHr.wr W731 (Safe.arv hZ.alike A729_ (by simp)) C727)
       have A762_ : Arv Z h731 b725 c725 .char (2 : Int32) [(.int (ab2_ p6)), .int 0] (.int 0) := by have q := Arv.set (v := .int (nar .char (ab2_ p6))) Ar730 q730 S730 N730 H730 Gf730 (fits_nar_char _) W731 0 (by decide) (lE rfl); rw [((own_nar_i2c _) : nar .char (ab2_ p6) = (ab2_ p6))] at q; exact q
       have av763 := A762_
       obtain ⟨cl763, Ar763, q763, S763, N763, H763, Gf763⟩ := av763
       have hin764 : ¬ ((1 : Int32) < 0 ∨ cl763.slots.size ≤ ((1 : Int32) : Int32).toNatClampNeg) := inb_of S763 (by decide)
       obtain ⟨T764, h764, X764, e764, W764, st764⟩ := stC X731 hx hZ e731 Ar763 (j := (1 : Int32)) hin764 (g := (mkF m 370 #[iv p1, iv p2, iv p3, iv p4, iv p5, iv p6, rv b1, rv b18, rv b34, iv (p1 &&& (3 : Int32)), .unset, .unset, iv (ab1_ p1), iv (ab2_ p6), iv (ab0_ p3), iv (ab3_ p2)] [(.int (ab0_ p3)), .int 1, .ref b725, .ref b725, .ref b719, .ref b719])) rfl rfl (hb hby at_370)
       have N764_ := Fr.snoc X764 N731_ g_b725
       have K765 := K759.wr W764 (Or.inr sz_b725)
       have C766 : CHv Z consts_1 s.vm h764 := CHv.wr W764 (Safe.arv hZ.alike A762_ (by simp)) C760
       have R767 : CHr Z consts_1 s.vm h0 s.vm h764 := R761.trans (CHr.wr W764 (Safe.arv hZ.alike A762_ (by simp)) C760)
       have A768_ : Arv Z h764 b725 c725 .char (2 : Int32) [(.int (ab2_ p6)), (.int (ab0_ p3))] (.int 0) := by have q := Arv.set (v := .int (nar .char (ab0_ p3))) Ar763 q763 S763 N763 H763 Gf763 (fits_nar_char _) W764 1 (by decide) (lE rfl); rw [((own_nar_i2c _) : nar .char (ab0_ p3) = (ab0_ p3))] at q; exact q
       have hp770 : ∀ c ∈ ([(ab2_ p6), (ab0_ p3)] : List Int32), ¬ c < 0 ∧ ¬ (255 : Int32) < c := (List.forall_mem_cons.mpr ⟨(own_lat p6), (List.forall_mem_cons.mpr ⟨(own_lat p3), (fun _ q => nomatch q)⟩)⟩)
       have g_b719 : n0 ≤ b719 := Nat.le_trans (Nat.le_trans (Nat.le_of_eq O757.1.symm) O757.2.1) (Nat.le_of_eq g719.symm)
       have O771 := O758.ext E725
       have O772 := O771.wr W731 g_b725
       have O773 := O772.wr W764 g_b725
       have E774_ := A719.ext E725
       have E775_ := E774_.wr W731
       have E776_ := E775_.wr W764
       have F777_ := F724_.ext E725
       have F778_ := F777_.other W731 (Or.inl (Nat.ne_of_lt (Nat.lt_of_lt_of_le A719.lt (Nat.le_of_eq g725.symm))))
       have F779_ := F778_.other W764 (Or.inl (Nat.ne_of_lt (Nat.lt_of_lt_of_le A719.lt (Nat.le_of_eq g725.symm))))
       have F780_ := F723_.ext E725
       have F781_ := F780_.other W731 (Or.inl (Nat.ne_of_lt (Nat.lt_of_lt_of_le A719.lt (Nat.le_of_eq g725.symm))))
       have F782_ := F781_.other W764 (Or.inl (Nat.ne_of_lt (Nat.lt_of_lt_of_le A719.lt (Nat.le_of_eq g725.symm))))
       obtain ⟨Lg783, Xg783, Ng783⟩ := own_gl X764 N764_
       obtain ⟨_, T769, L769, X769, hQ769, st769⟩ := own_cb 7 43 1 2 8 45 (Xg783.specialBack hx (y := Y9_) rfl hown (mvT hZ (w5_ hw)) (mvT hZ (w6_ hw)) (mvT hZ (w7_ hw)) (by decide) (StrChars.Road.backV (s := s.setVm s.vm) (W := 1) hZ (own_ws hw) (kI := 4) (w3_ hw) (cs := ([(ab2_ p6), (ab0_ p3)] : List Int32)) (bs := ([(ab2_ p6), (ab0_ p3)] : List Int32).map (fun c => c.toInt8.toInt32)) (n := 2) g_b719 (Nat.le_trans (Nat.le_of_eq O773.1.symm) O773.2.1) E776_ F779_ F782_ A768_ (O2.ext O773.2) P5 rfl rfl (lE rfl) (lE rfl) hp770 rfl (lE rfl) (lE rfl)) (g := (mkF m 371 #[iv p1, iv p2, iv p3, iv p4, iv p5, iv p6, rv b1, rv b18, rv b34, iv (p1 &&& (3 : Int32)), .unset, .unset, iv (ab1_ p1), iv (ab2_ p6), iv (ab0_ p3), iv (ab3_ p2)] [.ref b725, .ref b719, .ref b719])) rfl hml.symm (Steps.refl _) (a := b719) (argsL := [.ref b725]) (rest := [.ref b719]) (lenOf pd8 rfl) rfl (own_hw rfl) (hb hby at_371) (fun _ _ => ⟨rfl, e764, (lE rfl : 7 + 1 ≤ _), (lE rfl : 43 + 2 ≤ _)⟩)) rfl rfl
       obtain ⟨rfl, N769q, K769q, E769q, C769q, b784, c784_, u784, g784, ne784, V784_, A784_⟩ := hQ769
       have N769 := Fr.app Ng783 N769q
       have sz_b719 : h0.size ≤ b719 := Nat.le_trans K186.1 (Nat.le_of_eq g719.symm)
       have K785 := K765.trans K769q (allS (Or.inr sz_b719) all0)
       have f787 : Safe Z consts_1 s.vm h719 b719 := Safe.ext E719 C187 (Safe.new (Nat.le_of_eq g719.symm))
       have f788 : Safe Z consts_1 s.vm h725 b719 := Safe.ext E725 C721 f787
       have f789 : Safe Z consts_1 s.vm h731 b719 := Safe.wr W731 (Safe.arv hZ.alike A729_ (by simp)) C727 f788
       have f790 : Safe Z consts_1 s.vm h764 b719 := Safe.wr W764 (Safe.arv hZ.alike A762_ (by simp)) C760 f789
       have C786 : CHv Z consts_1 s.vm T769.heap := CHv.keep K769q (sfS f790 sf0) C766
       have R791 : CHr Z consts_1 s.vm h0 s.vm T769.heap := R767.trans (CHr.keep K769q (sfS f790 sf0) C766)
       obtain ⟨T792, h792, X792, e792, E792, A792, D792, -, st792⟩ := newO X769 hx hZ hown (w34_ hw) (w35_ hw) (w36_ hw) rfl (g := (mkF m 409 #[iv p1, iv p2, iv p3, iv p4, iv p5, iv p6, rv b1, rv b18, rv b34, iv (p1 &&& (3 : Int32)), rv b719, iv 0, iv (ab1_ p1), iv (ab2_ p6), iv (ab0_ p3), iv (ab3_ p2)] [])) rfl (hb hby at_409) (lE rfl) (lE rfl)
       obtain ⟨b792, g792⟩ : ∃ z, z = T769.heap.size := ⟨_, rfl⟩
       rw [← g792] at A792 D792 st792
       replace X792 : Stand p l e room_1 (s.setVm s.vm) m #[.int p1, .int p2, .int p3, .int p4, .int p5, .int p6] below meth c T792 _ 9 47 := X792
       have K793 := K785.ext E792
       have C794 : CHv Z consts_1 s.vm h792 := CHv.ext E792 C786
       have R795 : CHr Z consts_1 s.vm h0 s.vm h792 := R791.trans (CHr.ext E792 C786)
       have F796_ : Fld Z h792 b792 "com/example/hearthline/hearthline/mapping/Unit" "system" "Ljava/lang/String;" .null := D792 (Or.inr (w47_ hw)) (ty := (.object "java/lang/String")) (by decide)
       have F797_ : Fld Z h792 b792 "com/example/hearthline/hearthline/mapping/Unit" "code" "Ljava/lang/String;" .null := D792 (Or.inr (w49_ hw)) (ty := (.object "java/lang/String")) (by decide)
       have O799 := O773.keep K769q (allS g_b719 all0)
       have g_b792 : n0 ≤ b792 := Nat.le_trans (Nat.le_trans (Nat.le_of_eq O799.1.symm) O799.2.1) (Nat.le_of_eq g792.symm)
       have O800 := O799.ext E792
       obtain ⟨_, T798, L798, X798, hQ798, st798⟩ := own_cI 9 47 [.ref b792] 417 #[iv p1, iv p2, iv p3, iv p4, iv p5, iv p6, rv b1, rv b18, rv b34, iv (p1 &&& (3 : Int32)), rv b719, iv 0, iv (ab1_ p1), iv (ab2_ p6), iv (ab0_ p3), iv (ab3_ p2)] X792 hx hZ hown (w37_ hw) (w38_ hw) (w36_ hw) (w39_ hw) (rm21 l Z a0 hw  b792 b719 b18 h792 n0 O800 A792 F796_ g_b792 F797_) pd10 hml.symm (hb hby at_417) e792 rfl rfl rfl rfl rfl (by decide)
       obtain ⟨rfl, N798q, K798q, w801, w802, w803⟩ := hQ798
       have N798 := Fr.app N769 N798q
       have sz_b792 : h0.size ≤ b792 := Nat.le_trans K785.1 (Nat.le_of_eq g792.symm)
       have K804 := K793.trans K798q (allS (Or.inr sz_b792) all0)
       have C805 : CHv Z consts_1 s.vm T798.heap := CHv.keep K798q (sfS (Safe.exa hZ.alike A792 (by decide) (by decide)) sf0) C794
       have R806 : CHr Z consts_1 s.vm h0 s.vm T798.heap := R795.trans (CHr.keep K798q (sfS (Safe.exa hZ.alike A792 (by decide) (by decide)) sf0) C794)
       have E808_ := E776_.keep K769q
       have E809_ := E808_.ext E792
       have E810_ := E809_.keep K798q
       have F811_ := V784_.ext E792
       have F812_ := F811_.keep K798q (ninS (Nat.ne_of_lt (Nat.lt_of_lt_of_le (Nat.lt_of_lt_of_le A719.lt (Nat.le_trans (Nat.le_trans (Nat.le_trans E725.1 (Nat.le_of_eq W731.size.symm)) (Nat.le_of_eq W764.size.symm)) K769q.1)) (Nat.le_of_eq g792.symm))) nin0)
       have F813_ := C769q.ext E792
       have F814_ := F813_.keep K798q (ninS (Nat.ne_of_lt (Nat.lt_of_lt_of_le (Nat.lt_of_lt_of_le A719.lt (Nat.le_trans (Nat.le_trans (Nat.le_trans E725.1 (Nat.le_of_eq W731.size.symm)) (Nat.le_of_eq W764.size.symm)) K769q.1)) (Nat.le_of_eq g792.symm))) nin0)
       have A815_ := A784_.ext E792
       have A816_ := A815_.keep K798q (ninS (Nat.ne_of_lt (Nat.lt_of_lt_of_le A784_.lt (Nat.le_of_eq g792.symm))) nin0)
       have O817 := O800.keep K798q (allS g_b792 all0)
       have hk818' : _ ≤ T798.heap.size := (Nat.le_trans (Nat.le_trans (Nat.le_trans (Nat.le_trans (Nat.le_trans (Nat.le_trans (Nat.le_trans (Nat.le_trans (Nat.le_trans (Nat.le_trans (Nat.le_trans (Nat.le_trans (Nat.le_trans (Nat.le_trans (Nat.le_trans (Nat.le_trans (Nat.le_trans (Nat.le_trans (Nat.le_trans (Nat.le_trans (Nat.le_trans (Nat.le_trans (Nat.le_trans (Nat.le_trans (Nat.le_trans (Nat.le_trans (Nat.le_trans (Nat.le_trans (Nat.le_trans (Nat.le_trans (Nat.le_trans (Nat.le_trans (Nat.le_trans (Nat.le_trans (Nat.le_trans (Nat.le_trans (Nat.le_trans (Nat.le_trans hk0 E1.1) (Nat.le_of_eq W7.size.symm)) (Nat.le_of_eq W13.size.symm)) E18.1) K24q.1) E34.1) (Nat.le_of_eq W40.size.symm)) (Nat.le_of_eq W47.size.symm)) (Nat.le_of_eq W53.size.symm)) (Nat.le_of_eq W59.size.symm)) (Nat.le_of_eq W65.size.symm)) (Nat.le_of_eq W71.size.symm)) (Nat.le_of_eq W77.size.symm)) (Nat.le_of_eq W83.size.symm)) (Nat.le_of_eq W89.size.symm)) (Nat.le_of_eq W95.size.symm)) (Nat.le_of_eq W101.size.symm)) (Nat.le_of_eq W107.size.symm)) (Nat.le_of_eq W113.size.symm)) (Nat.le_of_eq W119.size.symm)) (Nat.le_of_eq W125.size.symm)) (Nat.le_of_eq W131.size.symm)) (Nat.le_of_eq W137.size.symm)) (Nat.le_of_eq W143.size.symm)) (Nat.le_of_eq W149.size.symm)) (Nat.le_of_eq W155.size.symm)) (Nat.le_of_eq W161.size.symm)) (Nat.le_of_eq W167.size.symm)) (Nat.le_of_eq W173.size.symm)) (Nat.le_of_eq W179.size.symm)) (Nat.le_of_eq W185.size.symm)) E719.1) E725.1) (Nat.le_of_eq W731.size.symm)) (Nat.le_of_eq W764.size.symm)) K769q.1) E792.1) K798q.1)
       have E819_ := A792.keep K798q
       obtain ⟨cq807, kq807, q807a, q807b, q807c⟩ := isOf hZ rfl E819_
       obtain ⟨_, T807, L807, X807, hQ807, hS807, hZ807, ho807, CR807, st807⟩ := own_cbS 9 47 2 104 11 151 (X798.virtualBackS hx (y := Y12_) (z := Y12_) hown (mvT hZ (w50_ hw)) (mvT hZ (w51_ hw)) (notFace_of_selects (args := #[]) (mvT hZ (w53_ hw))) (mvT hZ (w53_ hw)) (mvT hZ (w52_ hw)) (by decide) (backOfSH (W := 0) (EL := consts_1) (s := s) (rm35 l Z a0 hw G1 b792 b719 b784 (ab2_ p6) (ab0_ p3) c784_ T798.heap n0 O817 O2 P5 w802 E810_ F812_ hp770 F814_ A816_) hZ (w54_ hw) (w36_ hw) (lE rfl) (lE rfl) hEL C805) q807a q807c (g := (mkF m 420 #[iv p1, iv p2, iv p3, iv p4, iv p5, iv p6, rv b1, rv b18, rv b34, iv (p1 &&& (3 : Int32)), rv b719, iv 0, iv (ab1_ p1), iv (ab2_ p6), iv (ab0_ p3), iv (ab3_ p2)] [.ref b792])) rfl hml.symm (Steps.refl _) (argsL := []) (rest := []) (lenOf pd12 rfl) rfl (own_hw rfl) (hb hby at_420) (fun _ _ => ⟨rfl, rfl, (lE rfl : 9 + 2 ≤ _), (lE rfl : 47 + 104 ≤ _)⟩)) rfl rfl hS0 hk818' hZ hown
       obtain ⟨rfl, N807q, K807q⟩ := hQ807
       have N807 := Fr.app N798 N807q
       have hk807 : T807.heap.size ≤ T807.heap.size := Nat.le_refl _
       have K820 := K804.trans K807q (fun x q => nomatch q)
       have R822 := R806.trans CR807
       refine own_lvW X807 Bd.notSynchronized hS807 hk807 (v := (some (.int 1))) (fun h => by rw [Bd.returns] at h; cases h) rfl hh ⟨rfl, N807⟩ (R822.trans (CHv.at X807 hZ807 hEL CR807.1)) (lE rfl) (lE rfl) (fun fs hr => pr717 _ (by
        show Sx p e below T185 m 351 #[iv p1, iv p2, iv p3, iv p4, iv p5, iv p6, rv b1, rv b18, rv b34, iv (p1 &&& (3 : Int32)), .unset, .unset, iv (ab1_ p1), iv (ab2_ p6), iv (ab0_ p3), iv (ab3_ p2)] [.int 2, (.int (ab1_ p1))] _
        refine zn X185 Bd at_351 (XT.ii_ne_f (hc718 : (ab1_ p1) = (2 : Int32))) ?_
        refine st719 _ ?_
        refine XS.dup X719.here hx rfl (hb hby at_357) rfl rfl ?_
        refine zc X719 Bd at_358 ?_
        refine st725 _ ?_
        refine XS.dup X725.here hx rfl (hb hby at_361) rfl rfl ?_
        refine zc X725 Bd at_362 ?_
        refine zi X725 Bd at_363 rfl ?_
        refine st731 _ ?_
        refine XS.dup X731.here hx rfl (hb hby at_366) rfl rfl ?_
        refine zc X731 Bd at_367 ?_
        refine zi X731 Bd at_368 rfl ?_
        refine st764 _ ?_
        refine st769.trans ?_
        refine XS.astore X769.here hx rfl (hb hby at_374) rfl rfl (l' := #[iv p1, iv p2, iv p3, iv p4, iv p5, iv p6, rv b1, rv b18, rv b34, iv (p1 &&& (3 : Int32)), rv b719, .unset, iv (ab1_ p1), iv (ab2_ p6), iv (ab0_ p3), iv (ab3_ p2)]) rfl ?_
        refine zg (pc' := 406) X769 Bd at_376 rfl ?_
        refine zc X769 Bd at_406 ?_
        refine zs X769 Bd at_407 (l' := #[iv p1, iv p2, iv p3, iv p4, iv p5, iv p6, rv b1, rv b18, rv b34, iv (p1 &&& (3 : Int32)), rv b719, iv 0, iv (ab1_ p1), iv (ab2_ p6), iv (ab0_ p3), iv (ab3_ p2)]) rfl ?_
        refine st792 _ ?_
        refine XS.dup X792.here hx rfl (hb hby at_412) rfl rfl ?_
        refine za X792 Bd at_413 rfl rfl ?_
        refine za X792 Bd at_415 rfl rfl ?_
        refine st798 _ ?_
        refine st807.trans ?_
        refine XS.astore X807.here hx rfl (hb hby at_423) rfl rfl (l' := #[iv p1, iv p2, iv p3, iv p4, iv p5, iv p6, rv b1, rv b18, rv b34, iv (p1 &&& (3 : Int32)), rv b719, iv 0, .val .null, iv (ab2_ p6), iv (ab0_ p3), iv (ab3_ p2)]) rfl ?_
        show Sx p e below T807 m 425 #[iv p1, iv p2, iv p3, iv p4, iv p5, iv p6, rv b1, rv b18, rv b34, iv (p1 &&& (3 : Int32)), rv b719, iv 0, .val .null, iv (ab2_ p6), iv (ab0_ p3), iv (ab3_ p2)] [] _
        refine zi X807 Bd at_425 rfl ?_
        refine zp (pc' := 451) X807 Bd at_427 (XT.i0_eq_t ((by decide) : (0 : Int32) = (0 : Int32))) rfl ?_
        refine za X807 Bd at_451 rfl rfl ?_
        refine XS.ifnonnullNo X807.here hx rfl (hb hby at_453) rfl ?_
        refine zc X807 Bd at_456 ?_
        refine zg (pc' := 461) X807 Bd at_457 rfl ?_
        exact retN X807 hx (t := .boolean) Bd.returns (by simp) (hb hby at_461) hr))
      ·
       skip
       obtain ⟨T823, h823, X823, e823, E823, A823, D823, -, st823⟩ := newO X185 hx hZ hown (w2_ hw) (w3_ hw) (w4_ hw) e185 (g := (mkF m 379 #[iv p1, iv p2, iv p3, iv p4, iv p5, iv p6, rv b1, rv b18, rv b34, iv (p1 &&& (3 : Int32)), .unset, .unset, iv (ab1_ p1), iv (ab2_ p6), iv (ab0_ p3), iv (ab3_ p2)] [])) rfl (hb hby at_379) (lE rfl) (lE rfl)
       obtain ⟨b823, g823⟩ : ∃ z, z = h185.size := ⟨_, rfl⟩
       rw [← g823] at A823 D823 st823
       replace X823 : Stand p l e room_1 (s.setVm s.vm) m #[.int p1, .int p2, .int p3, .int p4, .int p5, .int p6] below meth c T823 _ 6 41 := X823
       have K824 := K186.ext E823
       have C825 : CHv Z consts_1 s.vm h823 := CHv.ext E823 C187
       have R826 : CHr Z consts_1 s.vm h0 s.vm h823 := R188.trans (CHr.ext E823 C187)
       have F827_ : Fld Z h823 b823 "java/lang/String" "coder" "B" (.int 0) := D823 (Or.inr (w28_ hw)) (ty := .byte) (by decide)
       have F828_ : Fld Z h823 b823 "java/lang/String" "value" "[B" .null := D823 (Or.inr (w30_ hw)) (ty := (.array .byte)) (by decide)
       obtain ⟨T829, h829, c829, X829, e829, E829, A829, st829⟩ := newP (aty := .char) X823 hx hZ (w0_ hw) e823 (g := (mkF m 384 #[iv p1, iv p2, iv p3, iv p4, iv p5, iv p6, rv b1, rv b18, rv b34, iv (p1 &&& (3 : Int32)), .unset, .unset, iv (ab1_ p1), iv (ab2_ p6), iv (ab0_ p3), iv (ab3_ p2)] [.int 3, .ref b823, .ref b823])) rfl (hb hby at_384) rfl (by decide) (cap := 3) (by decide) (lE rfl) (lE rfl) (lE rfl)
       obtain ⟨b829, g829⟩ : ∃ z, z = h823.size := ⟨_, rfl⟩
       rw [← g829] at A829 st829
       replace X829 : Stand p l e room_1 (s.setVm s.vm) m #[.int p1, .int p2, .int p3, .int p4, .int p5, .int p6] below meth c T829 _ 7 44 := X829
       have K830 := K824.ext E829
       have C831 : CHv Z consts_1 s.vm h829 := CHv.ext E829 C825
       have R832 : CHr Z consts_1 s.vm h0 s.vm h829 := R826.trans (CHr.ext E829 C825)
       have A833_ : Arv Z h829 b829 c829 .char (3 : Int32) [.int 0, .int 0, .int 0] (.int 0) := (Arv.new A829 (by decide)).pad (pad_rep [] (.int 0) 3)
       have av834 := A833_
       obtain ⟨cl834, Ar834, q834, S834, N834, H834, Gf834⟩ := av834
       have hin835 : ¬ ((0 : Int32) < 0 ∨ cl834.slots.size ≤ ((0 : Int32) : Int32).toNatClampNeg) := inb_of S834 (by decide)
       obtain ⟨T835, h835, X835, e835, W835, st835⟩ := stC X829 hx hZ e829 Ar834 (j := (0 : Int32)) hin835 (g := (mkF m 390 #[iv p1, iv p2, iv p3, iv p4, iv p5, iv p6, rv b1, rv b18, rv b34, iv (p1 &&& (3 : Int32)), .unset, .unset, iv (ab1_ p1), iv (ab2_ p6), iv (ab0_ p3), iv (ab3_ p2)] [(.int (ab2_ p6)), .int 0, .ref b829, .ref b829, .ref b823, .ref b823])) rfl rfl (hb hby at_390)
       have O836 := O41.ext E34
       have O837 := O836.wr W40 g_b34
       have O838 := O837.wr W47 g_b34
       have O839 := O838.wr W53 g_b34
       have O840 := O839.wr W59 g_b34
       have O841 := O840.wr W65 g_b34
       have O842 := O841.wr W71 g_b34
       have O843 := O842.wr W77 g_b34
       have O844 := O843.wr W83 g_b34
       have O845 := O844.wr W89 g_b34
       have O846 := O845.wr W95 g_b34
       have O847 := O846.wr W101 g_b34
       have O848 := O847.wr W107 g_b34
       have O849 := O848.wr W113 g_b34
       have O850 := O849.wr W119 g_b34
       have O851 := O850.wr W125 g_b34
       have O852 := O851.wr W131 g_b34
       have O853 := O852.wr W137 g_b34
       have O854 := O853.wr W143 g_b34
       have O855 := O854.wr W149 g_b34
       have O856 := O855.wr W155 g_b34
       have O857 := O856.wr W161 g_b34
       have O858 := O857.wr W167 g_b34
       have O859 := O858.wr W173 g_b34
       have O860 := O859.wr W179 g_b34
       have O861 := O860.wr W185 g_b34
       have O862 := O861.ext E823
       have g_b829 : n0 ≤ b829 := Nat.le_trans (Nat.le_trans (Nat.le_of_eq O862.1.symm) O862.2.1) (Nat.le_of_eq g829.symm)
       have N835_ := Fr.snoc X835 N185_ g_b829
       have sz_b829 : h0.size ≤ b829 := Nat.le_trans K824.1 (Nat.le_of_eq g829.symm)
       have K863 := K830.wr W835 (Or.inr sz_b829)
       have C864 : CHv Z consts_1 s.vm h835 := CHv.wr W835 (Safe.arv hZ.alike A833_ (by simp)) C831
       have R865 : CHr Z consts_1 s.vm h0 s.vm h835 := R832.trans (CHr.wr W835 (Safe.arv hZ.alike A833_ (by simp)) C831)
       have A866_ : Arv Z h835 b829 c829 .char (3 : Int32) [(.int (ab2_ p6)), .int 0, .int 0] (.int 0) := by have q := Arv.set (v := .int (nar .char (ab2_ p6))) Ar834 q834 S834 N834 H834 Gf834 (fits_nar_char _) W835 0 (by decide) (lE rfl); rw [((own_nar_i2c _) : nar .char (ab2_ p6) = (ab2_ p6))] at q; exact q
       have av867 := A866_
       obtain ⟨cl867, Ar867, q867, S867, N867, H867, Gf867⟩ := av867
       have hin868 : ¬ ((1 : Int32) < 0 ∨ cl867.slots.size ≤ ((1 : Int32) : Int32).toNatClampNeg) := inb_of S867 (by decide)
       obtain ⟨T868, h868, X868, e868, W868, st868⟩ := stC X835 hx hZ e835 Ar867 (j := (1 : Int32)) hin868 (g := (mkF m 395 #[iv p1, iv p2, iv p3, iv p4, iv p5, iv p6, rv b1, rv b18, rv b34, iv (p1 &&& (3 : Int32)), .unset, .unset, iv (ab1_ p1), iv (ab2_ p6), iv (ab0_ p3), iv (ab3_ p2)] [(.int (ab0_ p3)), .int 1, .ref b829, .ref b829, .ref b823, .ref b823])) rfl rfl (hb hby at_395)
       have N868_ := Fr.snoc X868 N835_ g_b829
       have K869 := K863.wr W868 (Or.inr sz_b829)
       have C870 : CHv Z consts_1 s.vm h868 := CHv.wr W868 (Safe.arv hZ.alike A866_ (by simp)) C864
       have R871 : CHr Z consts_1 s.vm h0 s.vm h868 := R865.trans (CHr.wr W868 (Safe.arv hZ.alike A866_ (by simp)) C864)
       have A872_ : Arv Z h868 b829 c829 .char (3 : Int32) [(.int (ab2_ p6)), (.int (ab0_ p3)), .int 0] (.int 0) := by have q := Arv.set (v := .int (nar .char (ab0_ p3))) Ar867 q867 S867 N867 H867 Gf867 (fits_nar_char _) W868 1 (by decide) (lE rfl); rw [((own_nar_i2c _) : nar .char (ab0_ p3) = (ab0_ p3))] at q; exact q
       have av873 := A872_
       obtain ⟨cl873, Ar873, q873, S873, N873, H873, Gf873⟩ := av873
       have hin874 : ¬ ((2 : Int32) < 0 ∨ cl873.slots.size ≤ ((2 : Int32) : Int32).toNatClampNeg) := inb_of S873 (by decide)
       obtain ⟨T874, h874, X874, e874, W874, st874⟩ := stC X868 hx hZ e868 Ar873 (j := (2 : Int32)) hin874 (g := (mkF m 400 #[iv p1, iv p2, iv p3, iv p4, iv p5, iv p6, rv b1, rv b18, rv b34, iv (p1 &&& (3 : Int32)), .unset, .unset, iv (ab1_ p1), iv (ab2_ p6), iv (ab0_ p3), iv (ab3_ p2)] [(.int (ab3_ p2)), .int 2, .ref b829, .ref b829, .ref b823, .ref b823])) rfl rfl (hb hby at_400)
       have N874_ := Fr.snoc X874 N868_ g_b829
       have K875 := K869.wr W874 (Or.inr sz_b829)
       have C876 : CHv Z consts_1 s.vm h874 := CHv.wr W874 (Safe.arv hZ.alike A872_ (by simp)) C870
       have R877 : CHr Z consts_1 s.vm h0 s.vm h874 := R871.trans (CHr.wr W874 (Safe.arv hZ.alike A872_ (by simp)) C870)
       have A878_ : Arv Z h874 b829 c829 .char (3 : Int32) [(.int (ab2_ p6)), (.int (ab0_ p3)), (.int (ab3_ p2))] (.int 0) := by have q := Arv.set (v := .int (nar .char (ab3_ p2))) Ar873 q873 S873 N873 H873 Gf873 (fits_nar_char _) W874 2 (by decide) (lE rfl); rw [((own_nar_i2c _) : nar .char (ab3_ p2) = (ab3_ p2))] at q; exact q
       have hp880 : ∀ c ∈ ([(ab2_ p6), (ab0_ p3), (ab3_ p2)] : List Int32), ¬ c < 0 ∧ ¬ (255 : Int32) < c := (List.forall_mem_cons.mpr ⟨(own_lat p6), (List.forall_mem_cons.mpr ⟨(own_lat p3), (List.forall_mem_cons.mpr ⟨(own_lat p2), (fun _ q => nomatch q)⟩)⟩)⟩)
       have g_b823 : n0 ≤ b823 := Nat.le_trans (Nat.le_trans (Nat.le_of_eq O861.1.symm) O861.2.1) (Nat.le_of_eq g823.symm)
       have O881 := O862.ext E829
       have O882 := O881.wr W835 g_b829
       have O883 := O882.wr W868 g_b829
       have O884 := O883.wr W874 g_b829
       have E885_ := A823.ext E829
       have E886_ := E885_.wr W835
       have E887_ := E886_.wr W868
       have E888_ := E887_.wr W874
       have F889_ := F828_.ext E829
       have F890_ := F889_.other W835 (Or.inl (Nat.ne_of_lt (Nat.lt_of_lt_of_le A823.lt (Nat.le_of_eq g829.symm))))
       have F891_ := F890_.other W868 (Or.inl (Nat.ne_of_lt (Nat.lt_of_lt_of_le A823.lt (Nat.le_of_eq g829.symm))))
       have F892_ := F891_.other W874 (Or.inl (Nat.ne_of_lt (Nat.lt_of_lt_of_le A823.lt (Nat.le_of_eq g829.symm))))
       have F893_ := F827_.ext E829
       have F894_ := F893_.other W835 (Or.inl (Nat.ne_of_lt (Nat.lt_of_lt_of_le A823.lt (Nat.le_of_eq g829.symm))))
       have F895_ := F894_.other W868 (Or.inl (Nat.ne_of_lt (Nat.lt_of_lt_of_le A823.lt (Nat.le_of_eq g829.symm))))
       have F896_ := F895_.other W874 (Or.inl (Nat.ne_of_lt (Nat.lt_of_lt_of_le A823.lt (Nat.le_of_eq g829.symm))))
       obtain ⟨Lg897, Xg897, Ng897⟩ := own_gl X874 N874_
       obtain ⟨_, T879, L879, X879, hQ879, st879⟩ := own_cb 7 44 1 3 8 47 (Xg897.specialBack hx (y := Y9_) rfl hown (mvT hZ (w5_ hw)) (mvT hZ (w6_ hw)) (mvT hZ (w7_ hw)) (by decide) (StrChars.Road.backV (s := s.setVm s.vm) (W := 1) hZ (own_ws hw) (kI := 4) (w3_ hw) (cs := ([(ab2_ p6), (ab0_ p3), (ab3_ p2)] : List Int32)) (bs := ([(ab2_ p6), (ab0_ p3), (ab3_ p2)] : List Int32).map (fun c => c.toInt8.toInt32)) (n := 3) g_b823 (Nat.le_trans (Nat.le_of_eq O884.1.symm) O884.2.1) E888_ F892_ F896_ A878_ (O2.ext O884.2) P5 rfl rfl (lE rfl) (lE rfl) hp880 rfl (lE rfl) (lE rfl)) (g := (mkF m 401 #[iv p1, iv p2, iv p3, iv p4, iv p5, iv p6, rv b1, rv b18, rv b34, iv (p1 &&& (3 : Int32)), .unset, .unset, iv (ab1_ p1), iv (ab2_ p6), iv (ab0_ p3), iv (ab3_ p2)] [.ref b829, .ref b823, .ref b823])) rfl hml.symm (Steps.refl _) (a := b823) (argsL := [.ref b829]) (rest := [.ref b823]) (lenOf pd8 rfl) rfl (own_hw rfl) (hb hby at_401) (fun _ _ => ⟨rfl, e874, (lE rfl : 7 + 1 ≤ _), (lE rfl : 44 + 3 ≤ _)⟩)) rfl rfl
       obtain ⟨rfl, N879q, K879q, E879q, C879q, b898, c898_, u898, g898, ne898, V898_, A898_⟩ := hQ879
       have N879 := Fr.app Ng897 N879q
       have sz_b823 : h0.size ≤ b823 := Nat.le_trans K186.1 (Nat.le_of_eq g823.symm)
       have K899 := K875.trans K879q (allS (Or.inr sz_b823) all0)
       have f901 : Safe Z consts_1 s.vm h823 b823 := Safe.ext E823 C187 (Safe.new (Nat.le_of_eq g823.symm))
       have f902 : Safe Z consts_1 s.vm h829 b823 := Safe.ext E829 C825 f901
       have f903 : Safe Z consts_1 s.vm h835 b823 := Safe.wr W835 (Safe.arv hZ.alike A833_ (by simp)) C831 f902
       have f904 : Safe Z consts_1 s.vm h868 b823 := Safe.wr W868 (Safe.arv hZ.alike A866_ (by simp)) C864 f903
       have f905 : Safe Z consts_1 s.vm h874 b823 := Safe.wr W874 (Safe.arv hZ.alike A872_ (by simp)) C870 f904
       have C900 : CHv Z consts_1 s.vm T879.heap := CHv.keep K879q (sfS f905 sf0) C876
       have R906 : CHr Z consts_1 s.vm h0 s.vm T879.heap := R877.trans (CHr.keep K879q (sfS f905 sf0) C876)
       obtain ⟨T907, h907, X907, e907, E907, A907, D907, -, st907⟩ := newO X879 hx hZ hown (w34_ hw) (w35_ hw) (w36_ hw) rfl (g := (mkF m 409 #[iv p1, iv p2, iv p3, iv p4, iv p5, iv p6, rv b1, rv b18, rv b34, iv (p1 &&& (3 : Int32)), rv b823, iv 0, iv (ab1_ p1), iv (ab2_ p6), iv (ab0_ p3), iv (ab3_ p2)] [])) rfl (hb hby at_409) (lE rfl) (lE rfl)
       obtain ⟨b907, g907⟩ : ∃ z, z = T879.heap.size := ⟨_, rfl⟩
       rw [← g907] at A907 D907 st907
       replace X907 : Stand p l e room_1 (s.setVm s.vm) m #[.int p1, .int p2, .int p3, .int p4, .int p5, .int p6] below meth c T907 _ 9 49 := X907
       have K908 := K899.ext E907
       have C909 : CHv Z consts_1 s.vm h907 := CHv.ext E907 C900
       have R910 : CHr Z consts_1 s.vm h0 s.vm h907 := R906.trans (CHr.ext E907 C900)
       have F911_ : Fld Z h907 b907 "com/example/hearthline/hearthline/mapping/Unit" "system" "Ljava/lang/String;" .null := D907 (Or.inr (w47_ hw)) (ty := (.object "java/lang/String")) (by decide)
       have F912_ : Fld Z h907 b907 "com/example/hearthline/hearthline/mapping/Unit" "code" "Ljava/lang/String;" .null := D907 (Or.inr (w49_ hw)) (ty := (.object "java/lang/String")) (by decide)
       have O914 := O884.keep K879q (allS g_b823 all0)
       have g_b907 : n0 ≤ b907 := Nat.le_trans (Nat.le_trans (Nat.le_of_eq O914.1.symm) O914.2.1) (Nat.le_of_eq g907.symm)
       have O915 := O914.ext E907
       obtain ⟨_, T913, L913, X913, hQ913, st913⟩ := own_cI 9 49 [.ref b907] 417 #[iv p1, iv p2, iv p3, iv p4, iv p5, iv p6, rv b1, rv b18, rv b34, iv (p1 &&& (3 : Int32)), rv b823, iv 0, iv (ab1_ p1), iv (ab2_ p6), iv (ab0_ p3), iv (ab3_ p2)] X907 hx hZ hown (w37_ hw) (w38_ hw) (w36_ hw) (w39_ hw) (rm21 l Z a0 hw  b907 b823 b18 h907 n0 O915 A907 F911_ g_b907 F912_) pd10 hml.symm (hb hby at_417) e907 rfl rfl rfl rfl rfl (by decide)
       obtain ⟨rfl, N913q, K913q, w916, w917, w918⟩ := hQ913
       have N913 := Fr.app N879 N913q
       have sz_b907 : h0.size ≤ b907 := Nat.le_trans K899.1 (Nat.le_of_eq g907.symm)
       have K919 := K908.trans K913q (allS (Or.inr sz_b907) all0)
       have C920 : CHv Z consts_1 s.vm T913.heap := CHv.keep K913q (sfS (Safe.exa hZ.alike A907 (by decide) (by decide)) sf0) C909
       have R921 : CHr Z consts_1 s.vm h0 s.vm T913.heap := R910.trans (CHr.keep K913q (sfS (Safe.exa hZ.alike A907 (by decide) (by decide)) sf0) C909)
       have E923_ := E888_.keep K879q
       have E924_ := E923_.ext E907
       have E925_ := E924_.keep K913q
       have F926_ := V898_.ext E907
       have F927_ := F926_.keep K913q (ninS (Nat.ne_of_lt (Nat.lt_of_lt_of_le (Nat.lt_of_lt_of_le A823.lt (Nat.le_trans (Nat.le_trans (Nat.le_trans (Nat.le_trans E829.1 (Nat.le_of_eq W835.size.symm)) (Nat.le_of_eq W868.size.symm)) (Nat.le_of_eq W874.size.symm)) K879q.1)) (Nat.le_of_eq g907.symm))) nin0)
       have F928_ := C879q.ext E907
       have F929_ := F928_.keep K913q (ninS (Nat.ne_of_lt (Nat.lt_of_lt_of_le (Nat.lt_of_lt_of_le A823.lt (Nat.le_trans (Nat.le_trans (Nat.le_trans (Nat.le_trans E829.1 (Nat.le_of_eq W835.size.symm)) (Nat.le_of_eq W868.size.symm)) (Nat.le_of_eq W874.size.symm)) K879q.1)) (Nat.le_of_eq g907.symm))) nin0)
       have A930_ := A898_.ext E907
       have A931_ := A930_.keep K913q (ninS (Nat.ne_of_lt (Nat.lt_of_lt_of_le A898_.lt (Nat.le_of_eq g907.symm))) nin0)
       have O932 := O915.keep K913q (allS g_b907 all0)
       have hk933' : _ ≤ T913.heap.size := (Nat.le_trans (Nat.le_trans (Nat.le_trans (Nat.le_trans (Nat.le_trans (Nat.le_trans (Nat.le_trans (Nat.le_trans (Nat.le_trans (Nat.le_trans (Nat.le_trans (Nat.le_trans (Nat.le_trans (Nat.le_trans (Nat.le_trans (Nat.le_trans (Nat.le_trans (Nat.le_trans (Nat.le_trans (Nat.le_trans (Nat.le_trans (Nat.le_trans (Nat.le_trans (Nat.le_trans (Nat.le_trans (Nat.le_trans (Nat.le_trans (Nat.le_trans (Nat.le_trans (Nat.le_trans (Nat.le_trans (Nat.le_trans (Nat.le_trans (Nat.le_trans (Nat.le_trans (Nat.le_trans (Nat.le_trans (Nat.le_trans (Nat.le_trans hk0 E1.1) (Nat.le_of_eq W7.size.symm)) (Nat.le_of_eq W13.size.symm)) E18.1) K24q.1) E34.1) (Nat.le_of_eq W40.size.symm)) (Nat.le_of_eq W47.size.symm)) (Nat.le_of_eq W53.size.symm)) (Nat.le_of_eq W59.size.symm)) (Nat.le_of_eq W65.size.symm)) (Nat.le_of_eq W71.size.symm)) (Nat.le_of_eq W77.size.symm)) (Nat.le_of_eq W83.size.symm)) (Nat.le_of_eq W89.size.symm)) (Nat.le_of_eq W95.size.symm)) (Nat.le_of_eq W101.size.symm)) (Nat.le_of_eq W107.size.symm)) (Nat.le_of_eq W113.size.symm)) (Nat.le_of_eq W119.size.symm)) (Nat.le_of_eq W125.size.symm)) (Nat.le_of_eq W131.size.symm)) (Nat.le_of_eq W137.size.symm)) (Nat.le_of_eq W143.size.symm)) (Nat.le_of_eq W149.size.symm)) (Nat.le_of_eq W155.size.symm)) (Nat.le_of_eq W161.size.symm)) (Nat.le_of_eq W167.size.symm)) (Nat.le_of_eq W173.size.symm)) (Nat.le_of_eq W179.size.symm)) (Nat.le_of_eq W185.size.symm)) E823.1) E829.1) (Nat.le_of_eq W835.size.symm)) (Nat.le_of_eq W868.size.symm)) (Nat.le_of_eq W874.size.symm)) K879q.1) E907.1) K913q.1)
       have E934_ := A907.keep K913q
       obtain ⟨cq922, kq922, q922a, q922b, q922c⟩ := isOf hZ rfl E934_
       obtain ⟨_, T922, L922, X922, hQ922, hS922, hZ922, ho922, CR922, st922⟩ := own_cbS 9 49 2 104 11 153 (X913.virtualBackS hx (y := Y12_) (z := Y12_) hown (mvT hZ (w50_ hw)) (mvT hZ (w51_ hw)) (notFace_of_selects (args := #[]) (mvT hZ (w53_ hw))) (mvT hZ (w53_ hw)) (mvT hZ (w52_ hw)) (by decide) (backOfSH (W := 0) (EL := consts_1) (s := s) (rm36 l Z a0 hw G1 b907 b823 b898 (ab2_ p6) (ab0_ p3) (ab3_ p2) c898_ T913.heap n0 O932 O2 P5 w917 E925_ F927_ hp880 F929_ A931_) hZ (w54_ hw) (w36_ hw) (lE rfl) (lE rfl) hEL C920) q922a q922c (g := (mkF m 420 #[iv p1, iv p2, iv p3, iv p4, iv p5, iv p6, rv b1, rv b18, rv b34, iv (p1 &&& (3 : Int32)), rv b823, iv 0, iv (ab1_ p1), iv (ab2_ p6), iv (ab0_ p3), iv (ab3_ p2)] [.ref b907])) rfl hml.symm (Steps.refl _) (argsL := []) (rest := []) (lenOf pd12 rfl) rfl (own_hw rfl) (hb hby at_420) (fun _ _ => ⟨rfl, rfl, (lE rfl : 9 + 2 ≤ _), (lE rfl : 49 + 104 ≤ _)⟩)) rfl rfl hS0 hk933' hZ hown
       obtain ⟨rfl, N922q, K922q⟩ := hQ922
       have N922 := Fr.app N913 N922q
       have hk922 : T922.heap.size ≤ T922.heap.size := Nat.le_refl _
       have K935 := K919.trans K922q (fun x q => nomatch q)
       have R937 := R921.trans CR922
       refine own_lvW X922 Bd.notSynchronized hS922 hk922 (v := (some (.int 1))) (fun h => by rw [Bd.returns] at h; cases h) rfl hh ⟨rfl, N922⟩ (R937.trans (CHv.at X922 hZ922 hEL CR922.1)) (lE rfl) (lE rfl) (fun fs hr => pr717 _ (by
        show Sx p e below T185 m 351 #[iv p1, iv p2, iv p3, iv p4, iv p5, iv p6, rv b1, rv b18, rv b34, iv (p1 &&& (3 : Int32)), .unset, .unset, iv (ab1_ p1), iv (ab2_ p6), iv (ab0_ p3), iv (ab3_ p2)] [.int 2, (.int (ab1_ p1))] _
        refine zy (pc' := 379) X185 Bd at_351 (XT.ii_ne_t (hc718 : ¬ ((ab1_ p1) = (2 : Int32)))) rfl ?_
        refine st823 _ ?_
        refine XS.dup X823.here hx rfl (hb hby at_382) rfl rfl ?_
        refine zc X823 Bd at_383 ?_
        refine st829 _ ?_
        refine XS.dup X829.here hx rfl (hb hby at_386) rfl rfl ?_
        refine zc X829 Bd at_387 ?_
        refine zi X829 Bd at_388 rfl ?_
        refine st835 _ ?_
        refine XS.dup X835.here hx rfl (hb hby at_391) rfl rfl ?_
        refine zc X835 Bd at_392 ?_
        refine zi X835 Bd at_393 rfl ?_
        refine st868 _ ?_
        refine XS.dup X868.here hx rfl (hb hby at_396) rfl rfl ?_
        refine zc X868 Bd at_397 ?_
        refine zi X868 Bd at_398 rfl ?_
        refine st874 _ ?_
        refine st879.trans ?_
        refine XS.astore X879.here hx rfl (hb hby at_404) rfl rfl (l' := #[iv p1, iv p2, iv p3, iv p4, iv p5, iv p6, rv b1, rv b18, rv b34, iv (p1 &&& (3 : Int32)), rv b823, .unset, iv (ab1_ p1), iv (ab2_ p6), iv (ab0_ p3), iv (ab3_ p2)]) rfl ?_
        refine zc X879 Bd at_406 ?_
        refine zs X879 Bd at_407 (l' := #[iv p1, iv p2, iv p3, iv p4, iv p5, iv p6, rv b1, rv b18, rv b34, iv (p1 &&& (3 : Int32)), rv b823, iv 0, iv (ab1_ p1), iv (ab2_ p6), iv (ab0_ p3), iv (ab3_ p2)]) rfl ?_
        refine st907 _ ?_
        refine XS.dup X907.here hx rfl (hb hby at_412) rfl rfl ?_
        refine za X907 Bd at_413 rfl rfl ?_
        refine za X907 Bd at_415 rfl rfl ?_
        show Sx p e below T907 m 417 #[iv p1, iv p2, iv p3, iv p4, iv p5, iv p6, rv b1, rv b18, rv b34, iv (p1 &&& (3 : Int32)), rv b823, iv 0, iv (ab1_ p1), iv (ab2_ p6), iv (ab0_ p3), iv (ab3_ p2)] [.ref b18, .ref b823, .ref b907, .ref b907] _
        refine st913 _ ?_
        refine st922.trans ?_
        refine XS.astore X922.here hx rfl (hb hby at_423) rfl rfl (l' := #[iv p1, iv p2, iv p3, iv p4, iv p5, iv p6, rv b1, rv b18, rv b34, iv (p1 &&& (3 : Int32)), rv b823, iv 0, .val .null, iv (ab2_ p6), iv (ab0_ p3), iv (ab3_ p2)]) rfl ?_
        refine zi X922 Bd at_425 rfl ?_
        refine zp (pc' := 451) X922 Bd at_427 (XT.i0_eq_t ((by decide) : (0 : Int32) = (0 : Int32))) rfl ?_
        refine za X922 Bd at_451 rfl rfl ?_
        refine XS.ifnonnullNo X922.here hx rfl (hb hby at_453) rfl ?_
        refine zc X922 Bd at_456 ?_
        refine zg (pc' := 461) X922 Bd at_457 rfl ?_
        exact retN X922 hx (t := .boolean) Bd.returns (by simp) (hb hby at_461) hr))
theorem comes_1 {Post : Tables → Env → Array Value → State → Outcome → State → Prop} (hpost : ∀ tb e args s v u, (limb_1_1.after args s (.returned v) u = true ∧ limb_1_2.after args s (.returned v) u = true ∧ True) → ReturnedEndW s (.returned v) u (Jvm.fieldLocs frame_1_writes args s ++ Jvm.arrayLocs frame_1_arrays args s ++ Jvm.staticLocs frame_1_statics s) 40 4352 → Post tb e args s (.returned v) u) :
    ArmFor flags0 classFile x code maxLocals ret World_1 tables_1 room_1 Calls_1 rest_1 Pre_1 Post := by
  intro l hfl _ _ p e ha hc hk s m args below hf hA hF happ hP
  obtain ⟨hcalls, hrest, hpre⟩ := hP
  obtain ⟨-, -, -, hnamed, -, -, -, hat⟩ := (Spec.applies_iff hf).mp happ
  obtain ⟨hg, hn⟩ := and_e (Cond.before_iff.mp (show (Jvm.Cond.and given_1 narrow_1).before args s = true from hpre))
  obtain ⟨hg0, hg1⟩ := and_e hg
  obtain ⟨ha1, hg2⟩ := and_e hg1
  obtain ⟨ha2, hg3⟩ := and_e hg2
  obtain ⟨ha3, hg4⟩ := and_e hg3
  obtain ⟨ha4, hg5⟩ := and_e hg4
  obtain ⟨ha5, hg6⟩ := and_e hg5
  obtain ⟨w1, w2, w3, w4, w5, w6, rfl⟩ : ∃ w1 w2 w3 w4 w5 w6 : Value, args = #[w1, w2, w3, w4, w5, w6] := by
    have hs : args.size = 6 := by simpa [Cond.value, given_1] using hg0
    obtain ⟨L⟩ := args
    match L, hs with
    | [w1, w2, w3, w4, w5, w6], _ => exact ⟨w1, w2, w3, w4, w5, w6, rfl⟩
  have hw := fun d (hd : d ∈ tables_1) => atoms_spec (ws := Jvm.Cond.code x code maxLocals ret :: tables_1) hat d (List.mem_cons_of_mem _ hd)
  obtain ⟨hsets, hown0⟩ := atoms_of _ (rest_1_c_eq ▸ (show rest_1_c.before _ s = true from hrest))
  have hfit : Fit s := fun {y c} hc i hi => by
    obtain ⟨ha, rfl⟩ := Array.getElem?_eq_some_iff.mp hc
    have q := List.all_eq_true.mp ((Array.all_eq_true_iff_forall_mem.mp hF) _ (Array.getElem_mem ha)) i (List.mem_range.mpr hi)
    simpa [Array.getElem?_eq_getElem hi] using q
  obtain ⟨i1, ei1⟩ := is_v ha1
  obtain rfl : w1 = (.int i1) := Option.some.inj ei1
  obtain ⟨i2, ei2⟩ := is_v ha2
  obtain rfl : w2 = (.int i2) := Option.some.inj ei2
  obtain ⟨i3, ei3⟩ := is_v ha3
  obtain rfl : w3 = (.int i3) := Option.some.inj ei3
  obtain ⟨i4, ei4⟩ := is_v ha4
  obtain rfl : w4 = (.int i4) := Option.some.inj ei4
  obtain ⟨i5, ei5⟩ := is_v ha5
  obtain rfl : w5 = (.int i5) := Option.some.inj ei5
  obtain ⟨i6, ei6⟩ := is_v hg6
  obtain rfl : w6 = (.int i6) := Option.some.inj ei6
  have nCS := not_v (Cond.before_iff.mp (hsets _ (mI 2 rfl)))
  obtain ⟨G1, eCS⟩ := is_v (Cond.before_iff.mp (hsets _ (mI 1 rfl)))
  have O2 : Sta s s.heap "java/lang/String" "COMPACT_STRINGS" "Z" (.int G1) := Sta.start eCS (Or.inl (hsets _ (mI 0 rfl)))
  have P5 : ¬ (G1 = (0 : Int32)) := gotF (Cond.eq_ints eCS (Term.int_eval (0))) nCS
  have uS12 : Sta s s.heap "java/lang/StringUTF16" "$assertionsDisabled" "Z" (.int 1) := Sta.start (eqv_i (Term.int_eval _) (Cond.before_iff.mp (hsets _ (mI 12 rfl)))) (Or.inl (hsets _ (mI 11 rfl)))
  have uS15 : Sta s s.heap "java/lang/StringUTF16" "HI_BYTE_SHIFT" "I" (.int 0) := Sta.start (eqv_i (Term.int_eval _) (Cond.before_iff.mp (hsets _ (mI 15 rfl)))) (Or.inl (hsets _ (mI 14 rfl)))
  have uS18 : Sta s s.heap "java/lang/StringUTF16" "LO_BYTE_SHIFT" "I" (.int 8) := Sta.start (eqv_i (Term.int_eval _) (Cond.before_iff.mp (hsets _ (mI 18 rfl)))) (Or.inl (hsets _ (mI 17 rfl)))
  have hCH : CHv s consts_1 s.vm s.heap := CHv.start (own_EW hw) (fun p hp => hcalls.1 p hp) (hsets _ (mI 2 rfl)) (w20_ hw) (w3_ hw)
  obtain ⟨n, o, h1, h2, h3, _, L, rfl, ⟨rfl, N⟩, -, hq⟩ := rm0 l s _ hw tables_1 G1 i1 i2 i3 i4 i5 i6 s.heap s.heap.size (Old.start s) O2 P5 uS12 uS15 uS18 p e ha hc hk s m _ below hf ((Spec.applies_iff_loose hf).mp happ).1 ⟨rfl, State.Warmed39.refl s, rfl, hCH⟩ trivial
  refine ⟨n, _, h1, h2, h3, hpost _ _ _ _ _ _ ⟨Cond.after_iff.mpr rfl, Cond.after_iff.mpr (eq_i res_at (Term.int_eval (1)) rfl), trivial⟩ ⟨hq.1, hq.2.1, hq.2.2.1, (hq.2.2.2.sift fun y hy => Or.inr (N y hy)).mono (by decide) (by decide)⟩⟩
theorem main_1_1 : Claimed_1_1 := comes_1 fun _ _ _ _ _ _ h hF => ⟨h.1, hF⟩
theorem main_1_2 : Claimed_1_2 := comes_1 fun _ _ _ _ _ _ h hF => ⟨h.2.1, hF⟩
end Jvm.Pilot.@@N@@
namespace Jvm.Pilot.@@N@@
open Jvm Jvm.ClassFile Sem Op Lib Jvm.Free Jvm.Stand Jvm.Pilot.@@N@@.Jvm.D
/-! MADE BY PROGRAM (witnessworld.py) out of the Statement's table words and the real class files: 21 classes; the members and pool entries that the words name. The judged class is class 1, her method 1. -/
namespace start1
open Jvm.ClassFile
def u (s : String) : CpInfo := .utf8 (stringToUtf16 s)
/-- a pool by its gaps: so many unusable entries, then the entry; so many at the end -/
def gap : Nat → List CpInfo → List CpInfo
  | 0, r => r
  | n + 1, r => .unusable :: gap n r
def poolList (es : List (Nat × CpInfo)) (last : Nat) : List CpInfo := es.foldr (fun e r => gap e.1 (e.2 :: r)) (gap last [])
def pool (es : List (Nat × CpInfo)) (last : Nat) : Array CpInfo := ⟨poolList es last⟩
def fileOf (pool : Array CpInfo) (this : Nat) (attrs : Array Attribute := #[]) (ms : Array MethodInfo := #[]) (fl : Nat := 33) (sup : Nat := 0) (ifs : Array Nat := #[]) (fds : Array FieldInfo := #[]) : ClassFile where
  minorVersion := 0
  majorVersion := 65
  constantPool := pool
  accessFlags := fl
  thisClass := this
  superClass := sup
  interfaces := ifs
  fields := fds
  methods := ms
  attributes := attrs
def plain (name : String) (sup : Option ClassId) : Class where
  name := name
  kind := .ordinary
  loader := none
  accessFlags := 33
  super := sup
  interfaces := #[]
  cf := none
  fields := #[]
  methods := #[]
  instanceTypes := #[]
  staticTypes := #[]
  resolved := #[]
  callSites := []
  init := .initialized
  statics := none
  mirror := none

def pool0 : Array CpInfo := pool [(5, u "<init>"), (0, u "()V"), (1, .class_ 10), (1, u "java/lang/Object")] 113

def k0c0 : Code := { maxStack := 0, maxLocals := 1, code := object_method_1_code, exceptionTable := #[], attributes := #[] }
def k0m0 : Method := { name := "<init>", desc := "()V", sig := { parameters := [], returnType := none }, accessFlags := 1, code := some k0c0 }
/-- java/lang/Object -/
def k0 : Class := { plain "java/lang/Object" none with
  accessFlags := 33
  interfaces := #[]
  cf := some (fileOf pool0 8 #[] #[⟨1, 5, 6, #[]⟩] 33 0 #[] #[])
  fields := #[]
  methods := #[k0m0]
  instanceTypes := #[]
  staticTypes := #[]
  resolved := Array.replicate 124 none
  statics := none }

def pool1 : Array CpInfo := pool [(2, .class_ 4), (1, u "java/lang/Object"), (0, u "<init>"), (0, u "()V"), (0, .integer 65535), (0, .class_ 9), (0, u "java/lang/String"), (0, .methodref 8 11), (0, .nameAndType 5 12), (0, u "([C)V"), (2, .string 16), (0, u "http://unitsofmeasure.org"), (0, .integer 2147483647), (0, .string 19), (0, u "urn:iso:std:iso:11073:10101"), (0, .methodref 8 21), (0, .nameAndType 22 23), (0, u "valueOf"), (0, u "(C)Ljava/lang/String;"), (0, .class_ 25), (0, u "com/example/hearthline/hearthline/mapping/Unit"), (0, .methodref 24 27), (0, .nameAndType 5 28), (0, u "(Ljava/lang/String;Ljava/lang/String;)V"), (0, .methodref 24 30), (0, .nameAndType 31 32), (0, u "text"), (0, u "()Ljava/lang/String;"), (0, .methodref 8 34), (0, .nameAndType 35 36), (0, u "equals"), (0, u "(Ljava/lang/Object;)Z"), (0, .class_ 38), (0, u "com/example/hearthline/hearthline/mapping/UnitTextPinLaw"), (2, u "law"), (0, u "(IIIIII)Z")] 5

def k1m0 : Method := { name := "<init>", desc := "()V", sig := { parameters := [], returnType := none }, accessFlags := 1, code := none }
def k1c1 : Code := { maxStack := 6, maxLocals := 16, code := code, exceptionTable := #[], attributes := #[] }
def k1m1 : Method := { name := "law", desc := "(IIIIII)Z", sig := { parameters := [.int, .int, .int, .int, .int, .int], returnType := some .boolean }, accessFlags := 9, code := some k1c1 }
/-- com/example/hearthline/hearthline/mapping/UnitTextPinLaw -/
def k1 : Class := { plain "com/example/hearthline/hearthline/mapping/UnitTextPinLaw" (some 0) with
  accessFlags := 49
  interfaces := #[]
  cf := some (fileOf pool1 37 #[] #[⟨1, 5, 6, #[]⟩, ⟨9, 41, 42, #[]⟩] 49 2 #[] #[])
  fields := #[]
  methods := #[k1m0, k1m1]
  instanceTypes := #[]
  staticTypes := #[]
  resolved := Array.replicate 48 none
  statics := none }

def pool2 : Array CpInfo := pool [(1, .class_ 2), (0, u "java/io/Serializable"), (0, .class_ 4), (0, u "java/lang/Object")] 2

/-- java/io/Serializable -/
def k2 : Class := { plain "java/io/Serializable" (some 0) with
  accessFlags := 1537
  interfaces := #[]
  cf := some (fileOf pool2 1 #[] #[] 1537 3 #[] #[])
  fields := #[]
  methods := #[]
  instanceTypes := #[]
  staticTypes := #[]
  resolved := Array.replicate 7 none
  statics := none }

def pool3 : Array CpInfo := pool [(1, .class_ 2), (0, u "java/lang/Comparable"), (0, .class_ 4), (0, u "java/lang/Object")] 7

/-- java/lang/Comparable -/
def k3 : Class := { plain "java/lang/Comparable" (some 0) with
  accessFlags := 1537
  interfaces := #[]
  cf := some (fileOf pool3 1 #[] #[] 1537 3 #[] #[])
  fields := #[]
  methods := #[]
  instanceTypes := #[]
  staticTypes := #[]
  resolved := Array.replicate 12 none
  statics := none }

def pool4 : Array CpInfo := pool [(2, .class_ 4), (1, u "java/lang/CharSequence"), (42, .class_ 48), (0, u "java/lang/CharSequence$1CodePointIterator"), (10, .class_ 60), (0, u "java/lang/CharSequence$1CharIterator"), (5, .class_ 67), (0, u "java/lang/Object")] 63

/-- java/lang/CharSequence -/
def k4 : Class := { plain "java/lang/CharSequence" (some 0) with
  accessFlags := 1537
  interfaces := #[]
  cf := some (fileOf pool4 2 #[.nestMembers #[47, 59]] #[] 1537 66 #[] #[])
  fields := #[]
  methods := #[]
  instanceTypes := #[]
  staticTypes := #[]
  resolved := Array.replicate 131 none
  statics := none }

def pool5 : Array CpInfo := pool [(1, .class_ 2), (0, u "java/lang/constant/Constable"), (0, .class_ 4), (0, u "java/lang/Object")] 6

/-- java/lang/constant/Constable -/
def k5 : Class := { plain "java/lang/constant/Constable" (some 0) with
  accessFlags := 1537
  interfaces := #[]
  cf := some (fileOf pool5 1 #[] #[] 1537 3 #[] #[])
  fields := #[]
  methods := #[]
  instanceTypes := #[]
  staticTypes := #[]
  resolved := Array.replicate 11 none
  statics := none }

def pool6 : Array CpInfo := pool [(1, .class_ 2), (0, u "java/lang/constant/ConstantDesc"), (0, .class_ 4), (0, u "java/lang/Object")] 32

/-- java/lang/constant/ConstantDesc -/
def k6 : Class := { plain "java/lang/constant/ConstantDesc" (some 0) with
  accessFlags := 1537
  interfaces := #[]
  cf := some (fileOf pool6 1 #[] #[] 1537 3 #[] #[])
  fields := #[]
  methods := #[]
  instanceTypes := #[]
  staticTypes := #[]
  resolved := Array.replicate 37 none
  statics := none }

def pool7 : Array CpInfo := pool [(1, .methodref 2 3), (0, .class_ 4), (0, .nameAndType 5 6), (0, u "java/lang/Object"), (0, u "<init>"), (0, u "()V"), (0, .string 8), (0, u ""), (0, .fieldref 10 11), (0, .class_ 12), (0, .nameAndType 13 14), (0, u "java/lang/String"), (0, u "value"), (0, u "[B"), (0, .fieldref 10 16), (0, .nameAndType 17 18), (0, u "coder"), (0, u "B"), (2, u "hash"), (0, u "I"), (2, u "hashIsZero"), (0, u "Z"), (0, .methodref 10 28), (0, .nameAndType 5 29), (0, u "([CIILjava/lang/Void;)V"), (8, .fieldref 10 39), (0, .nameAndType 40 26), (0, u "COMPACT_STRINGS"), (1, .class_ 44), (1, u "java/lang/StringUTF16"), (0, u "compress"), (1, .methodref 42 48), (0, .nameAndType 49 50), (0, u "coderFromArrayLen"), (0, u "([BI)B"), (2, u "toBytes"), (53, .class_ 109), (1, u "java/lang/StringLatin1"), (67, .methodref 42 178), (0, .nameAndType 45 179), (0, u "([CII)[B"), (29, .methodref 10 210), (0, .nameAndType 5 211), (0, u "([BB)V"), (157, u "(C)Z"), (171, .methodref 107 542), (0, .nameAndType 543 544), (0, u "equals"), (0, u "([B[B)Z"), (28, u "(Ljava/lang/Object;)Z"), (1, .class_ 576), (0, u "java/lang/CharSequence"), (22, u "CASE_INSENSITIVE_ORDER"), (0, u "Ljava/util/Comparator;"), (181, u "valueOf"), (0, u "(C)Ljava/lang/String;"), (226, u "([C)V"), (4, .methodref 107 1016), (0, .nameAndType 1017 369), (0, u "canEncode"), (0, .methodref 107 1019), (0, .nameAndType 53 1020), (0, u "(C)[B"), (80, u "serialPersistentFields"), (0, u "[Ljava/io/ObjectStreamField;"), (0, .class_ 1104), (0, u "java/lang/String$CaseInsensitiveComparator"), (1, .class_ 1107), (0, u "java/io/Serializable"), (0, .class_ 1109), (0, u "java/lang/Comparable"), (0, .class_ 1111), (0, u "java/lang/constant/Constable"), (0, .class_ 1113), (0, u "java/lang/constant/ConstantDesc"), (2, u "serialVersionUID"), (0, u "J"), (3, u "REPL"), (0, u "C"), (2, u "LATIN1"), (1, u "UTF16")] 323

def k7m0 : Method := { name := "<init>", desc := "()V", sig := { parameters := [], returnType := none }, accessFlags := 1, code := none }
def k7c1 : Code := { maxStack := 5, maxLocals := 2, code := jdk_42_method_3_code, exceptionTable := #[], attributes := #[] }
def k7m1 : Method := { name := "<init>", desc := "([C)V", sig := { parameters := [(.array .char)], returnType := none }, accessFlags := 1, code := some k7c1 }
def k7c2 : Code := { maxStack := 2, maxLocals := 3, code := jdk_42_method_66_code, exceptionTable := #[], attributes := #[] }
def k7m2 : Method := { name := "equals", desc := "(Ljava/lang/Object;)Z", sig := { parameters := [(.object "java/lang/Object")], returnType := some .boolean }, accessFlags := 1, code := some k7c2 }
def k7c3 : Code := { maxStack := 4, maxLocals := 1, code := jdk_42_method_139_code, exceptionTable := #[], attributes := #[] }
def k7m3 : Method := { name := "valueOf", desc := "(C)Ljava/lang/String;", sig := { parameters := [.char], returnType := some (.object "java/lang/String") }, accessFlags := 9, code := some k7c3 }
def k7c4 : Code := { maxStack := 4, maxLocals := 6, code := jdk_42_method_149_code, exceptionTable := #[], attributes := #[] }
def k7m4 : Method := { name := "<init>", desc := "([CIILjava/lang/Void;)V", sig := { parameters := [(.array .char), .int, .int, (.object "java/lang/Void")], returnType := none }, accessFlags := 2, code := some k7c4 }
def k7c5 : Code := { maxStack := 2, maxLocals := 3, code := jdk_42_method_151_code, exceptionTable := #[], attributes := #[] }
def k7m5 : Method := { name := "<init>", desc := "([BB)V", sig := { parameters := [(.array .byte), .byte], returnType := none }, accessFlags := 0, code := some k7c5 }
/-- java/lang/String -/
def k7 : Class := { plain "java/lang/String" (some 0) with
  accessFlags := 49
  interfaces := #[2, 3, 4, 5, 6]
  cf := some (fileOf pool7 10 #[.nestMembers #[1103]] #[⟨1, 5, 6, #[]⟩, ⟨1, 5, 1010, #[]⟩, ⟨1, 543, 573, #[]⟩, ⟨9, 782, 783, #[]⟩, ⟨2, 5, 29, #[]⟩, ⟨0, 5, 211, #[]⟩] 49 2 #[1106, 1108, 575, 1110, 1112] #[⟨18, 13, 14, #[]⟩, ⟨18, 17, 18, #[]⟩, ⟨2, 21, 22, #[]⟩, ⟨2, 25, 26, #[]⟩, ⟨26, 1116, 1117, #[]⟩, ⟨24, 40, 26, #[]⟩, ⟨26, 1101, 1102, #[]⟩, ⟨26, 1121, 1122, #[]⟩, ⟨25, 599, 600, #[]⟩, ⟨24, 1125, 18, #[]⟩, ⟨24, 1127, 18, #[]⟩])
  fields := #[⟨"value", (.array .byte), 18, 0, 0⟩, ⟨"coder", .byte, 18, 1, 0⟩, ⟨"hash", .int, 2, 2, 0⟩, ⟨"hashIsZero", .boolean, 2, 3, 0⟩, ⟨"serialVersionUID", .long, 26, 0, 0⟩, ⟨"COMPACT_STRINGS", .boolean, 24, 1, 0⟩, ⟨"serialPersistentFields", (.array (.object "java/io/ObjectStreamField")), 26, 2, 0⟩, ⟨"REPL", .char, 26, 3, 0⟩, ⟨"CASE_INSENSITIVE_ORDER", (.object "java/util/Comparator"), 25, 4, 0⟩, ⟨"LATIN1", .byte, 24, 5, 0⟩, ⟨"UTF16", .byte, 24, 6, 0⟩]
  methods := #[k7m0, k7m1, k7m2, k7m3, k7m4, k7m5]
  instanceTypes := #[(.array .byte), .byte, .int, .boolean]
  staticTypes := #[.long, .boolean, (.array (.object "java/io/ObjectStreamField")), .char, (.object "java/util/Comparator"), .byte, .byte]
  resolved := Array.replicate 1451 none
  statics := some 0 }

def pool8 : Array CpInfo := pool [(6, .class_ 8), (1, u "java/lang/Object"), (0, u "<init>"), (0, u "()V"), (0, .methodref 12 13), (0, .class_ 14), (0, .nameAndType 15 16), (0, u "java/lang/StringUTF16"), (0, u "newBytesLength"), (0, u "(I)I"), (3, .integer 1073741823), (23, .fieldref 12 45), (0, .nameAndType 46 47), (0, u "$assertionsDisabled"), (0, u "Z"), (11, .fieldref 12 60), (0, .nameAndType 61 62), (0, u "HI_BYTE_SHIFT"), (0, u "I"), (0, .fieldref 12 64), (0, .nameAndType 65 62), (0, u "LO_BYTE_SHIFT"), (5, .methodref 12 72), (0, .nameAndType 73 74), (0, u "getChar"), (0, u "([BI)C"), (32, .methodref 12 108), (0, .nameAndType 109 110), (0, u "newBytesFor"), (0, u "(I)[B"), (0, .methodref 12 112), (0, .nameAndType 113 114), (0, u "putChar"), (0, u "([BII)V"), (0, .methodref 12 116), (0, .nameAndType 117 118), (0, u "compress"), (0, u "([CI[BII)I"), (0, .methodref 12 120), (0, .nameAndType 121 122), (0, u "toBytes"), (0, u "([CII)[B"), (138, u "coderFromArrayLen"), (0, u "([BI)B"), (106, .class_ 371), (1, u "java/lang/StringUTF16$LinesSpliterator"), (58, u "MAX_LENGTH"), (196, .class_ 628), (0, u "java/lang/StringUTF16$CodePointsSpliterator"), (0, .class_ 630), (0, u "java/lang/StringUTF16$CharsSpliterator")] 4

def k8m0 : Method := { name := "<init>", desc := "()V", sig := { parameters := [], returnType := none }, accessFlags := 0, code := none }
def k8c1 : Code := { maxStack := 1, maxLocals := 1, code := jdk_52_method_2_code, exceptionTable := #[], attributes := #[] }
def k8m1 : Method := { name := "newBytesFor", desc := "(I)[B", sig := { parameters := [.int], returnType := some (.array .byte) }, accessFlags := 9, code := some k8c1 }
def k8c2 : Code := { maxStack := 4, maxLocals := 1, code := jdk_52_method_3_code, exceptionTable := #[], attributes := #[] }
def k8m2 : Method := { name := "newBytesLength", desc := "(I)I", sig := { parameters := [.int], returnType := some .int }, accessFlags := 9, code := some k8c2 }
def k8c3 : Code := { maxStack := 4, maxLocals := 3, code := jdk_52_method_4_code, exceptionTable := #[], attributes := #[] }
def k8m3 : Method := { name := "putChar", desc := "([BII)V", sig := { parameters := [(.array .byte), .int, .int], returnType := none }, accessFlags := 8, code := some k8c3 }
def k8c4 : Code := { maxStack := 3, maxLocals := 2, code := jdk_52_method_5_code, exceptionTable := #[], attributes := #[] }
def k8m4 : Method := { name := "getChar", desc := "([BI)C", sig := { parameters := [(.array .byte), .int], returnType := some .char }, accessFlags := 8, code := some k8c4 }
def k8c5 : Code := { maxStack := 4, maxLocals := 5, code := jdk_52_method_14_code, exceptionTable := #[], attributes := #[] }
def k8m5 : Method := { name := "toBytes", desc := "([CII)[B", sig := { parameters := [(.array .char), .int, .int], returnType := some (.array .byte) }, accessFlags := 9, code := some k8c5 }
def k8c6 : Code := { maxStack := 2, maxLocals := 2, code := jdk_52_method_15_code, exceptionTable := #[], attributes := #[] }
def k8m6 : Method := { name := "coderFromArrayLen", desc := "([BI)B", sig := { parameters := [(.array .byte), .int], returnType := some .byte }, accessFlags := 8, code := some k8c6 }
def k8c7 : Code := { maxStack := 5, maxLocals := 6, code := jdk_52_method_16_code, exceptionTable := #[], attributes := #[] }
def k8m7 : Method := { name := "compress", desc := "([CII)[B", sig := { parameters := [(.array .char), .int, .int], returnType := some (.array .byte) }, accessFlags := 9, code := some k8c7 }
def k8c8 : Code := { maxStack := 3, maxLocals := 7, code := jdk_52_method_21_code, exceptionTable := #[], attributes := #[] }
def k8m8 : Method := { name := "compress", desc := "([CI[BII)I", sig := { parameters := [(.array .char), .int, (.array .byte), .int, .int], returnType := some .int }, accessFlags := 9, code := some k8c8 }
/-- java/lang/StringUTF16 -/
def k8 : Class := { plain "java/lang/StringUTF16" (some 0) with
  accessFlags := 48
  interfaces := #[]
  cf := some (fileOf pool8 12 #[.nestMembers #[627, 629, 369]] #[⟨0, 9, 10, #[]⟩, ⟨9, 109, 110, #[]⟩, ⟨9, 15, 16, #[]⟩, ⟨8, 113, 114, #[]⟩, ⟨8, 73, 74, #[]⟩, ⟨9, 121, 122, #[]⟩, ⟨8, 261, 262, #[]⟩, ⟨9, 117, 122, #[]⟩, ⟨9, 117, 118, #[]⟩] 48 6 #[] #[⟨26, 61, 62, #[]⟩, ⟨26, 65, 62, #[]⟩, ⟨24, 430, 62, #[]⟩, ⟨4120, 46, 47, #[]⟩])
  fields := #[⟨"HI_BYTE_SHIFT", .int, 26, 0, 0⟩, ⟨"LO_BYTE_SHIFT", .int, 26, 1, 0⟩, ⟨"MAX_LENGTH", .int, 24, 2, 0⟩, ⟨"$assertionsDisabled", .boolean, 4120, 3, 0⟩]
  methods := #[k8m0, k8m1, k8m2, k8m3, k8m4, k8m5, k8m6, k8m7, k8m8]
  instanceTypes := #[]
  staticTypes := #[.int, .int, .int, .boolean]
  resolved := Array.replicate 635 none
  statics := some 1 }

def pool9 : Array CpInfo := pool [(1, .methodref 2 3), (0, .class_ 4), (0, .nameAndType 5 6), (0, u "java/lang/Object"), (0, u "<init>"), (0, u "()V"), (0, .class_ 8), (0, u "java/lang/Record")] 13

def k9c0 : Code := { maxStack := 1, maxLocals := 1, code := jdk_30_method_1_code, exceptionTable := #[], attributes := #[] }
def k9m0 : Method := { name := "<init>", desc := "()V", sig := { parameters := [], returnType := none }, accessFlags := 4, code := some k9c0 }
/-- java/lang/Record -/
def k9 : Class := { plain "java/lang/Record" (some 0) with
  accessFlags := 1057
  interfaces := #[]
  cf := some (fileOf pool9 7 #[] #[⟨4, 5, 6, #[]⟩] 1057 2 #[] #[])
  fields := #[]
  methods := #[k9m0]
  instanceTypes := #[]
  staticTypes := #[]
  resolved := Array.replicate 22 none
  statics := none }

def pool10 : Array CpInfo := pool [(3, .methodref 4 5), (0, .class_ 6), (0, .nameAndType 7 8), (0, u "java/lang/Record"), (0, u "<init>"), (0, u "()V"), (0, .fieldref 10 11), (0, .class_ 12), (0, .nameAndType 13 14), (0, u "com/example/hearthline/hearthline/mapping/Unit"), (0, u "system"), (0, u "Ljava/lang/String;"), (0, .fieldref 10 16), (0, .nameAndType 17 14), (0, u "code"), (0, .string 19), (0, u "http://unitsofmeasure.org"), (0, .methodref 21 22), (0, .class_ 23), (0, .nameAndType 24 25), (0, u "java/lang/String"), (0, u "equals"), (0, u "(Ljava/lang/Object;)Z"), (2, u "(Ljava/lang/String;Ljava/lang/String;)V"), (14, u "text"), (0, u "()Ljava/lang/String;")] 25

def k10c0 : Code := { maxStack := 2, maxLocals := 3, code := prog_10_method_1_code, exceptionTable := #[], attributes := #[] }
def k10m0 : Method := { name := "<init>", desc := "(Ljava/lang/String;Ljava/lang/String;)V", sig := { parameters := [(.object "java/lang/String"), (.object "java/lang/String")], returnType := none }, accessFlags := 0, code := some k10c0 }
def k10c1 : Code := { maxStack := 2, maxLocals := 1, code := prog_10_method_2_code, exceptionTable := #[], attributes := #[] }
def k10m1 : Method := { name := "text", desc := "()Ljava/lang/String;", sig := { parameters := [], returnType := some (.object "java/lang/String") }, accessFlags := 0, code := some k10c1 }
/-- com/example/hearthline/hearthline/mapping/Unit -/
def k10 : Class := { plain "com/example/hearthline/hearthline/mapping/Unit" (some 9) with
  accessFlags := 48
  interfaces := #[]
  cf := some (fileOf pool10 10 #[] #[⟨0, 7, 28, #[]⟩, ⟨0, 43, 44, #[]⟩] 48 4 #[] #[⟨18, 13, 14, #[]⟩, ⟨18, 17, 14, #[]⟩])
  fields := #[⟨"system", (.object "java/lang/String"), 18, 0, 0⟩, ⟨"code", (.object "java/lang/String"), 18, 1, 0⟩]
  methods := #[k10m0, k10m1]
  instanceTypes := #[(.object "java/lang/String"), (.object "java/lang/String")]
  staticTypes := #[]
  resolved := Array.replicate 70 none
  statics := none }

def pool11 : Array CpInfo := pool [(4, .class_ 6), (1, u "java/lang/Object"), (0, u "<init>"), (0, u "()V"), (5, .class_ 16), (1, u "java/lang/StringLatin1"), (73, u "canEncode"), (14, u "(C)Z"), (15, u "$assertionsDisabled"), (0, u "Z"), (98, .class_ 223), (1, u "java/lang/StringLatin1$LinesSpliterator"), (57, u "equals"), (0, u "([B[B)Z"), (97, u "toBytes"), (1, u "(C)[B"), (7, .class_ 391), (0, u "java/lang/StringLatin1$CharsSpliterator")] 3

def k11m0 : Method := { name := "<init>", desc := "()V", sig := { parameters := [], returnType := none }, accessFlags := 0, code := none }
def k11c1 : Code := { maxStack := 2, maxLocals := 1, code := jdk_43_method_3_code, exceptionTable := #[], attributes := #[] }
def k11m1 : Method := { name := "canEncode", desc := "(C)Z", sig := { parameters := [.char], returnType := some .boolean }, accessFlags := 9, code := some k11c1 }
def k11c2 : Code := { maxStack := 3, maxLocals := 3, code := jdk_43_method_13_code, exceptionTable := #[], attributes := #[] }
def k11m2 : Method := { name := "equals", desc := "([B[B)Z", sig := { parameters := [(.array .byte), (.array .byte)], returnType := some .boolean }, accessFlags := 9, code := some k11c2 }
def k11c3 : Code := { maxStack := 4, maxLocals := 1, code := jdk_43_method_46_code, exceptionTable := #[], attributes := #[] }
def k11m3 : Method := { name := "toBytes", desc := "(C)[B", sig := { parameters := [.char], returnType := some (.array .byte) }, accessFlags := 9, code := some k11c3 }
/-- java/lang/StringLatin1 -/
def k11 : Class := { plain "java/lang/StringLatin1" (some 0) with
  accessFlags := 48
  interfaces := #[]
  cf := some (fileOf pool11 14 #[.nestMembers #[390, 221]] #[⟨0, 7, 8, #[]⟩, ⟨9, 90, 105, #[]⟩, ⟨9, 281, 282, #[]⟩, ⟨9, 380, 382, #[]⟩] 48 4 #[] #[⟨4120, 121, 122, #[]⟩])
  fields := #[⟨"$assertionsDisabled", .boolean, 4120, 0, 0⟩]
  methods := #[k11m0, k11m1, k11m2, k11m3]
  instanceTypes := #[]
  staticTypes := #[.boolean]
  resolved := Array.replicate 395 none
  statics := none }

def pool12 : Array CpInfo := pool [(2, .class_ 4), (1, u "java/lang/Object"), (0, u "<init>"), (0, u "()V"), (17, .class_ 26), (1, u "jdk/internal/util/Preconditions"), (28, .class_ 56), (0, u "jdk/internal/util/Preconditions$4"), (57, .class_ 115), (0, u "jdk/internal/util/Preconditions$1"), (7, u "SIOOBE_FORMATTER"), (0, u "Ljava/util/function/BiFunction;"), (0, .class_ 126), (0, u "jdk/internal/util/Preconditions$2"), (3, u "AIOOBE_FORMATTER"), (0, .class_ 132), (0, u "jdk/internal/util/Preconditions$3"), (3, u "IOOBE_FORMATTER")] 57

def k12m0 : Method := { name := "<init>", desc := "()V", sig := { parameters := [], returnType := none }, accessFlags := 1, code := none }
/-- jdk/internal/util/Preconditions -/
def k12 : Class := { plain "jdk/internal/util/Preconditions" (some 0) with
  accessFlags := 33
  interfaces := #[]
  cf := some (fileOf pool12 24 #[.nestMembers #[55, 131, 125, 114]] #[⟨1, 5, 6, #[]⟩] 33 2 #[] #[⟨25, 123, 124, #[]⟩, ⟨25, 130, 124, #[]⟩, ⟨25, 136, 124, #[]⟩])
  fields := #[⟨"SIOOBE_FORMATTER", (.object "java/util/function/BiFunction"), 25, 0, 0⟩, ⟨"AIOOBE_FORMATTER", (.object "java/util/function/BiFunction"), 25, 1, 0⟩, ⟨"IOOBE_FORMATTER", (.object "java/util/function/BiFunction"), 25, 2, 0⟩]
  methods := #[k12m0]
  instanceTypes := #[]
  staticTypes := #[(.object "java/util/function/BiFunction"), (.object "java/util/function/BiFunction"), (.object "java/util/function/BiFunction")]
  resolved := Array.replicate 194 none
  statics := some 2 }

def pool13 : Array CpInfo := pool [(9, u "<init>"), (6, .class_ 18), (1, u "java/lang/Object"), (0, u "()V"), (1, .class_ 23), (1, u "jdk/internal/util/ArraysSupport"), (0, u "LOG2_ARRAY_LONG_INDEX_SCALE"), (0, u "I"), (2, u "U"), (0, u "Ljdk/internal/misc/Unsafe;"), (8, u "BIG_ENDIAN"), (0, u "Z"), (8, u "LOG2_BYTE_BIT_SIZE"), (4, u "LOG2_ARRAY_INT_INDEX_SCALE"), (54, u "JLA"), (0, u "Ljdk/internal/access/JavaLangAccess;"), (11, u "LOG2_ARRAY_BOOLEAN_INDEX_SCALE"), (9, u "LOG2_ARRAY_BYTE_INDEX_SCALE"), (5, u "LOG2_ARRAY_CHAR_INDEX_SCALE"), (5, u "LOG2_ARRAY_SHORT_INDEX_SCALE"), (18, u "LOG2_ARRAY_FLOAT_INDEX_SCALE"), (24, u "LOG2_ARRAY_DOUBLE_INDEX_SCALE"), (89, u "T_BOOLEAN"), (2, u "T_CHAR"), (1, u "T_FLOAT"), (1, u "T_DOUBLE"), (1, u "T_BYTE"), (1, u "T_SHORT"), (1, u "T_INT"), (1, u "T_LONG"), (1, u "SOFT_MAX_ARRAY_LENGTH")] 83

def k13m0 : Method := { name := "<init>", desc := "()V", sig := { parameters := [], returnType := none }, accessFlags := 2, code := none }
/-- jdk/internal/util/ArraysSupport -/
def k13 : Class := { plain "jdk/internal/util/ArraysSupport" (some 0) with
  accessFlags := 33
  interfaces := #[]
  cf := some (fileOf pool13 21 #[] #[⟨2, 9, 19, #[]⟩] 33 16 #[] #[⟨24, 28, 29, #[]⟩, ⟨26, 38, 39, #[]⟩, ⟨25, 121, 25, #[]⟩, ⟨25, 131, 25, #[]⟩, ⟨25, 137, 25, #[]⟩, ⟨25, 143, 25, #[]⟩, ⟨25, 53, 25, #[]⟩, ⟨25, 24, 25, #[]⟩, ⟨25, 162, 25, #[]⟩, ⟨25, 187, 25, #[]⟩, ⟨26, 48, 25, #[]⟩, ⟨25, 277, 25, #[]⟩, ⟨25, 280, 25, #[]⟩, ⟨25, 282, 25, #[]⟩, ⟨25, 284, 25, #[]⟩, ⟨25, 286, 25, #[]⟩, ⟨25, 288, 25, #[]⟩, ⟨25, 290, 25, #[]⟩, ⟨25, 292, 25, #[]⟩, ⟨26, 108, 109, #[]⟩, ⟨25, 294, 25, #[]⟩])
  fields := #[⟨"U", (.object "jdk/internal/misc/Unsafe"), 24, 0, 0⟩, ⟨"BIG_ENDIAN", .boolean, 26, 1, 0⟩, ⟨"LOG2_ARRAY_BOOLEAN_INDEX_SCALE", .int, 25, 2, 0⟩, ⟨"LOG2_ARRAY_BYTE_INDEX_SCALE", .int, 25, 3, 0⟩, ⟨"LOG2_ARRAY_CHAR_INDEX_SCALE", .int, 25, 4, 0⟩, ⟨"LOG2_ARRAY_SHORT_INDEX_SCALE", .int, 25, 5, 0⟩, ⟨"LOG2_ARRAY_INT_INDEX_SCALE", .int, 25, 6, 0⟩, ⟨"LOG2_ARRAY_LONG_INDEX_SCALE", .int, 25, 7, 0⟩, ⟨"LOG2_ARRAY_FLOAT_INDEX_SCALE", .int, 25, 8, 0⟩, ⟨"LOG2_ARRAY_DOUBLE_INDEX_SCALE", .int, 25, 9, 0⟩, ⟨"LOG2_BYTE_BIT_SIZE", .int, 26, 10, 0⟩, ⟨"T_BOOLEAN", .int, 25, 11, 0⟩, ⟨"T_CHAR", .int, 25, 12, 0⟩, ⟨"T_FLOAT", .int, 25, 13, 0⟩, ⟨"T_DOUBLE", .int, 25, 14, 0⟩, ⟨"T_BYTE", .int, 25, 15, 0⟩, ⟨"T_SHORT", .int, 25, 16, 0⟩, ⟨"T_INT", .int, 25, 17, 0⟩, ⟨"T_LONG", .int, 25, 18, 0⟩, ⟨"JLA", (.object "jdk/internal/access/JavaLangAccess"), 26, 19, 0⟩, ⟨"SOFT_MAX_ARRAY_LENGTH", .int, 25, 20, 0⟩]
  methods := #[k13m0]
  instanceTypes := #[]
  staticTypes := #[(.object "jdk/internal/misc/Unsafe"), .boolean, .int, .int, .int, .int, .int, .int, .int, .int, .int, .int, .int, .int, .int, .int, .int, .int, .int, (.object "jdk/internal/access/JavaLangAccess"), .int]
  resolved := Array.replicate 378 none
  statics := none }

def pool14 : Array CpInfo := pool [(1, u "java/lang/Cloneable"), (0, .class_ 1), (0, u "java/lang/Object"), (0, .class_ 3)] 3

/-- java/lang/Cloneable -/
def k14 : Class := { plain "java/lang/Cloneable" (some 0) with
  accessFlags := 1537
  interfaces := #[]
  cf := some (fileOf pool14 2 #[] #[] 1537 4 #[] #[])
  fields := #[]
  methods := #[]
  instanceTypes := #[]
  staticTypes := #[]
  resolved := Array.replicate 8 none
  statics := none }

/-- the primitive byte -/
def k15 : Class := { plain "byte" none with kind := .primitive 'B', accessFlags := 0x411 }
/-- [B -/
def k16 : Class := { plain "[B" (some 0) with kind := .array 15 .byte, interfaces := #[14, 2], accessFlags := 1041 }

/-- the primitive char -/
def k17 : Class := { plain "char" none with kind := .primitive 'C', accessFlags := 0x411 }
/-- [C -/
def k18 : Class := { plain "[C" (some 0) with kind := .array 17 .char, interfaces := #[14, 2], accessFlags := 1041 }

/-- the primitive int -/
def k19 : Class := { plain "int" none with kind := .primitive 'I', accessFlags := 0x411 }
/-- [I -/
def k20 : Class := { plain "[I" (some 0) with kind := .array 19 .int, interfaces := #[14, 2], accessFlags := 1041 }

def heap : Heap := #[{ cls := 7, slots := #[.long 0, .int 1, .null, .int 0, .null, .int 0, .int 0], vm := .statics 7 },
  { cls := 8, slots := #[.int 0, .int 8, .int 0, .int 1], vm := .statics 8 },
  { cls := 12, slots := #[.null, .null, .null], vm := .statics 12 }]
def classes : Array Class := #[k0, k1, k2, k3, k4, k5, k6, k7, k8, k9, k10, k11, k12, k13, k14, k15, k16, k17, k18, k19, k20]
def interned : List (Array UInt16 × Addr) := []
def slotsUsed : Nat := 14
def theMethod : MethodId := ⟨1, 1⟩
def args0 : Array Value := #[.int 5, .int 6, .int 7, .int 8, .int 9, .int 10]
def aboutOver (below : List Frame) : State where
  vm := { classes := classes, interned := interned.toArray }
  heap := heap
  slotsUsed := slotsUsed
  threads := #[{ frames := .invoking theMethod args0 :: below }]
def below0 : List Frame := [.native { method := ⟨0, 0⟩, args := #[] }]
def about1 : State := aboutOver below0
def p0 : Program := .bare "" "" ""
def e0 : Env := launch0.env 0 0 0
theorem w_frames : about1.frames = Frame.invoking theMethod args0 :: below0 := rfl
set_option maxRecDepth 65536 in
theorem w_args : argsFit about1.vm theMethod args0 = true := by decide +kernel
set_option maxRecDepth 65536 in
theorem w_heap : heapFits about1 = true := by decide +kernel
set_option maxRecDepth 65536 in
theorem w_runnable : about1.curStatus? = some .runnable := by decide +kernel
set_option maxRecDepth 65536 in
theorem w_alone : about1.alone = true := by decide +kernel
set_option maxRecDepth 65536 in
theorem w_named : about1.methodNamed? x = some theMethod := by decide +kernel
set_option maxRecDepth 65536 in
theorem w_hears : about1.hears theMethod below0 = true := by decide +kernel
set_option maxRecDepth 65536 in
theorem w_ripe : about1.ripe theMethod args0 below0 = true := by decide +kernel
theorem w_running : about1.status = .running := rfl
set_option maxRecDepth 65536 in
theorem w_room : about1.hasRoom e0.platform room_1 = true :=
  launch0.hasRoom_least _ room_1 (by decide +kernel) (by decide +kernel) (by decide +kernel) (by decide +kernel) (by decide +kernel) (by decide +kernel)
theorem allAtoms_all (ts : List Jvm.Cond) (a : Array Jvm.Value) (st : Jvm.State) : (allAtoms ts).before a st = ts.all (fun c => c.before a st) := by
  induction ts with
  | nil => rfl
  | cons c t ih =>
    show (Jvm.Cond.and c (allAtoms t)).before a st = _
    rw [Jvm.Cond.before_and, ih, List.all_cons]
def words1 : List Jvm.Cond := Jvm.Cond.code x code maxLocals ret :: tables_1
/-- a 'code' word, met by the world's own term for the bytes: nothing is compared byte by byte -/
theorem code_word {y : MethodName} {bytes : ByteArray} {mx : Nat} {rt : Option FieldType} {a : Array Value} {s : State} {m : MethodId} {meth : Method} {c : Code} (h1 : s.methodNamed? y = some m) (h2 : s.vm.method? m = some meth) (h3 : meth.code = some c) (h4 : c.code = bytes)
    (h5 : (c.maxLocals == mx && c.exceptionTable.isEmpty && decide (c.maxStack ≤ mostOperands) && decide (meth.sig.returnType = rt) && !meth.locks && decide (parseMethodDescriptor y.desc = some meth.sig)) = true) : (Jvm.Cond.code y bytes mx rt).before a s = true := by
  simp only [Bool.and_eq_true, beq_iff_eq, Bool.not_eq_true', decide_eq_true_eq] at h5
  obtain ⟨⟨⟨⟨⟨g1, g2⟩, g3⟩, g4⟩, g5⟩, g6⟩ := h5
  simp [Cond.before, Cond.holds, Cond.value, h1, h2, h3, h4, g1, g2, g3, g4, g5, g6]
def isCode : Jvm.Cond → Bool
  | .code _ _ _ _ => true
  | _ => false
theorem all_split {L : List Jvm.Cond} {P : Jvm.Cond → Bool} (h1 : L.all (fun c => isCode c || P c) = true) (h2 : ∀ c ∈ L.filter isCode, P c = true) : L.all P = true := by
  refine List.all_eq_true.mpr fun c hc => ?_
  have h := List.all_eq_true.mp h1 c hc
  rcases Bool.eq_false_or_eq_true (isCode c) with hi | hi
  · exact h2 c (List.mem_filter.mpr ⟨hc, hi⟩)
  · simpa [hi] using h
set_option maxRecDepth 65536 in
theorem w_c0 : (Jvm.Cond.code x code maxLocals ret).before args0 about1 = true := code_word (m := ⟨1, 1⟩) (meth := k1m1) (c := k1c1) (by decide +kernel) rfl rfl rfl (by decide +kernel)
set_option maxRecDepth 65536 in
theorem w_c1 : (Jvm.Cond.code Y9_ jdk_42_method_3_code (2 : Nat) (Option.none : Option Jvm.ClassFile.FieldType)).before args0 about1 = true := code_word (m := ⟨7, 1⟩) (meth := k7m1) (c := k7c1) (by decide +kernel) rfl rfl rfl (by decide +kernel)
set_option maxRecDepth 65536 in
theorem w_c2 : (Jvm.Cond.code Y8_ jdk_42_method_149_code (6 : Nat) (Option.none : Option Jvm.ClassFile.FieldType)).before args0 about1 = true := code_word (m := ⟨7, 4⟩) (meth := k7m4) (c := k7c4) (by decide +kernel) rfl rfl rfl (by decide +kernel)
set_option maxRecDepth 65536 in
theorem w_c3 : (Jvm.Cond.code (⟨"java/lang/Object", "<init>", "()V"⟩ : Jvm.MethodName) object_method_1_code (1 : Nat) (Option.none : Option Jvm.ClassFile.FieldType)).before args0 about1 = true := code_word (m := ⟨0, 0⟩) (meth := k0m0) (c := k0c0) (by decide +kernel) rfl rfl rfl (by decide +kernel)
set_option maxRecDepth 65536 in
theorem w_c4 : (Jvm.Cond.code Y6_ jdk_52_method_16_code (6 : Nat) (Option.some (Jvm.ClassFile.FieldType.array Jvm.ClassFile.FieldType.byte))).before args0 about1 = true := code_word (m := ⟨8, 7⟩) (meth := k8m7) (c := k8c7) (by decide +kernel) rfl rfl rfl (by decide +kernel)
set_option maxRecDepth 65536 in
theorem w_c5 : (Jvm.Cond.code Y0_ jdk_52_method_21_code (7 : Nat) (Option.some Jvm.ClassFile.FieldType.int)).before args0 about1 = true := code_word (m := ⟨8, 8⟩) (meth := k8m8) (c := k8c8) (by decide +kernel) rfl rfl rfl (by decide +kernel)
set_option maxRecDepth 65536 in
theorem w_c6 : (Jvm.Cond.code Y7_ jdk_52_method_15_code (2 : Nat) (Option.some Jvm.ClassFile.FieldType.byte)).before args0 about1 = true := code_word (m := ⟨8, 6⟩) (meth := k8m6) (c := k8c6) (by decide +kernel) rfl rfl rfl (by decide +kernel)
set_option maxRecDepth 65536 in
theorem w_c7 : (Jvm.Cond.code Y11_ prog_10_method_1_code (3 : Nat) (Option.none : Option Jvm.ClassFile.FieldType)).before args0 about1 = true := code_word (m := ⟨10, 0⟩) (meth := k10m0) (c := k10c0) (by decide +kernel) rfl rfl rfl (by decide +kernel)
set_option maxRecDepth 65536 in
theorem w_c8 : (Jvm.Cond.code Y10_ jdk_30_method_1_code (1 : Nat) (Option.none : Option Jvm.ClassFile.FieldType)).before args0 about1 = true := code_word (m := ⟨9, 0⟩) (meth := k9m0) (c := k9c0) (by decide +kernel) rfl rfl rfl (by decide +kernel)
set_option maxRecDepth 65536 in
theorem w_c9 : (Jvm.Cond.code Y12_ prog_10_method_2_code (1 : Nat) (Option.some (Jvm.ClassFile.FieldType.object "java/lang/String"))).before args0 about1 = true := code_word (m := ⟨10, 1⟩) (meth := k10m1) (c := k10c1) (by decide +kernel) rfl rfl rfl (by decide +kernel)
set_option maxRecDepth 65536 in
theorem w_c10 : (Jvm.Cond.code Y13_ jdk_42_method_66_code (3 : Nat) (Option.some Jvm.ClassFile.FieldType.boolean)).before args0 about1 = true := code_word (m := ⟨7, 2⟩) (meth := k7m2) (c := k7c2) (by decide +kernel) rfl rfl rfl (by decide +kernel)
set_option maxRecDepth 65536 in
theorem w_c11 : (Jvm.Cond.code (⟨"java/lang/StringLatin1", "equals", "([B[B)Z"⟩ : Jvm.MethodName) jdk_43_method_13_code (3 : Nat) (Option.some Jvm.ClassFile.FieldType.boolean)).before args0 about1 = true := code_word (m := ⟨11, 2⟩) (meth := k11m2) (c := k11c2) (by decide +kernel) rfl rfl rfl (by decide +kernel)
set_option maxRecDepth 65536 in
theorem w_c12 : (Jvm.Cond.code Y4_ jdk_52_method_14_code (5 : Nat) (Option.some (Jvm.ClassFile.FieldType.array Jvm.ClassFile.FieldType.byte))).before args0 about1 = true := code_word (m := ⟨8, 5⟩) (meth := k8m5) (c := k8c5) (by decide +kernel) rfl rfl rfl (by decide +kernel)
set_option maxRecDepth 65536 in
theorem w_c13 : (Jvm.Cond.code Y2_ jdk_52_method_2_code (1 : Nat) (Option.some (Jvm.ClassFile.FieldType.array Jvm.ClassFile.FieldType.byte))).before args0 about1 = true := code_word (m := ⟨8, 1⟩) (meth := k8m1) (c := k8c1) (by decide +kernel) rfl rfl rfl (by decide +kernel)
set_option maxRecDepth 65536 in
theorem w_c14 : (Jvm.Cond.code Y1_ jdk_52_method_3_code (1 : Nat) (Option.some Jvm.ClassFile.FieldType.int)).before args0 about1 = true := code_word (m := ⟨8, 2⟩) (meth := k8m2) (c := k8c2) (by decide +kernel) rfl rfl rfl (by decide +kernel)
set_option maxRecDepth 65536 in
theorem w_c15 : (Jvm.Cond.code Y3_ jdk_52_method_4_code (3 : Nat) (Option.none : Option Jvm.ClassFile.FieldType)).before args0 about1 = true := code_word (m := ⟨8, 3⟩) (meth := k8m3) (c := k8c3) (by decide +kernel) rfl rfl rfl (by decide +kernel)
set_option maxRecDepth 65536 in
theorem w_c16 : (Jvm.Cond.code Y5_ jdk_52_method_5_code (2 : Nat) (Option.some Jvm.ClassFile.FieldType.char)).before args0 about1 = true := code_word (m := ⟨8, 4⟩) (meth := k8m4) (c := k8c4) (by decide +kernel) rfl rfl rfl (by decide +kernel)
set_option maxRecDepth 65536 in
theorem w_c17 : (Jvm.Cond.code Y17_ jdk_42_method_139_code (1 : Nat) (Option.some (Jvm.ClassFile.FieldType.object "java/lang/String"))).before args0 about1 = true := code_word (m := ⟨7, 3⟩) (meth := k7m3) (c := k7c3) (by decide +kernel) rfl rfl rfl (by decide +kernel)
set_option maxRecDepth 65536 in
theorem w_c18 : (Jvm.Cond.code Y14_ jdk_43_method_3_code (1 : Nat) (Option.some Jvm.ClassFile.FieldType.boolean)).before args0 about1 = true := code_word (m := ⟨11, 1⟩) (meth := k11m1) (c := k11c1) (by decide +kernel) rfl rfl rfl (by decide +kernel)
set_option maxRecDepth 65536 in
theorem w_c19 : (Jvm.Cond.code Y15_ jdk_43_method_46_code (1 : Nat) (Option.some (Jvm.ClassFile.FieldType.array Jvm.ClassFile.FieldType.byte))).before args0 about1 = true := code_word (m := ⟨11, 3⟩) (meth := k11m3) (c := k11c3) (by decide +kernel) rfl rfl rfl (by decide +kernel)
set_option maxRecDepth 65536 in
theorem w_c20 : (Jvm.Cond.code Y16_ jdk_42_method_151_code (3 : Nat) (Option.none : Option Jvm.ClassFile.FieldType)).before args0 about1 = true := code_word (m := ⟨7, 5⟩) (meth := k7m5) (c := k7c5) (by decide +kernel) rfl rfl rfl (by decide +kernel)
def codes1 : List Jvm.Cond := [Jvm.Cond.code x code maxLocals ret, Jvm.Cond.code Y9_ jdk_42_method_3_code (2 : Nat) (Option.none : Option Jvm.ClassFile.FieldType), Jvm.Cond.code Y8_ jdk_42_method_149_code (6 : Nat) (Option.none : Option Jvm.ClassFile.FieldType), Jvm.Cond.code (⟨"java/lang/Object", "<init>", "()V"⟩ : Jvm.MethodName) object_method_1_code (1 : Nat) (Option.none : Option Jvm.ClassFile.FieldType), Jvm.Cond.code Y6_ jdk_52_method_16_code (6 : Nat) (Option.some (Jvm.ClassFile.FieldType.array Jvm.ClassFile.FieldType.byte)), Jvm.Cond.code Y0_ jdk_52_method_21_code (7 : Nat) (Option.some Jvm.ClassFile.FieldType.int), Jvm.Cond.code Y7_ jdk_52_method_15_code (2 : Nat) (Option.some Jvm.ClassFile.FieldType.byte), Jvm.Cond.code Y11_ prog_10_method_1_code (3 : Nat) (Option.none : Option Jvm.ClassFile.FieldType), Jvm.Cond.code Y10_ jdk_30_method_1_code (1 : Nat) (Option.none : Option Jvm.ClassFile.FieldType), Jvm.Cond.code Y12_ prog_10_method_2_code (1 : Nat) (Option.some (Jvm.ClassFile.FieldType.object "java/lang/String")), Jvm.Cond.code Y13_ jdk_42_method_66_code (3 : Nat) (Option.some Jvm.ClassFile.FieldType.boolean), Jvm.Cond.code (⟨"java/lang/StringLatin1", "equals", "([B[B)Z"⟩ : Jvm.MethodName) jdk_43_method_13_code (3 : Nat) (Option.some Jvm.ClassFile.FieldType.boolean), Jvm.Cond.code Y4_ jdk_52_method_14_code (5 : Nat) (Option.some (Jvm.ClassFile.FieldType.array Jvm.ClassFile.FieldType.byte)), Jvm.Cond.code Y2_ jdk_52_method_2_code (1 : Nat) (Option.some (Jvm.ClassFile.FieldType.array Jvm.ClassFile.FieldType.byte)), Jvm.Cond.code Y1_ jdk_52_method_3_code (1 : Nat) (Option.some Jvm.ClassFile.FieldType.int), Jvm.Cond.code Y3_ jdk_52_method_4_code (3 : Nat) (Option.none : Option Jvm.ClassFile.FieldType), Jvm.Cond.code Y5_ jdk_52_method_5_code (2 : Nat) (Option.some Jvm.ClassFile.FieldType.char), Jvm.Cond.code Y17_ jdk_42_method_139_code (1 : Nat) (Option.some (Jvm.ClassFile.FieldType.object "java/lang/String")), Jvm.Cond.code Y14_ jdk_43_method_3_code (1 : Nat) (Option.some Jvm.ClassFile.FieldType.boolean), Jvm.Cond.code Y15_ jdk_43_method_46_code (1 : Nat) (Option.some (Jvm.ClassFile.FieldType.array Jvm.ClassFile.FieldType.byte)), Jvm.Cond.code Y16_ jdk_42_method_151_code (3 : Nat) (Option.none : Option Jvm.ClassFile.FieldType)]
set_option maxRecDepth 65536 in
theorem codes_eq : words1.filter isCode = codes1 := rfl
theorem w_codes : ∀ c ∈ words1.filter isCode, c.before args0 about1 = true := by
  rw [codes_eq]
  intro c hc
  simp only [codes1, List.mem_cons, List.not_mem_nil, or_false] at hc
  rcases hc with rfl | rfl | rfl | rfl | rfl | rfl | rfl | rfl | rfl | rfl | rfl | rfl | rfl | rfl | rfl | rfl | rfl | rfl | rfl | rfl | rfl
  · exact w_c0
  · exact w_c1
  · exact w_c2
  · exact w_c3
  · exact w_c4
  · exact w_c5
  · exact w_c6
  · exact w_c7
  · exact w_c8
  · exact w_c9
  · exact w_c10
  · exact w_c11
  · exact w_c12
  · exact w_c13
  · exact w_c14
  · exact w_c15
  · exact w_c16
  · exact w_c17
  · exact w_c18
  · exact w_c19
  · exact w_c20
set_option maxRecDepth 65536 in
theorem w_t1 : (words1.take 24).all (fun c => isCode c || c.before args0 about1) = true := by decide +kernel
set_option maxRecDepth 65536 in
theorem w_t2 : ((words1.drop 24).take 24).all (fun c => isCode c || c.before args0 about1) = true := by decide +kernel
set_option maxRecDepth 65536 in
theorem w_t3 : (((words1.drop 24).drop 24).take 24).all (fun c => isCode c || c.before args0 about1) = true := by decide +kernel
set_option maxRecDepth 65536 in
theorem w_t4 : ((((words1.drop 24).drop 24).drop 24).take 24).all (fun c => isCode c || c.before args0 about1) = true := by decide +kernel
set_option maxRecDepth 65536 in
theorem w_t5 : ((((words1.drop 24).drop 24).drop 24).drop 24).all (fun c => isCode c || c.before args0 about1) = true := by decide +kernel
theorem w_tables : (allAtoms (Jvm.Cond.code x code maxLocals ret :: tables_1)).before args0 about1 = true := by
  rw [allAtoms_all]
  show words1.all (fun c => c.before args0 about1) = true
  refine all_split ?_ w_codes
  rw [← List.take_append_drop 24 words1, List.all_append, w_t1, ← List.take_append_drop 24 (words1.drop 24), List.all_append, w_t2, ← List.take_append_drop 24 ((words1.drop 24).drop 24), List.all_append, w_t3, ← List.take_append_drop 24 (((words1.drop 24).drop 24).drop 24), List.all_append, w_t4, w_t5]
  rfl
set_option maxRecDepth 65536 in
theorem w_rest : rest_1_c.before args0 about1 = true := by decide +kernel
set_option maxRecDepth 65536 in
theorem w_case : (Jvm.Cond.and given_1 narrow_1).before args0 about1 = true := by decide +kernel
set_option maxRecDepth 65536 in
theorem w_consts : constsHeld consts_1 about1 := Jvm.Lit.constsHeldB_iff.mp (by decide +kernel)
theorem w_applies : (headSpec (Jvm.Cond.code x code maxLocals ret :: tables_1) room_1).applies x e0.platform about1 = true :=
  (Spec.applies_iff w_frames).mpr ⟨w_running, w_runnable, w_alone, w_named, w_hears, w_ripe, w_room, w_tables⟩
theorem atStart : AtStart classFile x code maxLocals ret World_1 tables_1 room_1 Calls_1 rest_1 Pre_1 launch0 p0 e0 about1 theMethod args0 below0 :=
  ⟨lists_1, trivial, launch0.admits_env _ _ _, launch0.least_env, fairChoices_fair.cas, fairChoices_fair.clock, w_frames, w_args, w_heap, w_applies, ⟨w_consts, trivial⟩, w_rest, w_case⟩
end start1
theorem witness_1 : WitnessClaimed_1 := ⟨start1.p0, start1.e0, start1.about1, start1.theMethod, start1.args0, start1.below0, start1.atStart⟩
end Jvm.Pilot.@@N@@
